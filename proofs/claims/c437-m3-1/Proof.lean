import JvmDerived
import JvmDerived.Pilot.@@N@@Statement
import JvmDerived.Pilot.@@N@@Code
set_option linter.unusedVariables false
set_option linter.unusedSimpArgs false
namespace Jvm.RoadKit
open Sem ClassFile Op Lib Jvm.Stand Jvm.Free Jvm.LawKit
section New
variable {p : Program} {l : Launch} {e : Env} {R : Room} {s : State} {m : MethodId} {args : Array Value} {below : List Frame} {meth : Method} {c : Code} {T : State} {locs : List Loc} {cells slots : Nat}
theorem retI (X : Stand p l e R s m args below meth c T locs cells slots) (hx : p.tables.exec = Jvm.exec) {pc : Nat} {Ls : Array Slot} {z : Int32} {rest : List Value} (hret : meth.sig.returnType = some .int) (hd : decode c.code pc = .ok (.ireturn, 1)) {fs : List Frame}
    (hl : ∀ (f : JFrame) (acts : List Action), f.method = m → f.locked = none → f.entered = [] → (doReturn e (T.setTop f) acts (some (.int z))).1 = T.setFrames fs) : Steps p.tables e below (T.setTop (mkF m pc Ls (.int z :: rest))) (T.setFrames fs) := by
  have hm' : T.vm.method? m = some meth := X.method'
  have hn : narrow .int (.int z) = .int z := rfl
  show Steps p.tables e below (T.setTop { method := m, pc := pc, locals := Ls, stack := _ :: rest, locked := none }) _
  jvm_step X.here [X.here.top, hx, hd, hm', hret, hn]
  first | (intro acts; rw [hl _ acts rfl rfl rfl]) | rw [hl _ _ rfl rfl rfl]
  exact Steps.refl _
end New
end Jvm.RoadKit
namespace Jvm.Pilot.@@N@@
open Jvm Jvm.ClassFile Sem Op Lib Jvm.Free Jvm.Stand Jvm.LawKit Jvm.RoadKit Bundle Jvm.Pilot.@@N@@.Jvm.D
def AV (Z : State) (h : Heap) (a : Addr) (ty : FieldType) (n : Nat) (f : Nat → Value) : Prop := ∃ c : Cell, Arr Z h a c ty ∧ c.slots.size = n ∧ ∀ j, j < n → c.slots[j]? = some (f j) ∧ fits ty (f j) = true
def own_upd (f : Nat → Value) (k : Nat) (v : Value) : Nat → Value := fun j => if j = k then v else f j
section AVs
variable {Z : State} {h h' : Heap} {a b : Addr} {ty : FieldType} {n : Nat} {f : Nat → Value} {v : Value} {sl : Nat}
theorem AV.lt (A : AV Z h a ty n f) : a < h.size := by obtain ⟨c, A, -⟩ := A; exact A.lt
theorem AV.ext (A : AV Z h a ty n f) (E : Ext h h') : AV Z h' a ty n f := by obtain ⟨c, A, r⟩ := A; exact ⟨c, A.ext E, r⟩
theorem AV.other (A : AV Z h b ty n f) (W : Wr h h' a sl v) (q : b ≠ a) : AV Z h' b ty n f := by obtain ⟨c, A, r⟩ := A; exact ⟨c, A.other W q, r⟩
theorem AV.keep {ws : List Addr} (A : AV Z h a ty n f) (K : Keep h h' ws) (q : a ∉ ws) : AV Z h' a ty n f := by obtain ⟨c, A, r⟩ := A; exact ⟨c, ⟨K.2.1 a c A.1 q, A.2⟩, r⟩
theorem AV.new {k : ClassId} {z : Int32} (A : Arr Z h a (newA k ty z) ty) (hz : z.toNatClampNeg = n) (hf : fits ty (defaultValue ty) = true) : AV Z h a ty n (fun _ => defaultValue ty) := ⟨_, A, by rw [sz_new]; exact hz, fun j hj => ⟨by simp [newA, hz, hj], hf⟩⟩
theorem AV.set (A : AV Z h a ty n f) (W : Wr h h' a sl v) (hv : fits ty v = true) : AV Z h' a ty n (own_upd f sl v) := by
  obtain ⟨c, A, S, H⟩ := A
  refine ⟨_, A.same W, by rw [sz_set]; exact S, fun j hj => ?_⟩
  by_cases e : j = sl
  · subst e
    exact ⟨by simp [Cell.setSlot, own_upd, S, hj], by simp [own_upd, hv]⟩
  · have e2 : (c.setSlot sl v).slots[j]? = c.slots[j]? := Array.getElem?_setIfInBounds_ne (Ne.symm e)
    exact ⟨by rw [e2, own_upd, if_neg e]; exact (H j hj).1, by rw [own_upd, if_neg e]; exact (H j hj).2⟩
theorem AV.at (A : AV Z h a ty n f) {j : Int32} {k : Nat} (h0 : ¬ j < 0) (hj : j.toNatClampNeg = k) (hk : k < n) : ∃ c : Cell, Arr Z h a c ty ∧ ¬ (j < 0 ∨ c.slots.size ≤ j.toNatClampNeg) ∧ c.slots[j.toNatClampNeg]? = some (f k) := by
  obtain ⟨c, A, S, H⟩ := A
  exact ⟨c, A, fun q => q.elim h0 (fun r => by omega), by rw [hj]; exact (H k hk).1⟩
theorem AV.len (A : AV Z h a ty n f) : ∃ c : Cell, Arr Z h a c ty ∧ c.slots.size.toInt32 = n.toInt32 := by
  obtain ⟨c, A, S, H⟩ := A
  exact ⟨c, A, by rw [S]⟩
theorem AV.congr (A : AV Z h a ty n f) {g : Nat → Value} (e : ∀ j, j < n → f j = g j) : AV Z h a ty n g := by
  obtain ⟨c, A, S, H⟩ := A
  exact ⟨c, A, S, fun j hj => by rw [← e j hj]; exact H j hj⟩
theorem AV.fit (A : AV Z h a ty n f) {j : Nat} (hj : j < n) : fits ty (f j) = true := by
  obtain ⟨c, A, S, H⟩ := A
  exact (H j hj).2
end AVs
theorem own_notin1 {a b : Addr} (h : a ≠ b) : a ∉ [b] := fun q => h (List.mem_singleton.mp q)
theorem own_notin2 {a b c : Addr} (h : a ≠ b) (h2 : a ≠ c) : a ∉ [b, c] := fun q => by
  rcases List.mem_cons.mp q with r | r
  · exact h r
  · exact own_notin1 h2 r
theorem own_notin0 {a : Addr} : a ∉ ([] : List Addr) := nofun
theorem own_trans0 {ws : List Addr} {n : Nat} : ∀ x ∈ ([] : List Addr), x ∈ ws ∨ n ≤ x := nofun
theorem own_trans1 {ws : List Addr} {n : Nat} {a : Addr} (h : a ∈ ws ∨ n ≤ a) : ∀ x ∈ [a], x ∈ ws ∨ n ≤ x := fun x q => by cases List.mem_singleton.mp q; exact h
theorem own_trans2 {ws : List Addr} {n : Nat} {a b : Addr} (h : a ∈ ws ∨ n ≤ a) (h2 : b ∈ ws ∨ n ≤ b) : ∀ x ∈ [a, b], x ∈ ws ∨ n ≤ x := fun x q => by
  rcases List.mem_cons.mp q with r | r
  · cases r; exact h
  · cases List.mem_singleton.mp r; exact h2
def own_set {α : Type} (f : Nat → α) (k : Nat) (v : α) : Nat → α := fun j => if j = k then v else f j
section AVt
variable {Z : State} {h h' : Heap} {a : Addr} {n sl : Nat}
theorem AV.setI {g : Nat → Int32} {v : Int32} (A : AV Z h a .int n (fun j => .int (g j))) (W : Wr h h' a sl (.int v)) : AV Z h' a .int n (fun j => .int (own_set g sl v j)) := (A.set W rfl).congr (fun j _ => by simp only [own_upd, own_set]; split <;> rfl)
theorem AV.setJ {g : Nat → Int64} {v : Int64} (A : AV Z h a .long n (fun j => .long (g j))) (W : Wr h h' a sl (.long v)) : AV Z h' a .long n (fun j => .long (own_set g sl v j)) := (A.set W rfl).congr (fun j _ => by simp only [own_upd, own_set]; split <;> rfl)
end AVt
theorem own_notin3 {a b c d : Addr} (h : a ≠ b) (h2 : a ≠ c) (h3 : a ≠ d) : a ∉ [b, c, d] := fun q => by
  rcases List.mem_cons.mp q with r | r
  · exact h r
  · exact own_notin2 h2 h3 r
theorem own_trans3 {ws : List Addr} {n : Nat} {a b c : Addr} (h : a ∈ ws ∨ n ≤ a) (h2 : b ∈ ws ∨ n ≤ b) (h3 : c ∈ ws ∨ n ≤ c) : ∀ x ∈ [a, b, c], x ∈ ws ∨ n ≤ x := fun x q => by
  rcases List.mem_cons.mp q with r | r
  · cases r; exact h
  · exact own_trans2 h2 h3 x r
theorem own_ge0 {n : Nat} : ∀ x ∈ ([] : List Addr), n ≤ x := nofun
theorem own_ge1 {n : Nat} {a : Addr} (h : n ≤ a) : ∀ x ∈ [a], n ≤ x := fun x q => by cases List.mem_singleton.mp q; exact h
theorem own_ge2 {n : Nat} {a b : Addr} (h : n ≤ a) (h2 : n ≤ b) : ∀ x ∈ [a, b], n ≤ x := fun x q => by
  rcases List.mem_cons.mp q with r | r
  · cases r; exact h
  · cases List.mem_singleton.mp r; exact h2
def own_ush (x : Int64) (k : Int32) : Int64 := (x.toUInt64 >>> (k &&& 0x3f).toInt64.toUInt64).toInt64
def own_mix (z : Int64) : Int64 :=
  (((((z ^^^ own_ush z (30 : Int32)) * (-4658895280553007687 : Int64)) ^^^ own_ush ((z ^^^ own_ush z (30 : Int32)) * (-4658895280553007687 : Int64)) (27 : Int32)) * (-7723592293110705685 : Int64)) ^^^ own_ush ((((z ^^^ own_ush z (30 : Int32)) * (-4658895280553007687 : Int64)) ^^^ own_ush ((z ^^^ own_ush z (30 : Int32)) * (-4658895280553007687 : Int64)) (27 : Int32)) * (-7723592293110705685 : Int64)) (31 : Int32))
def own_fb (h : Int64) (b : Int32) : Int64 := (h ^^^ ((b &&& (255 : Int32)).toInt64)) * (1099511628211 : Int64)
def own_u6 (c : Int32) : Int32 := (192 : Int32) ||| ((c.toUInt32 >>> ((6 : Int32) &&& 31).toUInt32).toInt32)
def own_l6 (c : Int32) : Int32 := (128 : Int32) ||| (c &&& (63 : Int32))
def own_fc (h : Int64) (c : Int32) : Int64 := if c < (128 : Int32) then own_fb h c else own_fb (own_fb h (own_u6 c)) (own_l6 c)
def own_bv (c : Int32) : Int32 := c.toInt8.toInt32
def own_d0 (b : Int32) : Int32 := nar .byte (((192 : Int32) ||| ((b &&& (255 : Int32)) >>> ((6 : Int32) &&& 31))).toInt8.toInt32)
def own_d1 (b : Int32) : Int32 := nar .byte (((128 : Int32) ||| (b &&& (63 : Int32))).toInt8.toInt32)
theorem own_nar (x : Int32) : nar .byte (x.toInt8.toInt32) = x.toInt8.toInt32 := by
  have := Jvm.Free.XT.narrow_b x
  simp only [nar]
  simpa using this
theorem own_256 : ∀ k : Fin 256, (own_bv (Int32.ofNat k.1) < (0 : Int32) ↔ ¬ (Int32.ofNat k.1) < (128 : Int32)) ∧ (own_bv (Int32.ofNat k.1)) &&& (255 : Int32) = (Int32.ofNat k.1) &&& (255 : Int32) ∧ (own_d0 (own_bv (Int32.ofNat k.1))) &&& (255 : Int32) = (own_u6 (Int32.ofNat k.1)) &&& (255 : Int32) ∧ (own_d1 (own_bv (Int32.ofNat k.1))) &&& (255 : Int32) = (own_l6 (Int32.ofNat k.1)) &&& (255 : Int32) := by decide +kernel
theorem own_chr (c : Int32) (h0 : ¬ c < 0) (h : ¬ (255 : Int32) < c) : (own_bv c < (0 : Int32) ↔ ¬ c < (128 : Int32)) ∧ (own_bv c) &&& (255 : Int32) = c &&& (255 : Int32) ∧ (own_d0 (own_bv c)) &&& (255 : Int32) = (own_u6 c) &&& (255 : Int32) ∧ (own_d1 (own_bv c)) &&& (255 : Int32) = (own_l6 c) &&& (255 : Int32) := by
  rw [Int32.lt_iff_toInt_lt] at h h0
  have z : (0 : Int32).toInt = 0 := rfl
  have f : (255 : Int32).toInt = 255 := rfl
  have e : Int32.ofNat c.toInt.toNat = c := by rw [← Int32.toInt_inj, Int32.toInt_ofNat_of_lt (by omega)]; omega
  have := own_256 ⟨c.toInt.toNat, by omega⟩
  simp only [e] at this
  exact this
theorem own_fb_c (h : Int64) (x y : Int32) (e : x &&& (255 : Int32) = y &&& (255 : Int32)) : own_fb h x = own_fb h y := by rw [own_fb, own_fb, e]
def own_v2 (a b : Int32) : Nat → Int32 := fun j => if j = 0 then a else b
theorem own_two2 (a b : Int32) (g : Nat → Value) : ∀ j, j < 2 → own_upd (own_upd g 0 (.int a)) 1 (.int b) j = (fun j => Value.int (own_v2 a b j)) j := by
  intro j hj
  have c : j = 0 ∨ j = 1 := by omega
  rcases c with rfl | rfl <;> rfl
def own_key (s : Int64) (a b : Int32) : Int64 := own_mix (own_mix s ^^^ own_fc (own_fb (own_fc (-3750763034362895579 : Int64) a) (0 : Int32)) b)
theorem own_eqz (x : Int32) (h : x = 0) : x - x = 0 := by rw [h]; rfl
theorem own_fe {args : Array Value} {first s : State} {o : Option Outcome} {idx : List Nat} {t : Term} {k : Int32} (h : (Jvm.Cond.eq t (Term.int k)).value args first o s idx = some true) : t.eval args first o idx s = some (.int k) := by
  obtain ⟨x, y, e1, e2, k1, k2⟩ := cmp_v (Or.inl h)
  have e3 : y = .int k := (Option.some.inj ((Term.int_eval k).symm.trans e2)).symm
  subst e3
  obtain ⟨z, rfl⟩ := k2
  simp [Jvm.Cond.value, e1, Term.int_eval] at h
  rw [e1, h]
theorem own_wlen {args : Array Value} {s : State} {t : Term} {a : Addr} {c : Cell} (ev : t.eval args s none [] s = some (.ref a)) (A : Arr s s.heap a c .byte) (h : (Term.length t).eval args s none [] s = some (.int 6)) : c.slots.size = 6 := by
  have q := A.fin (Vm.Alike.refl _)
  by_cases hs : c.slots.size < 2 ^ 31
  · rw [len_f ev q hs] at h
    have e : c.slots.size.toInt32 = 6 := by simpa using h
    have l := len_toInt hs
    rw [e] at l
    have : (6 : Int32).toInt = 6 := rfl
    omega
  · simp [Term.eval, ev, q, hs] at h
theorem own_word {s : State} (hf : Fit s) {a : Addr} {c : Cell} (A : Arr s s.heap a c .byte) (hz : c.slots.size = 6) : ∃ g : Nat → Int32, AV s s.heap a .byte 6 (fun j => .int (g j)) := by
  refine ⟨fun j => atv c (Int32.ofNat j), c, A, hz, fun j hj => ?_⟩
  have e : (Int32.ofNat j).toInt = j := Int32.toInt_ofNat_of_lt (by omega)
  have n : (Int32.ofNat j).toNatClampNeg = j := by simp only [Int32.toNatClampNeg]; omega
  have z : (0 : Int32).toInt = 0 := rfl
  have hj' : ¬ ((Int32.ofNat j) < 0 ∨ c.slots.size ≤ (Int32.ofNat j).toNatClampNeg) := by rw [Int32.lt_iff_toInt_lt, e, n]; omega
  obtain ⟨v, h1, h2⟩ := elem_fit hf A hj'
  obtain ⟨x, rfl⟩ := fit_I h2 (Or.inr (Or.inr (Or.inl rfl)))
  have t : atv c (Int32.ofNat j) = x := atv_of h1
  rw [n] at h1
  show c.slots[j]? = some (.int (atv c (Int32.ofNat j))) ∧ fits .byte (.int (atv c (Int32.ofNat j))) = true
  rw [t]
  exact ⟨h1, h2⟩
/-- the hash of a one-letter name's bytes is the law's -/
theorem own_fc1 (h : Int64) (c : Int32) (h0 : ¬ c < 0) (h2 : ¬ (255 : Int32) < c) (hb : ¬ own_bv c < (0 : Int32)) : own_fb h (own_bv c) = own_fc h c := by
  obtain ⟨a, b, -, -⟩ := own_chr c h0 h2
  have l : c < (128 : Int32) := Decidable.byContradiction fun q => hb (a.mpr q)
  rw [own_fc, if_pos l]
  exact own_fb_c h _ _ b
theorem own_fc2 (h : Int64) (c : Int32) (h0 : ¬ c < 0) (h2 : ¬ (255 : Int32) < c) (hb : own_bv c < (0 : Int32)) : own_fb (own_fb h (own_d0 (own_bv c))) (own_d1 (own_bv c)) = own_fc h c := by
  obtain ⟨a, -, d, e⟩ := own_chr c h0 h2
  rw [own_fc, if_neg (a.mp hb), own_fb_c h _ _ d, own_fb_c _ _ _ e]
theorem own_cmask (p : Int32) : ¬ ((p &&& (255 : Int32)).toUInt32.toUInt16.toUInt32.toInt32) < 0 ∧ ¬ (255 : Int32) < ((p &&& (255 : Int32)).toUInt32.toUInt16.toUInt32.toInt32) := by
  rw [i2c_mask]
  have := c_and p (255 : Int32) (by decide)
  have z : (0 : Int32).toInt = 0 := rfl
  have f : (255 : Int32).toInt = 255 := rfl
  rw [Int32.lt_iff_toInt_lt, Int32.lt_iff_toInt_lt]
  omega
theorem pn_0 : plainName "com/example/loadloom/loadloom/Draws" = true := by first | (simp [plainName, overriddenIn]; done) | decide +kernel
theorem d15_0 : decode prog_8_method_18_code 0 = .ok (.lload_n 0, 1) := by decide +kernel
theorem d15_1 : decode prog_8_method_18_code 1 = .ok (.lload_n 0, 1) := by decide +kernel
theorem d15_2 : decode prog_8_method_18_code 2 = .ok (.bipush 30, 2) := by decide +kernel
theorem d15_4 : decode prog_8_method_18_code 4 = .ok (.lushr, 1) := by decide +kernel
theorem d15_5 : decode prog_8_method_18_code 5 = .ok (.lxor, 1) := by decide +kernel
theorem d15_6 : decode prog_8_method_18_code 6 = .ok (.ldc2_w 143, 3) := by decide +kernel
theorem d15_9 : decode prog_8_method_18_code 9 = .ok (.lmul, 1) := by decide +kernel
theorem d15_10 : decode prog_8_method_18_code 10 = .ok (.lstore_n 0, 1) := by decide +kernel
theorem d15_11 : decode prog_8_method_18_code 11 = .ok (.lload_n 0, 1) := by decide +kernel
theorem d15_12 : decode prog_8_method_18_code 12 = .ok (.lload_n 0, 1) := by decide +kernel
theorem d15_13 : decode prog_8_method_18_code 13 = .ok (.bipush 27, 2) := by decide +kernel
theorem d15_15 : decode prog_8_method_18_code 15 = .ok (.lushr, 1) := by decide +kernel
theorem d15_16 : decode prog_8_method_18_code 16 = .ok (.lxor, 1) := by decide +kernel
theorem d15_17 : decode prog_8_method_18_code 17 = .ok (.ldc2_w 145, 3) := by decide +kernel
theorem d15_20 : decode prog_8_method_18_code 20 = .ok (.lmul, 1) := by decide +kernel
theorem d15_21 : decode prog_8_method_18_code 21 = .ok (.lstore_n 0, 1) := by decide +kernel
theorem d15_22 : decode prog_8_method_18_code 22 = .ok (.lload_n 0, 1) := by decide +kernel
theorem d15_23 : decode prog_8_method_18_code 23 = .ok (.lload_n 0, 1) := by decide +kernel
theorem d15_24 : decode prog_8_method_18_code 24 = .ok (.bipush 31, 2) := by decide +kernel
theorem d15_26 : decode prog_8_method_18_code 26 = .ok (.lushr, 1) := by decide +kernel
theorem d15_27 : decode prog_8_method_18_code 27 = .ok (.lxor, 1) := by decide +kernel
theorem d15_28 : decode prog_8_method_18_code 28 = .ok (.lreturn, 1) := by decide +kernel
theorem ef_rm_mix (m : MethodId) (q1 : Int64) : entryFrame m #[(.long q1)] 2 = mkF m 0 #[.val (.long q1), .second] [] := by first | (simp [entryFrame, mkF, argsToLocals, Value.category]; done) | rfl
def Q_rm_mix (Z : State) (q1 : Int64) (h0 : Heap) (n0 : Nat) (v : Option Value) (h : Heap) (L : List Loc) : Prop := v = some (.long (own_mix q1)) ∧ Fr n0 L ∧ h = h0
set_option maxRecDepth 65536 in
set_option maxHeartbeats 40000000 in
theorem rm_mix (l : Launch) (Z : State) (a0 : Array Value) (hw : ∀ d ∈ tables_1, d.before a0 Z = true) (ws : List Jvm.Cond) (q1 : Int64) (h0 : Heap) (n0 : Nat) (Z0 : n0 ≤ h0.size) :
    MetFree l (⟨"com/example/loadloom/loadloom/Draws", "mix", "(J)J"⟩ : MethodName) (head1 (Jvm.Cond.code (⟨"com/example/loadloom/loadloom/Draws", "mix", "(J)J"⟩ : MethodName) prog_8_method_18_code 2 (some .long) :: ws) ({ frames := 0, cells := 0, slots := 0, locals := 0 } : Room)) (fun a U => a = #[(.long q1)] ∧ Z.Warmed39 U.vm ∧ U.heap = h0) (fun _ _ _ _ _ => True) (fun _ U oC U' => ∃ v L, oC = .returned v ∧ Q_rm_mix Z q1 h0 n0 v U'.heap L ∧ FrameEnd U oC U' L ({ frames := 0, cells := 0, slots := 0, locals := 0 } : Room).cells ({ frames := 0, cells := 0, slots := 0, locals := 0 } : Room).slots) := by
  refine MetFree.of_bodySF (plainFor_of_name pn_0) hisR ?_
  intro p e s m args below meth c s₁ Bd hml0 hP hK
  obtain ⟨rfl, hZ, hh⟩ := hP
  have hx := Bd.exec
  have hby := Bd.bytes
  have hml : c.maxLocals = 2 := hml0
  have hown : s.vm.findClass "com/example/loadloom/loadloom/Draws" = some m.cls := findClass_of_methodNamed Bd.named
  have hnm := (name_of_methodNamed Bd.named Bd.method).1
  have X0 : Stand p l e ({ frames := 0, cells := 0, slots := 0, locals := 0 } : Room) s m #[(.long q1)] below meth c s₁ [] 0 0 := Stand.of_body Bd
  have e0 : s₁.heap = h0 := by rw [← hh, Bd.state]; rfl
  have N0 := Fr.nil n0
  have pre0 : ∀ tg, Steps p.tables e below (s₁.setTop (mkF m 0 #[.val (.long q1), .second] [])) tg → Steps p.tables e below (s₁.setTop (entryFrame m #[(.long q1)] 2)) tg := fun t k => castTop (ef_rm_mix m q1) k
  have pre00 : ∀ tg, Steps p.tables e below (s₁.setTop (mkF m 0 #[.val (.long q1), .second] [])) tg → Steps p.tables e below (s₁.setTop (mkF m 0 #[.val (.long q1), .second] [])) tg := fun _ k => k
  have R1 : ∀ tg, Steps p.tables e below (s₁.setTop (mkF m 28 #[.val (.long ((((q1 ^^^ ((q1.toUInt64 >>> ((30 : Int32) &&& 0x3f).toInt64.toUInt64).toInt64)) * (-4658895280553007687 : Int64)) ^^^ ((((q1 ^^^ ((q1.toUInt64 >>> ((30 : Int32) &&& 0x3f).toInt64.toUInt64).toInt64)) * (-4658895280553007687 : Int64)).toUInt64 >>> ((27 : Int32) &&& 0x3f).toInt64.toUInt64).toInt64)) * (-7723592293110705685 : Int64))), .second] [(.long (((((q1 ^^^ ((q1.toUInt64 >>> ((30 : Int32) &&& 0x3f).toInt64.toUInt64).toInt64)) * (-4658895280553007687 : Int64)) ^^^ ((((q1 ^^^ ((q1.toUInt64 >>> ((30 : Int32) &&& 0x3f).toInt64.toUInt64).toInt64)) * (-4658895280553007687 : Int64)).toUInt64 >>> ((27 : Int32) &&& 0x3f).toInt64.toUInt64).toInt64)) * (-7723592293110705685 : Int64)) ^^^ ((((((q1 ^^^ ((q1.toUInt64 >>> ((30 : Int32) &&& 0x3f).toInt64.toUInt64).toInt64)) * (-4658895280553007687 : Int64)) ^^^ ((((q1 ^^^ ((q1.toUInt64 >>> ((30 : Int32) &&& 0x3f).toInt64.toUInt64).toInt64)) * (-4658895280553007687 : Int64)).toUInt64 >>> ((27 : Int32) &&& 0x3f).toInt64.toUInt64).toInt64)) * (-7723592293110705685 : Int64)).toUInt64 >>> ((31 : Int32) &&& 0x3f).toInt64.toUInt64).toInt64)))])) tg → Steps p.tables e below (s₁.setTop (mkF m 0 #[.val (.long q1), .second] [])) tg := by
    intro tg kt
    refine pre00 _ ?_
    show Steps p.tables e below (s₁.setTop (mkF m 0 #[.val (.long q1), .second] [])) _
    refine XS.lloadN X0.here hx rfl (hb hby d15_0) rfl ?_
    refine XS.lloadN X0.here hx rfl (hb hby d15_1) rfl ?_
    refine XS.bipush X0.here hx rfl (hb hby d15_2) ?_
    show Steps p.tables e below (s₁.setTop (mkF m 4 #[.val (.long q1), .second] [(.int (30 : Int32)), (.long q1), (.long q1)])) _
    refine XS.lushr X0.here hx rfl (hb hby d15_4) rfl ?_
    show Steps p.tables e below (s₁.setTop (mkF m 5 #[.val (.long q1), .second] [(.long ((q1.toUInt64 >>> ((30 : Int32) &&& 0x3f).toInt64.toUInt64).toInt64)), (.long q1)])) _
    refine XS.lxor X0.here hx rfl (hb hby d15_5) rfl ?_
    show Steps p.tables e below (s₁.setTop (mkF m 6 #[.val (.long q1), .second] [(.long (q1 ^^^ ((q1.toUInt64 >>> ((30 : Int32) &&& 0x3f).toInt64.toUInt64).toInt64)))])) _
    refine X0.ldc2Long hx hown (mvT hZ (hw _ (List.mem_of_getElem? (i := 79) rfl))) (g := (mkF m 6 #[.val (.long q1), .second] [(.long (q1 ^^^ ((q1.toUInt64 >>> ((30 : Int32) &&& 0x3f).toInt64.toUInt64).toInt64)))])) rfl (hb hby d15_6) _ ?_
    show Steps p.tables e below (s₁.setTop (mkF m 9 #[.val (.long q1), .second] [(.long (-4658895280553007687 : Int64)), (.long (q1 ^^^ ((q1.toUInt64 >>> ((30 : Int32) &&& 0x3f).toInt64.toUInt64).toInt64)))])) _
    refine XS.lmul X0.here hx rfl (hb hby d15_9) rfl ?_
    show Steps p.tables e below (s₁.setTop (mkF m 10 #[.val (.long q1), .second] [(.long ((q1 ^^^ ((q1.toUInt64 >>> ((30 : Int32) &&& 0x3f).toInt64.toUInt64).toInt64)) * (-4658895280553007687 : Int64)))])) _
    refine XS.lstoreN X0.here hx rfl (hb hby d15_10) rfl (l' := #[.val (.long ((q1 ^^^ ((q1.toUInt64 >>> ((30 : Int32) &&& 0x3f).toInt64.toUInt64).toInt64)) * (-4658895280553007687 : Int64))), .second]) rfl ?_
    refine XS.lloadN X0.here hx rfl (hb hby d15_11) rfl ?_
    refine XS.lloadN X0.here hx rfl (hb hby d15_12) rfl ?_
    show Steps p.tables e below (s₁.setTop (mkF m 13 #[.val (.long ((q1 ^^^ ((q1.toUInt64 >>> ((30 : Int32) &&& 0x3f).toInt64.toUInt64).toInt64)) * (-4658895280553007687 : Int64))), .second] [(.long ((q1 ^^^ ((q1.toUInt64 >>> ((30 : Int32) &&& 0x3f).toInt64.toUInt64).toInt64)) * (-4658895280553007687 : Int64))), (.long ((q1 ^^^ ((q1.toUInt64 >>> ((30 : Int32) &&& 0x3f).toInt64.toUInt64).toInt64)) * (-4658895280553007687 : Int64)))])) _
    refine XS.bipush X0.here hx rfl (hb hby d15_13) ?_
    show Steps p.tables e below (s₁.setTop (mkF m 15 #[.val (.long ((q1 ^^^ ((q1.toUInt64 >>> ((30 : Int32) &&& 0x3f).toInt64.toUInt64).toInt64)) * (-4658895280553007687 : Int64))), .second] [(.int (27 : Int32)), (.long ((q1 ^^^ ((q1.toUInt64 >>> ((30 : Int32) &&& 0x3f).toInt64.toUInt64).toInt64)) * (-4658895280553007687 : Int64))), (.long ((q1 ^^^ ((q1.toUInt64 >>> ((30 : Int32) &&& 0x3f).toInt64.toUInt64).toInt64)) * (-4658895280553007687 : Int64)))])) _
    refine XS.lushr X0.here hx rfl (hb hby d15_15) rfl ?_
    show Steps p.tables e below (s₁.setTop (mkF m 16 #[.val (.long ((q1 ^^^ ((q1.toUInt64 >>> ((30 : Int32) &&& 0x3f).toInt64.toUInt64).toInt64)) * (-4658895280553007687 : Int64))), .second] [(.long ((((q1 ^^^ ((q1.toUInt64 >>> ((30 : Int32) &&& 0x3f).toInt64.toUInt64).toInt64)) * (-4658895280553007687 : Int64)).toUInt64 >>> ((27 : Int32) &&& 0x3f).toInt64.toUInt64).toInt64)), (.long ((q1 ^^^ ((q1.toUInt64 >>> ((30 : Int32) &&& 0x3f).toInt64.toUInt64).toInt64)) * (-4658895280553007687 : Int64)))])) _
    refine XS.lxor X0.here hx rfl (hb hby d15_16) rfl ?_
    show Steps p.tables e below (s₁.setTop (mkF m 17 #[.val (.long ((q1 ^^^ ((q1.toUInt64 >>> ((30 : Int32) &&& 0x3f).toInt64.toUInt64).toInt64)) * (-4658895280553007687 : Int64))), .second] [(.long (((q1 ^^^ ((q1.toUInt64 >>> ((30 : Int32) &&& 0x3f).toInt64.toUInt64).toInt64)) * (-4658895280553007687 : Int64)) ^^^ ((((q1 ^^^ ((q1.toUInt64 >>> ((30 : Int32) &&& 0x3f).toInt64.toUInt64).toInt64)) * (-4658895280553007687 : Int64)).toUInt64 >>> ((27 : Int32) &&& 0x3f).toInt64.toUInt64).toInt64)))])) _
    refine X0.ldc2Long hx hown (mvT hZ (hw _ (List.mem_of_getElem? (i := 80) rfl))) (g := (mkF m 17 #[.val (.long ((q1 ^^^ ((q1.toUInt64 >>> ((30 : Int32) &&& 0x3f).toInt64.toUInt64).toInt64)) * (-4658895280553007687 : Int64))), .second] [(.long (((q1 ^^^ ((q1.toUInt64 >>> ((30 : Int32) &&& 0x3f).toInt64.toUInt64).toInt64)) * (-4658895280553007687 : Int64)) ^^^ ((((q1 ^^^ ((q1.toUInt64 >>> ((30 : Int32) &&& 0x3f).toInt64.toUInt64).toInt64)) * (-4658895280553007687 : Int64)).toUInt64 >>> ((27 : Int32) &&& 0x3f).toInt64.toUInt64).toInt64)))])) rfl (hb hby d15_17) _ ?_
    show Steps p.tables e below (s₁.setTop (mkF m 20 #[.val (.long ((q1 ^^^ ((q1.toUInt64 >>> ((30 : Int32) &&& 0x3f).toInt64.toUInt64).toInt64)) * (-4658895280553007687 : Int64))), .second] [(.long (-7723592293110705685 : Int64)), (.long (((q1 ^^^ ((q1.toUInt64 >>> ((30 : Int32) &&& 0x3f).toInt64.toUInt64).toInt64)) * (-4658895280553007687 : Int64)) ^^^ ((((q1 ^^^ ((q1.toUInt64 >>> ((30 : Int32) &&& 0x3f).toInt64.toUInt64).toInt64)) * (-4658895280553007687 : Int64)).toUInt64 >>> ((27 : Int32) &&& 0x3f).toInt64.toUInt64).toInt64)))])) _
    refine XS.lmul X0.here hx rfl (hb hby d15_20) rfl ?_
    show Steps p.tables e below (s₁.setTop (mkF m 21 #[.val (.long ((q1 ^^^ ((q1.toUInt64 >>> ((30 : Int32) &&& 0x3f).toInt64.toUInt64).toInt64)) * (-4658895280553007687 : Int64))), .second] [(.long ((((q1 ^^^ ((q1.toUInt64 >>> ((30 : Int32) &&& 0x3f).toInt64.toUInt64).toInt64)) * (-4658895280553007687 : Int64)) ^^^ ((((q1 ^^^ ((q1.toUInt64 >>> ((30 : Int32) &&& 0x3f).toInt64.toUInt64).toInt64)) * (-4658895280553007687 : Int64)).toUInt64 >>> ((27 : Int32) &&& 0x3f).toInt64.toUInt64).toInt64)) * (-7723592293110705685 : Int64)))])) _
    refine XS.lstoreN X0.here hx rfl (hb hby d15_21) rfl (l' := #[.val (.long ((((q1 ^^^ ((q1.toUInt64 >>> ((30 : Int32) &&& 0x3f).toInt64.toUInt64).toInt64)) * (-4658895280553007687 : Int64)) ^^^ ((((q1 ^^^ ((q1.toUInt64 >>> ((30 : Int32) &&& 0x3f).toInt64.toUInt64).toInt64)) * (-4658895280553007687 : Int64)).toUInt64 >>> ((27 : Int32) &&& 0x3f).toInt64.toUInt64).toInt64)) * (-7723592293110705685 : Int64))), .second]) rfl ?_
    refine XS.lloadN X0.here hx rfl (hb hby d15_22) rfl ?_
    refine XS.lloadN X0.here hx rfl (hb hby d15_23) rfl ?_
    show Steps p.tables e below (s₁.setTop (mkF m 24 #[.val (.long ((((q1 ^^^ ((q1.toUInt64 >>> ((30 : Int32) &&& 0x3f).toInt64.toUInt64).toInt64)) * (-4658895280553007687 : Int64)) ^^^ ((((q1 ^^^ ((q1.toUInt64 >>> ((30 : Int32) &&& 0x3f).toInt64.toUInt64).toInt64)) * (-4658895280553007687 : Int64)).toUInt64 >>> ((27 : Int32) &&& 0x3f).toInt64.toUInt64).toInt64)) * (-7723592293110705685 : Int64))), .second] [(.long ((((q1 ^^^ ((q1.toUInt64 >>> ((30 : Int32) &&& 0x3f).toInt64.toUInt64).toInt64)) * (-4658895280553007687 : Int64)) ^^^ ((((q1 ^^^ ((q1.toUInt64 >>> ((30 : Int32) &&& 0x3f).toInt64.toUInt64).toInt64)) * (-4658895280553007687 : Int64)).toUInt64 >>> ((27 : Int32) &&& 0x3f).toInt64.toUInt64).toInt64)) * (-7723592293110705685 : Int64))), (.long ((((q1 ^^^ ((q1.toUInt64 >>> ((30 : Int32) &&& 0x3f).toInt64.toUInt64).toInt64)) * (-4658895280553007687 : Int64)) ^^^ ((((q1 ^^^ ((q1.toUInt64 >>> ((30 : Int32) &&& 0x3f).toInt64.toUInt64).toInt64)) * (-4658895280553007687 : Int64)).toUInt64 >>> ((27 : Int32) &&& 0x3f).toInt64.toUInt64).toInt64)) * (-7723592293110705685 : Int64)))])) _
    refine XS.bipush X0.here hx rfl (hb hby d15_24) ?_
    show Steps p.tables e below (s₁.setTop (mkF m 26 #[.val (.long ((((q1 ^^^ ((q1.toUInt64 >>> ((30 : Int32) &&& 0x3f).toInt64.toUInt64).toInt64)) * (-4658895280553007687 : Int64)) ^^^ ((((q1 ^^^ ((q1.toUInt64 >>> ((30 : Int32) &&& 0x3f).toInt64.toUInt64).toInt64)) * (-4658895280553007687 : Int64)).toUInt64 >>> ((27 : Int32) &&& 0x3f).toInt64.toUInt64).toInt64)) * (-7723592293110705685 : Int64))), .second] [(.int (31 : Int32)), (.long ((((q1 ^^^ ((q1.toUInt64 >>> ((30 : Int32) &&& 0x3f).toInt64.toUInt64).toInt64)) * (-4658895280553007687 : Int64)) ^^^ ((((q1 ^^^ ((q1.toUInt64 >>> ((30 : Int32) &&& 0x3f).toInt64.toUInt64).toInt64)) * (-4658895280553007687 : Int64)).toUInt64 >>> ((27 : Int32) &&& 0x3f).toInt64.toUInt64).toInt64)) * (-7723592293110705685 : Int64))), (.long ((((q1 ^^^ ((q1.toUInt64 >>> ((30 : Int32) &&& 0x3f).toInt64.toUInt64).toInt64)) * (-4658895280553007687 : Int64)) ^^^ ((((q1 ^^^ ((q1.toUInt64 >>> ((30 : Int32) &&& 0x3f).toInt64.toUInt64).toInt64)) * (-4658895280553007687 : Int64)).toUInt64 >>> ((27 : Int32) &&& 0x3f).toInt64.toUInt64).toInt64)) * (-7723592293110705685 : Int64)))])) _
    refine XS.lushr X0.here hx rfl (hb hby d15_26) rfl ?_
    show Steps p.tables e below (s₁.setTop (mkF m 27 #[.val (.long ((((q1 ^^^ ((q1.toUInt64 >>> ((30 : Int32) &&& 0x3f).toInt64.toUInt64).toInt64)) * (-4658895280553007687 : Int64)) ^^^ ((((q1 ^^^ ((q1.toUInt64 >>> ((30 : Int32) &&& 0x3f).toInt64.toUInt64).toInt64)) * (-4658895280553007687 : Int64)).toUInt64 >>> ((27 : Int32) &&& 0x3f).toInt64.toUInt64).toInt64)) * (-7723592293110705685 : Int64))), .second] [(.long ((((((q1 ^^^ ((q1.toUInt64 >>> ((30 : Int32) &&& 0x3f).toInt64.toUInt64).toInt64)) * (-4658895280553007687 : Int64)) ^^^ ((((q1 ^^^ ((q1.toUInt64 >>> ((30 : Int32) &&& 0x3f).toInt64.toUInt64).toInt64)) * (-4658895280553007687 : Int64)).toUInt64 >>> ((27 : Int32) &&& 0x3f).toInt64.toUInt64).toInt64)) * (-7723592293110705685 : Int64)).toUInt64 >>> ((31 : Int32) &&& 0x3f).toInt64.toUInt64).toInt64)), (.long ((((q1 ^^^ ((q1.toUInt64 >>> ((30 : Int32) &&& 0x3f).toInt64.toUInt64).toInt64)) * (-4658895280553007687 : Int64)) ^^^ ((((q1 ^^^ ((q1.toUInt64 >>> ((30 : Int32) &&& 0x3f).toInt64.toUInt64).toInt64)) * (-4658895280553007687 : Int64)).toUInt64 >>> ((27 : Int32) &&& 0x3f).toInt64.toUInt64).toInt64)) * (-7723592293110705685 : Int64)))])) _
    refine XS.lxor X0.here hx rfl (hb hby d15_27) rfl ?_
    exact kt
  obtain ⟨fs, hr, hrun, hended, hW, hsame⟩ := X0.leave (v := some (.long (((((q1 ^^^ ((q1.toUInt64 >>> ((30 : Int32) &&& 0x3f).toInt64.toUInt64).toInt64)) * (-4658895280553007687 : Int64)) ^^^ ((((q1 ^^^ ((q1.toUInt64 >>> ((30 : Int32) &&& 0x3f).toInt64.toUInt64).toInt64)) * (-4658895280553007687 : Int64)).toUInt64 >>> ((27 : Int32) &&& 0x3f).toInt64.toUInt64).toInt64)) * (-7723592293110705685 : Int64)) ^^^ ((((((q1 ^^^ ((q1.toUInt64 >>> ((30 : Int32) &&& 0x3f).toInt64.toUInt64).toInt64)) * (-4658895280553007687 : Int64)) ^^^ ((((q1 ^^^ ((q1.toUInt64 >>> ((30 : Int32) &&& 0x3f).toInt64.toUInt64).toInt64)) * (-4658895280553007687 : Int64)).toUInt64 >>> ((27 : Int32) &&& 0x3f).toInt64.toUInt64).toInt64)) * (-7723592293110705685 : Int64)).toUInt64 >>> ((31 : Int32) &&& 0x3f).toInt64.toUInt64).toInt64)))) (fun h => by rw [Bd.returns] at h; cases h)
  refine ⟨_, _, pre0 _ (R1 _ ?_), hrun, hended, _, _, rfl, ?_, ⟨_, rfl⟩, hW, hsame.mono (by decide) (by decide)⟩
  · exact X0.lreturnOut hx Bd.returns (hb hby d15_28) hr
  · show Q_rm_mix Z q1 h0 n0 _ s₁.heap _
    rw [e0]
    exact ⟨rfl, N0, rfl⟩
theorem pn_1 : plainName "com/example/loadloom/loadloom/DrawsNextPinLaw" = true := by first | (simp [plainName, overriddenIn]; done) | decide +kernel
theorem d20_0 : decode method_2_code 0 = .ok (.lload_n 0, 1) := by decide +kernel
theorem d20_1 : decode method_2_code 1 = .ok (.lload_n 0, 1) := by decide +kernel
theorem d20_2 : decode method_2_code 2 = .ok (.bipush 30, 2) := by decide +kernel
theorem d20_4 : decode method_2_code 4 = .ok (.lushr, 1) := by decide +kernel
theorem d20_5 : decode method_2_code 5 = .ok (.lxor, 1) := by decide +kernel
theorem d20_6 : decode method_2_code 6 = .ok (.ldc2_w 7, 3) := by decide +kernel
theorem d20_9 : decode method_2_code 9 = .ok (.lmul, 1) := by decide +kernel
theorem d20_10 : decode method_2_code 10 = .ok (.lstore_n 0, 1) := by decide +kernel
theorem d20_11 : decode method_2_code 11 = .ok (.lload_n 0, 1) := by decide +kernel
theorem d20_12 : decode method_2_code 12 = .ok (.lload_n 0, 1) := by decide +kernel
theorem d20_13 : decode method_2_code 13 = .ok (.bipush 27, 2) := by decide +kernel
theorem d20_15 : decode method_2_code 15 = .ok (.lushr, 1) := by decide +kernel
theorem d20_16 : decode method_2_code 16 = .ok (.lxor, 1) := by decide +kernel
theorem d20_17 : decode method_2_code 17 = .ok (.ldc2_w 9, 3) := by decide +kernel
theorem d20_20 : decode method_2_code 20 = .ok (.lmul, 1) := by decide +kernel
theorem d20_21 : decode method_2_code 21 = .ok (.lstore_n 0, 1) := by decide +kernel
theorem d20_22 : decode method_2_code 22 = .ok (.lload_n 0, 1) := by decide +kernel
theorem d20_23 : decode method_2_code 23 = .ok (.lload_n 0, 1) := by decide +kernel
theorem d20_24 : decode method_2_code 24 = .ok (.bipush 31, 2) := by decide +kernel
theorem d20_26 : decode method_2_code 26 = .ok (.lushr, 1) := by decide +kernel
theorem d20_27 : decode method_2_code 27 = .ok (.lxor, 1) := by decide +kernel
theorem d20_28 : decode method_2_code 28 = .ok (.lreturn, 1) := by decide +kernel
theorem ef_rm_mixL (m : MethodId) (q1 : Int64) : entryFrame m #[(.long q1)] 2 = mkF m 0 #[.val (.long q1), .second] [] := by first | (simp [entryFrame, mkF, argsToLocals, Value.category]; done) | rfl
def Q_rm_mixL (Z : State) (q1 : Int64) (h0 : Heap) (n0 : Nat) (v : Option Value) (h : Heap) (L : List Loc) : Prop := v = some (.long (own_mix q1)) ∧ Fr n0 L ∧ h = h0
set_option maxRecDepth 65536 in
set_option maxHeartbeats 40000000 in
theorem rm_mixL (l : Launch) (Z : State) (a0 : Array Value) (hw : ∀ d ∈ tables_1, d.before a0 Z = true) (ws : List Jvm.Cond) (q1 : Int64) (h0 : Heap) (n0 : Nat) (Z0 : n0 ≤ h0.size) :
    MetFree l (⟨"com/example/loadloom/loadloom/DrawsNextPinLaw", "mix", "(J)J"⟩ : MethodName) (head1 (Jvm.Cond.code (⟨"com/example/loadloom/loadloom/DrawsNextPinLaw", "mix", "(J)J"⟩ : MethodName) method_2_code 2 (some .long) :: ws) ({ frames := 0, cells := 0, slots := 0, locals := 0 } : Room)) (fun a U => a = #[(.long q1)] ∧ Z.Warmed39 U.vm ∧ U.heap = h0) (fun _ _ _ _ _ => True) (fun _ U oC U' => ∃ v L, oC = .returned v ∧ Q_rm_mixL Z q1 h0 n0 v U'.heap L ∧ FrameEnd U oC U' L ({ frames := 0, cells := 0, slots := 0, locals := 0 } : Room).cells ({ frames := 0, cells := 0, slots := 0, locals := 0 } : Room).slots) := by
  refine MetFree.of_bodySF (plainFor_of_name pn_1) hisR ?_
  intro p e s m args below meth c s₁ Bd hml0 hP hK
  obtain ⟨rfl, hZ, hh⟩ := hP
  have hx := Bd.exec
  have hby := Bd.bytes
  have hml : c.maxLocals = 2 := hml0
  have hown : s.vm.findClass "com/example/loadloom/loadloom/DrawsNextPinLaw" = some m.cls := findClass_of_methodNamed Bd.named
  have hnm := (name_of_methodNamed Bd.named Bd.method).1
  have X0 : Stand p l e ({ frames := 0, cells := 0, slots := 0, locals := 0 } : Room) s m #[(.long q1)] below meth c s₁ [] 0 0 := Stand.of_body Bd
  have e0 : s₁.heap = h0 := by rw [← hh, Bd.state]; rfl
  have N0 := Fr.nil n0
  have pre0 : ∀ tg, Steps p.tables e below (s₁.setTop (mkF m 0 #[.val (.long q1), .second] [])) tg → Steps p.tables e below (s₁.setTop (entryFrame m #[(.long q1)] 2)) tg := fun t k => castTop (ef_rm_mixL m q1) k
  have pre00 : ∀ tg, Steps p.tables e below (s₁.setTop (mkF m 0 #[.val (.long q1), .second] [])) tg → Steps p.tables e below (s₁.setTop (mkF m 0 #[.val (.long q1), .second] [])) tg := fun _ k => k
  have R2 : ∀ tg, Steps p.tables e below (s₁.setTop (mkF m 28 #[.val (.long ((((q1 ^^^ ((q1.toUInt64 >>> ((30 : Int32) &&& 0x3f).toInt64.toUInt64).toInt64)) * (-4658895280553007687 : Int64)) ^^^ ((((q1 ^^^ ((q1.toUInt64 >>> ((30 : Int32) &&& 0x3f).toInt64.toUInt64).toInt64)) * (-4658895280553007687 : Int64)).toUInt64 >>> ((27 : Int32) &&& 0x3f).toInt64.toUInt64).toInt64)) * (-7723592293110705685 : Int64))), .second] [(.long (((((q1 ^^^ ((q1.toUInt64 >>> ((30 : Int32) &&& 0x3f).toInt64.toUInt64).toInt64)) * (-4658895280553007687 : Int64)) ^^^ ((((q1 ^^^ ((q1.toUInt64 >>> ((30 : Int32) &&& 0x3f).toInt64.toUInt64).toInt64)) * (-4658895280553007687 : Int64)).toUInt64 >>> ((27 : Int32) &&& 0x3f).toInt64.toUInt64).toInt64)) * (-7723592293110705685 : Int64)) ^^^ ((((((q1 ^^^ ((q1.toUInt64 >>> ((30 : Int32) &&& 0x3f).toInt64.toUInt64).toInt64)) * (-4658895280553007687 : Int64)) ^^^ ((((q1 ^^^ ((q1.toUInt64 >>> ((30 : Int32) &&& 0x3f).toInt64.toUInt64).toInt64)) * (-4658895280553007687 : Int64)).toUInt64 >>> ((27 : Int32) &&& 0x3f).toInt64.toUInt64).toInt64)) * (-7723592293110705685 : Int64)).toUInt64 >>> ((31 : Int32) &&& 0x3f).toInt64.toUInt64).toInt64)))])) tg → Steps p.tables e below (s₁.setTop (mkF m 0 #[.val (.long q1), .second] [])) tg := by
    intro tg kt
    refine pre00 _ ?_
    show Steps p.tables e below (s₁.setTop (mkF m 0 #[.val (.long q1), .second] [])) _
    refine XS.lloadN X0.here hx rfl (hb hby d20_0) rfl ?_
    refine XS.lloadN X0.here hx rfl (hb hby d20_1) rfl ?_
    refine XS.bipush X0.here hx rfl (hb hby d20_2) ?_
    show Steps p.tables e below (s₁.setTop (mkF m 4 #[.val (.long q1), .second] [(.int (30 : Int32)), (.long q1), (.long q1)])) _
    refine XS.lushr X0.here hx rfl (hb hby d20_4) rfl ?_
    show Steps p.tables e below (s₁.setTop (mkF m 5 #[.val (.long q1), .second] [(.long ((q1.toUInt64 >>> ((30 : Int32) &&& 0x3f).toInt64.toUInt64).toInt64)), (.long q1)])) _
    refine XS.lxor X0.here hx rfl (hb hby d20_5) rfl ?_
    show Steps p.tables e below (s₁.setTop (mkF m 6 #[.val (.long q1), .second] [(.long (q1 ^^^ ((q1.toUInt64 >>> ((30 : Int32) &&& 0x3f).toInt64.toUInt64).toInt64)))])) _
    refine X0.ldc2Long hx hown (mvT hZ (hw _ (List.mem_of_getElem? (i := 112) rfl))) (g := (mkF m 6 #[.val (.long q1), .second] [(.long (q1 ^^^ ((q1.toUInt64 >>> ((30 : Int32) &&& 0x3f).toInt64.toUInt64).toInt64)))])) rfl (hb hby d20_6) _ ?_
    show Steps p.tables e below (s₁.setTop (mkF m 9 #[.val (.long q1), .second] [(.long (-4658895280553007687 : Int64)), (.long (q1 ^^^ ((q1.toUInt64 >>> ((30 : Int32) &&& 0x3f).toInt64.toUInt64).toInt64)))])) _
    refine XS.lmul X0.here hx rfl (hb hby d20_9) rfl ?_
    show Steps p.tables e below (s₁.setTop (mkF m 10 #[.val (.long q1), .second] [(.long ((q1 ^^^ ((q1.toUInt64 >>> ((30 : Int32) &&& 0x3f).toInt64.toUInt64).toInt64)) * (-4658895280553007687 : Int64)))])) _
    refine XS.lstoreN X0.here hx rfl (hb hby d20_10) rfl (l' := #[.val (.long ((q1 ^^^ ((q1.toUInt64 >>> ((30 : Int32) &&& 0x3f).toInt64.toUInt64).toInt64)) * (-4658895280553007687 : Int64))), .second]) rfl ?_
    refine XS.lloadN X0.here hx rfl (hb hby d20_11) rfl ?_
    refine XS.lloadN X0.here hx rfl (hb hby d20_12) rfl ?_
    show Steps p.tables e below (s₁.setTop (mkF m 13 #[.val (.long ((q1 ^^^ ((q1.toUInt64 >>> ((30 : Int32) &&& 0x3f).toInt64.toUInt64).toInt64)) * (-4658895280553007687 : Int64))), .second] [(.long ((q1 ^^^ ((q1.toUInt64 >>> ((30 : Int32) &&& 0x3f).toInt64.toUInt64).toInt64)) * (-4658895280553007687 : Int64))), (.long ((q1 ^^^ ((q1.toUInt64 >>> ((30 : Int32) &&& 0x3f).toInt64.toUInt64).toInt64)) * (-4658895280553007687 : Int64)))])) _
    refine XS.bipush X0.here hx rfl (hb hby d20_13) ?_
    show Steps p.tables e below (s₁.setTop (mkF m 15 #[.val (.long ((q1 ^^^ ((q1.toUInt64 >>> ((30 : Int32) &&& 0x3f).toInt64.toUInt64).toInt64)) * (-4658895280553007687 : Int64))), .second] [(.int (27 : Int32)), (.long ((q1 ^^^ ((q1.toUInt64 >>> ((30 : Int32) &&& 0x3f).toInt64.toUInt64).toInt64)) * (-4658895280553007687 : Int64))), (.long ((q1 ^^^ ((q1.toUInt64 >>> ((30 : Int32) &&& 0x3f).toInt64.toUInt64).toInt64)) * (-4658895280553007687 : Int64)))])) _
    refine XS.lushr X0.here hx rfl (hb hby d20_15) rfl ?_
    show Steps p.tables e below (s₁.setTop (mkF m 16 #[.val (.long ((q1 ^^^ ((q1.toUInt64 >>> ((30 : Int32) &&& 0x3f).toInt64.toUInt64).toInt64)) * (-4658895280553007687 : Int64))), .second] [(.long ((((q1 ^^^ ((q1.toUInt64 >>> ((30 : Int32) &&& 0x3f).toInt64.toUInt64).toInt64)) * (-4658895280553007687 : Int64)).toUInt64 >>> ((27 : Int32) &&& 0x3f).toInt64.toUInt64).toInt64)), (.long ((q1 ^^^ ((q1.toUInt64 >>> ((30 : Int32) &&& 0x3f).toInt64.toUInt64).toInt64)) * (-4658895280553007687 : Int64)))])) _
    refine XS.lxor X0.here hx rfl (hb hby d20_16) rfl ?_
    show Steps p.tables e below (s₁.setTop (mkF m 17 #[.val (.long ((q1 ^^^ ((q1.toUInt64 >>> ((30 : Int32) &&& 0x3f).toInt64.toUInt64).toInt64)) * (-4658895280553007687 : Int64))), .second] [(.long (((q1 ^^^ ((q1.toUInt64 >>> ((30 : Int32) &&& 0x3f).toInt64.toUInt64).toInt64)) * (-4658895280553007687 : Int64)) ^^^ ((((q1 ^^^ ((q1.toUInt64 >>> ((30 : Int32) &&& 0x3f).toInt64.toUInt64).toInt64)) * (-4658895280553007687 : Int64)).toUInt64 >>> ((27 : Int32) &&& 0x3f).toInt64.toUInt64).toInt64)))])) _
    refine X0.ldc2Long hx hown (mvT hZ (hw _ (List.mem_of_getElem? (i := 113) rfl))) (g := (mkF m 17 #[.val (.long ((q1 ^^^ ((q1.toUInt64 >>> ((30 : Int32) &&& 0x3f).toInt64.toUInt64).toInt64)) * (-4658895280553007687 : Int64))), .second] [(.long (((q1 ^^^ ((q1.toUInt64 >>> ((30 : Int32) &&& 0x3f).toInt64.toUInt64).toInt64)) * (-4658895280553007687 : Int64)) ^^^ ((((q1 ^^^ ((q1.toUInt64 >>> ((30 : Int32) &&& 0x3f).toInt64.toUInt64).toInt64)) * (-4658895280553007687 : Int64)).toUInt64 >>> ((27 : Int32) &&& 0x3f).toInt64.toUInt64).toInt64)))])) rfl (hb hby d20_17) _ ?_
    show Steps p.tables e below (s₁.setTop (mkF m 20 #[.val (.long ((q1 ^^^ ((q1.toUInt64 >>> ((30 : Int32) &&& 0x3f).toInt64.toUInt64).toInt64)) * (-4658895280553007687 : Int64))), .second] [(.long (-7723592293110705685 : Int64)), (.long (((q1 ^^^ ((q1.toUInt64 >>> ((30 : Int32) &&& 0x3f).toInt64.toUInt64).toInt64)) * (-4658895280553007687 : Int64)) ^^^ ((((q1 ^^^ ((q1.toUInt64 >>> ((30 : Int32) &&& 0x3f).toInt64.toUInt64).toInt64)) * (-4658895280553007687 : Int64)).toUInt64 >>> ((27 : Int32) &&& 0x3f).toInt64.toUInt64).toInt64)))])) _
    refine XS.lmul X0.here hx rfl (hb hby d20_20) rfl ?_
    show Steps p.tables e below (s₁.setTop (mkF m 21 #[.val (.long ((q1 ^^^ ((q1.toUInt64 >>> ((30 : Int32) &&& 0x3f).toInt64.toUInt64).toInt64)) * (-4658895280553007687 : Int64))), .second] [(.long ((((q1 ^^^ ((q1.toUInt64 >>> ((30 : Int32) &&& 0x3f).toInt64.toUInt64).toInt64)) * (-4658895280553007687 : Int64)) ^^^ ((((q1 ^^^ ((q1.toUInt64 >>> ((30 : Int32) &&& 0x3f).toInt64.toUInt64).toInt64)) * (-4658895280553007687 : Int64)).toUInt64 >>> ((27 : Int32) &&& 0x3f).toInt64.toUInt64).toInt64)) * (-7723592293110705685 : Int64)))])) _
    refine XS.lstoreN X0.here hx rfl (hb hby d20_21) rfl (l' := #[.val (.long ((((q1 ^^^ ((q1.toUInt64 >>> ((30 : Int32) &&& 0x3f).toInt64.toUInt64).toInt64)) * (-4658895280553007687 : Int64)) ^^^ ((((q1 ^^^ ((q1.toUInt64 >>> ((30 : Int32) &&& 0x3f).toInt64.toUInt64).toInt64)) * (-4658895280553007687 : Int64)).toUInt64 >>> ((27 : Int32) &&& 0x3f).toInt64.toUInt64).toInt64)) * (-7723592293110705685 : Int64))), .second]) rfl ?_
    refine XS.lloadN X0.here hx rfl (hb hby d20_22) rfl ?_
    refine XS.lloadN X0.here hx rfl (hb hby d20_23) rfl ?_
    show Steps p.tables e below (s₁.setTop (mkF m 24 #[.val (.long ((((q1 ^^^ ((q1.toUInt64 >>> ((30 : Int32) &&& 0x3f).toInt64.toUInt64).toInt64)) * (-4658895280553007687 : Int64)) ^^^ ((((q1 ^^^ ((q1.toUInt64 >>> ((30 : Int32) &&& 0x3f).toInt64.toUInt64).toInt64)) * (-4658895280553007687 : Int64)).toUInt64 >>> ((27 : Int32) &&& 0x3f).toInt64.toUInt64).toInt64)) * (-7723592293110705685 : Int64))), .second] [(.long ((((q1 ^^^ ((q1.toUInt64 >>> ((30 : Int32) &&& 0x3f).toInt64.toUInt64).toInt64)) * (-4658895280553007687 : Int64)) ^^^ ((((q1 ^^^ ((q1.toUInt64 >>> ((30 : Int32) &&& 0x3f).toInt64.toUInt64).toInt64)) * (-4658895280553007687 : Int64)).toUInt64 >>> ((27 : Int32) &&& 0x3f).toInt64.toUInt64).toInt64)) * (-7723592293110705685 : Int64))), (.long ((((q1 ^^^ ((q1.toUInt64 >>> ((30 : Int32) &&& 0x3f).toInt64.toUInt64).toInt64)) * (-4658895280553007687 : Int64)) ^^^ ((((q1 ^^^ ((q1.toUInt64 >>> ((30 : Int32) &&& 0x3f).toInt64.toUInt64).toInt64)) * (-4658895280553007687 : Int64)).toUInt64 >>> ((27 : Int32) &&& 0x3f).toInt64.toUInt64).toInt64)) * (-7723592293110705685 : Int64)))])) _
    refine XS.bipush X0.here hx rfl (hb hby d20_24) ?_
    show Steps p.tables e below (s₁.setTop (mkF m 26 #[.val (.long ((((q1 ^^^ ((q1.toUInt64 >>> ((30 : Int32) &&& 0x3f).toInt64.toUInt64).toInt64)) * (-4658895280553007687 : Int64)) ^^^ ((((q1 ^^^ ((q1.toUInt64 >>> ((30 : Int32) &&& 0x3f).toInt64.toUInt64).toInt64)) * (-4658895280553007687 : Int64)).toUInt64 >>> ((27 : Int32) &&& 0x3f).toInt64.toUInt64).toInt64)) * (-7723592293110705685 : Int64))), .second] [(.int (31 : Int32)), (.long ((((q1 ^^^ ((q1.toUInt64 >>> ((30 : Int32) &&& 0x3f).toInt64.toUInt64).toInt64)) * (-4658895280553007687 : Int64)) ^^^ ((((q1 ^^^ ((q1.toUInt64 >>> ((30 : Int32) &&& 0x3f).toInt64.toUInt64).toInt64)) * (-4658895280553007687 : Int64)).toUInt64 >>> ((27 : Int32) &&& 0x3f).toInt64.toUInt64).toInt64)) * (-7723592293110705685 : Int64))), (.long ((((q1 ^^^ ((q1.toUInt64 >>> ((30 : Int32) &&& 0x3f).toInt64.toUInt64).toInt64)) * (-4658895280553007687 : Int64)) ^^^ ((((q1 ^^^ ((q1.toUInt64 >>> ((30 : Int32) &&& 0x3f).toInt64.toUInt64).toInt64)) * (-4658895280553007687 : Int64)).toUInt64 >>> ((27 : Int32) &&& 0x3f).toInt64.toUInt64).toInt64)) * (-7723592293110705685 : Int64)))])) _
    refine XS.lushr X0.here hx rfl (hb hby d20_26) rfl ?_
    show Steps p.tables e below (s₁.setTop (mkF m 27 #[.val (.long ((((q1 ^^^ ((q1.toUInt64 >>> ((30 : Int32) &&& 0x3f).toInt64.toUInt64).toInt64)) * (-4658895280553007687 : Int64)) ^^^ ((((q1 ^^^ ((q1.toUInt64 >>> ((30 : Int32) &&& 0x3f).toInt64.toUInt64).toInt64)) * (-4658895280553007687 : Int64)).toUInt64 >>> ((27 : Int32) &&& 0x3f).toInt64.toUInt64).toInt64)) * (-7723592293110705685 : Int64))), .second] [(.long ((((((q1 ^^^ ((q1.toUInt64 >>> ((30 : Int32) &&& 0x3f).toInt64.toUInt64).toInt64)) * (-4658895280553007687 : Int64)) ^^^ ((((q1 ^^^ ((q1.toUInt64 >>> ((30 : Int32) &&& 0x3f).toInt64.toUInt64).toInt64)) * (-4658895280553007687 : Int64)).toUInt64 >>> ((27 : Int32) &&& 0x3f).toInt64.toUInt64).toInt64)) * (-7723592293110705685 : Int64)).toUInt64 >>> ((31 : Int32) &&& 0x3f).toInt64.toUInt64).toInt64)), (.long ((((q1 ^^^ ((q1.toUInt64 >>> ((30 : Int32) &&& 0x3f).toInt64.toUInt64).toInt64)) * (-4658895280553007687 : Int64)) ^^^ ((((q1 ^^^ ((q1.toUInt64 >>> ((30 : Int32) &&& 0x3f).toInt64.toUInt64).toInt64)) * (-4658895280553007687 : Int64)).toUInt64 >>> ((27 : Int32) &&& 0x3f).toInt64.toUInt64).toInt64)) * (-7723592293110705685 : Int64)))])) _
    refine XS.lxor X0.here hx rfl (hb hby d20_27) rfl ?_
    exact kt
  obtain ⟨fs, hr, hrun, hended, hW, hsame⟩ := X0.leave (v := some (.long (((((q1 ^^^ ((q1.toUInt64 >>> ((30 : Int32) &&& 0x3f).toInt64.toUInt64).toInt64)) * (-4658895280553007687 : Int64)) ^^^ ((((q1 ^^^ ((q1.toUInt64 >>> ((30 : Int32) &&& 0x3f).toInt64.toUInt64).toInt64)) * (-4658895280553007687 : Int64)).toUInt64 >>> ((27 : Int32) &&& 0x3f).toInt64.toUInt64).toInt64)) * (-7723592293110705685 : Int64)) ^^^ ((((((q1 ^^^ ((q1.toUInt64 >>> ((30 : Int32) &&& 0x3f).toInt64.toUInt64).toInt64)) * (-4658895280553007687 : Int64)) ^^^ ((((q1 ^^^ ((q1.toUInt64 >>> ((30 : Int32) &&& 0x3f).toInt64.toUInt64).toInt64)) * (-4658895280553007687 : Int64)).toUInt64 >>> ((27 : Int32) &&& 0x3f).toInt64.toUInt64).toInt64)) * (-7723592293110705685 : Int64)).toUInt64 >>> ((31 : Int32) &&& 0x3f).toInt64.toUInt64).toInt64)))) (fun h => by rw [Bd.returns] at h; cases h)
  refine ⟨_, _, pre0 _ (R2 _ ?_), hrun, hended, _, _, rfl, ?_, ⟨_, rfl⟩, hW, hsame.mono (by decide) (by decide)⟩
  · exact X0.lreturnOut hx Bd.returns (hb hby d20_28) hr
  · show Q_rm_mixL Z q1 h0 n0 _ s₁.heap _
    rw [e0]
    exact ⟨rfl, N0, rfl⟩
theorem d19_0 : decode method_3_code 0 = .ok (.lload_n 0, 1) := by decide +kernel
theorem d19_1 : decode method_3_code 1 = .ok (.iload_n 2, 1) := by decide +kernel
theorem d19_2 : decode method_3_code 2 = .ok (.sipush 255, 3) := by decide +kernel
theorem d19_5 : decode method_3_code 5 = .ok (.iand, 1) := by decide +kernel
theorem d19_6 : decode method_3_code 6 = .ok (.i2l, 1) := by decide +kernel
theorem d19_7 : decode method_3_code 7 = .ok (.lxor, 1) := by decide +kernel
theorem d19_8 : decode method_3_code 8 = .ok (.ldc2_w 11, 3) := by decide +kernel
theorem d19_11 : decode method_3_code 11 = .ok (.lmul, 1) := by decide +kernel
theorem d19_12 : decode method_3_code 12 = .ok (.lreturn, 1) := by decide +kernel
theorem ef_rm_fb (m : MethodId) (q1 : Int64) (p2 : Int32) : entryFrame m #[(.long q1), (.int p2)] 3 = mkF m 0 #[.val (.long q1), .second, .val (.int p2)] [] := by first | (simp [entryFrame, mkF, argsToLocals, Value.category]; done) | rfl
def Q_rm_fb (Z : State) (q1 : Int64) (p2 : Int32) (h0 : Heap) (n0 : Nat) (v : Option Value) (h : Heap) (L : List Loc) : Prop := v = some (.long (own_fb q1 p2)) ∧ Fr n0 L ∧ h = h0
set_option maxRecDepth 65536 in
set_option maxHeartbeats 40000000 in
theorem rm_fb (l : Launch) (Z : State) (a0 : Array Value) (hw : ∀ d ∈ tables_1, d.before a0 Z = true) (ws : List Jvm.Cond) (q1 : Int64) (p2 : Int32) (h0 : Heap) (n0 : Nat) (Z0 : n0 ≤ h0.size) :
    MetFree l (⟨"com/example/loadloom/loadloom/DrawsNextPinLaw", "fnvByte", "(JI)J"⟩ : MethodName) (head1 (Jvm.Cond.code (⟨"com/example/loadloom/loadloom/DrawsNextPinLaw", "fnvByte", "(JI)J"⟩ : MethodName) method_3_code 3 (some .long) :: ws) ({ frames := 0, cells := 0, slots := 0, locals := 0 } : Room)) (fun a U => a = #[(.long q1), (.int p2)] ∧ Z.Warmed39 U.vm ∧ U.heap = h0) (fun _ _ _ _ _ => True) (fun _ U oC U' => ∃ v L, oC = .returned v ∧ Q_rm_fb Z q1 p2 h0 n0 v U'.heap L ∧ FrameEnd U oC U' L ({ frames := 0, cells := 0, slots := 0, locals := 0 } : Room).cells ({ frames := 0, cells := 0, slots := 0, locals := 0 } : Room).slots) := by
  refine MetFree.of_bodySF (plainFor_of_name pn_1) hisR ?_
  intro p e s m args below meth c s₁ Bd hml0 hP hK
  obtain ⟨rfl, hZ, hh⟩ := hP
  have hx := Bd.exec
  have hby := Bd.bytes
  have hml : c.maxLocals = 3 := hml0
  have hown : s.vm.findClass "com/example/loadloom/loadloom/DrawsNextPinLaw" = some m.cls := findClass_of_methodNamed Bd.named
  have hnm := (name_of_methodNamed Bd.named Bd.method).1
  have X0 : Stand p l e ({ frames := 0, cells := 0, slots := 0, locals := 0 } : Room) s m #[(.long q1), (.int p2)] below meth c s₁ [] 0 0 := Stand.of_body Bd
  have e0 : s₁.heap = h0 := by rw [← hh, Bd.state]; rfl
  have N0 := Fr.nil n0
  have pre0 : ∀ tg, Steps p.tables e below (s₁.setTop (mkF m 0 #[.val (.long q1), .second, .val (.int p2)] [])) tg → Steps p.tables e below (s₁.setTop (entryFrame m #[(.long q1), (.int p2)] 3)) tg := fun t k => castTop (ef_rm_fb m q1 p2) k
  have pre00 : ∀ tg, Steps p.tables e below (s₁.setTop (mkF m 0 #[.val (.long q1), .second, .val (.int p2)] [])) tg → Steps p.tables e below (s₁.setTop (mkF m 0 #[.val (.long q1), .second, .val (.int p2)] [])) tg := fun _ k => k
  have R3 : ∀ tg, Steps p.tables e below (s₁.setTop (mkF m 12 #[.val (.long q1), .second, .val (.int p2)] [(.long ((q1 ^^^ ((p2 &&& (255 : Int32)).toInt64)) * (1099511628211 : Int64)))])) tg → Steps p.tables e below (s₁.setTop (mkF m 0 #[.val (.long q1), .second, .val (.int p2)] [])) tg := by
    intro tg kt
    refine pre00 _ ?_
    show Steps p.tables e below (s₁.setTop (mkF m 0 #[.val (.long q1), .second, .val (.int p2)] [])) _
    refine XS.lloadN X0.here hx rfl (hb hby d19_0) rfl ?_
    refine XS.iloadN X0.here hx rfl (hb hby d19_1) rfl ?_
    refine XS.sipush X0.here hx rfl (hb hby d19_2) ?_
    show Steps p.tables e below (s₁.setTop (mkF m 5 #[.val (.long q1), .second, .val (.int p2)] [(.int (255 : Int32)), (.int p2), (.long q1)])) _
    refine XS.iand X0.here hx rfl (hb hby d19_5) rfl ?_
    show Steps p.tables e below (s₁.setTop (mkF m 6 #[.val (.long q1), .second, .val (.int p2)] [(.int (p2 &&& (255 : Int32))), (.long q1)])) _
    refine XS.i2l X0.here hx rfl (hb hby d19_6) rfl ?_
    show Steps p.tables e below (s₁.setTop (mkF m 7 #[.val (.long q1), .second, .val (.int p2)] [(.long ((p2 &&& (255 : Int32)).toInt64)), (.long q1)])) _
    refine XS.lxor X0.here hx rfl (hb hby d19_7) rfl ?_
    show Steps p.tables e below (s₁.setTop (mkF m 8 #[.val (.long q1), .second, .val (.int p2)] [(.long (q1 ^^^ ((p2 &&& (255 : Int32)).toInt64)))])) _
    refine X0.ldc2Long hx hown (mvT hZ (hw _ (List.mem_of_getElem? (i := 108) rfl))) (g := (mkF m 8 #[.val (.long q1), .second, .val (.int p2)] [(.long (q1 ^^^ ((p2 &&& (255 : Int32)).toInt64)))])) rfl (hb hby d19_8) _ ?_
    show Steps p.tables e below (s₁.setTop (mkF m 11 #[.val (.long q1), .second, .val (.int p2)] [(.long (1099511628211 : Int64)), (.long (q1 ^^^ ((p2 &&& (255 : Int32)).toInt64)))])) _
    refine XS.lmul X0.here hx rfl (hb hby d19_11) rfl ?_
    exact kt
  obtain ⟨fs, hr, hrun, hended, hW, hsame⟩ := X0.leave (v := some (.long ((q1 ^^^ ((p2 &&& (255 : Int32)).toInt64)) * (1099511628211 : Int64)))) (fun h => by rw [Bd.returns] at h; cases h)
  refine ⟨_, _, pre0 _ (R3 _ ?_), hrun, hended, _, _, rfl, ?_, ⟨_, rfl⟩, hW, hsame.mono (by decide) (by decide)⟩
  · exact X0.lreturnOut hx Bd.returns (hb hby d19_12) hr
  · show Q_rm_fb Z q1 p2 h0 n0 _ s₁.heap _
    rw [e0]
    exact ⟨rfl, N0, rfl⟩
theorem d18_0 : decode method_4_code 0 = .ok (.iload_n 2, 1) := by decide +kernel
theorem d18_1 : decode method_4_code 1 = .ok (.sipush 128, 3) := by decide +kernel
theorem d18_4 : decode method_4_code 4 = .ok (.if_icmp .ge 9, 3) := by decide +kernel
theorem d18_7 : decode method_4_code 7 = .ok (.lload_n 0, 1) := by decide +kernel
theorem d18_8 : decode method_4_code 8 = .ok (.iload_n 2, 1) := by decide +kernel
theorem pd_0 : parseMethodDescriptor "(JI)J" = some ⟨[.long, .int], some .long⟩ := by decide +kernel
theorem d18_9 : decode method_4_code 9 = .ok (.invokestatic 13, 3) := by decide +kernel
theorem d18_12 : decode method_4_code 12 = .ok (.lreturn, 1) := by decide +kernel
theorem d18_13 : decode method_4_code 13 = .ok (.lload_n 0, 1) := by decide +kernel
theorem d18_14 : decode method_4_code 14 = .ok (.sipush 192, 3) := by decide +kernel
theorem d18_17 : decode method_4_code 17 = .ok (.iload_n 2, 1) := by decide +kernel
theorem d18_18 : decode method_4_code 18 = .ok (.bipush 6, 2) := by decide +kernel
theorem d18_20 : decode method_4_code 20 = .ok (.iushr, 1) := by decide +kernel
theorem d18_21 : decode method_4_code 21 = .ok (.ior, 1) := by decide +kernel
theorem d18_22 : decode method_4_code 22 = .ok (.invokestatic 13, 3) := by decide +kernel
theorem d18_25 : decode method_4_code 25 = .ok (.sipush 128, 3) := by decide +kernel
theorem d18_28 : decode method_4_code 28 = .ok (.iload_n 2, 1) := by decide +kernel
theorem d18_29 : decode method_4_code 29 = .ok (.bipush 63, 2) := by decide +kernel
theorem d18_31 : decode method_4_code 31 = .ok (.iand, 1) := by decide +kernel
theorem d18_32 : decode method_4_code 32 = .ok (.ior, 1) := by decide +kernel
theorem d18_33 : decode method_4_code 33 = .ok (.invokestatic 13, 3) := by decide +kernel
theorem d18_36 : decode method_4_code 36 = .ok (.lreturn, 1) := by decide +kernel
theorem ef_rm_fc (m : MethodId) (q1 : Int64) (p2 : Int32) : entryFrame m #[(.long q1), (.int p2)] 3 = mkF m 0 #[.val (.long q1), .second, .val (.int p2)] [] := by first | (simp [entryFrame, mkF, argsToLocals, Value.category]; done) | rfl
def Q_rm_fc (Z : State) (q1 : Int64) (p2 : Int32) (h0 : Heap) (n0 : Nat) (v : Option Value) (h : Heap) (L : List Loc) : Prop := v = some (.long (own_fc q1 p2)) ∧ Fr n0 L ∧ h = h0
set_option maxRecDepth 65536 in
set_option maxHeartbeats 40000000 in
theorem rm_fc (l : Launch) (Z : State) (a0 : Array Value) (hw : ∀ d ∈ tables_1, d.before a0 Z = true) (ws : List Jvm.Cond) (q1 : Int64) (p2 : Int32) (h0 : Heap) (n0 : Nat) (Z0 : n0 ≤ h0.size) :
    MetFree l (⟨"com/example/loadloom/loadloom/DrawsNextPinLaw", "fnvChar", "(JC)J"⟩ : MethodName) (head1 (Jvm.Cond.code (⟨"com/example/loadloom/loadloom/DrawsNextPinLaw", "fnvChar", "(JC)J"⟩ : MethodName) method_4_code 3 (some .long) :: ws) ({ frames := 1, cells := 0, slots := 0, locals := 14 } : Room)) (fun a U => a = #[(.long q1), (.int p2)] ∧ Z.Warmed39 U.vm ∧ U.heap = h0) (fun _ _ _ _ _ => True) (fun _ U oC U' => ∃ v L, oC = .returned v ∧ Q_rm_fc Z q1 p2 h0 n0 v U'.heap L ∧ FrameEnd U oC U' L ({ frames := 1, cells := 0, slots := 0, locals := 14 } : Room).cells ({ frames := 1, cells := 0, slots := 0, locals := 14 } : Room).slots) := by
  refine MetFree.of_bodySF (plainFor_of_name pn_1) hisR ?_
  intro p e s m args below meth c s₁ Bd hml0 hP hK
  obtain ⟨rfl, hZ, hh⟩ := hP
  have hx := Bd.exec
  have hby := Bd.bytes
  have hml : c.maxLocals = 3 := hml0
  have hown : s.vm.findClass "com/example/loadloom/loadloom/DrawsNextPinLaw" = some m.cls := findClass_of_methodNamed Bd.named
  have hnm := (name_of_methodNamed Bd.named Bd.method).1
  have X0 : Stand p l e ({ frames := 1, cells := 0, slots := 0, locals := 14 } : Room) s m #[(.long q1), (.int p2)] below meth c s₁ [] 0 0 := Stand.of_body Bd
  have e0 : s₁.heap = h0 := by rw [← hh, Bd.state]; rfl
  have N0 := Fr.nil n0
  have pre0 : ∀ tg, Steps p.tables e below (s₁.setTop (mkF m 0 #[.val (.long q1), .second, .val (.int p2)] [])) tg → Steps p.tables e below (s₁.setTop (entryFrame m #[(.long q1), (.int p2)] 3)) tg := fun t k => castTop (ef_rm_fc m q1 p2) k
  have pre00 : ∀ tg, Steps p.tables e below (s₁.setTop (mkF m 0 #[.val (.long q1), .second, .val (.int p2)] [])) tg → Steps p.tables e below (s₁.setTop (mkF m 0 #[.val (.long q1), .second, .val (.int p2)] [])) tg := fun _ k => k
  have R4 : ∀ tg, Steps p.tables e below (s₁.setTop (mkF m 4 #[.val (.long q1), .second, .val (.int p2)] [(.int (128 : Int32)), (.int p2)])) tg → Steps p.tables e below (s₁.setTop (mkF m 0 #[.val (.long q1), .second, .val (.int p2)] [])) tg := by
    intro tg kt
    refine pre00 _ ?_
    show Steps p.tables e below (s₁.setTop (mkF m 0 #[.val (.long q1), .second, .val (.int p2)] [])) _
    refine XS.iloadN X0.here hx rfl (hb hby d18_0) rfl ?_
    refine XS.sipush X0.here hx rfl (hb hby d18_1) ?_
    exact kt
  by_cases hc : p2 < (128 : Int32)
  · have R5 : ∀ tg, Steps p.tables e below (s₁.setTop (mkF m 9 #[.val (.long q1), .second, .val (.int p2)] [(.int p2), (.long q1)])) tg → Steps p.tables e below (s₁.setTop (mkF m 0 #[.val (.long q1), .second, .val (.int p2)] [])) tg := by
      intro tg kt
      refine R4 _ ?_
      show Steps p.tables e below (s₁.setTop (mkF m 4 #[.val (.long q1), .second, .val (.int p2)] [(.int (128 : Int32)), (.int p2)])) _
      refine XS.icmpNo X0.here hx rfl (hb hby d18_4) rfl (tlt (hc : p2 < (128 : Int32))).2.1 ?_
      refine XS.lloadN X0.here hx rfl (hb hby d18_7) rfl ?_
      refine XS.iloadN X0.here hx rfl (hb hby d18_8) rfl ?_
      exact kt
    clear R4
    obtain ⟨_, _, ⟨T6, L6, k6, n6⟩, -, X6, ⟨Lc6, hQ6, l6, y6, z6⟩, st6⟩ := Jvm.LawKit.callS X0 hx (y := (⟨"com/example/loadloom/loadloom/DrawsNextPinLaw", "fnvByte", "(JI)J"⟩ : MethodName)) hown (mvT hZ (hw _ (List.mem_of_getElem? (i := 105) rfl))) (mvT hZ (hw _ (List.mem_of_getElem? (i := 106) rfl))) (mvT hZ (hw _ (List.mem_of_getElem? (i := 103) rfl))) (mvT hZ (hw _ (List.mem_of_getElem? (i := 107) rfl))) (by decide) (backOf (W := 0) (rm_fb l Z a0 hw [] q1 p2 h0 n0 Z0) hZ (hw _ (List.mem_of_getElem? (i := 107) rfl)) (hw _ (List.mem_of_getElem? (i := 103) rfl)) (by decide) (by decide)) (g := (mkF m 9 #[.val (.long q1), .second, .val (.int p2)] [(.int p2), (.long q1)])) rfl (by rw [hml]; rfl) (argsL := [(.long q1), (.int p2)]) (rest := []) (lenOf pd_0 rfl) rfl (by show 2 * 0 + _ ≤ _; exact Nat.le_of_eq rfl) (hb hby d18_9) (fun _ _ => ⟨rfl, e0, (by decide : 0 + 0 ≤ _), (by decide : 0 + 0 ≤ _)⟩)
    dsimp only [Pt.U, Pt.locs, Pt.cells, Pt.slots] at X6 l6 y6 z6 st6 hQ6
    rw [l6, y6, z6] at X6
    obtain ⟨rfl, N6q, hh6⟩ := hQ6
    have N6 := Fr.app N0 N6q
    have R7 : ∀ tg, Steps p.tables e below (T6.setTop (mkF m 12 #[.val (.long q1), .second, .val (.int p2)] [(.long (own_fb q1 p2))])) tg → Steps p.tables e below (s₁.setTop (mkF m 0 #[.val (.long q1), .second, .val (.int p2)] [])) tg := by
      intro tg kt
      refine R5 _ ?_
      refine st6 _ ?_
      exact kt
    clear R5 st6
    obtain ⟨fs, hr, hrun, hended, hW, hsame⟩ := X6.leave (v := some (.long (own_fb q1 p2))) (fun h => by rw [Bd.returns] at h; cases h)
    refine ⟨_, _, pre0 _ (R7 _ ?_), hrun, hended, _, _, rfl, ?_, ⟨_, rfl⟩, hW, hsame.mono (by decide) (by decide)⟩
    · exact X6.lreturnOut hx Bd.returns (hb hby d18_12) hr
    · show Q_rm_fc Z q1 p2 h0 n0 _ T6.heap _
      rw [hh6]
      exact ⟨by rw [own_fc, if_pos hc], N6, rfl⟩
  · have R8 : ∀ tg, Steps p.tables e below (s₁.setTop (mkF m 22 #[.val (.long q1), .second, .val (.int p2)] [(.int ((192 : Int32) ||| ((p2.toUInt32 >>> ((6 : Int32) &&& 31).toUInt32).toInt32))), (.long q1)])) tg → Steps p.tables e below (s₁.setTop (mkF m 0 #[.val (.long q1), .second, .val (.int p2)] [])) tg := by
      intro tg kt
      refine R4 _ ?_
      show Steps p.tables e below (s₁.setTop (mkF m 4 #[.val (.long q1), .second, .val (.int p2)] [(.int (128 : Int32)), (.int p2)])) _
      refine XS.icmpYes X0.here hx rfl (pc0 := 4) (pc' := 13) rfl (hb hby d18_4) rfl (flt (hc : ¬ (p2 < (128 : Int32)))).2.1 (by decide) (by decide) ?_
      refine XS.lloadN X0.here hx rfl (hb hby d18_13) rfl ?_
      refine XS.sipush X0.here hx rfl (hb hby d18_14) ?_
      show Steps p.tables e below (s₁.setTop (mkF m 17 #[.val (.long q1), .second, .val (.int p2)] [(.int (192 : Int32)), (.long q1)])) _
      refine XS.iloadN X0.here hx rfl (hb hby d18_17) rfl ?_
      refine XS.bipush X0.here hx rfl (hb hby d18_18) ?_
      show Steps p.tables e below (s₁.setTop (mkF m 20 #[.val (.long q1), .second, .val (.int p2)] [(.int (6 : Int32)), (.int p2), (.int (192 : Int32)), (.long q1)])) _
      refine XS.iushr X0.here hx rfl (hb hby d18_20) rfl ?_
      show Steps p.tables e below (s₁.setTop (mkF m 21 #[.val (.long q1), .second, .val (.int p2)] [(.int ((p2.toUInt32 >>> ((6 : Int32) &&& 31).toUInt32).toInt32)), (.int (192 : Int32)), (.long q1)])) _
      refine XS.ior X0.here hx rfl (hb hby d18_21) rfl ?_
      exact kt
    clear R4
    have R9 : ∀ tg, Steps p.tables e below (s₁.setTop (mkF m 22 #[.val (.long q1), .second, .val (.int p2)] [(.int (own_u6 p2)), (.long q1)])) tg → Steps p.tables e below (s₁.setTop (mkF m 0 #[.val (.long q1), .second, .val (.int p2)] [])) tg := R8
    obtain ⟨_, _, ⟨T10, L10, k10, n10⟩, -, X10, ⟨Lc10, hQ10, l10, y10, z10⟩, st10⟩ := Jvm.LawKit.callS X0 hx (y := (⟨"com/example/loadloom/loadloom/DrawsNextPinLaw", "fnvByte", "(JI)J"⟩ : MethodName)) hown (mvT hZ (hw _ (List.mem_of_getElem? (i := 105) rfl))) (mvT hZ (hw _ (List.mem_of_getElem? (i := 106) rfl))) (mvT hZ (hw _ (List.mem_of_getElem? (i := 103) rfl))) (mvT hZ (hw _ (List.mem_of_getElem? (i := 107) rfl))) (by decide) (backOf (W := 0) (rm_fb l Z a0 hw [] q1 (own_u6 p2) h0 n0 Z0) hZ (hw _ (List.mem_of_getElem? (i := 107) rfl)) (hw _ (List.mem_of_getElem? (i := 103) rfl)) (by decide) (by decide)) (g := (mkF m 22 #[.val (.long q1), .second, .val (.int p2)] [(.int (own_u6 p2)), (.long q1)])) rfl (by rw [hml]; rfl) (argsL := [(.long q1), (.int (own_u6 p2))]) (rest := []) (lenOf pd_0 rfl) rfl (by show 2 * 0 + _ ≤ _; exact Nat.le_of_eq rfl) (hb hby d18_22) (fun _ _ => ⟨rfl, e0, (by decide : 0 + 0 ≤ _), (by decide : 0 + 0 ≤ _)⟩)
    dsimp only [Pt.U, Pt.locs, Pt.cells, Pt.slots] at X10 l10 y10 z10 st10 hQ10
    rw [l10, y10, z10] at X10
    obtain ⟨rfl, N10q, hh10⟩ := hQ10
    have N10 := Fr.app N0 N10q
    have R11 : ∀ tg, Steps p.tables e below (T10.setTop (mkF m 33 #[.val (.long q1), .second, .val (.int p2)] [(.int ((128 : Int32) ||| (p2 &&& (63 : Int32)))), (.long (own_fb q1 (own_u6 p2)))])) tg → Steps p.tables e below (s₁.setTop (mkF m 0 #[.val (.long q1), .second, .val (.int p2)] [])) tg := by
      intro tg kt
      refine R9 _ ?_
      refine st10 _ ?_
      refine XS.sipush X10.here hx rfl (hb hby d18_25) ?_
      refine XS.iloadN X10.here hx rfl (hb hby d18_28) rfl ?_
      show Steps p.tables e below (T10.setTop (mkF m 29 #[.val (.long q1), .second, .val (.int p2)] [(.int p2), (.int (128 : Int32)), (.long (own_fb q1 (own_u6 p2)))])) _
      refine XS.bipush X10.here hx rfl (hb hby d18_29) ?_
      show Steps p.tables e below (T10.setTop (mkF m 31 #[.val (.long q1), .second, .val (.int p2)] [(.int (63 : Int32)), (.int p2), (.int (128 : Int32)), (.long (own_fb q1 (own_u6 p2)))])) _
      refine XS.iand X10.here hx rfl (hb hby d18_31) rfl ?_
      show Steps p.tables e below (T10.setTop (mkF m 32 #[.val (.long q1), .second, .val (.int p2)] [(.int (p2 &&& (63 : Int32))), (.int (128 : Int32)), (.long (own_fb q1 (own_u6 p2)))])) _
      refine XS.ior X10.here hx rfl (hb hby d18_32) rfl ?_
      exact kt
    clear R9 st10
    have R12 : ∀ tg, Steps p.tables e below (T10.setTop (mkF m 33 #[.val (.long q1), .second, .val (.int p2)] [(.int (own_l6 p2)), (.long (own_fb q1 (own_u6 p2)))])) tg → Steps p.tables e below (s₁.setTop (mkF m 0 #[.val (.long q1), .second, .val (.int p2)] [])) tg := R11
    obtain ⟨_, _, ⟨T13, L13, k13, n13⟩, -, X13, ⟨Lc13, hQ13, l13, y13, z13⟩, st13⟩ := Jvm.LawKit.callS X10 hx (y := (⟨"com/example/loadloom/loadloom/DrawsNextPinLaw", "fnvByte", "(JI)J"⟩ : MethodName)) hown (mvT hZ (hw _ (List.mem_of_getElem? (i := 105) rfl))) (mvT hZ (hw _ (List.mem_of_getElem? (i := 106) rfl))) (mvT hZ (hw _ (List.mem_of_getElem? (i := 103) rfl))) (mvT hZ (hw _ (List.mem_of_getElem? (i := 107) rfl))) (by decide) (backOf (W := 0) (rm_fb l Z a0 hw [] (own_fb q1 (own_u6 p2)) (own_l6 p2) h0 n0 Z0) hZ (hw _ (List.mem_of_getElem? (i := 107) rfl)) (hw _ (List.mem_of_getElem? (i := 103) rfl)) (by decide) (by decide)) (g := (mkF m 33 #[.val (.long q1), .second, .val (.int p2)] [(.int (own_l6 p2)), (.long (own_fb q1 (own_u6 p2)))])) rfl (by rw [hml]; rfl) (argsL := [(.long (own_fb q1 (own_u6 p2))), (.int (own_l6 p2))]) (rest := []) (lenOf pd_0 rfl) rfl (by show 2 * 0 + _ ≤ _; exact Nat.le_of_eq rfl) (hb hby d18_33) (fun _ _ => ⟨rfl, hh10, (by decide : 0 + 0 ≤ _), (by decide : 0 + 0 ≤ _)⟩)
    dsimp only [Pt.U, Pt.locs, Pt.cells, Pt.slots] at X13 l13 y13 z13 st13 hQ13
    rw [l13, y13, z13] at X13
    obtain ⟨rfl, N13q, hh13⟩ := hQ13
    have N13 := Fr.app N10 N13q
    have R14 : ∀ tg, Steps p.tables e below (T13.setTop (mkF m 36 #[.val (.long q1), .second, .val (.int p2)] [(.long (own_fb (own_fb q1 (own_u6 p2)) (own_l6 p2)))])) tg → Steps p.tables e below (s₁.setTop (mkF m 0 #[.val (.long q1), .second, .val (.int p2)] [])) tg := by
      intro tg kt
      refine R12 _ ?_
      refine st13 _ ?_
      exact kt
    clear R12 st13
    obtain ⟨fs, hr, hrun, hended, hW, hsame⟩ := X13.leave (v := some (.long (own_fb (own_fb q1 (own_u6 p2)) (own_l6 p2)))) (fun h => by rw [Bd.returns] at h; cases h)
    refine ⟨_, _, pre0 _ (R14 _ ?_), hrun, hended, _, _, rfl, ?_, ⟨_, rfl⟩, hW, hsame.mono (by decide) (by decide)⟩
    · exact X13.lreturnOut hx Bd.returns (hb hby d18_36) hr
    · show Q_rm_fc Z q1 p2 h0 n0 _ T13.heap _
      rw [hh13]
      exact ⟨by rw [own_fc, if_neg hc], N13, rfl⟩
theorem pn_2 : plainName "java/lang/StringLatin1" = true := by first | (simp [plainName, overriddenIn]; done) | decide +kernel
theorem d2_0 : decode jdk_43_method_3_code 0 = .ok (.iload_n 0, 1) := by decide +kernel
theorem d2_1 : decode jdk_43_method_3_code 1 = .ok (.sipush 255, 3) := by decide +kernel
theorem d2_4 : decode jdk_43_method_3_code 4 = .ok (.if_icmp .gt 7, 3) := by decide +kernel
theorem d2_7 : decode jdk_43_method_3_code 7 = .ok (.iconst 1, 1) := by decide +kernel
theorem d2_8 : decode jdk_43_method_3_code 8 = .ok (.goto 4, 3) := by decide +kernel
theorem d2_12 : decode jdk_43_method_3_code 12 = .ok (.ireturn, 1) := by decide +kernel
theorem ef_rm_can (m : MethodId) (p1 : Int32) : entryFrame m #[(.int p1)] 1 = mkF m 0 #[.val (.int p1)] [] := by first | (simp [entryFrame, mkF, argsToLocals, Value.category]; done) | rfl
def Q_rm_can (Z : State) (p1 : Int32) (h0 : Heap) (n0 : Nat) (v : Option Value) (h : Heap) (L : List Loc) : Prop := v = some (.int (1 : Int32)) ∧ Fr n0 L ∧ h = h0
set_option maxRecDepth 65536 in
set_option maxHeartbeats 40000000 in
theorem rm_can (l : Launch) (Z : State) (a0 : Array Value) (hw : ∀ d ∈ tables_1, d.before a0 Z = true) (ws : List Jvm.Cond) (p1 : Int32) (h0 : Heap) (n0 : Nat) (Z0 : n0 ≤ h0.size) (hc : ¬ (255 : Int32) < p1) :
    MetFree l (⟨"java/lang/StringLatin1", "canEncode", "(C)Z"⟩ : MethodName) (head1 (Jvm.Cond.code (⟨"java/lang/StringLatin1", "canEncode", "(C)Z"⟩ : MethodName) jdk_43_method_3_code 1 (some .boolean) :: ws) ({ frames := 0, cells := 0, slots := 0, locals := 0 } : Room)) (fun a U => a = #[(.int p1)] ∧ Z.Warmed39 U.vm ∧ U.heap = h0) (fun _ _ _ _ _ => True) (fun _ U oC U' => ∃ v L, oC = .returned v ∧ Q_rm_can Z p1 h0 n0 v U'.heap L ∧ FrameEnd U oC U' L ({ frames := 0, cells := 0, slots := 0, locals := 0 } : Room).cells ({ frames := 0, cells := 0, slots := 0, locals := 0 } : Room).slots) := by
  refine MetFree.of_bodySF (plainFor_of_name pn_2) hisR ?_
  intro p e s m args below meth c s₁ Bd hml0 hP hK
  obtain ⟨rfl, hZ, hh⟩ := hP
  have hx := Bd.exec
  have hby := Bd.bytes
  have hml : c.maxLocals = 1 := hml0
  have hown : s.vm.findClass "java/lang/StringLatin1" = some m.cls := findClass_of_methodNamed Bd.named
  have hnm := (name_of_methodNamed Bd.named Bd.method).1
  have X0 : Stand p l e ({ frames := 0, cells := 0, slots := 0, locals := 0 } : Room) s m #[(.int p1)] below meth c s₁ [] 0 0 := Stand.of_body Bd
  have e0 : s₁.heap = h0 := by rw [← hh, Bd.state]; rfl
  have N0 := Fr.nil n0
  have pre0 : ∀ tg, Steps p.tables e below (s₁.setTop (mkF m 0 #[.val (.int p1)] [])) tg → Steps p.tables e below (s₁.setTop (entryFrame m #[(.int p1)] 1)) tg := fun t k => castTop (ef_rm_can m p1) k
  have pre00 : ∀ tg, Steps p.tables e below (s₁.setTop (mkF m 0 #[.val (.int p1)] [])) tg → Steps p.tables e below (s₁.setTop (mkF m 0 #[.val (.int p1)] [])) tg := fun _ k => k
  have R15 : ∀ tg, Steps p.tables e below (s₁.setTop (mkF m 12 #[.val (.int p1)] [(.int (1 : Int32))])) tg → Steps p.tables e below (s₁.setTop (mkF m 0 #[.val (.int p1)] [])) tg := by
    intro tg kt
    refine pre00 _ ?_
    show Steps p.tables e below (s₁.setTop (mkF m 0 #[.val (.int p1)] [])) _
    refine XS.iloadN X0.here hx rfl (hb hby d2_0) rfl ?_
    refine XS.sipush X0.here hx rfl (hb hby d2_1) ?_
    show Steps p.tables e below (s₁.setTop (mkF m 4 #[.val (.int p1)] [(.int (255 : Int32)), (.int p1)])) _
    refine XS.icmpNo X0.here hx rfl (hb hby d2_4) rfl (flt (hc : ¬ ((255 : Int32) < p1))).2.2.1 ?_
    refine XS.iconst X0.here hx rfl (hb hby d2_7) ?_
    show Steps p.tables e below (s₁.setTop (mkF m 8 #[.val (.int p1)] [(.int (1 : Int32))])) _
    refine XS.goto X0.here hx rfl (pc0 := 8) (pc' := 12) rfl (hb hby d2_8) (by decide) (by decide) ?_
    exact kt
  obtain ⟨fs, hr, hrun, hended, hW, hsame⟩ := X0.leave (v := some (.int (1 : Int32))) (fun h => by rw [Bd.returns] at h; cases h)
  refine ⟨_, _, pre0 _ (R15 _ ?_), hrun, hended, _, _, rfl, ?_, ⟨_, rfl⟩, hW, hsame.mono (by decide) (by decide)⟩
  · exact retN X0 hx (t := .boolean) Bd.returns (by simp) (hb hby d2_12) hr
  · show Q_rm_can Z p1 h0 n0 _ s₁.heap _
    rw [e0]
    exact ⟨rfl, N0, rfl⟩
theorem d3_0 : decode jdk_43_method_46_code 0 = .ok (.iconst 1, 1) := by decide +kernel
theorem d3_1 : decode jdk_43_method_46_code 1 = .ok (.newarray .byte, 2) := by decide +kernel
theorem d3_3 : decode jdk_43_method_46_code 3 = .ok (.dup, 1) := by decide +kernel
theorem d3_4 : decode jdk_43_method_46_code 4 = .ok (.iconst 0, 1) := by decide +kernel
theorem d3_5 : decode jdk_43_method_46_code 5 = .ok (.iload_n 0, 1) := by decide +kernel
theorem d3_6 : decode jdk_43_method_46_code 6 = .ok (.i2b, 1) := by decide +kernel
theorem d3_7 : decode jdk_43_method_46_code 7 = .ok (.bastore, 1) := by decide +kernel
theorem d3_8 : decode jdk_43_method_46_code 8 = .ok (.areturn, 1) := by decide +kernel
theorem ef_rm_tob (m : MethodId) (p1 : Int32) : entryFrame m #[(.int p1)] 1 = mkF m 0 #[.val (.int p1)] [] := by first | (simp [entryFrame, mkF, argsToLocals, Value.category]; done) | rfl
def Q_rm_tob (Z : State) (p1 : Int32) (h0 : Heap) (n0 : Nat) (v : Option Value) (h : Heap) (L : List Loc) : Prop := ∃ a : Addr, v = some (.ref a) ∧ Fr n0 L ∧ h0.size ≤ a ∧ Keep h0 h [] ∧ AV Z h a .byte 1 (fun _ => .int (own_bv p1)) ∧ Exa Z h a "[B"
set_option maxRecDepth 65536 in
set_option maxHeartbeats 40000000 in
theorem rm_tob (l : Launch) (Z : State) (a0 : Array Value) (hw : ∀ d ∈ tables_1, d.before a0 Z = true) (ws : List Jvm.Cond) (p1 : Int32) (h0 : Heap) (n0 : Nat) (Z0 : n0 ≤ h0.size) :
    MetFree l (⟨"java/lang/StringLatin1", "toBytes", "(C)[B"⟩ : MethodName) (head1 (Jvm.Cond.code (⟨"java/lang/StringLatin1", "toBytes", "(C)[B"⟩ : MethodName) jdk_43_method_46_code 1 (some (.array .byte)) :: ws) ({ frames := 0, cells := 1, slots := 1, locals := 0 } : Room)) (fun a U => a = #[(.int p1)] ∧ Z.Warmed39 U.vm ∧ U.heap = h0) (fun _ _ _ _ _ => True) (fun _ U oC U' => ∃ v L, oC = .returned v ∧ Q_rm_tob Z p1 h0 n0 v U'.heap L ∧ FrameEnd U oC U' L ({ frames := 0, cells := 1, slots := 1, locals := 0 } : Room).cells ({ frames := 0, cells := 1, slots := 1, locals := 0 } : Room).slots) := by
  refine MetFree.of_bodySF (plainFor_of_name pn_2) hisR ?_
  intro p e s m args below meth c s₁ Bd hml0 hP hK
  obtain ⟨rfl, hZ, hh⟩ := hP
  have hx := Bd.exec
  have hby := Bd.bytes
  have hml : c.maxLocals = 1 := hml0
  have hown : s.vm.findClass "java/lang/StringLatin1" = some m.cls := findClass_of_methodNamed Bd.named
  have hnm := (name_of_methodNamed Bd.named Bd.method).1
  have X0 : Stand p l e ({ frames := 0, cells := 1, slots := 1, locals := 0 } : Room) s m #[(.int p1)] below meth c s₁ [] 0 0 := Stand.of_body Bd
  have e0 : s₁.heap = h0 := by rw [← hh, Bd.state]; rfl
  have N0 := Fr.nil n0
  have pre0 : ∀ tg, Steps p.tables e below (s₁.setTop (mkF m 0 #[.val (.int p1)] [])) tg → Steps p.tables e below (s₁.setTop (entryFrame m #[(.int p1)] 1)) tg := fun t k => castTop (ef_rm_tob m p1) k
  have pre00 : ∀ tg, Steps p.tables e below (s₁.setTop (mkF m 0 #[.val (.int p1)] [])) tg → Steps p.tables e below (s₁.setTop (mkF m 0 #[.val (.int p1)] [])) tg := fun _ k => k
  have R16 : ∀ tg, Steps p.tables e below (s₁.setTop (mkF m 1 #[.val (.int p1)] [(.int (1 : Int32))])) tg → Steps p.tables e below (s₁.setTop (mkF m 0 #[.val (.int p1)] [])) tg := by
    intro tg kt
    refine pre00 _ ?_
    show Steps p.tables e below (s₁.setTop (mkF m 0 #[.val (.int p1)] [])) _
    refine XS.iconst X0.here hx rfl (hb hby d3_0) ?_
    exact kt
  obtain ⟨T17, h17, k17, X17, e17, E17, A17, Q17, st17⟩ := newPE X0 hx hZ (hw _ (List.mem_of_getElem? (i := 14) rfl)) e0 (g := (mkF m 1 #[.val (.int p1)] [(.int (1 : Int32))])) rfl (hb hby d3_1) rfl (by decide) (cap := 1) (by decide) (by decide) (by decide) (by decide) (ad := "[B") (by decide)
  obtain ⟨ar, g17⟩ : ∃ z, z = h0.size := ⟨_, rfl⟩
  rw [← g17] at A17 Q17 st17
  have g_ar : n0 ≤ ar := Nat.le_trans Z0 (Nat.le_of_eq g17.symm)
  have sz_ar : h0.size ≤ ar := Nat.le_trans (Keep.refl h0 []).1 (Nat.le_of_eq g17.symm)
  have Zs17 : n0 ≤ h17.size := Nat.le_trans Z0 E17.1
  have Ke17 : Keep h0 h17 [] := Keep.ext (Keep.refl h0 []) E17
  have VA : AV Z h17 ar .byte 1 (fun _ => defaultValue .byte) := AV.new A17 rfl rfl
  have E_ar := Q17
  have R18 : ∀ tg, Steps p.tables e below (T17.setTop (mkF m 7 #[.val (.int p1)] [(.int (p1.toInt8.toInt32)), (.int (0 : Int32)), (.ref ar), (.ref ar)])) tg → Steps p.tables e below (s₁.setTop (mkF m 0 #[.val (.int p1)] [])) tg := by
    intro tg kt
    refine R16 _ ?_
    refine st17 _ ?_
    refine XS.dup X17.here hx rfl (hb hby d3_3) rfl rfl ?_
    refine XS.iconst X17.here hx rfl (hb hby d3_4) ?_
    show Steps p.tables e below (T17.setTop (mkF m 5 #[.val (.int p1)] [(.int (0 : Int32)), (.ref ar), (.ref ar)])) _
    refine XS.iloadN X17.here hx rfl (hb hby d3_5) rfl ?_
    show Steps p.tables e below (T17.setTop (mkF m 6 #[.val (.int p1)] [(.int p1), (.int (0 : Int32)), (.ref ar), (.ref ar)])) _
    refine XS.i2b X17.here hx rfl (hb hby d3_6) rfl ?_
    exact kt
  clear R16 st17
  obtain ⟨cl19, Ar19, hin19, -⟩ := VA.at (j := (0 : Int32)) (k := 0) (by decide) rfl (by decide)
  obtain ⟨T20, h20, X20, e20, W20, st20⟩ := stB X17 hx hZ e17 Ar19 (j := (0 : Int32)) hin19 (g := (mkF m 7 #[.val (.int p1)] [(.int (p1.toInt8.toInt32)), (.int (0 : Int32)), (.ref ar), (.ref ar)])) rfl rfl (hb hby d3_7)
  have N20 := Fr.snoc X20 N0 g_ar
  rw [show ((0 : Int32) : Int32).toNatClampNeg = 0 from rfl] at W20
  have VA_20 := VA.set W20 (fits_nar_byte _)
  have E_ar_20 := E_ar.wr W20
  have Zs20 : n0 ≤ h20.size := Nat.le_trans Zs17 (Keep.of_wr W20).1
  have Kw20 : Keep h0 h20 [] := Keep.wr Ke17 W20 (Or.inr sz_ar)
  have R21 : ∀ tg, Steps p.tables e below (T20.setTop (mkF m 8 #[.val (.int p1)] [(.ref ar)])) tg → Steps p.tables e below (s₁.setTop (mkF m 0 #[.val (.int p1)] [])) tg := by
    intro tg kt
    refine R18 _ ?_
    refine st20 _ ?_
    exact kt
  clear R18 st20
  have VAz : AV Z h20 ar .byte 1 (fun _ => .int (own_bv p1)) := AV.congr VA_20 (fun j hj => by cases Nat.lt_one_iff.mp hj; show (.int (nar .byte (p1.toInt8.toInt32)) : Value) = _; rw [own_nar]; rfl)
  obtain ⟨fs, hr, hrun, hended, hW, hsame⟩ := X20.leave (v := some (.ref ar)) (fun h => by rw [Bd.returns] at h; cases h)
  refine ⟨_, _, pre0 _ (R21 _ ?_), hrun, hended, _, _, rfl, ?_, ⟨_, rfl⟩, hW, hsame.mono (by decide) (by decide)⟩
  · show Steps p.tables e below (T20.setTop (mkF m 8 #[.val (.int p1)] [(.ref ar)])) _
    jvm_step X20.here [X20.here.top, hx, (hb hby d3_8), X20.method', Bd.returns, Value.isRef, FieldType.isReference]
    first | (intro acts; rw [hr _ acts rfl rfl rfl]) | rw [hr _ _ rfl rfl rfl]
    exact Steps.refl _
  · show Q_rm_tob Z p1 h0 n0 _ T20.heap _
    rw [e20]
    exact ⟨ar, rfl, N20, sz_ar, Kw20, VAz, E_ar_20⟩
theorem pn_3 : plainName "java/lang/String" = true := by first | (simp [plainName, overriddenIn]; done) | decide +kernel
theorem d4_0 : decode jdk_42_method_151_code 0 = .ok (.aload_n 0, 1) := by decide +kernel
theorem d4_1 : decode jdk_42_method_151_code 1 = .ok (.invokespecial 1, 3) := by decide +kernel
theorem d4_4 : decode jdk_42_method_151_code 4 = .ok (.aload_n 0, 1) := by decide +kernel
theorem d4_5 : decode jdk_42_method_151_code 5 = .ok (.aload_n 1, 1) := by decide +kernel
theorem d4_6 : decode jdk_42_method_151_code 6 = .ok (.putfield 9, 3) := by decide +kernel
theorem d4_9 : decode jdk_42_method_151_code 9 = .ok (.aload_n 0, 1) := by decide +kernel
theorem d4_10 : decode jdk_42_method_151_code 10 = .ok (.iload_n 2, 1) := by decide +kernel
theorem d4_11 : decode jdk_42_method_151_code 11 = .ok (.putfield 15, 3) := by decide +kernel
theorem d4_14 : decode jdk_42_method_151_code 14 = .ok (.return_, 1) := by decide +kernel
theorem ef_rm_sin (m : MethodId) (a1 : Addr) (a2 : Addr) (p3 : Int32) : entryFrame m #[(.ref a1), (.ref a2), (.int p3)] 3 = mkF m 0 #[.val (.ref a1), .val (.ref a2), .val (.int p3)] [] := by first | (simp [entryFrame, mkF, argsToLocals, Value.category]; done) | rfl
def Q_rm_sin (Z : State) (a1 : Addr) (a2 : Addr) (p3 : Int32) (h0 : Heap) (n0 : Nat) (v : Option Value) (h : Heap) (L : List Loc) : Prop := v = none ∧ Fr n0 L ∧ Keep h0 h [a1] ∧ Exa Z h a1 "java/lang/String" ∧ Fld Z h a1 "java/lang/String" "value" "[B" (.ref a2) ∧ Fld Z h a1 "java/lang/String" "coder" "B" (.int (0 : Int32))
set_option maxRecDepth 65536 in
set_option maxHeartbeats 40000000 in
theorem rm_sin (l : Launch) (Z : State) (a0 : Array Value) (hw : ∀ d ∈ tables_1, d.before a0 Z = true) (ws : List Jvm.Cond) (a1 : Addr) (a2 : Addr) (p3 : Int32) (h0 : Heap) (n0 : Nat) (Z0 : n0 ≤ h0.size) (E1 : Exa Z h0 a1 "java/lang/String") (Fv : Fld Z h0 a1 "java/lang/String" "value" "[B" .null) (Fc : Fld Z h0 a1 "java/lang/String" "coder" "B" (.int (0 : Int32))) (ga : n0 ≤ a1) (hp : p3 = (0 : Int32)) :
    MetFree l (⟨"java/lang/String", "<init>", "([BB)V"⟩ : MethodName) (head1 (Jvm.Cond.code (⟨"java/lang/String", "<init>", "([BB)V"⟩ : MethodName) jdk_42_method_151_code 3 none :: ws) ({ frames := 1, cells := 0, slots := 0, locals := 12 } : Room)) (fun a U => a = #[(.ref a1), (.ref a2), (.int p3)] ∧ Z.Warmed39 U.vm ∧ U.heap = h0) (fun _ _ _ _ _ => True) (fun _ U oC U' => ∃ v L, oC = .returned v ∧ Q_rm_sin Z a1 a2 p3 h0 n0 v U'.heap L ∧ FrameEnd U oC U' L ({ frames := 1, cells := 0, slots := 0, locals := 12 } : Room).cells ({ frames := 1, cells := 0, slots := 0, locals := 12 } : Room).slots) := by
  refine MetFree.of_bodySF (plainFor_of_name pn_3) hisR ?_
  intro p e s m args below meth c s₁ Bd hml0 hP hK
  obtain ⟨rfl, hZ, hh⟩ := hP
  have hx := Bd.exec
  have hby := Bd.bytes
  have hml : c.maxLocals = 3 := hml0
  have hown : s.vm.findClass "java/lang/String" = some m.cls := findClass_of_methodNamed Bd.named
  have hnm := (name_of_methodNamed Bd.named Bd.method).1
  have X0 : Stand p l e ({ frames := 1, cells := 0, slots := 0, locals := 12 } : Room) s m #[(.ref a1), (.ref a2), (.int p3)] below meth c s₁ [] 0 0 := Stand.of_body Bd
  have e0 : s₁.heap = h0 := by rw [← hh, Bd.state]; rfl
  have N0 := Fr.nil n0
  have pre0 : ∀ tg, Steps p.tables e below (s₁.setTop (mkF m 0 #[.val (.ref a1), .val (.ref a2), .val (.int p3)] [])) tg → Steps p.tables e below (s₁.setTop (entryFrame m #[(.ref a1), (.ref a2), (.int p3)] 3)) tg := fun t k => castTop (ef_rm_sin m a1 a2 p3) k
  have pre00 : ∀ tg, Steps p.tables e below (s₁.setTop (mkF m 0 #[.val (.ref a1), .val (.ref a2), .val (.int p3)] [])) tg → Steps p.tables e below (s₁.setTop (mkF m 0 #[.val (.ref a1), .val (.ref a2), .val (.int p3)] [])) tg := fun _ k => k
  have R22 : ∀ tg, Steps p.tables e below (s₁.setTop (mkF m 1 #[.val (.ref a1), .val (.ref a2), .val (.int p3)] [(.ref a1)])) tg → Steps p.tables e below (s₁.setTop (mkF m 0 #[.val (.ref a1), .val (.ref a2), .val (.int p3)] [])) tg := by
    intro tg kt
    refine pre00 _ ?_
    show Steps p.tables e below (s₁.setTop (mkF m 0 #[.val (.ref a1), .val (.ref a2), .val (.int p3)] [])) _
    refine XS.aloadN X0.here hx rfl (hb hby d4_0) rfl rfl ?_
    exact kt
  obtain ⟨T23, X23, e23, st23⟩ := initO X0 hx hZ hown (hw _ (List.mem_of_getElem? (i := 19) rfl)) (hw _ (List.mem_of_getElem? (i := 20) rfl)) (hw _ (List.mem_of_getElem? (i := 21) rfl)) e0 (g := (mkF m 1 #[.val (.ref a1), .val (.ref a2), .val (.int p3)] [(.ref a1)])) rfl (by rw [hml]; rfl) rfl (hb hby d4_1) (by decide) (W := 0) (by show 2 * 0 + _ ≤ _; exact Nat.le_of_eq rfl) (by decide)
  have R24 : ∀ tg, Steps p.tables e below (T23.setTop (mkF m 6 #[.val (.ref a1), .val (.ref a2), .val (.int p3)] [(.ref a2), (.ref a1)])) tg → Steps p.tables e below (s₁.setTop (mkF m 0 #[.val (.ref a1), .val (.ref a2), .val (.int p3)] [])) tg := by
    intro tg kt
    refine R22 _ ?_
    refine st23 _ ?_
    refine XS.aloadN X23.here hx rfl (hb hby d4_4) rfl rfl ?_
    refine XS.aloadN X23.here hx rfl (hb hby d4_5) rfl rfl ?_
    exact kt
  clear R22 st23
  obtain ⟨T25, h25, X25, e25, W25, st25⟩ := putF X23 hx hZ hown (host := "") (Or.inl (hw _ (List.mem_of_getElem? (i := 22) rfl))) Via.refl e23 Fv E1 (Or.inr ⟨(hw _ (List.mem_of_getElem? (i := 23) rfl)), rfl, hnm⟩) (hw _ (List.mem_of_getElem? (i := 10) rfl)) (ty := (.array .byte)) (by decide) rfl rfl (g := (mkF m 6 #[.val (.ref a1), .val (.ref a2), .val (.int p3)] [(.ref a2), (.ref a1)])) rfl rfl (hb hby d4_6)
  have N25 := Fr.snoc X25 N0 ga
  have Fv_25 := Fv.same W25
  have E_a1_25 := E1.wr W25
  have Fc_25 := Fc.other W25 (Or.inr (slot_ne (Or.inr (hw _ (List.mem_of_getElem? (i := 25) rfl))) (Or.inr (hw _ (List.mem_of_getElem? (i := 23) rfl))) (by decide) (t := .byte) (t' := (.array .byte)) (by decide) (by decide)))
  have Zs25 : n0 ≤ h25.size := Nat.le_trans Z0 (Keep.of_wr W25).1
  have Kw25 : Keep h0 h25 [a1] := Keep.wr (Keep.refl h0 [a1]) W25 (Or.inl (List.mem_of_getElem? (i := 0) rfl))
  have R26 : ∀ tg, Steps p.tables e below (T25.setTop (mkF m 11 #[.val (.ref a1), .val (.ref a2), .val (.int p3)] [(.int p3), (.ref a1)])) tg → Steps p.tables e below (s₁.setTop (mkF m 0 #[.val (.ref a1), .val (.ref a2), .val (.int p3)] [])) tg := by
    intro tg kt
    refine R24 _ ?_
    refine st25 _ ?_
    show Steps p.tables e below (T25.setTop (mkF m 9 #[.val (.ref a1), .val (.ref a2), .val (.int p3)] [])) _
    refine XS.aloadN X25.here hx rfl (hb hby d4_9) rfl rfl ?_
    refine XS.iloadN X25.here hx rfl (hb hby d4_10) rfl ?_
    exact kt
  clear R24 st25
  obtain ⟨T27, h27, X27, e27, W27, st27⟩ := putF X25 hx hZ hown (host := "") (Or.inl (hw _ (List.mem_of_getElem? (i := 24) rfl))) Via.refl e25 Fc_25 E_a1_25 (Or.inr ⟨(hw _ (List.mem_of_getElem? (i := 25) rfl)), rfl, hnm⟩) (hw _ (List.mem_of_getElem? (i := 10) rfl)) (ty := .byte) (by decide) (by rw [hp]; rfl) (by rw [hp]; rfl) (g := (mkF m 11 #[.val (.ref a1), .val (.ref a2), .val (.int p3)] [(.int p3), (.ref a1)])) rfl rfl (hb hby d4_11)
  have N27 := Fr.snoc X27 N25 ga
  have Fc_27 := Fc_25.same W27
  have E_a1_27 := E_a1_25.wr W27
  have Fv_27 := Fv_25.other W27 (Or.inr (slot_ne (Or.inr (hw _ (List.mem_of_getElem? (i := 23) rfl))) (Or.inr (hw _ (List.mem_of_getElem? (i := 25) rfl))) (by decide) (t := (.array .byte)) (t' := .byte) (by decide) (by decide)))
  clear E_a1_25 Fv_25
  have Zs27 : n0 ≤ h27.size := Nat.le_trans Zs25 (Keep.of_wr W27).1
  have Kw27 : Keep h0 h27 [a1] := Keep.wr Kw25 W27 (Or.inl (List.mem_of_getElem? (i := 0) rfl))
  have R28 : ∀ tg, Steps p.tables e below (T27.setTop (mkF m 14 #[.val (.ref a1), .val (.ref a2), .val (.int p3)] [])) tg → Steps p.tables e below (s₁.setTop (mkF m 0 #[.val (.ref a1), .val (.ref a2), .val (.int p3)] [])) tg := by
    intro tg kt
    refine R26 _ ?_
    refine st27 _ ?_
    exact kt
  clear R26 st27
  obtain ⟨fs, hr, hrun, hended, hW, hsame⟩ := X27.leave (v := none) (fun _ => rfl)
  refine ⟨_, _, pre0 _ (R28 _ ?_), hrun, hended, _, _, rfl, ?_, ⟨_, rfl⟩, hW, hsame.mono (by decide) (by decide)⟩
  · exact X27.returnOut hx Bd.returns (hb hby d4_14) hr
  · show Q_rm_sin Z a1 a2 p3 h0 n0 _ T27.heap _
    rw [e27]
    exact ⟨rfl, N27, Kw27, E_a1_27, Fv_27, by have q := Fc_27; rw [hp] at q; exact q⟩
theorem d1_0 : decode jdk_42_method_139_code 0 = .ok (.getstatic 38, 3) := by decide +kernel
theorem d1_3 : decode jdk_42_method_139_code 3 = .ok (.ifCond .eq 23, 3) := by decide +kernel
theorem d1_6 : decode jdk_42_method_139_code 6 = .ok (.iload_n 0, 1) := by decide +kernel
theorem pd_1 : parseMethodDescriptor "(C)Z" = some ⟨[.char], some .boolean⟩ := by decide +kernel
theorem d1_7 : decode jdk_42_method_139_code 7 = .ok (.invokestatic 1015, 3) := by decide +kernel
theorem d1_10 : decode jdk_42_method_139_code 10 = .ok (.ifCond .eq 16, 3) := by decide +kernel
theorem d1_13 : decode jdk_42_method_139_code 13 = .ok (.new 10, 3) := by decide +kernel
theorem d1_16 : decode jdk_42_method_139_code 16 = .ok (.dup, 1) := by decide +kernel
theorem d1_17 : decode jdk_42_method_139_code 17 = .ok (.iload_n 0, 1) := by decide +kernel
theorem pd_2 : parseMethodDescriptor "(C)[B" = some ⟨[.char], some (.array .byte)⟩ := by decide +kernel
theorem d1_18 : decode jdk_42_method_139_code 18 = .ok (.invokestatic 1018, 3) := by decide +kernel
theorem d1_21 : decode jdk_42_method_139_code 21 = .ok (.iconst 0, 1) := by decide +kernel
theorem pd_3 : parseMethodDescriptor "([BB)V" = some ⟨[(.array .byte), .byte], none⟩ := by decide +kernel
theorem d1_22 : decode jdk_42_method_139_code 22 = .ok (.invokespecial 209, 3) := by decide +kernel
theorem d1_25 : decode jdk_42_method_139_code 25 = .ok (.areturn, 1) := by decide +kernel
theorem ef_rm_val (m : MethodId) (p1 : Int32) : entryFrame m #[(.int p1)] 1 = mkF m 0 #[.val (.int p1)] [] := by first | (simp [entryFrame, mkF, argsToLocals, Value.category]; done) | rfl
def Q_rm_val (Z : State) (p1 : Int32) (cs : Int32) (h0 : Heap) (n0 : Nat) (v : Option Value) (h : Heap) (L : List Loc) : Prop := ∃ a t : Addr, v = some (.ref a) ∧ Fr n0 L ∧ h0.size ≤ a ∧ h0.size ≤ t ∧ Keep h0 h [] ∧ Exa Z h a "java/lang/String" ∧ Fld Z h a "java/lang/String" "value" "[B" (.ref t) ∧ Fld Z h a "java/lang/String" "coder" "B" (.int (0 : Int32)) ∧ AV Z h t .byte 1 (fun _ => .int (own_bv p1)) ∧ Exa Z h t "[B"
set_option maxRecDepth 65536 in
set_option maxHeartbeats 40000000 in
theorem rm_val (l : Launch) (Z : State) (a0 : Array Value) (hw : ∀ d ∈ tables_1, d.before a0 Z = true) (ws : List Jvm.Cond) (p1 : Int32) (cs : Int32) (h0 : Heap) (n0 : Nat) (Z0 : n0 ≤ h0.size) (SC : Sta Z Z.heap "java/lang/String" "COMPACT_STRINGS" "Z" (.int cs)) (OL : Old Z n0 h0) (hcs : ¬ (cs = (0 : Int32))) (hc : ¬ (255 : Int32) < p1) :
    MetFree l (⟨"java/lang/String", "valueOf", "(C)Ljava/lang/String;"⟩ : MethodName) (head1 (Jvm.Cond.code (⟨"java/lang/String", "valueOf", "(C)Ljava/lang/String;"⟩ : MethodName) jdk_42_method_139_code 1 (some (.object "java/lang/String")) :: ws) ({ frames := 2, cells := 2, slots := 5, locals := 27 } : Room)) (fun a U => a = #[(.int p1)] ∧ Z.Warmed39 U.vm ∧ U.heap = h0) (fun _ _ _ _ _ => True) (fun _ U oC U' => ∃ v L, oC = .returned v ∧ Q_rm_val Z p1 cs h0 n0 v U'.heap L ∧ FrameEnd U oC U' L ({ frames := 2, cells := 2, slots := 5, locals := 27 } : Room).cells ({ frames := 2, cells := 2, slots := 5, locals := 27 } : Room).slots) := by
  refine MetFree.of_bodySF (plainFor_of_name pn_3) hisR ?_
  intro p e s m args below meth c s₁ Bd hml0 hP hK
  obtain ⟨rfl, hZ, hh⟩ := hP
  have hx := Bd.exec
  have hby := Bd.bytes
  have hml : c.maxLocals = 1 := hml0
  have hown : s.vm.findClass "java/lang/String" = some m.cls := findClass_of_methodNamed Bd.named
  have hnm := (name_of_methodNamed Bd.named Bd.method).1
  have X0 : Stand p l e ({ frames := 2, cells := 2, slots := 5, locals := 27 } : Room) s m #[(.int p1)] below meth c s₁ [] 0 0 := Stand.of_body Bd
  have e0 : s₁.heap = h0 := by rw [← hh, Bd.state]; rfl
  have N0 := Fr.nil n0
  have pre0 : ∀ tg, Steps p.tables e below (s₁.setTop (mkF m 0 #[.val (.int p1)] [])) tg → Steps p.tables e below (s₁.setTop (entryFrame m #[(.int p1)] 1)) tg := fun t k => castTop (ef_rm_val m p1) k
  have pre00 : ∀ tg, Steps p.tables e below (s₁.setTop (mkF m 0 #[.val (.int p1)] [])) tg → Steps p.tables e below (s₁.setTop (mkF m 0 #[.val (.int p1)] [])) tg := fun _ k => k
  obtain ⟨T29, X29, e29, st29⟩ := getS2 X0 hx hZ hown (host := "") (Or.inl (hw _ (List.mem_of_getElem? (i := 4) rfl))) Via.refl e0 (SC.ext OL.2) (g := (mkF m 0 #[.val (.int p1)] [])) rfl (hb hby d1_0)
  have R30 : ∀ tg, Steps p.tables e below (T29.setTop (mkF m 7 #[.val (.int p1)] [(.int p1)])) tg → Steps p.tables e below (s₁.setTop (mkF m 0 #[.val (.int p1)] [])) tg := by
    intro tg kt
    refine pre00 _ ?_
    refine st29 _ ?_
    show Steps p.tables e below (T29.setTop (mkF m 3 #[.val (.int p1)] [(.int cs)])) _
    refine XS.ifNo X29.here hx rfl (hb hby d1_3) rfl ((if0 _ _).trans (feq (hcs : ¬ (cs = (0 : Int32)))).1) ?_
    refine XS.iloadN X29.here hx rfl (hb hby d1_6) rfl ?_
    exact kt
  clear st29
  obtain ⟨_, _, ⟨T31, L31, k31, n31⟩, -, X31, ⟨Lc31, hQ31, l31, y31, z31⟩, st31⟩ := Jvm.LawKit.callS X29 hx (y := (⟨"java/lang/StringLatin1", "canEncode", "(C)Z"⟩ : MethodName)) hown (mvT hZ (hw _ (List.mem_of_getElem? (i := 5) rfl))) (mvT hZ (hw _ (List.mem_of_getElem? (i := 6) rfl))) (mvT hZ (hw _ (List.mem_of_getElem? (i := 7) rfl))) (mvT hZ (hw _ (List.mem_of_getElem? (i := 8) rfl))) (by decide) (backOf (W := 0) (rm_can l Z a0 hw [] p1 h0 n0 Z0 hc) hZ (hw _ (List.mem_of_getElem? (i := 8) rfl)) (hw _ (List.mem_of_getElem? (i := 7) rfl)) (by decide) (by decide)) (g := (mkF m 7 #[.val (.int p1)] [(.int p1)])) rfl (by rw [hml]; rfl) (argsL := [(.int p1)]) (rest := []) (lenOf pd_1 rfl) rfl (by show 2 * 0 + _ ≤ _; exact Nat.le_of_eq rfl) (hb hby d1_7) (fun _ _ => ⟨rfl, e29, (by decide : 0 + 0 ≤ _), (by decide : 0 + 0 ≤ _)⟩)
  dsimp only [Pt.U, Pt.locs, Pt.cells, Pt.slots] at X31 l31 y31 z31 st31 hQ31
  rw [l31, y31, z31] at X31
  obtain ⟨rfl, N31q, hh31⟩ := hQ31
  have N31 := Fr.app N0 N31q
  have R32 : ∀ tg, Steps p.tables e below (T31.setTop (mkF m 13 #[.val (.int p1)] [])) tg → Steps p.tables e below (s₁.setTop (mkF m 0 #[.val (.int p1)] [])) tg := by
    intro tg kt
    refine R30 _ ?_
    refine st31 _ ?_
    show Steps p.tables e below (T31.setTop (mkF m 10 #[.val (.int p1)] [(.int (1 : Int32))])) _
    refine XS.ifNo X31.here hx rfl (hb hby d1_10) rfl ((if0 _ _).trans (feq (by decide : ¬ ((1 : Int32) = (0 : Int32)))).1) ?_
    exact kt
  clear R30 st31
  obtain ⟨T33, h33, X33, e33, E33, A33, D33, -, st33⟩ := newO X31 hx hZ hown (hw _ (List.mem_of_getElem? (i := 9) rfl)) (hw _ (List.mem_of_getElem? (i := 10) rfl)) (hw _ (List.mem_of_getElem? (i := 2) rfl)) hh31 (g := (mkF m 13 #[.val (.int p1)] [])) rfl (hb hby d1_13) (by decide) (by decide)
  obtain ⟨ob, g33⟩ : ∃ z, z = h0.size := ⟨_, rfl⟩
  rw [← g33] at A33 D33 st33
  have E_ob := A33
  have g_ob : n0 ≤ ob := Nat.le_trans Z0 (Nat.le_of_eq g33.symm)
  have sz_ob : h0.size ≤ ob := Nat.le_trans (Keep.refl h0 []).1 (Nat.le_of_eq g33.symm)
  have OL_33 := OL.ext E33
  have Zs33 : n0 ≤ h33.size := Nat.le_trans Z0 E33.1
  have Ke33 : Keep h0 h33 [] := Keep.ext (Keep.refl h0 []) E33
  have Fv : Fld Z h33 ob "java/lang/String" "value" "[B" .null := D33 (Or.inr (hw _ (List.mem_of_getElem? (i := 23) rfl))) (ty := (.array .byte)) (by decide)
  have Fc : Fld Z h33 ob "java/lang/String" "coder" "B" (.int (0 : Int32)) := D33 (Or.inr (hw _ (List.mem_of_getElem? (i := 25) rfl))) (ty := .byte) (by decide)
  have R34 : ∀ tg, Steps p.tables e below (T33.setTop (mkF m 18 #[.val (.int p1)] [(.int p1), (.ref ob), (.ref ob)])) tg → Steps p.tables e below (s₁.setTop (mkF m 0 #[.val (.int p1)] [])) tg := by
    intro tg kt
    refine R32 _ ?_
    refine st33 _ ?_
    refine XS.dup X33.here hx rfl (hb hby d1_16) rfl rfl ?_
    refine XS.iloadN X33.here hx rfl (hb hby d1_17) rfl ?_
    exact kt
  clear R32 st33
  obtain ⟨_, _, ⟨T35, L35, k35, n35⟩, -, X35, ⟨Lc35, hQ35, l35, y35, z35⟩, st35⟩ := Jvm.LawKit.callS X33 hx (y := (⟨"java/lang/StringLatin1", "toBytes", "(C)[B"⟩ : MethodName)) hown (mvT hZ (hw _ (List.mem_of_getElem? (i := 11) rfl))) (mvT hZ (hw _ (List.mem_of_getElem? (i := 12) rfl))) (mvT hZ (hw _ (List.mem_of_getElem? (i := 7) rfl))) (mvT hZ (hw _ (List.mem_of_getElem? (i := 13) rfl))) (by decide) (backOf (W := 2) (rm_tob l Z a0 hw [] p1 h33 n0 Zs33) hZ (hw _ (List.mem_of_getElem? (i := 13) rfl)) (hw _ (List.mem_of_getElem? (i := 7) rfl)) (by decide) (by decide)) (g := (mkF m 18 #[.val (.int p1)] [(.int p1), (.ref ob), (.ref ob)])) rfl (by rw [hml]; rfl) (argsL := [(.int p1)]) (rest := [(.ref ob), (.ref ob)]) (lenOf pd_2 rfl) rfl (by show 2 * 0 + _ ≤ _; exact Nat.le_of_eq rfl) (hb hby d1_18) (fun _ _ => ⟨rfl, e33, (by decide : 1 + 1 ≤ _), (by decide : 4 + 1 ≤ _)⟩)
  dsimp only [Pt.U, Pt.locs, Pt.cells, Pt.slots] at X35 l35 y35 z35 st35 hQ35
  rw [l35, y35, z35] at X35
  obtain ⟨ar, rfl, N35q, szr, K35, VA, EA⟩ := hQ35
  have N35 := Fr.app N31 N35q
  have szr0 : h0.size ≤ ar := Nat.le_trans Ke33.1 szr
  have g_ar : n0 ≤ ar := Nat.le_trans Zs33 szr
  have ne_ob_ar : ob ≠ ar := Nat.ne_of_lt (Nat.lt_of_lt_of_le Fv.lt szr)
  have OL_36 := OL_33.keep K35 (own_ge0)
  have Fv_36 := Fv.keep K35 own_notin0
  have Fc_36 := Fc.keep K35 own_notin0
  have E_ob_36 := E_ob.keep K35
  clear OL_33
  have Zs36 : n0 ≤ T35.heap.size := Nat.le_trans Zs33 K35.1
  have Kk36 : Keep h0 T35.heap [] := Keep.trans Ke33 K35 (own_trans0 )
  have R37 : ∀ tg, Steps p.tables e below (T35.setTop (mkF m 22 #[.val (.int p1)] [(.int (0 : Int32)), (.ref ar), (.ref ob), (.ref ob)])) tg → Steps p.tables e below (s₁.setTop (mkF m 0 #[.val (.int p1)] [])) tg := by
    intro tg kt
    refine R34 _ ?_
    refine st35 _ ?_
    show Steps p.tables e below (T35.setTop (mkF m 21 #[.val (.int p1)] [(.ref ar), (.ref ob), (.ref ob)])) _
    refine XS.iconst X35.here hx rfl (hb hby d1_21) ?_
    exact kt
  clear R34 st35
  obtain ⟨_, _, ⟨T38, L38, k38, n38⟩, -, X38, ⟨Lc38, hQ38, l38, y38, z38⟩, st38⟩ := X35.specialBack hx (y := (⟨"java/lang/String", "<init>", "([BB)V"⟩ : MethodName)) rfl hown (mvT hZ (hw _ (List.mem_of_getElem? (i := 15) rfl))) (mvT hZ (hw _ (List.mem_of_getElem? (i := 16) rfl))) (mvT hZ (hw _ (List.mem_of_getElem? (i := 18) rfl))) (by decide) (backOf (W := 1) (rm_sin l Z a0 hw [] ob ar (0 : Int32) T35.heap n0 Zs36 E_ob_36 Fv_36 Fc_36 g_ob rfl) hZ (hw _ (List.mem_of_getElem? (i := 18) rfl)) (hw _ (List.mem_of_getElem? (i := 2) rfl)) (by decide) (by decide)) (g := (mkF m 22 #[.val (.int p1)] [(.int (0 : Int32)), (.ref ar), (.ref ob), (.ref ob)])) rfl (by rw [hml]; rfl) (Steps.refl _) (a := ob) (argsL := [(.ref ar), (.int (0 : Int32))]) (rest := [(.ref ob)]) (lenOf pd_3 rfl) rfl (by show 2 * 0 + _ ≤ _; exact Nat.le_of_eq rfl) (hb hby d1_22) (fun _ _ => ⟨rfl, rfl, (by decide : 2 + 0 ≤ _), (by decide : 5 + 0 ≤ _)⟩)
  dsimp only [Pt.U, Pt.locs, Pt.cells, Pt.slots] at X38 l38 y38 z38 st38 hQ38
  rw [l38, y38, z38] at X38
  obtain ⟨rfl, N38q, K38, Eo, Fvo, Fco⟩ := hQ38
  have N38 := Fr.app N35 N38q
  have OL_39 := OL_36.keep K38 (own_ge1 g_ob)
  have VA_39 := VA.keep K38 (own_notin1 (Ne.symm ne_ob_ar))
  have E_ar_39 := EA.keep K38
  clear OL_36
  have Zs39 : n0 ≤ T38.heap.size := Nat.le_trans Zs36 K38.1
  have Kk39 : Keep h0 T38.heap [] := Keep.trans Kk36 K38 (own_trans1 (Or.inr sz_ob))
  have R40 : ∀ tg, Steps p.tables e below (T38.setTop (mkF m 25 #[.val (.int p1)] [(.ref ob)])) tg → Steps p.tables e below (s₁.setTop (mkF m 0 #[.val (.int p1)] [])) tg := by
    intro tg kt
    refine R37 _ ?_
    refine st38.trans ?_
    exact kt
  clear R37 st38
  obtain ⟨fs, hr, hrun, hended, hW, hsame⟩ := X38.leave (v := some (.ref ob)) (fun h => by rw [Bd.returns] at h; cases h)
  refine ⟨_, _, pre0 _ (R40 _ ?_), hrun, hended, _, _, rfl, ?_, ⟨_, rfl⟩, hW, hsame.mono (by decide) (by decide)⟩
  · show Steps p.tables e below (T38.setTop (mkF m 25 #[.val (.int p1)] [(.ref ob)])) _
    jvm_step X38.here [X38.here.top, hx, (hb hby d1_25), X38.method', Bd.returns, Value.isRef, FieldType.isReference]
    first | (intro acts; rw [hr _ acts rfl rfl rfl]) | rw [hr _ _ rfl rfl rfl]
    exact Steps.refl _
  · show Q_rm_val Z p1 cs h0 n0 _ T38.heap _
    exact ⟨ob, ar, rfl, N38, sz_ob, szr0, Kk39, Eo, Fvo, Fco, VA_39, E_ar_39⟩
theorem d9_0 : decode jdk_42_method_152_code 0 = .ok (.getstatic 38, 3) := by decide +kernel
theorem d9_3 : decode jdk_42_method_152_code 3 = .ok (.ifCond .eq 10, 3) := by decide +kernel
theorem d9_6 : decode jdk_42_method_152_code 6 = .ok (.aload_n 0, 1) := by decide +kernel
theorem d9_7 : decode jdk_42_method_152_code 7 = .ok (.getfield 15, 3) := by decide +kernel
theorem d9_10 : decode jdk_42_method_152_code 10 = .ok (.goto 4, 3) := by decide +kernel
theorem d9_14 : decode jdk_42_method_152_code 14 = .ok (.ireturn, 1) := by decide +kernel
theorem ef_rm_cod (m : MethodId) (a1 : Addr) : entryFrame m #[(.ref a1)] 1 = mkF m 0 #[.val (.ref a1)] [] := by first | (simp [entryFrame, mkF, argsToLocals, Value.category]; done) | rfl
def Q_rm_cod (Z : State) (a1 : Addr) (cs : Int32) (h0 : Heap) (n0 : Nat) (v : Option Value) (h : Heap) (L : List Loc) : Prop := v = some (.int (0 : Int32)) ∧ Fr n0 L ∧ h = h0
set_option maxRecDepth 65536 in
set_option maxHeartbeats 40000000 in
theorem rm_cod (l : Launch) (Z : State) (a0 : Array Value) (hw : ∀ d ∈ tables_1, d.before a0 Z = true) (ws : List Jvm.Cond) (a1 : Addr) (cs : Int32) (h0 : Heap) (n0 : Nat) (Z0 : n0 ≤ h0.size) (SC : Sta Z Z.heap "java/lang/String" "COMPACT_STRINGS" "Z" (.int cs)) (OL : Old Z n0 h0) (hcs : ¬ (cs = (0 : Int32))) (Fc : Fld Z h0 a1 "java/lang/String" "coder" "B" (.int (0 : Int32))) :
    MetFree l (⟨"java/lang/String", "coder", "()B"⟩ : MethodName) (head1 (Jvm.Cond.code (⟨"java/lang/String", "coder", "()B"⟩ : MethodName) jdk_42_method_152_code 1 (some .byte) :: ws) ({ frames := 0, cells := 0, slots := 0, locals := 0 } : Room)) (fun a U => a = #[(.ref a1)] ∧ Z.Warmed39 U.vm ∧ U.heap = h0) (fun _ _ _ _ _ => True) (fun _ U oC U' => ∃ v L, oC = .returned v ∧ Q_rm_cod Z a1 cs h0 n0 v U'.heap L ∧ FrameEnd U oC U' L ({ frames := 0, cells := 0, slots := 0, locals := 0 } : Room).cells ({ frames := 0, cells := 0, slots := 0, locals := 0 } : Room).slots) := by
  refine MetFree.of_bodySF (plainFor_of_name pn_3) hisR ?_
  intro p e s m args below meth c s₁ Bd hml0 hP hK
  obtain ⟨rfl, hZ, hh⟩ := hP
  have hx := Bd.exec
  have hby := Bd.bytes
  have hml : c.maxLocals = 1 := hml0
  have hown : s.vm.findClass "java/lang/String" = some m.cls := findClass_of_methodNamed Bd.named
  have hnm := (name_of_methodNamed Bd.named Bd.method).1
  have X0 : Stand p l e ({ frames := 0, cells := 0, slots := 0, locals := 0 } : Room) s m #[(.ref a1)] below meth c s₁ [] 0 0 := Stand.of_body Bd
  have e0 : s₁.heap = h0 := by rw [← hh, Bd.state]; rfl
  have N0 := Fr.nil n0
  have pre0 : ∀ tg, Steps p.tables e below (s₁.setTop (mkF m 0 #[.val (.ref a1)] [])) tg → Steps p.tables e below (s₁.setTop (entryFrame m #[(.ref a1)] 1)) tg := fun t k => castTop (ef_rm_cod m a1) k
  have pre00 : ∀ tg, Steps p.tables e below (s₁.setTop (mkF m 0 #[.val (.ref a1)] [])) tg → Steps p.tables e below (s₁.setTop (mkF m 0 #[.val (.ref a1)] [])) tg := fun _ k => k
  obtain ⟨T41, X41, e41, st41⟩ := getS2 X0 hx hZ hown (host := "") (Or.inl (hw _ (List.mem_of_getElem? (i := 4) rfl))) Via.refl e0 (SC.ext OL.2) (g := (mkF m 0 #[.val (.ref a1)] [])) rfl (hb hby d9_0)
  have R42 : ∀ tg, Steps p.tables e below (T41.setTop (mkF m 7 #[.val (.ref a1)] [(.ref a1)])) tg → Steps p.tables e below (s₁.setTop (mkF m 0 #[.val (.ref a1)] [])) tg := by
    intro tg kt
    refine pre00 _ ?_
    refine st41 _ ?_
    show Steps p.tables e below (T41.setTop (mkF m 3 #[.val (.ref a1)] [(.int cs)])) _
    refine XS.ifNo X41.here hx rfl (hb hby d9_3) rfl ((if0 _ _).trans (feq (hcs : ¬ (cs = (0 : Int32)))).1) ?_
    refine XS.aloadN X41.here hx rfl (hb hby d9_6) rfl rfl ?_
    exact kt
  clear st41
  obtain ⟨T43, X43, e43, st43⟩ := getF X41 hx hZ hown (host := "") (Or.inl (hw _ (List.mem_of_getElem? (i := 24) rfl))) Via.refl e41 Fc (g := (mkF m 7 #[.val (.ref a1)] [(.ref a1)])) rfl rfl (hb hby d9_7)
  have R44 : ∀ tg, Steps p.tables e below (T43.setTop (mkF m 14 #[.val (.ref a1)] [(.int (0 : Int32))])) tg → Steps p.tables e below (s₁.setTop (mkF m 0 #[.val (.ref a1)] [])) tg := by
    intro tg kt
    refine R42 _ ?_
    refine st43 _ ?_
    show Steps p.tables e below (T43.setTop (mkF m 10 #[.val (.ref a1)] [(.int (0 : Int32))])) _
    refine XS.goto X43.here hx rfl (pc0 := 10) (pc' := 14) rfl (hb hby d9_10) (by decide) (by decide) ?_
    exact kt
  clear R42 st43
  obtain ⟨fs, hr, hrun, hended, hW, hsame⟩ := X43.leave (v := some (.int (0 : Int32))) (fun h => by rw [Bd.returns] at h; cases h)
  refine ⟨_, _, pre0 _ (R44 _ ?_), hrun, hended, _, _, rfl, ?_, ⟨_, rfl⟩, hW, hsame.mono (by decide) (by decide)⟩
  · exact retN X43 hx (t := .byte) Bd.returns (by simp) (hb hby d9_14) hr
  · show Q_rm_cod Z a1 cs h0 n0 _ T43.heap _
    rw [e43]
    exact ⟨rfl, N0, rfl⟩
theorem pn_4 : plainName "java/lang/StringCoding" = true := by first | (simp [plainName, overriddenIn]; done) | decide +kernel
theorem d13_0 : decode jdk_123_method_3_code 0 = .ok (.iload_n 1, 1) := by decide +kernel
theorem d13_1 : decode jdk_123_method_3_code 1 = .ok (.iload_n 2, 1) := by decide +kernel
theorem d13_2 : decode jdk_123_method_3_code 2 = .ok (.iadd, 1) := by decide +kernel
theorem d13_3 : decode jdk_123_method_3_code 3 = .ok (.istore_n 3, 1) := by decide +kernel
theorem d13_4 : decode jdk_123_method_3_code 4 = .ok (.iload_n 1, 1) := by decide +kernel
theorem d13_5 : decode jdk_123_method_3_code 5 = .ok (.istore 4, 2) := by decide +kernel
theorem d13_7 : decode jdk_123_method_3_code 7 = .ok (.iload 4, 2) := by decide +kernel
theorem d13_9 : decode jdk_123_method_3_code 9 = .ok (.iload_n 3, 1) := by decide +kernel
theorem d13_10 : decode jdk_123_method_3_code 10 = .ok (.if_icmp .ge 21, 3) := by decide +kernel
theorem d13_13 : decode jdk_123_method_3_code 13 = .ok (.aload_n 0, 1) := by decide +kernel
theorem d13_14 : decode jdk_123_method_3_code 14 = .ok (.iload 4, 2) := by decide +kernel
theorem d13_16 : decode jdk_123_method_3_code 16 = .ok (.baload, 1) := by decide +kernel
theorem d13_17 : decode jdk_123_method_3_code 17 = .ok (.ifCond .ge 8, 3) := by decide +kernel
theorem d13_25 : decode jdk_123_method_3_code 25 = .ok (.iinc 4 1, 3) := by decide +kernel
theorem d13_28 : decode jdk_123_method_3_code 28 = .ok (.goto (-21), 3) := by decide +kernel
theorem d13_31 : decode jdk_123_method_3_code 31 = .ok (.iload_n 2, 1) := by decide +kernel
theorem d13_32 : decode jdk_123_method_3_code 32 = .ok (.ireturn, 1) := by decide +kernel
theorem ef_rm_cpa (m : MethodId) (a1 : Addr) (p2 : Int32) (p3 : Int32) : entryFrame m #[(.ref a1), (.int p2), (.int p3)] 5 = mkF m 0 #[.val (.ref a1), .val (.int p2), .val (.int p3), .unset, .unset] [] := by first | (simp [entryFrame, mkF, argsToLocals, Value.category]; done) | rfl
def Q_rm_cpa (Z : State) (a1 : Addr) (p2 : Int32) (p3 : Int32) (bv : Int32) (h0 : Heap) (n0 : Nat) (v : Option Value) (h : Heap) (L : List Loc) : Prop := v = some (.int (1 : Int32)) ∧ Fr n0 L ∧ h = h0
set_option maxRecDepth 65536 in
set_option maxHeartbeats 40000000 in
theorem rm_cpa (l : Launch) (Z : State) (a0 : Array Value) (hw : ∀ d ∈ tables_1, d.before a0 Z = true) (ws : List Jvm.Cond) (a1 : Addr) (p2 : Int32) (p3 : Int32) (bv : Int32) (h0 : Heap) (n0 : Nat) (Z0 : n0 ≤ h0.size) (VA : AV Z h0 a1 .byte 1 (fun _ => .int bv)) (hp2 : p2 = (0 : Int32)) (hp3 : p3 = (1 : Int32)) (hbv : ¬ bv < (0 : Int32)) :
    MetFree l (⟨"java/lang/StringCoding", "countPositives", "([BII)I"⟩ : MethodName) (head1 (Jvm.Cond.code (⟨"java/lang/StringCoding", "countPositives", "([BII)I"⟩ : MethodName) jdk_123_method_3_code 5 (some .int) :: ws) ({ frames := 0, cells := 0, slots := 0, locals := 0 } : Room)) (fun a U => a = #[(.ref a1), (.int p2), (.int p3)] ∧ Z.Warmed39 U.vm ∧ U.heap = h0) (fun _ _ _ _ _ => True) (fun _ U oC U' => ∃ v L, oC = .returned v ∧ Q_rm_cpa Z a1 p2 p3 bv h0 n0 v U'.heap L ∧ FrameEnd U oC U' L ({ frames := 0, cells := 0, slots := 0, locals := 0 } : Room).cells ({ frames := 0, cells := 0, slots := 0, locals := 0 } : Room).slots) := by
  refine MetFree.of_bodySF (plainFor_of_name pn_4) hisR ?_
  intro p e s m args below meth c s₁ Bd hml0 hP hK
  obtain ⟨rfl, hZ, hh⟩ := hP
  have hx := Bd.exec
  have hby := Bd.bytes
  have hml : c.maxLocals = 5 := hml0
  have hown : s.vm.findClass "java/lang/StringCoding" = some m.cls := findClass_of_methodNamed Bd.named
  have hnm := (name_of_methodNamed Bd.named Bd.method).1
  have X0 : Stand p l e ({ frames := 0, cells := 0, slots := 0, locals := 0 } : Room) s m #[(.ref a1), (.int p2), (.int p3)] below meth c s₁ [] 0 0 := Stand.of_body Bd
  have e0 : s₁.heap = h0 := by rw [← hh, Bd.state]; rfl
  have N0 := Fr.nil n0
  have pre0 : ∀ tg, Steps p.tables e below (s₁.setTop (mkF m 0 #[.val (.ref a1), .val (.int p2), .val (.int p3), .unset, .unset] [])) tg → Steps p.tables e below (s₁.setTop (entryFrame m #[(.ref a1), (.int p2), (.int p3)] 5)) tg := fun t k => castTop (ef_rm_cpa m a1 p2 p3) k
  have pre00 : ∀ tg, Steps p.tables e below (s₁.setTop (mkF m 0 #[.val (.ref a1), .val (.int p2), .val (.int p3), .unset, .unset] [])) tg → Steps p.tables e below (s₁.setTop (mkF m 0 #[.val (.ref a1), .val (.int p2), .val (.int p3), .unset, .unset] [])) tg := fun _ k => k
  have R45 : ∀ tg, Steps p.tables e below (s₁.setTop (mkF m 16 #[.val (.ref a1), .val (.int p2), .val (.int p3), .val (.int (p2 + p3)), .val (.int p2)] [(.int p2), (.ref a1)])) tg → Steps p.tables e below (s₁.setTop (mkF m 0 #[.val (.ref a1), .val (.int p2), .val (.int p3), .unset, .unset] [])) tg := by
    intro tg kt
    refine pre00 _ ?_
    show Steps p.tables e below (s₁.setTop (mkF m 0 #[.val (.ref a1), .val (.int p2), .val (.int p3), .unset, .unset] [])) _
    refine XS.iloadN X0.here hx rfl (hb hby d13_0) rfl ?_
    refine XS.iloadN X0.here hx rfl (hb hby d13_1) rfl ?_
    show Steps p.tables e below (s₁.setTop (mkF m 2 #[.val (.ref a1), .val (.int p2), .val (.int p3), .unset, .unset] [(.int p3), (.int p2)])) _
    refine XS.iadd X0.here hx rfl (hb hby d13_2) rfl ?_
    show Steps p.tables e below (s₁.setTop (mkF m 3 #[.val (.ref a1), .val (.int p2), .val (.int p3), .unset, .unset] [(.int (p2 + p3))])) _
    refine XS.istoreN X0.here hx rfl (hb hby d13_3) rfl (l' := #[.val (.ref a1), .val (.int p2), .val (.int p3), .val (.int (p2 + p3)), .unset]) rfl ?_
    refine XS.iloadN X0.here hx rfl (hb hby d13_4) rfl ?_
    show Steps p.tables e below (s₁.setTop (mkF m 5 #[.val (.ref a1), .val (.int p2), .val (.int p3), .val (.int (p2 + p3)), .unset] [(.int p2)])) _
    refine XS.istore X0.here hx rfl (hb hby d13_5) rfl (l' := #[.val (.ref a1), .val (.int p2), .val (.int p3), .val (.int (p2 + p3)), .val (.int p2)]) rfl ?_
    refine XS.iload X0.here hx rfl (hb hby d13_7) rfl ?_
    refine XS.iloadN X0.here hx rfl (hb hby d13_9) rfl ?_
    show Steps p.tables e below (s₁.setTop (mkF m 10 #[.val (.ref a1), .val (.int p2), .val (.int p3), .val (.int (p2 + p3)), .val (.int p2)] [(.int (p2 + p3)), (.int p2)])) _
    refine XS.icmpNo X0.here hx rfl (hb hby d13_10) rfl (tlt (by rw [hp2, hp3]; decide : p2 < (p2 + p3))).2.1 ?_
    refine XS.aloadN X0.here hx rfl (hb hby d13_13) rfl rfl ?_
    refine XS.iload X0.here hx rfl (hb hby d13_14) rfl ?_
    exact kt
  obtain ⟨cl46, Ar46, hin46, hat46⟩ := VA.at (j := p2) (k := 0) (by rw [hp2]; decide) (by rw [hp2]; rfl) (by decide)
  have R47 : ∀ tg, Steps p.tables e below (s₁.setTop (mkF m 32 #[.val (.ref a1), .val (.int p2), .val (.int p3), .val (.int (p2 + p3)), .val (.int (p2 + (1 : Int32)))] [(.int p3)])) tg → Steps p.tables e below (s₁.setTop (mkF m 0 #[.val (.ref a1), .val (.int p2), .val (.int p3), .unset, .unset] [])) tg := by
    intro tg kt
    refine R45 _ ?_
    show Steps p.tables e below (s₁.setTop (mkF m 16 #[.val (.ref a1), .val (.int p2), .val (.int p3), .val (.int (p2 + p3)), .val (.int p2)] [(.int p2), (.ref a1)])) _
    refine X0.baloadBytes hx (j := p2) (v := (.int bv)) (by rw [e0]; exact Ar46.1) (State.isArrayOf_alike hZ.alike Ar46.2.1) Ar46.2.2 hin46 hat46 (g := (mkF m 16 #[.val (.ref a1), .val (.int p2), .val (.int p3), .val (.int (p2 + p3)), .val (.int p2)] [(.int p2), (.ref a1)])) rfl rfl (hb hby d13_16) _ ?_
    show Steps p.tables e below (s₁.setTop (mkF m 17 #[.val (.ref a1), .val (.int p2), .val (.int p3), .val (.int (p2 + p3)), .val (.int p2)] [(.int bv)])) _
    refine XS.ifYes X0.here hx rfl (pc0 := 17) (pc' := 25) rfl (hb hby d13_17) rfl ((if0 _ _).trans (flt (hbv : ¬ (bv < (0 : Int32)))).2.1) (by decide) (by decide) ?_
    show Steps p.tables e below (s₁.setTop (mkF m 25 #[.val (.ref a1), .val (.int p2), .val (.int p3), .val (.int (p2 + p3)), .val (.int p2)] [])) _
    refine XS.iinc X0.here hx rfl (hb hby d13_25) rfl (l' := #[.val (.ref a1), .val (.int p2), .val (.int p3), .val (.int (p2 + p3)), .val (.int (p2 + (1 : Int32)))]) rfl ?_
    show Steps p.tables e below (s₁.setTop (mkF m 28 #[.val (.ref a1), .val (.int p2), .val (.int p3), .val (.int (p2 + p3)), .val (.int (p2 + (1 : Int32)))] [])) _
    refine XS.goto X0.here hx rfl (pc0 := 28) (pc' := 7) rfl (hb hby d13_28) (by decide) (by decide) ?_
    refine XS.iload X0.here hx rfl (hb hby d13_7) rfl ?_
    refine XS.iloadN X0.here hx rfl (hb hby d13_9) rfl ?_
    show Steps p.tables e below (s₁.setTop (mkF m 10 #[.val (.ref a1), .val (.int p2), .val (.int p3), .val (.int (p2 + p3)), .val (.int (p2 + (1 : Int32)))] [(.int (p2 + p3)), (.int (p2 + (1 : Int32)))])) _
    refine XS.icmpYes X0.here hx rfl (pc0 := 10) (pc' := 31) rfl (hb hby d13_10) rfl (flt (by rw [hp2, hp3]; decide : ¬ ((p2 + (1 : Int32)) < (p2 + p3)))).2.1 (by decide) (by decide) ?_
    refine XS.iloadN X0.here hx rfl (hb hby d13_31) rfl ?_
    exact kt
  clear R45
  obtain ⟨fs, hr, hrun, hended, hW, hsame⟩ := X0.leave (v := some (.int p3)) (fun h => by rw [Bd.returns] at h; cases h)
  refine ⟨_, _, pre0 _ (R47 _ ?_), hrun, hended, _, _, rfl, ?_, ⟨_, rfl⟩, hW, hsame.mono (by decide) (by decide)⟩
  · exact retI X0 hx Bd.returns (hb hby d13_32) hr
  · show Q_rm_cpa Z a1 p2 p3 bv h0 n0 _ s₁.heap _
    rw [e0]
    exact ⟨by rw [hp3], N0, rfl⟩
theorem d13_20 : decode jdk_123_method_3_code 20 = .ok (.iload 4, 2) := by decide +kernel
theorem d13_22 : decode jdk_123_method_3_code 22 = .ok (.iload_n 1, 1) := by decide +kernel
theorem d13_23 : decode jdk_123_method_3_code 23 = .ok (.isub, 1) := by decide +kernel
theorem d13_24 : decode jdk_123_method_3_code 24 = .ok (.ireturn, 1) := by decide +kernel
theorem ef_rm_cpb (m : MethodId) (a1 : Addr) (p2 : Int32) (p3 : Int32) : entryFrame m #[(.ref a1), (.int p2), (.int p3)] 5 = mkF m 0 #[.val (.ref a1), .val (.int p2), .val (.int p3), .unset, .unset] [] := by first | (simp [entryFrame, mkF, argsToLocals, Value.category]; done) | rfl
def Q_rm_cpb (Z : State) (a1 : Addr) (p2 : Int32) (p3 : Int32) (bv : Int32) (h0 : Heap) (n0 : Nat) (v : Option Value) (h : Heap) (L : List Loc) : Prop := v = some (.int (0 : Int32)) ∧ Fr n0 L ∧ h = h0
set_option maxRecDepth 65536 in
set_option maxHeartbeats 40000000 in
theorem rm_cpb (l : Launch) (Z : State) (a0 : Array Value) (hw : ∀ d ∈ tables_1, d.before a0 Z = true) (ws : List Jvm.Cond) (a1 : Addr) (p2 : Int32) (p3 : Int32) (bv : Int32) (h0 : Heap) (n0 : Nat) (Z0 : n0 ≤ h0.size) (VA : AV Z h0 a1 .byte 1 (fun _ => .int bv)) (hp2 : p2 = (0 : Int32)) (hp3 : p3 = (1 : Int32)) (hbv : bv < (0 : Int32)) :
    MetFree l (⟨"java/lang/StringCoding", "countPositives", "([BII)I"⟩ : MethodName) (head1 (Jvm.Cond.code (⟨"java/lang/StringCoding", "countPositives", "([BII)I"⟩ : MethodName) jdk_123_method_3_code 5 (some .int) :: ws) ({ frames := 0, cells := 0, slots := 0, locals := 0 } : Room)) (fun a U => a = #[(.ref a1), (.int p2), (.int p3)] ∧ Z.Warmed39 U.vm ∧ U.heap = h0) (fun _ _ _ _ _ => True) (fun _ U oC U' => ∃ v L, oC = .returned v ∧ Q_rm_cpb Z a1 p2 p3 bv h0 n0 v U'.heap L ∧ FrameEnd U oC U' L ({ frames := 0, cells := 0, slots := 0, locals := 0 } : Room).cells ({ frames := 0, cells := 0, slots := 0, locals := 0 } : Room).slots) := by
  refine MetFree.of_bodySF (plainFor_of_name pn_4) hisR ?_
  intro p e s m args below meth c s₁ Bd hml0 hP hK
  obtain ⟨rfl, hZ, hh⟩ := hP
  have hx := Bd.exec
  have hby := Bd.bytes
  have hml : c.maxLocals = 5 := hml0
  have hown : s.vm.findClass "java/lang/StringCoding" = some m.cls := findClass_of_methodNamed Bd.named
  have hnm := (name_of_methodNamed Bd.named Bd.method).1
  have X0 : Stand p l e ({ frames := 0, cells := 0, slots := 0, locals := 0 } : Room) s m #[(.ref a1), (.int p2), (.int p3)] below meth c s₁ [] 0 0 := Stand.of_body Bd
  have e0 : s₁.heap = h0 := by rw [← hh, Bd.state]; rfl
  have N0 := Fr.nil n0
  have pre0 : ∀ tg, Steps p.tables e below (s₁.setTop (mkF m 0 #[.val (.ref a1), .val (.int p2), .val (.int p3), .unset, .unset] [])) tg → Steps p.tables e below (s₁.setTop (entryFrame m #[(.ref a1), (.int p2), (.int p3)] 5)) tg := fun t k => castTop (ef_rm_cpb m a1 p2 p3) k
  have pre00 : ∀ tg, Steps p.tables e below (s₁.setTop (mkF m 0 #[.val (.ref a1), .val (.int p2), .val (.int p3), .unset, .unset] [])) tg → Steps p.tables e below (s₁.setTop (mkF m 0 #[.val (.ref a1), .val (.int p2), .val (.int p3), .unset, .unset] [])) tg := fun _ k => k
  have R48 : ∀ tg, Steps p.tables e below (s₁.setTop (mkF m 16 #[.val (.ref a1), .val (.int p2), .val (.int p3), .val (.int (p2 + p3)), .val (.int p2)] [(.int p2), (.ref a1)])) tg → Steps p.tables e below (s₁.setTop (mkF m 0 #[.val (.ref a1), .val (.int p2), .val (.int p3), .unset, .unset] [])) tg := by
    intro tg kt
    refine pre00 _ ?_
    show Steps p.tables e below (s₁.setTop (mkF m 0 #[.val (.ref a1), .val (.int p2), .val (.int p3), .unset, .unset] [])) _
    refine XS.iloadN X0.here hx rfl (hb hby d13_0) rfl ?_
    refine XS.iloadN X0.here hx rfl (hb hby d13_1) rfl ?_
    show Steps p.tables e below (s₁.setTop (mkF m 2 #[.val (.ref a1), .val (.int p2), .val (.int p3), .unset, .unset] [(.int p3), (.int p2)])) _
    refine XS.iadd X0.here hx rfl (hb hby d13_2) rfl ?_
    show Steps p.tables e below (s₁.setTop (mkF m 3 #[.val (.ref a1), .val (.int p2), .val (.int p3), .unset, .unset] [(.int (p2 + p3))])) _
    refine XS.istoreN X0.here hx rfl (hb hby d13_3) rfl (l' := #[.val (.ref a1), .val (.int p2), .val (.int p3), .val (.int (p2 + p3)), .unset]) rfl ?_
    refine XS.iloadN X0.here hx rfl (hb hby d13_4) rfl ?_
    show Steps p.tables e below (s₁.setTop (mkF m 5 #[.val (.ref a1), .val (.int p2), .val (.int p3), .val (.int (p2 + p3)), .unset] [(.int p2)])) _
    refine XS.istore X0.here hx rfl (hb hby d13_5) rfl (l' := #[.val (.ref a1), .val (.int p2), .val (.int p3), .val (.int (p2 + p3)), .val (.int p2)]) rfl ?_
    refine XS.iload X0.here hx rfl (hb hby d13_7) rfl ?_
    refine XS.iloadN X0.here hx rfl (hb hby d13_9) rfl ?_
    show Steps p.tables e below (s₁.setTop (mkF m 10 #[.val (.ref a1), .val (.int p2), .val (.int p3), .val (.int (p2 + p3)), .val (.int p2)] [(.int (p2 + p3)), (.int p2)])) _
    refine XS.icmpNo X0.here hx rfl (hb hby d13_10) rfl (tlt (by rw [hp2, hp3]; decide : p2 < (p2 + p3))).2.1 ?_
    refine XS.aloadN X0.here hx rfl (hb hby d13_13) rfl rfl ?_
    refine XS.iload X0.here hx rfl (hb hby d13_14) rfl ?_
    exact kt
  obtain ⟨cl49, Ar49, hin49, hat49⟩ := VA.at (j := p2) (k := 0) (by rw [hp2]; decide) (by rw [hp2]; rfl) (by decide)
  have R50 : ∀ tg, Steps p.tables e below (s₁.setTop (mkF m 24 #[.val (.ref a1), .val (.int p2), .val (.int p3), .val (.int (p2 + p3)), .val (.int p2)] [(.int (p2 - p2))])) tg → Steps p.tables e below (s₁.setTop (mkF m 0 #[.val (.ref a1), .val (.int p2), .val (.int p3), .unset, .unset] [])) tg := by
    intro tg kt
    refine R48 _ ?_
    show Steps p.tables e below (s₁.setTop (mkF m 16 #[.val (.ref a1), .val (.int p2), .val (.int p3), .val (.int (p2 + p3)), .val (.int p2)] [(.int p2), (.ref a1)])) _
    refine X0.baloadBytes hx (j := p2) (v := (.int bv)) (by rw [e0]; exact Ar49.1) (State.isArrayOf_alike hZ.alike Ar49.2.1) Ar49.2.2 hin49 hat49 (g := (mkF m 16 #[.val (.ref a1), .val (.int p2), .val (.int p3), .val (.int (p2 + p3)), .val (.int p2)] [(.int p2), (.ref a1)])) rfl rfl (hb hby d13_16) _ ?_
    show Steps p.tables e below (s₁.setTop (mkF m 17 #[.val (.ref a1), .val (.int p2), .val (.int p3), .val (.int (p2 + p3)), .val (.int p2)] [(.int bv)])) _
    refine XS.ifNo X0.here hx rfl (hb hby d13_17) rfl ((if0 _ _).trans (tlt (hbv : bv < (0 : Int32))).2.1) ?_
    refine XS.iload X0.here hx rfl (hb hby d13_20) rfl ?_
    refine XS.iloadN X0.here hx rfl (hb hby d13_22) rfl ?_
    show Steps p.tables e below (s₁.setTop (mkF m 23 #[.val (.ref a1), .val (.int p2), .val (.int p3), .val (.int (p2 + p3)), .val (.int p2)] [(.int p2), (.int p2)])) _
    refine XS.isub X0.here hx rfl (hb hby d13_23) rfl ?_
    exact kt
  clear R48
  obtain ⟨fs, hr, hrun, hended, hW, hsame⟩ := X0.leave (v := some (.int (p2 - p2))) (fun h => by rw [Bd.returns] at h; cases h)
  refine ⟨_, _, pre0 _ (R50 _ ?_), hrun, hended, _, _, rfl, ?_, ⟨_, rfl⟩, hW, hsame.mono (by decide) (by decide)⟩
  · exact retI X0 hx Bd.returns (hb hby d13_24) hr
  · show Q_rm_cpb Z a1 p2 p3 bv h0 n0 _ s₁.heap _
    rw [e0]
    exact ⟨by rw [own_eqz p2 hp2], N0, rfl⟩
theorem d12_0 : decode jdk_123_method_2_code 0 = .ok (.aload_n 0, 1) := by decide +kernel
theorem d12_1 : decode jdk_123_method_2_code 1 = .ok (.iload_n 1, 1) := by decide +kernel
theorem d12_2 : decode jdk_123_method_2_code 2 = .ok (.iload_n 2, 1) := by decide +kernel
theorem pd_4 : parseMethodDescriptor "([BII)I" = some ⟨[(.array .byte), .int, .int], some .int⟩ := by decide +kernel
theorem d12_3 : decode jdk_123_method_2_code 3 = .ok (.invokestatic 7, 3) := by decide +kernel
theorem d12_6 : decode jdk_123_method_2_code 6 = .ok (.iload_n 2, 1) := by decide +kernel
theorem d12_7 : decode jdk_123_method_2_code 7 = .ok (.if_icmp .eq 7, 3) := by decide +kernel
theorem d12_14 : decode jdk_123_method_2_code 14 = .ok (.iconst 0, 1) := by decide +kernel
theorem d12_15 : decode jdk_123_method_2_code 15 = .ok (.ireturn, 1) := by decide +kernel
theorem ef_rm_hna (m : MethodId) (a1 : Addr) (p2 : Int32) (p3 : Int32) : entryFrame m #[(.ref a1), (.int p2), (.int p3)] 3 = mkF m 0 #[.val (.ref a1), .val (.int p2), .val (.int p3)] [] := by first | (simp [entryFrame, mkF, argsToLocals, Value.category]; done) | rfl
def Q_rm_hna (Z : State) (a1 : Addr) (p2 : Int32) (p3 : Int32) (bv : Int32) (h0 : Heap) (n0 : Nat) (v : Option Value) (h : Heap) (L : List Loc) : Prop := v = some (.int (0 : Int32)) ∧ Fr n0 L ∧ h = h0
set_option maxRecDepth 65536 in
set_option maxHeartbeats 40000000 in
theorem rm_hna (l : Launch) (Z : State) (a0 : Array Value) (hw : ∀ d ∈ tables_1, d.before a0 Z = true) (ws : List Jvm.Cond) (a1 : Addr) (p2 : Int32) (p3 : Int32) (bv : Int32) (h0 : Heap) (n0 : Nat) (Z0 : n0 ≤ h0.size) (VA : AV Z h0 a1 .byte 1 (fun _ => .int bv)) (hp2 : p2 = (0 : Int32)) (hp3 : p3 = (1 : Int32)) (hbv : ¬ bv < (0 : Int32)) :
    MetFree l (⟨"java/lang/StringCoding", "hasNegatives", "([BII)Z"⟩ : MethodName) (head1 (Jvm.Cond.code (⟨"java/lang/StringCoding", "hasNegatives", "([BII)Z"⟩ : MethodName) jdk_123_method_2_code 3 (some .boolean) :: ws) ({ frames := 1, cells := 0, slots := 0, locals := 16 } : Room)) (fun a U => a = #[(.ref a1), (.int p2), (.int p3)] ∧ Z.Warmed39 U.vm ∧ U.heap = h0) (fun _ _ _ _ _ => True) (fun _ U oC U' => ∃ v L, oC = .returned v ∧ Q_rm_hna Z a1 p2 p3 bv h0 n0 v U'.heap L ∧ FrameEnd U oC U' L ({ frames := 1, cells := 0, slots := 0, locals := 16 } : Room).cells ({ frames := 1, cells := 0, slots := 0, locals := 16 } : Room).slots) := by
  refine MetFree.of_bodySF (plainFor_of_name pn_4) hisR ?_
  intro p e s m args below meth c s₁ Bd hml0 hP hK
  obtain ⟨rfl, hZ, hh⟩ := hP
  have hx := Bd.exec
  have hby := Bd.bytes
  have hml : c.maxLocals = 3 := hml0
  have hown : s.vm.findClass "java/lang/StringCoding" = some m.cls := findClass_of_methodNamed Bd.named
  have hnm := (name_of_methodNamed Bd.named Bd.method).1
  have X0 : Stand p l e ({ frames := 1, cells := 0, slots := 0, locals := 16 } : Room) s m #[(.ref a1), (.int p2), (.int p3)] below meth c s₁ [] 0 0 := Stand.of_body Bd
  have e0 : s₁.heap = h0 := by rw [← hh, Bd.state]; rfl
  have N0 := Fr.nil n0
  have pre0 : ∀ tg, Steps p.tables e below (s₁.setTop (mkF m 0 #[.val (.ref a1), .val (.int p2), .val (.int p3)] [])) tg → Steps p.tables e below (s₁.setTop (entryFrame m #[(.ref a1), (.int p2), (.int p3)] 3)) tg := fun t k => castTop (ef_rm_hna m a1 p2 p3) k
  have pre00 : ∀ tg, Steps p.tables e below (s₁.setTop (mkF m 0 #[.val (.ref a1), .val (.int p2), .val (.int p3)] [])) tg → Steps p.tables e below (s₁.setTop (mkF m 0 #[.val (.ref a1), .val (.int p2), .val (.int p3)] [])) tg := fun _ k => k
  have R51 : ∀ tg, Steps p.tables e below (s₁.setTop (mkF m 3 #[.val (.ref a1), .val (.int p2), .val (.int p3)] [(.int p3), (.int p2), (.ref a1)])) tg → Steps p.tables e below (s₁.setTop (mkF m 0 #[.val (.ref a1), .val (.int p2), .val (.int p3)] [])) tg := by
    intro tg kt
    refine pre00 _ ?_
    show Steps p.tables e below (s₁.setTop (mkF m 0 #[.val (.ref a1), .val (.int p2), .val (.int p3)] [])) _
    refine XS.aloadN X0.here hx rfl (hb hby d12_0) rfl rfl ?_
    refine XS.iloadN X0.here hx rfl (hb hby d12_1) rfl ?_
    refine XS.iloadN X0.here hx rfl (hb hby d12_2) rfl ?_
    exact kt
  obtain ⟨_, _, ⟨T52, L52, k52, n52⟩, -, X52, ⟨Lc52, hQ52, l52, y52, z52⟩, st52⟩ := Jvm.LawKit.callS X0 hx (y := (⟨"java/lang/StringCoding", "countPositives", "([BII)I"⟩ : MethodName)) hown (mvT hZ (hw _ (List.mem_of_getElem? (i := 60) rfl))) (mvT hZ (hw _ (List.mem_of_getElem? (i := 61) rfl))) (mvT hZ (hw _ (List.mem_of_getElem? (i := 58) rfl))) (mvT hZ (hw _ (List.mem_of_getElem? (i := 62) rfl))) (by decide) (backOf (W := 0) (rm_cpa l Z a0 hw [] a1 p2 p3 bv h0 n0 Z0 VA hp2 hp3 hbv) hZ (hw _ (List.mem_of_getElem? (i := 62) rfl)) (hw _ (List.mem_of_getElem? (i := 58) rfl)) (by decide) (by decide)) (g := (mkF m 3 #[.val (.ref a1), .val (.int p2), .val (.int p3)] [(.int p3), (.int p2), (.ref a1)])) rfl (by rw [hml]; rfl) (argsL := [(.ref a1), (.int p2), (.int p3)]) (rest := []) (lenOf pd_4 rfl) rfl (by show 2 * 0 + _ ≤ _; exact Nat.le_of_eq rfl) (hb hby d12_3) (fun _ _ => ⟨rfl, e0, (by decide : 0 + 0 ≤ _), (by decide : 0 + 0 ≤ _)⟩)
  dsimp only [Pt.U, Pt.locs, Pt.cells, Pt.slots] at X52 l52 y52 z52 st52 hQ52
  rw [l52, y52, z52] at X52
  obtain ⟨rfl, N52q, hh52⟩ := hQ52
  have N52 := Fr.app N0 N52q
  have R53 : ∀ tg, Steps p.tables e below (T52.setTop (mkF m 15 #[.val (.ref a1), .val (.int p2), .val (.int p3)] [(.int (0 : Int32))])) tg → Steps p.tables e below (s₁.setTop (mkF m 0 #[.val (.ref a1), .val (.int p2), .val (.int p3)] [])) tg := by
    intro tg kt
    refine R51 _ ?_
    refine st52 _ ?_
    show Steps p.tables e below (T52.setTop (mkF m 6 #[.val (.ref a1), .val (.int p2), .val (.int p3)] [(.int (1 : Int32))])) _
    refine XS.iloadN X52.here hx rfl (hb hby d12_6) rfl ?_
    show Steps p.tables e below (T52.setTop (mkF m 7 #[.val (.ref a1), .val (.int p2), .val (.int p3)] [(.int p3), (.int (1 : Int32))])) _
    refine XS.icmpYes X52.here hx rfl (pc0 := 7) (pc' := 14) rfl (hb hby d12_7) rfl (teq (hp3.symm : (1 : Int32) = p3)).1 (by decide) (by decide) ?_
    refine XS.iconst X52.here hx rfl (hb hby d12_14) ?_
    exact kt
  clear R51 st52
  obtain ⟨fs, hr, hrun, hended, hW, hsame⟩ := X52.leave (v := some (.int (0 : Int32))) (fun h => by rw [Bd.returns] at h; cases h)
  refine ⟨_, _, pre0 _ (R53 _ ?_), hrun, hended, _, _, rfl, ?_, ⟨_, rfl⟩, hW, hsame.mono (by decide) (by decide)⟩
  · exact retN X52 hx (t := .boolean) Bd.returns (by simp) (hb hby d12_15) hr
  · show Q_rm_hna Z a1 p2 p3 bv h0 n0 _ T52.heap _
    rw [hh52]
    exact ⟨rfl, N52, rfl⟩
theorem d12_10 : decode jdk_123_method_2_code 10 = .ok (.iconst 1, 1) := by decide +kernel
theorem d12_11 : decode jdk_123_method_2_code 11 = .ok (.goto 4, 3) := by decide +kernel
theorem ef_rm_hnb (m : MethodId) (a1 : Addr) (p2 : Int32) (p3 : Int32) : entryFrame m #[(.ref a1), (.int p2), (.int p3)] 3 = mkF m 0 #[.val (.ref a1), .val (.int p2), .val (.int p3)] [] := by first | (simp [entryFrame, mkF, argsToLocals, Value.category]; done) | rfl
def Q_rm_hnb (Z : State) (a1 : Addr) (p2 : Int32) (p3 : Int32) (bv : Int32) (h0 : Heap) (n0 : Nat) (v : Option Value) (h : Heap) (L : List Loc) : Prop := v = some (.int (1 : Int32)) ∧ Fr n0 L ∧ h = h0
set_option maxRecDepth 65536 in
set_option maxHeartbeats 40000000 in
theorem rm_hnb (l : Launch) (Z : State) (a0 : Array Value) (hw : ∀ d ∈ tables_1, d.before a0 Z = true) (ws : List Jvm.Cond) (a1 : Addr) (p2 : Int32) (p3 : Int32) (bv : Int32) (h0 : Heap) (n0 : Nat) (Z0 : n0 ≤ h0.size) (VA : AV Z h0 a1 .byte 1 (fun _ => .int bv)) (hp2 : p2 = (0 : Int32)) (hp3 : p3 = (1 : Int32)) (hbv : bv < (0 : Int32)) :
    MetFree l (⟨"java/lang/StringCoding", "hasNegatives", "([BII)Z"⟩ : MethodName) (head1 (Jvm.Cond.code (⟨"java/lang/StringCoding", "hasNegatives", "([BII)Z"⟩ : MethodName) jdk_123_method_2_code 3 (some .boolean) :: ws) ({ frames := 1, cells := 0, slots := 0, locals := 16 } : Room)) (fun a U => a = #[(.ref a1), (.int p2), (.int p3)] ∧ Z.Warmed39 U.vm ∧ U.heap = h0) (fun _ _ _ _ _ => True) (fun _ U oC U' => ∃ v L, oC = .returned v ∧ Q_rm_hnb Z a1 p2 p3 bv h0 n0 v U'.heap L ∧ FrameEnd U oC U' L ({ frames := 1, cells := 0, slots := 0, locals := 16 } : Room).cells ({ frames := 1, cells := 0, slots := 0, locals := 16 } : Room).slots) := by
  refine MetFree.of_bodySF (plainFor_of_name pn_4) hisR ?_
  intro p e s m args below meth c s₁ Bd hml0 hP hK
  obtain ⟨rfl, hZ, hh⟩ := hP
  have hx := Bd.exec
  have hby := Bd.bytes
  have hml : c.maxLocals = 3 := hml0
  have hown : s.vm.findClass "java/lang/StringCoding" = some m.cls := findClass_of_methodNamed Bd.named
  have hnm := (name_of_methodNamed Bd.named Bd.method).1
  have X0 : Stand p l e ({ frames := 1, cells := 0, slots := 0, locals := 16 } : Room) s m #[(.ref a1), (.int p2), (.int p3)] below meth c s₁ [] 0 0 := Stand.of_body Bd
  have e0 : s₁.heap = h0 := by rw [← hh, Bd.state]; rfl
  have N0 := Fr.nil n0
  have pre0 : ∀ tg, Steps p.tables e below (s₁.setTop (mkF m 0 #[.val (.ref a1), .val (.int p2), .val (.int p3)] [])) tg → Steps p.tables e below (s₁.setTop (entryFrame m #[(.ref a1), (.int p2), (.int p3)] 3)) tg := fun t k => castTop (ef_rm_hnb m a1 p2 p3) k
  have pre00 : ∀ tg, Steps p.tables e below (s₁.setTop (mkF m 0 #[.val (.ref a1), .val (.int p2), .val (.int p3)] [])) tg → Steps p.tables e below (s₁.setTop (mkF m 0 #[.val (.ref a1), .val (.int p2), .val (.int p3)] [])) tg := fun _ k => k
  have R54 : ∀ tg, Steps p.tables e below (s₁.setTop (mkF m 3 #[.val (.ref a1), .val (.int p2), .val (.int p3)] [(.int p3), (.int p2), (.ref a1)])) tg → Steps p.tables e below (s₁.setTop (mkF m 0 #[.val (.ref a1), .val (.int p2), .val (.int p3)] [])) tg := by
    intro tg kt
    refine pre00 _ ?_
    show Steps p.tables e below (s₁.setTop (mkF m 0 #[.val (.ref a1), .val (.int p2), .val (.int p3)] [])) _
    refine XS.aloadN X0.here hx rfl (hb hby d12_0) rfl rfl ?_
    refine XS.iloadN X0.here hx rfl (hb hby d12_1) rfl ?_
    refine XS.iloadN X0.here hx rfl (hb hby d12_2) rfl ?_
    exact kt
  obtain ⟨_, _, ⟨T55, L55, k55, n55⟩, -, X55, ⟨Lc55, hQ55, l55, y55, z55⟩, st55⟩ := Jvm.LawKit.callS X0 hx (y := (⟨"java/lang/StringCoding", "countPositives", "([BII)I"⟩ : MethodName)) hown (mvT hZ (hw _ (List.mem_of_getElem? (i := 60) rfl))) (mvT hZ (hw _ (List.mem_of_getElem? (i := 61) rfl))) (mvT hZ (hw _ (List.mem_of_getElem? (i := 58) rfl))) (mvT hZ (hw _ (List.mem_of_getElem? (i := 62) rfl))) (by decide) (backOf (W := 0) (rm_cpb l Z a0 hw [] a1 p2 p3 bv h0 n0 Z0 VA hp2 hp3 hbv) hZ (hw _ (List.mem_of_getElem? (i := 62) rfl)) (hw _ (List.mem_of_getElem? (i := 58) rfl)) (by decide) (by decide)) (g := (mkF m 3 #[.val (.ref a1), .val (.int p2), .val (.int p3)] [(.int p3), (.int p2), (.ref a1)])) rfl (by rw [hml]; rfl) (argsL := [(.ref a1), (.int p2), (.int p3)]) (rest := []) (lenOf pd_4 rfl) rfl (by show 2 * 0 + _ ≤ _; exact Nat.le_of_eq rfl) (hb hby d12_3) (fun _ _ => ⟨rfl, e0, (by decide : 0 + 0 ≤ _), (by decide : 0 + 0 ≤ _)⟩)
  dsimp only [Pt.U, Pt.locs, Pt.cells, Pt.slots] at X55 l55 y55 z55 st55 hQ55
  rw [l55, y55, z55] at X55
  obtain ⟨rfl, N55q, hh55⟩ := hQ55
  have N55 := Fr.app N0 N55q
  have R56 : ∀ tg, Steps p.tables e below (T55.setTop (mkF m 15 #[.val (.ref a1), .val (.int p2), .val (.int p3)] [(.int (1 : Int32))])) tg → Steps p.tables e below (s₁.setTop (mkF m 0 #[.val (.ref a1), .val (.int p2), .val (.int p3)] [])) tg := by
    intro tg kt
    refine R54 _ ?_
    refine st55 _ ?_
    show Steps p.tables e below (T55.setTop (mkF m 6 #[.val (.ref a1), .val (.int p2), .val (.int p3)] [(.int (0 : Int32))])) _
    refine XS.iloadN X55.here hx rfl (hb hby d12_6) rfl ?_
    show Steps p.tables e below (T55.setTop (mkF m 7 #[.val (.ref a1), .val (.int p2), .val (.int p3)] [(.int p3), (.int (0 : Int32))])) _
    refine XS.icmpNo X55.here hx rfl (hb hby d12_7) rfl (feq (by rw [hp3]; decide : ¬ ((0 : Int32) = p3))).1 ?_
    refine XS.iconst X55.here hx rfl (hb hby d12_10) ?_
    show Steps p.tables e below (T55.setTop (mkF m 11 #[.val (.ref a1), .val (.int p2), .val (.int p3)] [(.int (1 : Int32))])) _
    refine XS.goto X55.here hx rfl (pc0 := 11) (pc' := 15) rfl (hb hby d12_11) (by decide) (by decide) ?_
    exact kt
  clear R54 st55
  obtain ⟨fs, hr, hrun, hended, hW, hsame⟩ := X55.leave (v := some (.int (1 : Int32))) (fun h => by rw [Bd.returns] at h; cases h)
  refine ⟨_, _, pre0 _ (R56 _ ?_), hrun, hended, _, _, rfl, ?_, ⟨_, rfl⟩, hW, hsame.mono (by decide) (by decide)⟩
  · exact retN X55 hx (t := .boolean) Bd.returns (by simp) (hb hby d12_15) hr
  · show Q_rm_hnb Z a1 p2 p3 bv h0 n0 _ T55.heap _
    rw [hh55]
    exact ⟨rfl, N55, rfl⟩
theorem pn_5 : plainName "java/lang/StringUTF16" = true := by first | (simp [plainName, overriddenIn]; done) | decide +kernel
theorem d23_0 : decode jdk_52_method_3_code 0 = .ok (.iload_n 0, 1) := by decide +kernel
theorem d23_1 : decode jdk_52_method_3_code 1 = .ok (.ifCond .ge 11, 3) := by decide +kernel
theorem d23_12 : decode jdk_52_method_3_code 12 = .ok (.iload_n 0, 1) := by decide +kernel
theorem d23_13 : decode jdk_52_method_3_code 13 = .ok (.ldc 20, 2) := by decide +kernel
theorem d23_15 : decode jdk_52_method_3_code 15 = .ok (.if_icmp .lt 40, 3) := by decide +kernel
theorem d23_55 : decode jdk_52_method_3_code 55 = .ok (.iload_n 0, 1) := by decide +kernel
theorem d23_56 : decode jdk_52_method_3_code 56 = .ok (.iconst 1, 1) := by decide +kernel
theorem d23_57 : decode jdk_52_method_3_code 57 = .ok (.ishl, 1) := by decide +kernel
theorem d23_58 : decode jdk_52_method_3_code 58 = .ok (.ireturn, 1) := by decide +kernel
theorem ef_rm_nbl (m : MethodId) (p1 : Int32) : entryFrame m #[(.int p1)] 1 = mkF m 0 #[.val (.int p1)] [] := by first | (simp [entryFrame, mkF, argsToLocals, Value.category]; done) | rfl
def Q_rm_nbl (Z : State) (p1 : Int32) (h0 : Heap) (n0 : Nat) (v : Option Value) (h : Heap) (L : List Loc) : Prop := v = some (.int (2 : Int32)) ∧ Fr n0 L ∧ h = h0
set_option maxRecDepth 65536 in
set_option maxHeartbeats 40000000 in
theorem rm_nbl (l : Launch) (Z : State) (a0 : Array Value) (hw : ∀ d ∈ tables_1, d.before a0 Z = true) (ws : List Jvm.Cond) (p1 : Int32) (h0 : Heap) (n0 : Nat) (Z0 : n0 ≤ h0.size) (hp : p1 = (1 : Int32)) :
    MetFree l (⟨"java/lang/StringUTF16", "newBytesLength", "(I)I"⟩ : MethodName) (head1 (Jvm.Cond.code (⟨"java/lang/StringUTF16", "newBytesLength", "(I)I"⟩ : MethodName) jdk_52_method_3_code 1 (some .int) :: ws) ({ frames := 0, cells := 0, slots := 0, locals := 0 } : Room)) (fun a U => a = #[(.int p1)] ∧ Z.Warmed39 U.vm ∧ U.heap = h0) (fun _ _ _ _ _ => True) (fun _ U oC U' => ∃ v L, oC = .returned v ∧ Q_rm_nbl Z p1 h0 n0 v U'.heap L ∧ FrameEnd U oC U' L ({ frames := 0, cells := 0, slots := 0, locals := 0 } : Room).cells ({ frames := 0, cells := 0, slots := 0, locals := 0 } : Room).slots) := by
  refine MetFree.of_bodySF (plainFor_of_name pn_5) hisR ?_
  intro p e s m args below meth c s₁ Bd hml0 hP hK
  obtain ⟨rfl, hZ, hh⟩ := hP
  have hx := Bd.exec
  have hby := Bd.bytes
  have hml : c.maxLocals = 1 := hml0
  have hown : s.vm.findClass "java/lang/StringUTF16" = some m.cls := findClass_of_methodNamed Bd.named
  have hnm := (name_of_methodNamed Bd.named Bd.method).1
  have X0 : Stand p l e ({ frames := 0, cells := 0, slots := 0, locals := 0 } : Room) s m #[(.int p1)] below meth c s₁ [] 0 0 := Stand.of_body Bd
  have e0 : s₁.heap = h0 := by rw [← hh, Bd.state]; rfl
  have N0 := Fr.nil n0
  have pre0 : ∀ tg, Steps p.tables e below (s₁.setTop (mkF m 0 #[.val (.int p1)] [])) tg → Steps p.tables e below (s₁.setTop (entryFrame m #[(.int p1)] 1)) tg := fun t k => castTop (ef_rm_nbl m p1) k
  have pre00 : ∀ tg, Steps p.tables e below (s₁.setTop (mkF m 0 #[.val (.int p1)] [])) tg → Steps p.tables e below (s₁.setTop (mkF m 0 #[.val (.int p1)] [])) tg := fun _ k => k
  have R57 : ∀ tg, Steps p.tables e below (s₁.setTop (mkF m 58 #[.val (.int p1)] [(.int (p1 <<< ((1 : Int32) &&& 31)))])) tg → Steps p.tables e below (s₁.setTop (mkF m 0 #[.val (.int p1)] [])) tg := by
    intro tg kt
    refine pre00 _ ?_
    show Steps p.tables e below (s₁.setTop (mkF m 0 #[.val (.int p1)] [])) _
    refine XS.iloadN X0.here hx rfl (hb hby d23_0) rfl ?_
    show Steps p.tables e below (s₁.setTop (mkF m 1 #[.val (.int p1)] [(.int p1)])) _
    refine XS.ifYes X0.here hx rfl (pc0 := 1) (pc' := 12) rfl (hb hby d23_1) rfl ((if0 _ _).trans (flt (by rw [hp]; decide : ¬ (p1 < (0 : Int32)))).2.1) (by decide) (by decide) ?_
    refine XS.iloadN X0.here hx rfl (hb hby d23_12) rfl ?_
    show Steps p.tables e below (s₁.setTop (mkF m 13 #[.val (.int p1)] [(.int p1)])) _
    refine X0.ldcInt hx hown (mvT hZ (hw _ (List.mem_of_getElem? (i := 127) rfl))) (g := (mkF m 13 #[.val (.int p1)] [(.int p1)])) rfl (hb hby d23_13) _ ?_
    show Steps p.tables e below (s₁.setTop (mkF m 15 #[.val (.int p1)] [(.int (1073741823 : Int32)), (.int p1)])) _
    refine XS.icmpYes X0.here hx rfl (pc0 := 15) (pc' := 55) rfl (hb hby d23_15) rfl (tlt (by rw [hp]; decide : p1 < (1073741823 : Int32))).1 (by decide) (by decide) ?_
    refine XS.iloadN X0.here hx rfl (hb hby d23_55) rfl ?_
    refine XS.iconst X0.here hx rfl (hb hby d23_56) ?_
    show Steps p.tables e below (s₁.setTop (mkF m 57 #[.val (.int p1)] [(.int (1 : Int32)), (.int p1)])) _
    refine XS.ishl X0.here hx rfl (hb hby d23_57) rfl ?_
    exact kt
  obtain ⟨fs, hr, hrun, hended, hW, hsame⟩ := X0.leave (v := some (.int (p1 <<< ((1 : Int32) &&& 31)))) (fun h => by rw [Bd.returns] at h; cases h)
  refine ⟨_, _, pre0 _ (R57 _ ?_), hrun, hended, _, _, rfl, ?_, ⟨_, rfl⟩, hW, hsame.mono (by decide) (by decide)⟩
  · exact retI X0 hx Bd.returns (hb hby d23_58) hr
  · show Q_rm_nbl Z p1 h0 n0 _ s₁.heap _
    rw [e0]
    exact ⟨by rw [hp]; rfl, N0, rfl⟩
theorem d22_0 : decode jdk_52_method_2_code 0 = .ok (.iload_n 0, 1) := by decide +kernel
theorem pd_5 : parseMethodDescriptor "(I)I" = some ⟨[.int], some .int⟩ := by decide +kernel
theorem d22_1 : decode jdk_52_method_2_code 1 = .ok (.invokestatic 11, 3) := by decide +kernel
theorem d22_4 : decode jdk_52_method_2_code 4 = .ok (.newarray .byte, 2) := by decide +kernel
theorem d22_6 : decode jdk_52_method_2_code 6 = .ok (.areturn, 1) := by decide +kernel
theorem ef_rm_nbf (m : MethodId) (p1 : Int32) : entryFrame m #[(.int p1)] 1 = mkF m 0 #[.val (.int p1)] [] := by first | (simp [entryFrame, mkF, argsToLocals, Value.category]; done) | rfl
def Q_rm_nbf (Z : State) (p1 : Int32) (h0 : Heap) (n0 : Nat) (v : Option Value) (h : Heap) (L : List Loc) : Prop := ∃ a : Addr, v = some (.ref a) ∧ Fr n0 L ∧ h0.size ≤ a ∧ Keep h0 h [] ∧ AV Z h a .byte 2 (fun _ => defaultValue .byte)
set_option maxRecDepth 65536 in
set_option maxHeartbeats 40000000 in
theorem rm_nbf (l : Launch) (Z : State) (a0 : Array Value) (hw : ∀ d ∈ tables_1, d.before a0 Z = true) (ws : List Jvm.Cond) (p1 : Int32) (h0 : Heap) (n0 : Nat) (Z0 : n0 ≤ h0.size) (hp : p1 = (1 : Int32)) :
    MetFree l (⟨"java/lang/StringUTF16", "newBytesFor", "(I)[B"⟩ : MethodName) (head1 (Jvm.Cond.code (⟨"java/lang/StringUTF16", "newBytesFor", "(I)[B"⟩ : MethodName) jdk_52_method_2_code 1 (some (.array .byte)) :: ws) ({ frames := 1, cells := 1, slots := 2, locals := 12 } : Room)) (fun a U => a = #[(.int p1)] ∧ Z.Warmed39 U.vm ∧ U.heap = h0) (fun _ _ _ _ _ => True) (fun _ U oC U' => ∃ v L, oC = .returned v ∧ Q_rm_nbf Z p1 h0 n0 v U'.heap L ∧ FrameEnd U oC U' L ({ frames := 1, cells := 1, slots := 2, locals := 12 } : Room).cells ({ frames := 1, cells := 1, slots := 2, locals := 12 } : Room).slots) := by
  refine MetFree.of_bodySF (plainFor_of_name pn_5) hisR ?_
  intro p e s m args below meth c s₁ Bd hml0 hP hK
  obtain ⟨rfl, hZ, hh⟩ := hP
  have hx := Bd.exec
  have hby := Bd.bytes
  have hml : c.maxLocals = 1 := hml0
  have hown : s.vm.findClass "java/lang/StringUTF16" = some m.cls := findClass_of_methodNamed Bd.named
  have hnm := (name_of_methodNamed Bd.named Bd.method).1
  have X0 : Stand p l e ({ frames := 1, cells := 1, slots := 2, locals := 12 } : Room) s m #[(.int p1)] below meth c s₁ [] 0 0 := Stand.of_body Bd
  have e0 : s₁.heap = h0 := by rw [← hh, Bd.state]; rfl
  have N0 := Fr.nil n0
  have pre0 : ∀ tg, Steps p.tables e below (s₁.setTop (mkF m 0 #[.val (.int p1)] [])) tg → Steps p.tables e below (s₁.setTop (entryFrame m #[(.int p1)] 1)) tg := fun t k => castTop (ef_rm_nbf m p1) k
  have pre00 : ∀ tg, Steps p.tables e below (s₁.setTop (mkF m 0 #[.val (.int p1)] [])) tg → Steps p.tables e below (s₁.setTop (mkF m 0 #[.val (.int p1)] [])) tg := fun _ k => k
  have R58 : ∀ tg, Steps p.tables e below (s₁.setTop (mkF m 1 #[.val (.int p1)] [(.int p1)])) tg → Steps p.tables e below (s₁.setTop (mkF m 0 #[.val (.int p1)] [])) tg := by
    intro tg kt
    refine pre00 _ ?_
    show Steps p.tables e below (s₁.setTop (mkF m 0 #[.val (.int p1)] [])) _
    refine XS.iloadN X0.here hx rfl (hb hby d22_0) rfl ?_
    exact kt
  obtain ⟨_, _, ⟨T59, L59, k59, n59⟩, -, X59, ⟨Lc59, hQ59, l59, y59, z59⟩, st59⟩ := Jvm.LawKit.callS X0 hx (y := (⟨"java/lang/StringUTF16", "newBytesLength", "(I)I"⟩ : MethodName)) hown (mvT hZ (hw _ (List.mem_of_getElem? (i := 124) rfl))) (mvT hZ (hw _ (List.mem_of_getElem? (i := 125) rfl))) (mvT hZ (hw _ (List.mem_of_getElem? (i := 122) rfl))) (mvT hZ (hw _ (List.mem_of_getElem? (i := 126) rfl))) (by decide) (backOf (W := 0) (rm_nbl l Z a0 hw [] p1 h0 n0 Z0 hp) hZ (hw _ (List.mem_of_getElem? (i := 126) rfl)) (hw _ (List.mem_of_getElem? (i := 122) rfl)) (by decide) (by decide)) (g := (mkF m 1 #[.val (.int p1)] [(.int p1)])) rfl (by rw [hml]; rfl) (argsL := [(.int p1)]) (rest := []) (lenOf pd_5 rfl) rfl (by show 2 * 0 + _ ≤ _; exact Nat.le_of_eq rfl) (hb hby d22_1) (fun _ _ => ⟨rfl, e0, (by decide : 0 + 0 ≤ _), (by decide : 0 + 0 ≤ _)⟩)
  dsimp only [Pt.U, Pt.locs, Pt.cells, Pt.slots] at X59 l59 y59 z59 st59 hQ59
  rw [l59, y59, z59] at X59
  obtain ⟨rfl, N59q, hh59⟩ := hQ59
  have N59 := Fr.app N0 N59q
  have R60 : ∀ tg, Steps p.tables e below (T59.setTop (mkF m 4 #[.val (.int p1)] [(.int (2 : Int32))])) tg → Steps p.tables e below (s₁.setTop (mkF m 0 #[.val (.int p1)] [])) tg := by
    intro tg kt
    refine R58 _ ?_
    refine st59 _ ?_
    exact kt
  clear R58 st59
  obtain ⟨T61, h61, k61, X61, e61, E61, A61, st61⟩ := newP X59 hx hZ (hw _ (List.mem_of_getElem? (i := 14) rfl)) hh59 (g := (mkF m 4 #[.val (.int p1)] [(.int (2 : Int32))])) rfl (hb hby d22_4) rfl (by decide) (cap := 2) (by decide) (by decide) (by decide) (by decide)
  obtain ⟨ar, g61⟩ : ∃ z, z = h0.size := ⟨_, rfl⟩
  rw [← g61] at A61 st61
  have g_ar : n0 ≤ ar := Nat.le_trans Z0 (Nat.le_of_eq g61.symm)
  have sz_ar : h0.size ≤ ar := Nat.le_trans (Keep.refl h0 []).1 (Nat.le_of_eq g61.symm)
  have Zs61 : n0 ≤ h61.size := Nat.le_trans Z0 E61.1
  have Ke61 : Keep h0 h61 [] := Keep.ext (Keep.refl h0 []) E61
  have VA : AV Z h61 ar .byte 2 (fun _ => defaultValue .byte) := AV.new A61 rfl rfl
  have R62 : ∀ tg, Steps p.tables e below (T61.setTop (mkF m 6 #[.val (.int p1)] [(.ref ar)])) tg → Steps p.tables e below (s₁.setTop (mkF m 0 #[.val (.int p1)] [])) tg := by
    intro tg kt
    refine R60 _ ?_
    refine st61 _ ?_
    exact kt
  clear R60 st61
  obtain ⟨fs, hr, hrun, hended, hW, hsame⟩ := X61.leave (v := some (.ref ar)) (fun h => by rw [Bd.returns] at h; cases h)
  refine ⟨_, _, pre0 _ (R62 _ ?_), hrun, hended, _, _, rfl, ?_, ⟨_, rfl⟩, hW, hsame.mono (by decide) (by decide)⟩
  · show Steps p.tables e below (T61.setTop (mkF m 6 #[.val (.int p1)] [(.ref ar)])) _
    jvm_step X61.here [X61.here.top, hx, (hb hby d22_6), X61.method', Bd.returns, Value.isRef, FieldType.isReference]
    first | (intro acts; rw [hr _ acts rfl rfl rfl]) | rw [hr _ _ rfl rfl rfl]
    exact Steps.refl _
  · show Q_rm_nbf Z p1 h0 n0 _ T61.heap _
    rw [e61]
    exact ⟨ar, rfl, N59, sz_ar, Ke61, VA⟩
theorem d11_0 : decode jdk_42_method_46_code 0 = .ok (.iload_n 0, 1) := by decide +kernel
theorem d11_1 : decode jdk_42_method_46_code 1 = .ok (.iconst 1, 1) := by decide +kernel
theorem d11_2 : decode jdk_42_method_46_code 2 = .ok (.if_icmp .ne 9, 3) := by decide +kernel
theorem d11_11 : decode jdk_42_method_46_code 11 = .ok (.aload_n 1, 1) := by decide +kernel
theorem d11_12 : decode jdk_42_method_46_code 12 = .ok (.iconst 0, 1) := by decide +kernel
theorem d11_13 : decode jdk_42_method_46_code 13 = .ok (.aload_n 1, 1) := by decide +kernel
theorem d11_14 : decode jdk_42_method_46_code 14 = .ok (.arraylength, 1) := by decide +kernel
theorem pd_6 : parseMethodDescriptor "([BII)Z" = some ⟨[(.array .byte), .int, .int], some .boolean⟩ := by decide +kernel
theorem d11_15 : decode jdk_42_method_46_code 15 = .ok (.invokestatic 128, 3) := by decide +kernel
theorem d11_18 : decode jdk_42_method_46_code 18 = .ok (.ifCond .ne 11, 3) := by decide +kernel
theorem d11_21 : decode jdk_42_method_46_code 21 = .ok (.aload_n 1, 1) := by decide +kernel
theorem d11_22 : decode jdk_42_method_46_code 22 = .ok (.invokevirtual 279, 3) := by decide +kernel
theorem d11_25 : decode jdk_42_method_46_code 25 = .ok (.checkcast 280, 3) := by decide +kernel
theorem d11_28 : decode jdk_42_method_46_code 28 = .ok (.areturn, 1) := by decide +kernel
theorem ef_rm_e8a (m : MethodId) (p1 : Int32) (a2 : Addr) (p3 : Int32) : entryFrame m #[(.int p1), (.ref a2), (.int p3)] 9 = mkF m 0 #[.val (.int p1), .val (.ref a2), .val (.int p3), .unset, .unset, .unset, .unset, .unset, .unset] [] := by first | (simp [entryFrame, mkF, argsToLocals, Value.category]; done) | rfl
def Q_rm_e8a (Z : State) (p1 : Int32) (a2 : Addr) (p3 : Int32) (bv : Int32) (h0 : Heap) (n0 : Nat) (v : Option Value) (h : Heap) (L : List Loc) : Prop := ∃ t : Addr, v = some (.ref t) ∧ Fr n0 L ∧ h0.size ≤ t ∧ Keep h0 h [] ∧ AV Z h t .byte 1 (fun j => .int ((fun _ => bv) j))
set_option maxRecDepth 65536 in
set_option maxHeartbeats 40000000 in
theorem rm_e8a (l : Launch) (Z : State) (a0 : Array Value) (hw : ∀ d ∈ tables_1, d.before a0 Z = true) (ws : List Jvm.Cond) (p1 : Int32) (a2 : Addr) (p3 : Int32) (bv : Int32) (h0 : Heap) (n0 : Nat) (Z0 : n0 ≤ h0.size) (VA : AV Z h0 a2 .byte 1 (fun _ => .int bv)) (EA : Exa Z h0 a2 "[B") (hp1 : p1 = (0 : Int32)) (hbv : ¬ bv < (0 : Int32)) :
    MetFree l (⟨"java/lang/String", "encodeUTF8", "(B[BZ)[B"⟩ : MethodName) (head1 (Jvm.Cond.code (⟨"java/lang/String", "encodeUTF8", "(B[BZ)[B"⟩ : MethodName) jdk_42_method_46_code 9 (some (.array .byte)) :: ws) ({ frames := 2, cells := 1, slots := 1, locals := 30 } : Room)) (fun a U => a = #[(.int p1), (.ref a2), (.int p3)] ∧ Z.Warmed39 U.vm ∧ U.heap = h0) (fun _ _ _ _ _ => True) (fun _ U oC U' => ∃ v L, oC = .returned v ∧ Q_rm_e8a Z p1 a2 p3 bv h0 n0 v U'.heap L ∧ FrameEnd U oC U' L ({ frames := 2, cells := 1, slots := 1, locals := 30 } : Room).cells ({ frames := 2, cells := 1, slots := 1, locals := 30 } : Room).slots) := by
  refine MetFree.of_bodySF (plainFor_of_name pn_3) hisR ?_
  intro p e s m args below meth c s₁ Bd hml0 hP hK
  obtain ⟨rfl, hZ, hh⟩ := hP
  have hx := Bd.exec
  have hby := Bd.bytes
  have hml : c.maxLocals = 9 := hml0
  have hown : s.vm.findClass "java/lang/String" = some m.cls := findClass_of_methodNamed Bd.named
  have hnm := (name_of_methodNamed Bd.named Bd.method).1
  have X0 : Stand p l e ({ frames := 2, cells := 1, slots := 1, locals := 30 } : Room) s m #[(.int p1), (.ref a2), (.int p3)] below meth c s₁ [] 0 0 := Stand.of_body Bd
  have e0 : s₁.heap = h0 := by rw [← hh, Bd.state]; rfl
  have N0 := Fr.nil n0
  have pre0 : ∀ tg, Steps p.tables e below (s₁.setTop (mkF m 0 #[.val (.int p1), .val (.ref a2), .val (.int p3), .unset, .unset, .unset, .unset, .unset, .unset] [])) tg → Steps p.tables e below (s₁.setTop (entryFrame m #[(.int p1), (.ref a2), (.int p3)] 9)) tg := fun t k => castTop (ef_rm_e8a m p1 a2 p3) k
  have pre00 : ∀ tg, Steps p.tables e below (s₁.setTop (mkF m 0 #[.val (.int p1), .val (.ref a2), .val (.int p3), .unset, .unset, .unset, .unset, .unset, .unset] [])) tg → Steps p.tables e below (s₁.setTop (mkF m 0 #[.val (.int p1), .val (.ref a2), .val (.int p3), .unset, .unset, .unset, .unset, .unset, .unset] [])) tg := fun _ k => k
  have R63 : ∀ tg, Steps p.tables e below (s₁.setTop (mkF m 14 #[.val (.int p1), .val (.ref a2), .val (.int p3), .unset, .unset, .unset, .unset, .unset, .unset] [(.ref a2), (.int (0 : Int32)), (.ref a2)])) tg → Steps p.tables e below (s₁.setTop (mkF m 0 #[.val (.int p1), .val (.ref a2), .val (.int p3), .unset, .unset, .unset, .unset, .unset, .unset] [])) tg := by
    intro tg kt
    refine pre00 _ ?_
    show Steps p.tables e below (s₁.setTop (mkF m 0 #[.val (.int p1), .val (.ref a2), .val (.int p3), .unset, .unset, .unset, .unset, .unset, .unset] [])) _
    refine XS.iloadN X0.here hx rfl (hb hby d11_0) rfl ?_
    refine XS.iconst X0.here hx rfl (hb hby d11_1) ?_
    show Steps p.tables e below (s₁.setTop (mkF m 2 #[.val (.int p1), .val (.ref a2), .val (.int p3), .unset, .unset, .unset, .unset, .unset, .unset] [(.int (1 : Int32)), (.int p1)])) _
    refine XS.icmpYes X0.here hx rfl (pc0 := 2) (pc' := 11) rfl (hb hby d11_2) rfl (feq (by rw [hp1]; decide : ¬ (p1 = (1 : Int32)))).2 (by decide) (by decide) ?_
    refine XS.aloadN X0.here hx rfl (hb hby d11_11) rfl rfl ?_
    refine XS.iconst X0.here hx rfl (hb hby d11_12) ?_
    show Steps p.tables e below (s₁.setTop (mkF m 13 #[.val (.int p1), .val (.ref a2), .val (.int p3), .unset, .unset, .unset, .unset, .unset, .unset] [(.int (0 : Int32)), (.ref a2)])) _
    refine XS.aloadN X0.here hx rfl (hb hby d11_13) rfl rfl ?_
    exact kt
  obtain ⟨cl64, Ar64, ln64⟩ := VA.len
  have R65 : ∀ tg, Steps p.tables e below (s₁.setTop (mkF m 15 #[.val (.int p1), .val (.ref a2), .val (.int p3), .unset, .unset, .unset, .unset, .unset, .unset] [(.int (1 : Int32)), (.int (0 : Int32)), (.ref a2)])) tg → Steps p.tables e below (s₁.setTop (mkF m 0 #[.val (.int p1), .val (.ref a2), .val (.int p3), .unset, .unset, .unset, .unset, .unset, .unset] [])) tg := by
    intro tg kt
    refine R63 _ ?_
    show Steps p.tables e below (s₁.setTop (mkF m 14 #[.val (.int p1), .val (.ref a2), .val (.int p3), .unset, .unset, .unset, .unset, .unset, .unset] [(.ref a2), (.int (0 : Int32)), (.ref a2)])) _
    refine X0.arraylength hx (by rw [e0]; exact Ar64.1) (State.isArrayOf_alike hZ.alike Ar64.2.1) (g := (mkF m 14 #[.val (.int p1), .val (.ref a2), .val (.int p3), .unset, .unset, .unset, .unset, .unset, .unset] [(.ref a2), (.int (0 : Int32)), (.ref a2)])) rfl rfl (hb hby d11_14) _ ?_
    rw [ln64]
    exact kt
  clear R63
  obtain ⟨_, _, ⟨T66, L66, k66, n66⟩, -, X66, ⟨Lc66, hQ66, l66, y66, z66⟩, st66⟩ := Jvm.LawKit.callS X0 hx (y := (⟨"java/lang/StringCoding", "hasNegatives", "([BII)Z"⟩ : MethodName)) hown (mvT hZ (hw _ (List.mem_of_getElem? (i := 56) rfl))) (mvT hZ (hw _ (List.mem_of_getElem? (i := 57) rfl))) (mvT hZ (hw _ (List.mem_of_getElem? (i := 58) rfl))) (mvT hZ (hw _ (List.mem_of_getElem? (i := 59) rfl))) (by decide) (backOf (W := 0) (rm_hna l Z a0 hw [] a2 (0 : Int32) (1 : Int32) bv h0 n0 Z0 VA rfl rfl hbv) hZ (hw _ (List.mem_of_getElem? (i := 59) rfl)) (hw _ (List.mem_of_getElem? (i := 58) rfl)) (by decide) (by decide)) (g := (mkF m 15 #[.val (.int p1), .val (.ref a2), .val (.int p3), .unset, .unset, .unset, .unset, .unset, .unset] [(.int (1 : Int32)), (.int (0 : Int32)), (.ref a2)])) rfl (by rw [hml]; rfl) (argsL := [(.ref a2), (.int (0 : Int32)), (.int (1 : Int32))]) (rest := []) (lenOf pd_6 rfl) rfl (by show 2 * 0 + _ ≤ _; exact Nat.le_of_eq rfl) (hb hby d11_15) (fun _ _ => ⟨rfl, e0, (by decide : 0 + 0 ≤ _), (by decide : 0 + 0 ≤ _)⟩)
  dsimp only [Pt.U, Pt.locs, Pt.cells, Pt.slots] at X66 l66 y66 z66 st66 hQ66
  rw [l66, y66, z66] at X66
  obtain ⟨rfl, N66q, hh66⟩ := hQ66
  have N66 := Fr.app N0 N66q
  have R67 : ∀ tg, Steps p.tables e below (T66.setTop (mkF m 22 #[.val (.int p1), .val (.ref a2), .val (.int p3), .unset, .unset, .unset, .unset, .unset, .unset] [(.ref a2)])) tg → Steps p.tables e below (s₁.setTop (mkF m 0 #[.val (.int p1), .val (.ref a2), .val (.int p3), .unset, .unset, .unset, .unset, .unset, .unset] [])) tg := by
    intro tg kt
    refine R65 _ ?_
    refine st66 _ ?_
    show Steps p.tables e below (T66.setTop (mkF m 18 #[.val (.int p1), .val (.ref a2), .val (.int p3), .unset, .unset, .unset, .unset, .unset, .unset] [(.int (0 : Int32))])) _
    refine XS.ifNo X66.here hx rfl (hb hby d11_18) rfl ((if0 _ _).trans (teq (by decide : (0 : Int32) = (0 : Int32))).2) ?_
    refine XS.aloadN X66.here hx rfl (hb hby d11_21) rfl rfl ?_
    exact kt
  clear R65 st66
  obtain ⟨cl68, Ar68, Sz68, Hv68⟩ := id VA
  obtain ⟨T68, h68, X68, e68, E68, A68, Q68, st68⟩ := cloneA X66 hx hZ hown (ad := "[B") (hw _ (List.mem_of_getElem? (i := 63) rfl)) (hw _ (List.mem_of_getElem? (i := 64) rfl)) (hw _ (List.mem_of_getElem? (i := 68) rfl)) (hw _ (List.mem_of_getElem? (i := 66) rfl)) (hw _ (List.mem_of_getElem? (i := 67) rfl)) (hw _ (List.mem_of_getElem? (i := 69) rfl)) hh66 Ar68 EA (fitC_of Ar68 fun i hi v hv => by rw [(Hv68 i (by omega)).1] at hv; cases hv; exact (Hv68 i (by omega)).2) (g := (mkF m 22 #[.val (.int p1), .val (.ref a2), .val (.int p3), .unset, .unset, .unset, .unset, .unset, .unset] [(.ref a2)])) rfl (by rw [hml]; rfl) rfl (hb hby d11_22) (by decide) (W := 0) (cap := 1) (by show 2 * 0 + _ ≤ _; exact Nat.le_of_eq rfl) (by decide) (Nat.le_of_eq Sz68) (by decide) (by decide)
  obtain ⟨ar, g68⟩ : ∃ z, z = h0.size := ⟨_, rfl⟩
  rw [← g68] at A68 Q68 st68
  have g_ar : n0 ≤ ar := Nat.le_trans Z0 (Nat.le_of_eq g68.symm)
  have sz_ar : h0.size ≤ ar := Nat.le_trans (Keep.refl h0 []).1 (Nat.le_of_eq g68.symm)
  have ne_a2_ar : a2 ≠ ar := Nat.ne_of_lt (Nat.lt_of_lt_of_le VA.lt (Nat.le_of_eq g68.symm))
  have VA_68 := VA.ext E68
  have E_a2_68 := EA.ext E68
  have Zs68 : n0 ≤ h68.size := Nat.le_trans Z0 E68.1
  have Ke68 : Keep h0 h68 [] := Keep.ext (Keep.refl h0 []) E68
  have VB : AV Z h68 ar .byte 1 (fun _ => .int bv) := ⟨_, A68, Sz68, Hv68⟩
  have E_ar := Q68
  have R69 : ∀ tg, Steps p.tables e below (T68.setTop (mkF m 25 #[.val (.int p1), .val (.ref a2), .val (.int p3), .unset, .unset, .unset, .unset, .unset, .unset] [(.ref ar)])) tg → Steps p.tables e below (s₁.setTop (mkF m 0 #[.val (.int p1), .val (.ref a2), .val (.int p3), .unset, .unset, .unset, .unset, .unset, .unset] [])) tg := by
    intro tg kt
    refine R67 _ ?_
    refine st68 _ ?_
    exact kt
  clear R67 st68
  obtain ⟨T70, X70, e70, st70⟩ := castY X68 hx hZ hown (hw _ (List.mem_of_getElem? (i := 70) rfl)) e68 (Ins.self E_ar) (g := (mkF m 25 #[.val (.int p1), .val (.ref a2), .val (.int p3), .unset, .unset, .unset, .unset, .unset, .unset] [(.ref ar)])) rfl rfl (hb hby d11_25)
  have R71 : ∀ tg, Steps p.tables e below (T70.setTop (mkF m 28 #[.val (.int p1), .val (.ref a2), .val (.int p3), .unset, .unset, .unset, .unset, .unset, .unset] [(.ref ar)])) tg → Steps p.tables e below (s₁.setTop (mkF m 0 #[.val (.int p1), .val (.ref a2), .val (.int p3), .unset, .unset, .unset, .unset, .unset, .unset] [])) tg := by
    intro tg kt
    refine R69 _ ?_
    refine st70 _ ?_
    exact kt
  clear R69 st70
  obtain ⟨fs, hr, hrun, hended, hW, hsame⟩ := X70.leave (v := some (.ref ar)) (fun h => by rw [Bd.returns] at h; cases h)
  refine ⟨_, _, pre0 _ (R71 _ ?_), hrun, hended, _, _, rfl, ?_, ⟨_, rfl⟩, hW, hsame.mono (by decide) (by decide)⟩
  · show Steps p.tables e below (T70.setTop (mkF m 28 #[.val (.int p1), .val (.ref a2), .val (.int p3), .unset, .unset, .unset, .unset, .unset, .unset] [(.ref ar)])) _
    jvm_step X70.here [X70.here.top, hx, (hb hby d11_28), X70.method', Bd.returns, Value.isRef, FieldType.isReference]
    first | (intro acts; rw [hr _ acts rfl rfl rfl]) | rw [hr _ _ rfl rfl rfl]
    exact Steps.refl _
  · show Q_rm_e8a Z p1 a2 p3 bv h0 n0 _ T70.heap _
    rw [e70]
    exact ⟨ar, rfl, N66, sz_ar, Ke68, VB⟩
theorem d11_29 : decode jdk_42_method_46_code 29 = .ok (.iconst 0, 1) := by decide +kernel
theorem d11_30 : decode jdk_42_method_46_code 30 = .ok (.istore_n 3, 1) := by decide +kernel
theorem d11_31 : decode jdk_42_method_46_code 31 = .ok (.aload_n 1, 1) := by decide +kernel
theorem d11_32 : decode jdk_42_method_46_code 32 = .ok (.arraylength, 1) := by decide +kernel
theorem pd_7 : parseMethodDescriptor "(I)[B" = some ⟨[.int], some (.array .byte)⟩ := by decide +kernel
theorem d11_33 : decode jdk_42_method_46_code 33 = .ok (.invokestatic 60, 3) := by decide +kernel
theorem d11_36 : decode jdk_42_method_46_code 36 = .ok (.astore 4, 2) := by decide +kernel
theorem d11_38 : decode jdk_42_method_46_code 38 = .ok (.aload_n 1, 1) := by decide +kernel
theorem d11_39 : decode jdk_42_method_46_code 39 = .ok (.astore 5, 2) := by decide +kernel
theorem d11_41 : decode jdk_42_method_46_code 41 = .ok (.aload 5, 2) := by decide +kernel
theorem d11_43 : decode jdk_42_method_46_code 43 = .ok (.arraylength, 1) := by decide +kernel
theorem d11_44 : decode jdk_42_method_46_code 44 = .ok (.istore 6, 2) := by decide +kernel
theorem d11_46 : decode jdk_42_method_46_code 46 = .ok (.iconst 0, 1) := by decide +kernel
theorem d11_47 : decode jdk_42_method_46_code 47 = .ok (.istore 7, 2) := by decide +kernel
theorem d11_49 : decode jdk_42_method_46_code 49 = .ok (.iload 7, 2) := by decide +kernel
theorem d11_51 : decode jdk_42_method_46_code 51 = .ok (.iload 6, 2) := by decide +kernel
theorem d11_53 : decode jdk_42_method_46_code 53 = .ok (.if_icmp .ge 71, 3) := by decide +kernel
theorem d11_56 : decode jdk_42_method_46_code 56 = .ok (.aload 5, 2) := by decide +kernel
theorem d11_58 : decode jdk_42_method_46_code 58 = .ok (.iload 7, 2) := by decide +kernel
theorem d11_60 : decode jdk_42_method_46_code 60 = .ok (.baload, 1) := by decide +kernel
theorem d11_61 : decode jdk_42_method_46_code 61 = .ok (.istore 8, 2) := by decide +kernel
theorem d11_63 : decode jdk_42_method_46_code 63 = .ok (.iload 8, 2) := by decide +kernel
theorem d11_65 : decode jdk_42_method_46_code 65 = .ok (.ifCond .ge 44, 3) := by decide +kernel
theorem d11_68 : decode jdk_42_method_46_code 68 = .ok (.aload 4, 2) := by decide +kernel
theorem d11_70 : decode jdk_42_method_46_code 70 = .ok (.iload_n 3, 1) := by decide +kernel
theorem d11_71 : decode jdk_42_method_46_code 71 = .ok (.iinc 3 1, 3) := by decide +kernel
theorem d11_74 : decode jdk_42_method_46_code 74 = .ok (.sipush 192, 3) := by decide +kernel
theorem d11_77 : decode jdk_42_method_46_code 77 = .ok (.iload 8, 2) := by decide +kernel
theorem d11_79 : decode jdk_42_method_46_code 79 = .ok (.sipush 255, 3) := by decide +kernel
theorem d11_82 : decode jdk_42_method_46_code 82 = .ok (.iand, 1) := by decide +kernel
theorem d11_83 : decode jdk_42_method_46_code 83 = .ok (.bipush 6, 2) := by decide +kernel
theorem d11_85 : decode jdk_42_method_46_code 85 = .ok (.ishr, 1) := by decide +kernel
theorem d11_86 : decode jdk_42_method_46_code 86 = .ok (.ior, 1) := by decide +kernel
theorem d11_87 : decode jdk_42_method_46_code 87 = .ok (.i2b, 1) := by decide +kernel
theorem d11_88 : decode jdk_42_method_46_code 88 = .ok (.bastore, 1) := by decide +kernel
theorem d11_89 : decode jdk_42_method_46_code 89 = .ok (.aload 4, 2) := by decide +kernel
theorem d11_91 : decode jdk_42_method_46_code 91 = .ok (.iload_n 3, 1) := by decide +kernel
theorem d11_92 : decode jdk_42_method_46_code 92 = .ok (.iinc 3 1, 3) := by decide +kernel
theorem d11_95 : decode jdk_42_method_46_code 95 = .ok (.sipush 128, 3) := by decide +kernel
theorem d11_98 : decode jdk_42_method_46_code 98 = .ok (.iload 8, 2) := by decide +kernel
theorem d11_100 : decode jdk_42_method_46_code 100 = .ok (.bipush 63, 2) := by decide +kernel
theorem d11_102 : decode jdk_42_method_46_code 102 = .ok (.iand, 1) := by decide +kernel
theorem d11_103 : decode jdk_42_method_46_code 103 = .ok (.ior, 1) := by decide +kernel
theorem d11_104 : decode jdk_42_method_46_code 104 = .ok (.i2b, 1) := by decide +kernel
theorem d11_105 : decode jdk_42_method_46_code 105 = .ok (.bastore, 1) := by decide +kernel
theorem d11_106 : decode jdk_42_method_46_code 106 = .ok (.goto 12, 3) := by decide +kernel
theorem d11_118 : decode jdk_42_method_46_code 118 = .ok (.iinc 7 1, 3) := by decide +kernel
theorem d11_121 : decode jdk_42_method_46_code 121 = .ok (.goto (-72), 3) := by decide +kernel
theorem d11_124 : decode jdk_42_method_46_code 124 = .ok (.iload_n 3, 1) := by decide +kernel
theorem d11_125 : decode jdk_42_method_46_code 125 = .ok (.aload 4, 2) := by decide +kernel
theorem d11_127 : decode jdk_42_method_46_code 127 = .ok (.arraylength, 1) := by decide +kernel
theorem d11_128 : decode jdk_42_method_46_code 128 = .ok (.if_icmp .ne 6, 3) := by decide +kernel
theorem d11_131 : decode jdk_42_method_46_code 131 = .ok (.aload 4, 2) := by decide +kernel
theorem d11_133 : decode jdk_42_method_46_code 133 = .ok (.areturn, 1) := by decide +kernel
theorem ef_rm_e8b (m : MethodId) (p1 : Int32) (a2 : Addr) (p3 : Int32) : entryFrame m #[(.int p1), (.ref a2), (.int p3)] 9 = mkF m 0 #[.val (.int p1), .val (.ref a2), .val (.int p3), .unset, .unset, .unset, .unset, .unset, .unset] [] := by first | (simp [entryFrame, mkF, argsToLocals, Value.category]; done) | rfl
def Q_rm_e8b (Z : State) (p1 : Int32) (a2 : Addr) (p3 : Int32) (bv : Int32) (h0 : Heap) (n0 : Nat) (v : Option Value) (h : Heap) (L : List Loc) : Prop := ∃ t : Addr, v = some (.ref t) ∧ Fr n0 L ∧ h0.size ≤ t ∧ Keep h0 h [] ∧ AV Z h t .byte 2 (fun j => .int (own_v2 (own_d0 bv) (own_d1 bv) j))
set_option maxRecDepth 65536 in
set_option maxHeartbeats 40000000 in
theorem rm_e8b (l : Launch) (Z : State) (a0 : Array Value) (hw : ∀ d ∈ tables_1, d.before a0 Z = true) (ws : List Jvm.Cond) (p1 : Int32) (a2 : Addr) (p3 : Int32) (bv : Int32) (h0 : Heap) (n0 : Nat) (Z0 : n0 ≤ h0.size) (VA : AV Z h0 a2 .byte 1 (fun _ => .int bv)) (EA : Exa Z h0 a2 "[B") (hp1 : p1 = (0 : Int32)) (hbv : bv < (0 : Int32)) :
    MetFree l (⟨"java/lang/String", "encodeUTF8", "(B[BZ)[B"⟩ : MethodName) (head1 (Jvm.Cond.code (⟨"java/lang/String", "encodeUTF8", "(B[BZ)[B"⟩ : MethodName) jdk_42_method_46_code 9 (some (.array .byte)) :: ws) ({ frames := 2, cells := 1, slots := 2, locals := 30 } : Room)) (fun a U => a = #[(.int p1), (.ref a2), (.int p3)] ∧ Z.Warmed39 U.vm ∧ U.heap = h0) (fun _ _ _ _ _ => True) (fun _ U oC U' => ∃ v L, oC = .returned v ∧ Q_rm_e8b Z p1 a2 p3 bv h0 n0 v U'.heap L ∧ FrameEnd U oC U' L ({ frames := 2, cells := 1, slots := 2, locals := 30 } : Room).cells ({ frames := 2, cells := 1, slots := 2, locals := 30 } : Room).slots) := by
  refine MetFree.of_bodySF (plainFor_of_name pn_3) hisR ?_
  intro p e s m args below meth c s₁ Bd hml0 hP hK
  obtain ⟨rfl, hZ, hh⟩ := hP
  have hx := Bd.exec
  have hby := Bd.bytes
  have hml : c.maxLocals = 9 := hml0
  have hown : s.vm.findClass "java/lang/String" = some m.cls := findClass_of_methodNamed Bd.named
  have hnm := (name_of_methodNamed Bd.named Bd.method).1
  have X0 : Stand p l e ({ frames := 2, cells := 1, slots := 2, locals := 30 } : Room) s m #[(.int p1), (.ref a2), (.int p3)] below meth c s₁ [] 0 0 := Stand.of_body Bd
  have e0 : s₁.heap = h0 := by rw [← hh, Bd.state]; rfl
  have N0 := Fr.nil n0
  have pre0 : ∀ tg, Steps p.tables e below (s₁.setTop (mkF m 0 #[.val (.int p1), .val (.ref a2), .val (.int p3), .unset, .unset, .unset, .unset, .unset, .unset] [])) tg → Steps p.tables e below (s₁.setTop (entryFrame m #[(.int p1), (.ref a2), (.int p3)] 9)) tg := fun t k => castTop (ef_rm_e8b m p1 a2 p3) k
  have pre00 : ∀ tg, Steps p.tables e below (s₁.setTop (mkF m 0 #[.val (.int p1), .val (.ref a2), .val (.int p3), .unset, .unset, .unset, .unset, .unset, .unset] [])) tg → Steps p.tables e below (s₁.setTop (mkF m 0 #[.val (.int p1), .val (.ref a2), .val (.int p3), .unset, .unset, .unset, .unset, .unset, .unset] [])) tg := fun _ k => k
  have R72 : ∀ tg, Steps p.tables e below (s₁.setTop (mkF m 14 #[.val (.int p1), .val (.ref a2), .val (.int p3), .unset, .unset, .unset, .unset, .unset, .unset] [(.ref a2), (.int (0 : Int32)), (.ref a2)])) tg → Steps p.tables e below (s₁.setTop (mkF m 0 #[.val (.int p1), .val (.ref a2), .val (.int p3), .unset, .unset, .unset, .unset, .unset, .unset] [])) tg := by
    intro tg kt
    refine pre00 _ ?_
    show Steps p.tables e below (s₁.setTop (mkF m 0 #[.val (.int p1), .val (.ref a2), .val (.int p3), .unset, .unset, .unset, .unset, .unset, .unset] [])) _
    refine XS.iloadN X0.here hx rfl (hb hby d11_0) rfl ?_
    refine XS.iconst X0.here hx rfl (hb hby d11_1) ?_
    show Steps p.tables e below (s₁.setTop (mkF m 2 #[.val (.int p1), .val (.ref a2), .val (.int p3), .unset, .unset, .unset, .unset, .unset, .unset] [(.int (1 : Int32)), (.int p1)])) _
    refine XS.icmpYes X0.here hx rfl (pc0 := 2) (pc' := 11) rfl (hb hby d11_2) rfl (feq (by rw [hp1]; decide : ¬ (p1 = (1 : Int32)))).2 (by decide) (by decide) ?_
    refine XS.aloadN X0.here hx rfl (hb hby d11_11) rfl rfl ?_
    refine XS.iconst X0.here hx rfl (hb hby d11_12) ?_
    show Steps p.tables e below (s₁.setTop (mkF m 13 #[.val (.int p1), .val (.ref a2), .val (.int p3), .unset, .unset, .unset, .unset, .unset, .unset] [(.int (0 : Int32)), (.ref a2)])) _
    refine XS.aloadN X0.here hx rfl (hb hby d11_13) rfl rfl ?_
    exact kt
  obtain ⟨cl73, Ar73, ln73⟩ := VA.len
  have R74 : ∀ tg, Steps p.tables e below (s₁.setTop (mkF m 15 #[.val (.int p1), .val (.ref a2), .val (.int p3), .unset, .unset, .unset, .unset, .unset, .unset] [(.int (1 : Int32)), (.int (0 : Int32)), (.ref a2)])) tg → Steps p.tables e below (s₁.setTop (mkF m 0 #[.val (.int p1), .val (.ref a2), .val (.int p3), .unset, .unset, .unset, .unset, .unset, .unset] [])) tg := by
    intro tg kt
    refine R72 _ ?_
    show Steps p.tables e below (s₁.setTop (mkF m 14 #[.val (.int p1), .val (.ref a2), .val (.int p3), .unset, .unset, .unset, .unset, .unset, .unset] [(.ref a2), (.int (0 : Int32)), (.ref a2)])) _
    refine X0.arraylength hx (by rw [e0]; exact Ar73.1) (State.isArrayOf_alike hZ.alike Ar73.2.1) (g := (mkF m 14 #[.val (.int p1), .val (.ref a2), .val (.int p3), .unset, .unset, .unset, .unset, .unset, .unset] [(.ref a2), (.int (0 : Int32)), (.ref a2)])) rfl rfl (hb hby d11_14) _ ?_
    rw [ln73]
    exact kt
  clear R72
  obtain ⟨_, _, ⟨T75, L75, k75, n75⟩, -, X75, ⟨Lc75, hQ75, l75, y75, z75⟩, st75⟩ := Jvm.LawKit.callS X0 hx (y := (⟨"java/lang/StringCoding", "hasNegatives", "([BII)Z"⟩ : MethodName)) hown (mvT hZ (hw _ (List.mem_of_getElem? (i := 56) rfl))) (mvT hZ (hw _ (List.mem_of_getElem? (i := 57) rfl))) (mvT hZ (hw _ (List.mem_of_getElem? (i := 58) rfl))) (mvT hZ (hw _ (List.mem_of_getElem? (i := 59) rfl))) (by decide) (backOf (W := 0) (rm_hnb l Z a0 hw [] a2 (0 : Int32) (1 : Int32) bv h0 n0 Z0 VA rfl rfl hbv) hZ (hw _ (List.mem_of_getElem? (i := 59) rfl)) (hw _ (List.mem_of_getElem? (i := 58) rfl)) (by decide) (by decide)) (g := (mkF m 15 #[.val (.int p1), .val (.ref a2), .val (.int p3), .unset, .unset, .unset, .unset, .unset, .unset] [(.int (1 : Int32)), (.int (0 : Int32)), (.ref a2)])) rfl (by rw [hml]; rfl) (argsL := [(.ref a2), (.int (0 : Int32)), (.int (1 : Int32))]) (rest := []) (lenOf pd_6 rfl) rfl (by show 2 * 0 + _ ≤ _; exact Nat.le_of_eq rfl) (hb hby d11_15) (fun _ _ => ⟨rfl, e0, (by decide : 0 + 0 ≤ _), (by decide : 0 + 0 ≤ _)⟩)
  dsimp only [Pt.U, Pt.locs, Pt.cells, Pt.slots] at X75 l75 y75 z75 st75 hQ75
  rw [l75, y75, z75] at X75
  obtain ⟨rfl, N75q, hh75⟩ := hQ75
  have N75 := Fr.app N0 N75q
  have R76 : ∀ tg, Steps p.tables e below (T75.setTop (mkF m 32 #[.val (.int p1), .val (.ref a2), .val (.int p3), .val (.int (0 : Int32)), .unset, .unset, .unset, .unset, .unset] [(.ref a2)])) tg → Steps p.tables e below (s₁.setTop (mkF m 0 #[.val (.int p1), .val (.ref a2), .val (.int p3), .unset, .unset, .unset, .unset, .unset, .unset] [])) tg := by
    intro tg kt
    refine R74 _ ?_
    refine st75 _ ?_
    show Steps p.tables e below (T75.setTop (mkF m 18 #[.val (.int p1), .val (.ref a2), .val (.int p3), .unset, .unset, .unset, .unset, .unset, .unset] [(.int (1 : Int32))])) _
    refine XS.ifYes X75.here hx rfl (pc0 := 18) (pc' := 29) rfl (hb hby d11_18) rfl ((if0 _ _).trans (feq (by decide : ¬ ((1 : Int32) = (0 : Int32)))).2) (by decide) (by decide) ?_
    refine XS.iconst X75.here hx rfl (hb hby d11_29) ?_
    show Steps p.tables e below (T75.setTop (mkF m 30 #[.val (.int p1), .val (.ref a2), .val (.int p3), .unset, .unset, .unset, .unset, .unset, .unset] [(.int (0 : Int32))])) _
    refine XS.istoreN X75.here hx rfl (hb hby d11_30) rfl (l' := #[.val (.int p1), .val (.ref a2), .val (.int p3), .val (.int (0 : Int32)), .unset, .unset, .unset, .unset, .unset]) rfl ?_
    refine XS.aloadN X75.here hx rfl (hb hby d11_31) rfl rfl ?_
    exact kt
  clear R74 st75
  obtain ⟨cl77, Ar77, ln77⟩ := VA.len
  have R78 : ∀ tg, Steps p.tables e below (T75.setTop (mkF m 33 #[.val (.int p1), .val (.ref a2), .val (.int p3), .val (.int (0 : Int32)), .unset, .unset, .unset, .unset, .unset] [(.int (1 : Int32))])) tg → Steps p.tables e below (s₁.setTop (mkF m 0 #[.val (.int p1), .val (.ref a2), .val (.int p3), .unset, .unset, .unset, .unset, .unset, .unset] [])) tg := by
    intro tg kt
    refine R76 _ ?_
    show Steps p.tables e below (T75.setTop (mkF m 32 #[.val (.int p1), .val (.ref a2), .val (.int p3), .val (.int (0 : Int32)), .unset, .unset, .unset, .unset, .unset] [(.ref a2)])) _
    refine X75.arraylength hx (by rw [hh75]; exact Ar77.1) (State.isArrayOf_alike hZ.alike Ar77.2.1) (g := (mkF m 32 #[.val (.int p1), .val (.ref a2), .val (.int p3), .val (.int (0 : Int32)), .unset, .unset, .unset, .unset, .unset] [(.ref a2)])) rfl rfl (hb hby d11_32) _ ?_
    rw [ln77]
    exact kt
  clear R76
  obtain ⟨_, _, ⟨T79, L79, k79, n79⟩, -, X79, ⟨Lc79, hQ79, l79, y79, z79⟩, st79⟩ := Jvm.LawKit.callS X75 hx (y := (⟨"java/lang/StringUTF16", "newBytesFor", "(I)[B"⟩ : MethodName)) hown (mvT hZ (hw _ (List.mem_of_getElem? (i := 120) rfl))) (mvT hZ (hw _ (List.mem_of_getElem? (i := 121) rfl))) (mvT hZ (hw _ (List.mem_of_getElem? (i := 122) rfl))) (mvT hZ (hw _ (List.mem_of_getElem? (i := 123) rfl))) (by decide) (backOf (W := 0) (rm_nbf l Z a0 hw [] (1 : Int32) h0 n0 Z0 rfl) hZ (hw _ (List.mem_of_getElem? (i := 123) rfl)) (hw _ (List.mem_of_getElem? (i := 122) rfl)) (by decide) (by decide)) (g := (mkF m 33 #[.val (.int p1), .val (.ref a2), .val (.int p3), .val (.int (0 : Int32)), .unset, .unset, .unset, .unset, .unset] [(.int (1 : Int32))])) rfl (by rw [hml]; rfl) (argsL := [(.int (1 : Int32))]) (rest := []) (lenOf pd_7 rfl) rfl (by show 2 * 0 + _ ≤ _; exact Nat.le_of_eq rfl) (hb hby d11_33) (fun _ _ => ⟨rfl, hh75, (by decide : 0 + 1 ≤ _), (by decide : 0 + 2 ≤ _)⟩)
  dsimp only [Pt.U, Pt.locs, Pt.cells, Pt.slots] at X79 l79 y79 z79 st79 hQ79
  rw [l79, y79, z79] at X79
  obtain ⟨ar, rfl, N79q, szr, K79, V79⟩ := hQ79
  have N79 := Fr.app N75 N79q
  have g_ar : n0 ≤ ar := Nat.le_trans Z0 szr
  have ne_a2_ar : a2 ≠ ar := Nat.ne_of_lt (Nat.lt_of_lt_of_le VA.lt szr)
  have VA_80 := VA.keep K79 own_notin0
  have E_a2_80 := EA.keep K79
  have Zs80 : n0 ≤ T79.heap.size := Nat.le_trans Z0 K79.1
  have Kk80 : Keep h0 T79.heap [] := Keep.trans (Keep.refl h0 []) K79 (own_trans0 )
  have R81 : ∀ tg, Steps p.tables e below (T79.setTop (mkF m 43 #[.val (.int p1), .val (.ref a2), .val (.int p3), .val (.int (0 : Int32)), .val (.ref ar), .val (.ref a2), .unset, .unset, .unset] [(.ref a2)])) tg → Steps p.tables e below (s₁.setTop (mkF m 0 #[.val (.int p1), .val (.ref a2), .val (.int p3), .unset, .unset, .unset, .unset, .unset, .unset] [])) tg := by
    intro tg kt
    refine R78 _ ?_
    refine st79 _ ?_
    show Steps p.tables e below (T79.setTop (mkF m 36 #[.val (.int p1), .val (.ref a2), .val (.int p3), .val (.int (0 : Int32)), .unset, .unset, .unset, .unset, .unset] [(.ref ar)])) _
    refine XS.astore X79.here hx rfl (hb hby d11_36) rfl rfl (l' := #[.val (.int p1), .val (.ref a2), .val (.int p3), .val (.int (0 : Int32)), .val (.ref ar), .unset, .unset, .unset, .unset]) rfl ?_
    refine XS.aloadN X79.here hx rfl (hb hby d11_38) rfl rfl ?_
    show Steps p.tables e below (T79.setTop (mkF m 39 #[.val (.int p1), .val (.ref a2), .val (.int p3), .val (.int (0 : Int32)), .val (.ref ar), .unset, .unset, .unset, .unset] [(.ref a2)])) _
    refine XS.astore X79.here hx rfl (hb hby d11_39) rfl rfl (l' := #[.val (.int p1), .val (.ref a2), .val (.int p3), .val (.int (0 : Int32)), .val (.ref ar), .val (.ref a2), .unset, .unset, .unset]) rfl ?_
    refine XS.aload X79.here hx rfl (hb hby d11_41) rfl rfl ?_
    exact kt
  clear R78 st79
  obtain ⟨cl82, Ar82, ln82⟩ := VA_80.len
  have R83 : ∀ tg, Steps p.tables e below (T79.setTop (mkF m 60 #[.val (.int p1), .val (.ref a2), .val (.int p3), .val (.int (0 : Int32)), .val (.ref ar), .val (.ref a2), .val (.int (1 : Int32)), .val (.int (0 : Int32)), .unset] [(.int (0 : Int32)), (.ref a2)])) tg → Steps p.tables e below (s₁.setTop (mkF m 0 #[.val (.int p1), .val (.ref a2), .val (.int p3), .unset, .unset, .unset, .unset, .unset, .unset] [])) tg := by
    intro tg kt
    refine R81 _ ?_
    show Steps p.tables e below (T79.setTop (mkF m 43 #[.val (.int p1), .val (.ref a2), .val (.int p3), .val (.int (0 : Int32)), .val (.ref ar), .val (.ref a2), .unset, .unset, .unset] [(.ref a2)])) _
    refine X79.arraylength hx Ar82.1 (State.isArrayOf_alike hZ.alike Ar82.2.1) (g := (mkF m 43 #[.val (.int p1), .val (.ref a2), .val (.int p3), .val (.int (0 : Int32)), .val (.ref ar), .val (.ref a2), .unset, .unset, .unset] [(.ref a2)])) rfl rfl (hb hby d11_43) _ ?_
    rw [ln82]
    show Steps p.tables e below (T79.setTop (mkF m 44 #[.val (.int p1), .val (.ref a2), .val (.int p3), .val (.int (0 : Int32)), .val (.ref ar), .val (.ref a2), .unset, .unset, .unset] [(.int (1 : Int32))])) _
    refine XS.istore X79.here hx rfl (hb hby d11_44) rfl (l' := #[.val (.int p1), .val (.ref a2), .val (.int p3), .val (.int (0 : Int32)), .val (.ref ar), .val (.ref a2), .val (.int (1 : Int32)), .unset, .unset]) rfl ?_
    refine XS.iconst X79.here hx rfl (hb hby d11_46) ?_
    show Steps p.tables e below (T79.setTop (mkF m 47 #[.val (.int p1), .val (.ref a2), .val (.int p3), .val (.int (0 : Int32)), .val (.ref ar), .val (.ref a2), .val (.int (1 : Int32)), .unset, .unset] [(.int (0 : Int32))])) _
    refine XS.istore X79.here hx rfl (hb hby d11_47) rfl (l' := #[.val (.int p1), .val (.ref a2), .val (.int p3), .val (.int (0 : Int32)), .val (.ref ar), .val (.ref a2), .val (.int (1 : Int32)), .val (.int (0 : Int32)), .unset]) rfl ?_
    refine XS.iload X79.here hx rfl (hb hby d11_49) rfl ?_
    refine XS.iload X79.here hx rfl (hb hby d11_51) rfl ?_
    show Steps p.tables e below (T79.setTop (mkF m 53 #[.val (.int p1), .val (.ref a2), .val (.int p3), .val (.int (0 : Int32)), .val (.ref ar), .val (.ref a2), .val (.int (1 : Int32)), .val (.int (0 : Int32)), .unset] [(.int (1 : Int32)), (.int (0 : Int32))])) _
    refine XS.icmpNo X79.here hx rfl (hb hby d11_53) rfl (tlt (by decide : (0 : Int32) < (1 : Int32))).2.1 ?_
    refine XS.aload X79.here hx rfl (hb hby d11_56) rfl rfl ?_
    refine XS.iload X79.here hx rfl (hb hby d11_58) rfl ?_
    exact kt
  clear R81
  obtain ⟨cl84, Ar84, hin84, hat84⟩ := VA_80.at (j := (0 : Int32)) (k := 0) (by decide) rfl (by decide)
  have R85 : ∀ tg, Steps p.tables e below (T79.setTop (mkF m 88 #[.val (.int p1), .val (.ref a2), .val (.int p3), .val (.int ((0 : Int32) + (1 : Int32))), .val (.ref ar), .val (.ref a2), .val (.int (1 : Int32)), .val (.int (0 : Int32)), .val (.int bv)] [(.int (((192 : Int32) ||| ((bv &&& (255 : Int32)) >>> ((6 : Int32) &&& 31))).toInt8.toInt32)), (.int (0 : Int32)), (.ref ar)])) tg → Steps p.tables e below (s₁.setTop (mkF m 0 #[.val (.int p1), .val (.ref a2), .val (.int p3), .unset, .unset, .unset, .unset, .unset, .unset] [])) tg := by
    intro tg kt
    refine R83 _ ?_
    show Steps p.tables e below (T79.setTop (mkF m 60 #[.val (.int p1), .val (.ref a2), .val (.int p3), .val (.int (0 : Int32)), .val (.ref ar), .val (.ref a2), .val (.int (1 : Int32)), .val (.int (0 : Int32)), .unset] [(.int (0 : Int32)), (.ref a2)])) _
    refine X79.baloadBytes hx (j := (0 : Int32)) (v := (.int bv)) Ar84.1 (State.isArrayOf_alike hZ.alike Ar84.2.1) Ar84.2.2 hin84 hat84 (g := (mkF m 60 #[.val (.int p1), .val (.ref a2), .val (.int p3), .val (.int (0 : Int32)), .val (.ref ar), .val (.ref a2), .val (.int (1 : Int32)), .val (.int (0 : Int32)), .unset] [(.int (0 : Int32)), (.ref a2)])) rfl rfl (hb hby d11_60) _ ?_
    show Steps p.tables e below (T79.setTop (mkF m 61 #[.val (.int p1), .val (.ref a2), .val (.int p3), .val (.int (0 : Int32)), .val (.ref ar), .val (.ref a2), .val (.int (1 : Int32)), .val (.int (0 : Int32)), .unset] [(.int bv)])) _
    refine XS.istore X79.here hx rfl (hb hby d11_61) rfl (l' := #[.val (.int p1), .val (.ref a2), .val (.int p3), .val (.int (0 : Int32)), .val (.ref ar), .val (.ref a2), .val (.int (1 : Int32)), .val (.int (0 : Int32)), .val (.int bv)]) rfl ?_
    refine XS.iload X79.here hx rfl (hb hby d11_63) rfl ?_
    show Steps p.tables e below (T79.setTop (mkF m 65 #[.val (.int p1), .val (.ref a2), .val (.int p3), .val (.int (0 : Int32)), .val (.ref ar), .val (.ref a2), .val (.int (1 : Int32)), .val (.int (0 : Int32)), .val (.int bv)] [(.int bv)])) _
    refine XS.ifNo X79.here hx rfl (hb hby d11_65) rfl ((if0 _ _).trans (tlt (hbv : bv < (0 : Int32))).2.1) ?_
    refine XS.aload X79.here hx rfl (hb hby d11_68) rfl rfl ?_
    refine XS.iloadN X79.here hx rfl (hb hby d11_70) rfl ?_
    show Steps p.tables e below (T79.setTop (mkF m 71 #[.val (.int p1), .val (.ref a2), .val (.int p3), .val (.int (0 : Int32)), .val (.ref ar), .val (.ref a2), .val (.int (1 : Int32)), .val (.int (0 : Int32)), .val (.int bv)] [(.int (0 : Int32)), (.ref ar)])) _
    refine XS.iinc X79.here hx rfl (hb hby d11_71) rfl (l' := #[.val (.int p1), .val (.ref a2), .val (.int p3), .val (.int ((0 : Int32) + (1 : Int32))), .val (.ref ar), .val (.ref a2), .val (.int (1 : Int32)), .val (.int (0 : Int32)), .val (.int bv)]) rfl ?_
    refine XS.sipush X79.here hx rfl (hb hby d11_74) ?_
    refine XS.iload X79.here hx rfl (hb hby d11_77) rfl ?_
    show Steps p.tables e below (T79.setTop (mkF m 79 #[.val (.int p1), .val (.ref a2), .val (.int p3), .val (.int ((0 : Int32) + (1 : Int32))), .val (.ref ar), .val (.ref a2), .val (.int (1 : Int32)), .val (.int (0 : Int32)), .val (.int bv)] [(.int bv), (.int (192 : Int32)), (.int (0 : Int32)), (.ref ar)])) _
    refine XS.sipush X79.here hx rfl (hb hby d11_79) ?_
    show Steps p.tables e below (T79.setTop (mkF m 82 #[.val (.int p1), .val (.ref a2), .val (.int p3), .val (.int ((0 : Int32) + (1 : Int32))), .val (.ref ar), .val (.ref a2), .val (.int (1 : Int32)), .val (.int (0 : Int32)), .val (.int bv)] [(.int (255 : Int32)), (.int bv), (.int (192 : Int32)), (.int (0 : Int32)), (.ref ar)])) _
    refine XS.iand X79.here hx rfl (hb hby d11_82) rfl ?_
    refine XS.bipush X79.here hx rfl (hb hby d11_83) ?_
    show Steps p.tables e below (T79.setTop (mkF m 85 #[.val (.int p1), .val (.ref a2), .val (.int p3), .val (.int ((0 : Int32) + (1 : Int32))), .val (.ref ar), .val (.ref a2), .val (.int (1 : Int32)), .val (.int (0 : Int32)), .val (.int bv)] [(.int (6 : Int32)), (.int (bv &&& (255 : Int32))), (.int (192 : Int32)), (.int (0 : Int32)), (.ref ar)])) _
    refine XS.ishr X79.here hx rfl (hb hby d11_85) rfl ?_
    show Steps p.tables e below (T79.setTop (mkF m 86 #[.val (.int p1), .val (.ref a2), .val (.int p3), .val (.int ((0 : Int32) + (1 : Int32))), .val (.ref ar), .val (.ref a2), .val (.int (1 : Int32)), .val (.int (0 : Int32)), .val (.int bv)] [(.int ((bv &&& (255 : Int32)) >>> ((6 : Int32) &&& 31))), (.int (192 : Int32)), (.int (0 : Int32)), (.ref ar)])) _
    refine XS.ior X79.here hx rfl (hb hby d11_86) rfl ?_
    show Steps p.tables e below (T79.setTop (mkF m 87 #[.val (.int p1), .val (.ref a2), .val (.int p3), .val (.int ((0 : Int32) + (1 : Int32))), .val (.ref ar), .val (.ref a2), .val (.int (1 : Int32)), .val (.int (0 : Int32)), .val (.int bv)] [(.int ((192 : Int32) ||| ((bv &&& (255 : Int32)) >>> ((6 : Int32) &&& 31)))), (.int (0 : Int32)), (.ref ar)])) _
    refine XS.i2b X79.here hx rfl (hb hby d11_87) rfl ?_
    exact kt
  clear R83
  obtain ⟨cl86, Ar86, hin86, -⟩ := V79.at (j := (0 : Int32)) (k := 0) (by decide) rfl (by decide)
  obtain ⟨T87, h87, X87, e87, W87, st87⟩ := stB X79 hx hZ rfl Ar86 (j := (0 : Int32)) hin86 (g := (mkF m 88 #[.val (.int p1), .val (.ref a2), .val (.int p3), .val (.int ((0 : Int32) + (1 : Int32))), .val (.ref ar), .val (.ref a2), .val (.int (1 : Int32)), .val (.int (0 : Int32)), .val (.int bv)] [(.int (((192 : Int32) ||| ((bv &&& (255 : Int32)) >>> ((6 : Int32) &&& 31))).toInt8.toInt32)), (.int (0 : Int32)), (.ref ar)])) rfl rfl (hb hby d11_88)
  have N87 := Fr.snoc X87 N79 g_ar
  rw [show ((0 : Int32) : Int32).toNatClampNeg = 0 from rfl] at W87
  have VD_87 := V79.set W87 (fits_nar_byte _)
  have VA_87 := VA_80.other W87 ne_a2_ar
  have E_a2_87 := E_a2_80.wr W87
  clear VA_80 E_a2_80
  have Zs87 : n0 ≤ h87.size := Nat.le_trans Zs80 (Keep.of_wr W87).1
  have Kw87 : Keep h0 h87 [] := Keep.wr Kk80 W87 (Or.inr szr)
  have R88 : ∀ tg, Steps p.tables e below (T87.setTop (mkF m 105 #[.val (.int p1), .val (.ref a2), .val (.int p3), .val (.int (((0 : Int32) + (1 : Int32)) + (1 : Int32))), .val (.ref ar), .val (.ref a2), .val (.int (1 : Int32)), .val (.int (0 : Int32)), .val (.int bv)] [(.int (((128 : Int32) ||| (bv &&& (63 : Int32))).toInt8.toInt32)), (.int ((0 : Int32) + (1 : Int32))), (.ref ar)])) tg → Steps p.tables e below (s₁.setTop (mkF m 0 #[.val (.int p1), .val (.ref a2), .val (.int p3), .unset, .unset, .unset, .unset, .unset, .unset] [])) tg := by
    intro tg kt
    refine R85 _ ?_
    refine st87 _ ?_
    refine XS.aload X87.here hx rfl (hb hby d11_89) rfl rfl ?_
    refine XS.iloadN X87.here hx rfl (hb hby d11_91) rfl ?_
    show Steps p.tables e below (T87.setTop (mkF m 92 #[.val (.int p1), .val (.ref a2), .val (.int p3), .val (.int ((0 : Int32) + (1 : Int32))), .val (.ref ar), .val (.ref a2), .val (.int (1 : Int32)), .val (.int (0 : Int32)), .val (.int bv)] [(.int ((0 : Int32) + (1 : Int32))), (.ref ar)])) _
    refine XS.iinc X87.here hx rfl (hb hby d11_92) rfl (l' := #[.val (.int p1), .val (.ref a2), .val (.int p3), .val (.int (((0 : Int32) + (1 : Int32)) + (1 : Int32))), .val (.ref ar), .val (.ref a2), .val (.int (1 : Int32)), .val (.int (0 : Int32)), .val (.int bv)]) rfl ?_
    refine XS.sipush X87.here hx rfl (hb hby d11_95) ?_
    refine XS.iload X87.here hx rfl (hb hby d11_98) rfl ?_
    show Steps p.tables e below (T87.setTop (mkF m 100 #[.val (.int p1), .val (.ref a2), .val (.int p3), .val (.int (((0 : Int32) + (1 : Int32)) + (1 : Int32))), .val (.ref ar), .val (.ref a2), .val (.int (1 : Int32)), .val (.int (0 : Int32)), .val (.int bv)] [(.int bv), (.int (128 : Int32)), (.int ((0 : Int32) + (1 : Int32))), (.ref ar)])) _
    refine XS.bipush X87.here hx rfl (hb hby d11_100) ?_
    show Steps p.tables e below (T87.setTop (mkF m 102 #[.val (.int p1), .val (.ref a2), .val (.int p3), .val (.int (((0 : Int32) + (1 : Int32)) + (1 : Int32))), .val (.ref ar), .val (.ref a2), .val (.int (1 : Int32)), .val (.int (0 : Int32)), .val (.int bv)] [(.int (63 : Int32)), (.int bv), (.int (128 : Int32)), (.int ((0 : Int32) + (1 : Int32))), (.ref ar)])) _
    refine XS.iand X87.here hx rfl (hb hby d11_102) rfl ?_
    show Steps p.tables e below (T87.setTop (mkF m 103 #[.val (.int p1), .val (.ref a2), .val (.int p3), .val (.int (((0 : Int32) + (1 : Int32)) + (1 : Int32))), .val (.ref ar), .val (.ref a2), .val (.int (1 : Int32)), .val (.int (0 : Int32)), .val (.int bv)] [(.int (bv &&& (63 : Int32))), (.int (128 : Int32)), (.int ((0 : Int32) + (1 : Int32))), (.ref ar)])) _
    refine XS.ior X87.here hx rfl (hb hby d11_103) rfl ?_
    show Steps p.tables e below (T87.setTop (mkF m 104 #[.val (.int p1), .val (.ref a2), .val (.int p3), .val (.int (((0 : Int32) + (1 : Int32)) + (1 : Int32))), .val (.ref ar), .val (.ref a2), .val (.int (1 : Int32)), .val (.int (0 : Int32)), .val (.int bv)] [(.int ((128 : Int32) ||| (bv &&& (63 : Int32)))), (.int ((0 : Int32) + (1 : Int32))), (.ref ar)])) _
    refine XS.i2b X87.here hx rfl (hb hby d11_104) rfl ?_
    exact kt
  clear R85 st87
  obtain ⟨cl89, Ar89, hin89, -⟩ := VD_87.at (j := ((0 : Int32) + (1 : Int32))) (k := 1) (by decide) rfl (by decide)
  obtain ⟨T90, h90, X90, e90, W90, st90⟩ := stB X87 hx hZ e87 Ar89 (j := ((0 : Int32) + (1 : Int32))) hin89 (g := (mkF m 105 #[.val (.int p1), .val (.ref a2), .val (.int p3), .val (.int (((0 : Int32) + (1 : Int32)) + (1 : Int32))), .val (.ref ar), .val (.ref a2), .val (.int (1 : Int32)), .val (.int (0 : Int32)), .val (.int bv)] [(.int (((128 : Int32) ||| (bv &&& (63 : Int32))).toInt8.toInt32)), (.int ((0 : Int32) + (1 : Int32))), (.ref ar)])) rfl rfl (hb hby d11_105)
  have N90 := Fr.snoc X90 N87 g_ar
  rw [show (((0 : Int32) + (1 : Int32)) : Int32).toNatClampNeg = 1 from rfl] at W90
  have VD_90 := VD_87.set W90 (fits_nar_byte _)
  have VA_90 := VA_87.other W90 ne_a2_ar
  have E_a2_90 := E_a2_87.wr W90
  clear VA_87 E_a2_87
  have Zs90 : n0 ≤ h90.size := Nat.le_trans Zs87 (Keep.of_wr W90).1
  have Kw90 : Keep h0 h90 [] := Keep.wr Kw87 W90 (Or.inr szr)
  have R91 : ∀ tg, Steps p.tables e below (T90.setTop (mkF m 127 #[.val (.int p1), .val (.ref a2), .val (.int p3), .val (.int (((0 : Int32) + (1 : Int32)) + (1 : Int32))), .val (.ref ar), .val (.ref a2), .val (.int (1 : Int32)), .val (.int ((0 : Int32) + (1 : Int32))), .val (.int bv)] [(.ref ar), (.int (((0 : Int32) + (1 : Int32)) + (1 : Int32)))])) tg → Steps p.tables e below (s₁.setTop (mkF m 0 #[.val (.int p1), .val (.ref a2), .val (.int p3), .unset, .unset, .unset, .unset, .unset, .unset] [])) tg := by
    intro tg kt
    refine R88 _ ?_
    refine st90 _ ?_
    show Steps p.tables e below (T90.setTop (mkF m 106 #[.val (.int p1), .val (.ref a2), .val (.int p3), .val (.int (((0 : Int32) + (1 : Int32)) + (1 : Int32))), .val (.ref ar), .val (.ref a2), .val (.int (1 : Int32)), .val (.int (0 : Int32)), .val (.int bv)] [])) _
    refine XS.goto X90.here hx rfl (pc0 := 106) (pc' := 118) rfl (hb hby d11_106) (by decide) (by decide) ?_
    show Steps p.tables e below (T90.setTop (mkF m 118 #[.val (.int p1), .val (.ref a2), .val (.int p3), .val (.int (((0 : Int32) + (1 : Int32)) + (1 : Int32))), .val (.ref ar), .val (.ref a2), .val (.int (1 : Int32)), .val (.int (0 : Int32)), .val (.int bv)] [])) _
    refine XS.iinc X90.here hx rfl (hb hby d11_118) rfl (l' := #[.val (.int p1), .val (.ref a2), .val (.int p3), .val (.int (((0 : Int32) + (1 : Int32)) + (1 : Int32))), .val (.ref ar), .val (.ref a2), .val (.int (1 : Int32)), .val (.int ((0 : Int32) + (1 : Int32))), .val (.int bv)]) rfl ?_
    show Steps p.tables e below (T90.setTop (mkF m 121 #[.val (.int p1), .val (.ref a2), .val (.int p3), .val (.int (((0 : Int32) + (1 : Int32)) + (1 : Int32))), .val (.ref ar), .val (.ref a2), .val (.int (1 : Int32)), .val (.int ((0 : Int32) + (1 : Int32))), .val (.int bv)] [])) _
    refine XS.goto X90.here hx rfl (pc0 := 121) (pc' := 49) rfl (hb hby d11_121) (by decide) (by decide) ?_
    refine XS.iload X90.here hx rfl (hb hby d11_49) rfl ?_
    refine XS.iload X90.here hx rfl (hb hby d11_51) rfl ?_
    show Steps p.tables e below (T90.setTop (mkF m 53 #[.val (.int p1), .val (.ref a2), .val (.int p3), .val (.int (((0 : Int32) + (1 : Int32)) + (1 : Int32))), .val (.ref ar), .val (.ref a2), .val (.int (1 : Int32)), .val (.int ((0 : Int32) + (1 : Int32))), .val (.int bv)] [(.int (1 : Int32)), (.int ((0 : Int32) + (1 : Int32)))])) _
    refine XS.icmpYes X90.here hx rfl (pc0 := 53) (pc' := 124) rfl (hb hby d11_53) rfl (flt (by decide : ¬ (((0 : Int32) + (1 : Int32)) < (1 : Int32)))).2.1 (by decide) (by decide) ?_
    refine XS.iloadN X90.here hx rfl (hb hby d11_124) rfl ?_
    refine XS.aload X90.here hx rfl (hb hby d11_125) rfl rfl ?_
    exact kt
  clear R88 st90
  obtain ⟨cl92, Ar92, ln92⟩ := VD_90.len
  have R93 : ∀ tg, Steps p.tables e below (T90.setTop (mkF m 133 #[.val (.int p1), .val (.ref a2), .val (.int p3), .val (.int (((0 : Int32) + (1 : Int32)) + (1 : Int32))), .val (.ref ar), .val (.ref a2), .val (.int (1 : Int32)), .val (.int ((0 : Int32) + (1 : Int32))), .val (.int bv)] [(.ref ar)])) tg → Steps p.tables e below (s₁.setTop (mkF m 0 #[.val (.int p1), .val (.ref a2), .val (.int p3), .unset, .unset, .unset, .unset, .unset, .unset] [])) tg := by
    intro tg kt
    refine R91 _ ?_
    show Steps p.tables e below (T90.setTop (mkF m 127 #[.val (.int p1), .val (.ref a2), .val (.int p3), .val (.int (((0 : Int32) + (1 : Int32)) + (1 : Int32))), .val (.ref ar), .val (.ref a2), .val (.int (1 : Int32)), .val (.int ((0 : Int32) + (1 : Int32))), .val (.int bv)] [(.ref ar), (.int (((0 : Int32) + (1 : Int32)) + (1 : Int32)))])) _
    refine X90.arraylength hx (by rw [e90]; exact Ar92.1) (State.isArrayOf_alike hZ.alike Ar92.2.1) (g := (mkF m 127 #[.val (.int p1), .val (.ref a2), .val (.int p3), .val (.int (((0 : Int32) + (1 : Int32)) + (1 : Int32))), .val (.ref ar), .val (.ref a2), .val (.int (1 : Int32)), .val (.int ((0 : Int32) + (1 : Int32))), .val (.int bv)] [(.ref ar), (.int (((0 : Int32) + (1 : Int32)) + (1 : Int32)))])) rfl rfl (hb hby d11_127) _ ?_
    rw [ln92]
    show Steps p.tables e below (T90.setTop (mkF m 128 #[.val (.int p1), .val (.ref a2), .val (.int p3), .val (.int (((0 : Int32) + (1 : Int32)) + (1 : Int32))), .val (.ref ar), .val (.ref a2), .val (.int (1 : Int32)), .val (.int ((0 : Int32) + (1 : Int32))), .val (.int bv)] [(.int (2 : Int32)), (.int (((0 : Int32) + (1 : Int32)) + (1 : Int32)))])) _
    refine XS.icmpNo X90.here hx rfl (hb hby d11_128) rfl (teq (by decide : (((0 : Int32) + (1 : Int32)) + (1 : Int32)) = (2 : Int32))).2 ?_
    refine XS.aload X90.here hx rfl (hb hby d11_131) rfl rfl ?_
    exact kt
  clear R91
  have VDz : AV Z h90 ar .byte 2 (fun j => .int (own_v2 (own_d0 bv) (own_d1 bv) j)) := AV.congr VD_90 (own_two2 (own_d0 bv) (own_d1 bv) _)
  obtain ⟨fs, hr, hrun, hended, hW, hsame⟩ := X90.leave (v := some (.ref ar)) (fun h => by rw [Bd.returns] at h; cases h)
  refine ⟨_, _, pre0 _ (R93 _ ?_), hrun, hended, _, _, rfl, ?_, ⟨_, rfl⟩, hW, hsame.mono (by decide) (by decide)⟩
  · show Steps p.tables e below (T90.setTop (mkF m 133 #[.val (.int p1), .val (.ref a2), .val (.int p3), .val (.int (((0 : Int32) + (1 : Int32)) + (1 : Int32))), .val (.ref ar), .val (.ref a2), .val (.int (1 : Int32)), .val (.int ((0 : Int32) + (1 : Int32))), .val (.int bv)] [(.ref ar)])) _
    jvm_step X90.here [X90.here.top, hx, (hb hby d11_133), X90.method', Bd.returns, Value.isRef, FieldType.isReference]
    first | (intro acts; rw [hr _ acts rfl rfl rfl]) | rw [hr _ _ rfl rfl rfl]
    exact Steps.refl _
  · show Q_rm_e8b Z p1 a2 p3 bv h0 n0 _ T90.heap _
    rw [e90]
    exact ⟨ar, rfl, N90, szr, Kw90, VDz⟩
theorem d10_0 : decode jdk_42_method_18_code 0 = .ok (.aload_n 0, 1) := by decide +kernel
theorem d10_1 : decode jdk_42_method_18_code 1 = .ok (.getstatic 86, 3) := by decide +kernel
theorem d10_4 : decode jdk_42_method_18_code 4 = .ok (.if_acmp .ne 10, 3) := by decide +kernel
theorem d10_7 : decode jdk_42_method_18_code 7 = .ok (.iload_n 1, 1) := by decide +kernel
theorem d10_8 : decode jdk_42_method_18_code 8 = .ok (.aload_n 2, 1) := by decide +kernel
theorem d10_9 : decode jdk_42_method_18_code 9 = .ok (.iconst 1, 1) := by decide +kernel
theorem pd_8 : parseMethodDescriptor "(B[BZ)[B" = some ⟨[.byte, (.array .byte), .boolean], some (.array .byte)⟩ := by decide +kernel
theorem d10_10 : decode jdk_42_method_18_code 10 = .ok (.invokestatic 252, 3) := by decide +kernel
theorem d10_13 : decode jdk_42_method_18_code 13 = .ok (.areturn, 1) := by decide +kernel
theorem ef_rm_ena (m : MethodId) (uu : Addr) (p2 : Int32) (a3 : Addr) : entryFrame m #[(.ref uu), (.int p2), (.ref a3)] 3 = mkF m 0 #[.val (.ref uu), .val (.int p2), .val (.ref a3)] [] := by first | (simp [entryFrame, mkF, argsToLocals, Value.category]; done) | rfl
def Q_rm_ena (Z : State) (uu : Addr) (p2 : Int32) (a3 : Addr) (bv : Int32) (h0 : Heap) (n0 : Nat) (v : Option Value) (h : Heap) (L : List Loc) : Prop := ∃ t : Addr, v = some (.ref t) ∧ Fr n0 L ∧ h0.size ≤ t ∧ Keep h0 h [] ∧ AV Z h t .byte 1 (fun j => .int ((fun _ => bv) j))
set_option maxRecDepth 65536 in
set_option maxHeartbeats 40000000 in
theorem rm_ena (l : Launch) (Z : State) (a0 : Array Value) (hw : ∀ d ∈ tables_1, d.before a0 Z = true) (ws : List Jvm.Cond) (uu : Addr) (p2 : Int32) (a3 : Addr) (bv : Int32) (h0 : Heap) (n0 : Nat) (Z0 : n0 ≤ h0.size) (SI : Sta Z Z.heap "sun/nio/cs/UTF_8" "INSTANCE" "Lsun/nio/cs/UTF_8;" (.ref uu)) (OL : Old Z n0 h0) (VA : AV Z h0 a3 .byte 1 (fun _ => .int bv)) (EA : Exa Z h0 a3 "[B") (hp2 : p2 = (0 : Int32)) (hbv : ¬ bv < (0 : Int32)) :
    MetFree l (⟨"java/lang/String", "encode", "(Ljava/nio/charset/Charset;B[B)[B"⟩ : MethodName) (head1 (Jvm.Cond.code (⟨"java/lang/String", "encode", "(Ljava/nio/charset/Charset;B[B)[B"⟩ : MethodName) jdk_42_method_18_code 3 (some (.array .byte)) :: ws) ({ frames := 3, cells := 1, slots := 1, locals := 50 } : Room)) (fun a U => a = #[(.ref uu), (.int p2), (.ref a3)] ∧ Z.Warmed39 U.vm ∧ U.heap = h0) (fun _ _ _ _ _ => True) (fun _ U oC U' => ∃ v L, oC = .returned v ∧ Q_rm_ena Z uu p2 a3 bv h0 n0 v U'.heap L ∧ FrameEnd U oC U' L ({ frames := 3, cells := 1, slots := 1, locals := 50 } : Room).cells ({ frames := 3, cells := 1, slots := 1, locals := 50 } : Room).slots) := by
  refine MetFree.of_bodySF (plainFor_of_name pn_3) hisR ?_
  intro p e s m args below meth c s₁ Bd hml0 hP hK
  obtain ⟨rfl, hZ, hh⟩ := hP
  have hx := Bd.exec
  have hby := Bd.bytes
  have hml : c.maxLocals = 3 := hml0
  have hown : s.vm.findClass "java/lang/String" = some m.cls := findClass_of_methodNamed Bd.named
  have hnm := (name_of_methodNamed Bd.named Bd.method).1
  have X0 : Stand p l e ({ frames := 3, cells := 1, slots := 1, locals := 50 } : Room) s m #[(.ref uu), (.int p2), (.ref a3)] below meth c s₁ [] 0 0 := Stand.of_body Bd
  have e0 : s₁.heap = h0 := by rw [← hh, Bd.state]; rfl
  have N0 := Fr.nil n0
  have pre0 : ∀ tg, Steps p.tables e below (s₁.setTop (mkF m 0 #[.val (.ref uu), .val (.int p2), .val (.ref a3)] [])) tg → Steps p.tables e below (s₁.setTop (entryFrame m #[(.ref uu), (.int p2), (.ref a3)] 3)) tg := fun t k => castTop (ef_rm_ena m uu p2 a3) k
  have pre00 : ∀ tg, Steps p.tables e below (s₁.setTop (mkF m 0 #[.val (.ref uu), .val (.int p2), .val (.ref a3)] [])) tg → Steps p.tables e below (s₁.setTop (mkF m 0 #[.val (.ref uu), .val (.int p2), .val (.ref a3)] [])) tg := fun _ k => k
  have R94 : ∀ tg, Steps p.tables e below (s₁.setTop (mkF m 1 #[.val (.ref uu), .val (.int p2), .val (.ref a3)] [(.ref uu)])) tg → Steps p.tables e below (s₁.setTop (mkF m 0 #[.val (.ref uu), .val (.int p2), .val (.ref a3)] [])) tg := by
    intro tg kt
    refine pre00 _ ?_
    show Steps p.tables e below (s₁.setTop (mkF m 0 #[.val (.ref uu), .val (.int p2), .val (.ref a3)] [])) _
    refine XS.aloadN X0.here hx rfl (hb hby d10_0) rfl rfl ?_
    exact kt
  obtain ⟨T95, X95, e95, st95⟩ := getS2 X0 hx hZ hown (host := "") (Or.inl (hw _ (List.mem_of_getElem? (i := 51) rfl))) Via.refl e0 (SI.ext OL.2) (g := (mkF m 1 #[.val (.ref uu), .val (.int p2), .val (.ref a3)] [(.ref uu)])) rfl (hb hby d10_1)
  have R96 : ∀ tg, Steps p.tables e below (T95.setTop (mkF m 10 #[.val (.ref uu), .val (.int p2), .val (.ref a3)] [(.int (1 : Int32)), (.ref a3), (.int p2)])) tg → Steps p.tables e below (s₁.setTop (mkF m 0 #[.val (.ref uu), .val (.int p2), .val (.ref a3)] [])) tg := by
    intro tg kt
    refine R94 _ ?_
    refine st95 _ ?_
    show Steps p.tables e below (T95.setTop (mkF m 4 #[.val (.ref uu), .val (.int p2), .val (.ref a3)] [(.ref uu), (.ref uu)])) _
    refine Jvm.RoadKit.acmp (g := (mkF m 4 #[.val (.ref uu), .val (.int p2), .val (.ref a3)] [(.ref uu), (.ref uu)])) X95 hx rfl rfl rfl (pc0 := 4) (pc' := 7) (same := true) rfl (hb hby d10_4) rfl (decide_eq_true rfl) (by decide) (by decide) ?_
    refine XS.iloadN X95.here hx rfl (hb hby d10_7) rfl ?_
    refine XS.aloadN X95.here hx rfl (hb hby d10_8) rfl rfl ?_
    show Steps p.tables e below (T95.setTop (mkF m 9 #[.val (.ref uu), .val (.int p2), .val (.ref a3)] [(.ref a3), (.int p2)])) _
    refine XS.iconst X95.here hx rfl (hb hby d10_9) ?_
    exact kt
  clear R94 st95
  obtain ⟨_, _, ⟨T97, L97, k97, n97⟩, -, X97, ⟨Lc97, hQ97, l97, y97, z97⟩, st97⟩ := Jvm.LawKit.callS X95 hx (y := (⟨"java/lang/String", "encodeUTF8", "(B[BZ)[B"⟩ : MethodName)) hown (mvT hZ (hw _ (List.mem_of_getElem? (i := 53) rfl))) (mvT hZ (hw _ (List.mem_of_getElem? (i := 54) rfl))) (mvT hZ (hw _ (List.mem_of_getElem? (i := 2) rfl))) (mvT hZ (hw _ (List.mem_of_getElem? (i := 55) rfl))) (by decide) (backOf (W := 0) (rm_e8a l Z a0 hw [] p2 a3 (1 : Int32) bv h0 n0 Z0 VA EA hp2 hbv) hZ (hw _ (List.mem_of_getElem? (i := 55) rfl)) (hw _ (List.mem_of_getElem? (i := 2) rfl)) (by decide) (by decide)) (g := (mkF m 10 #[.val (.ref uu), .val (.int p2), .val (.ref a3)] [(.int (1 : Int32)), (.ref a3), (.int p2)])) rfl (by rw [hml]; rfl) (argsL := [(.int p2), (.ref a3), (.int (1 : Int32))]) (rest := []) (lenOf pd_8 rfl) rfl (by show 2 * 0 + _ ≤ _; exact Nat.le_of_eq rfl) (hb hby d10_10) (fun _ _ => ⟨rfl, e95, (by decide : 0 + 1 ≤ _), (by decide : 0 + 1 ≤ _)⟩)
  dsimp only [Pt.U, Pt.locs, Pt.cells, Pt.slots] at X97 l97 y97 z97 st97 hQ97
  rw [l97, y97, z97] at X97
  obtain ⟨ar, rfl, N97q, szr, K97, V97⟩ := hQ97
  have N97 := Fr.app N0 N97q
  have R98 : ∀ tg, Steps p.tables e below (T97.setTop (mkF m 13 #[.val (.ref uu), .val (.int p2), .val (.ref a3)] [(.ref ar)])) tg → Steps p.tables e below (s₁.setTop (mkF m 0 #[.val (.ref uu), .val (.int p2), .val (.ref a3)] [])) tg := by
    intro tg kt
    refine R96 _ ?_
    refine st97 _ ?_
    exact kt
  clear R96 st97
  obtain ⟨fs, hr, hrun, hended, hW, hsame⟩ := X97.leave (v := some (.ref ar)) (fun h => by rw [Bd.returns] at h; cases h)
  refine ⟨_, _, pre0 _ (R98 _ ?_), hrun, hended, _, _, rfl, ?_, ⟨_, rfl⟩, hW, hsame.mono (by decide) (by decide)⟩
  · show Steps p.tables e below (T97.setTop (mkF m 13 #[.val (.ref uu), .val (.int p2), .val (.ref a3)] [(.ref ar)])) _
    jvm_step X97.here [X97.here.top, hx, (hb hby d10_13), X97.method', Bd.returns, Value.isRef, FieldType.isReference]
    first | (intro acts; rw [hr _ acts rfl rfl rfl]) | rw [hr _ _ rfl rfl rfl]
    exact Steps.refl _
  · show Q_rm_ena Z uu p2 a3 bv h0 n0 _ T97.heap _
    exact ⟨ar, rfl, N97, szr, K97, V97⟩
theorem ef_rm_enb (m : MethodId) (uu : Addr) (p2 : Int32) (a3 : Addr) : entryFrame m #[(.ref uu), (.int p2), (.ref a3)] 3 = mkF m 0 #[.val (.ref uu), .val (.int p2), .val (.ref a3)] [] := by first | (simp [entryFrame, mkF, argsToLocals, Value.category]; done) | rfl
def Q_rm_enb (Z : State) (uu : Addr) (p2 : Int32) (a3 : Addr) (bv : Int32) (h0 : Heap) (n0 : Nat) (v : Option Value) (h : Heap) (L : List Loc) : Prop := ∃ t : Addr, v = some (.ref t) ∧ Fr n0 L ∧ h0.size ≤ t ∧ Keep h0 h [] ∧ AV Z h t .byte 2 (fun j => .int (own_v2 (own_d0 bv) (own_d1 bv) j))
set_option maxRecDepth 65536 in
set_option maxHeartbeats 40000000 in
theorem rm_enb (l : Launch) (Z : State) (a0 : Array Value) (hw : ∀ d ∈ tables_1, d.before a0 Z = true) (ws : List Jvm.Cond) (uu : Addr) (p2 : Int32) (a3 : Addr) (bv : Int32) (h0 : Heap) (n0 : Nat) (Z0 : n0 ≤ h0.size) (SI : Sta Z Z.heap "sun/nio/cs/UTF_8" "INSTANCE" "Lsun/nio/cs/UTF_8;" (.ref uu)) (OL : Old Z n0 h0) (VA : AV Z h0 a3 .byte 1 (fun _ => .int bv)) (EA : Exa Z h0 a3 "[B") (hp2 : p2 = (0 : Int32)) (hbv : bv < (0 : Int32)) :
    MetFree l (⟨"java/lang/String", "encode", "(Ljava/nio/charset/Charset;B[B)[B"⟩ : MethodName) (head1 (Jvm.Cond.code (⟨"java/lang/String", "encode", "(Ljava/nio/charset/Charset;B[B)[B"⟩ : MethodName) jdk_42_method_18_code 3 (some (.array .byte)) :: ws) ({ frames := 3, cells := 1, slots := 2, locals := 50 } : Room)) (fun a U => a = #[(.ref uu), (.int p2), (.ref a3)] ∧ Z.Warmed39 U.vm ∧ U.heap = h0) (fun _ _ _ _ _ => True) (fun _ U oC U' => ∃ v L, oC = .returned v ∧ Q_rm_enb Z uu p2 a3 bv h0 n0 v U'.heap L ∧ FrameEnd U oC U' L ({ frames := 3, cells := 1, slots := 2, locals := 50 } : Room).cells ({ frames := 3, cells := 1, slots := 2, locals := 50 } : Room).slots) := by
  refine MetFree.of_bodySF (plainFor_of_name pn_3) hisR ?_
  intro p e s m args below meth c s₁ Bd hml0 hP hK
  obtain ⟨rfl, hZ, hh⟩ := hP
  have hx := Bd.exec
  have hby := Bd.bytes
  have hml : c.maxLocals = 3 := hml0
  have hown : s.vm.findClass "java/lang/String" = some m.cls := findClass_of_methodNamed Bd.named
  have hnm := (name_of_methodNamed Bd.named Bd.method).1
  have X0 : Stand p l e ({ frames := 3, cells := 1, slots := 2, locals := 50 } : Room) s m #[(.ref uu), (.int p2), (.ref a3)] below meth c s₁ [] 0 0 := Stand.of_body Bd
  have e0 : s₁.heap = h0 := by rw [← hh, Bd.state]; rfl
  have N0 := Fr.nil n0
  have pre0 : ∀ tg, Steps p.tables e below (s₁.setTop (mkF m 0 #[.val (.ref uu), .val (.int p2), .val (.ref a3)] [])) tg → Steps p.tables e below (s₁.setTop (entryFrame m #[(.ref uu), (.int p2), (.ref a3)] 3)) tg := fun t k => castTop (ef_rm_enb m uu p2 a3) k
  have pre00 : ∀ tg, Steps p.tables e below (s₁.setTop (mkF m 0 #[.val (.ref uu), .val (.int p2), .val (.ref a3)] [])) tg → Steps p.tables e below (s₁.setTop (mkF m 0 #[.val (.ref uu), .val (.int p2), .val (.ref a3)] [])) tg := fun _ k => k
  have R99 : ∀ tg, Steps p.tables e below (s₁.setTop (mkF m 1 #[.val (.ref uu), .val (.int p2), .val (.ref a3)] [(.ref uu)])) tg → Steps p.tables e below (s₁.setTop (mkF m 0 #[.val (.ref uu), .val (.int p2), .val (.ref a3)] [])) tg := by
    intro tg kt
    refine pre00 _ ?_
    show Steps p.tables e below (s₁.setTop (mkF m 0 #[.val (.ref uu), .val (.int p2), .val (.ref a3)] [])) _
    refine XS.aloadN X0.here hx rfl (hb hby d10_0) rfl rfl ?_
    exact kt
  obtain ⟨T100, X100, e100, st100⟩ := getS2 X0 hx hZ hown (host := "") (Or.inl (hw _ (List.mem_of_getElem? (i := 51) rfl))) Via.refl e0 (SI.ext OL.2) (g := (mkF m 1 #[.val (.ref uu), .val (.int p2), .val (.ref a3)] [(.ref uu)])) rfl (hb hby d10_1)
  have R101 : ∀ tg, Steps p.tables e below (T100.setTop (mkF m 10 #[.val (.ref uu), .val (.int p2), .val (.ref a3)] [(.int (1 : Int32)), (.ref a3), (.int p2)])) tg → Steps p.tables e below (s₁.setTop (mkF m 0 #[.val (.ref uu), .val (.int p2), .val (.ref a3)] [])) tg := by
    intro tg kt
    refine R99 _ ?_
    refine st100 _ ?_
    show Steps p.tables e below (T100.setTop (mkF m 4 #[.val (.ref uu), .val (.int p2), .val (.ref a3)] [(.ref uu), (.ref uu)])) _
    refine Jvm.RoadKit.acmp (g := (mkF m 4 #[.val (.ref uu), .val (.int p2), .val (.ref a3)] [(.ref uu), (.ref uu)])) X100 hx rfl rfl rfl (pc0 := 4) (pc' := 7) (same := true) rfl (hb hby d10_4) rfl (decide_eq_true rfl) (by decide) (by decide) ?_
    refine XS.iloadN X100.here hx rfl (hb hby d10_7) rfl ?_
    refine XS.aloadN X100.here hx rfl (hb hby d10_8) rfl rfl ?_
    show Steps p.tables e below (T100.setTop (mkF m 9 #[.val (.ref uu), .val (.int p2), .val (.ref a3)] [(.ref a3), (.int p2)])) _
    refine XS.iconst X100.here hx rfl (hb hby d10_9) ?_
    exact kt
  clear R99 st100
  obtain ⟨_, _, ⟨T102, L102, k102, n102⟩, -, X102, ⟨Lc102, hQ102, l102, y102, z102⟩, st102⟩ := Jvm.LawKit.callS X100 hx (y := (⟨"java/lang/String", "encodeUTF8", "(B[BZ)[B"⟩ : MethodName)) hown (mvT hZ (hw _ (List.mem_of_getElem? (i := 53) rfl))) (mvT hZ (hw _ (List.mem_of_getElem? (i := 54) rfl))) (mvT hZ (hw _ (List.mem_of_getElem? (i := 2) rfl))) (mvT hZ (hw _ (List.mem_of_getElem? (i := 55) rfl))) (by decide) (backOf (W := 0) (rm_e8b l Z a0 hw [] p2 a3 (1 : Int32) bv h0 n0 Z0 VA EA hp2 hbv) hZ (hw _ (List.mem_of_getElem? (i := 55) rfl)) (hw _ (List.mem_of_getElem? (i := 2) rfl)) (by decide) (by decide)) (g := (mkF m 10 #[.val (.ref uu), .val (.int p2), .val (.ref a3)] [(.int (1 : Int32)), (.ref a3), (.int p2)])) rfl (by rw [hml]; rfl) (argsL := [(.int p2), (.ref a3), (.int (1 : Int32))]) (rest := []) (lenOf pd_8 rfl) rfl (by show 2 * 0 + _ ≤ _; exact Nat.le_of_eq rfl) (hb hby d10_10) (fun _ _ => ⟨rfl, e100, (by decide : 0 + 1 ≤ _), (by decide : 0 + 2 ≤ _)⟩)
  dsimp only [Pt.U, Pt.locs, Pt.cells, Pt.slots] at X102 l102 y102 z102 st102 hQ102
  rw [l102, y102, z102] at X102
  obtain ⟨ar, rfl, N102q, szr, K102, V102⟩ := hQ102
  have N102 := Fr.app N0 N102q
  have R103 : ∀ tg, Steps p.tables e below (T102.setTop (mkF m 13 #[.val (.ref uu), .val (.int p2), .val (.ref a3)] [(.ref ar)])) tg → Steps p.tables e below (s₁.setTop (mkF m 0 #[.val (.ref uu), .val (.int p2), .val (.ref a3)] [])) tg := by
    intro tg kt
    refine R101 _ ?_
    refine st102 _ ?_
    exact kt
  clear R101 st102
  obtain ⟨fs, hr, hrun, hended, hW, hsame⟩ := X102.leave (v := some (.ref ar)) (fun h => by rw [Bd.returns] at h; cases h)
  refine ⟨_, _, pre0 _ (R103 _ ?_), hrun, hended, _, _, rfl, ?_, ⟨_, rfl⟩, hW, hsame.mono (by decide) (by decide)⟩
  · show Steps p.tables e below (T102.setTop (mkF m 13 #[.val (.ref uu), .val (.int p2), .val (.ref a3)] [(.ref ar)])) _
    jvm_step X102.here [X102.here.top, hx, (hb hby d10_13), X102.method', Bd.returns, Value.isRef, FieldType.isReference]
    first | (intro acts; rw [hr _ acts rfl rfl rfl]) | rw [hr _ _ rfl rfl rfl]
    exact Steps.refl _
  · show Q_rm_enb Z uu p2 a3 bv h0 n0 _ T102.heap _
    exact ⟨ar, rfl, N102, szr, K102, V102⟩
theorem d8_0 : decode jdk_42_method_64_code 0 = .ok (.aload_n 1, 1) := by decide +kernel
theorem d8_1 : decode jdk_42_method_64_code 1 = .ok (.ifnonnull 11, 3) := by decide +kernel
theorem d8_12 : decode jdk_42_method_64_code 12 = .ok (.aload_n 1, 1) := by decide +kernel
theorem d8_13 : decode jdk_42_method_64_code 13 = .ok (.aload_n 0, 1) := by decide +kernel
theorem pd_9 : parseMethodDescriptor "()B" = some ⟨[], some .byte⟩ := by decide +kernel
theorem d8_14 : decode jdk_42_method_64_code 14 = .ok (.invokevirtual 335, 3) := by decide +kernel
theorem d8_17 : decode jdk_42_method_64_code 17 = .ok (.aload_n 0, 1) := by decide +kernel
theorem d8_18 : decode jdk_42_method_64_code 18 = .ok (.getfield 9, 3) := by decide +kernel
theorem pd_10 : parseMethodDescriptor "(Ljava/nio/charset/Charset;B[B)[B" = some ⟨[(.object "java/nio/charset/Charset"), .byte, (.array .byte)], some (.array .byte)⟩ := by decide +kernel
theorem d8_21 : decode jdk_42_method_64_code 21 = .ok (.invokestatic 535, 3) := by decide +kernel
theorem d8_24 : decode jdk_42_method_64_code 24 = .ok (.areturn, 1) := by decide +kernel
theorem ef_rm_gba (m : MethodId) (a1 : Addr) (uu : Addr) : entryFrame m #[(.ref a1), (.ref uu)] 2 = mkF m 0 #[.val (.ref a1), .val (.ref uu)] [] := by first | (simp [entryFrame, mkF, argsToLocals, Value.category]; done) | rfl
def Q_rm_gba (Z : State) (a1 : Addr) (uu : Addr) (bv : Int32) (t1 : Addr) (cs : Int32) (h0 : Heap) (n0 : Nat) (v : Option Value) (h : Heap) (L : List Loc) : Prop := ∃ t : Addr, v = some (.ref t) ∧ Fr n0 L ∧ h0.size ≤ t ∧ Keep h0 h [] ∧ AV Z h t .byte 1 (fun j => .int ((fun _ => bv) j))
set_option maxRecDepth 65536 in
set_option maxHeartbeats 40000000 in
theorem rm_gba (l : Launch) (Z : State) (a0 : Array Value) (hw : ∀ d ∈ tables_1, d.before a0 Z = true) (ws : List Jvm.Cond) (a1 : Addr) (uu : Addr) (bv : Int32) (t1 : Addr) (cs : Int32) (h0 : Heap) (n0 : Nat) (Z0 : n0 ≤ h0.size) (SC : Sta Z Z.heap "java/lang/String" "COMPACT_STRINGS" "Z" (.int cs)) (SI : Sta Z Z.heap "sun/nio/cs/UTF_8" "INSTANCE" "Lsun/nio/cs/UTF_8;" (.ref uu)) (OL : Old Z n0 h0) (hcs : ¬ (cs = (0 : Int32))) (E1 : Exa Z h0 a1 "java/lang/String") (Fv : Fld Z h0 a1 "java/lang/String" "value" "[B" (.ref t1)) (Fc : Fld Z h0 a1 "java/lang/String" "coder" "B" (.int (0 : Int32))) (VA : AV Z h0 t1 .byte 1 (fun _ => .int bv)) (EA : Exa Z h0 t1 "[B") (hbv : ¬ bv < (0 : Int32)) :
    MetFree l (⟨"java/lang/String", "getBytes", "(Ljava/nio/charset/Charset;)[B"⟩ : MethodName) (head1 (Jvm.Cond.code (⟨"java/lang/String", "getBytes", "(Ljava/nio/charset/Charset;)[B"⟩ : MethodName) jdk_42_method_64_code 2 (some (.array .byte)) :: ws) ({ frames := 4, cells := 1, slots := 1, locals := 64 } : Room)) (fun a U => a = #[(.ref a1), (.ref uu)] ∧ Z.Warmed39 U.vm ∧ U.heap = h0) (fun _ _ _ _ _ => True) (fun _ U oC U' => ∃ v L, oC = .returned v ∧ Q_rm_gba Z a1 uu bv t1 cs h0 n0 v U'.heap L ∧ FrameEnd U oC U' L ({ frames := 4, cells := 1, slots := 1, locals := 64 } : Room).cells ({ frames := 4, cells := 1, slots := 1, locals := 64 } : Room).slots) := by
  refine MetFree.of_bodySF (plainFor_of_name pn_3) hisR ?_
  intro p e s m args below meth c s₁ Bd hml0 hP hK
  obtain ⟨rfl, hZ, hh⟩ := hP
  have hx := Bd.exec
  have hby := Bd.bytes
  have hml : c.maxLocals = 2 := hml0
  have hown : s.vm.findClass "java/lang/String" = some m.cls := findClass_of_methodNamed Bd.named
  have hnm := (name_of_methodNamed Bd.named Bd.method).1
  have X0 : Stand p l e ({ frames := 4, cells := 1, slots := 1, locals := 64 } : Room) s m #[(.ref a1), (.ref uu)] below meth c s₁ [] 0 0 := Stand.of_body Bd
  have e0 : s₁.heap = h0 := by rw [← hh, Bd.state]; rfl
  have N0 := Fr.nil n0
  have pre0 : ∀ tg, Steps p.tables e below (s₁.setTop (mkF m 0 #[.val (.ref a1), .val (.ref uu)] [])) tg → Steps p.tables e below (s₁.setTop (entryFrame m #[(.ref a1), (.ref uu)] 2)) tg := fun t k => castTop (ef_rm_gba m a1 uu) k
  have pre00 : ∀ tg, Steps p.tables e below (s₁.setTop (mkF m 0 #[.val (.ref a1), .val (.ref uu)] [])) tg → Steps p.tables e below (s₁.setTop (mkF m 0 #[.val (.ref a1), .val (.ref uu)] [])) tg := fun _ k => k
  have R104 : ∀ tg, Steps p.tables e below (s₁.setTop (mkF m 14 #[.val (.ref a1), .val (.ref uu)] [(.ref a1), (.ref uu)])) tg → Steps p.tables e below (s₁.setTop (mkF m 0 #[.val (.ref a1), .val (.ref uu)] [])) tg := by
    intro tg kt
    refine pre00 _ ?_
    show Steps p.tables e below (s₁.setTop (mkF m 0 #[.val (.ref a1), .val (.ref uu)] [])) _
    refine XS.aloadN X0.here hx rfl (hb hby d8_0) rfl rfl ?_
    show Steps p.tables e below (s₁.setTop (mkF m 1 #[.val (.ref a1), .val (.ref uu)] [(.ref uu)])) _
    refine XS.ifnonnullYes X0.here hx rfl (pc0 := 1) (pc' := 12) rfl (hb hby d8_1) rfl (by decide) (by decide) ?_
    refine XS.aloadN X0.here hx rfl (hb hby d8_12) rfl rfl ?_
    refine XS.aloadN X0.here hx rfl (hb hby d8_13) rfl rfl ?_
    exact kt
  obtain ⟨cq105, kq105, q105a, q105b, q105c⟩ := isOf hZ e0 E1
  obtain ⟨_, _, ⟨T105, L105, k105, n105⟩, -, X105, ⟨Lc105, hQ105, l105, y105, z105⟩, st105⟩ := X0.virtualBack hx (y := (⟨"java/lang/String", "coder", "()B"⟩ : MethodName)) (z := (⟨"java/lang/String", "coder", "()B"⟩ : MethodName)) hown (mvT hZ (hw _ (List.mem_of_getElem? (i := 43) rfl))) (mvT hZ (hw _ (List.mem_of_getElem? (i := 44) rfl))) (notFace_of_selects (args := #[]) (mvT hZ (hw _ (List.mem_of_getElem? (i := 46) rfl)))) (mvT hZ (hw _ (List.mem_of_getElem? (i := 46) rfl))) (mvT hZ (hw _ (List.mem_of_getElem? (i := 45) rfl))) (by decide) (backOf (W := 1) (rm_cod l Z a0 hw [] a1 cs h0 n0 Z0 SC OL hcs Fc) hZ (hw _ (List.mem_of_getElem? (i := 47) rfl)) (hw _ (List.mem_of_getElem? (i := 2) rfl)) (by decide) (by decide)) q105a q105c (g := (mkF m 14 #[.val (.ref a1), .val (.ref uu)] [(.ref a1), (.ref uu)])) rfl (by rw [hml]; rfl) (Steps.refl _) (argsL := []) (rest := [(.ref uu)]) (lenOf pd_9 rfl) rfl (by show 2 * 0 + _ ≤ _; exact Nat.le_of_eq rfl) (hb hby d8_14) (fun _ _ => ⟨rfl, e0, (by decide : 0 + 0 ≤ _), (by decide : 0 + 0 ≤ _)⟩)
  dsimp only [Pt.U, Pt.locs, Pt.cells, Pt.slots] at X105 l105 y105 z105 st105 hQ105
  rw [l105, y105, z105] at X105
  obtain ⟨rfl, N105q, hh105⟩ := hQ105
  have N105 := Fr.app N0 N105q
  have R106 : ∀ tg, Steps p.tables e below (T105.setTop (mkF m 18 #[.val (.ref a1), .val (.ref uu)] [(.ref a1), (.int (0 : Int32)), (.ref uu)])) tg → Steps p.tables e below (s₁.setTop (mkF m 0 #[.val (.ref a1), .val (.ref uu)] [])) tg := by
    intro tg kt
    refine R104 _ ?_
    refine st105.trans ?_
    show Steps p.tables e below (T105.setTop (mkF m 17 #[.val (.ref a1), .val (.ref uu)] [(.int (0 : Int32)), (.ref uu)])) _
    refine XS.aloadN X105.here hx rfl (hb hby d8_17) rfl rfl ?_
    exact kt
  clear R104 st105
  obtain ⟨T107, X107, e107, st107⟩ := getF X105 hx hZ hown (host := "") (Or.inl (hw _ (List.mem_of_getElem? (i := 22) rfl))) Via.refl hh105 Fv (g := (mkF m 18 #[.val (.ref a1), .val (.ref uu)] [(.ref a1), (.int (0 : Int32)), (.ref uu)])) rfl rfl (hb hby d8_18)
  have R108 : ∀ tg, Steps p.tables e below (T107.setTop (mkF m 21 #[.val (.ref a1), .val (.ref uu)] [(.ref t1), (.int (0 : Int32)), (.ref uu)])) tg → Steps p.tables e below (s₁.setTop (mkF m 0 #[.val (.ref a1), .val (.ref uu)] [])) tg := by
    intro tg kt
    refine R106 _ ?_
    refine st107 _ ?_
    exact kt
  clear R106 st107
  obtain ⟨_, _, ⟨T109, L109, k109, n109⟩, -, X109, ⟨Lc109, hQ109, l109, y109, z109⟩, st109⟩ := Jvm.LawKit.callS X107 hx (y := (⟨"java/lang/String", "encode", "(Ljava/nio/charset/Charset;B[B)[B"⟩ : MethodName)) hown (mvT hZ (hw _ (List.mem_of_getElem? (i := 48) rfl))) (mvT hZ (hw _ (List.mem_of_getElem? (i := 49) rfl))) (mvT hZ (hw _ (List.mem_of_getElem? (i := 2) rfl))) (mvT hZ (hw _ (List.mem_of_getElem? (i := 50) rfl))) (by decide) (backOf (W := 0) (rm_ena l Z a0 hw [] uu (0 : Int32) t1 bv h0 n0 Z0 SI OL VA EA rfl hbv) hZ (hw _ (List.mem_of_getElem? (i := 50) rfl)) (hw _ (List.mem_of_getElem? (i := 2) rfl)) (by decide) (by decide)) (g := (mkF m 21 #[.val (.ref a1), .val (.ref uu)] [(.ref t1), (.int (0 : Int32)), (.ref uu)])) rfl (by rw [hml]; rfl) (argsL := [(.ref uu), (.int (0 : Int32)), (.ref t1)]) (rest := []) (lenOf pd_10 rfl) rfl (by show 2 * 0 + _ ≤ _; exact Nat.le_of_eq rfl) (hb hby d8_21) (fun _ _ => ⟨rfl, e107, (by decide : 0 + 1 ≤ _), (by decide : 0 + 1 ≤ _)⟩)
  dsimp only [Pt.U, Pt.locs, Pt.cells, Pt.slots] at X109 l109 y109 z109 st109 hQ109
  rw [l109, y109, z109] at X109
  obtain ⟨ar, rfl, N109q, szr, K109, V109⟩ := hQ109
  have N109 := Fr.app N105 N109q
  have R110 : ∀ tg, Steps p.tables e below (T109.setTop (mkF m 24 #[.val (.ref a1), .val (.ref uu)] [(.ref ar)])) tg → Steps p.tables e below (s₁.setTop (mkF m 0 #[.val (.ref a1), .val (.ref uu)] [])) tg := by
    intro tg kt
    refine R108 _ ?_
    refine st109 _ ?_
    exact kt
  clear R108 st109
  obtain ⟨fs, hr, hrun, hended, hW, hsame⟩ := X109.leave (v := some (.ref ar)) (fun h => by rw [Bd.returns] at h; cases h)
  refine ⟨_, _, pre0 _ (R110 _ ?_), hrun, hended, _, _, rfl, ?_, ⟨_, rfl⟩, hW, hsame.mono (by decide) (by decide)⟩
  · show Steps p.tables e below (T109.setTop (mkF m 24 #[.val (.ref a1), .val (.ref uu)] [(.ref ar)])) _
    jvm_step X109.here [X109.here.top, hx, (hb hby d8_24), X109.method', Bd.returns, Value.isRef, FieldType.isReference]
    first | (intro acts; rw [hr _ acts rfl rfl rfl]) | rw [hr _ _ rfl rfl rfl]
    exact Steps.refl _
  · show Q_rm_gba Z a1 uu bv t1 cs h0 n0 _ T109.heap _
    exact ⟨ar, rfl, N109, szr, K109, V109⟩
theorem ef_rm_gbb (m : MethodId) (a1 : Addr) (uu : Addr) : entryFrame m #[(.ref a1), (.ref uu)] 2 = mkF m 0 #[.val (.ref a1), .val (.ref uu)] [] := by first | (simp [entryFrame, mkF, argsToLocals, Value.category]; done) | rfl
def Q_rm_gbb (Z : State) (a1 : Addr) (uu : Addr) (bv : Int32) (t1 : Addr) (cs : Int32) (h0 : Heap) (n0 : Nat) (v : Option Value) (h : Heap) (L : List Loc) : Prop := ∃ t : Addr, v = some (.ref t) ∧ Fr n0 L ∧ h0.size ≤ t ∧ Keep h0 h [] ∧ AV Z h t .byte 2 (fun j => .int (own_v2 (own_d0 bv) (own_d1 bv) j))
set_option maxRecDepth 65536 in
set_option maxHeartbeats 40000000 in
theorem rm_gbb (l : Launch) (Z : State) (a0 : Array Value) (hw : ∀ d ∈ tables_1, d.before a0 Z = true) (ws : List Jvm.Cond) (a1 : Addr) (uu : Addr) (bv : Int32) (t1 : Addr) (cs : Int32) (h0 : Heap) (n0 : Nat) (Z0 : n0 ≤ h0.size) (SC : Sta Z Z.heap "java/lang/String" "COMPACT_STRINGS" "Z" (.int cs)) (SI : Sta Z Z.heap "sun/nio/cs/UTF_8" "INSTANCE" "Lsun/nio/cs/UTF_8;" (.ref uu)) (OL : Old Z n0 h0) (hcs : ¬ (cs = (0 : Int32))) (E1 : Exa Z h0 a1 "java/lang/String") (Fv : Fld Z h0 a1 "java/lang/String" "value" "[B" (.ref t1)) (Fc : Fld Z h0 a1 "java/lang/String" "coder" "B" (.int (0 : Int32))) (VA : AV Z h0 t1 .byte 1 (fun _ => .int bv)) (EA : Exa Z h0 t1 "[B") (hbv : bv < (0 : Int32)) :
    MetFree l (⟨"java/lang/String", "getBytes", "(Ljava/nio/charset/Charset;)[B"⟩ : MethodName) (head1 (Jvm.Cond.code (⟨"java/lang/String", "getBytes", "(Ljava/nio/charset/Charset;)[B"⟩ : MethodName) jdk_42_method_64_code 2 (some (.array .byte)) :: ws) ({ frames := 4, cells := 1, slots := 2, locals := 64 } : Room)) (fun a U => a = #[(.ref a1), (.ref uu)] ∧ Z.Warmed39 U.vm ∧ U.heap = h0) (fun _ _ _ _ _ => True) (fun _ U oC U' => ∃ v L, oC = .returned v ∧ Q_rm_gbb Z a1 uu bv t1 cs h0 n0 v U'.heap L ∧ FrameEnd U oC U' L ({ frames := 4, cells := 1, slots := 2, locals := 64 } : Room).cells ({ frames := 4, cells := 1, slots := 2, locals := 64 } : Room).slots) := by
  refine MetFree.of_bodySF (plainFor_of_name pn_3) hisR ?_
  intro p e s m args below meth c s₁ Bd hml0 hP hK
  obtain ⟨rfl, hZ, hh⟩ := hP
  have hx := Bd.exec
  have hby := Bd.bytes
  have hml : c.maxLocals = 2 := hml0
  have hown : s.vm.findClass "java/lang/String" = some m.cls := findClass_of_methodNamed Bd.named
  have hnm := (name_of_methodNamed Bd.named Bd.method).1
  have X0 : Stand p l e ({ frames := 4, cells := 1, slots := 2, locals := 64 } : Room) s m #[(.ref a1), (.ref uu)] below meth c s₁ [] 0 0 := Stand.of_body Bd
  have e0 : s₁.heap = h0 := by rw [← hh, Bd.state]; rfl
  have N0 := Fr.nil n0
  have pre0 : ∀ tg, Steps p.tables e below (s₁.setTop (mkF m 0 #[.val (.ref a1), .val (.ref uu)] [])) tg → Steps p.tables e below (s₁.setTop (entryFrame m #[(.ref a1), (.ref uu)] 2)) tg := fun t k => castTop (ef_rm_gbb m a1 uu) k
  have pre00 : ∀ tg, Steps p.tables e below (s₁.setTop (mkF m 0 #[.val (.ref a1), .val (.ref uu)] [])) tg → Steps p.tables e below (s₁.setTop (mkF m 0 #[.val (.ref a1), .val (.ref uu)] [])) tg := fun _ k => k
  have R111 : ∀ tg, Steps p.tables e below (s₁.setTop (mkF m 14 #[.val (.ref a1), .val (.ref uu)] [(.ref a1), (.ref uu)])) tg → Steps p.tables e below (s₁.setTop (mkF m 0 #[.val (.ref a1), .val (.ref uu)] [])) tg := by
    intro tg kt
    refine pre00 _ ?_
    show Steps p.tables e below (s₁.setTop (mkF m 0 #[.val (.ref a1), .val (.ref uu)] [])) _
    refine XS.aloadN X0.here hx rfl (hb hby d8_0) rfl rfl ?_
    show Steps p.tables e below (s₁.setTop (mkF m 1 #[.val (.ref a1), .val (.ref uu)] [(.ref uu)])) _
    refine XS.ifnonnullYes X0.here hx rfl (pc0 := 1) (pc' := 12) rfl (hb hby d8_1) rfl (by decide) (by decide) ?_
    refine XS.aloadN X0.here hx rfl (hb hby d8_12) rfl rfl ?_
    refine XS.aloadN X0.here hx rfl (hb hby d8_13) rfl rfl ?_
    exact kt
  obtain ⟨cq112, kq112, q112a, q112b, q112c⟩ := isOf hZ e0 E1
  obtain ⟨_, _, ⟨T112, L112, k112, n112⟩, -, X112, ⟨Lc112, hQ112, l112, y112, z112⟩, st112⟩ := X0.virtualBack hx (y := (⟨"java/lang/String", "coder", "()B"⟩ : MethodName)) (z := (⟨"java/lang/String", "coder", "()B"⟩ : MethodName)) hown (mvT hZ (hw _ (List.mem_of_getElem? (i := 43) rfl))) (mvT hZ (hw _ (List.mem_of_getElem? (i := 44) rfl))) (notFace_of_selects (args := #[]) (mvT hZ (hw _ (List.mem_of_getElem? (i := 46) rfl)))) (mvT hZ (hw _ (List.mem_of_getElem? (i := 46) rfl))) (mvT hZ (hw _ (List.mem_of_getElem? (i := 45) rfl))) (by decide) (backOf (W := 1) (rm_cod l Z a0 hw [] a1 cs h0 n0 Z0 SC OL hcs Fc) hZ (hw _ (List.mem_of_getElem? (i := 47) rfl)) (hw _ (List.mem_of_getElem? (i := 2) rfl)) (by decide) (by decide)) q112a q112c (g := (mkF m 14 #[.val (.ref a1), .val (.ref uu)] [(.ref a1), (.ref uu)])) rfl (by rw [hml]; rfl) (Steps.refl _) (argsL := []) (rest := [(.ref uu)]) (lenOf pd_9 rfl) rfl (by show 2 * 0 + _ ≤ _; exact Nat.le_of_eq rfl) (hb hby d8_14) (fun _ _ => ⟨rfl, e0, (by decide : 0 + 0 ≤ _), (by decide : 0 + 0 ≤ _)⟩)
  dsimp only [Pt.U, Pt.locs, Pt.cells, Pt.slots] at X112 l112 y112 z112 st112 hQ112
  rw [l112, y112, z112] at X112
  obtain ⟨rfl, N112q, hh112⟩ := hQ112
  have N112 := Fr.app N0 N112q
  have R113 : ∀ tg, Steps p.tables e below (T112.setTop (mkF m 18 #[.val (.ref a1), .val (.ref uu)] [(.ref a1), (.int (0 : Int32)), (.ref uu)])) tg → Steps p.tables e below (s₁.setTop (mkF m 0 #[.val (.ref a1), .val (.ref uu)] [])) tg := by
    intro tg kt
    refine R111 _ ?_
    refine st112.trans ?_
    show Steps p.tables e below (T112.setTop (mkF m 17 #[.val (.ref a1), .val (.ref uu)] [(.int (0 : Int32)), (.ref uu)])) _
    refine XS.aloadN X112.here hx rfl (hb hby d8_17) rfl rfl ?_
    exact kt
  clear R111 st112
  obtain ⟨T114, X114, e114, st114⟩ := getF X112 hx hZ hown (host := "") (Or.inl (hw _ (List.mem_of_getElem? (i := 22) rfl))) Via.refl hh112 Fv (g := (mkF m 18 #[.val (.ref a1), .val (.ref uu)] [(.ref a1), (.int (0 : Int32)), (.ref uu)])) rfl rfl (hb hby d8_18)
  have R115 : ∀ tg, Steps p.tables e below (T114.setTop (mkF m 21 #[.val (.ref a1), .val (.ref uu)] [(.ref t1), (.int (0 : Int32)), (.ref uu)])) tg → Steps p.tables e below (s₁.setTop (mkF m 0 #[.val (.ref a1), .val (.ref uu)] [])) tg := by
    intro tg kt
    refine R113 _ ?_
    refine st114 _ ?_
    exact kt
  clear R113 st114
  obtain ⟨_, _, ⟨T116, L116, k116, n116⟩, -, X116, ⟨Lc116, hQ116, l116, y116, z116⟩, st116⟩ := Jvm.LawKit.callS X114 hx (y := (⟨"java/lang/String", "encode", "(Ljava/nio/charset/Charset;B[B)[B"⟩ : MethodName)) hown (mvT hZ (hw _ (List.mem_of_getElem? (i := 48) rfl))) (mvT hZ (hw _ (List.mem_of_getElem? (i := 49) rfl))) (mvT hZ (hw _ (List.mem_of_getElem? (i := 2) rfl))) (mvT hZ (hw _ (List.mem_of_getElem? (i := 50) rfl))) (by decide) (backOf (W := 0) (rm_enb l Z a0 hw [] uu (0 : Int32) t1 bv h0 n0 Z0 SI OL VA EA rfl hbv) hZ (hw _ (List.mem_of_getElem? (i := 50) rfl)) (hw _ (List.mem_of_getElem? (i := 2) rfl)) (by decide) (by decide)) (g := (mkF m 21 #[.val (.ref a1), .val (.ref uu)] [(.ref t1), (.int (0 : Int32)), (.ref uu)])) rfl (by rw [hml]; rfl) (argsL := [(.ref uu), (.int (0 : Int32)), (.ref t1)]) (rest := []) (lenOf pd_10 rfl) rfl (by show 2 * 0 + _ ≤ _; exact Nat.le_of_eq rfl) (hb hby d8_21) (fun _ _ => ⟨rfl, e114, (by decide : 0 + 1 ≤ _), (by decide : 0 + 2 ≤ _)⟩)
  dsimp only [Pt.U, Pt.locs, Pt.cells, Pt.slots] at X116 l116 y116 z116 st116 hQ116
  rw [l116, y116, z116] at X116
  obtain ⟨ar, rfl, N116q, szr, K116, V116⟩ := hQ116
  have N116 := Fr.app N112 N116q
  have R117 : ∀ tg, Steps p.tables e below (T116.setTop (mkF m 24 #[.val (.ref a1), .val (.ref uu)] [(.ref ar)])) tg → Steps p.tables e below (s₁.setTop (mkF m 0 #[.val (.ref a1), .val (.ref uu)] [])) tg := by
    intro tg kt
    refine R115 _ ?_
    refine st116 _ ?_
    exact kt
  clear R115 st116
  obtain ⟨fs, hr, hrun, hended, hW, hsame⟩ := X116.leave (v := some (.ref ar)) (fun h => by rw [Bd.returns] at h; cases h)
  refine ⟨_, _, pre0 _ (R117 _ ?_), hrun, hended, _, _, rfl, ?_, ⟨_, rfl⟩, hW, hsame.mono (by decide) (by decide)⟩
  · show Steps p.tables e below (T116.setTop (mkF m 24 #[.val (.ref a1), .val (.ref uu)] [(.ref ar)])) _
    jvm_step X116.here [X116.here.top, hx, (hb hby d8_24), X116.method', Bd.returns, Value.isRef, FieldType.isReference]
    first | (intro acts; rw [hr _ acts rfl rfl rfl]) | rw [hr _ _ rfl rfl rfl]
    exact Steps.refl _
  · show Q_rm_gbb Z a1 uu bv t1 cs h0 n0 _ T116.heap _
    exact ⟨ar, rfl, N116, szr, K116, V116⟩
theorem d14_0 : decode prog_8_method_19_code 0 = .ok (.aload_n 2, 1) := by decide +kernel
theorem d14_1 : decode prog_8_method_19_code 1 = .ok (.astore_n 3, 1) := by decide +kernel
theorem d14_2 : decode prog_8_method_19_code 2 = .ok (.aload_n 3, 1) := by decide +kernel
theorem d14_3 : decode prog_8_method_19_code 3 = .ok (.arraylength, 1) := by decide +kernel
theorem d14_4 : decode prog_8_method_19_code 4 = .ok (.istore 4, 2) := by decide +kernel
theorem d14_6 : decode prog_8_method_19_code 6 = .ok (.iconst 0, 1) := by decide +kernel
theorem d14_7 : decode prog_8_method_19_code 7 = .ok (.istore 5, 2) := by decide +kernel
theorem d14_9 : decode prog_8_method_19_code 9 = .ok (.iload 5, 2) := by decide +kernel
theorem d14_11 : decode prog_8_method_19_code 11 = .ok (.iload 4, 2) := by decide +kernel
theorem d14_13 : decode prog_8_method_19_code 13 = .ok (.if_icmp .ge 29, 3) := by decide +kernel
theorem d14_16 : decode prog_8_method_19_code 16 = .ok (.aload_n 3, 1) := by decide +kernel
theorem d14_17 : decode prog_8_method_19_code 17 = .ok (.iload 5, 2) := by decide +kernel
theorem d14_19 : decode prog_8_method_19_code 19 = .ok (.baload, 1) := by decide +kernel
theorem d14_20 : decode prog_8_method_19_code 20 = .ok (.istore 6, 2) := by decide +kernel
theorem d14_22 : decode prog_8_method_19_code 22 = .ok (.lload_n 0, 1) := by decide +kernel
theorem d14_23 : decode prog_8_method_19_code 23 = .ok (.iload 6, 2) := by decide +kernel
theorem d14_25 : decode prog_8_method_19_code 25 = .ok (.sipush 255, 3) := by decide +kernel
theorem d14_28 : decode prog_8_method_19_code 28 = .ok (.iand, 1) := by decide +kernel
theorem d14_29 : decode prog_8_method_19_code 29 = .ok (.i2l, 1) := by decide +kernel
theorem d14_30 : decode prog_8_method_19_code 30 = .ok (.lxor, 1) := by decide +kernel
theorem d14_31 : decode prog_8_method_19_code 31 = .ok (.ldc2_w 147, 3) := by decide +kernel
theorem d14_34 : decode prog_8_method_19_code 34 = .ok (.lmul, 1) := by decide +kernel
theorem d14_35 : decode prog_8_method_19_code 35 = .ok (.lstore_n 0, 1) := by decide +kernel
theorem d14_36 : decode prog_8_method_19_code 36 = .ok (.iinc 5 1, 3) := by decide +kernel
theorem d14_39 : decode prog_8_method_19_code 39 = .ok (.goto (-30), 3) := by decide +kernel
theorem d14_42 : decode prog_8_method_19_code 42 = .ok (.lload_n 0, 1) := by decide +kernel
theorem d14_43 : decode prog_8_method_19_code 43 = .ok (.lreturn, 1) := by decide +kernel
theorem ef_rm_fn1 (m : MethodId) (q1 : Int64) (a2 : Addr) : entryFrame m #[(.long q1), (.ref a2)] 7 = mkF m 0 #[.val (.long q1), .second, .val (.ref a2), .unset, .unset, .unset, .unset] [] := by first | (simp [entryFrame, mkF, argsToLocals, Value.category]; done) | rfl
def Q_rm_fn1 (Z : State) (q1 : Int64) (a2 : Addr) (g : Nat → Int32) (h0 : Heap) (n0 : Nat) (v : Option Value) (h : Heap) (L : List Loc) : Prop := v = some (.long (own_fb q1 (g 0))) ∧ Fr n0 L ∧ h = h0
set_option maxRecDepth 65536 in
set_option maxHeartbeats 40000000 in
theorem rm_fn1 (l : Launch) (Z : State) (a0 : Array Value) (hw : ∀ d ∈ tables_1, d.before a0 Z = true) (ws : List Jvm.Cond) (q1 : Int64) (a2 : Addr) (g : Nat → Int32) (h0 : Heap) (n0 : Nat) (Z0 : n0 ≤ h0.size) (VA : AV Z h0 a2 .byte 1 (fun j => .int (g j))) :
    MetFree l (⟨"com/example/loadloom/loadloom/Draws", "fnv1a", "(J[B)J"⟩ : MethodName) (head1 (Jvm.Cond.code (⟨"com/example/loadloom/loadloom/Draws", "fnv1a", "(J[B)J"⟩ : MethodName) prog_8_method_19_code 7 (some .long) :: ws) ({ frames := 0, cells := 0, slots := 0, locals := 0 } : Room)) (fun a U => a = #[(.long q1), (.ref a2)] ∧ Z.Warmed39 U.vm ∧ U.heap = h0) (fun _ _ _ _ _ => True) (fun _ U oC U' => ∃ v L, oC = .returned v ∧ Q_rm_fn1 Z q1 a2 g h0 n0 v U'.heap L ∧ FrameEnd U oC U' L ({ frames := 0, cells := 0, slots := 0, locals := 0 } : Room).cells ({ frames := 0, cells := 0, slots := 0, locals := 0 } : Room).slots) := by
  refine MetFree.of_bodySF (plainFor_of_name pn_0) hisR ?_
  intro p e s m args below meth c s₁ Bd hml0 hP hK
  obtain ⟨rfl, hZ, hh⟩ := hP
  have hx := Bd.exec
  have hby := Bd.bytes
  have hml : c.maxLocals = 7 := hml0
  have hown : s.vm.findClass "com/example/loadloom/loadloom/Draws" = some m.cls := findClass_of_methodNamed Bd.named
  have hnm := (name_of_methodNamed Bd.named Bd.method).1
  have X0 : Stand p l e ({ frames := 0, cells := 0, slots := 0, locals := 0 } : Room) s m #[(.long q1), (.ref a2)] below meth c s₁ [] 0 0 := Stand.of_body Bd
  have e0 : s₁.heap = h0 := by rw [← hh, Bd.state]; rfl
  have N0 := Fr.nil n0
  have pre0 : ∀ tg, Steps p.tables e below (s₁.setTop (mkF m 0 #[.val (.long q1), .second, .val (.ref a2), .unset, .unset, .unset, .unset] [])) tg → Steps p.tables e below (s₁.setTop (entryFrame m #[(.long q1), (.ref a2)] 7)) tg := fun t k => castTop (ef_rm_fn1 m q1 a2) k
  have pre00 : ∀ tg, Steps p.tables e below (s₁.setTop (mkF m 0 #[.val (.long q1), .second, .val (.ref a2), .unset, .unset, .unset, .unset] [])) tg → Steps p.tables e below (s₁.setTop (mkF m 0 #[.val (.long q1), .second, .val (.ref a2), .unset, .unset, .unset, .unset] [])) tg := fun _ k => k
  have R118 : ∀ tg, Steps p.tables e below (s₁.setTop (mkF m 3 #[.val (.long q1), .second, .val (.ref a2), .val (.ref a2), .unset, .unset, .unset] [(.ref a2)])) tg → Steps p.tables e below (s₁.setTop (mkF m 0 #[.val (.long q1), .second, .val (.ref a2), .unset, .unset, .unset, .unset] [])) tg := by
    intro tg kt
    refine pre00 _ ?_
    show Steps p.tables e below (s₁.setTop (mkF m 0 #[.val (.long q1), .second, .val (.ref a2), .unset, .unset, .unset, .unset] [])) _
    refine XS.aloadN X0.here hx rfl (hb hby d14_0) rfl rfl ?_
    show Steps p.tables e below (s₁.setTop (mkF m 1 #[.val (.long q1), .second, .val (.ref a2), .unset, .unset, .unset, .unset] [(.ref a2)])) _
    refine XS.astoreN X0.here hx rfl (hb hby d14_1) rfl rfl (l' := #[.val (.long q1), .second, .val (.ref a2), .val (.ref a2), .unset, .unset, .unset]) rfl ?_
    refine XS.aloadN X0.here hx rfl (hb hby d14_2) rfl rfl ?_
    exact kt
  obtain ⟨cl119, Ar119, ln119⟩ := VA.len
  have R120 : ∀ tg, Steps p.tables e below (s₁.setTop (mkF m 19 #[.val (.long q1), .second, .val (.ref a2), .val (.ref a2), .val (.int (1 : Int32)), .val (.int (0 : Int32)), .unset] [(.int (0 : Int32)), (.ref a2)])) tg → Steps p.tables e below (s₁.setTop (mkF m 0 #[.val (.long q1), .second, .val (.ref a2), .unset, .unset, .unset, .unset] [])) tg := by
    intro tg kt
    refine R118 _ ?_
    show Steps p.tables e below (s₁.setTop (mkF m 3 #[.val (.long q1), .second, .val (.ref a2), .val (.ref a2), .unset, .unset, .unset] [(.ref a2)])) _
    refine X0.arraylength hx (by rw [e0]; exact Ar119.1) (State.isArrayOf_alike hZ.alike Ar119.2.1) (g := (mkF m 3 #[.val (.long q1), .second, .val (.ref a2), .val (.ref a2), .unset, .unset, .unset] [(.ref a2)])) rfl rfl (hb hby d14_3) _ ?_
    rw [ln119]
    show Steps p.tables e below (s₁.setTop (mkF m 4 #[.val (.long q1), .second, .val (.ref a2), .val (.ref a2), .unset, .unset, .unset] [(.int (1 : Int32))])) _
    refine XS.istore X0.here hx rfl (hb hby d14_4) rfl (l' := #[.val (.long q1), .second, .val (.ref a2), .val (.ref a2), .val (.int (1 : Int32)), .unset, .unset]) rfl ?_
    refine XS.iconst X0.here hx rfl (hb hby d14_6) ?_
    show Steps p.tables e below (s₁.setTop (mkF m 7 #[.val (.long q1), .second, .val (.ref a2), .val (.ref a2), .val (.int (1 : Int32)), .unset, .unset] [(.int (0 : Int32))])) _
    refine XS.istore X0.here hx rfl (hb hby d14_7) rfl (l' := #[.val (.long q1), .second, .val (.ref a2), .val (.ref a2), .val (.int (1 : Int32)), .val (.int (0 : Int32)), .unset]) rfl ?_
    refine XS.iload X0.here hx rfl (hb hby d14_9) rfl ?_
    refine XS.iload X0.here hx rfl (hb hby d14_11) rfl ?_
    show Steps p.tables e below (s₁.setTop (mkF m 13 #[.val (.long q1), .second, .val (.ref a2), .val (.ref a2), .val (.int (1 : Int32)), .val (.int (0 : Int32)), .unset] [(.int (1 : Int32)), (.int (0 : Int32))])) _
    refine XS.icmpNo X0.here hx rfl (hb hby d14_13) rfl (tlt (by decide : (0 : Int32) < (1 : Int32))).2.1 ?_
    refine XS.aloadN X0.here hx rfl (hb hby d14_16) rfl rfl ?_
    refine XS.iload X0.here hx rfl (hb hby d14_17) rfl ?_
    exact kt
  clear R118
  obtain ⟨cl121, Ar121, hin121, hat121⟩ := VA.at (j := (0 : Int32)) (k := 0) (by decide) rfl (by decide)
  have R122 : ∀ tg, Steps p.tables e below (s₁.setTop (mkF m 35 #[.val (.long q1), .second, .val (.ref a2), .val (.ref a2), .val (.int (1 : Int32)), .val (.int (0 : Int32)), .val (.int (g 0))] [(.long ((q1 ^^^ (((g 0) &&& (255 : Int32)).toInt64)) * (1099511628211 : Int64)))])) tg → Steps p.tables e below (s₁.setTop (mkF m 0 #[.val (.long q1), .second, .val (.ref a2), .unset, .unset, .unset, .unset] [])) tg := by
    intro tg kt
    refine R120 _ ?_
    show Steps p.tables e below (s₁.setTop (mkF m 19 #[.val (.long q1), .second, .val (.ref a2), .val (.ref a2), .val (.int (1 : Int32)), .val (.int (0 : Int32)), .unset] [(.int (0 : Int32)), (.ref a2)])) _
    refine X0.baloadBytes hx (j := (0 : Int32)) (v := (.int (g 0))) (by rw [e0]; exact Ar121.1) (State.isArrayOf_alike hZ.alike Ar121.2.1) Ar121.2.2 hin121 hat121 (g := (mkF m 19 #[.val (.long q1), .second, .val (.ref a2), .val (.ref a2), .val (.int (1 : Int32)), .val (.int (0 : Int32)), .unset] [(.int (0 : Int32)), (.ref a2)])) rfl rfl (hb hby d14_19) _ ?_
    show Steps p.tables e below (s₁.setTop (mkF m 20 #[.val (.long q1), .second, .val (.ref a2), .val (.ref a2), .val (.int (1 : Int32)), .val (.int (0 : Int32)), .unset] [(.int (g 0))])) _
    refine XS.istore X0.here hx rfl (hb hby d14_20) rfl (l' := #[.val (.long q1), .second, .val (.ref a2), .val (.ref a2), .val (.int (1 : Int32)), .val (.int (0 : Int32)), .val (.int (g 0))]) rfl ?_
    refine XS.lloadN X0.here hx rfl (hb hby d14_22) rfl ?_
    refine XS.iload X0.here hx rfl (hb hby d14_23) rfl ?_
    show Steps p.tables e below (s₁.setTop (mkF m 25 #[.val (.long q1), .second, .val (.ref a2), .val (.ref a2), .val (.int (1 : Int32)), .val (.int (0 : Int32)), .val (.int (g 0))] [(.int (g 0)), (.long q1)])) _
    refine XS.sipush X0.here hx rfl (hb hby d14_25) ?_
    show Steps p.tables e below (s₁.setTop (mkF m 28 #[.val (.long q1), .second, .val (.ref a2), .val (.ref a2), .val (.int (1 : Int32)), .val (.int (0 : Int32)), .val (.int (g 0))] [(.int (255 : Int32)), (.int (g 0)), (.long q1)])) _
    refine XS.iand X0.here hx rfl (hb hby d14_28) rfl ?_
    show Steps p.tables e below (s₁.setTop (mkF m 29 #[.val (.long q1), .second, .val (.ref a2), .val (.ref a2), .val (.int (1 : Int32)), .val (.int (0 : Int32)), .val (.int (g 0))] [(.int ((g 0) &&& (255 : Int32))), (.long q1)])) _
    refine XS.i2l X0.here hx rfl (hb hby d14_29) rfl ?_
    show Steps p.tables e below (s₁.setTop (mkF m 30 #[.val (.long q1), .second, .val (.ref a2), .val (.ref a2), .val (.int (1 : Int32)), .val (.int (0 : Int32)), .val (.int (g 0))] [(.long (((g 0) &&& (255 : Int32)).toInt64)), (.long q1)])) _
    refine XS.lxor X0.here hx rfl (hb hby d14_30) rfl ?_
    show Steps p.tables e below (s₁.setTop (mkF m 31 #[.val (.long q1), .second, .val (.ref a2), .val (.ref a2), .val (.int (1 : Int32)), .val (.int (0 : Int32)), .val (.int (g 0))] [(.long (q1 ^^^ (((g 0) &&& (255 : Int32)).toInt64)))])) _
    refine X0.ldc2Long hx hown (mvT hZ (hw _ (List.mem_of_getElem? (i := 75) rfl))) (g := (mkF m 31 #[.val (.long q1), .second, .val (.ref a2), .val (.ref a2), .val (.int (1 : Int32)), .val (.int (0 : Int32)), .val (.int (g 0))] [(.long (q1 ^^^ (((g 0) &&& (255 : Int32)).toInt64)))])) rfl (hb hby d14_31) _ ?_
    show Steps p.tables e below (s₁.setTop (mkF m 34 #[.val (.long q1), .second, .val (.ref a2), .val (.ref a2), .val (.int (1 : Int32)), .val (.int (0 : Int32)), .val (.int (g 0))] [(.long (1099511628211 : Int64)), (.long (q1 ^^^ (((g 0) &&& (255 : Int32)).toInt64)))])) _
    refine XS.lmul X0.here hx rfl (hb hby d14_34) rfl ?_
    exact kt
  clear R120
  have R123 : ∀ tg, Steps p.tables e below (s₁.setTop (mkF m 35 #[.val (.long q1), .second, .val (.ref a2), .val (.ref a2), .val (.int (1 : Int32)), .val (.int (0 : Int32)), .val (.int (g 0))] [(.long (own_fb q1 (g 0)))])) tg → Steps p.tables e below (s₁.setTop (mkF m 0 #[.val (.long q1), .second, .val (.ref a2), .unset, .unset, .unset, .unset] [])) tg := R122
  have R124 : ∀ tg, Steps p.tables e below (s₁.setTop (mkF m 43 #[.val (.long (own_fb q1 (g 0))), .second, .val (.ref a2), .val (.ref a2), .val (.int (1 : Int32)), .val (.int ((0 : Int32) + (1 : Int32))), .val (.int (g 0))] [(.long (own_fb q1 (g 0)))])) tg → Steps p.tables e below (s₁.setTop (mkF m 0 #[.val (.long q1), .second, .val (.ref a2), .unset, .unset, .unset, .unset] [])) tg := by
    intro tg kt
    refine R123 _ ?_
    show Steps p.tables e below (s₁.setTop (mkF m 35 #[.val (.long q1), .second, .val (.ref a2), .val (.ref a2), .val (.int (1 : Int32)), .val (.int (0 : Int32)), .val (.int (g 0))] [(.long (own_fb q1 (g 0)))])) _
    refine XS.lstoreN X0.here hx rfl (hb hby d14_35) rfl (l' := #[.val (.long (own_fb q1 (g 0))), .second, .val (.ref a2), .val (.ref a2), .val (.int (1 : Int32)), .val (.int (0 : Int32)), .val (.int (g 0))]) rfl ?_
    show Steps p.tables e below (s₁.setTop (mkF m 36 #[.val (.long (own_fb q1 (g 0))), .second, .val (.ref a2), .val (.ref a2), .val (.int (1 : Int32)), .val (.int (0 : Int32)), .val (.int (g 0))] [])) _
    refine XS.iinc X0.here hx rfl (hb hby d14_36) rfl (l' := #[.val (.long (own_fb q1 (g 0))), .second, .val (.ref a2), .val (.ref a2), .val (.int (1 : Int32)), .val (.int ((0 : Int32) + (1 : Int32))), .val (.int (g 0))]) rfl ?_
    show Steps p.tables e below (s₁.setTop (mkF m 39 #[.val (.long (own_fb q1 (g 0))), .second, .val (.ref a2), .val (.ref a2), .val (.int (1 : Int32)), .val (.int ((0 : Int32) + (1 : Int32))), .val (.int (g 0))] [])) _
    refine XS.goto X0.here hx rfl (pc0 := 39) (pc' := 9) rfl (hb hby d14_39) (by decide) (by decide) ?_
    refine XS.iload X0.here hx rfl (hb hby d14_9) rfl ?_
    refine XS.iload X0.here hx rfl (hb hby d14_11) rfl ?_
    show Steps p.tables e below (s₁.setTop (mkF m 13 #[.val (.long (own_fb q1 (g 0))), .second, .val (.ref a2), .val (.ref a2), .val (.int (1 : Int32)), .val (.int ((0 : Int32) + (1 : Int32))), .val (.int (g 0))] [(.int (1 : Int32)), (.int ((0 : Int32) + (1 : Int32)))])) _
    refine XS.icmpYes X0.here hx rfl (pc0 := 13) (pc' := 42) rfl (hb hby d14_13) rfl (flt (by decide : ¬ (((0 : Int32) + (1 : Int32)) < (1 : Int32)))).2.1 (by decide) (by decide) ?_
    refine XS.lloadN X0.here hx rfl (hb hby d14_42) rfl ?_
    exact kt
  clear R123
  obtain ⟨fs, hr, hrun, hended, hW, hsame⟩ := X0.leave (v := some (.long (own_fb q1 (g 0)))) (fun h => by rw [Bd.returns] at h; cases h)
  refine ⟨_, _, pre0 _ (R124 _ ?_), hrun, hended, _, _, rfl, ?_, ⟨_, rfl⟩, hW, hsame.mono (by decide) (by decide)⟩
  · exact X0.lreturnOut hx Bd.returns (hb hby d14_43) hr
  · show Q_rm_fn1 Z q1 a2 g h0 n0 _ s₁.heap _
    rw [e0]
    exact ⟨rfl, N0, rfl⟩
theorem ef_rm_fn2 (m : MethodId) (q1 : Int64) (a2 : Addr) : entryFrame m #[(.long q1), (.ref a2)] 7 = mkF m 0 #[.val (.long q1), .second, .val (.ref a2), .unset, .unset, .unset, .unset] [] := by first | (simp [entryFrame, mkF, argsToLocals, Value.category]; done) | rfl
def Q_rm_fn2 (Z : State) (q1 : Int64) (a2 : Addr) (g : Nat → Int32) (h0 : Heap) (n0 : Nat) (v : Option Value) (h : Heap) (L : List Loc) : Prop := v = some (.long (own_fb (own_fb q1 (g 0)) (g 1))) ∧ Fr n0 L ∧ h = h0
set_option maxRecDepth 65536 in
set_option maxHeartbeats 40000000 in
theorem rm_fn2 (l : Launch) (Z : State) (a0 : Array Value) (hw : ∀ d ∈ tables_1, d.before a0 Z = true) (ws : List Jvm.Cond) (q1 : Int64) (a2 : Addr) (g : Nat → Int32) (h0 : Heap) (n0 : Nat) (Z0 : n0 ≤ h0.size) (VA : AV Z h0 a2 .byte 2 (fun j => .int (g j))) :
    MetFree l (⟨"com/example/loadloom/loadloom/Draws", "fnv1a", "(J[B)J"⟩ : MethodName) (head1 (Jvm.Cond.code (⟨"com/example/loadloom/loadloom/Draws", "fnv1a", "(J[B)J"⟩ : MethodName) prog_8_method_19_code 7 (some .long) :: ws) ({ frames := 0, cells := 0, slots := 0, locals := 0 } : Room)) (fun a U => a = #[(.long q1), (.ref a2)] ∧ Z.Warmed39 U.vm ∧ U.heap = h0) (fun _ _ _ _ _ => True) (fun _ U oC U' => ∃ v L, oC = .returned v ∧ Q_rm_fn2 Z q1 a2 g h0 n0 v U'.heap L ∧ FrameEnd U oC U' L ({ frames := 0, cells := 0, slots := 0, locals := 0 } : Room).cells ({ frames := 0, cells := 0, slots := 0, locals := 0 } : Room).slots) := by
  refine MetFree.of_bodySF (plainFor_of_name pn_0) hisR ?_
  intro p e s m args below meth c s₁ Bd hml0 hP hK
  obtain ⟨rfl, hZ, hh⟩ := hP
  have hx := Bd.exec
  have hby := Bd.bytes
  have hml : c.maxLocals = 7 := hml0
  have hown : s.vm.findClass "com/example/loadloom/loadloom/Draws" = some m.cls := findClass_of_methodNamed Bd.named
  have hnm := (name_of_methodNamed Bd.named Bd.method).1
  have X0 : Stand p l e ({ frames := 0, cells := 0, slots := 0, locals := 0 } : Room) s m #[(.long q1), (.ref a2)] below meth c s₁ [] 0 0 := Stand.of_body Bd
  have e0 : s₁.heap = h0 := by rw [← hh, Bd.state]; rfl
  have N0 := Fr.nil n0
  have pre0 : ∀ tg, Steps p.tables e below (s₁.setTop (mkF m 0 #[.val (.long q1), .second, .val (.ref a2), .unset, .unset, .unset, .unset] [])) tg → Steps p.tables e below (s₁.setTop (entryFrame m #[(.long q1), (.ref a2)] 7)) tg := fun t k => castTop (ef_rm_fn2 m q1 a2) k
  have pre00 : ∀ tg, Steps p.tables e below (s₁.setTop (mkF m 0 #[.val (.long q1), .second, .val (.ref a2), .unset, .unset, .unset, .unset] [])) tg → Steps p.tables e below (s₁.setTop (mkF m 0 #[.val (.long q1), .second, .val (.ref a2), .unset, .unset, .unset, .unset] [])) tg := fun _ k => k
  have R125 : ∀ tg, Steps p.tables e below (s₁.setTop (mkF m 3 #[.val (.long q1), .second, .val (.ref a2), .val (.ref a2), .unset, .unset, .unset] [(.ref a2)])) tg → Steps p.tables e below (s₁.setTop (mkF m 0 #[.val (.long q1), .second, .val (.ref a2), .unset, .unset, .unset, .unset] [])) tg := by
    intro tg kt
    refine pre00 _ ?_
    show Steps p.tables e below (s₁.setTop (mkF m 0 #[.val (.long q1), .second, .val (.ref a2), .unset, .unset, .unset, .unset] [])) _
    refine XS.aloadN X0.here hx rfl (hb hby d14_0) rfl rfl ?_
    show Steps p.tables e below (s₁.setTop (mkF m 1 #[.val (.long q1), .second, .val (.ref a2), .unset, .unset, .unset, .unset] [(.ref a2)])) _
    refine XS.astoreN X0.here hx rfl (hb hby d14_1) rfl rfl (l' := #[.val (.long q1), .second, .val (.ref a2), .val (.ref a2), .unset, .unset, .unset]) rfl ?_
    refine XS.aloadN X0.here hx rfl (hb hby d14_2) rfl rfl ?_
    exact kt
  obtain ⟨cl126, Ar126, ln126⟩ := VA.len
  have R127 : ∀ tg, Steps p.tables e below (s₁.setTop (mkF m 19 #[.val (.long q1), .second, .val (.ref a2), .val (.ref a2), .val (.int (2 : Int32)), .val (.int (0 : Int32)), .unset] [(.int (0 : Int32)), (.ref a2)])) tg → Steps p.tables e below (s₁.setTop (mkF m 0 #[.val (.long q1), .second, .val (.ref a2), .unset, .unset, .unset, .unset] [])) tg := by
    intro tg kt
    refine R125 _ ?_
    show Steps p.tables e below (s₁.setTop (mkF m 3 #[.val (.long q1), .second, .val (.ref a2), .val (.ref a2), .unset, .unset, .unset] [(.ref a2)])) _
    refine X0.arraylength hx (by rw [e0]; exact Ar126.1) (State.isArrayOf_alike hZ.alike Ar126.2.1) (g := (mkF m 3 #[.val (.long q1), .second, .val (.ref a2), .val (.ref a2), .unset, .unset, .unset] [(.ref a2)])) rfl rfl (hb hby d14_3) _ ?_
    rw [ln126]
    show Steps p.tables e below (s₁.setTop (mkF m 4 #[.val (.long q1), .second, .val (.ref a2), .val (.ref a2), .unset, .unset, .unset] [(.int (2 : Int32))])) _
    refine XS.istore X0.here hx rfl (hb hby d14_4) rfl (l' := #[.val (.long q1), .second, .val (.ref a2), .val (.ref a2), .val (.int (2 : Int32)), .unset, .unset]) rfl ?_
    refine XS.iconst X0.here hx rfl (hb hby d14_6) ?_
    show Steps p.tables e below (s₁.setTop (mkF m 7 #[.val (.long q1), .second, .val (.ref a2), .val (.ref a2), .val (.int (2 : Int32)), .unset, .unset] [(.int (0 : Int32))])) _
    refine XS.istore X0.here hx rfl (hb hby d14_7) rfl (l' := #[.val (.long q1), .second, .val (.ref a2), .val (.ref a2), .val (.int (2 : Int32)), .val (.int (0 : Int32)), .unset]) rfl ?_
    refine XS.iload X0.here hx rfl (hb hby d14_9) rfl ?_
    refine XS.iload X0.here hx rfl (hb hby d14_11) rfl ?_
    show Steps p.tables e below (s₁.setTop (mkF m 13 #[.val (.long q1), .second, .val (.ref a2), .val (.ref a2), .val (.int (2 : Int32)), .val (.int (0 : Int32)), .unset] [(.int (2 : Int32)), (.int (0 : Int32))])) _
    refine XS.icmpNo X0.here hx rfl (hb hby d14_13) rfl (tlt (by decide : (0 : Int32) < (2 : Int32))).2.1 ?_
    refine XS.aloadN X0.here hx rfl (hb hby d14_16) rfl rfl ?_
    refine XS.iload X0.here hx rfl (hb hby d14_17) rfl ?_
    exact kt
  clear R125
  obtain ⟨cl128, Ar128, hin128, hat128⟩ := VA.at (j := (0 : Int32)) (k := 0) (by decide) rfl (by decide)
  have R129 : ∀ tg, Steps p.tables e below (s₁.setTop (mkF m 35 #[.val (.long q1), .second, .val (.ref a2), .val (.ref a2), .val (.int (2 : Int32)), .val (.int (0 : Int32)), .val (.int (g 0))] [(.long ((q1 ^^^ (((g 0) &&& (255 : Int32)).toInt64)) * (1099511628211 : Int64)))])) tg → Steps p.tables e below (s₁.setTop (mkF m 0 #[.val (.long q1), .second, .val (.ref a2), .unset, .unset, .unset, .unset] [])) tg := by
    intro tg kt
    refine R127 _ ?_
    show Steps p.tables e below (s₁.setTop (mkF m 19 #[.val (.long q1), .second, .val (.ref a2), .val (.ref a2), .val (.int (2 : Int32)), .val (.int (0 : Int32)), .unset] [(.int (0 : Int32)), (.ref a2)])) _
    refine X0.baloadBytes hx (j := (0 : Int32)) (v := (.int (g 0))) (by rw [e0]; exact Ar128.1) (State.isArrayOf_alike hZ.alike Ar128.2.1) Ar128.2.2 hin128 hat128 (g := (mkF m 19 #[.val (.long q1), .second, .val (.ref a2), .val (.ref a2), .val (.int (2 : Int32)), .val (.int (0 : Int32)), .unset] [(.int (0 : Int32)), (.ref a2)])) rfl rfl (hb hby d14_19) _ ?_
    show Steps p.tables e below (s₁.setTop (mkF m 20 #[.val (.long q1), .second, .val (.ref a2), .val (.ref a2), .val (.int (2 : Int32)), .val (.int (0 : Int32)), .unset] [(.int (g 0))])) _
    refine XS.istore X0.here hx rfl (hb hby d14_20) rfl (l' := #[.val (.long q1), .second, .val (.ref a2), .val (.ref a2), .val (.int (2 : Int32)), .val (.int (0 : Int32)), .val (.int (g 0))]) rfl ?_
    refine XS.lloadN X0.here hx rfl (hb hby d14_22) rfl ?_
    refine XS.iload X0.here hx rfl (hb hby d14_23) rfl ?_
    show Steps p.tables e below (s₁.setTop (mkF m 25 #[.val (.long q1), .second, .val (.ref a2), .val (.ref a2), .val (.int (2 : Int32)), .val (.int (0 : Int32)), .val (.int (g 0))] [(.int (g 0)), (.long q1)])) _
    refine XS.sipush X0.here hx rfl (hb hby d14_25) ?_
    show Steps p.tables e below (s₁.setTop (mkF m 28 #[.val (.long q1), .second, .val (.ref a2), .val (.ref a2), .val (.int (2 : Int32)), .val (.int (0 : Int32)), .val (.int (g 0))] [(.int (255 : Int32)), (.int (g 0)), (.long q1)])) _
    refine XS.iand X0.here hx rfl (hb hby d14_28) rfl ?_
    show Steps p.tables e below (s₁.setTop (mkF m 29 #[.val (.long q1), .second, .val (.ref a2), .val (.ref a2), .val (.int (2 : Int32)), .val (.int (0 : Int32)), .val (.int (g 0))] [(.int ((g 0) &&& (255 : Int32))), (.long q1)])) _
    refine XS.i2l X0.here hx rfl (hb hby d14_29) rfl ?_
    show Steps p.tables e below (s₁.setTop (mkF m 30 #[.val (.long q1), .second, .val (.ref a2), .val (.ref a2), .val (.int (2 : Int32)), .val (.int (0 : Int32)), .val (.int (g 0))] [(.long (((g 0) &&& (255 : Int32)).toInt64)), (.long q1)])) _
    refine XS.lxor X0.here hx rfl (hb hby d14_30) rfl ?_
    show Steps p.tables e below (s₁.setTop (mkF m 31 #[.val (.long q1), .second, .val (.ref a2), .val (.ref a2), .val (.int (2 : Int32)), .val (.int (0 : Int32)), .val (.int (g 0))] [(.long (q1 ^^^ (((g 0) &&& (255 : Int32)).toInt64)))])) _
    refine X0.ldc2Long hx hown (mvT hZ (hw _ (List.mem_of_getElem? (i := 75) rfl))) (g := (mkF m 31 #[.val (.long q1), .second, .val (.ref a2), .val (.ref a2), .val (.int (2 : Int32)), .val (.int (0 : Int32)), .val (.int (g 0))] [(.long (q1 ^^^ (((g 0) &&& (255 : Int32)).toInt64)))])) rfl (hb hby d14_31) _ ?_
    show Steps p.tables e below (s₁.setTop (mkF m 34 #[.val (.long q1), .second, .val (.ref a2), .val (.ref a2), .val (.int (2 : Int32)), .val (.int (0 : Int32)), .val (.int (g 0))] [(.long (1099511628211 : Int64)), (.long (q1 ^^^ (((g 0) &&& (255 : Int32)).toInt64)))])) _
    refine XS.lmul X0.here hx rfl (hb hby d14_34) rfl ?_
    exact kt
  clear R127
  have R130 : ∀ tg, Steps p.tables e below (s₁.setTop (mkF m 35 #[.val (.long q1), .second, .val (.ref a2), .val (.ref a2), .val (.int (2 : Int32)), .val (.int (0 : Int32)), .val (.int (g 0))] [(.long (own_fb q1 (g 0)))])) tg → Steps p.tables e below (s₁.setTop (mkF m 0 #[.val (.long q1), .second, .val (.ref a2), .unset, .unset, .unset, .unset] [])) tg := R129
  have R131 : ∀ tg, Steps p.tables e below (s₁.setTop (mkF m 19 #[.val (.long (own_fb q1 (g 0))), .second, .val (.ref a2), .val (.ref a2), .val (.int (2 : Int32)), .val (.int ((0 : Int32) + (1 : Int32))), .val (.int (g 0))] [(.int ((0 : Int32) + (1 : Int32))), (.ref a2)])) tg → Steps p.tables e below (s₁.setTop (mkF m 0 #[.val (.long q1), .second, .val (.ref a2), .unset, .unset, .unset, .unset] [])) tg := by
    intro tg kt
    refine R130 _ ?_
    show Steps p.tables e below (s₁.setTop (mkF m 35 #[.val (.long q1), .second, .val (.ref a2), .val (.ref a2), .val (.int (2 : Int32)), .val (.int (0 : Int32)), .val (.int (g 0))] [(.long (own_fb q1 (g 0)))])) _
    refine XS.lstoreN X0.here hx rfl (hb hby d14_35) rfl (l' := #[.val (.long (own_fb q1 (g 0))), .second, .val (.ref a2), .val (.ref a2), .val (.int (2 : Int32)), .val (.int (0 : Int32)), .val (.int (g 0))]) rfl ?_
    show Steps p.tables e below (s₁.setTop (mkF m 36 #[.val (.long (own_fb q1 (g 0))), .second, .val (.ref a2), .val (.ref a2), .val (.int (2 : Int32)), .val (.int (0 : Int32)), .val (.int (g 0))] [])) _
    refine XS.iinc X0.here hx rfl (hb hby d14_36) rfl (l' := #[.val (.long (own_fb q1 (g 0))), .second, .val (.ref a2), .val (.ref a2), .val (.int (2 : Int32)), .val (.int ((0 : Int32) + (1 : Int32))), .val (.int (g 0))]) rfl ?_
    show Steps p.tables e below (s₁.setTop (mkF m 39 #[.val (.long (own_fb q1 (g 0))), .second, .val (.ref a2), .val (.ref a2), .val (.int (2 : Int32)), .val (.int ((0 : Int32) + (1 : Int32))), .val (.int (g 0))] [])) _
    refine XS.goto X0.here hx rfl (pc0 := 39) (pc' := 9) rfl (hb hby d14_39) (by decide) (by decide) ?_
    refine XS.iload X0.here hx rfl (hb hby d14_9) rfl ?_
    refine XS.iload X0.here hx rfl (hb hby d14_11) rfl ?_
    show Steps p.tables e below (s₁.setTop (mkF m 13 #[.val (.long (own_fb q1 (g 0))), .second, .val (.ref a2), .val (.ref a2), .val (.int (2 : Int32)), .val (.int ((0 : Int32) + (1 : Int32))), .val (.int (g 0))] [(.int (2 : Int32)), (.int ((0 : Int32) + (1 : Int32)))])) _
    refine XS.icmpNo X0.here hx rfl (hb hby d14_13) rfl (tlt (by decide : ((0 : Int32) + (1 : Int32)) < (2 : Int32))).2.1 ?_
    refine XS.aloadN X0.here hx rfl (hb hby d14_16) rfl rfl ?_
    refine XS.iload X0.here hx rfl (hb hby d14_17) rfl ?_
    exact kt
  clear R130
  obtain ⟨cl132, Ar132, hin132, hat132⟩ := VA.at (j := ((0 : Int32) + (1 : Int32))) (k := 1) (by decide) rfl (by decide)
  have R133 : ∀ tg, Steps p.tables e below (s₁.setTop (mkF m 35 #[.val (.long (own_fb q1 (g 0))), .second, .val (.ref a2), .val (.ref a2), .val (.int (2 : Int32)), .val (.int ((0 : Int32) + (1 : Int32))), .val (.int (g 1))] [(.long (((own_fb q1 (g 0)) ^^^ (((g 1) &&& (255 : Int32)).toInt64)) * (1099511628211 : Int64)))])) tg → Steps p.tables e below (s₁.setTop (mkF m 0 #[.val (.long q1), .second, .val (.ref a2), .unset, .unset, .unset, .unset] [])) tg := by
    intro tg kt
    refine R131 _ ?_
    show Steps p.tables e below (s₁.setTop (mkF m 19 #[.val (.long (own_fb q1 (g 0))), .second, .val (.ref a2), .val (.ref a2), .val (.int (2 : Int32)), .val (.int ((0 : Int32) + (1 : Int32))), .val (.int (g 0))] [(.int ((0 : Int32) + (1 : Int32))), (.ref a2)])) _
    refine X0.baloadBytes hx (j := ((0 : Int32) + (1 : Int32))) (v := (.int (g 1))) (by rw [e0]; exact Ar132.1) (State.isArrayOf_alike hZ.alike Ar132.2.1) Ar132.2.2 hin132 hat132 (g := (mkF m 19 #[.val (.long (own_fb q1 (g 0))), .second, .val (.ref a2), .val (.ref a2), .val (.int (2 : Int32)), .val (.int ((0 : Int32) + (1 : Int32))), .val (.int (g 0))] [(.int ((0 : Int32) + (1 : Int32))), (.ref a2)])) rfl rfl (hb hby d14_19) _ ?_
    show Steps p.tables e below (s₁.setTop (mkF m 20 #[.val (.long (own_fb q1 (g 0))), .second, .val (.ref a2), .val (.ref a2), .val (.int (2 : Int32)), .val (.int ((0 : Int32) + (1 : Int32))), .val (.int (g 0))] [(.int (g 1))])) _
    refine XS.istore X0.here hx rfl (hb hby d14_20) rfl (l' := #[.val (.long (own_fb q1 (g 0))), .second, .val (.ref a2), .val (.ref a2), .val (.int (2 : Int32)), .val (.int ((0 : Int32) + (1 : Int32))), .val (.int (g 1))]) rfl ?_
    refine XS.lloadN X0.here hx rfl (hb hby d14_22) rfl ?_
    refine XS.iload X0.here hx rfl (hb hby d14_23) rfl ?_
    show Steps p.tables e below (s₁.setTop (mkF m 25 #[.val (.long (own_fb q1 (g 0))), .second, .val (.ref a2), .val (.ref a2), .val (.int (2 : Int32)), .val (.int ((0 : Int32) + (1 : Int32))), .val (.int (g 1))] [(.int (g 1)), (.long (own_fb q1 (g 0)))])) _
    refine XS.sipush X0.here hx rfl (hb hby d14_25) ?_
    show Steps p.tables e below (s₁.setTop (mkF m 28 #[.val (.long (own_fb q1 (g 0))), .second, .val (.ref a2), .val (.ref a2), .val (.int (2 : Int32)), .val (.int ((0 : Int32) + (1 : Int32))), .val (.int (g 1))] [(.int (255 : Int32)), (.int (g 1)), (.long (own_fb q1 (g 0)))])) _
    refine XS.iand X0.here hx rfl (hb hby d14_28) rfl ?_
    show Steps p.tables e below (s₁.setTop (mkF m 29 #[.val (.long (own_fb q1 (g 0))), .second, .val (.ref a2), .val (.ref a2), .val (.int (2 : Int32)), .val (.int ((0 : Int32) + (1 : Int32))), .val (.int (g 1))] [(.int ((g 1) &&& (255 : Int32))), (.long (own_fb q1 (g 0)))])) _
    refine XS.i2l X0.here hx rfl (hb hby d14_29) rfl ?_
    show Steps p.tables e below (s₁.setTop (mkF m 30 #[.val (.long (own_fb q1 (g 0))), .second, .val (.ref a2), .val (.ref a2), .val (.int (2 : Int32)), .val (.int ((0 : Int32) + (1 : Int32))), .val (.int (g 1))] [(.long (((g 1) &&& (255 : Int32)).toInt64)), (.long (own_fb q1 (g 0)))])) _
    refine XS.lxor X0.here hx rfl (hb hby d14_30) rfl ?_
    show Steps p.tables e below (s₁.setTop (mkF m 31 #[.val (.long (own_fb q1 (g 0))), .second, .val (.ref a2), .val (.ref a2), .val (.int (2 : Int32)), .val (.int ((0 : Int32) + (1 : Int32))), .val (.int (g 1))] [(.long ((own_fb q1 (g 0)) ^^^ (((g 1) &&& (255 : Int32)).toInt64)))])) _
    refine X0.ldc2Long hx hown (mvT hZ (hw _ (List.mem_of_getElem? (i := 75) rfl))) (g := (mkF m 31 #[.val (.long (own_fb q1 (g 0))), .second, .val (.ref a2), .val (.ref a2), .val (.int (2 : Int32)), .val (.int ((0 : Int32) + (1 : Int32))), .val (.int (g 1))] [(.long ((own_fb q1 (g 0)) ^^^ (((g 1) &&& (255 : Int32)).toInt64)))])) rfl (hb hby d14_31) _ ?_
    show Steps p.tables e below (s₁.setTop (mkF m 34 #[.val (.long (own_fb q1 (g 0))), .second, .val (.ref a2), .val (.ref a2), .val (.int (2 : Int32)), .val (.int ((0 : Int32) + (1 : Int32))), .val (.int (g 1))] [(.long (1099511628211 : Int64)), (.long ((own_fb q1 (g 0)) ^^^ (((g 1) &&& (255 : Int32)).toInt64)))])) _
    refine XS.lmul X0.here hx rfl (hb hby d14_34) rfl ?_
    exact kt
  clear R131
  have R134 : ∀ tg, Steps p.tables e below (s₁.setTop (mkF m 35 #[.val (.long (own_fb q1 (g 0))), .second, .val (.ref a2), .val (.ref a2), .val (.int (2 : Int32)), .val (.int ((0 : Int32) + (1 : Int32))), .val (.int (g 1))] [(.long (own_fb (own_fb q1 (g 0)) (g 1)))])) tg → Steps p.tables e below (s₁.setTop (mkF m 0 #[.val (.long q1), .second, .val (.ref a2), .unset, .unset, .unset, .unset] [])) tg := R133
  have R135 : ∀ tg, Steps p.tables e below (s₁.setTop (mkF m 43 #[.val (.long (own_fb (own_fb q1 (g 0)) (g 1))), .second, .val (.ref a2), .val (.ref a2), .val (.int (2 : Int32)), .val (.int (((0 : Int32) + (1 : Int32)) + (1 : Int32))), .val (.int (g 1))] [(.long (own_fb (own_fb q1 (g 0)) (g 1)))])) tg → Steps p.tables e below (s₁.setTop (mkF m 0 #[.val (.long q1), .second, .val (.ref a2), .unset, .unset, .unset, .unset] [])) tg := by
    intro tg kt
    refine R134 _ ?_
    show Steps p.tables e below (s₁.setTop (mkF m 35 #[.val (.long (own_fb q1 (g 0))), .second, .val (.ref a2), .val (.ref a2), .val (.int (2 : Int32)), .val (.int ((0 : Int32) + (1 : Int32))), .val (.int (g 1))] [(.long (own_fb (own_fb q1 (g 0)) (g 1)))])) _
    refine XS.lstoreN X0.here hx rfl (hb hby d14_35) rfl (l' := #[.val (.long (own_fb (own_fb q1 (g 0)) (g 1))), .second, .val (.ref a2), .val (.ref a2), .val (.int (2 : Int32)), .val (.int ((0 : Int32) + (1 : Int32))), .val (.int (g 1))]) rfl ?_
    show Steps p.tables e below (s₁.setTop (mkF m 36 #[.val (.long (own_fb (own_fb q1 (g 0)) (g 1))), .second, .val (.ref a2), .val (.ref a2), .val (.int (2 : Int32)), .val (.int ((0 : Int32) + (1 : Int32))), .val (.int (g 1))] [])) _
    refine XS.iinc X0.here hx rfl (hb hby d14_36) rfl (l' := #[.val (.long (own_fb (own_fb q1 (g 0)) (g 1))), .second, .val (.ref a2), .val (.ref a2), .val (.int (2 : Int32)), .val (.int (((0 : Int32) + (1 : Int32)) + (1 : Int32))), .val (.int (g 1))]) rfl ?_
    show Steps p.tables e below (s₁.setTop (mkF m 39 #[.val (.long (own_fb (own_fb q1 (g 0)) (g 1))), .second, .val (.ref a2), .val (.ref a2), .val (.int (2 : Int32)), .val (.int (((0 : Int32) + (1 : Int32)) + (1 : Int32))), .val (.int (g 1))] [])) _
    refine XS.goto X0.here hx rfl (pc0 := 39) (pc' := 9) rfl (hb hby d14_39) (by decide) (by decide) ?_
    refine XS.iload X0.here hx rfl (hb hby d14_9) rfl ?_
    refine XS.iload X0.here hx rfl (hb hby d14_11) rfl ?_
    show Steps p.tables e below (s₁.setTop (mkF m 13 #[.val (.long (own_fb (own_fb q1 (g 0)) (g 1))), .second, .val (.ref a2), .val (.ref a2), .val (.int (2 : Int32)), .val (.int (((0 : Int32) + (1 : Int32)) + (1 : Int32))), .val (.int (g 1))] [(.int (2 : Int32)), (.int (((0 : Int32) + (1 : Int32)) + (1 : Int32)))])) _
    refine XS.icmpYes X0.here hx rfl (pc0 := 13) (pc' := 42) rfl (hb hby d14_13) rfl (flt (by decide : ¬ ((((0 : Int32) + (1 : Int32)) + (1 : Int32)) < (2 : Int32)))).2.1 (by decide) (by decide) ?_
    refine XS.lloadN X0.here hx rfl (hb hby d14_42) rfl ?_
    exact kt
  clear R134
  obtain ⟨fs, hr, hrun, hended, hW, hsame⟩ := X0.leave (v := some (.long (own_fb (own_fb q1 (g 0)) (g 1)))) (fun h => by rw [Bd.returns] at h; cases h)
  refine ⟨_, _, pre0 _ (R135 _ ?_), hrun, hended, _, _, rfl, ?_, ⟨_, rfl⟩, hW, hsame.mono (by decide) (by decide)⟩
  · exact X0.lreturnOut hx Bd.returns (hb hby d14_43) hr
  · show Q_rm_fn2 Z q1 a2 g h0 n0 _ s₁.heap _
    rw [e0]
    exact ⟨rfl, N0, rfl⟩
theorem ef_rm_fn6 (m : MethodId) (q1 : Int64) (a2 : Addr) : entryFrame m #[(.long q1), (.ref a2)] 7 = mkF m 0 #[.val (.long q1), .second, .val (.ref a2), .unset, .unset, .unset, .unset] [] := by first | (simp [entryFrame, mkF, argsToLocals, Value.category]; done) | rfl
def Q_rm_fn6 (Z : State) (q1 : Int64) (a2 : Addr) (g : Nat → Int32) (h0 : Heap) (n0 : Nat) (v : Option Value) (h : Heap) (L : List Loc) : Prop := v = some (.long (own_fb (own_fb (own_fb (own_fb (own_fb (own_fb q1 (g 0)) (g 1)) (g 2)) (g 3)) (g 4)) (g 5))) ∧ Fr n0 L ∧ h = h0
set_option maxRecDepth 65536 in
set_option maxHeartbeats 40000000 in
theorem rm_fn6 (l : Launch) (Z : State) (a0 : Array Value) (hw : ∀ d ∈ tables_1, d.before a0 Z = true) (ws : List Jvm.Cond) (q1 : Int64) (a2 : Addr) (g : Nat → Int32) (h0 : Heap) (n0 : Nat) (Z0 : n0 ≤ h0.size) (VA : AV Z h0 a2 .byte 6 (fun j => .int (g j))) :
    MetFree l (⟨"com/example/loadloom/loadloom/Draws", "fnv1a", "(J[B)J"⟩ : MethodName) (head1 (Jvm.Cond.code (⟨"com/example/loadloom/loadloom/Draws", "fnv1a", "(J[B)J"⟩ : MethodName) prog_8_method_19_code 7 (some .long) :: ws) ({ frames := 0, cells := 0, slots := 0, locals := 0 } : Room)) (fun a U => a = #[(.long q1), (.ref a2)] ∧ Z.Warmed39 U.vm ∧ U.heap = h0) (fun _ _ _ _ _ => True) (fun _ U oC U' => ∃ v L, oC = .returned v ∧ Q_rm_fn6 Z q1 a2 g h0 n0 v U'.heap L ∧ FrameEnd U oC U' L ({ frames := 0, cells := 0, slots := 0, locals := 0 } : Room).cells ({ frames := 0, cells := 0, slots := 0, locals := 0 } : Room).slots) := by
  refine MetFree.of_bodySF (plainFor_of_name pn_0) hisR ?_
  intro p e s m args below meth c s₁ Bd hml0 hP hK
  obtain ⟨rfl, hZ, hh⟩ := hP
  have hx := Bd.exec
  have hby := Bd.bytes
  have hml : c.maxLocals = 7 := hml0
  have hown : s.vm.findClass "com/example/loadloom/loadloom/Draws" = some m.cls := findClass_of_methodNamed Bd.named
  have hnm := (name_of_methodNamed Bd.named Bd.method).1
  have X0 : Stand p l e ({ frames := 0, cells := 0, slots := 0, locals := 0 } : Room) s m #[(.long q1), (.ref a2)] below meth c s₁ [] 0 0 := Stand.of_body Bd
  have e0 : s₁.heap = h0 := by rw [← hh, Bd.state]; rfl
  have N0 := Fr.nil n0
  have pre0 : ∀ tg, Steps p.tables e below (s₁.setTop (mkF m 0 #[.val (.long q1), .second, .val (.ref a2), .unset, .unset, .unset, .unset] [])) tg → Steps p.tables e below (s₁.setTop (entryFrame m #[(.long q1), (.ref a2)] 7)) tg := fun t k => castTop (ef_rm_fn6 m q1 a2) k
  have pre00 : ∀ tg, Steps p.tables e below (s₁.setTop (mkF m 0 #[.val (.long q1), .second, .val (.ref a2), .unset, .unset, .unset, .unset] [])) tg → Steps p.tables e below (s₁.setTop (mkF m 0 #[.val (.long q1), .second, .val (.ref a2), .unset, .unset, .unset, .unset] [])) tg := fun _ k => k
  have R136 : ∀ tg, Steps p.tables e below (s₁.setTop (mkF m 3 #[.val (.long q1), .second, .val (.ref a2), .val (.ref a2), .unset, .unset, .unset] [(.ref a2)])) tg → Steps p.tables e below (s₁.setTop (mkF m 0 #[.val (.long q1), .second, .val (.ref a2), .unset, .unset, .unset, .unset] [])) tg := by
    intro tg kt
    refine pre00 _ ?_
    show Steps p.tables e below (s₁.setTop (mkF m 0 #[.val (.long q1), .second, .val (.ref a2), .unset, .unset, .unset, .unset] [])) _
    refine XS.aloadN X0.here hx rfl (hb hby d14_0) rfl rfl ?_
    show Steps p.tables e below (s₁.setTop (mkF m 1 #[.val (.long q1), .second, .val (.ref a2), .unset, .unset, .unset, .unset] [(.ref a2)])) _
    refine XS.astoreN X0.here hx rfl (hb hby d14_1) rfl rfl (l' := #[.val (.long q1), .second, .val (.ref a2), .val (.ref a2), .unset, .unset, .unset]) rfl ?_
    refine XS.aloadN X0.here hx rfl (hb hby d14_2) rfl rfl ?_
    exact kt
  obtain ⟨cl137, Ar137, ln137⟩ := VA.len
  have R138 : ∀ tg, Steps p.tables e below (s₁.setTop (mkF m 19 #[.val (.long q1), .second, .val (.ref a2), .val (.ref a2), .val (.int (6 : Int32)), .val (.int (0 : Int32)), .unset] [(.int (0 : Int32)), (.ref a2)])) tg → Steps p.tables e below (s₁.setTop (mkF m 0 #[.val (.long q1), .second, .val (.ref a2), .unset, .unset, .unset, .unset] [])) tg := by
    intro tg kt
    refine R136 _ ?_
    show Steps p.tables e below (s₁.setTop (mkF m 3 #[.val (.long q1), .second, .val (.ref a2), .val (.ref a2), .unset, .unset, .unset] [(.ref a2)])) _
    refine X0.arraylength hx (by rw [e0]; exact Ar137.1) (State.isArrayOf_alike hZ.alike Ar137.2.1) (g := (mkF m 3 #[.val (.long q1), .second, .val (.ref a2), .val (.ref a2), .unset, .unset, .unset] [(.ref a2)])) rfl rfl (hb hby d14_3) _ ?_
    rw [ln137]
    show Steps p.tables e below (s₁.setTop (mkF m 4 #[.val (.long q1), .second, .val (.ref a2), .val (.ref a2), .unset, .unset, .unset] [(.int (6 : Int32))])) _
    refine XS.istore X0.here hx rfl (hb hby d14_4) rfl (l' := #[.val (.long q1), .second, .val (.ref a2), .val (.ref a2), .val (.int (6 : Int32)), .unset, .unset]) rfl ?_
    refine XS.iconst X0.here hx rfl (hb hby d14_6) ?_
    show Steps p.tables e below (s₁.setTop (mkF m 7 #[.val (.long q1), .second, .val (.ref a2), .val (.ref a2), .val (.int (6 : Int32)), .unset, .unset] [(.int (0 : Int32))])) _
    refine XS.istore X0.here hx rfl (hb hby d14_7) rfl (l' := #[.val (.long q1), .second, .val (.ref a2), .val (.ref a2), .val (.int (6 : Int32)), .val (.int (0 : Int32)), .unset]) rfl ?_
    refine XS.iload X0.here hx rfl (hb hby d14_9) rfl ?_
    refine XS.iload X0.here hx rfl (hb hby d14_11) rfl ?_
    show Steps p.tables e below (s₁.setTop (mkF m 13 #[.val (.long q1), .second, .val (.ref a2), .val (.ref a2), .val (.int (6 : Int32)), .val (.int (0 : Int32)), .unset] [(.int (6 : Int32)), (.int (0 : Int32))])) _
    refine XS.icmpNo X0.here hx rfl (hb hby d14_13) rfl (tlt (by decide : (0 : Int32) < (6 : Int32))).2.1 ?_
    refine XS.aloadN X0.here hx rfl (hb hby d14_16) rfl rfl ?_
    refine XS.iload X0.here hx rfl (hb hby d14_17) rfl ?_
    exact kt
  clear R136
  obtain ⟨cl139, Ar139, hin139, hat139⟩ := VA.at (j := (0 : Int32)) (k := 0) (by decide) rfl (by decide)
  have R140 : ∀ tg, Steps p.tables e below (s₁.setTop (mkF m 35 #[.val (.long q1), .second, .val (.ref a2), .val (.ref a2), .val (.int (6 : Int32)), .val (.int (0 : Int32)), .val (.int (g 0))] [(.long ((q1 ^^^ (((g 0) &&& (255 : Int32)).toInt64)) * (1099511628211 : Int64)))])) tg → Steps p.tables e below (s₁.setTop (mkF m 0 #[.val (.long q1), .second, .val (.ref a2), .unset, .unset, .unset, .unset] [])) tg := by
    intro tg kt
    refine R138 _ ?_
    show Steps p.tables e below (s₁.setTop (mkF m 19 #[.val (.long q1), .second, .val (.ref a2), .val (.ref a2), .val (.int (6 : Int32)), .val (.int (0 : Int32)), .unset] [(.int (0 : Int32)), (.ref a2)])) _
    refine X0.baloadBytes hx (j := (0 : Int32)) (v := (.int (g 0))) (by rw [e0]; exact Ar139.1) (State.isArrayOf_alike hZ.alike Ar139.2.1) Ar139.2.2 hin139 hat139 (g := (mkF m 19 #[.val (.long q1), .second, .val (.ref a2), .val (.ref a2), .val (.int (6 : Int32)), .val (.int (0 : Int32)), .unset] [(.int (0 : Int32)), (.ref a2)])) rfl rfl (hb hby d14_19) _ ?_
    show Steps p.tables e below (s₁.setTop (mkF m 20 #[.val (.long q1), .second, .val (.ref a2), .val (.ref a2), .val (.int (6 : Int32)), .val (.int (0 : Int32)), .unset] [(.int (g 0))])) _
    refine XS.istore X0.here hx rfl (hb hby d14_20) rfl (l' := #[.val (.long q1), .second, .val (.ref a2), .val (.ref a2), .val (.int (6 : Int32)), .val (.int (0 : Int32)), .val (.int (g 0))]) rfl ?_
    refine XS.lloadN X0.here hx rfl (hb hby d14_22) rfl ?_
    refine XS.iload X0.here hx rfl (hb hby d14_23) rfl ?_
    show Steps p.tables e below (s₁.setTop (mkF m 25 #[.val (.long q1), .second, .val (.ref a2), .val (.ref a2), .val (.int (6 : Int32)), .val (.int (0 : Int32)), .val (.int (g 0))] [(.int (g 0)), (.long q1)])) _
    refine XS.sipush X0.here hx rfl (hb hby d14_25) ?_
    show Steps p.tables e below (s₁.setTop (mkF m 28 #[.val (.long q1), .second, .val (.ref a2), .val (.ref a2), .val (.int (6 : Int32)), .val (.int (0 : Int32)), .val (.int (g 0))] [(.int (255 : Int32)), (.int (g 0)), (.long q1)])) _
    refine XS.iand X0.here hx rfl (hb hby d14_28) rfl ?_
    show Steps p.tables e below (s₁.setTop (mkF m 29 #[.val (.long q1), .second, .val (.ref a2), .val (.ref a2), .val (.int (6 : Int32)), .val (.int (0 : Int32)), .val (.int (g 0))] [(.int ((g 0) &&& (255 : Int32))), (.long q1)])) _
    refine XS.i2l X0.here hx rfl (hb hby d14_29) rfl ?_
    show Steps p.tables e below (s₁.setTop (mkF m 30 #[.val (.long q1), .second, .val (.ref a2), .val (.ref a2), .val (.int (6 : Int32)), .val (.int (0 : Int32)), .val (.int (g 0))] [(.long (((g 0) &&& (255 : Int32)).toInt64)), (.long q1)])) _
    refine XS.lxor X0.here hx rfl (hb hby d14_30) rfl ?_
    show Steps p.tables e below (s₁.setTop (mkF m 31 #[.val (.long q1), .second, .val (.ref a2), .val (.ref a2), .val (.int (6 : Int32)), .val (.int (0 : Int32)), .val (.int (g 0))] [(.long (q1 ^^^ (((g 0) &&& (255 : Int32)).toInt64)))])) _
    refine X0.ldc2Long hx hown (mvT hZ (hw _ (List.mem_of_getElem? (i := 75) rfl))) (g := (mkF m 31 #[.val (.long q1), .second, .val (.ref a2), .val (.ref a2), .val (.int (6 : Int32)), .val (.int (0 : Int32)), .val (.int (g 0))] [(.long (q1 ^^^ (((g 0) &&& (255 : Int32)).toInt64)))])) rfl (hb hby d14_31) _ ?_
    show Steps p.tables e below (s₁.setTop (mkF m 34 #[.val (.long q1), .second, .val (.ref a2), .val (.ref a2), .val (.int (6 : Int32)), .val (.int (0 : Int32)), .val (.int (g 0))] [(.long (1099511628211 : Int64)), (.long (q1 ^^^ (((g 0) &&& (255 : Int32)).toInt64)))])) _
    refine XS.lmul X0.here hx rfl (hb hby d14_34) rfl ?_
    exact kt
  clear R138
  have R141 : ∀ tg, Steps p.tables e below (s₁.setTop (mkF m 35 #[.val (.long q1), .second, .val (.ref a2), .val (.ref a2), .val (.int (6 : Int32)), .val (.int (0 : Int32)), .val (.int (g 0))] [(.long (own_fb q1 (g 0)))])) tg → Steps p.tables e below (s₁.setTop (mkF m 0 #[.val (.long q1), .second, .val (.ref a2), .unset, .unset, .unset, .unset] [])) tg := R140
  have R142 : ∀ tg, Steps p.tables e below (s₁.setTop (mkF m 19 #[.val (.long (own_fb q1 (g 0))), .second, .val (.ref a2), .val (.ref a2), .val (.int (6 : Int32)), .val (.int ((0 : Int32) + (1 : Int32))), .val (.int (g 0))] [(.int ((0 : Int32) + (1 : Int32))), (.ref a2)])) tg → Steps p.tables e below (s₁.setTop (mkF m 0 #[.val (.long q1), .second, .val (.ref a2), .unset, .unset, .unset, .unset] [])) tg := by
    intro tg kt
    refine R141 _ ?_
    show Steps p.tables e below (s₁.setTop (mkF m 35 #[.val (.long q1), .second, .val (.ref a2), .val (.ref a2), .val (.int (6 : Int32)), .val (.int (0 : Int32)), .val (.int (g 0))] [(.long (own_fb q1 (g 0)))])) _
    refine XS.lstoreN X0.here hx rfl (hb hby d14_35) rfl (l' := #[.val (.long (own_fb q1 (g 0))), .second, .val (.ref a2), .val (.ref a2), .val (.int (6 : Int32)), .val (.int (0 : Int32)), .val (.int (g 0))]) rfl ?_
    show Steps p.tables e below (s₁.setTop (mkF m 36 #[.val (.long (own_fb q1 (g 0))), .second, .val (.ref a2), .val (.ref a2), .val (.int (6 : Int32)), .val (.int (0 : Int32)), .val (.int (g 0))] [])) _
    refine XS.iinc X0.here hx rfl (hb hby d14_36) rfl (l' := #[.val (.long (own_fb q1 (g 0))), .second, .val (.ref a2), .val (.ref a2), .val (.int (6 : Int32)), .val (.int ((0 : Int32) + (1 : Int32))), .val (.int (g 0))]) rfl ?_
    show Steps p.tables e below (s₁.setTop (mkF m 39 #[.val (.long (own_fb q1 (g 0))), .second, .val (.ref a2), .val (.ref a2), .val (.int (6 : Int32)), .val (.int ((0 : Int32) + (1 : Int32))), .val (.int (g 0))] [])) _
    refine XS.goto X0.here hx rfl (pc0 := 39) (pc' := 9) rfl (hb hby d14_39) (by decide) (by decide) ?_
    refine XS.iload X0.here hx rfl (hb hby d14_9) rfl ?_
    refine XS.iload X0.here hx rfl (hb hby d14_11) rfl ?_
    show Steps p.tables e below (s₁.setTop (mkF m 13 #[.val (.long (own_fb q1 (g 0))), .second, .val (.ref a2), .val (.ref a2), .val (.int (6 : Int32)), .val (.int ((0 : Int32) + (1 : Int32))), .val (.int (g 0))] [(.int (6 : Int32)), (.int ((0 : Int32) + (1 : Int32)))])) _
    refine XS.icmpNo X0.here hx rfl (hb hby d14_13) rfl (tlt (by decide : ((0 : Int32) + (1 : Int32)) < (6 : Int32))).2.1 ?_
    refine XS.aloadN X0.here hx rfl (hb hby d14_16) rfl rfl ?_
    refine XS.iload X0.here hx rfl (hb hby d14_17) rfl ?_
    exact kt
  clear R141
  obtain ⟨cl143, Ar143, hin143, hat143⟩ := VA.at (j := ((0 : Int32) + (1 : Int32))) (k := 1) (by decide) rfl (by decide)
  have R144 : ∀ tg, Steps p.tables e below (s₁.setTop (mkF m 35 #[.val (.long (own_fb q1 (g 0))), .second, .val (.ref a2), .val (.ref a2), .val (.int (6 : Int32)), .val (.int ((0 : Int32) + (1 : Int32))), .val (.int (g 1))] [(.long (((own_fb q1 (g 0)) ^^^ (((g 1) &&& (255 : Int32)).toInt64)) * (1099511628211 : Int64)))])) tg → Steps p.tables e below (s₁.setTop (mkF m 0 #[.val (.long q1), .second, .val (.ref a2), .unset, .unset, .unset, .unset] [])) tg := by
    intro tg kt
    refine R142 _ ?_
    show Steps p.tables e below (s₁.setTop (mkF m 19 #[.val (.long (own_fb q1 (g 0))), .second, .val (.ref a2), .val (.ref a2), .val (.int (6 : Int32)), .val (.int ((0 : Int32) + (1 : Int32))), .val (.int (g 0))] [(.int ((0 : Int32) + (1 : Int32))), (.ref a2)])) _
    refine X0.baloadBytes hx (j := ((0 : Int32) + (1 : Int32))) (v := (.int (g 1))) (by rw [e0]; exact Ar143.1) (State.isArrayOf_alike hZ.alike Ar143.2.1) Ar143.2.2 hin143 hat143 (g := (mkF m 19 #[.val (.long (own_fb q1 (g 0))), .second, .val (.ref a2), .val (.ref a2), .val (.int (6 : Int32)), .val (.int ((0 : Int32) + (1 : Int32))), .val (.int (g 0))] [(.int ((0 : Int32) + (1 : Int32))), (.ref a2)])) rfl rfl (hb hby d14_19) _ ?_
    show Steps p.tables e below (s₁.setTop (mkF m 20 #[.val (.long (own_fb q1 (g 0))), .second, .val (.ref a2), .val (.ref a2), .val (.int (6 : Int32)), .val (.int ((0 : Int32) + (1 : Int32))), .val (.int (g 0))] [(.int (g 1))])) _
    refine XS.istore X0.here hx rfl (hb hby d14_20) rfl (l' := #[.val (.long (own_fb q1 (g 0))), .second, .val (.ref a2), .val (.ref a2), .val (.int (6 : Int32)), .val (.int ((0 : Int32) + (1 : Int32))), .val (.int (g 1))]) rfl ?_
    refine XS.lloadN X0.here hx rfl (hb hby d14_22) rfl ?_
    refine XS.iload X0.here hx rfl (hb hby d14_23) rfl ?_
    show Steps p.tables e below (s₁.setTop (mkF m 25 #[.val (.long (own_fb q1 (g 0))), .second, .val (.ref a2), .val (.ref a2), .val (.int (6 : Int32)), .val (.int ((0 : Int32) + (1 : Int32))), .val (.int (g 1))] [(.int (g 1)), (.long (own_fb q1 (g 0)))])) _
    refine XS.sipush X0.here hx rfl (hb hby d14_25) ?_
    show Steps p.tables e below (s₁.setTop (mkF m 28 #[.val (.long (own_fb q1 (g 0))), .second, .val (.ref a2), .val (.ref a2), .val (.int (6 : Int32)), .val (.int ((0 : Int32) + (1 : Int32))), .val (.int (g 1))] [(.int (255 : Int32)), (.int (g 1)), (.long (own_fb q1 (g 0)))])) _
    refine XS.iand X0.here hx rfl (hb hby d14_28) rfl ?_
    show Steps p.tables e below (s₁.setTop (mkF m 29 #[.val (.long (own_fb q1 (g 0))), .second, .val (.ref a2), .val (.ref a2), .val (.int (6 : Int32)), .val (.int ((0 : Int32) + (1 : Int32))), .val (.int (g 1))] [(.int ((g 1) &&& (255 : Int32))), (.long (own_fb q1 (g 0)))])) _
    refine XS.i2l X0.here hx rfl (hb hby d14_29) rfl ?_
    show Steps p.tables e below (s₁.setTop (mkF m 30 #[.val (.long (own_fb q1 (g 0))), .second, .val (.ref a2), .val (.ref a2), .val (.int (6 : Int32)), .val (.int ((0 : Int32) + (1 : Int32))), .val (.int (g 1))] [(.long (((g 1) &&& (255 : Int32)).toInt64)), (.long (own_fb q1 (g 0)))])) _
    refine XS.lxor X0.here hx rfl (hb hby d14_30) rfl ?_
    show Steps p.tables e below (s₁.setTop (mkF m 31 #[.val (.long (own_fb q1 (g 0))), .second, .val (.ref a2), .val (.ref a2), .val (.int (6 : Int32)), .val (.int ((0 : Int32) + (1 : Int32))), .val (.int (g 1))] [(.long ((own_fb q1 (g 0)) ^^^ (((g 1) &&& (255 : Int32)).toInt64)))])) _
    refine X0.ldc2Long hx hown (mvT hZ (hw _ (List.mem_of_getElem? (i := 75) rfl))) (g := (mkF m 31 #[.val (.long (own_fb q1 (g 0))), .second, .val (.ref a2), .val (.ref a2), .val (.int (6 : Int32)), .val (.int ((0 : Int32) + (1 : Int32))), .val (.int (g 1))] [(.long ((own_fb q1 (g 0)) ^^^ (((g 1) &&& (255 : Int32)).toInt64)))])) rfl (hb hby d14_31) _ ?_
    show Steps p.tables e below (s₁.setTop (mkF m 34 #[.val (.long (own_fb q1 (g 0))), .second, .val (.ref a2), .val (.ref a2), .val (.int (6 : Int32)), .val (.int ((0 : Int32) + (1 : Int32))), .val (.int (g 1))] [(.long (1099511628211 : Int64)), (.long ((own_fb q1 (g 0)) ^^^ (((g 1) &&& (255 : Int32)).toInt64)))])) _
    refine XS.lmul X0.here hx rfl (hb hby d14_34) rfl ?_
    exact kt
  clear R142
  have R145 : ∀ tg, Steps p.tables e below (s₁.setTop (mkF m 35 #[.val (.long (own_fb q1 (g 0))), .second, .val (.ref a2), .val (.ref a2), .val (.int (6 : Int32)), .val (.int ((0 : Int32) + (1 : Int32))), .val (.int (g 1))] [(.long (own_fb (own_fb q1 (g 0)) (g 1)))])) tg → Steps p.tables e below (s₁.setTop (mkF m 0 #[.val (.long q1), .second, .val (.ref a2), .unset, .unset, .unset, .unset] [])) tg := R144
  have R146 : ∀ tg, Steps p.tables e below (s₁.setTop (mkF m 19 #[.val (.long (own_fb (own_fb q1 (g 0)) (g 1))), .second, .val (.ref a2), .val (.ref a2), .val (.int (6 : Int32)), .val (.int (((0 : Int32) + (1 : Int32)) + (1 : Int32))), .val (.int (g 1))] [(.int (((0 : Int32) + (1 : Int32)) + (1 : Int32))), (.ref a2)])) tg → Steps p.tables e below (s₁.setTop (mkF m 0 #[.val (.long q1), .second, .val (.ref a2), .unset, .unset, .unset, .unset] [])) tg := by
    intro tg kt
    refine R145 _ ?_
    show Steps p.tables e below (s₁.setTop (mkF m 35 #[.val (.long (own_fb q1 (g 0))), .second, .val (.ref a2), .val (.ref a2), .val (.int (6 : Int32)), .val (.int ((0 : Int32) + (1 : Int32))), .val (.int (g 1))] [(.long (own_fb (own_fb q1 (g 0)) (g 1)))])) _
    refine XS.lstoreN X0.here hx rfl (hb hby d14_35) rfl (l' := #[.val (.long (own_fb (own_fb q1 (g 0)) (g 1))), .second, .val (.ref a2), .val (.ref a2), .val (.int (6 : Int32)), .val (.int ((0 : Int32) + (1 : Int32))), .val (.int (g 1))]) rfl ?_
    show Steps p.tables e below (s₁.setTop (mkF m 36 #[.val (.long (own_fb (own_fb q1 (g 0)) (g 1))), .second, .val (.ref a2), .val (.ref a2), .val (.int (6 : Int32)), .val (.int ((0 : Int32) + (1 : Int32))), .val (.int (g 1))] [])) _
    refine XS.iinc X0.here hx rfl (hb hby d14_36) rfl (l' := #[.val (.long (own_fb (own_fb q1 (g 0)) (g 1))), .second, .val (.ref a2), .val (.ref a2), .val (.int (6 : Int32)), .val (.int (((0 : Int32) + (1 : Int32)) + (1 : Int32))), .val (.int (g 1))]) rfl ?_
    show Steps p.tables e below (s₁.setTop (mkF m 39 #[.val (.long (own_fb (own_fb q1 (g 0)) (g 1))), .second, .val (.ref a2), .val (.ref a2), .val (.int (6 : Int32)), .val (.int (((0 : Int32) + (1 : Int32)) + (1 : Int32))), .val (.int (g 1))] [])) _
    refine XS.goto X0.here hx rfl (pc0 := 39) (pc' := 9) rfl (hb hby d14_39) (by decide) (by decide) ?_
    refine XS.iload X0.here hx rfl (hb hby d14_9) rfl ?_
    refine XS.iload X0.here hx rfl (hb hby d14_11) rfl ?_
    show Steps p.tables e below (s₁.setTop (mkF m 13 #[.val (.long (own_fb (own_fb q1 (g 0)) (g 1))), .second, .val (.ref a2), .val (.ref a2), .val (.int (6 : Int32)), .val (.int (((0 : Int32) + (1 : Int32)) + (1 : Int32))), .val (.int (g 1))] [(.int (6 : Int32)), (.int (((0 : Int32) + (1 : Int32)) + (1 : Int32)))])) _
    refine XS.icmpNo X0.here hx rfl (hb hby d14_13) rfl (tlt (by decide : (((0 : Int32) + (1 : Int32)) + (1 : Int32)) < (6 : Int32))).2.1 ?_
    refine XS.aloadN X0.here hx rfl (hb hby d14_16) rfl rfl ?_
    refine XS.iload X0.here hx rfl (hb hby d14_17) rfl ?_
    exact kt
  clear R145
  obtain ⟨cl147, Ar147, hin147, hat147⟩ := VA.at (j := (((0 : Int32) + (1 : Int32)) + (1 : Int32))) (k := 2) (by decide) rfl (by decide)
  have R148 : ∀ tg, Steps p.tables e below (s₁.setTop (mkF m 35 #[.val (.long (own_fb (own_fb q1 (g 0)) (g 1))), .second, .val (.ref a2), .val (.ref a2), .val (.int (6 : Int32)), .val (.int (((0 : Int32) + (1 : Int32)) + (1 : Int32))), .val (.int (g 2))] [(.long (((own_fb (own_fb q1 (g 0)) (g 1)) ^^^ (((g 2) &&& (255 : Int32)).toInt64)) * (1099511628211 : Int64)))])) tg → Steps p.tables e below (s₁.setTop (mkF m 0 #[.val (.long q1), .second, .val (.ref a2), .unset, .unset, .unset, .unset] [])) tg := by
    intro tg kt
    refine R146 _ ?_
    show Steps p.tables e below (s₁.setTop (mkF m 19 #[.val (.long (own_fb (own_fb q1 (g 0)) (g 1))), .second, .val (.ref a2), .val (.ref a2), .val (.int (6 : Int32)), .val (.int (((0 : Int32) + (1 : Int32)) + (1 : Int32))), .val (.int (g 1))] [(.int (((0 : Int32) + (1 : Int32)) + (1 : Int32))), (.ref a2)])) _
    refine X0.baloadBytes hx (j := (((0 : Int32) + (1 : Int32)) + (1 : Int32))) (v := (.int (g 2))) (by rw [e0]; exact Ar147.1) (State.isArrayOf_alike hZ.alike Ar147.2.1) Ar147.2.2 hin147 hat147 (g := (mkF m 19 #[.val (.long (own_fb (own_fb q1 (g 0)) (g 1))), .second, .val (.ref a2), .val (.ref a2), .val (.int (6 : Int32)), .val (.int (((0 : Int32) + (1 : Int32)) + (1 : Int32))), .val (.int (g 1))] [(.int (((0 : Int32) + (1 : Int32)) + (1 : Int32))), (.ref a2)])) rfl rfl (hb hby d14_19) _ ?_
    show Steps p.tables e below (s₁.setTop (mkF m 20 #[.val (.long (own_fb (own_fb q1 (g 0)) (g 1))), .second, .val (.ref a2), .val (.ref a2), .val (.int (6 : Int32)), .val (.int (((0 : Int32) + (1 : Int32)) + (1 : Int32))), .val (.int (g 1))] [(.int (g 2))])) _
    refine XS.istore X0.here hx rfl (hb hby d14_20) rfl (l' := #[.val (.long (own_fb (own_fb q1 (g 0)) (g 1))), .second, .val (.ref a2), .val (.ref a2), .val (.int (6 : Int32)), .val (.int (((0 : Int32) + (1 : Int32)) + (1 : Int32))), .val (.int (g 2))]) rfl ?_
    refine XS.lloadN X0.here hx rfl (hb hby d14_22) rfl ?_
    refine XS.iload X0.here hx rfl (hb hby d14_23) rfl ?_
    show Steps p.tables e below (s₁.setTop (mkF m 25 #[.val (.long (own_fb (own_fb q1 (g 0)) (g 1))), .second, .val (.ref a2), .val (.ref a2), .val (.int (6 : Int32)), .val (.int (((0 : Int32) + (1 : Int32)) + (1 : Int32))), .val (.int (g 2))] [(.int (g 2)), (.long (own_fb (own_fb q1 (g 0)) (g 1)))])) _
    refine XS.sipush X0.here hx rfl (hb hby d14_25) ?_
    show Steps p.tables e below (s₁.setTop (mkF m 28 #[.val (.long (own_fb (own_fb q1 (g 0)) (g 1))), .second, .val (.ref a2), .val (.ref a2), .val (.int (6 : Int32)), .val (.int (((0 : Int32) + (1 : Int32)) + (1 : Int32))), .val (.int (g 2))] [(.int (255 : Int32)), (.int (g 2)), (.long (own_fb (own_fb q1 (g 0)) (g 1)))])) _
    refine XS.iand X0.here hx rfl (hb hby d14_28) rfl ?_
    show Steps p.tables e below (s₁.setTop (mkF m 29 #[.val (.long (own_fb (own_fb q1 (g 0)) (g 1))), .second, .val (.ref a2), .val (.ref a2), .val (.int (6 : Int32)), .val (.int (((0 : Int32) + (1 : Int32)) + (1 : Int32))), .val (.int (g 2))] [(.int ((g 2) &&& (255 : Int32))), (.long (own_fb (own_fb q1 (g 0)) (g 1)))])) _
    refine XS.i2l X0.here hx rfl (hb hby d14_29) rfl ?_
    show Steps p.tables e below (s₁.setTop (mkF m 30 #[.val (.long (own_fb (own_fb q1 (g 0)) (g 1))), .second, .val (.ref a2), .val (.ref a2), .val (.int (6 : Int32)), .val (.int (((0 : Int32) + (1 : Int32)) + (1 : Int32))), .val (.int (g 2))] [(.long (((g 2) &&& (255 : Int32)).toInt64)), (.long (own_fb (own_fb q1 (g 0)) (g 1)))])) _
    refine XS.lxor X0.here hx rfl (hb hby d14_30) rfl ?_
    show Steps p.tables e below (s₁.setTop (mkF m 31 #[.val (.long (own_fb (own_fb q1 (g 0)) (g 1))), .second, .val (.ref a2), .val (.ref a2), .val (.int (6 : Int32)), .val (.int (((0 : Int32) + (1 : Int32)) + (1 : Int32))), .val (.int (g 2))] [(.long ((own_fb (own_fb q1 (g 0)) (g 1)) ^^^ (((g 2) &&& (255 : Int32)).toInt64)))])) _
    refine X0.ldc2Long hx hown (mvT hZ (hw _ (List.mem_of_getElem? (i := 75) rfl))) (g := (mkF m 31 #[.val (.long (own_fb (own_fb q1 (g 0)) (g 1))), .second, .val (.ref a2), .val (.ref a2), .val (.int (6 : Int32)), .val (.int (((0 : Int32) + (1 : Int32)) + (1 : Int32))), .val (.int (g 2))] [(.long ((own_fb (own_fb q1 (g 0)) (g 1)) ^^^ (((g 2) &&& (255 : Int32)).toInt64)))])) rfl (hb hby d14_31) _ ?_
    show Steps p.tables e below (s₁.setTop (mkF m 34 #[.val (.long (own_fb (own_fb q1 (g 0)) (g 1))), .second, .val (.ref a2), .val (.ref a2), .val (.int (6 : Int32)), .val (.int (((0 : Int32) + (1 : Int32)) + (1 : Int32))), .val (.int (g 2))] [(.long (1099511628211 : Int64)), (.long ((own_fb (own_fb q1 (g 0)) (g 1)) ^^^ (((g 2) &&& (255 : Int32)).toInt64)))])) _
    refine XS.lmul X0.here hx rfl (hb hby d14_34) rfl ?_
    exact kt
  clear R146
  have R149 : ∀ tg, Steps p.tables e below (s₁.setTop (mkF m 35 #[.val (.long (own_fb (own_fb q1 (g 0)) (g 1))), .second, .val (.ref a2), .val (.ref a2), .val (.int (6 : Int32)), .val (.int (((0 : Int32) + (1 : Int32)) + (1 : Int32))), .val (.int (g 2))] [(.long (own_fb (own_fb (own_fb q1 (g 0)) (g 1)) (g 2)))])) tg → Steps p.tables e below (s₁.setTop (mkF m 0 #[.val (.long q1), .second, .val (.ref a2), .unset, .unset, .unset, .unset] [])) tg := R148
  have R150 : ∀ tg, Steps p.tables e below (s₁.setTop (mkF m 19 #[.val (.long (own_fb (own_fb (own_fb q1 (g 0)) (g 1)) (g 2))), .second, .val (.ref a2), .val (.ref a2), .val (.int (6 : Int32)), .val (.int ((((0 : Int32) + (1 : Int32)) + (1 : Int32)) + (1 : Int32))), .val (.int (g 2))] [(.int ((((0 : Int32) + (1 : Int32)) + (1 : Int32)) + (1 : Int32))), (.ref a2)])) tg → Steps p.tables e below (s₁.setTop (mkF m 0 #[.val (.long q1), .second, .val (.ref a2), .unset, .unset, .unset, .unset] [])) tg := by
    intro tg kt
    refine R149 _ ?_
    show Steps p.tables e below (s₁.setTop (mkF m 35 #[.val (.long (own_fb (own_fb q1 (g 0)) (g 1))), .second, .val (.ref a2), .val (.ref a2), .val (.int (6 : Int32)), .val (.int (((0 : Int32) + (1 : Int32)) + (1 : Int32))), .val (.int (g 2))] [(.long (own_fb (own_fb (own_fb q1 (g 0)) (g 1)) (g 2)))])) _
    refine XS.lstoreN X0.here hx rfl (hb hby d14_35) rfl (l' := #[.val (.long (own_fb (own_fb (own_fb q1 (g 0)) (g 1)) (g 2))), .second, .val (.ref a2), .val (.ref a2), .val (.int (6 : Int32)), .val (.int (((0 : Int32) + (1 : Int32)) + (1 : Int32))), .val (.int (g 2))]) rfl ?_
    show Steps p.tables e below (s₁.setTop (mkF m 36 #[.val (.long (own_fb (own_fb (own_fb q1 (g 0)) (g 1)) (g 2))), .second, .val (.ref a2), .val (.ref a2), .val (.int (6 : Int32)), .val (.int (((0 : Int32) + (1 : Int32)) + (1 : Int32))), .val (.int (g 2))] [])) _
    refine XS.iinc X0.here hx rfl (hb hby d14_36) rfl (l' := #[.val (.long (own_fb (own_fb (own_fb q1 (g 0)) (g 1)) (g 2))), .second, .val (.ref a2), .val (.ref a2), .val (.int (6 : Int32)), .val (.int ((((0 : Int32) + (1 : Int32)) + (1 : Int32)) + (1 : Int32))), .val (.int (g 2))]) rfl ?_
    show Steps p.tables e below (s₁.setTop (mkF m 39 #[.val (.long (own_fb (own_fb (own_fb q1 (g 0)) (g 1)) (g 2))), .second, .val (.ref a2), .val (.ref a2), .val (.int (6 : Int32)), .val (.int ((((0 : Int32) + (1 : Int32)) + (1 : Int32)) + (1 : Int32))), .val (.int (g 2))] [])) _
    refine XS.goto X0.here hx rfl (pc0 := 39) (pc' := 9) rfl (hb hby d14_39) (by decide) (by decide) ?_
    refine XS.iload X0.here hx rfl (hb hby d14_9) rfl ?_
    refine XS.iload X0.here hx rfl (hb hby d14_11) rfl ?_
    show Steps p.tables e below (s₁.setTop (mkF m 13 #[.val (.long (own_fb (own_fb (own_fb q1 (g 0)) (g 1)) (g 2))), .second, .val (.ref a2), .val (.ref a2), .val (.int (6 : Int32)), .val (.int ((((0 : Int32) + (1 : Int32)) + (1 : Int32)) + (1 : Int32))), .val (.int (g 2))] [(.int (6 : Int32)), (.int ((((0 : Int32) + (1 : Int32)) + (1 : Int32)) + (1 : Int32)))])) _
    refine XS.icmpNo X0.here hx rfl (hb hby d14_13) rfl (tlt (by decide : ((((0 : Int32) + (1 : Int32)) + (1 : Int32)) + (1 : Int32)) < (6 : Int32))).2.1 ?_
    refine XS.aloadN X0.here hx rfl (hb hby d14_16) rfl rfl ?_
    refine XS.iload X0.here hx rfl (hb hby d14_17) rfl ?_
    exact kt
  clear R149
  obtain ⟨cl151, Ar151, hin151, hat151⟩ := VA.at (j := ((((0 : Int32) + (1 : Int32)) + (1 : Int32)) + (1 : Int32))) (k := 3) (by decide) rfl (by decide)
  have R152 : ∀ tg, Steps p.tables e below (s₁.setTop (mkF m 35 #[.val (.long (own_fb (own_fb (own_fb q1 (g 0)) (g 1)) (g 2))), .second, .val (.ref a2), .val (.ref a2), .val (.int (6 : Int32)), .val (.int ((((0 : Int32) + (1 : Int32)) + (1 : Int32)) + (1 : Int32))), .val (.int (g 3))] [(.long (((own_fb (own_fb (own_fb q1 (g 0)) (g 1)) (g 2)) ^^^ (((g 3) &&& (255 : Int32)).toInt64)) * (1099511628211 : Int64)))])) tg → Steps p.tables e below (s₁.setTop (mkF m 0 #[.val (.long q1), .second, .val (.ref a2), .unset, .unset, .unset, .unset] [])) tg := by
    intro tg kt
    refine R150 _ ?_
    show Steps p.tables e below (s₁.setTop (mkF m 19 #[.val (.long (own_fb (own_fb (own_fb q1 (g 0)) (g 1)) (g 2))), .second, .val (.ref a2), .val (.ref a2), .val (.int (6 : Int32)), .val (.int ((((0 : Int32) + (1 : Int32)) + (1 : Int32)) + (1 : Int32))), .val (.int (g 2))] [(.int ((((0 : Int32) + (1 : Int32)) + (1 : Int32)) + (1 : Int32))), (.ref a2)])) _
    refine X0.baloadBytes hx (j := ((((0 : Int32) + (1 : Int32)) + (1 : Int32)) + (1 : Int32))) (v := (.int (g 3))) (by rw [e0]; exact Ar151.1) (State.isArrayOf_alike hZ.alike Ar151.2.1) Ar151.2.2 hin151 hat151 (g := (mkF m 19 #[.val (.long (own_fb (own_fb (own_fb q1 (g 0)) (g 1)) (g 2))), .second, .val (.ref a2), .val (.ref a2), .val (.int (6 : Int32)), .val (.int ((((0 : Int32) + (1 : Int32)) + (1 : Int32)) + (1 : Int32))), .val (.int (g 2))] [(.int ((((0 : Int32) + (1 : Int32)) + (1 : Int32)) + (1 : Int32))), (.ref a2)])) rfl rfl (hb hby d14_19) _ ?_
    show Steps p.tables e below (s₁.setTop (mkF m 20 #[.val (.long (own_fb (own_fb (own_fb q1 (g 0)) (g 1)) (g 2))), .second, .val (.ref a2), .val (.ref a2), .val (.int (6 : Int32)), .val (.int ((((0 : Int32) + (1 : Int32)) + (1 : Int32)) + (1 : Int32))), .val (.int (g 2))] [(.int (g 3))])) _
    refine XS.istore X0.here hx rfl (hb hby d14_20) rfl (l' := #[.val (.long (own_fb (own_fb (own_fb q1 (g 0)) (g 1)) (g 2))), .second, .val (.ref a2), .val (.ref a2), .val (.int (6 : Int32)), .val (.int ((((0 : Int32) + (1 : Int32)) + (1 : Int32)) + (1 : Int32))), .val (.int (g 3))]) rfl ?_
    refine XS.lloadN X0.here hx rfl (hb hby d14_22) rfl ?_
    refine XS.iload X0.here hx rfl (hb hby d14_23) rfl ?_
    show Steps p.tables e below (s₁.setTop (mkF m 25 #[.val (.long (own_fb (own_fb (own_fb q1 (g 0)) (g 1)) (g 2))), .second, .val (.ref a2), .val (.ref a2), .val (.int (6 : Int32)), .val (.int ((((0 : Int32) + (1 : Int32)) + (1 : Int32)) + (1 : Int32))), .val (.int (g 3))] [(.int (g 3)), (.long (own_fb (own_fb (own_fb q1 (g 0)) (g 1)) (g 2)))])) _
    refine XS.sipush X0.here hx rfl (hb hby d14_25) ?_
    show Steps p.tables e below (s₁.setTop (mkF m 28 #[.val (.long (own_fb (own_fb (own_fb q1 (g 0)) (g 1)) (g 2))), .second, .val (.ref a2), .val (.ref a2), .val (.int (6 : Int32)), .val (.int ((((0 : Int32) + (1 : Int32)) + (1 : Int32)) + (1 : Int32))), .val (.int (g 3))] [(.int (255 : Int32)), (.int (g 3)), (.long (own_fb (own_fb (own_fb q1 (g 0)) (g 1)) (g 2)))])) _
    refine XS.iand X0.here hx rfl (hb hby d14_28) rfl ?_
    show Steps p.tables e below (s₁.setTop (mkF m 29 #[.val (.long (own_fb (own_fb (own_fb q1 (g 0)) (g 1)) (g 2))), .second, .val (.ref a2), .val (.ref a2), .val (.int (6 : Int32)), .val (.int ((((0 : Int32) + (1 : Int32)) + (1 : Int32)) + (1 : Int32))), .val (.int (g 3))] [(.int ((g 3) &&& (255 : Int32))), (.long (own_fb (own_fb (own_fb q1 (g 0)) (g 1)) (g 2)))])) _
    refine XS.i2l X0.here hx rfl (hb hby d14_29) rfl ?_
    show Steps p.tables e below (s₁.setTop (mkF m 30 #[.val (.long (own_fb (own_fb (own_fb q1 (g 0)) (g 1)) (g 2))), .second, .val (.ref a2), .val (.ref a2), .val (.int (6 : Int32)), .val (.int ((((0 : Int32) + (1 : Int32)) + (1 : Int32)) + (1 : Int32))), .val (.int (g 3))] [(.long (((g 3) &&& (255 : Int32)).toInt64)), (.long (own_fb (own_fb (own_fb q1 (g 0)) (g 1)) (g 2)))])) _
    refine XS.lxor X0.here hx rfl (hb hby d14_30) rfl ?_
    show Steps p.tables e below (s₁.setTop (mkF m 31 #[.val (.long (own_fb (own_fb (own_fb q1 (g 0)) (g 1)) (g 2))), .second, .val (.ref a2), .val (.ref a2), .val (.int (6 : Int32)), .val (.int ((((0 : Int32) + (1 : Int32)) + (1 : Int32)) + (1 : Int32))), .val (.int (g 3))] [(.long ((own_fb (own_fb (own_fb q1 (g 0)) (g 1)) (g 2)) ^^^ (((g 3) &&& (255 : Int32)).toInt64)))])) _
    refine X0.ldc2Long hx hown (mvT hZ (hw _ (List.mem_of_getElem? (i := 75) rfl))) (g := (mkF m 31 #[.val (.long (own_fb (own_fb (own_fb q1 (g 0)) (g 1)) (g 2))), .second, .val (.ref a2), .val (.ref a2), .val (.int (6 : Int32)), .val (.int ((((0 : Int32) + (1 : Int32)) + (1 : Int32)) + (1 : Int32))), .val (.int (g 3))] [(.long ((own_fb (own_fb (own_fb q1 (g 0)) (g 1)) (g 2)) ^^^ (((g 3) &&& (255 : Int32)).toInt64)))])) rfl (hb hby d14_31) _ ?_
    show Steps p.tables e below (s₁.setTop (mkF m 34 #[.val (.long (own_fb (own_fb (own_fb q1 (g 0)) (g 1)) (g 2))), .second, .val (.ref a2), .val (.ref a2), .val (.int (6 : Int32)), .val (.int ((((0 : Int32) + (1 : Int32)) + (1 : Int32)) + (1 : Int32))), .val (.int (g 3))] [(.long (1099511628211 : Int64)), (.long ((own_fb (own_fb (own_fb q1 (g 0)) (g 1)) (g 2)) ^^^ (((g 3) &&& (255 : Int32)).toInt64)))])) _
    refine XS.lmul X0.here hx rfl (hb hby d14_34) rfl ?_
    exact kt
  clear R150
  have R153 : ∀ tg, Steps p.tables e below (s₁.setTop (mkF m 35 #[.val (.long (own_fb (own_fb (own_fb q1 (g 0)) (g 1)) (g 2))), .second, .val (.ref a2), .val (.ref a2), .val (.int (6 : Int32)), .val (.int ((((0 : Int32) + (1 : Int32)) + (1 : Int32)) + (1 : Int32))), .val (.int (g 3))] [(.long (own_fb (own_fb (own_fb (own_fb q1 (g 0)) (g 1)) (g 2)) (g 3)))])) tg → Steps p.tables e below (s₁.setTop (mkF m 0 #[.val (.long q1), .second, .val (.ref a2), .unset, .unset, .unset, .unset] [])) tg := R152
  have R154 : ∀ tg, Steps p.tables e below (s₁.setTop (mkF m 19 #[.val (.long (own_fb (own_fb (own_fb (own_fb q1 (g 0)) (g 1)) (g 2)) (g 3))), .second, .val (.ref a2), .val (.ref a2), .val (.int (6 : Int32)), .val (.int (((((0 : Int32) + (1 : Int32)) + (1 : Int32)) + (1 : Int32)) + (1 : Int32))), .val (.int (g 3))] [(.int (((((0 : Int32) + (1 : Int32)) + (1 : Int32)) + (1 : Int32)) + (1 : Int32))), (.ref a2)])) tg → Steps p.tables e below (s₁.setTop (mkF m 0 #[.val (.long q1), .second, .val (.ref a2), .unset, .unset, .unset, .unset] [])) tg := by
    intro tg kt
    refine R153 _ ?_
    show Steps p.tables e below (s₁.setTop (mkF m 35 #[.val (.long (own_fb (own_fb (own_fb q1 (g 0)) (g 1)) (g 2))), .second, .val (.ref a2), .val (.ref a2), .val (.int (6 : Int32)), .val (.int ((((0 : Int32) + (1 : Int32)) + (1 : Int32)) + (1 : Int32))), .val (.int (g 3))] [(.long (own_fb (own_fb (own_fb (own_fb q1 (g 0)) (g 1)) (g 2)) (g 3)))])) _
    refine XS.lstoreN X0.here hx rfl (hb hby d14_35) rfl (l' := #[.val (.long (own_fb (own_fb (own_fb (own_fb q1 (g 0)) (g 1)) (g 2)) (g 3))), .second, .val (.ref a2), .val (.ref a2), .val (.int (6 : Int32)), .val (.int ((((0 : Int32) + (1 : Int32)) + (1 : Int32)) + (1 : Int32))), .val (.int (g 3))]) rfl ?_
    show Steps p.tables e below (s₁.setTop (mkF m 36 #[.val (.long (own_fb (own_fb (own_fb (own_fb q1 (g 0)) (g 1)) (g 2)) (g 3))), .second, .val (.ref a2), .val (.ref a2), .val (.int (6 : Int32)), .val (.int ((((0 : Int32) + (1 : Int32)) + (1 : Int32)) + (1 : Int32))), .val (.int (g 3))] [])) _
    refine XS.iinc X0.here hx rfl (hb hby d14_36) rfl (l' := #[.val (.long (own_fb (own_fb (own_fb (own_fb q1 (g 0)) (g 1)) (g 2)) (g 3))), .second, .val (.ref a2), .val (.ref a2), .val (.int (6 : Int32)), .val (.int (((((0 : Int32) + (1 : Int32)) + (1 : Int32)) + (1 : Int32)) + (1 : Int32))), .val (.int (g 3))]) rfl ?_
    show Steps p.tables e below (s₁.setTop (mkF m 39 #[.val (.long (own_fb (own_fb (own_fb (own_fb q1 (g 0)) (g 1)) (g 2)) (g 3))), .second, .val (.ref a2), .val (.ref a2), .val (.int (6 : Int32)), .val (.int (((((0 : Int32) + (1 : Int32)) + (1 : Int32)) + (1 : Int32)) + (1 : Int32))), .val (.int (g 3))] [])) _
    refine XS.goto X0.here hx rfl (pc0 := 39) (pc' := 9) rfl (hb hby d14_39) (by decide) (by decide) ?_
    refine XS.iload X0.here hx rfl (hb hby d14_9) rfl ?_
    refine XS.iload X0.here hx rfl (hb hby d14_11) rfl ?_
    show Steps p.tables e below (s₁.setTop (mkF m 13 #[.val (.long (own_fb (own_fb (own_fb (own_fb q1 (g 0)) (g 1)) (g 2)) (g 3))), .second, .val (.ref a2), .val (.ref a2), .val (.int (6 : Int32)), .val (.int (((((0 : Int32) + (1 : Int32)) + (1 : Int32)) + (1 : Int32)) + (1 : Int32))), .val (.int (g 3))] [(.int (6 : Int32)), (.int (((((0 : Int32) + (1 : Int32)) + (1 : Int32)) + (1 : Int32)) + (1 : Int32)))])) _
    refine XS.icmpNo X0.here hx rfl (hb hby d14_13) rfl (tlt (by decide : (((((0 : Int32) + (1 : Int32)) + (1 : Int32)) + (1 : Int32)) + (1 : Int32)) < (6 : Int32))).2.1 ?_
    refine XS.aloadN X0.here hx rfl (hb hby d14_16) rfl rfl ?_
    refine XS.iload X0.here hx rfl (hb hby d14_17) rfl ?_
    exact kt
  clear R153
  obtain ⟨cl155, Ar155, hin155, hat155⟩ := VA.at (j := (((((0 : Int32) + (1 : Int32)) + (1 : Int32)) + (1 : Int32)) + (1 : Int32))) (k := 4) (by decide) rfl (by decide)
  have R156 : ∀ tg, Steps p.tables e below (s₁.setTop (mkF m 35 #[.val (.long (own_fb (own_fb (own_fb (own_fb q1 (g 0)) (g 1)) (g 2)) (g 3))), .second, .val (.ref a2), .val (.ref a2), .val (.int (6 : Int32)), .val (.int (((((0 : Int32) + (1 : Int32)) + (1 : Int32)) + (1 : Int32)) + (1 : Int32))), .val (.int (g 4))] [(.long (((own_fb (own_fb (own_fb (own_fb q1 (g 0)) (g 1)) (g 2)) (g 3)) ^^^ (((g 4) &&& (255 : Int32)).toInt64)) * (1099511628211 : Int64)))])) tg → Steps p.tables e below (s₁.setTop (mkF m 0 #[.val (.long q1), .second, .val (.ref a2), .unset, .unset, .unset, .unset] [])) tg := by
    intro tg kt
    refine R154 _ ?_
    show Steps p.tables e below (s₁.setTop (mkF m 19 #[.val (.long (own_fb (own_fb (own_fb (own_fb q1 (g 0)) (g 1)) (g 2)) (g 3))), .second, .val (.ref a2), .val (.ref a2), .val (.int (6 : Int32)), .val (.int (((((0 : Int32) + (1 : Int32)) + (1 : Int32)) + (1 : Int32)) + (1 : Int32))), .val (.int (g 3))] [(.int (((((0 : Int32) + (1 : Int32)) + (1 : Int32)) + (1 : Int32)) + (1 : Int32))), (.ref a2)])) _
    refine X0.baloadBytes hx (j := (((((0 : Int32) + (1 : Int32)) + (1 : Int32)) + (1 : Int32)) + (1 : Int32))) (v := (.int (g 4))) (by rw [e0]; exact Ar155.1) (State.isArrayOf_alike hZ.alike Ar155.2.1) Ar155.2.2 hin155 hat155 (g := (mkF m 19 #[.val (.long (own_fb (own_fb (own_fb (own_fb q1 (g 0)) (g 1)) (g 2)) (g 3))), .second, .val (.ref a2), .val (.ref a2), .val (.int (6 : Int32)), .val (.int (((((0 : Int32) + (1 : Int32)) + (1 : Int32)) + (1 : Int32)) + (1 : Int32))), .val (.int (g 3))] [(.int (((((0 : Int32) + (1 : Int32)) + (1 : Int32)) + (1 : Int32)) + (1 : Int32))), (.ref a2)])) rfl rfl (hb hby d14_19) _ ?_
    show Steps p.tables e below (s₁.setTop (mkF m 20 #[.val (.long (own_fb (own_fb (own_fb (own_fb q1 (g 0)) (g 1)) (g 2)) (g 3))), .second, .val (.ref a2), .val (.ref a2), .val (.int (6 : Int32)), .val (.int (((((0 : Int32) + (1 : Int32)) + (1 : Int32)) + (1 : Int32)) + (1 : Int32))), .val (.int (g 3))] [(.int (g 4))])) _
    refine XS.istore X0.here hx rfl (hb hby d14_20) rfl (l' := #[.val (.long (own_fb (own_fb (own_fb (own_fb q1 (g 0)) (g 1)) (g 2)) (g 3))), .second, .val (.ref a2), .val (.ref a2), .val (.int (6 : Int32)), .val (.int (((((0 : Int32) + (1 : Int32)) + (1 : Int32)) + (1 : Int32)) + (1 : Int32))), .val (.int (g 4))]) rfl ?_
    refine XS.lloadN X0.here hx rfl (hb hby d14_22) rfl ?_
    refine XS.iload X0.here hx rfl (hb hby d14_23) rfl ?_
    show Steps p.tables e below (s₁.setTop (mkF m 25 #[.val (.long (own_fb (own_fb (own_fb (own_fb q1 (g 0)) (g 1)) (g 2)) (g 3))), .second, .val (.ref a2), .val (.ref a2), .val (.int (6 : Int32)), .val (.int (((((0 : Int32) + (1 : Int32)) + (1 : Int32)) + (1 : Int32)) + (1 : Int32))), .val (.int (g 4))] [(.int (g 4)), (.long (own_fb (own_fb (own_fb (own_fb q1 (g 0)) (g 1)) (g 2)) (g 3)))])) _
    refine XS.sipush X0.here hx rfl (hb hby d14_25) ?_
    show Steps p.tables e below (s₁.setTop (mkF m 28 #[.val (.long (own_fb (own_fb (own_fb (own_fb q1 (g 0)) (g 1)) (g 2)) (g 3))), .second, .val (.ref a2), .val (.ref a2), .val (.int (6 : Int32)), .val (.int (((((0 : Int32) + (1 : Int32)) + (1 : Int32)) + (1 : Int32)) + (1 : Int32))), .val (.int (g 4))] [(.int (255 : Int32)), (.int (g 4)), (.long (own_fb (own_fb (own_fb (own_fb q1 (g 0)) (g 1)) (g 2)) (g 3)))])) _
    refine XS.iand X0.here hx rfl (hb hby d14_28) rfl ?_
    show Steps p.tables e below (s₁.setTop (mkF m 29 #[.val (.long (own_fb (own_fb (own_fb (own_fb q1 (g 0)) (g 1)) (g 2)) (g 3))), .second, .val (.ref a2), .val (.ref a2), .val (.int (6 : Int32)), .val (.int (((((0 : Int32) + (1 : Int32)) + (1 : Int32)) + (1 : Int32)) + (1 : Int32))), .val (.int (g 4))] [(.int ((g 4) &&& (255 : Int32))), (.long (own_fb (own_fb (own_fb (own_fb q1 (g 0)) (g 1)) (g 2)) (g 3)))])) _
    refine XS.i2l X0.here hx rfl (hb hby d14_29) rfl ?_
    show Steps p.tables e below (s₁.setTop (mkF m 30 #[.val (.long (own_fb (own_fb (own_fb (own_fb q1 (g 0)) (g 1)) (g 2)) (g 3))), .second, .val (.ref a2), .val (.ref a2), .val (.int (6 : Int32)), .val (.int (((((0 : Int32) + (1 : Int32)) + (1 : Int32)) + (1 : Int32)) + (1 : Int32))), .val (.int (g 4))] [(.long (((g 4) &&& (255 : Int32)).toInt64)), (.long (own_fb (own_fb (own_fb (own_fb q1 (g 0)) (g 1)) (g 2)) (g 3)))])) _
    refine XS.lxor X0.here hx rfl (hb hby d14_30) rfl ?_
    show Steps p.tables e below (s₁.setTop (mkF m 31 #[.val (.long (own_fb (own_fb (own_fb (own_fb q1 (g 0)) (g 1)) (g 2)) (g 3))), .second, .val (.ref a2), .val (.ref a2), .val (.int (6 : Int32)), .val (.int (((((0 : Int32) + (1 : Int32)) + (1 : Int32)) + (1 : Int32)) + (1 : Int32))), .val (.int (g 4))] [(.long ((own_fb (own_fb (own_fb (own_fb q1 (g 0)) (g 1)) (g 2)) (g 3)) ^^^ (((g 4) &&& (255 : Int32)).toInt64)))])) _
    refine X0.ldc2Long hx hown (mvT hZ (hw _ (List.mem_of_getElem? (i := 75) rfl))) (g := (mkF m 31 #[.val (.long (own_fb (own_fb (own_fb (own_fb q1 (g 0)) (g 1)) (g 2)) (g 3))), .second, .val (.ref a2), .val (.ref a2), .val (.int (6 : Int32)), .val (.int (((((0 : Int32) + (1 : Int32)) + (1 : Int32)) + (1 : Int32)) + (1 : Int32))), .val (.int (g 4))] [(.long ((own_fb (own_fb (own_fb (own_fb q1 (g 0)) (g 1)) (g 2)) (g 3)) ^^^ (((g 4) &&& (255 : Int32)).toInt64)))])) rfl (hb hby d14_31) _ ?_
    show Steps p.tables e below (s₁.setTop (mkF m 34 #[.val (.long (own_fb (own_fb (own_fb (own_fb q1 (g 0)) (g 1)) (g 2)) (g 3))), .second, .val (.ref a2), .val (.ref a2), .val (.int (6 : Int32)), .val (.int (((((0 : Int32) + (1 : Int32)) + (1 : Int32)) + (1 : Int32)) + (1 : Int32))), .val (.int (g 4))] [(.long (1099511628211 : Int64)), (.long ((own_fb (own_fb (own_fb (own_fb q1 (g 0)) (g 1)) (g 2)) (g 3)) ^^^ (((g 4) &&& (255 : Int32)).toInt64)))])) _
    refine XS.lmul X0.here hx rfl (hb hby d14_34) rfl ?_
    exact kt
  clear R154
  have R157 : ∀ tg, Steps p.tables e below (s₁.setTop (mkF m 35 #[.val (.long (own_fb (own_fb (own_fb (own_fb q1 (g 0)) (g 1)) (g 2)) (g 3))), .second, .val (.ref a2), .val (.ref a2), .val (.int (6 : Int32)), .val (.int (((((0 : Int32) + (1 : Int32)) + (1 : Int32)) + (1 : Int32)) + (1 : Int32))), .val (.int (g 4))] [(.long (own_fb (own_fb (own_fb (own_fb (own_fb q1 (g 0)) (g 1)) (g 2)) (g 3)) (g 4)))])) tg → Steps p.tables e below (s₁.setTop (mkF m 0 #[.val (.long q1), .second, .val (.ref a2), .unset, .unset, .unset, .unset] [])) tg := R156
  have R158 : ∀ tg, Steps p.tables e below (s₁.setTop (mkF m 19 #[.val (.long (own_fb (own_fb (own_fb (own_fb (own_fb q1 (g 0)) (g 1)) (g 2)) (g 3)) (g 4))), .second, .val (.ref a2), .val (.ref a2), .val (.int (6 : Int32)), .val (.int ((((((0 : Int32) + (1 : Int32)) + (1 : Int32)) + (1 : Int32)) + (1 : Int32)) + (1 : Int32))), .val (.int (g 4))] [(.int ((((((0 : Int32) + (1 : Int32)) + (1 : Int32)) + (1 : Int32)) + (1 : Int32)) + (1 : Int32))), (.ref a2)])) tg → Steps p.tables e below (s₁.setTop (mkF m 0 #[.val (.long q1), .second, .val (.ref a2), .unset, .unset, .unset, .unset] [])) tg := by
    intro tg kt
    refine R157 _ ?_
    show Steps p.tables e below (s₁.setTop (mkF m 35 #[.val (.long (own_fb (own_fb (own_fb (own_fb q1 (g 0)) (g 1)) (g 2)) (g 3))), .second, .val (.ref a2), .val (.ref a2), .val (.int (6 : Int32)), .val (.int (((((0 : Int32) + (1 : Int32)) + (1 : Int32)) + (1 : Int32)) + (1 : Int32))), .val (.int (g 4))] [(.long (own_fb (own_fb (own_fb (own_fb (own_fb q1 (g 0)) (g 1)) (g 2)) (g 3)) (g 4)))])) _
    refine XS.lstoreN X0.here hx rfl (hb hby d14_35) rfl (l' := #[.val (.long (own_fb (own_fb (own_fb (own_fb (own_fb q1 (g 0)) (g 1)) (g 2)) (g 3)) (g 4))), .second, .val (.ref a2), .val (.ref a2), .val (.int (6 : Int32)), .val (.int (((((0 : Int32) + (1 : Int32)) + (1 : Int32)) + (1 : Int32)) + (1 : Int32))), .val (.int (g 4))]) rfl ?_
    show Steps p.tables e below (s₁.setTop (mkF m 36 #[.val (.long (own_fb (own_fb (own_fb (own_fb (own_fb q1 (g 0)) (g 1)) (g 2)) (g 3)) (g 4))), .second, .val (.ref a2), .val (.ref a2), .val (.int (6 : Int32)), .val (.int (((((0 : Int32) + (1 : Int32)) + (1 : Int32)) + (1 : Int32)) + (1 : Int32))), .val (.int (g 4))] [])) _
    refine XS.iinc X0.here hx rfl (hb hby d14_36) rfl (l' := #[.val (.long (own_fb (own_fb (own_fb (own_fb (own_fb q1 (g 0)) (g 1)) (g 2)) (g 3)) (g 4))), .second, .val (.ref a2), .val (.ref a2), .val (.int (6 : Int32)), .val (.int ((((((0 : Int32) + (1 : Int32)) + (1 : Int32)) + (1 : Int32)) + (1 : Int32)) + (1 : Int32))), .val (.int (g 4))]) rfl ?_
    show Steps p.tables e below (s₁.setTop (mkF m 39 #[.val (.long (own_fb (own_fb (own_fb (own_fb (own_fb q1 (g 0)) (g 1)) (g 2)) (g 3)) (g 4))), .second, .val (.ref a2), .val (.ref a2), .val (.int (6 : Int32)), .val (.int ((((((0 : Int32) + (1 : Int32)) + (1 : Int32)) + (1 : Int32)) + (1 : Int32)) + (1 : Int32))), .val (.int (g 4))] [])) _
    refine XS.goto X0.here hx rfl (pc0 := 39) (pc' := 9) rfl (hb hby d14_39) (by decide) (by decide) ?_
    refine XS.iload X0.here hx rfl (hb hby d14_9) rfl ?_
    refine XS.iload X0.here hx rfl (hb hby d14_11) rfl ?_
    show Steps p.tables e below (s₁.setTop (mkF m 13 #[.val (.long (own_fb (own_fb (own_fb (own_fb (own_fb q1 (g 0)) (g 1)) (g 2)) (g 3)) (g 4))), .second, .val (.ref a2), .val (.ref a2), .val (.int (6 : Int32)), .val (.int ((((((0 : Int32) + (1 : Int32)) + (1 : Int32)) + (1 : Int32)) + (1 : Int32)) + (1 : Int32))), .val (.int (g 4))] [(.int (6 : Int32)), (.int ((((((0 : Int32) + (1 : Int32)) + (1 : Int32)) + (1 : Int32)) + (1 : Int32)) + (1 : Int32)))])) _
    refine XS.icmpNo X0.here hx rfl (hb hby d14_13) rfl (tlt (by decide : ((((((0 : Int32) + (1 : Int32)) + (1 : Int32)) + (1 : Int32)) + (1 : Int32)) + (1 : Int32)) < (6 : Int32))).2.1 ?_
    refine XS.aloadN X0.here hx rfl (hb hby d14_16) rfl rfl ?_
    refine XS.iload X0.here hx rfl (hb hby d14_17) rfl ?_
    exact kt
  clear R157
  obtain ⟨cl159, Ar159, hin159, hat159⟩ := VA.at (j := ((((((0 : Int32) + (1 : Int32)) + (1 : Int32)) + (1 : Int32)) + (1 : Int32)) + (1 : Int32))) (k := 5) (by decide) rfl (by decide)
  have R160 : ∀ tg, Steps p.tables e below (s₁.setTop (mkF m 35 #[.val (.long (own_fb (own_fb (own_fb (own_fb (own_fb q1 (g 0)) (g 1)) (g 2)) (g 3)) (g 4))), .second, .val (.ref a2), .val (.ref a2), .val (.int (6 : Int32)), .val (.int ((((((0 : Int32) + (1 : Int32)) + (1 : Int32)) + (1 : Int32)) + (1 : Int32)) + (1 : Int32))), .val (.int (g 5))] [(.long (((own_fb (own_fb (own_fb (own_fb (own_fb q1 (g 0)) (g 1)) (g 2)) (g 3)) (g 4)) ^^^ (((g 5) &&& (255 : Int32)).toInt64)) * (1099511628211 : Int64)))])) tg → Steps p.tables e below (s₁.setTop (mkF m 0 #[.val (.long q1), .second, .val (.ref a2), .unset, .unset, .unset, .unset] [])) tg := by
    intro tg kt
    refine R158 _ ?_
    show Steps p.tables e below (s₁.setTop (mkF m 19 #[.val (.long (own_fb (own_fb (own_fb (own_fb (own_fb q1 (g 0)) (g 1)) (g 2)) (g 3)) (g 4))), .second, .val (.ref a2), .val (.ref a2), .val (.int (6 : Int32)), .val (.int ((((((0 : Int32) + (1 : Int32)) + (1 : Int32)) + (1 : Int32)) + (1 : Int32)) + (1 : Int32))), .val (.int (g 4))] [(.int ((((((0 : Int32) + (1 : Int32)) + (1 : Int32)) + (1 : Int32)) + (1 : Int32)) + (1 : Int32))), (.ref a2)])) _
    refine X0.baloadBytes hx (j := ((((((0 : Int32) + (1 : Int32)) + (1 : Int32)) + (1 : Int32)) + (1 : Int32)) + (1 : Int32))) (v := (.int (g 5))) (by rw [e0]; exact Ar159.1) (State.isArrayOf_alike hZ.alike Ar159.2.1) Ar159.2.2 hin159 hat159 (g := (mkF m 19 #[.val (.long (own_fb (own_fb (own_fb (own_fb (own_fb q1 (g 0)) (g 1)) (g 2)) (g 3)) (g 4))), .second, .val (.ref a2), .val (.ref a2), .val (.int (6 : Int32)), .val (.int ((((((0 : Int32) + (1 : Int32)) + (1 : Int32)) + (1 : Int32)) + (1 : Int32)) + (1 : Int32))), .val (.int (g 4))] [(.int ((((((0 : Int32) + (1 : Int32)) + (1 : Int32)) + (1 : Int32)) + (1 : Int32)) + (1 : Int32))), (.ref a2)])) rfl rfl (hb hby d14_19) _ ?_
    show Steps p.tables e below (s₁.setTop (mkF m 20 #[.val (.long (own_fb (own_fb (own_fb (own_fb (own_fb q1 (g 0)) (g 1)) (g 2)) (g 3)) (g 4))), .second, .val (.ref a2), .val (.ref a2), .val (.int (6 : Int32)), .val (.int ((((((0 : Int32) + (1 : Int32)) + (1 : Int32)) + (1 : Int32)) + (1 : Int32)) + (1 : Int32))), .val (.int (g 4))] [(.int (g 5))])) _
    refine XS.istore X0.here hx rfl (hb hby d14_20) rfl (l' := #[.val (.long (own_fb (own_fb (own_fb (own_fb (own_fb q1 (g 0)) (g 1)) (g 2)) (g 3)) (g 4))), .second, .val (.ref a2), .val (.ref a2), .val (.int (6 : Int32)), .val (.int ((((((0 : Int32) + (1 : Int32)) + (1 : Int32)) + (1 : Int32)) + (1 : Int32)) + (1 : Int32))), .val (.int (g 5))]) rfl ?_
    refine XS.lloadN X0.here hx rfl (hb hby d14_22) rfl ?_
    refine XS.iload X0.here hx rfl (hb hby d14_23) rfl ?_
    show Steps p.tables e below (s₁.setTop (mkF m 25 #[.val (.long (own_fb (own_fb (own_fb (own_fb (own_fb q1 (g 0)) (g 1)) (g 2)) (g 3)) (g 4))), .second, .val (.ref a2), .val (.ref a2), .val (.int (6 : Int32)), .val (.int ((((((0 : Int32) + (1 : Int32)) + (1 : Int32)) + (1 : Int32)) + (1 : Int32)) + (1 : Int32))), .val (.int (g 5))] [(.int (g 5)), (.long (own_fb (own_fb (own_fb (own_fb (own_fb q1 (g 0)) (g 1)) (g 2)) (g 3)) (g 4)))])) _
    refine XS.sipush X0.here hx rfl (hb hby d14_25) ?_
    show Steps p.tables e below (s₁.setTop (mkF m 28 #[.val (.long (own_fb (own_fb (own_fb (own_fb (own_fb q1 (g 0)) (g 1)) (g 2)) (g 3)) (g 4))), .second, .val (.ref a2), .val (.ref a2), .val (.int (6 : Int32)), .val (.int ((((((0 : Int32) + (1 : Int32)) + (1 : Int32)) + (1 : Int32)) + (1 : Int32)) + (1 : Int32))), .val (.int (g 5))] [(.int (255 : Int32)), (.int (g 5)), (.long (own_fb (own_fb (own_fb (own_fb (own_fb q1 (g 0)) (g 1)) (g 2)) (g 3)) (g 4)))])) _
    refine XS.iand X0.here hx rfl (hb hby d14_28) rfl ?_
    show Steps p.tables e below (s₁.setTop (mkF m 29 #[.val (.long (own_fb (own_fb (own_fb (own_fb (own_fb q1 (g 0)) (g 1)) (g 2)) (g 3)) (g 4))), .second, .val (.ref a2), .val (.ref a2), .val (.int (6 : Int32)), .val (.int ((((((0 : Int32) + (1 : Int32)) + (1 : Int32)) + (1 : Int32)) + (1 : Int32)) + (1 : Int32))), .val (.int (g 5))] [(.int ((g 5) &&& (255 : Int32))), (.long (own_fb (own_fb (own_fb (own_fb (own_fb q1 (g 0)) (g 1)) (g 2)) (g 3)) (g 4)))])) _
    refine XS.i2l X0.here hx rfl (hb hby d14_29) rfl ?_
    show Steps p.tables e below (s₁.setTop (mkF m 30 #[.val (.long (own_fb (own_fb (own_fb (own_fb (own_fb q1 (g 0)) (g 1)) (g 2)) (g 3)) (g 4))), .second, .val (.ref a2), .val (.ref a2), .val (.int (6 : Int32)), .val (.int ((((((0 : Int32) + (1 : Int32)) + (1 : Int32)) + (1 : Int32)) + (1 : Int32)) + (1 : Int32))), .val (.int (g 5))] [(.long (((g 5) &&& (255 : Int32)).toInt64)), (.long (own_fb (own_fb (own_fb (own_fb (own_fb q1 (g 0)) (g 1)) (g 2)) (g 3)) (g 4)))])) _
    refine XS.lxor X0.here hx rfl (hb hby d14_30) rfl ?_
    show Steps p.tables e below (s₁.setTop (mkF m 31 #[.val (.long (own_fb (own_fb (own_fb (own_fb (own_fb q1 (g 0)) (g 1)) (g 2)) (g 3)) (g 4))), .second, .val (.ref a2), .val (.ref a2), .val (.int (6 : Int32)), .val (.int ((((((0 : Int32) + (1 : Int32)) + (1 : Int32)) + (1 : Int32)) + (1 : Int32)) + (1 : Int32))), .val (.int (g 5))] [(.long ((own_fb (own_fb (own_fb (own_fb (own_fb q1 (g 0)) (g 1)) (g 2)) (g 3)) (g 4)) ^^^ (((g 5) &&& (255 : Int32)).toInt64)))])) _
    refine X0.ldc2Long hx hown (mvT hZ (hw _ (List.mem_of_getElem? (i := 75) rfl))) (g := (mkF m 31 #[.val (.long (own_fb (own_fb (own_fb (own_fb (own_fb q1 (g 0)) (g 1)) (g 2)) (g 3)) (g 4))), .second, .val (.ref a2), .val (.ref a2), .val (.int (6 : Int32)), .val (.int ((((((0 : Int32) + (1 : Int32)) + (1 : Int32)) + (1 : Int32)) + (1 : Int32)) + (1 : Int32))), .val (.int (g 5))] [(.long ((own_fb (own_fb (own_fb (own_fb (own_fb q1 (g 0)) (g 1)) (g 2)) (g 3)) (g 4)) ^^^ (((g 5) &&& (255 : Int32)).toInt64)))])) rfl (hb hby d14_31) _ ?_
    show Steps p.tables e below (s₁.setTop (mkF m 34 #[.val (.long (own_fb (own_fb (own_fb (own_fb (own_fb q1 (g 0)) (g 1)) (g 2)) (g 3)) (g 4))), .second, .val (.ref a2), .val (.ref a2), .val (.int (6 : Int32)), .val (.int ((((((0 : Int32) + (1 : Int32)) + (1 : Int32)) + (1 : Int32)) + (1 : Int32)) + (1 : Int32))), .val (.int (g 5))] [(.long (1099511628211 : Int64)), (.long ((own_fb (own_fb (own_fb (own_fb (own_fb q1 (g 0)) (g 1)) (g 2)) (g 3)) (g 4)) ^^^ (((g 5) &&& (255 : Int32)).toInt64)))])) _
    refine XS.lmul X0.here hx rfl (hb hby d14_34) rfl ?_
    exact kt
  clear R158
  have R161 : ∀ tg, Steps p.tables e below (s₁.setTop (mkF m 35 #[.val (.long (own_fb (own_fb (own_fb (own_fb (own_fb q1 (g 0)) (g 1)) (g 2)) (g 3)) (g 4))), .second, .val (.ref a2), .val (.ref a2), .val (.int (6 : Int32)), .val (.int ((((((0 : Int32) + (1 : Int32)) + (1 : Int32)) + (1 : Int32)) + (1 : Int32)) + (1 : Int32))), .val (.int (g 5))] [(.long (own_fb (own_fb (own_fb (own_fb (own_fb (own_fb q1 (g 0)) (g 1)) (g 2)) (g 3)) (g 4)) (g 5)))])) tg → Steps p.tables e below (s₁.setTop (mkF m 0 #[.val (.long q1), .second, .val (.ref a2), .unset, .unset, .unset, .unset] [])) tg := R160
  have R162 : ∀ tg, Steps p.tables e below (s₁.setTop (mkF m 43 #[.val (.long (own_fb (own_fb (own_fb (own_fb (own_fb (own_fb q1 (g 0)) (g 1)) (g 2)) (g 3)) (g 4)) (g 5))), .second, .val (.ref a2), .val (.ref a2), .val (.int (6 : Int32)), .val (.int (((((((0 : Int32) + (1 : Int32)) + (1 : Int32)) + (1 : Int32)) + (1 : Int32)) + (1 : Int32)) + (1 : Int32))), .val (.int (g 5))] [(.long (own_fb (own_fb (own_fb (own_fb (own_fb (own_fb q1 (g 0)) (g 1)) (g 2)) (g 3)) (g 4)) (g 5)))])) tg → Steps p.tables e below (s₁.setTop (mkF m 0 #[.val (.long q1), .second, .val (.ref a2), .unset, .unset, .unset, .unset] [])) tg := by
    intro tg kt
    refine R161 _ ?_
    show Steps p.tables e below (s₁.setTop (mkF m 35 #[.val (.long (own_fb (own_fb (own_fb (own_fb (own_fb q1 (g 0)) (g 1)) (g 2)) (g 3)) (g 4))), .second, .val (.ref a2), .val (.ref a2), .val (.int (6 : Int32)), .val (.int ((((((0 : Int32) + (1 : Int32)) + (1 : Int32)) + (1 : Int32)) + (1 : Int32)) + (1 : Int32))), .val (.int (g 5))] [(.long (own_fb (own_fb (own_fb (own_fb (own_fb (own_fb q1 (g 0)) (g 1)) (g 2)) (g 3)) (g 4)) (g 5)))])) _
    refine XS.lstoreN X0.here hx rfl (hb hby d14_35) rfl (l' := #[.val (.long (own_fb (own_fb (own_fb (own_fb (own_fb (own_fb q1 (g 0)) (g 1)) (g 2)) (g 3)) (g 4)) (g 5))), .second, .val (.ref a2), .val (.ref a2), .val (.int (6 : Int32)), .val (.int ((((((0 : Int32) + (1 : Int32)) + (1 : Int32)) + (1 : Int32)) + (1 : Int32)) + (1 : Int32))), .val (.int (g 5))]) rfl ?_
    show Steps p.tables e below (s₁.setTop (mkF m 36 #[.val (.long (own_fb (own_fb (own_fb (own_fb (own_fb (own_fb q1 (g 0)) (g 1)) (g 2)) (g 3)) (g 4)) (g 5))), .second, .val (.ref a2), .val (.ref a2), .val (.int (6 : Int32)), .val (.int ((((((0 : Int32) + (1 : Int32)) + (1 : Int32)) + (1 : Int32)) + (1 : Int32)) + (1 : Int32))), .val (.int (g 5))] [])) _
    refine XS.iinc X0.here hx rfl (hb hby d14_36) rfl (l' := #[.val (.long (own_fb (own_fb (own_fb (own_fb (own_fb (own_fb q1 (g 0)) (g 1)) (g 2)) (g 3)) (g 4)) (g 5))), .second, .val (.ref a2), .val (.ref a2), .val (.int (6 : Int32)), .val (.int (((((((0 : Int32) + (1 : Int32)) + (1 : Int32)) + (1 : Int32)) + (1 : Int32)) + (1 : Int32)) + (1 : Int32))), .val (.int (g 5))]) rfl ?_
    show Steps p.tables e below (s₁.setTop (mkF m 39 #[.val (.long (own_fb (own_fb (own_fb (own_fb (own_fb (own_fb q1 (g 0)) (g 1)) (g 2)) (g 3)) (g 4)) (g 5))), .second, .val (.ref a2), .val (.ref a2), .val (.int (6 : Int32)), .val (.int (((((((0 : Int32) + (1 : Int32)) + (1 : Int32)) + (1 : Int32)) + (1 : Int32)) + (1 : Int32)) + (1 : Int32))), .val (.int (g 5))] [])) _
    refine XS.goto X0.here hx rfl (pc0 := 39) (pc' := 9) rfl (hb hby d14_39) (by decide) (by decide) ?_
    refine XS.iload X0.here hx rfl (hb hby d14_9) rfl ?_
    refine XS.iload X0.here hx rfl (hb hby d14_11) rfl ?_
    show Steps p.tables e below (s₁.setTop (mkF m 13 #[.val (.long (own_fb (own_fb (own_fb (own_fb (own_fb (own_fb q1 (g 0)) (g 1)) (g 2)) (g 3)) (g 4)) (g 5))), .second, .val (.ref a2), .val (.ref a2), .val (.int (6 : Int32)), .val (.int (((((((0 : Int32) + (1 : Int32)) + (1 : Int32)) + (1 : Int32)) + (1 : Int32)) + (1 : Int32)) + (1 : Int32))), .val (.int (g 5))] [(.int (6 : Int32)), (.int (((((((0 : Int32) + (1 : Int32)) + (1 : Int32)) + (1 : Int32)) + (1 : Int32)) + (1 : Int32)) + (1 : Int32)))])) _
    refine XS.icmpYes X0.here hx rfl (pc0 := 13) (pc' := 42) rfl (hb hby d14_13) rfl (flt (by decide : ¬ ((((((((0 : Int32) + (1 : Int32)) + (1 : Int32)) + (1 : Int32)) + (1 : Int32)) + (1 : Int32)) + (1 : Int32)) < (6 : Int32)))).2.1 (by decide) (by decide) ?_
    refine XS.lloadN X0.here hx rfl (hb hby d14_42) rfl ?_
    exact kt
  clear R161
  obtain ⟨fs, hr, hrun, hended, hW, hsame⟩ := X0.leave (v := some (.long (own_fb (own_fb (own_fb (own_fb (own_fb (own_fb q1 (g 0)) (g 1)) (g 2)) (g 3)) (g 4)) (g 5)))) (fun h => by rw [Bd.returns] at h; cases h)
  refine ⟨_, _, pre0 _ (R162 _ ?_), hrun, hended, _, _, rfl, ?_, ⟨_, rfl⟩, hW, hsame.mono (by decide) (by decide)⟩
  · exact X0.lreturnOut hx Bd.returns (hb hby d14_43) hr
  · show Q_rm_fn6 Z q1 a2 g h0 n0 _ s₁.heap _
    rw [e0]
    exact ⟨rfl, N0, rfl⟩
theorem d7_0 : decode prog_8_method_4_code 0 = .ok (.ldc2_w 24, 3) := by decide +kernel
theorem d7_3 : decode prog_8_method_4_code 3 = .ok (.lstore 4, 2) := by decide +kernel
theorem d7_5 : decode prog_8_method_4_code 5 = .ok (.lload 4, 2) := by decide +kernel
theorem d7_7 : decode prog_8_method_4_code 7 = .ok (.aload_n 2, 1) := by decide +kernel
theorem d7_8 : decode prog_8_method_4_code 8 = .ok (.getstatic 43, 3) := by decide +kernel
theorem pd_11 : parseMethodDescriptor "(Ljava/nio/charset/Charset;)[B" = some ⟨[(.object "java/nio/charset/Charset")], some (.array .byte)⟩ := by decide +kernel
theorem d7_11 : decode prog_8_method_4_code 11 = .ok (.invokevirtual 49, 3) := by decide +kernel
theorem pd_12 : parseMethodDescriptor "(J[B)J" = some ⟨[.long, (.array .byte)], some .long⟩ := by decide +kernel
theorem d7_14 : decode prog_8_method_4_code 14 = .ok (.invokestatic 30, 3) := by decide +kernel
theorem d7_17 : decode prog_8_method_4_code 17 = .ok (.lstore 4, 2) := by decide +kernel
theorem d7_19 : decode prog_8_method_4_code 19 = .ok (.lload 4, 2) := by decide +kernel
theorem d7_21 : decode prog_8_method_4_code 21 = .ok (.iconst 1, 1) := by decide +kernel
theorem d7_22 : decode prog_8_method_4_code 22 = .ok (.newarray .byte, 2) := by decide +kernel
theorem d7_24 : decode prog_8_method_4_code 24 = .ok (.dup, 1) := by decide +kernel
theorem d7_25 : decode prog_8_method_4_code 25 = .ok (.iconst 0, 1) := by decide +kernel
theorem d7_26 : decode prog_8_method_4_code 26 = .ok (.iconst 0, 1) := by decide +kernel
theorem d7_27 : decode prog_8_method_4_code 27 = .ok (.bastore, 1) := by decide +kernel
theorem d7_28 : decode prog_8_method_4_code 28 = .ok (.invokestatic 30, 3) := by decide +kernel
theorem d7_31 : decode prog_8_method_4_code 31 = .ok (.lstore 4, 2) := by decide +kernel
theorem d7_33 : decode prog_8_method_4_code 33 = .ok (.lload 4, 2) := by decide +kernel
theorem d7_35 : decode prog_8_method_4_code 35 = .ok (.aload_n 3, 1) := by decide +kernel
theorem d7_36 : decode prog_8_method_4_code 36 = .ok (.getstatic 43, 3) := by decide +kernel
theorem d7_39 : decode prog_8_method_4_code 39 = .ok (.invokevirtual 49, 3) := by decide +kernel
theorem d7_42 : decode prog_8_method_4_code 42 = .ok (.invokestatic 30, 3) := by decide +kernel
theorem d7_45 : decode prog_8_method_4_code 45 = .ok (.lstore 4, 2) := by decide +kernel
theorem d7_47 : decode prog_8_method_4_code 47 = .ok (.lload_n 0, 1) := by decide +kernel
theorem pd_13 : parseMethodDescriptor "(J)J" = some ⟨[.long], some .long⟩ := by decide +kernel
theorem d7_48 : decode prog_8_method_4_code 48 = .ok (.invokestatic 20, 3) := by decide +kernel
theorem d7_51 : decode prog_8_method_4_code 51 = .ok (.lload 4, 2) := by decide +kernel
theorem d7_53 : decode prog_8_method_4_code 53 = .ok (.lxor, 1) := by decide +kernel
theorem d7_54 : decode prog_8_method_4_code 54 = .ok (.invokestatic 20, 3) := by decide +kernel
theorem d7_57 : decode prog_8_method_4_code 57 = .ok (.lreturn, 1) := by decide +kernel
theorem ef_rm_key (m : MethodId) (q1 : Int64) (a2 : Addr) (a3 : Addr) : entryFrame m #[(.long q1), (.ref a2), (.ref a3)] 6 = mkF m 0 #[.val (.long q1), .second, .val (.ref a2), .val (.ref a3), .unset, .unset] [] := by first | (simp [entryFrame, mkF, argsToLocals, Value.category]; done) | rfl
def Q_rm_key (Z : State) (q1 : Int64) (a2 : Addr) (a3 : Addr) (c2 : Int32) (c3 : Int32) (t2 : Addr) (t3 : Addr) (uu : Addr) (cs : Int32) (h0 : Heap) (n0 : Nat) (v : Option Value) (h : Heap) (L : List Loc) : Prop := v = some (.long (own_key q1 c2 c3)) ∧ Fr n0 L ∧ Keep h0 h []
set_option maxRecDepth 65536 in
set_option maxHeartbeats 40000000 in
theorem rm_key (l : Launch) (Z : State) (a0 : Array Value) (hw : ∀ d ∈ tables_1, d.before a0 Z = true) (ws : List Jvm.Cond) (q1 : Int64) (a2 : Addr) (a3 : Addr) (c2 : Int32) (c3 : Int32) (t2 : Addr) (t3 : Addr) (uu : Addr) (cs : Int32) (h0 : Heap) (n0 : Nat) (Z0 : n0 ≤ h0.size) (SC : Sta Z Z.heap "java/lang/String" "COMPACT_STRINGS" "Z" (.int cs)) (SU : Sta Z Z.heap "java/nio/charset/StandardCharsets" "UTF_8" "Ljava/nio/charset/Charset;" (.ref uu)) (SI : Sta Z Z.heap "sun/nio/cs/UTF_8" "INSTANCE" "Lsun/nio/cs/UTF_8;" (.ref uu)) (OL : Old Z n0 h0) (hcs : ¬ (cs = (0 : Int32))) (E2 : Exa Z h0 a2 "java/lang/String") (Fv2 : Fld Z h0 a2 "java/lang/String" "value" "[B" (.ref t2)) (Fc2 : Fld Z h0 a2 "java/lang/String" "coder" "B" (.int (0 : Int32))) (VA2 : AV Z h0 t2 .byte 1 (fun _ => .int (own_bv c2))) (EA2 : Exa Z h0 t2 "[B") (hz2 : ¬ c2 < 0) (hc2 : ¬ (255 : Int32) < c2) (E3 : Exa Z h0 a3 "java/lang/String") (Fv3 : Fld Z h0 a3 "java/lang/String" "value" "[B" (.ref t3)) (Fc3 : Fld Z h0 a3 "java/lang/String" "coder" "B" (.int (0 : Int32))) (VA3 : AV Z h0 t3 .byte 1 (fun _ => .int (own_bv c3))) (EA3 : Exa Z h0 t3 "[B") (hz3 : ¬ c3 < 0) (hc3 : ¬ (255 : Int32) < c3) :
    MetFree l (⟨"com/example/loadloom/loadloom/Draws", "attributeKey", "(JLjava/lang/String;Ljava/lang/String;)J"⟩ : MethodName) (head1 (Jvm.Cond.code (⟨"com/example/loadloom/loadloom/Draws", "attributeKey", "(JLjava/lang/String;Ljava/lang/String;)J"⟩ : MethodName) prog_8_method_4_code 6 (some .long) :: ws) ({ frames := 5, cells := 3, slots := 5, locals := 79 } : Room)) (fun a U => a = #[(.long q1), (.ref a2), (.ref a3)] ∧ Z.Warmed39 U.vm ∧ U.heap = h0) (fun _ _ _ _ _ => True) (fun _ U oC U' => ∃ v L, oC = .returned v ∧ Q_rm_key Z q1 a2 a3 c2 c3 t2 t3 uu cs h0 n0 v U'.heap L ∧ FrameEnd U oC U' L ({ frames := 5, cells := 3, slots := 5, locals := 79 } : Room).cells ({ frames := 5, cells := 3, slots := 5, locals := 79 } : Room).slots) := by
  refine MetFree.of_bodySF (plainFor_of_name pn_0) hisR ?_
  intro p e s m args below meth c s₁ Bd hml0 hP hK
  obtain ⟨rfl, hZ, hh⟩ := hP
  have hx := Bd.exec
  have hby := Bd.bytes
  have hml : c.maxLocals = 6 := hml0
  have hown : s.vm.findClass "com/example/loadloom/loadloom/Draws" = some m.cls := findClass_of_methodNamed Bd.named
  have hnm := (name_of_methodNamed Bd.named Bd.method).1
  have X0 : Stand p l e ({ frames := 5, cells := 3, slots := 5, locals := 79 } : Room) s m #[(.long q1), (.ref a2), (.ref a3)] below meth c s₁ [] 0 0 := Stand.of_body Bd
  have e0 : s₁.heap = h0 := by rw [← hh, Bd.state]; rfl
  have N0 := Fr.nil n0
  have pre0 : ∀ tg, Steps p.tables e below (s₁.setTop (mkF m 0 #[.val (.long q1), .second, .val (.ref a2), .val (.ref a3), .unset, .unset] [])) tg → Steps p.tables e below (s₁.setTop (entryFrame m #[(.long q1), (.ref a2), (.ref a3)] 6)) tg := fun t k => castTop (ef_rm_key m q1 a2 a3) k
  have pre00 : ∀ tg, Steps p.tables e below (s₁.setTop (mkF m 0 #[.val (.long q1), .second, .val (.ref a2), .val (.ref a3), .unset, .unset] [])) tg → Steps p.tables e below (s₁.setTop (mkF m 0 #[.val (.long q1), .second, .val (.ref a2), .val (.ref a3), .unset, .unset] [])) tg := fun _ k => k
  have R163 : ∀ tg, Steps p.tables e below (s₁.setTop (mkF m 8 #[.val (.long q1), .second, .val (.ref a2), .val (.ref a3), .val (.long (-3750763034362895579 : Int64)), .second] [(.ref a2), (.long (-3750763034362895579 : Int64))])) tg → Steps p.tables e below (s₁.setTop (mkF m 0 #[.val (.long q1), .second, .val (.ref a2), .val (.ref a3), .unset, .unset] [])) tg := by
    intro tg kt
    refine pre00 _ ?_
    show Steps p.tables e below (s₁.setTop (mkF m 0 #[.val (.long q1), .second, .val (.ref a2), .val (.ref a3), .unset, .unset] [])) _
    refine X0.ldc2Long hx hown (mvT hZ (hw _ (List.mem_of_getElem? (i := 35) rfl))) (g := (mkF m 0 #[.val (.long q1), .second, .val (.ref a2), .val (.ref a3), .unset, .unset] [])) rfl (hb hby d7_0) _ ?_
    show Steps p.tables e below (s₁.setTop (mkF m 3 #[.val (.long q1), .second, .val (.ref a2), .val (.ref a3), .unset, .unset] [(.long (-3750763034362895579 : Int64))])) _
    refine XS.lstore X0.here hx rfl (hb hby d7_3) rfl (l' := #[.val (.long q1), .second, .val (.ref a2), .val (.ref a3), .val (.long (-3750763034362895579 : Int64)), .second]) rfl ?_
    refine XS.lload X0.here hx rfl (hb hby d7_5) rfl ?_
    refine XS.aloadN X0.here hx rfl (hb hby d7_7) rfl rfl ?_
    exact kt
  by_cases hn2 : own_bv c2 < (0 : Int32)
  · obtain ⟨T164, X164, e164, st164⟩ := getS2 X0 hx hZ hown (host := "") (Or.inl (hw _ (List.mem_of_getElem? (i := 36) rfl))) Via.refl e0 (SU.ext OL.2) (g := (mkF m 8 #[.val (.long q1), .second, .val (.ref a2), .val (.ref a3), .val (.long (-3750763034362895579 : Int64)), .second] [(.ref a2), (.long (-3750763034362895579 : Int64))])) rfl (hb hby d7_8)
    have R165 : ∀ tg, Steps p.tables e below (T164.setTop (mkF m 11 #[.val (.long q1), .second, .val (.ref a2), .val (.ref a3), .val (.long (-3750763034362895579 : Int64)), .second] [(.ref uu), (.ref a2), (.long (-3750763034362895579 : Int64))])) tg → Steps p.tables e below (s₁.setTop (mkF m 0 #[.val (.long q1), .second, .val (.ref a2), .val (.ref a3), .unset, .unset] [])) tg := by
      intro tg kt
      refine R163 _ ?_
      refine st164 _ ?_
      exact kt
    clear R163 st164
    obtain ⟨cq166, kq166, q166a, q166b, q166c⟩ := isOf hZ e164 E2
    obtain ⟨_, _, ⟨T166, L166, k166, n166⟩, -, X166, ⟨Lc166, hQ166, l166, y166, z166⟩, st166⟩ := X164.virtualBack hx (y := (⟨"java/lang/String", "getBytes", "(Ljava/nio/charset/Charset;)[B"⟩ : MethodName)) (z := (⟨"java/lang/String", "getBytes", "(Ljava/nio/charset/Charset;)[B"⟩ : MethodName)) hown (mvT hZ (hw _ (List.mem_of_getElem? (i := 38) rfl))) (mvT hZ (hw _ (List.mem_of_getElem? (i := 39) rfl))) (notFace_of_selects (args := #[]) (mvT hZ (hw _ (List.mem_of_getElem? (i := 41) rfl)))) (mvT hZ (hw _ (List.mem_of_getElem? (i := 41) rfl))) (mvT hZ (hw _ (List.mem_of_getElem? (i := 40) rfl))) (by decide) (backOf (W := 2) (rm_gbb l Z a0 hw [] a2 uu (own_bv c2) t2 cs h0 n0 Z0 SC SI OL hcs E2 Fv2 Fc2 VA2 EA2 hn2) hZ (hw _ (List.mem_of_getElem? (i := 42) rfl)) (hw _ (List.mem_of_getElem? (i := 2) rfl)) (by decide) (by decide)) q166a q166c (g := (mkF m 11 #[.val (.long q1), .second, .val (.ref a2), .val (.ref a3), .val (.long (-3750763034362895579 : Int64)), .second] [(.ref uu), (.ref a2), (.long (-3750763034362895579 : Int64))])) rfl (by rw [hml]; rfl) (Steps.refl _) (argsL := [(.ref uu)]) (rest := [(.long (-3750763034362895579 : Int64))]) (lenOf pd_11 rfl) rfl (by show 2 * 0 + _ ≤ _; exact Nat.le_of_eq rfl) (hb hby d7_11) (fun _ _ => ⟨rfl, e164, (by decide : 0 + 1 ≤ _), (by decide : 0 + 2 ≤ _)⟩)
    dsimp only [Pt.U, Pt.locs, Pt.cells, Pt.slots] at X166 l166 y166 z166 st166 hQ166
    rw [l166, y166, z166] at X166
    obtain ⟨ar, rfl, N166q, szar, K166, V166⟩ := hQ166
    have N166 := Fr.app N0 N166q
    have g_ar : n0 ≤ ar := Nat.le_trans Z0 szar
    have ne_a2_ar : a2 ≠ ar := Nat.ne_of_lt (Nat.lt_of_lt_of_le E2.lt szar)
    have ne_t2_ar : t2 ≠ ar := Nat.ne_of_lt (Nat.lt_of_lt_of_le VA2.lt szar)
    have ne_a3_ar : a3 ≠ ar := Nat.ne_of_lt (Nat.lt_of_lt_of_le E3.lt szar)
    have ne_t3_ar : t3 ≠ ar := Nat.ne_of_lt (Nat.lt_of_lt_of_le VA3.lt szar)
    have OL_167 := OL.keep K166 (own_ge0)
    have E2_167 := E2.keep K166
    have Fv2_167 := Fv2.keep K166 own_notin0
    have Fc2_167 := Fc2.keep K166 own_notin0
    have VA2_167 := VA2.keep K166 own_notin0
    have EA2_167 := EA2.keep K166
    have E3_167 := E3.keep K166
    have Fv3_167 := Fv3.keep K166 own_notin0
    have Fc3_167 := Fc3.keep K166 own_notin0
    have VA3_167 := VA3.keep K166 own_notin0
    have EA3_167 := EA3.keep K166
    have Zs167 : n0 ≤ T166.heap.size := Nat.le_trans Z0 K166.1
    have Kk167 : Keep h0 T166.heap [] := Keep.trans (Keep.refl h0 []) K166 (own_trans0 )
    have R168 : ∀ tg, Steps p.tables e below (T166.setTop (mkF m 14 #[.val (.long q1), .second, .val (.ref a2), .val (.ref a3), .val (.long (-3750763034362895579 : Int64)), .second] [(.ref ar), (.long (-3750763034362895579 : Int64))])) tg → Steps p.tables e below (s₁.setTop (mkF m 0 #[.val (.long q1), .second, .val (.ref a2), .val (.ref a3), .unset, .unset] [])) tg := by
      intro tg kt
      refine R165 _ ?_
      refine st166.trans ?_
      exact kt
    clear R165 st166
    obtain ⟨_, _, ⟨T169, L169, k169, n169⟩, -, X169, ⟨Lc169, hQ169, l169, y169, z169⟩, st169⟩ := Jvm.LawKit.callS X166 hx (y := (⟨"com/example/loadloom/loadloom/Draws", "fnv1a", "(J[B)J"⟩ : MethodName)) hown (mvT hZ (hw _ (List.mem_of_getElem? (i := 72) rfl))) (mvT hZ (hw _ (List.mem_of_getElem? (i := 73) rfl))) (mvT hZ (hw _ (List.mem_of_getElem? (i := 28) rfl))) (mvT hZ (hw _ (List.mem_of_getElem? (i := 74) rfl))) (by decide) (backOf (W := 0) (rm_fn2 l Z a0 hw [] (-3750763034362895579 : Int64) ar (own_v2 (own_d0 (own_bv c2)) (own_d1 (own_bv c2))) T166.heap n0 Zs167 V166) hZ (hw _ (List.mem_of_getElem? (i := 74) rfl)) (hw _ (List.mem_of_getElem? (i := 28) rfl)) (by decide) (by decide)) (g := (mkF m 14 #[.val (.long q1), .second, .val (.ref a2), .val (.ref a3), .val (.long (-3750763034362895579 : Int64)), .second] [(.ref ar), (.long (-3750763034362895579 : Int64))])) rfl (by rw [hml]; rfl) (argsL := [(.long (-3750763034362895579 : Int64)), (.ref ar)]) (rest := []) (lenOf pd_12 rfl) rfl (by show 2 * 0 + _ ≤ _; exact Nat.le_of_eq rfl) (hb hby d7_14) (fun _ _ => ⟨rfl, rfl, (by decide : 1 + 0 ≤ _), (by decide : 2 + 0 ≤ _)⟩)
    dsimp only [Pt.U, Pt.locs, Pt.cells, Pt.slots] at X169 l169 y169 z169 st169 hQ169
    rw [l169, y169, z169] at X169
    obtain ⟨rfl, N169q, hh169⟩ := hQ169
    have N169 := Fr.app N166 N169q
    have R170 : ∀ tg, Steps p.tables e below (T169.setTop (mkF m 17 #[.val (.long q1), .second, .val (.ref a2), .val (.ref a3), .val (.long (-3750763034362895579 : Int64)), .second] [(.long (own_fb (own_fb (-3750763034362895579 : Int64) (own_d0 (own_bv c2))) (own_d1 (own_bv c2))))])) tg → Steps p.tables e below (s₁.setTop (mkF m 0 #[.val (.long q1), .second, .val (.ref a2), .val (.ref a3), .unset, .unset] [])) tg := by
      intro tg kt
      refine R168 _ ?_
      refine st169 _ ?_
      exact kt
    clear R168 st169
    have R171 : ∀ tg, Steps p.tables e below (T169.setTop (mkF m 17 #[.val (.long q1), .second, .val (.ref a2), .val (.ref a3), .val (.long (-3750763034362895579 : Int64)), .second] [(.long (own_fc (-3750763034362895579 : Int64) c2))])) tg → Steps p.tables e below (s₁.setTop (mkF m 0 #[.val (.long q1), .second, .val (.ref a2), .val (.ref a3), .unset, .unset] [])) tg := by intro tg kt; refine R170 tg ?_; rw [(own_fc2 (-3750763034362895579 : Int64) c2 hz2 hc2 hn2)]; exact kt
    have R172 : ∀ tg, Steps p.tables e below (T169.setTop (mkF m 22 #[.val (.long q1), .second, .val (.ref a2), .val (.ref a3), .val (.long (own_fc (-3750763034362895579 : Int64) c2)), .second] [(.int (1 : Int32)), (.long (own_fc (-3750763034362895579 : Int64) c2))])) tg → Steps p.tables e below (s₁.setTop (mkF m 0 #[.val (.long q1), .second, .val (.ref a2), .val (.ref a3), .unset, .unset] [])) tg := by
      intro tg kt
      refine R171 _ ?_
      show Steps p.tables e below (T169.setTop (mkF m 17 #[.val (.long q1), .second, .val (.ref a2), .val (.ref a3), .val (.long (-3750763034362895579 : Int64)), .second] [(.long (own_fc (-3750763034362895579 : Int64) c2))])) _
      refine XS.lstore X169.here hx rfl (hb hby d7_17) rfl (l' := #[.val (.long q1), .second, .val (.ref a2), .val (.ref a3), .val (.long (own_fc (-3750763034362895579 : Int64) c2)), .second]) rfl ?_
      refine XS.lload X169.here hx rfl (hb hby d7_19) rfl ?_
      refine XS.iconst X169.here hx rfl (hb hby d7_21) ?_
      exact kt
    clear R171
    obtain ⟨T173, h173, k173, X173, e173, E173, A173, st173⟩ := newP X169 hx hZ (hw _ (List.mem_of_getElem? (i := 14) rfl)) hh169 (g := (mkF m 22 #[.val (.long q1), .second, .val (.ref a2), .val (.ref a3), .val (.long (own_fc (-3750763034362895579 : Int64) c2)), .second] [(.int (1 : Int32)), (.long (own_fc (-3750763034362895579 : Int64) c2))])) rfl (hb hby d7_22) rfl (by decide) (cap := 1) (by decide) (by decide) (by decide) (by decide)
    obtain ⟨ze, g173⟩ : ∃ z, z = T166.heap.size := ⟨_, rfl⟩
    rw [← g173] at A173 st173
    have g_ze : n0 ≤ ze := Nat.le_trans Zs167 (Nat.le_of_eq g173.symm)
    have sz_ze : h0.size ≤ ze := Nat.le_trans Kk167.1 (Nat.le_of_eq g173.symm)
    have ne_a2_ze : a2 ≠ ze := Nat.ne_of_lt (Nat.lt_of_lt_of_le E2_167.lt (Nat.le_of_eq g173.symm))
    have ne_t2_ze : t2 ≠ ze := Nat.ne_of_lt (Nat.lt_of_lt_of_le VA2_167.lt (Nat.le_of_eq g173.symm))
    have ne_a3_ze : a3 ≠ ze := Nat.ne_of_lt (Nat.lt_of_lt_of_le E3_167.lt (Nat.le_of_eq g173.symm))
    have ne_t3_ze : t3 ≠ ze := Nat.ne_of_lt (Nat.lt_of_lt_of_le VA3_167.lt (Nat.le_of_eq g173.symm))
    have OL_173 := OL_167.ext E173
    have E2_173 := E2_167.ext E173
    have Fv2_173 := Fv2_167.ext E173
    have Fc2_173 := Fc2_167.ext E173
    have VA2_173 := VA2_167.ext E173
    have EA2_173 := EA2_167.ext E173
    have E3_173 := E3_167.ext E173
    have Fv3_173 := Fv3_167.ext E173
    have Fc3_173 := Fc3_167.ext E173
    have VA3_173 := VA3_167.ext E173
    have EA3_173 := EA3_167.ext E173
    clear OL_167 E2_167 Fv2_167 Fc2_167 VA2_167 EA2_167 E3_167 Fv3_167 Fc3_167 VA3_167 EA3_167
    have Zs173 : n0 ≤ h173.size := Nat.le_trans Zs167 E173.1
    have Ke173 : Keep h0 h173 [] := Keep.ext Kk167 E173
    have VZ : AV Z h173 ze .byte 1 (fun _ => defaultValue .byte) := AV.new A173 rfl rfl
    have R174 : ∀ tg, Steps p.tables e below (T173.setTop (mkF m 27 #[.val (.long q1), .second, .val (.ref a2), .val (.ref a3), .val (.long (own_fc (-3750763034362895579 : Int64) c2)), .second] [(.int (0 : Int32)), (.int (0 : Int32)), (.ref ze), (.ref ze), (.long (own_fc (-3750763034362895579 : Int64) c2))])) tg → Steps p.tables e below (s₁.setTop (mkF m 0 #[.val (.long q1), .second, .val (.ref a2), .val (.ref a3), .unset, .unset] [])) tg := by
      intro tg kt
      refine R172 _ ?_
      refine st173 _ ?_
      show Steps p.tables e below (T173.setTop (mkF m 24 #[.val (.long q1), .second, .val (.ref a2), .val (.ref a3), .val (.long (own_fc (-3750763034362895579 : Int64) c2)), .second] [(.ref ze), (.long (own_fc (-3750763034362895579 : Int64) c2))])) _
      refine XS.dup X173.here hx rfl (hb hby d7_24) rfl rfl ?_
      refine XS.iconst X173.here hx rfl (hb hby d7_25) ?_
      refine XS.iconst X173.here hx rfl (hb hby d7_26) ?_
      exact kt
    clear R172 st173
    obtain ⟨cl175, Ar175, hin175, -⟩ := VZ.at (j := (0 : Int32)) (k := 0) (by decide) rfl (by decide)
    obtain ⟨T176, h176, X176, e176, W176, st176⟩ := stB X173 hx hZ e173 Ar175 (j := (0 : Int32)) hin175 (g := (mkF m 27 #[.val (.long q1), .second, .val (.ref a2), .val (.ref a3), .val (.long (own_fc (-3750763034362895579 : Int64) c2)), .second] [(.int (0 : Int32)), (.int (0 : Int32)), (.ref ze), (.ref ze), (.long (own_fc (-3750763034362895579 : Int64) c2))])) rfl rfl (hb hby d7_27)
    have N176 := Fr.snoc X176 N169 g_ze
    rw [show ((0 : Int32) : Int32).toNatClampNeg = 0 from rfl] at W176
    have VZ_176 := VZ.set W176 (fits_nar_byte _)
    have OL_176 := OL_173.wr W176 g_ze
    have E2_176 := E2_173.wr W176
    have Fv2_176 := Fv2_173.other W176 (Or.inl ne_a2_ze)
    have Fc2_176 := Fc2_173.other W176 (Or.inl ne_a2_ze)
    have VA2_176 := VA2_173.other W176 ne_t2_ze
    have EA2_176 := EA2_173.wr W176
    have E3_176 := E3_173.wr W176
    have Fv3_176 := Fv3_173.other W176 (Or.inl ne_a3_ze)
    have Fc3_176 := Fc3_173.other W176 (Or.inl ne_a3_ze)
    have VA3_176 := VA3_173.other W176 ne_t3_ze
    have EA3_176 := EA3_173.wr W176
    clear OL_173 E2_173 Fv2_173 Fc2_173 VA2_173 EA2_173 E3_173 Fv3_173 Fc3_173 VA3_173 EA3_173
    have Zs176 : n0 ≤ h176.size := Nat.le_trans Zs173 (Keep.of_wr W176).1
    have Kw176 : Keep h0 h176 [] := Keep.wr Ke173 W176 (Or.inr sz_ze)
    have R177 : ∀ tg, Steps p.tables e below (T176.setTop (mkF m 28 #[.val (.long q1), .second, .val (.ref a2), .val (.ref a3), .val (.long (own_fc (-3750763034362895579 : Int64) c2)), .second] [(.ref ze), (.long (own_fc (-3750763034362895579 : Int64) c2))])) tg → Steps p.tables e below (s₁.setTop (mkF m 0 #[.val (.long q1), .second, .val (.ref a2), .val (.ref a3), .unset, .unset] [])) tg := by
      intro tg kt
      refine R174 _ ?_
      refine st176 _ ?_
      exact kt
    clear R174 st176
    have VZz : AV Z h176 ze .byte 1 (fun j => .int ((fun _ => (0 : Int32)) j)) := AV.congr VZ_176 (fun j hj => by cases Nat.lt_one_iff.mp hj; rfl)
    obtain ⟨_, _, ⟨T178, L178, k178, n178⟩, -, X178, ⟨Lc178, hQ178, l178, y178, z178⟩, st178⟩ := Jvm.LawKit.callS X176 hx (y := (⟨"com/example/loadloom/loadloom/Draws", "fnv1a", "(J[B)J"⟩ : MethodName)) hown (mvT hZ (hw _ (List.mem_of_getElem? (i := 72) rfl))) (mvT hZ (hw _ (List.mem_of_getElem? (i := 73) rfl))) (mvT hZ (hw _ (List.mem_of_getElem? (i := 28) rfl))) (mvT hZ (hw _ (List.mem_of_getElem? (i := 74) rfl))) (by decide) (backOf (W := 0) (rm_fn1 l Z a0 hw [] (own_fc (-3750763034362895579 : Int64) c2) ze (fun _ => (0 : Int32)) h176 n0 Zs176 VZz) hZ (hw _ (List.mem_of_getElem? (i := 74) rfl)) (hw _ (List.mem_of_getElem? (i := 28) rfl)) (by decide) (by decide)) (g := (mkF m 28 #[.val (.long q1), .second, .val (.ref a2), .val (.ref a3), .val (.long (own_fc (-3750763034362895579 : Int64) c2)), .second] [(.ref ze), (.long (own_fc (-3750763034362895579 : Int64) c2))])) rfl (by rw [hml]; rfl) (argsL := [(.long (own_fc (-3750763034362895579 : Int64) c2)), (.ref ze)]) (rest := []) (lenOf pd_12 rfl) rfl (by show 2 * 0 + _ ≤ _; exact Nat.le_of_eq rfl) (hb hby d7_28) (fun _ _ => ⟨rfl, e176, (by decide : 2 + 0 ≤ _), (by decide : 3 + 0 ≤ _)⟩)
    dsimp only [Pt.U, Pt.locs, Pt.cells, Pt.slots] at X178 l178 y178 z178 st178 hQ178
    rw [l178, y178, z178] at X178
    obtain ⟨rfl, N178q, hh178⟩ := hQ178
    have N178 := Fr.app N176 N178q
    have R179 : ∀ tg, Steps p.tables e below (T178.setTop (mkF m 36 #[.val (.long q1), .second, .val (.ref a2), .val (.ref a3), .val (.long (own_fb (own_fc (-3750763034362895579 : Int64) c2) (0 : Int32))), .second] [(.ref a3), (.long (own_fb (own_fc (-3750763034362895579 : Int64) c2) (0 : Int32)))])) tg → Steps p.tables e below (s₁.setTop (mkF m 0 #[.val (.long q1), .second, .val (.ref a2), .val (.ref a3), .unset, .unset] [])) tg := by
      intro tg kt
      refine R177 _ ?_
      refine st178 _ ?_
      show Steps p.tables e below (T178.setTop (mkF m 31 #[.val (.long q1), .second, .val (.ref a2), .val (.ref a3), .val (.long (own_fc (-3750763034362895579 : Int64) c2)), .second] [(.long (own_fb (own_fc (-3750763034362895579 : Int64) c2) (0 : Int32)))])) _
      refine XS.lstore X178.here hx rfl (hb hby d7_31) rfl (l' := #[.val (.long q1), .second, .val (.ref a2), .val (.ref a3), .val (.long (own_fb (own_fc (-3750763034362895579 : Int64) c2) (0 : Int32))), .second]) rfl ?_
      refine XS.lload X178.here hx rfl (hb hby d7_33) rfl ?_
      refine XS.aloadN X178.here hx rfl (hb hby d7_35) rfl rfl ?_
      exact kt
    clear R177 st178
    by_cases hn3 : own_bv c3 < (0 : Int32)
    · obtain ⟨T180, X180, e180, st180⟩ := getS2 X178 hx hZ hown (host := "") (Or.inl (hw _ (List.mem_of_getElem? (i := 36) rfl))) Via.refl hh178 (SU.ext OL_176.2) (g := (mkF m 36 #[.val (.long q1), .second, .val (.ref a2), .val (.ref a3), .val (.long (own_fb (own_fc (-3750763034362895579 : Int64) c2) (0 : Int32))), .second] [(.ref a3), (.long (own_fb (own_fc (-3750763034362895579 : Int64) c2) (0 : Int32)))])) rfl (hb hby d7_36)
      have R181 : ∀ tg, Steps p.tables e below (T180.setTop (mkF m 39 #[.val (.long q1), .second, .val (.ref a2), .val (.ref a3), .val (.long (own_fb (own_fc (-3750763034362895579 : Int64) c2) (0 : Int32))), .second] [(.ref uu), (.ref a3), (.long (own_fb (own_fc (-3750763034362895579 : Int64) c2) (0 : Int32)))])) tg → Steps p.tables e below (s₁.setTop (mkF m 0 #[.val (.long q1), .second, .val (.ref a2), .val (.ref a3), .unset, .unset] [])) tg := by
        intro tg kt
        refine R179 _ ?_
        refine st180 _ ?_
        exact kt
      clear R179 st180
      obtain ⟨cq182, kq182, q182a, q182b, q182c⟩ := isOf hZ e180 E3_176
      obtain ⟨_, _, ⟨T182, L182, k182, n182⟩, -, X182, ⟨Lc182, hQ182, l182, y182, z182⟩, st182⟩ := X180.virtualBack hx (y := (⟨"java/lang/String", "getBytes", "(Ljava/nio/charset/Charset;)[B"⟩ : MethodName)) (z := (⟨"java/lang/String", "getBytes", "(Ljava/nio/charset/Charset;)[B"⟩ : MethodName)) hown (mvT hZ (hw _ (List.mem_of_getElem? (i := 38) rfl))) (mvT hZ (hw _ (List.mem_of_getElem? (i := 39) rfl))) (notFace_of_selects (args := #[]) (mvT hZ (hw _ (List.mem_of_getElem? (i := 41) rfl)))) (mvT hZ (hw _ (List.mem_of_getElem? (i := 41) rfl))) (mvT hZ (hw _ (List.mem_of_getElem? (i := 40) rfl))) (by decide) (backOf (W := 2) (rm_gbb l Z a0 hw [] a3 uu (own_bv c3) t3 cs h176 n0 Zs176 SC SI OL_176 hcs E3_176 Fv3_176 Fc3_176 VA3_176 EA3_176 hn3) hZ (hw _ (List.mem_of_getElem? (i := 42) rfl)) (hw _ (List.mem_of_getElem? (i := 2) rfl)) (by decide) (by decide)) q182a q182c (g := (mkF m 39 #[.val (.long q1), .second, .val (.ref a2), .val (.ref a3), .val (.long (own_fb (own_fc (-3750763034362895579 : Int64) c2) (0 : Int32))), .second] [(.ref uu), (.ref a3), (.long (own_fb (own_fc (-3750763034362895579 : Int64) c2) (0 : Int32)))])) rfl (by rw [hml]; rfl) (Steps.refl _) (argsL := [(.ref uu)]) (rest := [(.long (own_fb (own_fc (-3750763034362895579 : Int64) c2) (0 : Int32)))]) (lenOf pd_11 rfl) rfl (by show 2 * 0 + _ ≤ _; exact Nat.le_of_eq rfl) (hb hby d7_39) (fun _ _ => ⟨rfl, e180, (by decide : 2 + 1 ≤ _), (by decide : 3 + 2 ≤ _)⟩)
      dsimp only [Pt.U, Pt.locs, Pt.cells, Pt.slots] at X182 l182 y182 z182 st182 hQ182
      rw [l182, y182, z182] at X182
      obtain ⟨as_, rfl, N182q, szas_, K182, V182⟩ := hQ182
      have N182 := Fr.app N178 N182q
      have g_as_ : n0 ≤ as_ := Nat.le_trans Zs176 szas_
      have ne_a2_as_ : a2 ≠ as_ := Nat.ne_of_lt (Nat.lt_of_lt_of_le E2_176.lt szas_)
      have ne_t2_as_ : t2 ≠ as_ := Nat.ne_of_lt (Nat.lt_of_lt_of_le VA2_176.lt szas_)
      have ne_a3_as_ : a3 ≠ as_ := Nat.ne_of_lt (Nat.lt_of_lt_of_le E3_176.lt szas_)
      have ne_t3_as_ : t3 ≠ as_ := Nat.ne_of_lt (Nat.lt_of_lt_of_le VA3_176.lt szas_)
      have OL_183 := OL_176.keep K182 (own_ge0)
      have E2_183 := E2_176.keep K182
      have Fv2_183 := Fv2_176.keep K182 own_notin0
      have Fc2_183 := Fc2_176.keep K182 own_notin0
      have VA2_183 := VA2_176.keep K182 own_notin0
      have EA2_183 := EA2_176.keep K182
      have E3_183 := E3_176.keep K182
      have Fv3_183 := Fv3_176.keep K182 own_notin0
      have Fc3_183 := Fc3_176.keep K182 own_notin0
      have VA3_183 := VA3_176.keep K182 own_notin0
      have EA3_183 := EA3_176.keep K182
      clear OL_176 E2_176 Fv2_176 Fc2_176 VA2_176 EA2_176 E3_176 Fv3_176 Fc3_176 VA3_176 EA3_176
      have Zs183 : n0 ≤ T182.heap.size := Nat.le_trans Zs176 K182.1
      have Kk183 : Keep h0 T182.heap [] := Keep.trans Kw176 K182 (own_trans0 )
      have R184 : ∀ tg, Steps p.tables e below (T182.setTop (mkF m 42 #[.val (.long q1), .second, .val (.ref a2), .val (.ref a3), .val (.long (own_fb (own_fc (-3750763034362895579 : Int64) c2) (0 : Int32))), .second] [(.ref as_), (.long (own_fb (own_fc (-3750763034362895579 : Int64) c2) (0 : Int32)))])) tg → Steps p.tables e below (s₁.setTop (mkF m 0 #[.val (.long q1), .second, .val (.ref a2), .val (.ref a3), .unset, .unset] [])) tg := by
        intro tg kt
        refine R181 _ ?_
        refine st182.trans ?_
        exact kt
      clear R181 st182
      obtain ⟨_, _, ⟨T185, L185, k185, n185⟩, -, X185, ⟨Lc185, hQ185, l185, y185, z185⟩, st185⟩ := Jvm.LawKit.callS X182 hx (y := (⟨"com/example/loadloom/loadloom/Draws", "fnv1a", "(J[B)J"⟩ : MethodName)) hown (mvT hZ (hw _ (List.mem_of_getElem? (i := 72) rfl))) (mvT hZ (hw _ (List.mem_of_getElem? (i := 73) rfl))) (mvT hZ (hw _ (List.mem_of_getElem? (i := 28) rfl))) (mvT hZ (hw _ (List.mem_of_getElem? (i := 74) rfl))) (by decide) (backOf (W := 0) (rm_fn2 l Z a0 hw [] (own_fb (own_fc (-3750763034362895579 : Int64) c2) (0 : Int32)) as_ (own_v2 (own_d0 (own_bv c3)) (own_d1 (own_bv c3))) T182.heap n0 Zs183 V182) hZ (hw _ (List.mem_of_getElem? (i := 74) rfl)) (hw _ (List.mem_of_getElem? (i := 28) rfl)) (by decide) (by decide)) (g := (mkF m 42 #[.val (.long q1), .second, .val (.ref a2), .val (.ref a3), .val (.long (own_fb (own_fc (-3750763034362895579 : Int64) c2) (0 : Int32))), .second] [(.ref as_), (.long (own_fb (own_fc (-3750763034362895579 : Int64) c2) (0 : Int32)))])) rfl (by rw [hml]; rfl) (argsL := [(.long (own_fb (own_fc (-3750763034362895579 : Int64) c2) (0 : Int32))), (.ref as_)]) (rest := []) (lenOf pd_12 rfl) rfl (by show 2 * 0 + _ ≤ _; exact Nat.le_of_eq rfl) (hb hby d7_42) (fun _ _ => ⟨rfl, rfl, (by decide : 3 + 0 ≤ _), (by decide : 5 + 0 ≤ _)⟩)
      dsimp only [Pt.U, Pt.locs, Pt.cells, Pt.slots] at X185 l185 y185 z185 st185 hQ185
      rw [l185, y185, z185] at X185
      obtain ⟨rfl, N185q, hh185⟩ := hQ185
      have N185 := Fr.app N182 N185q
      have R186 : ∀ tg, Steps p.tables e below (T185.setTop (mkF m 45 #[.val (.long q1), .second, .val (.ref a2), .val (.ref a3), .val (.long (own_fb (own_fc (-3750763034362895579 : Int64) c2) (0 : Int32))), .second] [(.long (own_fb (own_fb (own_fb (own_fc (-3750763034362895579 : Int64) c2) (0 : Int32)) (own_d0 (own_bv c3))) (own_d1 (own_bv c3))))])) tg → Steps p.tables e below (s₁.setTop (mkF m 0 #[.val (.long q1), .second, .val (.ref a2), .val (.ref a3), .unset, .unset] [])) tg := by
        intro tg kt
        refine R184 _ ?_
        refine st185 _ ?_
        exact kt
      clear R184 st185
      have R187 : ∀ tg, Steps p.tables e below (T185.setTop (mkF m 45 #[.val (.long q1), .second, .val (.ref a2), .val (.ref a3), .val (.long (own_fb (own_fc (-3750763034362895579 : Int64) c2) (0 : Int32))), .second] [(.long (own_fc (own_fb (own_fc (-3750763034362895579 : Int64) c2) (0 : Int32)) c3))])) tg → Steps p.tables e below (s₁.setTop (mkF m 0 #[.val (.long q1), .second, .val (.ref a2), .val (.ref a3), .unset, .unset] [])) tg := by intro tg kt; refine R186 tg ?_; rw [(own_fc2 (own_fb (own_fc (-3750763034362895579 : Int64) c2) (0 : Int32)) c3 hz3 hc3 hn3)]; exact kt
      have R188 : ∀ tg, Steps p.tables e below (T185.setTop (mkF m 48 #[.val (.long q1), .second, .val (.ref a2), .val (.ref a3), .val (.long (own_fc (own_fb (own_fc (-3750763034362895579 : Int64) c2) (0 : Int32)) c3)), .second] [(.long q1)])) tg → Steps p.tables e below (s₁.setTop (mkF m 0 #[.val (.long q1), .second, .val (.ref a2), .val (.ref a3), .unset, .unset] [])) tg := by
        intro tg kt
        refine R187 _ ?_
        show Steps p.tables e below (T185.setTop (mkF m 45 #[.val (.long q1), .second, .val (.ref a2), .val (.ref a3), .val (.long (own_fb (own_fc (-3750763034362895579 : Int64) c2) (0 : Int32))), .second] [(.long (own_fc (own_fb (own_fc (-3750763034362895579 : Int64) c2) (0 : Int32)) c3))])) _
        refine XS.lstore X185.here hx rfl (hb hby d7_45) rfl (l' := #[.val (.long q1), .second, .val (.ref a2), .val (.ref a3), .val (.long (own_fc (own_fb (own_fc (-3750763034362895579 : Int64) c2) (0 : Int32)) c3)), .second]) rfl ?_
        refine XS.lloadN X185.here hx rfl (hb hby d7_47) rfl ?_
        exact kt
      clear R187
      obtain ⟨_, _, ⟨T189, L189, k189, n189⟩, -, X189, ⟨Lc189, hQ189, l189, y189, z189⟩, st189⟩ := Jvm.LawKit.callS X185 hx (y := (⟨"com/example/loadloom/loadloom/Draws", "mix", "(J)J"⟩ : MethodName)) hown (mvT hZ (hw _ (List.mem_of_getElem? (i := 76) rfl))) (mvT hZ (hw _ (List.mem_of_getElem? (i := 77) rfl))) (mvT hZ (hw _ (List.mem_of_getElem? (i := 28) rfl))) (mvT hZ (hw _ (List.mem_of_getElem? (i := 78) rfl))) (by decide) (backOf (W := 0) (rm_mix l Z a0 hw [] q1 T182.heap n0 Zs183) hZ (hw _ (List.mem_of_getElem? (i := 78) rfl)) (hw _ (List.mem_of_getElem? (i := 28) rfl)) (by decide) (by decide)) (g := (mkF m 48 #[.val (.long q1), .second, .val (.ref a2), .val (.ref a3), .val (.long (own_fc (own_fb (own_fc (-3750763034362895579 : Int64) c2) (0 : Int32)) c3)), .second] [(.long q1)])) rfl (by rw [hml]; rfl) (argsL := [(.long q1)]) (rest := []) (lenOf pd_13 rfl) rfl (by show 2 * 0 + _ ≤ _; exact Nat.le_of_eq rfl) (hb hby d7_48) (fun _ _ => ⟨rfl, hh185, (by decide : 3 + 0 ≤ _), (by decide : 5 + 0 ≤ _)⟩)
      dsimp only [Pt.U, Pt.locs, Pt.cells, Pt.slots] at X189 l189 y189 z189 st189 hQ189
      rw [l189, y189, z189] at X189
      obtain ⟨rfl, N189q, hh189⟩ := hQ189
      have N189 := Fr.app N185 N189q
      have R190 : ∀ tg, Steps p.tables e below (T189.setTop (mkF m 54 #[.val (.long q1), .second, .val (.ref a2), .val (.ref a3), .val (.long (own_fc (own_fb (own_fc (-3750763034362895579 : Int64) c2) (0 : Int32)) c3)), .second] [(.long ((own_mix q1) ^^^ (own_fc (own_fb (own_fc (-3750763034362895579 : Int64) c2) (0 : Int32)) c3)))])) tg → Steps p.tables e below (s₁.setTop (mkF m 0 #[.val (.long q1), .second, .val (.ref a2), .val (.ref a3), .unset, .unset] [])) tg := by
        intro tg kt
        refine R188 _ ?_
        refine st189 _ ?_
        refine XS.lload X189.here hx rfl (hb hby d7_51) rfl ?_
        show Steps p.tables e below (T189.setTop (mkF m 53 #[.val (.long q1), .second, .val (.ref a2), .val (.ref a3), .val (.long (own_fc (own_fb (own_fc (-3750763034362895579 : Int64) c2) (0 : Int32)) c3)), .second] [(.long (own_fc (own_fb (own_fc (-3750763034362895579 : Int64) c2) (0 : Int32)) c3)), (.long (own_mix q1))])) _
        refine XS.lxor X189.here hx rfl (hb hby d7_53) rfl ?_
        exact kt
      clear R188 st189
      obtain ⟨_, _, ⟨T191, L191, k191, n191⟩, -, X191, ⟨Lc191, hQ191, l191, y191, z191⟩, st191⟩ := Jvm.LawKit.callS X189 hx (y := (⟨"com/example/loadloom/loadloom/Draws", "mix", "(J)J"⟩ : MethodName)) hown (mvT hZ (hw _ (List.mem_of_getElem? (i := 76) rfl))) (mvT hZ (hw _ (List.mem_of_getElem? (i := 77) rfl))) (mvT hZ (hw _ (List.mem_of_getElem? (i := 28) rfl))) (mvT hZ (hw _ (List.mem_of_getElem? (i := 78) rfl))) (by decide) (backOf (W := 0) (rm_mix l Z a0 hw [] ((own_mix q1) ^^^ (own_fc (own_fb (own_fc (-3750763034362895579 : Int64) c2) (0 : Int32)) c3)) T182.heap n0 Zs183) hZ (hw _ (List.mem_of_getElem? (i := 78) rfl)) (hw _ (List.mem_of_getElem? (i := 28) rfl)) (by decide) (by decide)) (g := (mkF m 54 #[.val (.long q1), .second, .val (.ref a2), .val (.ref a3), .val (.long (own_fc (own_fb (own_fc (-3750763034362895579 : Int64) c2) (0 : Int32)) c3)), .second] [(.long ((own_mix q1) ^^^ (own_fc (own_fb (own_fc (-3750763034362895579 : Int64) c2) (0 : Int32)) c3)))])) rfl (by rw [hml]; rfl) (argsL := [(.long ((own_mix q1) ^^^ (own_fc (own_fb (own_fc (-3750763034362895579 : Int64) c2) (0 : Int32)) c3)))]) (rest := []) (lenOf pd_13 rfl) rfl (by show 2 * 0 + _ ≤ _; exact Nat.le_of_eq rfl) (hb hby d7_54) (fun _ _ => ⟨rfl, hh189, (by decide : 3 + 0 ≤ _), (by decide : 5 + 0 ≤ _)⟩)
      dsimp only [Pt.U, Pt.locs, Pt.cells, Pt.slots] at X191 l191 y191 z191 st191 hQ191
      rw [l191, y191, z191] at X191
      obtain ⟨rfl, N191q, hh191⟩ := hQ191
      have N191 := Fr.app N189 N191q
      have R192 : ∀ tg, Steps p.tables e below (T191.setTop (mkF m 57 #[.val (.long q1), .second, .val (.ref a2), .val (.ref a3), .val (.long (own_fc (own_fb (own_fc (-3750763034362895579 : Int64) c2) (0 : Int32)) c3)), .second] [(.long (own_mix ((own_mix q1) ^^^ (own_fc (own_fb (own_fc (-3750763034362895579 : Int64) c2) (0 : Int32)) c3))))])) tg → Steps p.tables e below (s₁.setTop (mkF m 0 #[.val (.long q1), .second, .val (.ref a2), .val (.ref a3), .unset, .unset] [])) tg := by
        intro tg kt
        refine R190 _ ?_
        refine st191 _ ?_
        exact kt
      clear R190 st191
      obtain ⟨fs, hr, hrun, hended, hW, hsame⟩ := X191.leave (v := some (.long (own_mix ((own_mix q1) ^^^ (own_fc (own_fb (own_fc (-3750763034362895579 : Int64) c2) (0 : Int32)) c3))))) (fun h => by rw [Bd.returns] at h; cases h)
      refine ⟨_, _, pre0 _ (R192 _ ?_), hrun, hended, _, _, rfl, ?_, ⟨_, rfl⟩, hW, hsame.mono (by decide) (by decide)⟩
      · exact X191.lreturnOut hx Bd.returns (hb hby d7_57) hr
      · show Q_rm_key Z q1 a2 a3 c2 c3 t2 t3 uu cs h0 n0 _ T191.heap _
        rw [hh191]
        exact ⟨rfl, N191, Kk183⟩
    · obtain ⟨T193, X193, e193, st193⟩ := getS2 X178 hx hZ hown (host := "") (Or.inl (hw _ (List.mem_of_getElem? (i := 36) rfl))) Via.refl hh178 (SU.ext OL_176.2) (g := (mkF m 36 #[.val (.long q1), .second, .val (.ref a2), .val (.ref a3), .val (.long (own_fb (own_fc (-3750763034362895579 : Int64) c2) (0 : Int32))), .second] [(.ref a3), (.long (own_fb (own_fc (-3750763034362895579 : Int64) c2) (0 : Int32)))])) rfl (hb hby d7_36)
      have R194 : ∀ tg, Steps p.tables e below (T193.setTop (mkF m 39 #[.val (.long q1), .second, .val (.ref a2), .val (.ref a3), .val (.long (own_fb (own_fc (-3750763034362895579 : Int64) c2) (0 : Int32))), .second] [(.ref uu), (.ref a3), (.long (own_fb (own_fc (-3750763034362895579 : Int64) c2) (0 : Int32)))])) tg → Steps p.tables e below (s₁.setTop (mkF m 0 #[.val (.long q1), .second, .val (.ref a2), .val (.ref a3), .unset, .unset] [])) tg := by
        intro tg kt
        refine R179 _ ?_
        refine st193 _ ?_
        exact kt
      clear R179 st193
      obtain ⟨cq195, kq195, q195a, q195b, q195c⟩ := isOf hZ e193 E3_176
      obtain ⟨_, _, ⟨T195, L195, k195, n195⟩, -, X195, ⟨Lc195, hQ195, l195, y195, z195⟩, st195⟩ := X193.virtualBack hx (y := (⟨"java/lang/String", "getBytes", "(Ljava/nio/charset/Charset;)[B"⟩ : MethodName)) (z := (⟨"java/lang/String", "getBytes", "(Ljava/nio/charset/Charset;)[B"⟩ : MethodName)) hown (mvT hZ (hw _ (List.mem_of_getElem? (i := 38) rfl))) (mvT hZ (hw _ (List.mem_of_getElem? (i := 39) rfl))) (notFace_of_selects (args := #[]) (mvT hZ (hw _ (List.mem_of_getElem? (i := 41) rfl)))) (mvT hZ (hw _ (List.mem_of_getElem? (i := 41) rfl))) (mvT hZ (hw _ (List.mem_of_getElem? (i := 40) rfl))) (by decide) (backOf (W := 2) (rm_gba l Z a0 hw [] a3 uu (own_bv c3) t3 cs h176 n0 Zs176 SC SI OL_176 hcs E3_176 Fv3_176 Fc3_176 VA3_176 EA3_176 hn3) hZ (hw _ (List.mem_of_getElem? (i := 42) rfl)) (hw _ (List.mem_of_getElem? (i := 2) rfl)) (by decide) (by decide)) q195a q195c (g := (mkF m 39 #[.val (.long q1), .second, .val (.ref a2), .val (.ref a3), .val (.long (own_fb (own_fc (-3750763034362895579 : Int64) c2) (0 : Int32))), .second] [(.ref uu), (.ref a3), (.long (own_fb (own_fc (-3750763034362895579 : Int64) c2) (0 : Int32)))])) rfl (by rw [hml]; rfl) (Steps.refl _) (argsL := [(.ref uu)]) (rest := [(.long (own_fb (own_fc (-3750763034362895579 : Int64) c2) (0 : Int32)))]) (lenOf pd_11 rfl) rfl (by show 2 * 0 + _ ≤ _; exact Nat.le_of_eq rfl) (hb hby d7_39) (fun _ _ => ⟨rfl, e193, (by decide : 2 + 1 ≤ _), (by decide : 3 + 1 ≤ _)⟩)
      dsimp only [Pt.U, Pt.locs, Pt.cells, Pt.slots] at X195 l195 y195 z195 st195 hQ195
      rw [l195, y195, z195] at X195
      obtain ⟨as_, rfl, N195q, szas_, K195, V195⟩ := hQ195
      have N195 := Fr.app N178 N195q
      have g_as_ : n0 ≤ as_ := Nat.le_trans Zs176 szas_
      have ne_a2_as_ : a2 ≠ as_ := Nat.ne_of_lt (Nat.lt_of_lt_of_le E2_176.lt szas_)
      have ne_t2_as_ : t2 ≠ as_ := Nat.ne_of_lt (Nat.lt_of_lt_of_le VA2_176.lt szas_)
      have ne_a3_as_ : a3 ≠ as_ := Nat.ne_of_lt (Nat.lt_of_lt_of_le E3_176.lt szas_)
      have ne_t3_as_ : t3 ≠ as_ := Nat.ne_of_lt (Nat.lt_of_lt_of_le VA3_176.lt szas_)
      have OL_196 := OL_176.keep K195 (own_ge0)
      have E2_196 := E2_176.keep K195
      have Fv2_196 := Fv2_176.keep K195 own_notin0
      have Fc2_196 := Fc2_176.keep K195 own_notin0
      have VA2_196 := VA2_176.keep K195 own_notin0
      have EA2_196 := EA2_176.keep K195
      have E3_196 := E3_176.keep K195
      have Fv3_196 := Fv3_176.keep K195 own_notin0
      have Fc3_196 := Fc3_176.keep K195 own_notin0
      have VA3_196 := VA3_176.keep K195 own_notin0
      have EA3_196 := EA3_176.keep K195
      clear OL_176 E2_176 Fv2_176 Fc2_176 VA2_176 EA2_176 E3_176 Fv3_176 Fc3_176 VA3_176 EA3_176
      have Zs196 : n0 ≤ T195.heap.size := Nat.le_trans Zs176 K195.1
      have Kk196 : Keep h0 T195.heap [] := Keep.trans Kw176 K195 (own_trans0 )
      have R197 : ∀ tg, Steps p.tables e below (T195.setTop (mkF m 42 #[.val (.long q1), .second, .val (.ref a2), .val (.ref a3), .val (.long (own_fb (own_fc (-3750763034362895579 : Int64) c2) (0 : Int32))), .second] [(.ref as_), (.long (own_fb (own_fc (-3750763034362895579 : Int64) c2) (0 : Int32)))])) tg → Steps p.tables e below (s₁.setTop (mkF m 0 #[.val (.long q1), .second, .val (.ref a2), .val (.ref a3), .unset, .unset] [])) tg := by
        intro tg kt
        refine R194 _ ?_
        refine st195.trans ?_
        exact kt
      clear R194 st195
      obtain ⟨_, _, ⟨T198, L198, k198, n198⟩, -, X198, ⟨Lc198, hQ198, l198, y198, z198⟩, st198⟩ := Jvm.LawKit.callS X195 hx (y := (⟨"com/example/loadloom/loadloom/Draws", "fnv1a", "(J[B)J"⟩ : MethodName)) hown (mvT hZ (hw _ (List.mem_of_getElem? (i := 72) rfl))) (mvT hZ (hw _ (List.mem_of_getElem? (i := 73) rfl))) (mvT hZ (hw _ (List.mem_of_getElem? (i := 28) rfl))) (mvT hZ (hw _ (List.mem_of_getElem? (i := 74) rfl))) (by decide) (backOf (W := 0) (rm_fn1 l Z a0 hw [] (own_fb (own_fc (-3750763034362895579 : Int64) c2) (0 : Int32)) as_ (fun _ => own_bv c3) T195.heap n0 Zs196 V195) hZ (hw _ (List.mem_of_getElem? (i := 74) rfl)) (hw _ (List.mem_of_getElem? (i := 28) rfl)) (by decide) (by decide)) (g := (mkF m 42 #[.val (.long q1), .second, .val (.ref a2), .val (.ref a3), .val (.long (own_fb (own_fc (-3750763034362895579 : Int64) c2) (0 : Int32))), .second] [(.ref as_), (.long (own_fb (own_fc (-3750763034362895579 : Int64) c2) (0 : Int32)))])) rfl (by rw [hml]; rfl) (argsL := [(.long (own_fb (own_fc (-3750763034362895579 : Int64) c2) (0 : Int32))), (.ref as_)]) (rest := []) (lenOf pd_12 rfl) rfl (by show 2 * 0 + _ ≤ _; exact Nat.le_of_eq rfl) (hb hby d7_42) (fun _ _ => ⟨rfl, rfl, (by decide : 3 + 0 ≤ _), (by decide : 4 + 0 ≤ _)⟩)
      dsimp only [Pt.U, Pt.locs, Pt.cells, Pt.slots] at X198 l198 y198 z198 st198 hQ198
      rw [l198, y198, z198] at X198
      obtain ⟨rfl, N198q, hh198⟩ := hQ198
      have N198 := Fr.app N195 N198q
      have R199 : ∀ tg, Steps p.tables e below (T198.setTop (mkF m 45 #[.val (.long q1), .second, .val (.ref a2), .val (.ref a3), .val (.long (own_fb (own_fc (-3750763034362895579 : Int64) c2) (0 : Int32))), .second] [(.long (own_fb (own_fb (own_fc (-3750763034362895579 : Int64) c2) (0 : Int32)) (own_bv c3)))])) tg → Steps p.tables e below (s₁.setTop (mkF m 0 #[.val (.long q1), .second, .val (.ref a2), .val (.ref a3), .unset, .unset] [])) tg := by
        intro tg kt
        refine R197 _ ?_
        refine st198 _ ?_
        exact kt
      clear R197 st198
      have R200 : ∀ tg, Steps p.tables e below (T198.setTop (mkF m 45 #[.val (.long q1), .second, .val (.ref a2), .val (.ref a3), .val (.long (own_fb (own_fc (-3750763034362895579 : Int64) c2) (0 : Int32))), .second] [(.long (own_fc (own_fb (own_fc (-3750763034362895579 : Int64) c2) (0 : Int32)) c3))])) tg → Steps p.tables e below (s₁.setTop (mkF m 0 #[.val (.long q1), .second, .val (.ref a2), .val (.ref a3), .unset, .unset] [])) tg := by intro tg kt; refine R199 tg ?_; rw [(own_fc1 (own_fb (own_fc (-3750763034362895579 : Int64) c2) (0 : Int32)) c3 hz3 hc3 hn3)]; exact kt
      have R201 : ∀ tg, Steps p.tables e below (T198.setTop (mkF m 48 #[.val (.long q1), .second, .val (.ref a2), .val (.ref a3), .val (.long (own_fc (own_fb (own_fc (-3750763034362895579 : Int64) c2) (0 : Int32)) c3)), .second] [(.long q1)])) tg → Steps p.tables e below (s₁.setTop (mkF m 0 #[.val (.long q1), .second, .val (.ref a2), .val (.ref a3), .unset, .unset] [])) tg := by
        intro tg kt
        refine R200 _ ?_
        show Steps p.tables e below (T198.setTop (mkF m 45 #[.val (.long q1), .second, .val (.ref a2), .val (.ref a3), .val (.long (own_fb (own_fc (-3750763034362895579 : Int64) c2) (0 : Int32))), .second] [(.long (own_fc (own_fb (own_fc (-3750763034362895579 : Int64) c2) (0 : Int32)) c3))])) _
        refine XS.lstore X198.here hx rfl (hb hby d7_45) rfl (l' := #[.val (.long q1), .second, .val (.ref a2), .val (.ref a3), .val (.long (own_fc (own_fb (own_fc (-3750763034362895579 : Int64) c2) (0 : Int32)) c3)), .second]) rfl ?_
        refine XS.lloadN X198.here hx rfl (hb hby d7_47) rfl ?_
        exact kt
      clear R200
      obtain ⟨_, _, ⟨T202, L202, k202, n202⟩, -, X202, ⟨Lc202, hQ202, l202, y202, z202⟩, st202⟩ := Jvm.LawKit.callS X198 hx (y := (⟨"com/example/loadloom/loadloom/Draws", "mix", "(J)J"⟩ : MethodName)) hown (mvT hZ (hw _ (List.mem_of_getElem? (i := 76) rfl))) (mvT hZ (hw _ (List.mem_of_getElem? (i := 77) rfl))) (mvT hZ (hw _ (List.mem_of_getElem? (i := 28) rfl))) (mvT hZ (hw _ (List.mem_of_getElem? (i := 78) rfl))) (by decide) (backOf (W := 0) (rm_mix l Z a0 hw [] q1 T195.heap n0 Zs196) hZ (hw _ (List.mem_of_getElem? (i := 78) rfl)) (hw _ (List.mem_of_getElem? (i := 28) rfl)) (by decide) (by decide)) (g := (mkF m 48 #[.val (.long q1), .second, .val (.ref a2), .val (.ref a3), .val (.long (own_fc (own_fb (own_fc (-3750763034362895579 : Int64) c2) (0 : Int32)) c3)), .second] [(.long q1)])) rfl (by rw [hml]; rfl) (argsL := [(.long q1)]) (rest := []) (lenOf pd_13 rfl) rfl (by show 2 * 0 + _ ≤ _; exact Nat.le_of_eq rfl) (hb hby d7_48) (fun _ _ => ⟨rfl, hh198, (by decide : 3 + 0 ≤ _), (by decide : 4 + 0 ≤ _)⟩)
      dsimp only [Pt.U, Pt.locs, Pt.cells, Pt.slots] at X202 l202 y202 z202 st202 hQ202
      rw [l202, y202, z202] at X202
      obtain ⟨rfl, N202q, hh202⟩ := hQ202
      have N202 := Fr.app N198 N202q
      have R203 : ∀ tg, Steps p.tables e below (T202.setTop (mkF m 54 #[.val (.long q1), .second, .val (.ref a2), .val (.ref a3), .val (.long (own_fc (own_fb (own_fc (-3750763034362895579 : Int64) c2) (0 : Int32)) c3)), .second] [(.long ((own_mix q1) ^^^ (own_fc (own_fb (own_fc (-3750763034362895579 : Int64) c2) (0 : Int32)) c3)))])) tg → Steps p.tables e below (s₁.setTop (mkF m 0 #[.val (.long q1), .second, .val (.ref a2), .val (.ref a3), .unset, .unset] [])) tg := by
        intro tg kt
        refine R201 _ ?_
        refine st202 _ ?_
        refine XS.lload X202.here hx rfl (hb hby d7_51) rfl ?_
        show Steps p.tables e below (T202.setTop (mkF m 53 #[.val (.long q1), .second, .val (.ref a2), .val (.ref a3), .val (.long (own_fc (own_fb (own_fc (-3750763034362895579 : Int64) c2) (0 : Int32)) c3)), .second] [(.long (own_fc (own_fb (own_fc (-3750763034362895579 : Int64) c2) (0 : Int32)) c3)), (.long (own_mix q1))])) _
        refine XS.lxor X202.here hx rfl (hb hby d7_53) rfl ?_
        exact kt
      clear R201 st202
      obtain ⟨_, _, ⟨T204, L204, k204, n204⟩, -, X204, ⟨Lc204, hQ204, l204, y204, z204⟩, st204⟩ := Jvm.LawKit.callS X202 hx (y := (⟨"com/example/loadloom/loadloom/Draws", "mix", "(J)J"⟩ : MethodName)) hown (mvT hZ (hw _ (List.mem_of_getElem? (i := 76) rfl))) (mvT hZ (hw _ (List.mem_of_getElem? (i := 77) rfl))) (mvT hZ (hw _ (List.mem_of_getElem? (i := 28) rfl))) (mvT hZ (hw _ (List.mem_of_getElem? (i := 78) rfl))) (by decide) (backOf (W := 0) (rm_mix l Z a0 hw [] ((own_mix q1) ^^^ (own_fc (own_fb (own_fc (-3750763034362895579 : Int64) c2) (0 : Int32)) c3)) T195.heap n0 Zs196) hZ (hw _ (List.mem_of_getElem? (i := 78) rfl)) (hw _ (List.mem_of_getElem? (i := 28) rfl)) (by decide) (by decide)) (g := (mkF m 54 #[.val (.long q1), .second, .val (.ref a2), .val (.ref a3), .val (.long (own_fc (own_fb (own_fc (-3750763034362895579 : Int64) c2) (0 : Int32)) c3)), .second] [(.long ((own_mix q1) ^^^ (own_fc (own_fb (own_fc (-3750763034362895579 : Int64) c2) (0 : Int32)) c3)))])) rfl (by rw [hml]; rfl) (argsL := [(.long ((own_mix q1) ^^^ (own_fc (own_fb (own_fc (-3750763034362895579 : Int64) c2) (0 : Int32)) c3)))]) (rest := []) (lenOf pd_13 rfl) rfl (by show 2 * 0 + _ ≤ _; exact Nat.le_of_eq rfl) (hb hby d7_54) (fun _ _ => ⟨rfl, hh202, (by decide : 3 + 0 ≤ _), (by decide : 4 + 0 ≤ _)⟩)
      dsimp only [Pt.U, Pt.locs, Pt.cells, Pt.slots] at X204 l204 y204 z204 st204 hQ204
      rw [l204, y204, z204] at X204
      obtain ⟨rfl, N204q, hh204⟩ := hQ204
      have N204 := Fr.app N202 N204q
      have R205 : ∀ tg, Steps p.tables e below (T204.setTop (mkF m 57 #[.val (.long q1), .second, .val (.ref a2), .val (.ref a3), .val (.long (own_fc (own_fb (own_fc (-3750763034362895579 : Int64) c2) (0 : Int32)) c3)), .second] [(.long (own_mix ((own_mix q1) ^^^ (own_fc (own_fb (own_fc (-3750763034362895579 : Int64) c2) (0 : Int32)) c3))))])) tg → Steps p.tables e below (s₁.setTop (mkF m 0 #[.val (.long q1), .second, .val (.ref a2), .val (.ref a3), .unset, .unset] [])) tg := by
        intro tg kt
        refine R203 _ ?_
        refine st204 _ ?_
        exact kt
      clear R203 st204
      obtain ⟨fs, hr, hrun, hended, hW, hsame⟩ := X204.leave (v := some (.long (own_mix ((own_mix q1) ^^^ (own_fc (own_fb (own_fc (-3750763034362895579 : Int64) c2) (0 : Int32)) c3))))) (fun h => by rw [Bd.returns] at h; cases h)
      refine ⟨_, _, pre0 _ (R205 _ ?_), hrun, hended, _, _, rfl, ?_, ⟨_, rfl⟩, hW, hsame.mono (by decide) (by decide)⟩
      · exact X204.lreturnOut hx Bd.returns (hb hby d7_57) hr
      · show Q_rm_key Z q1 a2 a3 c2 c3 t2 t3 uu cs h0 n0 _ T204.heap _
        rw [hh204]
        exact ⟨rfl, N204, Kk196⟩
  · obtain ⟨T206, X206, e206, st206⟩ := getS2 X0 hx hZ hown (host := "") (Or.inl (hw _ (List.mem_of_getElem? (i := 36) rfl))) Via.refl e0 (SU.ext OL.2) (g := (mkF m 8 #[.val (.long q1), .second, .val (.ref a2), .val (.ref a3), .val (.long (-3750763034362895579 : Int64)), .second] [(.ref a2), (.long (-3750763034362895579 : Int64))])) rfl (hb hby d7_8)
    have R207 : ∀ tg, Steps p.tables e below (T206.setTop (mkF m 11 #[.val (.long q1), .second, .val (.ref a2), .val (.ref a3), .val (.long (-3750763034362895579 : Int64)), .second] [(.ref uu), (.ref a2), (.long (-3750763034362895579 : Int64))])) tg → Steps p.tables e below (s₁.setTop (mkF m 0 #[.val (.long q1), .second, .val (.ref a2), .val (.ref a3), .unset, .unset] [])) tg := by
      intro tg kt
      refine R163 _ ?_
      refine st206 _ ?_
      exact kt
    clear R163 st206
    obtain ⟨cq208, kq208, q208a, q208b, q208c⟩ := isOf hZ e206 E2
    obtain ⟨_, _, ⟨T208, L208, k208, n208⟩, -, X208, ⟨Lc208, hQ208, l208, y208, z208⟩, st208⟩ := X206.virtualBack hx (y := (⟨"java/lang/String", "getBytes", "(Ljava/nio/charset/Charset;)[B"⟩ : MethodName)) (z := (⟨"java/lang/String", "getBytes", "(Ljava/nio/charset/Charset;)[B"⟩ : MethodName)) hown (mvT hZ (hw _ (List.mem_of_getElem? (i := 38) rfl))) (mvT hZ (hw _ (List.mem_of_getElem? (i := 39) rfl))) (notFace_of_selects (args := #[]) (mvT hZ (hw _ (List.mem_of_getElem? (i := 41) rfl)))) (mvT hZ (hw _ (List.mem_of_getElem? (i := 41) rfl))) (mvT hZ (hw _ (List.mem_of_getElem? (i := 40) rfl))) (by decide) (backOf (W := 2) (rm_gba l Z a0 hw [] a2 uu (own_bv c2) t2 cs h0 n0 Z0 SC SI OL hcs E2 Fv2 Fc2 VA2 EA2 hn2) hZ (hw _ (List.mem_of_getElem? (i := 42) rfl)) (hw _ (List.mem_of_getElem? (i := 2) rfl)) (by decide) (by decide)) q208a q208c (g := (mkF m 11 #[.val (.long q1), .second, .val (.ref a2), .val (.ref a3), .val (.long (-3750763034362895579 : Int64)), .second] [(.ref uu), (.ref a2), (.long (-3750763034362895579 : Int64))])) rfl (by rw [hml]; rfl) (Steps.refl _) (argsL := [(.ref uu)]) (rest := [(.long (-3750763034362895579 : Int64))]) (lenOf pd_11 rfl) rfl (by show 2 * 0 + _ ≤ _; exact Nat.le_of_eq rfl) (hb hby d7_11) (fun _ _ => ⟨rfl, e206, (by decide : 0 + 1 ≤ _), (by decide : 0 + 1 ≤ _)⟩)
    dsimp only [Pt.U, Pt.locs, Pt.cells, Pt.slots] at X208 l208 y208 z208 st208 hQ208
    rw [l208, y208, z208] at X208
    obtain ⟨ar, rfl, N208q, szar, K208, V208⟩ := hQ208
    have N208 := Fr.app N0 N208q
    have g_ar : n0 ≤ ar := Nat.le_trans Z0 szar
    have ne_a2_ar : a2 ≠ ar := Nat.ne_of_lt (Nat.lt_of_lt_of_le E2.lt szar)
    have ne_t2_ar : t2 ≠ ar := Nat.ne_of_lt (Nat.lt_of_lt_of_le VA2.lt szar)
    have ne_a3_ar : a3 ≠ ar := Nat.ne_of_lt (Nat.lt_of_lt_of_le E3.lt szar)
    have ne_t3_ar : t3 ≠ ar := Nat.ne_of_lt (Nat.lt_of_lt_of_le VA3.lt szar)
    have OL_209 := OL.keep K208 (own_ge0)
    have E2_209 := E2.keep K208
    have Fv2_209 := Fv2.keep K208 own_notin0
    have Fc2_209 := Fc2.keep K208 own_notin0
    have VA2_209 := VA2.keep K208 own_notin0
    have EA2_209 := EA2.keep K208
    have E3_209 := E3.keep K208
    have Fv3_209 := Fv3.keep K208 own_notin0
    have Fc3_209 := Fc3.keep K208 own_notin0
    have VA3_209 := VA3.keep K208 own_notin0
    have EA3_209 := EA3.keep K208
    have Zs209 : n0 ≤ T208.heap.size := Nat.le_trans Z0 K208.1
    have Kk209 : Keep h0 T208.heap [] := Keep.trans (Keep.refl h0 []) K208 (own_trans0 )
    have R210 : ∀ tg, Steps p.tables e below (T208.setTop (mkF m 14 #[.val (.long q1), .second, .val (.ref a2), .val (.ref a3), .val (.long (-3750763034362895579 : Int64)), .second] [(.ref ar), (.long (-3750763034362895579 : Int64))])) tg → Steps p.tables e below (s₁.setTop (mkF m 0 #[.val (.long q1), .second, .val (.ref a2), .val (.ref a3), .unset, .unset] [])) tg := by
      intro tg kt
      refine R207 _ ?_
      refine st208.trans ?_
      exact kt
    clear R207 st208
    obtain ⟨_, _, ⟨T211, L211, k211, n211⟩, -, X211, ⟨Lc211, hQ211, l211, y211, z211⟩, st211⟩ := Jvm.LawKit.callS X208 hx (y := (⟨"com/example/loadloom/loadloom/Draws", "fnv1a", "(J[B)J"⟩ : MethodName)) hown (mvT hZ (hw _ (List.mem_of_getElem? (i := 72) rfl))) (mvT hZ (hw _ (List.mem_of_getElem? (i := 73) rfl))) (mvT hZ (hw _ (List.mem_of_getElem? (i := 28) rfl))) (mvT hZ (hw _ (List.mem_of_getElem? (i := 74) rfl))) (by decide) (backOf (W := 0) (rm_fn1 l Z a0 hw [] (-3750763034362895579 : Int64) ar (fun _ => own_bv c2) T208.heap n0 Zs209 V208) hZ (hw _ (List.mem_of_getElem? (i := 74) rfl)) (hw _ (List.mem_of_getElem? (i := 28) rfl)) (by decide) (by decide)) (g := (mkF m 14 #[.val (.long q1), .second, .val (.ref a2), .val (.ref a3), .val (.long (-3750763034362895579 : Int64)), .second] [(.ref ar), (.long (-3750763034362895579 : Int64))])) rfl (by rw [hml]; rfl) (argsL := [(.long (-3750763034362895579 : Int64)), (.ref ar)]) (rest := []) (lenOf pd_12 rfl) rfl (by show 2 * 0 + _ ≤ _; exact Nat.le_of_eq rfl) (hb hby d7_14) (fun _ _ => ⟨rfl, rfl, (by decide : 1 + 0 ≤ _), (by decide : 1 + 0 ≤ _)⟩)
    dsimp only [Pt.U, Pt.locs, Pt.cells, Pt.slots] at X211 l211 y211 z211 st211 hQ211
    rw [l211, y211, z211] at X211
    obtain ⟨rfl, N211q, hh211⟩ := hQ211
    have N211 := Fr.app N208 N211q
    have R212 : ∀ tg, Steps p.tables e below (T211.setTop (mkF m 17 #[.val (.long q1), .second, .val (.ref a2), .val (.ref a3), .val (.long (-3750763034362895579 : Int64)), .second] [(.long (own_fb (-3750763034362895579 : Int64) (own_bv c2)))])) tg → Steps p.tables e below (s₁.setTop (mkF m 0 #[.val (.long q1), .second, .val (.ref a2), .val (.ref a3), .unset, .unset] [])) tg := by
      intro tg kt
      refine R210 _ ?_
      refine st211 _ ?_
      exact kt
    clear R210 st211
    have R213 : ∀ tg, Steps p.tables e below (T211.setTop (mkF m 17 #[.val (.long q1), .second, .val (.ref a2), .val (.ref a3), .val (.long (-3750763034362895579 : Int64)), .second] [(.long (own_fc (-3750763034362895579 : Int64) c2))])) tg → Steps p.tables e below (s₁.setTop (mkF m 0 #[.val (.long q1), .second, .val (.ref a2), .val (.ref a3), .unset, .unset] [])) tg := by intro tg kt; refine R212 tg ?_; rw [(own_fc1 (-3750763034362895579 : Int64) c2 hz2 hc2 hn2)]; exact kt
    have R214 : ∀ tg, Steps p.tables e below (T211.setTop (mkF m 22 #[.val (.long q1), .second, .val (.ref a2), .val (.ref a3), .val (.long (own_fc (-3750763034362895579 : Int64) c2)), .second] [(.int (1 : Int32)), (.long (own_fc (-3750763034362895579 : Int64) c2))])) tg → Steps p.tables e below (s₁.setTop (mkF m 0 #[.val (.long q1), .second, .val (.ref a2), .val (.ref a3), .unset, .unset] [])) tg := by
      intro tg kt
      refine R213 _ ?_
      show Steps p.tables e below (T211.setTop (mkF m 17 #[.val (.long q1), .second, .val (.ref a2), .val (.ref a3), .val (.long (-3750763034362895579 : Int64)), .second] [(.long (own_fc (-3750763034362895579 : Int64) c2))])) _
      refine XS.lstore X211.here hx rfl (hb hby d7_17) rfl (l' := #[.val (.long q1), .second, .val (.ref a2), .val (.ref a3), .val (.long (own_fc (-3750763034362895579 : Int64) c2)), .second]) rfl ?_
      refine XS.lload X211.here hx rfl (hb hby d7_19) rfl ?_
      refine XS.iconst X211.here hx rfl (hb hby d7_21) ?_
      exact kt
    clear R213
    obtain ⟨T215, h215, k215, X215, e215, E215, A215, st215⟩ := newP X211 hx hZ (hw _ (List.mem_of_getElem? (i := 14) rfl)) hh211 (g := (mkF m 22 #[.val (.long q1), .second, .val (.ref a2), .val (.ref a3), .val (.long (own_fc (-3750763034362895579 : Int64) c2)), .second] [(.int (1 : Int32)), (.long (own_fc (-3750763034362895579 : Int64) c2))])) rfl (hb hby d7_22) rfl (by decide) (cap := 1) (by decide) (by decide) (by decide) (by decide)
    obtain ⟨ze, g215⟩ : ∃ z, z = T208.heap.size := ⟨_, rfl⟩
    rw [← g215] at A215 st215
    have g_ze : n0 ≤ ze := Nat.le_trans Zs209 (Nat.le_of_eq g215.symm)
    have sz_ze : h0.size ≤ ze := Nat.le_trans Kk209.1 (Nat.le_of_eq g215.symm)
    have ne_a2_ze : a2 ≠ ze := Nat.ne_of_lt (Nat.lt_of_lt_of_le E2_209.lt (Nat.le_of_eq g215.symm))
    have ne_t2_ze : t2 ≠ ze := Nat.ne_of_lt (Nat.lt_of_lt_of_le VA2_209.lt (Nat.le_of_eq g215.symm))
    have ne_a3_ze : a3 ≠ ze := Nat.ne_of_lt (Nat.lt_of_lt_of_le E3_209.lt (Nat.le_of_eq g215.symm))
    have ne_t3_ze : t3 ≠ ze := Nat.ne_of_lt (Nat.lt_of_lt_of_le VA3_209.lt (Nat.le_of_eq g215.symm))
    have OL_215 := OL_209.ext E215
    have E2_215 := E2_209.ext E215
    have Fv2_215 := Fv2_209.ext E215
    have Fc2_215 := Fc2_209.ext E215
    have VA2_215 := VA2_209.ext E215
    have EA2_215 := EA2_209.ext E215
    have E3_215 := E3_209.ext E215
    have Fv3_215 := Fv3_209.ext E215
    have Fc3_215 := Fc3_209.ext E215
    have VA3_215 := VA3_209.ext E215
    have EA3_215 := EA3_209.ext E215
    clear OL_209 E2_209 Fv2_209 Fc2_209 VA2_209 EA2_209 E3_209 Fv3_209 Fc3_209 VA3_209 EA3_209
    have Zs215 : n0 ≤ h215.size := Nat.le_trans Zs209 E215.1
    have Ke215 : Keep h0 h215 [] := Keep.ext Kk209 E215
    have VZ : AV Z h215 ze .byte 1 (fun _ => defaultValue .byte) := AV.new A215 rfl rfl
    have R216 : ∀ tg, Steps p.tables e below (T215.setTop (mkF m 27 #[.val (.long q1), .second, .val (.ref a2), .val (.ref a3), .val (.long (own_fc (-3750763034362895579 : Int64) c2)), .second] [(.int (0 : Int32)), (.int (0 : Int32)), (.ref ze), (.ref ze), (.long (own_fc (-3750763034362895579 : Int64) c2))])) tg → Steps p.tables e below (s₁.setTop (mkF m 0 #[.val (.long q1), .second, .val (.ref a2), .val (.ref a3), .unset, .unset] [])) tg := by
      intro tg kt
      refine R214 _ ?_
      refine st215 _ ?_
      show Steps p.tables e below (T215.setTop (mkF m 24 #[.val (.long q1), .second, .val (.ref a2), .val (.ref a3), .val (.long (own_fc (-3750763034362895579 : Int64) c2)), .second] [(.ref ze), (.long (own_fc (-3750763034362895579 : Int64) c2))])) _
      refine XS.dup X215.here hx rfl (hb hby d7_24) rfl rfl ?_
      refine XS.iconst X215.here hx rfl (hb hby d7_25) ?_
      refine XS.iconst X215.here hx rfl (hb hby d7_26) ?_
      exact kt
    clear R214 st215
    obtain ⟨cl217, Ar217, hin217, -⟩ := VZ.at (j := (0 : Int32)) (k := 0) (by decide) rfl (by decide)
    obtain ⟨T218, h218, X218, e218, W218, st218⟩ := stB X215 hx hZ e215 Ar217 (j := (0 : Int32)) hin217 (g := (mkF m 27 #[.val (.long q1), .second, .val (.ref a2), .val (.ref a3), .val (.long (own_fc (-3750763034362895579 : Int64) c2)), .second] [(.int (0 : Int32)), (.int (0 : Int32)), (.ref ze), (.ref ze), (.long (own_fc (-3750763034362895579 : Int64) c2))])) rfl rfl (hb hby d7_27)
    have N218 := Fr.snoc X218 N211 g_ze
    rw [show ((0 : Int32) : Int32).toNatClampNeg = 0 from rfl] at W218
    have VZ_218 := VZ.set W218 (fits_nar_byte _)
    have OL_218 := OL_215.wr W218 g_ze
    have E2_218 := E2_215.wr W218
    have Fv2_218 := Fv2_215.other W218 (Or.inl ne_a2_ze)
    have Fc2_218 := Fc2_215.other W218 (Or.inl ne_a2_ze)
    have VA2_218 := VA2_215.other W218 ne_t2_ze
    have EA2_218 := EA2_215.wr W218
    have E3_218 := E3_215.wr W218
    have Fv3_218 := Fv3_215.other W218 (Or.inl ne_a3_ze)
    have Fc3_218 := Fc3_215.other W218 (Or.inl ne_a3_ze)
    have VA3_218 := VA3_215.other W218 ne_t3_ze
    have EA3_218 := EA3_215.wr W218
    clear OL_215 E2_215 Fv2_215 Fc2_215 VA2_215 EA2_215 E3_215 Fv3_215 Fc3_215 VA3_215 EA3_215
    have Zs218 : n0 ≤ h218.size := Nat.le_trans Zs215 (Keep.of_wr W218).1
    have Kw218 : Keep h0 h218 [] := Keep.wr Ke215 W218 (Or.inr sz_ze)
    have R219 : ∀ tg, Steps p.tables e below (T218.setTop (mkF m 28 #[.val (.long q1), .second, .val (.ref a2), .val (.ref a3), .val (.long (own_fc (-3750763034362895579 : Int64) c2)), .second] [(.ref ze), (.long (own_fc (-3750763034362895579 : Int64) c2))])) tg → Steps p.tables e below (s₁.setTop (mkF m 0 #[.val (.long q1), .second, .val (.ref a2), .val (.ref a3), .unset, .unset] [])) tg := by
      intro tg kt
      refine R216 _ ?_
      refine st218 _ ?_
      exact kt
    clear R216 st218
    have VZz : AV Z h218 ze .byte 1 (fun j => .int ((fun _ => (0 : Int32)) j)) := AV.congr VZ_218 (fun j hj => by cases Nat.lt_one_iff.mp hj; rfl)
    obtain ⟨_, _, ⟨T220, L220, k220, n220⟩, -, X220, ⟨Lc220, hQ220, l220, y220, z220⟩, st220⟩ := Jvm.LawKit.callS X218 hx (y := (⟨"com/example/loadloom/loadloom/Draws", "fnv1a", "(J[B)J"⟩ : MethodName)) hown (mvT hZ (hw _ (List.mem_of_getElem? (i := 72) rfl))) (mvT hZ (hw _ (List.mem_of_getElem? (i := 73) rfl))) (mvT hZ (hw _ (List.mem_of_getElem? (i := 28) rfl))) (mvT hZ (hw _ (List.mem_of_getElem? (i := 74) rfl))) (by decide) (backOf (W := 0) (rm_fn1 l Z a0 hw [] (own_fc (-3750763034362895579 : Int64) c2) ze (fun _ => (0 : Int32)) h218 n0 Zs218 VZz) hZ (hw _ (List.mem_of_getElem? (i := 74) rfl)) (hw _ (List.mem_of_getElem? (i := 28) rfl)) (by decide) (by decide)) (g := (mkF m 28 #[.val (.long q1), .second, .val (.ref a2), .val (.ref a3), .val (.long (own_fc (-3750763034362895579 : Int64) c2)), .second] [(.ref ze), (.long (own_fc (-3750763034362895579 : Int64) c2))])) rfl (by rw [hml]; rfl) (argsL := [(.long (own_fc (-3750763034362895579 : Int64) c2)), (.ref ze)]) (rest := []) (lenOf pd_12 rfl) rfl (by show 2 * 0 + _ ≤ _; exact Nat.le_of_eq rfl) (hb hby d7_28) (fun _ _ => ⟨rfl, e218, (by decide : 2 + 0 ≤ _), (by decide : 2 + 0 ≤ _)⟩)
    dsimp only [Pt.U, Pt.locs, Pt.cells, Pt.slots] at X220 l220 y220 z220 st220 hQ220
    rw [l220, y220, z220] at X220
    obtain ⟨rfl, N220q, hh220⟩ := hQ220
    have N220 := Fr.app N218 N220q
    have R221 : ∀ tg, Steps p.tables e below (T220.setTop (mkF m 36 #[.val (.long q1), .second, .val (.ref a2), .val (.ref a3), .val (.long (own_fb (own_fc (-3750763034362895579 : Int64) c2) (0 : Int32))), .second] [(.ref a3), (.long (own_fb (own_fc (-3750763034362895579 : Int64) c2) (0 : Int32)))])) tg → Steps p.tables e below (s₁.setTop (mkF m 0 #[.val (.long q1), .second, .val (.ref a2), .val (.ref a3), .unset, .unset] [])) tg := by
      intro tg kt
      refine R219 _ ?_
      refine st220 _ ?_
      show Steps p.tables e below (T220.setTop (mkF m 31 #[.val (.long q1), .second, .val (.ref a2), .val (.ref a3), .val (.long (own_fc (-3750763034362895579 : Int64) c2)), .second] [(.long (own_fb (own_fc (-3750763034362895579 : Int64) c2) (0 : Int32)))])) _
      refine XS.lstore X220.here hx rfl (hb hby d7_31) rfl (l' := #[.val (.long q1), .second, .val (.ref a2), .val (.ref a3), .val (.long (own_fb (own_fc (-3750763034362895579 : Int64) c2) (0 : Int32))), .second]) rfl ?_
      refine XS.lload X220.here hx rfl (hb hby d7_33) rfl ?_
      refine XS.aloadN X220.here hx rfl (hb hby d7_35) rfl rfl ?_
      exact kt
    clear R219 st220
    by_cases hn3 : own_bv c3 < (0 : Int32)
    · obtain ⟨T222, X222, e222, st222⟩ := getS2 X220 hx hZ hown (host := "") (Or.inl (hw _ (List.mem_of_getElem? (i := 36) rfl))) Via.refl hh220 (SU.ext OL_218.2) (g := (mkF m 36 #[.val (.long q1), .second, .val (.ref a2), .val (.ref a3), .val (.long (own_fb (own_fc (-3750763034362895579 : Int64) c2) (0 : Int32))), .second] [(.ref a3), (.long (own_fb (own_fc (-3750763034362895579 : Int64) c2) (0 : Int32)))])) rfl (hb hby d7_36)
      have R223 : ∀ tg, Steps p.tables e below (T222.setTop (mkF m 39 #[.val (.long q1), .second, .val (.ref a2), .val (.ref a3), .val (.long (own_fb (own_fc (-3750763034362895579 : Int64) c2) (0 : Int32))), .second] [(.ref uu), (.ref a3), (.long (own_fb (own_fc (-3750763034362895579 : Int64) c2) (0 : Int32)))])) tg → Steps p.tables e below (s₁.setTop (mkF m 0 #[.val (.long q1), .second, .val (.ref a2), .val (.ref a3), .unset, .unset] [])) tg := by
        intro tg kt
        refine R221 _ ?_
        refine st222 _ ?_
        exact kt
      clear R221 st222
      obtain ⟨cq224, kq224, q224a, q224b, q224c⟩ := isOf hZ e222 E3_218
      obtain ⟨_, _, ⟨T224, L224, k224, n224⟩, -, X224, ⟨Lc224, hQ224, l224, y224, z224⟩, st224⟩ := X222.virtualBack hx (y := (⟨"java/lang/String", "getBytes", "(Ljava/nio/charset/Charset;)[B"⟩ : MethodName)) (z := (⟨"java/lang/String", "getBytes", "(Ljava/nio/charset/Charset;)[B"⟩ : MethodName)) hown (mvT hZ (hw _ (List.mem_of_getElem? (i := 38) rfl))) (mvT hZ (hw _ (List.mem_of_getElem? (i := 39) rfl))) (notFace_of_selects (args := #[]) (mvT hZ (hw _ (List.mem_of_getElem? (i := 41) rfl)))) (mvT hZ (hw _ (List.mem_of_getElem? (i := 41) rfl))) (mvT hZ (hw _ (List.mem_of_getElem? (i := 40) rfl))) (by decide) (backOf (W := 2) (rm_gbb l Z a0 hw [] a3 uu (own_bv c3) t3 cs h218 n0 Zs218 SC SI OL_218 hcs E3_218 Fv3_218 Fc3_218 VA3_218 EA3_218 hn3) hZ (hw _ (List.mem_of_getElem? (i := 42) rfl)) (hw _ (List.mem_of_getElem? (i := 2) rfl)) (by decide) (by decide)) q224a q224c (g := (mkF m 39 #[.val (.long q1), .second, .val (.ref a2), .val (.ref a3), .val (.long (own_fb (own_fc (-3750763034362895579 : Int64) c2) (0 : Int32))), .second] [(.ref uu), (.ref a3), (.long (own_fb (own_fc (-3750763034362895579 : Int64) c2) (0 : Int32)))])) rfl (by rw [hml]; rfl) (Steps.refl _) (argsL := [(.ref uu)]) (rest := [(.long (own_fb (own_fc (-3750763034362895579 : Int64) c2) (0 : Int32)))]) (lenOf pd_11 rfl) rfl (by show 2 * 0 + _ ≤ _; exact Nat.le_of_eq rfl) (hb hby d7_39) (fun _ _ => ⟨rfl, e222, (by decide : 2 + 1 ≤ _), (by decide : 2 + 2 ≤ _)⟩)
      dsimp only [Pt.U, Pt.locs, Pt.cells, Pt.slots] at X224 l224 y224 z224 st224 hQ224
      rw [l224, y224, z224] at X224
      obtain ⟨as_, rfl, N224q, szas_, K224, V224⟩ := hQ224
      have N224 := Fr.app N220 N224q
      have g_as_ : n0 ≤ as_ := Nat.le_trans Zs218 szas_
      have ne_a2_as_ : a2 ≠ as_ := Nat.ne_of_lt (Nat.lt_of_lt_of_le E2_218.lt szas_)
      have ne_t2_as_ : t2 ≠ as_ := Nat.ne_of_lt (Nat.lt_of_lt_of_le VA2_218.lt szas_)
      have ne_a3_as_ : a3 ≠ as_ := Nat.ne_of_lt (Nat.lt_of_lt_of_le E3_218.lt szas_)
      have ne_t3_as_ : t3 ≠ as_ := Nat.ne_of_lt (Nat.lt_of_lt_of_le VA3_218.lt szas_)
      have OL_225 := OL_218.keep K224 (own_ge0)
      have E2_225 := E2_218.keep K224
      have Fv2_225 := Fv2_218.keep K224 own_notin0
      have Fc2_225 := Fc2_218.keep K224 own_notin0
      have VA2_225 := VA2_218.keep K224 own_notin0
      have EA2_225 := EA2_218.keep K224
      have E3_225 := E3_218.keep K224
      have Fv3_225 := Fv3_218.keep K224 own_notin0
      have Fc3_225 := Fc3_218.keep K224 own_notin0
      have VA3_225 := VA3_218.keep K224 own_notin0
      have EA3_225 := EA3_218.keep K224
      clear OL_218 E2_218 Fv2_218 Fc2_218 VA2_218 EA2_218 E3_218 Fv3_218 Fc3_218 VA3_218 EA3_218
      have Zs225 : n0 ≤ T224.heap.size := Nat.le_trans Zs218 K224.1
      have Kk225 : Keep h0 T224.heap [] := Keep.trans Kw218 K224 (own_trans0 )
      have R226 : ∀ tg, Steps p.tables e below (T224.setTop (mkF m 42 #[.val (.long q1), .second, .val (.ref a2), .val (.ref a3), .val (.long (own_fb (own_fc (-3750763034362895579 : Int64) c2) (0 : Int32))), .second] [(.ref as_), (.long (own_fb (own_fc (-3750763034362895579 : Int64) c2) (0 : Int32)))])) tg → Steps p.tables e below (s₁.setTop (mkF m 0 #[.val (.long q1), .second, .val (.ref a2), .val (.ref a3), .unset, .unset] [])) tg := by
        intro tg kt
        refine R223 _ ?_
        refine st224.trans ?_
        exact kt
      clear R223 st224
      obtain ⟨_, _, ⟨T227, L227, k227, n227⟩, -, X227, ⟨Lc227, hQ227, l227, y227, z227⟩, st227⟩ := Jvm.LawKit.callS X224 hx (y := (⟨"com/example/loadloom/loadloom/Draws", "fnv1a", "(J[B)J"⟩ : MethodName)) hown (mvT hZ (hw _ (List.mem_of_getElem? (i := 72) rfl))) (mvT hZ (hw _ (List.mem_of_getElem? (i := 73) rfl))) (mvT hZ (hw _ (List.mem_of_getElem? (i := 28) rfl))) (mvT hZ (hw _ (List.mem_of_getElem? (i := 74) rfl))) (by decide) (backOf (W := 0) (rm_fn2 l Z a0 hw [] (own_fb (own_fc (-3750763034362895579 : Int64) c2) (0 : Int32)) as_ (own_v2 (own_d0 (own_bv c3)) (own_d1 (own_bv c3))) T224.heap n0 Zs225 V224) hZ (hw _ (List.mem_of_getElem? (i := 74) rfl)) (hw _ (List.mem_of_getElem? (i := 28) rfl)) (by decide) (by decide)) (g := (mkF m 42 #[.val (.long q1), .second, .val (.ref a2), .val (.ref a3), .val (.long (own_fb (own_fc (-3750763034362895579 : Int64) c2) (0 : Int32))), .second] [(.ref as_), (.long (own_fb (own_fc (-3750763034362895579 : Int64) c2) (0 : Int32)))])) rfl (by rw [hml]; rfl) (argsL := [(.long (own_fb (own_fc (-3750763034362895579 : Int64) c2) (0 : Int32))), (.ref as_)]) (rest := []) (lenOf pd_12 rfl) rfl (by show 2 * 0 + _ ≤ _; exact Nat.le_of_eq rfl) (hb hby d7_42) (fun _ _ => ⟨rfl, rfl, (by decide : 3 + 0 ≤ _), (by decide : 4 + 0 ≤ _)⟩)
      dsimp only [Pt.U, Pt.locs, Pt.cells, Pt.slots] at X227 l227 y227 z227 st227 hQ227
      rw [l227, y227, z227] at X227
      obtain ⟨rfl, N227q, hh227⟩ := hQ227
      have N227 := Fr.app N224 N227q
      have R228 : ∀ tg, Steps p.tables e below (T227.setTop (mkF m 45 #[.val (.long q1), .second, .val (.ref a2), .val (.ref a3), .val (.long (own_fb (own_fc (-3750763034362895579 : Int64) c2) (0 : Int32))), .second] [(.long (own_fb (own_fb (own_fb (own_fc (-3750763034362895579 : Int64) c2) (0 : Int32)) (own_d0 (own_bv c3))) (own_d1 (own_bv c3))))])) tg → Steps p.tables e below (s₁.setTop (mkF m 0 #[.val (.long q1), .second, .val (.ref a2), .val (.ref a3), .unset, .unset] [])) tg := by
        intro tg kt
        refine R226 _ ?_
        refine st227 _ ?_
        exact kt
      clear R226 st227
      have R229 : ∀ tg, Steps p.tables e below (T227.setTop (mkF m 45 #[.val (.long q1), .second, .val (.ref a2), .val (.ref a3), .val (.long (own_fb (own_fc (-3750763034362895579 : Int64) c2) (0 : Int32))), .second] [(.long (own_fc (own_fb (own_fc (-3750763034362895579 : Int64) c2) (0 : Int32)) c3))])) tg → Steps p.tables e below (s₁.setTop (mkF m 0 #[.val (.long q1), .second, .val (.ref a2), .val (.ref a3), .unset, .unset] [])) tg := by intro tg kt; refine R228 tg ?_; rw [(own_fc2 (own_fb (own_fc (-3750763034362895579 : Int64) c2) (0 : Int32)) c3 hz3 hc3 hn3)]; exact kt
      have R230 : ∀ tg, Steps p.tables e below (T227.setTop (mkF m 48 #[.val (.long q1), .second, .val (.ref a2), .val (.ref a3), .val (.long (own_fc (own_fb (own_fc (-3750763034362895579 : Int64) c2) (0 : Int32)) c3)), .second] [(.long q1)])) tg → Steps p.tables e below (s₁.setTop (mkF m 0 #[.val (.long q1), .second, .val (.ref a2), .val (.ref a3), .unset, .unset] [])) tg := by
        intro tg kt
        refine R229 _ ?_
        show Steps p.tables e below (T227.setTop (mkF m 45 #[.val (.long q1), .second, .val (.ref a2), .val (.ref a3), .val (.long (own_fb (own_fc (-3750763034362895579 : Int64) c2) (0 : Int32))), .second] [(.long (own_fc (own_fb (own_fc (-3750763034362895579 : Int64) c2) (0 : Int32)) c3))])) _
        refine XS.lstore X227.here hx rfl (hb hby d7_45) rfl (l' := #[.val (.long q1), .second, .val (.ref a2), .val (.ref a3), .val (.long (own_fc (own_fb (own_fc (-3750763034362895579 : Int64) c2) (0 : Int32)) c3)), .second]) rfl ?_
        refine XS.lloadN X227.here hx rfl (hb hby d7_47) rfl ?_
        exact kt
      clear R229
      obtain ⟨_, _, ⟨T231, L231, k231, n231⟩, -, X231, ⟨Lc231, hQ231, l231, y231, z231⟩, st231⟩ := Jvm.LawKit.callS X227 hx (y := (⟨"com/example/loadloom/loadloom/Draws", "mix", "(J)J"⟩ : MethodName)) hown (mvT hZ (hw _ (List.mem_of_getElem? (i := 76) rfl))) (mvT hZ (hw _ (List.mem_of_getElem? (i := 77) rfl))) (mvT hZ (hw _ (List.mem_of_getElem? (i := 28) rfl))) (mvT hZ (hw _ (List.mem_of_getElem? (i := 78) rfl))) (by decide) (backOf (W := 0) (rm_mix l Z a0 hw [] q1 T224.heap n0 Zs225) hZ (hw _ (List.mem_of_getElem? (i := 78) rfl)) (hw _ (List.mem_of_getElem? (i := 28) rfl)) (by decide) (by decide)) (g := (mkF m 48 #[.val (.long q1), .second, .val (.ref a2), .val (.ref a3), .val (.long (own_fc (own_fb (own_fc (-3750763034362895579 : Int64) c2) (0 : Int32)) c3)), .second] [(.long q1)])) rfl (by rw [hml]; rfl) (argsL := [(.long q1)]) (rest := []) (lenOf pd_13 rfl) rfl (by show 2 * 0 + _ ≤ _; exact Nat.le_of_eq rfl) (hb hby d7_48) (fun _ _ => ⟨rfl, hh227, (by decide : 3 + 0 ≤ _), (by decide : 4 + 0 ≤ _)⟩)
      dsimp only [Pt.U, Pt.locs, Pt.cells, Pt.slots] at X231 l231 y231 z231 st231 hQ231
      rw [l231, y231, z231] at X231
      obtain ⟨rfl, N231q, hh231⟩ := hQ231
      have N231 := Fr.app N227 N231q
      have R232 : ∀ tg, Steps p.tables e below (T231.setTop (mkF m 54 #[.val (.long q1), .second, .val (.ref a2), .val (.ref a3), .val (.long (own_fc (own_fb (own_fc (-3750763034362895579 : Int64) c2) (0 : Int32)) c3)), .second] [(.long ((own_mix q1) ^^^ (own_fc (own_fb (own_fc (-3750763034362895579 : Int64) c2) (0 : Int32)) c3)))])) tg → Steps p.tables e below (s₁.setTop (mkF m 0 #[.val (.long q1), .second, .val (.ref a2), .val (.ref a3), .unset, .unset] [])) tg := by
        intro tg kt
        refine R230 _ ?_
        refine st231 _ ?_
        refine XS.lload X231.here hx rfl (hb hby d7_51) rfl ?_
        show Steps p.tables e below (T231.setTop (mkF m 53 #[.val (.long q1), .second, .val (.ref a2), .val (.ref a3), .val (.long (own_fc (own_fb (own_fc (-3750763034362895579 : Int64) c2) (0 : Int32)) c3)), .second] [(.long (own_fc (own_fb (own_fc (-3750763034362895579 : Int64) c2) (0 : Int32)) c3)), (.long (own_mix q1))])) _
        refine XS.lxor X231.here hx rfl (hb hby d7_53) rfl ?_
        exact kt
      clear R230 st231
      obtain ⟨_, _, ⟨T233, L233, k233, n233⟩, -, X233, ⟨Lc233, hQ233, l233, y233, z233⟩, st233⟩ := Jvm.LawKit.callS X231 hx (y := (⟨"com/example/loadloom/loadloom/Draws", "mix", "(J)J"⟩ : MethodName)) hown (mvT hZ (hw _ (List.mem_of_getElem? (i := 76) rfl))) (mvT hZ (hw _ (List.mem_of_getElem? (i := 77) rfl))) (mvT hZ (hw _ (List.mem_of_getElem? (i := 28) rfl))) (mvT hZ (hw _ (List.mem_of_getElem? (i := 78) rfl))) (by decide) (backOf (W := 0) (rm_mix l Z a0 hw [] ((own_mix q1) ^^^ (own_fc (own_fb (own_fc (-3750763034362895579 : Int64) c2) (0 : Int32)) c3)) T224.heap n0 Zs225) hZ (hw _ (List.mem_of_getElem? (i := 78) rfl)) (hw _ (List.mem_of_getElem? (i := 28) rfl)) (by decide) (by decide)) (g := (mkF m 54 #[.val (.long q1), .second, .val (.ref a2), .val (.ref a3), .val (.long (own_fc (own_fb (own_fc (-3750763034362895579 : Int64) c2) (0 : Int32)) c3)), .second] [(.long ((own_mix q1) ^^^ (own_fc (own_fb (own_fc (-3750763034362895579 : Int64) c2) (0 : Int32)) c3)))])) rfl (by rw [hml]; rfl) (argsL := [(.long ((own_mix q1) ^^^ (own_fc (own_fb (own_fc (-3750763034362895579 : Int64) c2) (0 : Int32)) c3)))]) (rest := []) (lenOf pd_13 rfl) rfl (by show 2 * 0 + _ ≤ _; exact Nat.le_of_eq rfl) (hb hby d7_54) (fun _ _ => ⟨rfl, hh231, (by decide : 3 + 0 ≤ _), (by decide : 4 + 0 ≤ _)⟩)
      dsimp only [Pt.U, Pt.locs, Pt.cells, Pt.slots] at X233 l233 y233 z233 st233 hQ233
      rw [l233, y233, z233] at X233
      obtain ⟨rfl, N233q, hh233⟩ := hQ233
      have N233 := Fr.app N231 N233q
      have R234 : ∀ tg, Steps p.tables e below (T233.setTop (mkF m 57 #[.val (.long q1), .second, .val (.ref a2), .val (.ref a3), .val (.long (own_fc (own_fb (own_fc (-3750763034362895579 : Int64) c2) (0 : Int32)) c3)), .second] [(.long (own_mix ((own_mix q1) ^^^ (own_fc (own_fb (own_fc (-3750763034362895579 : Int64) c2) (0 : Int32)) c3))))])) tg → Steps p.tables e below (s₁.setTop (mkF m 0 #[.val (.long q1), .second, .val (.ref a2), .val (.ref a3), .unset, .unset] [])) tg := by
        intro tg kt
        refine R232 _ ?_
        refine st233 _ ?_
        exact kt
      clear R232 st233
      obtain ⟨fs, hr, hrun, hended, hW, hsame⟩ := X233.leave (v := some (.long (own_mix ((own_mix q1) ^^^ (own_fc (own_fb (own_fc (-3750763034362895579 : Int64) c2) (0 : Int32)) c3))))) (fun h => by rw [Bd.returns] at h; cases h)
      refine ⟨_, _, pre0 _ (R234 _ ?_), hrun, hended, _, _, rfl, ?_, ⟨_, rfl⟩, hW, hsame.mono (by decide) (by decide)⟩
      · exact X233.lreturnOut hx Bd.returns (hb hby d7_57) hr
      · show Q_rm_key Z q1 a2 a3 c2 c3 t2 t3 uu cs h0 n0 _ T233.heap _
        rw [hh233]
        exact ⟨rfl, N233, Kk225⟩
    · obtain ⟨T235, X235, e235, st235⟩ := getS2 X220 hx hZ hown (host := "") (Or.inl (hw _ (List.mem_of_getElem? (i := 36) rfl))) Via.refl hh220 (SU.ext OL_218.2) (g := (mkF m 36 #[.val (.long q1), .second, .val (.ref a2), .val (.ref a3), .val (.long (own_fb (own_fc (-3750763034362895579 : Int64) c2) (0 : Int32))), .second] [(.ref a3), (.long (own_fb (own_fc (-3750763034362895579 : Int64) c2) (0 : Int32)))])) rfl (hb hby d7_36)
      have R236 : ∀ tg, Steps p.tables e below (T235.setTop (mkF m 39 #[.val (.long q1), .second, .val (.ref a2), .val (.ref a3), .val (.long (own_fb (own_fc (-3750763034362895579 : Int64) c2) (0 : Int32))), .second] [(.ref uu), (.ref a3), (.long (own_fb (own_fc (-3750763034362895579 : Int64) c2) (0 : Int32)))])) tg → Steps p.tables e below (s₁.setTop (mkF m 0 #[.val (.long q1), .second, .val (.ref a2), .val (.ref a3), .unset, .unset] [])) tg := by
        intro tg kt
        refine R221 _ ?_
        refine st235 _ ?_
        exact kt
      clear R221 st235
      obtain ⟨cq237, kq237, q237a, q237b, q237c⟩ := isOf hZ e235 E3_218
      obtain ⟨_, _, ⟨T237, L237, k237, n237⟩, -, X237, ⟨Lc237, hQ237, l237, y237, z237⟩, st237⟩ := X235.virtualBack hx (y := (⟨"java/lang/String", "getBytes", "(Ljava/nio/charset/Charset;)[B"⟩ : MethodName)) (z := (⟨"java/lang/String", "getBytes", "(Ljava/nio/charset/Charset;)[B"⟩ : MethodName)) hown (mvT hZ (hw _ (List.mem_of_getElem? (i := 38) rfl))) (mvT hZ (hw _ (List.mem_of_getElem? (i := 39) rfl))) (notFace_of_selects (args := #[]) (mvT hZ (hw _ (List.mem_of_getElem? (i := 41) rfl)))) (mvT hZ (hw _ (List.mem_of_getElem? (i := 41) rfl))) (mvT hZ (hw _ (List.mem_of_getElem? (i := 40) rfl))) (by decide) (backOf (W := 2) (rm_gba l Z a0 hw [] a3 uu (own_bv c3) t3 cs h218 n0 Zs218 SC SI OL_218 hcs E3_218 Fv3_218 Fc3_218 VA3_218 EA3_218 hn3) hZ (hw _ (List.mem_of_getElem? (i := 42) rfl)) (hw _ (List.mem_of_getElem? (i := 2) rfl)) (by decide) (by decide)) q237a q237c (g := (mkF m 39 #[.val (.long q1), .second, .val (.ref a2), .val (.ref a3), .val (.long (own_fb (own_fc (-3750763034362895579 : Int64) c2) (0 : Int32))), .second] [(.ref uu), (.ref a3), (.long (own_fb (own_fc (-3750763034362895579 : Int64) c2) (0 : Int32)))])) rfl (by rw [hml]; rfl) (Steps.refl _) (argsL := [(.ref uu)]) (rest := [(.long (own_fb (own_fc (-3750763034362895579 : Int64) c2) (0 : Int32)))]) (lenOf pd_11 rfl) rfl (by show 2 * 0 + _ ≤ _; exact Nat.le_of_eq rfl) (hb hby d7_39) (fun _ _ => ⟨rfl, e235, (by decide : 2 + 1 ≤ _), (by decide : 2 + 1 ≤ _)⟩)
      dsimp only [Pt.U, Pt.locs, Pt.cells, Pt.slots] at X237 l237 y237 z237 st237 hQ237
      rw [l237, y237, z237] at X237
      obtain ⟨as_, rfl, N237q, szas_, K237, V237⟩ := hQ237
      have N237 := Fr.app N220 N237q
      have g_as_ : n0 ≤ as_ := Nat.le_trans Zs218 szas_
      have ne_a2_as_ : a2 ≠ as_ := Nat.ne_of_lt (Nat.lt_of_lt_of_le E2_218.lt szas_)
      have ne_t2_as_ : t2 ≠ as_ := Nat.ne_of_lt (Nat.lt_of_lt_of_le VA2_218.lt szas_)
      have ne_a3_as_ : a3 ≠ as_ := Nat.ne_of_lt (Nat.lt_of_lt_of_le E3_218.lt szas_)
      have ne_t3_as_ : t3 ≠ as_ := Nat.ne_of_lt (Nat.lt_of_lt_of_le VA3_218.lt szas_)
      have OL_238 := OL_218.keep K237 (own_ge0)
      have E2_238 := E2_218.keep K237
      have Fv2_238 := Fv2_218.keep K237 own_notin0
      have Fc2_238 := Fc2_218.keep K237 own_notin0
      have VA2_238 := VA2_218.keep K237 own_notin0
      have EA2_238 := EA2_218.keep K237
      have E3_238 := E3_218.keep K237
      have Fv3_238 := Fv3_218.keep K237 own_notin0
      have Fc3_238 := Fc3_218.keep K237 own_notin0
      have VA3_238 := VA3_218.keep K237 own_notin0
      have EA3_238 := EA3_218.keep K237
      clear OL_218 E2_218 Fv2_218 Fc2_218 VA2_218 EA2_218 E3_218 Fv3_218 Fc3_218 VA3_218 EA3_218
      have Zs238 : n0 ≤ T237.heap.size := Nat.le_trans Zs218 K237.1
      have Kk238 : Keep h0 T237.heap [] := Keep.trans Kw218 K237 (own_trans0 )
      have R239 : ∀ tg, Steps p.tables e below (T237.setTop (mkF m 42 #[.val (.long q1), .second, .val (.ref a2), .val (.ref a3), .val (.long (own_fb (own_fc (-3750763034362895579 : Int64) c2) (0 : Int32))), .second] [(.ref as_), (.long (own_fb (own_fc (-3750763034362895579 : Int64) c2) (0 : Int32)))])) tg → Steps p.tables e below (s₁.setTop (mkF m 0 #[.val (.long q1), .second, .val (.ref a2), .val (.ref a3), .unset, .unset] [])) tg := by
        intro tg kt
        refine R236 _ ?_
        refine st237.trans ?_
        exact kt
      clear R236 st237
      obtain ⟨_, _, ⟨T240, L240, k240, n240⟩, -, X240, ⟨Lc240, hQ240, l240, y240, z240⟩, st240⟩ := Jvm.LawKit.callS X237 hx (y := (⟨"com/example/loadloom/loadloom/Draws", "fnv1a", "(J[B)J"⟩ : MethodName)) hown (mvT hZ (hw _ (List.mem_of_getElem? (i := 72) rfl))) (mvT hZ (hw _ (List.mem_of_getElem? (i := 73) rfl))) (mvT hZ (hw _ (List.mem_of_getElem? (i := 28) rfl))) (mvT hZ (hw _ (List.mem_of_getElem? (i := 74) rfl))) (by decide) (backOf (W := 0) (rm_fn1 l Z a0 hw [] (own_fb (own_fc (-3750763034362895579 : Int64) c2) (0 : Int32)) as_ (fun _ => own_bv c3) T237.heap n0 Zs238 V237) hZ (hw _ (List.mem_of_getElem? (i := 74) rfl)) (hw _ (List.mem_of_getElem? (i := 28) rfl)) (by decide) (by decide)) (g := (mkF m 42 #[.val (.long q1), .second, .val (.ref a2), .val (.ref a3), .val (.long (own_fb (own_fc (-3750763034362895579 : Int64) c2) (0 : Int32))), .second] [(.ref as_), (.long (own_fb (own_fc (-3750763034362895579 : Int64) c2) (0 : Int32)))])) rfl (by rw [hml]; rfl) (argsL := [(.long (own_fb (own_fc (-3750763034362895579 : Int64) c2) (0 : Int32))), (.ref as_)]) (rest := []) (lenOf pd_12 rfl) rfl (by show 2 * 0 + _ ≤ _; exact Nat.le_of_eq rfl) (hb hby d7_42) (fun _ _ => ⟨rfl, rfl, (by decide : 3 + 0 ≤ _), (by decide : 3 + 0 ≤ _)⟩)
      dsimp only [Pt.U, Pt.locs, Pt.cells, Pt.slots] at X240 l240 y240 z240 st240 hQ240
      rw [l240, y240, z240] at X240
      obtain ⟨rfl, N240q, hh240⟩ := hQ240
      have N240 := Fr.app N237 N240q
      have R241 : ∀ tg, Steps p.tables e below (T240.setTop (mkF m 45 #[.val (.long q1), .second, .val (.ref a2), .val (.ref a3), .val (.long (own_fb (own_fc (-3750763034362895579 : Int64) c2) (0 : Int32))), .second] [(.long (own_fb (own_fb (own_fc (-3750763034362895579 : Int64) c2) (0 : Int32)) (own_bv c3)))])) tg → Steps p.tables e below (s₁.setTop (mkF m 0 #[.val (.long q1), .second, .val (.ref a2), .val (.ref a3), .unset, .unset] [])) tg := by
        intro tg kt
        refine R239 _ ?_
        refine st240 _ ?_
        exact kt
      clear R239 st240
      have R242 : ∀ tg, Steps p.tables e below (T240.setTop (mkF m 45 #[.val (.long q1), .second, .val (.ref a2), .val (.ref a3), .val (.long (own_fb (own_fc (-3750763034362895579 : Int64) c2) (0 : Int32))), .second] [(.long (own_fc (own_fb (own_fc (-3750763034362895579 : Int64) c2) (0 : Int32)) c3))])) tg → Steps p.tables e below (s₁.setTop (mkF m 0 #[.val (.long q1), .second, .val (.ref a2), .val (.ref a3), .unset, .unset] [])) tg := by intro tg kt; refine R241 tg ?_; rw [(own_fc1 (own_fb (own_fc (-3750763034362895579 : Int64) c2) (0 : Int32)) c3 hz3 hc3 hn3)]; exact kt
      have R243 : ∀ tg, Steps p.tables e below (T240.setTop (mkF m 48 #[.val (.long q1), .second, .val (.ref a2), .val (.ref a3), .val (.long (own_fc (own_fb (own_fc (-3750763034362895579 : Int64) c2) (0 : Int32)) c3)), .second] [(.long q1)])) tg → Steps p.tables e below (s₁.setTop (mkF m 0 #[.val (.long q1), .second, .val (.ref a2), .val (.ref a3), .unset, .unset] [])) tg := by
        intro tg kt
        refine R242 _ ?_
        show Steps p.tables e below (T240.setTop (mkF m 45 #[.val (.long q1), .second, .val (.ref a2), .val (.ref a3), .val (.long (own_fb (own_fc (-3750763034362895579 : Int64) c2) (0 : Int32))), .second] [(.long (own_fc (own_fb (own_fc (-3750763034362895579 : Int64) c2) (0 : Int32)) c3))])) _
        refine XS.lstore X240.here hx rfl (hb hby d7_45) rfl (l' := #[.val (.long q1), .second, .val (.ref a2), .val (.ref a3), .val (.long (own_fc (own_fb (own_fc (-3750763034362895579 : Int64) c2) (0 : Int32)) c3)), .second]) rfl ?_
        refine XS.lloadN X240.here hx rfl (hb hby d7_47) rfl ?_
        exact kt
      clear R242
      obtain ⟨_, _, ⟨T244, L244, k244, n244⟩, -, X244, ⟨Lc244, hQ244, l244, y244, z244⟩, st244⟩ := Jvm.LawKit.callS X240 hx (y := (⟨"com/example/loadloom/loadloom/Draws", "mix", "(J)J"⟩ : MethodName)) hown (mvT hZ (hw _ (List.mem_of_getElem? (i := 76) rfl))) (mvT hZ (hw _ (List.mem_of_getElem? (i := 77) rfl))) (mvT hZ (hw _ (List.mem_of_getElem? (i := 28) rfl))) (mvT hZ (hw _ (List.mem_of_getElem? (i := 78) rfl))) (by decide) (backOf (W := 0) (rm_mix l Z a0 hw [] q1 T237.heap n0 Zs238) hZ (hw _ (List.mem_of_getElem? (i := 78) rfl)) (hw _ (List.mem_of_getElem? (i := 28) rfl)) (by decide) (by decide)) (g := (mkF m 48 #[.val (.long q1), .second, .val (.ref a2), .val (.ref a3), .val (.long (own_fc (own_fb (own_fc (-3750763034362895579 : Int64) c2) (0 : Int32)) c3)), .second] [(.long q1)])) rfl (by rw [hml]; rfl) (argsL := [(.long q1)]) (rest := []) (lenOf pd_13 rfl) rfl (by show 2 * 0 + _ ≤ _; exact Nat.le_of_eq rfl) (hb hby d7_48) (fun _ _ => ⟨rfl, hh240, (by decide : 3 + 0 ≤ _), (by decide : 3 + 0 ≤ _)⟩)
      dsimp only [Pt.U, Pt.locs, Pt.cells, Pt.slots] at X244 l244 y244 z244 st244 hQ244
      rw [l244, y244, z244] at X244
      obtain ⟨rfl, N244q, hh244⟩ := hQ244
      have N244 := Fr.app N240 N244q
      have R245 : ∀ tg, Steps p.tables e below (T244.setTop (mkF m 54 #[.val (.long q1), .second, .val (.ref a2), .val (.ref a3), .val (.long (own_fc (own_fb (own_fc (-3750763034362895579 : Int64) c2) (0 : Int32)) c3)), .second] [(.long ((own_mix q1) ^^^ (own_fc (own_fb (own_fc (-3750763034362895579 : Int64) c2) (0 : Int32)) c3)))])) tg → Steps p.tables e below (s₁.setTop (mkF m 0 #[.val (.long q1), .second, .val (.ref a2), .val (.ref a3), .unset, .unset] [])) tg := by
        intro tg kt
        refine R243 _ ?_
        refine st244 _ ?_
        refine XS.lload X244.here hx rfl (hb hby d7_51) rfl ?_
        show Steps p.tables e below (T244.setTop (mkF m 53 #[.val (.long q1), .second, .val (.ref a2), .val (.ref a3), .val (.long (own_fc (own_fb (own_fc (-3750763034362895579 : Int64) c2) (0 : Int32)) c3)), .second] [(.long (own_fc (own_fb (own_fc (-3750763034362895579 : Int64) c2) (0 : Int32)) c3)), (.long (own_mix q1))])) _
        refine XS.lxor X244.here hx rfl (hb hby d7_53) rfl ?_
        exact kt
      clear R243 st244
      obtain ⟨_, _, ⟨T246, L246, k246, n246⟩, -, X246, ⟨Lc246, hQ246, l246, y246, z246⟩, st246⟩ := Jvm.LawKit.callS X244 hx (y := (⟨"com/example/loadloom/loadloom/Draws", "mix", "(J)J"⟩ : MethodName)) hown (mvT hZ (hw _ (List.mem_of_getElem? (i := 76) rfl))) (mvT hZ (hw _ (List.mem_of_getElem? (i := 77) rfl))) (mvT hZ (hw _ (List.mem_of_getElem? (i := 28) rfl))) (mvT hZ (hw _ (List.mem_of_getElem? (i := 78) rfl))) (by decide) (backOf (W := 0) (rm_mix l Z a0 hw [] ((own_mix q1) ^^^ (own_fc (own_fb (own_fc (-3750763034362895579 : Int64) c2) (0 : Int32)) c3)) T237.heap n0 Zs238) hZ (hw _ (List.mem_of_getElem? (i := 78) rfl)) (hw _ (List.mem_of_getElem? (i := 28) rfl)) (by decide) (by decide)) (g := (mkF m 54 #[.val (.long q1), .second, .val (.ref a2), .val (.ref a3), .val (.long (own_fc (own_fb (own_fc (-3750763034362895579 : Int64) c2) (0 : Int32)) c3)), .second] [(.long ((own_mix q1) ^^^ (own_fc (own_fb (own_fc (-3750763034362895579 : Int64) c2) (0 : Int32)) c3)))])) rfl (by rw [hml]; rfl) (argsL := [(.long ((own_mix q1) ^^^ (own_fc (own_fb (own_fc (-3750763034362895579 : Int64) c2) (0 : Int32)) c3)))]) (rest := []) (lenOf pd_13 rfl) rfl (by show 2 * 0 + _ ≤ _; exact Nat.le_of_eq rfl) (hb hby d7_54) (fun _ _ => ⟨rfl, hh244, (by decide : 3 + 0 ≤ _), (by decide : 3 + 0 ≤ _)⟩)
      dsimp only [Pt.U, Pt.locs, Pt.cells, Pt.slots] at X246 l246 y246 z246 st246 hQ246
      rw [l246, y246, z246] at X246
      obtain ⟨rfl, N246q, hh246⟩ := hQ246
      have N246 := Fr.app N244 N246q
      have R247 : ∀ tg, Steps p.tables e below (T246.setTop (mkF m 57 #[.val (.long q1), .second, .val (.ref a2), .val (.ref a3), .val (.long (own_fc (own_fb (own_fc (-3750763034362895579 : Int64) c2) (0 : Int32)) c3)), .second] [(.long (own_mix ((own_mix q1) ^^^ (own_fc (own_fb (own_fc (-3750763034362895579 : Int64) c2) (0 : Int32)) c3))))])) tg → Steps p.tables e below (s₁.setTop (mkF m 0 #[.val (.long q1), .second, .val (.ref a2), .val (.ref a3), .unset, .unset] [])) tg := by
        intro tg kt
        refine R245 _ ?_
        refine st246 _ ?_
        exact kt
      clear R245 st246
      obtain ⟨fs, hr, hrun, hended, hW, hsame⟩ := X246.leave (v := some (.long (own_mix ((own_mix q1) ^^^ (own_fc (own_fb (own_fc (-3750763034362895579 : Int64) c2) (0 : Int32)) c3))))) (fun h => by rw [Bd.returns] at h; cases h)
      refine ⟨_, _, pre0 _ (R247 _ ?_), hrun, hended, _, _, rfl, ?_, ⟨_, rfl⟩, hW, hsame.mono (by decide) (by decide)⟩
      · exact X246.lreturnOut hx Bd.returns (hb hby d7_57) hr
      · show Q_rm_key Z q1 a2 a3 c2 c3 t2 t3 uu cs h0 n0 _ T246.heap _
        rw [hh246]
        exact ⟨rfl, N246, Kk238⟩
theorem d16_0 : decode prog_8_method_1_code 0 = .ok (.aload_n 0, 1) := by decide +kernel
theorem d16_1 : decode prog_8_method_1_code 1 = .ok (.invokespecial 1, 3) := by decide +kernel
theorem d16_4 : decode prog_8_method_1_code 4 = .ok (.aload_n 0, 1) := by decide +kernel
theorem d16_5 : decode prog_8_method_1_code 5 = .ok (.iconst 4, 1) := by decide +kernel
theorem d16_6 : decode prog_8_method_1_code 6 = .ok (.newarray .long, 2) := by decide +kernel
theorem d16_8 : decode prog_8_method_1_code 8 = .ok (.putfield 7, 3) := by decide +kernel
theorem d16_11 : decode prog_8_method_1_code 11 = .ok (.aload_n 0, 1) := by decide +kernel
theorem d16_12 : decode prog_8_method_1_code 12 = .ok (.lload_n 3, 1) := by decide +kernel
theorem d16_13 : decode prog_8_method_1_code 13 = .ok (.putfield 13, 3) := by decide +kernel
theorem d16_16 : decode prog_8_method_1_code 16 = .ok (.aload_n 0, 1) := by decide +kernel
theorem d16_17 : decode prog_8_method_1_code 17 = .ok (.lload 5, 2) := by decide +kernel
theorem d16_19 : decode prog_8_method_1_code 19 = .ok (.putfield 17, 3) := by decide +kernel
theorem d16_22 : decode prog_8_method_1_code 22 = .ok (.lload_n 1, 1) := by decide +kernel
theorem d16_23 : decode prog_8_method_1_code 23 = .ok (.invokestatic 20, 3) := by decide +kernel
theorem d16_26 : decode prog_8_method_1_code 26 = .ok (.ldc2_w 24, 3) := by decide +kernel
theorem d16_29 : decode prog_8_method_1_code 29 = .ok (.getstatic 26, 3) := by decide +kernel
theorem d16_32 : decode prog_8_method_1_code 32 = .ok (.invokestatic 30, 3) := by decide +kernel
theorem d16_35 : decode prog_8_method_1_code 35 = .ok (.lxor, 1) := by decide +kernel
theorem d16_36 : decode prog_8_method_1_code 36 = .ok (.invokestatic 20, 3) := by decide +kernel
theorem d16_39 : decode prog_8_method_1_code 39 = .ok (.lstore 7, 2) := by decide +kernel
theorem d16_41 : decode prog_8_method_1_code 41 = .ok (.iconst 0, 1) := by decide +kernel
theorem d16_42 : decode prog_8_method_1_code 42 = .ok (.istore 9, 2) := by decide +kernel
theorem d16_44 : decode prog_8_method_1_code 44 = .ok (.iload 9, 2) := by decide +kernel
theorem d16_46 : decode prog_8_method_1_code 46 = .ok (.aload_n 0, 1) := by decide +kernel
theorem d16_47 : decode prog_8_method_1_code 47 = .ok (.getfield 7, 3) := by decide +kernel
theorem d16_50 : decode prog_8_method_1_code 50 = .ok (.arraylength, 1) := by decide +kernel
theorem d16_51 : decode prog_8_method_1_code 51 = .ok (.if_icmp .ge 31, 3) := by decide +kernel
theorem d16_54 : decode prog_8_method_1_code 54 = .ok (.aload_n 0, 1) := by decide +kernel
theorem d16_55 : decode prog_8_method_1_code 55 = .ok (.getfield 7, 3) := by decide +kernel
theorem d16_58 : decode prog_8_method_1_code 58 = .ok (.iload 9, 2) := by decide +kernel
theorem d16_60 : decode prog_8_method_1_code 60 = .ok (.lload 7, 2) := by decide +kernel
theorem d16_62 : decode prog_8_method_1_code 62 = .ok (.iload 9, 2) := by decide +kernel
theorem d16_64 : decode prog_8_method_1_code 64 = .ok (.iconst 1, 1) := by decide +kernel
theorem d16_65 : decode prog_8_method_1_code 65 = .ok (.iadd, 1) := by decide +kernel
theorem d16_66 : decode prog_8_method_1_code 66 = .ok (.i2l, 1) := by decide +kernel
theorem d16_67 : decode prog_8_method_1_code 67 = .ok (.ldc2_w 34, 3) := by decide +kernel
theorem d16_70 : decode prog_8_method_1_code 70 = .ok (.lmul, 1) := by decide +kernel
theorem d16_71 : decode prog_8_method_1_code 71 = .ok (.ladd, 1) := by decide +kernel
theorem d16_72 : decode prog_8_method_1_code 72 = .ok (.invokestatic 20, 3) := by decide +kernel
theorem d16_75 : decode prog_8_method_1_code 75 = .ok (.lastore, 1) := by decide +kernel
theorem d16_76 : decode prog_8_method_1_code 76 = .ok (.iinc 9 1, 3) := by decide +kernel
theorem d16_79 : decode prog_8_method_1_code 79 = .ok (.goto (-35), 3) := by decide +kernel
theorem d16_82 : decode prog_8_method_1_code 82 = .ok (.return_, 1) := by decide +kernel
theorem ef_rm_dr3 (m : MethodId) (a1 : Addr) (q2 : Int64) (q3 : Int64) (q4 : Int64) : entryFrame m #[(.ref a1), (.long q2), (.long q3), (.long q4)] 10 = mkF m 0 #[.val (.ref a1), .val (.long q2), .second, .val (.long q3), .second, .val (.long q4), .second, .unset, .unset, .unset] [] := by first | (simp [entryFrame, mkF, argsToLocals, Value.category]; done) | rfl
def Q_rm_dr3 (Z : State) (a1 : Addr) (q2 : Int64) (q3 : Int64) (q4 : Int64) (sw : Addr) (gw : Nat → Int32) (h0 : Heap) (n0 : Nat) (v : Option Value) (h : Heap) (L : List Loc) : Prop := v = none ∧ Fr n0 L ∧ Keep h0 h [a1] ∧ Exa Z h a1 "com/example/loadloom/loadloom/Draws" ∧ Fld Z h a1 "com/example/loadloom/loadloom/Draws" "key" "J" (.long q3) ∧ Fld Z h a1 "com/example/loadloom/loadloom/Draws" "state" "J" (.long q4)
set_option maxRecDepth 65536 in
set_option maxHeartbeats 40000000 in
theorem rm_dr3 (l : Launch) (Z : State) (a0 : Array Value) (hw : ∀ d ∈ tables_1, d.before a0 Z = true) (ws : List Jvm.Cond) (a1 : Addr) (q2 : Int64) (q3 : Int64) (q4 : Int64) (sw : Addr) (gw : Nat → Int32) (h0 : Heap) (n0 : Nat) (Z0 : n0 ≤ h0.size) (E1 : Exa Z h0 a1 "com/example/loadloom/loadloom/Draws") (Fsr : Fld Z h0 a1 "com/example/loadloom/loadloom/Draws" "spreadRounds" "[J" .null) (Fk : Fld Z h0 a1 "com/example/loadloom/loadloom/Draws" "key" "J" (.long (0 : Int64))) (Fs : Fld Z h0 a1 "com/example/loadloom/loadloom/Draws" "state" "J" (.long (0 : Int64))) (ga : n0 ≤ a1) (SW : Sta Z Z.heap "com/example/loadloom/loadloom/Draws" "SPREAD_WORD" "[B" (.ref sw)) (VW : AV Z Z.heap sw .byte 6 (fun j => .int (gw j))) (OL : Old Z n0 h0) :
    MetFree l (⟨"com/example/loadloom/loadloom/Draws", "<init>", "(JJJ)V"⟩ : MethodName) (head1 (Jvm.Cond.code (⟨"com/example/loadloom/loadloom/Draws", "<init>", "(JJJ)V"⟩ : MethodName) prog_8_method_1_code 10 none :: ws) ({ frames := 1, cells := 1, slots := 4, locals := 20 } : Room)) (fun a U => a = #[(.ref a1), (.long q2), (.long q3), (.long q4)] ∧ Z.Warmed39 U.vm ∧ U.heap = h0) (fun _ _ _ _ _ => True) (fun _ U oC U' => ∃ v L, oC = .returned v ∧ Q_rm_dr3 Z a1 q2 q3 q4 sw gw h0 n0 v U'.heap L ∧ FrameEnd U oC U' L ({ frames := 1, cells := 1, slots := 4, locals := 20 } : Room).cells ({ frames := 1, cells := 1, slots := 4, locals := 20 } : Room).slots) := by
  refine MetFree.of_bodySF (plainFor_of_name pn_0) hisR ?_
  intro p e s m args below meth c s₁ Bd hml0 hP hK
  obtain ⟨rfl, hZ, hh⟩ := hP
  have hx := Bd.exec
  have hby := Bd.bytes
  have hml : c.maxLocals = 10 := hml0
  have hown : s.vm.findClass "com/example/loadloom/loadloom/Draws" = some m.cls := findClass_of_methodNamed Bd.named
  have hnm := (name_of_methodNamed Bd.named Bd.method).1
  have X0 : Stand p l e ({ frames := 1, cells := 1, slots := 4, locals := 20 } : Room) s m #[(.ref a1), (.long q2), (.long q3), (.long q4)] below meth c s₁ [] 0 0 := Stand.of_body Bd
  have e0 : s₁.heap = h0 := by rw [← hh, Bd.state]; rfl
  have N0 := Fr.nil n0
  have pre0 : ∀ tg, Steps p.tables e below (s₁.setTop (mkF m 0 #[.val (.ref a1), .val (.long q2), .second, .val (.long q3), .second, .val (.long q4), .second, .unset, .unset, .unset] [])) tg → Steps p.tables e below (s₁.setTop (entryFrame m #[(.ref a1), (.long q2), (.long q3), (.long q4)] 10)) tg := fun t k => castTop (ef_rm_dr3 m a1 q2 q3 q4) k
  have pre00 : ∀ tg, Steps p.tables e below (s₁.setTop (mkF m 0 #[.val (.ref a1), .val (.long q2), .second, .val (.long q3), .second, .val (.long q4), .second, .unset, .unset, .unset] [])) tg → Steps p.tables e below (s₁.setTop (mkF m 0 #[.val (.ref a1), .val (.long q2), .second, .val (.long q3), .second, .val (.long q4), .second, .unset, .unset, .unset] [])) tg := fun _ k => k
  have R248 : ∀ tg, Steps p.tables e below (s₁.setTop (mkF m 1 #[.val (.ref a1), .val (.long q2), .second, .val (.long q3), .second, .val (.long q4), .second, .unset, .unset, .unset] [(.ref a1)])) tg → Steps p.tables e below (s₁.setTop (mkF m 0 #[.val (.ref a1), .val (.long q2), .second, .val (.long q3), .second, .val (.long q4), .second, .unset, .unset, .unset] [])) tg := by
    intro tg kt
    refine pre00 _ ?_
    show Steps p.tables e below (s₁.setTop (mkF m 0 #[.val (.ref a1), .val (.long q2), .second, .val (.long q3), .second, .val (.long q4), .second, .unset, .unset, .unset] [])) _
    refine XS.aloadN X0.here hx rfl (hb hby d16_0) rfl rfl ?_
    exact kt
  obtain ⟨T249, X249, e249, st249⟩ := initO X0 hx hZ hown (hw _ (List.mem_of_getElem? (i := 84) rfl)) (hw _ (List.mem_of_getElem? (i := 20) rfl)) (hw _ (List.mem_of_getElem? (i := 21) rfl)) e0 (g := (mkF m 1 #[.val (.ref a1), .val (.long q2), .second, .val (.long q3), .second, .val (.long q4), .second, .unset, .unset, .unset] [(.ref a1)])) rfl (by rw [hml]; rfl) rfl (hb hby d16_1) (by decide) (W := 0) (by show 2 * 0 + _ ≤ _; exact Nat.le_of_eq rfl) (by decide)
  have R250 : ∀ tg, Steps p.tables e below (T249.setTop (mkF m 6 #[.val (.ref a1), .val (.long q2), .second, .val (.long q3), .second, .val (.long q4), .second, .unset, .unset, .unset] [(.int (4 : Int32)), (.ref a1)])) tg → Steps p.tables e below (s₁.setTop (mkF m 0 #[.val (.ref a1), .val (.long q2), .second, .val (.long q3), .second, .val (.long q4), .second, .unset, .unset, .unset] [])) tg := by
    intro tg kt
    refine R248 _ ?_
    refine st249 _ ?_
    refine XS.aloadN X249.here hx rfl (hb hby d16_4) rfl rfl ?_
    refine XS.iconst X249.here hx rfl (hb hby d16_5) ?_
    exact kt
  clear R248 st249
  obtain ⟨T251, h251, k251, X251, e251, E251, A251, st251⟩ := newP X249 hx hZ (hw _ (List.mem_of_getElem? (i := 85) rfl)) e249 (g := (mkF m 6 #[.val (.ref a1), .val (.long q2), .second, .val (.long q3), .second, .val (.long q4), .second, .unset, .unset, .unset] [(.int (4 : Int32)), (.ref a1)])) rfl (hb hby d16_6) rfl (by decide) (cap := 4) (by decide) (by decide) (by decide) (by decide)
  obtain ⟨ar, g251⟩ : ∃ z, z = h0.size := ⟨_, rfl⟩
  rw [← g251] at A251 st251
  have g_ar : n0 ≤ ar := Nat.le_trans Z0 (Nat.le_of_eq g251.symm)
  have sz_ar : h0.size ≤ ar := Nat.le_trans (Keep.refl h0 [a1]).1 (Nat.le_of_eq g251.symm)
  have ne_a1_ar : a1 ≠ ar := Nat.ne_of_lt (Nat.lt_of_lt_of_le E1.lt (Nat.le_of_eq g251.symm))
  have OL_251 := OL.ext E251
  have E_a1_251 := E1.ext E251
  have Fsr_251 := Fsr.ext E251
  have Fk_251 := Fk.ext E251
  have Fs_251 := Fs.ext E251
  have Zs251 : n0 ≤ h251.size := Nat.le_trans Z0 E251.1
  have Ke251 : Keep h0 h251 [a1] := Keep.ext (Keep.refl h0 [a1]) E251
  have VRr : AV Z h251 ar .long 4 (fun _ => defaultValue .long) := AV.new A251 rfl rfl
  have VR : AV Z h251 ar .long 4 (fun j => .long ((fun _ => (0 : Int64)) j)) := VRr
  have R252 : ∀ tg, Steps p.tables e below (T251.setTop (mkF m 8 #[.val (.ref a1), .val (.long q2), .second, .val (.long q3), .second, .val (.long q4), .second, .unset, .unset, .unset] [(.ref ar), (.ref a1)])) tg → Steps p.tables e below (s₁.setTop (mkF m 0 #[.val (.ref a1), .val (.long q2), .second, .val (.long q3), .second, .val (.long q4), .second, .unset, .unset, .unset] [])) tg := by
    intro tg kt
    refine R250 _ ?_
    refine st251 _ ?_
    exact kt
  clear R250 st251
  obtain ⟨T253, h253, X253, e253, W253, st253⟩ := putF X251 hx hZ hown (host := "") (Or.inl (hw _ (List.mem_of_getElem? (i := 86) rfl))) Via.refl e251 Fsr_251 E_a1_251 (Or.inr ⟨(hw _ (List.mem_of_getElem? (i := 87) rfl)), rfl, hnm⟩) (hw _ (List.mem_of_getElem? (i := 27) rfl)) (ty := (.array .long)) (by decide) rfl rfl (g := (mkF m 8 #[.val (.ref a1), .val (.long q2), .second, .val (.long q3), .second, .val (.long q4), .second, .unset, .unset, .unset] [(.ref ar), (.ref a1)])) rfl rfl (hb hby d16_8)
  have N253 := Fr.snoc X253 N0 ga
  have Fsr_253 := Fsr_251.same W253
  have OL_253 := OL_251.wr W253 ga
  have E_a1_253 := E_a1_251.wr W253
  have Fk_253 := Fk_251.other W253 (Or.inr (slot_ne (Or.inr (hw _ (List.mem_of_getElem? (i := 89) rfl))) (Or.inr (hw _ (List.mem_of_getElem? (i := 87) rfl))) (by decide) (t := .long) (t' := (.array .long)) (by decide) (by decide)))
  have Fs_253 := Fs_251.other W253 (Or.inr (slot_ne (Or.inl (hw _ (List.mem_of_getElem? (i := 91) rfl))) (Or.inr (hw _ (List.mem_of_getElem? (i := 87) rfl))) (by decide) (t := .long) (t' := (.array .long)) (by decide) (by decide)))
  have VR_253 := VR.other W253 (Ne.symm ne_a1_ar)
  clear OL_251 E_a1_251 Fk_251 Fs_251
  have Zs253 : n0 ≤ h253.size := Nat.le_trans Zs251 (Keep.of_wr W253).1
  have Kw253 : Keep h0 h253 [a1] := Keep.wr Ke251 W253 (Or.inl (List.mem_of_getElem? (i := 0) rfl))
  have R254 : ∀ tg, Steps p.tables e below (T253.setTop (mkF m 13 #[.val (.ref a1), .val (.long q2), .second, .val (.long q3), .second, .val (.long q4), .second, .unset, .unset, .unset] [(.long q3), (.ref a1)])) tg → Steps p.tables e below (s₁.setTop (mkF m 0 #[.val (.ref a1), .val (.long q2), .second, .val (.long q3), .second, .val (.long q4), .second, .unset, .unset, .unset] [])) tg := by
    intro tg kt
    refine R252 _ ?_
    refine st253 _ ?_
    show Steps p.tables e below (T253.setTop (mkF m 11 #[.val (.ref a1), .val (.long q2), .second, .val (.long q3), .second, .val (.long q4), .second, .unset, .unset, .unset] [])) _
    refine XS.aloadN X253.here hx rfl (hb hby d16_11) rfl rfl ?_
    refine XS.lloadN X253.here hx rfl (hb hby d16_12) rfl ?_
    exact kt
  clear R252 st253
  obtain ⟨T255, h255, X255, e255, W255, st255⟩ := putF X253 hx hZ hown (host := "") (Or.inl (hw _ (List.mem_of_getElem? (i := 88) rfl))) Via.refl e253 Fk_253 E_a1_253 (Or.inr ⟨(hw _ (List.mem_of_getElem? (i := 89) rfl)), rfl, hnm⟩) (hw _ (List.mem_of_getElem? (i := 27) rfl)) (ty := .long) (by decide) rfl rfl (g := (mkF m 13 #[.val (.ref a1), .val (.long q2), .second, .val (.long q3), .second, .val (.long q4), .second, .unset, .unset, .unset] [(.long q3), (.ref a1)])) rfl rfl (hb hby d16_13)
  have N255 := Fr.snoc X255 N253 ga
  have Fk_255 := Fk_253.same W255
  have OL_255 := OL_253.wr W255 ga
  have E_a1_255 := E_a1_253.wr W255
  have Fsr_255 := Fsr_253.other W255 (Or.inr (slot_ne (Or.inr (hw _ (List.mem_of_getElem? (i := 87) rfl))) (Or.inr (hw _ (List.mem_of_getElem? (i := 89) rfl))) (by decide) (t := (.array .long)) (t' := .long) (by decide) (by decide)))
  have Fs_255 := Fs_253.other W255 (Or.inr (slot_ne (Or.inl (hw _ (List.mem_of_getElem? (i := 91) rfl))) (Or.inr (hw _ (List.mem_of_getElem? (i := 89) rfl))) (by decide) (t := .long) (t' := .long) (by decide) (by decide)))
  have VR_255 := VR_253.other W255 (Ne.symm ne_a1_ar)
  clear OL_253 E_a1_253 Fsr_253 Fs_253 VR_253
  have Zs255 : n0 ≤ h255.size := Nat.le_trans Zs253 (Keep.of_wr W255).1
  have Kw255 : Keep h0 h255 [a1] := Keep.wr Kw253 W255 (Or.inl (List.mem_of_getElem? (i := 0) rfl))
  have R256 : ∀ tg, Steps p.tables e below (T255.setTop (mkF m 19 #[.val (.ref a1), .val (.long q2), .second, .val (.long q3), .second, .val (.long q4), .second, .unset, .unset, .unset] [(.long q4), (.ref a1)])) tg → Steps p.tables e below (s₁.setTop (mkF m 0 #[.val (.ref a1), .val (.long q2), .second, .val (.long q3), .second, .val (.long q4), .second, .unset, .unset, .unset] [])) tg := by
    intro tg kt
    refine R254 _ ?_
    refine st255 _ ?_
    refine XS.aloadN X255.here hx rfl (hb hby d16_16) rfl rfl ?_
    show Steps p.tables e below (T255.setTop (mkF m 17 #[.val (.ref a1), .val (.long q2), .second, .val (.long q3), .second, .val (.long q4), .second, .unset, .unset, .unset] [(.ref a1)])) _
    refine XS.lload X255.here hx rfl (hb hby d16_17) rfl ?_
    exact kt
  clear R254 st255
  obtain ⟨T257, h257, X257, e257, W257, st257⟩ := putF X255 hx hZ hown (host := "") (Or.inl (hw _ (List.mem_of_getElem? (i := 90) rfl))) Via.refl e255 Fs_255 E_a1_255 (Or.inl (hw _ (List.mem_of_getElem? (i := 91) rfl))) (hw _ (List.mem_of_getElem? (i := 27) rfl)) (ty := .long) (by decide) rfl rfl (g := (mkF m 19 #[.val (.ref a1), .val (.long q2), .second, .val (.long q3), .second, .val (.long q4), .second, .unset, .unset, .unset] [(.long q4), (.ref a1)])) rfl rfl (hb hby d16_19)
  have N257 := Fr.snoc X257 N255 ga
  have Fs_257 := Fs_255.same W257
  have OL_257 := OL_255.wr W257 ga
  have E_a1_257 := E_a1_255.wr W257
  have Fsr_257 := Fsr_255.other W257 (Or.inr (slot_ne (Or.inr (hw _ (List.mem_of_getElem? (i := 87) rfl))) (Or.inl (hw _ (List.mem_of_getElem? (i := 91) rfl))) (by decide) (t := (.array .long)) (t' := .long) (by decide) (by decide)))
  have Fk_257 := Fk_255.other W257 (Or.inr (slot_ne (Or.inr (hw _ (List.mem_of_getElem? (i := 89) rfl))) (Or.inl (hw _ (List.mem_of_getElem? (i := 91) rfl))) (by decide) (t := .long) (t' := .long) (by decide) (by decide)))
  have VR_257 := VR_255.other W257 (Ne.symm ne_a1_ar)
  clear OL_255 E_a1_255 Fsr_255 Fk_255 VR_255
  have Zs257 : n0 ≤ h257.size := Nat.le_trans Zs255 (Keep.of_wr W257).1
  have Kw257 : Keep h0 h257 [a1] := Keep.wr Kw255 W257 (Or.inl (List.mem_of_getElem? (i := 0) rfl))
  have R258 : ∀ tg, Steps p.tables e below (T257.setTop (mkF m 23 #[.val (.ref a1), .val (.long q2), .second, .val (.long q3), .second, .val (.long q4), .second, .unset, .unset, .unset] [(.long q2)])) tg → Steps p.tables e below (s₁.setTop (mkF m 0 #[.val (.ref a1), .val (.long q2), .second, .val (.long q3), .second, .val (.long q4), .second, .unset, .unset, .unset] [])) tg := by
    intro tg kt
    refine R256 _ ?_
    refine st257 _ ?_
    refine XS.lloadN X257.here hx rfl (hb hby d16_22) rfl ?_
    exact kt
  clear R256 st257
  obtain ⟨_, _, ⟨T259, L259, k259, n259⟩, -, X259, ⟨Lc259, hQ259, l259, y259, z259⟩, st259⟩ := Jvm.LawKit.callS X257 hx (y := (⟨"com/example/loadloom/loadloom/Draws", "mix", "(J)J"⟩ : MethodName)) hown (mvT hZ (hw _ (List.mem_of_getElem? (i := 76) rfl))) (mvT hZ (hw _ (List.mem_of_getElem? (i := 77) rfl))) (mvT hZ (hw _ (List.mem_of_getElem? (i := 28) rfl))) (mvT hZ (hw _ (List.mem_of_getElem? (i := 78) rfl))) (by decide) (backOf (W := 0) (rm_mix l Z a0 hw [] q2 h257 n0 Zs257) hZ (hw _ (List.mem_of_getElem? (i := 78) rfl)) (hw _ (List.mem_of_getElem? (i := 28) rfl)) (by decide) (by decide)) (g := (mkF m 23 #[.val (.ref a1), .val (.long q2), .second, .val (.long q3), .second, .val (.long q4), .second, .unset, .unset, .unset] [(.long q2)])) rfl (by rw [hml]; rfl) (argsL := [(.long q2)]) (rest := []) (lenOf pd_13 rfl) rfl (by show 2 * 0 + _ ≤ _; exact Nat.le_of_eq rfl) (hb hby d16_23) (fun _ _ => ⟨rfl, e257, (by decide : 1 + 0 ≤ _), (by decide : 4 + 0 ≤ _)⟩)
  dsimp only [Pt.U, Pt.locs, Pt.cells, Pt.slots] at X259 l259 y259 z259 st259 hQ259
  rw [l259, y259, z259] at X259
  obtain ⟨rfl, N259q, hh259⟩ := hQ259
  have N259 := Fr.app N257 N259q
  have R260 : ∀ tg, Steps p.tables e below (T259.setTop (mkF m 29 #[.val (.ref a1), .val (.long q2), .second, .val (.long q3), .second, .val (.long q4), .second, .unset, .unset, .unset] [(.long (-3750763034362895579 : Int64)), (.long (own_mix q2))])) tg → Steps p.tables e below (s₁.setTop (mkF m 0 #[.val (.ref a1), .val (.long q2), .second, .val (.long q3), .second, .val (.long q4), .second, .unset, .unset, .unset] [])) tg := by
    intro tg kt
    refine R258 _ ?_
    refine st259 _ ?_
    show Steps p.tables e below (T259.setTop (mkF m 26 #[.val (.ref a1), .val (.long q2), .second, .val (.long q3), .second, .val (.long q4), .second, .unset, .unset, .unset] [(.long (own_mix q2))])) _
    refine X259.ldc2Long hx hown (mvT hZ (hw _ (List.mem_of_getElem? (i := 35) rfl))) (g := (mkF m 26 #[.val (.ref a1), .val (.long q2), .second, .val (.long q3), .second, .val (.long q4), .second, .unset, .unset, .unset] [(.long (own_mix q2))])) rfl (hb hby d16_26) _ ?_
    exact kt
  clear R258 st259
  obtain ⟨T261, X261, e261, st261⟩ := getS2 X259 hx hZ hown (host := "") (Or.inl (hw _ (List.mem_of_getElem? (i := 92) rfl))) Via.refl hh259 (SW.ext OL_257.2) (g := (mkF m 29 #[.val (.ref a1), .val (.long q2), .second, .val (.long q3), .second, .val (.long q4), .second, .unset, .unset, .unset] [(.long (-3750763034362895579 : Int64)), (.long (own_mix q2))])) rfl (hb hby d16_29)
  have R262 : ∀ tg, Steps p.tables e below (T261.setTop (mkF m 32 #[.val (.ref a1), .val (.long q2), .second, .val (.long q3), .second, .val (.long q4), .second, .unset, .unset, .unset] [(.ref sw), (.long (-3750763034362895579 : Int64)), (.long (own_mix q2))])) tg → Steps p.tables e below (s₁.setTop (mkF m 0 #[.val (.ref a1), .val (.long q2), .second, .val (.long q3), .second, .val (.long q4), .second, .unset, .unset, .unset] [])) tg := by
    intro tg kt
    refine R260 _ ?_
    refine st261 _ ?_
    exact kt
  clear R260 st261
  obtain ⟨_, _, ⟨T263, L263, k263, n263⟩, -, X263, ⟨Lc263, hQ263, l263, y263, z263⟩, st263⟩ := Jvm.LawKit.callS X261 hx (y := (⟨"com/example/loadloom/loadloom/Draws", "fnv1a", "(J[B)J"⟩ : MethodName)) hown (mvT hZ (hw _ (List.mem_of_getElem? (i := 72) rfl))) (mvT hZ (hw _ (List.mem_of_getElem? (i := 73) rfl))) (mvT hZ (hw _ (List.mem_of_getElem? (i := 28) rfl))) (mvT hZ (hw _ (List.mem_of_getElem? (i := 74) rfl))) (by decide) (backOf (W := 2) (rm_fn6 l Z a0 hw [] (-3750763034362895579 : Int64) sw gw h257 n0 Zs257 (VW.ext OL_257.2)) hZ (hw _ (List.mem_of_getElem? (i := 74) rfl)) (hw _ (List.mem_of_getElem? (i := 28) rfl)) (by decide) (by decide)) (g := (mkF m 32 #[.val (.ref a1), .val (.long q2), .second, .val (.long q3), .second, .val (.long q4), .second, .unset, .unset, .unset] [(.ref sw), (.long (-3750763034362895579 : Int64)), (.long (own_mix q2))])) rfl (by rw [hml]; rfl) (argsL := [(.long (-3750763034362895579 : Int64)), (.ref sw)]) (rest := [(.long (own_mix q2))]) (lenOf pd_12 rfl) rfl (by show 2 * 0 + _ ≤ _; exact Nat.le_of_eq rfl) (hb hby d16_32) (fun _ _ => ⟨rfl, e261, (by decide : 1 + 0 ≤ _), (by decide : 4 + 0 ≤ _)⟩)
  dsimp only [Pt.U, Pt.locs, Pt.cells, Pt.slots] at X263 l263 y263 z263 st263 hQ263
  rw [l263, y263, z263] at X263
  obtain ⟨rfl, N263q, hh263⟩ := hQ263
  have N263 := Fr.app N259 N263q
  have R264 : ∀ tg, Steps p.tables e below (T263.setTop (mkF m 36 #[.val (.ref a1), .val (.long q2), .second, .val (.long q3), .second, .val (.long q4), .second, .unset, .unset, .unset] [(.long ((own_mix q2) ^^^ (own_fb (own_fb (own_fb (own_fb (own_fb (own_fb (-3750763034362895579 : Int64) (gw 0)) (gw 1)) (gw 2)) (gw 3)) (gw 4)) (gw 5))))])) tg → Steps p.tables e below (s₁.setTop (mkF m 0 #[.val (.ref a1), .val (.long q2), .second, .val (.long q3), .second, .val (.long q4), .second, .unset, .unset, .unset] [])) tg := by
    intro tg kt
    refine R262 _ ?_
    refine st263 _ ?_
    show Steps p.tables e below (T263.setTop (mkF m 35 #[.val (.ref a1), .val (.long q2), .second, .val (.long q3), .second, .val (.long q4), .second, .unset, .unset, .unset] [(.long (own_fb (own_fb (own_fb (own_fb (own_fb (own_fb (-3750763034362895579 : Int64) (gw 0)) (gw 1)) (gw 2)) (gw 3)) (gw 4)) (gw 5))), (.long (own_mix q2))])) _
    refine XS.lxor X263.here hx rfl (hb hby d16_35) rfl ?_
    exact kt
  clear R262 st263
  obtain ⟨_, _, ⟨T265, L265, k265, n265⟩, -, X265, ⟨Lc265, hQ265, l265, y265, z265⟩, st265⟩ := Jvm.LawKit.callS X263 hx (y := (⟨"com/example/loadloom/loadloom/Draws", "mix", "(J)J"⟩ : MethodName)) hown (mvT hZ (hw _ (List.mem_of_getElem? (i := 76) rfl))) (mvT hZ (hw _ (List.mem_of_getElem? (i := 77) rfl))) (mvT hZ (hw _ (List.mem_of_getElem? (i := 28) rfl))) (mvT hZ (hw _ (List.mem_of_getElem? (i := 78) rfl))) (by decide) (backOf (W := 0) (rm_mix l Z a0 hw [] ((own_mix q2) ^^^ (own_fb (own_fb (own_fb (own_fb (own_fb (own_fb (-3750763034362895579 : Int64) (gw 0)) (gw 1)) (gw 2)) (gw 3)) (gw 4)) (gw 5))) h257 n0 Zs257) hZ (hw _ (List.mem_of_getElem? (i := 78) rfl)) (hw _ (List.mem_of_getElem? (i := 28) rfl)) (by decide) (by decide)) (g := (mkF m 36 #[.val (.ref a1), .val (.long q2), .second, .val (.long q3), .second, .val (.long q4), .second, .unset, .unset, .unset] [(.long ((own_mix q2) ^^^ (own_fb (own_fb (own_fb (own_fb (own_fb (own_fb (-3750763034362895579 : Int64) (gw 0)) (gw 1)) (gw 2)) (gw 3)) (gw 4)) (gw 5))))])) rfl (by rw [hml]; rfl) (argsL := [(.long ((own_mix q2) ^^^ (own_fb (own_fb (own_fb (own_fb (own_fb (own_fb (-3750763034362895579 : Int64) (gw 0)) (gw 1)) (gw 2)) (gw 3)) (gw 4)) (gw 5))))]) (rest := []) (lenOf pd_13 rfl) rfl (by show 2 * 0 + _ ≤ _; exact Nat.le_of_eq rfl) (hb hby d16_36) (fun _ _ => ⟨rfl, hh263, (by decide : 1 + 0 ≤ _), (by decide : 4 + 0 ≤ _)⟩)
  dsimp only [Pt.U, Pt.locs, Pt.cells, Pt.slots] at X265 l265 y265 z265 st265 hQ265
  rw [l265, y265, z265] at X265
  obtain ⟨rfl, N265q, hh265⟩ := hQ265
  have N265 := Fr.app N263 N265q
  have R266 : ∀ tg, Steps p.tables e below (T265.setTop (mkF m 47 #[.val (.ref a1), .val (.long q2), .second, .val (.long q3), .second, .val (.long q4), .second, .val (.long (own_mix ((own_mix q2) ^^^ (own_fb (own_fb (own_fb (own_fb (own_fb (own_fb (-3750763034362895579 : Int64) (gw 0)) (gw 1)) (gw 2)) (gw 3)) (gw 4)) (gw 5))))), .second, .val (.int (0 : Int32))] [(.ref a1), (.int (0 : Int32))])) tg → Steps p.tables e below (s₁.setTop (mkF m 0 #[.val (.ref a1), .val (.long q2), .second, .val (.long q3), .second, .val (.long q4), .second, .unset, .unset, .unset] [])) tg := by
    intro tg kt
    refine R264 _ ?_
    refine st265 _ ?_
    show Steps p.tables e below (T265.setTop (mkF m 39 #[.val (.ref a1), .val (.long q2), .second, .val (.long q3), .second, .val (.long q4), .second, .unset, .unset, .unset] [(.long (own_mix ((own_mix q2) ^^^ (own_fb (own_fb (own_fb (own_fb (own_fb (own_fb (-3750763034362895579 : Int64) (gw 0)) (gw 1)) (gw 2)) (gw 3)) (gw 4)) (gw 5)))))])) _
    refine XS.lstore X265.here hx rfl (hb hby d16_39) rfl (l' := #[.val (.ref a1), .val (.long q2), .second, .val (.long q3), .second, .val (.long q4), .second, .val (.long (own_mix ((own_mix q2) ^^^ (own_fb (own_fb (own_fb (own_fb (own_fb (own_fb (-3750763034362895579 : Int64) (gw 0)) (gw 1)) (gw 2)) (gw 3)) (gw 4)) (gw 5))))), .second, .unset]) rfl ?_
    refine XS.iconst X265.here hx rfl (hb hby d16_41) ?_
    show Steps p.tables e below (T265.setTop (mkF m 42 #[.val (.ref a1), .val (.long q2), .second, .val (.long q3), .second, .val (.long q4), .second, .val (.long (own_mix ((own_mix q2) ^^^ (own_fb (own_fb (own_fb (own_fb (own_fb (own_fb (-3750763034362895579 : Int64) (gw 0)) (gw 1)) (gw 2)) (gw 3)) (gw 4)) (gw 5))))), .second, .unset] [(.int (0 : Int32))])) _
    refine XS.istore X265.here hx rfl (hb hby d16_42) rfl (l' := #[.val (.ref a1), .val (.long q2), .second, .val (.long q3), .second, .val (.long q4), .second, .val (.long (own_mix ((own_mix q2) ^^^ (own_fb (own_fb (own_fb (own_fb (own_fb (own_fb (-3750763034362895579 : Int64) (gw 0)) (gw 1)) (gw 2)) (gw 3)) (gw 4)) (gw 5))))), .second, .val (.int (0 : Int32))]) rfl ?_
    refine XS.iload X265.here hx rfl (hb hby d16_44) rfl ?_
    refine XS.aloadN X265.here hx rfl (hb hby d16_46) rfl rfl ?_
    exact kt
  clear R264 st265
  obtain ⟨sk, hsk⟩ : ∃ z : Int64, z = (own_mix ((own_mix q2) ^^^ (own_fb (own_fb (own_fb (own_fb (own_fb (own_fb (-3750763034362895579 : Int64) (gw 0)) (gw 1)) (gw 2)) (gw 3)) (gw 4)) (gw 5)))) := ⟨_, rfl⟩
  have R267 : ∀ tg, Steps p.tables e below (T265.setTop (mkF m 47 #[.val (.ref a1), .val (.long q2), .second, .val (.long q3), .second, .val (.long q4), .second, .val (.long sk), .second, .val (.int (0 : Int32))] [(.ref a1), (.int (0 : Int32))])) tg → Steps p.tables e below (s₁.setTop (mkF m 0 #[.val (.ref a1), .val (.long q2), .second, .val (.long q3), .second, .val (.long q4), .second, .unset, .unset, .unset] [])) tg := by rw [hsk]; exact R266
  obtain ⟨T268, X268, e268, st268⟩ := getF X265 hx hZ hown (host := "") (Or.inl (hw _ (List.mem_of_getElem? (i := 86) rfl))) Via.refl hh265 Fsr_257 (g := (mkF m 47 #[.val (.ref a1), .val (.long q2), .second, .val (.long q3), .second, .val (.long q4), .second, .val (.long sk), .second, .val (.int (0 : Int32))] [(.ref a1), (.int (0 : Int32))])) rfl rfl (hb hby d16_47)
  have R269 : ∀ tg, Steps p.tables e below (T268.setTop (mkF m 50 #[.val (.ref a1), .val (.long q2), .second, .val (.long q3), .second, .val (.long q4), .second, .val (.long sk), .second, .val (.int (0 : Int32))] [(.ref ar), (.int (0 : Int32))])) tg → Steps p.tables e below (s₁.setTop (mkF m 0 #[.val (.ref a1), .val (.long q2), .second, .val (.long q3), .second, .val (.long q4), .second, .unset, .unset, .unset] [])) tg := by
    intro tg kt
    refine R267 _ ?_
    refine st268 _ ?_
    exact kt
  clear R267 st268
  obtain ⟨cl270, Ar270, ln270⟩ := VR_257.len
  have R271 : ∀ tg, Steps p.tables e below (T268.setTop (mkF m 55 #[.val (.ref a1), .val (.long q2), .second, .val (.long q3), .second, .val (.long q4), .second, .val (.long sk), .second, .val (.int (0 : Int32))] [(.ref a1)])) tg → Steps p.tables e below (s₁.setTop (mkF m 0 #[.val (.ref a1), .val (.long q2), .second, .val (.long q3), .second, .val (.long q4), .second, .unset, .unset, .unset] [])) tg := by
    intro tg kt
    refine R269 _ ?_
    show Steps p.tables e below (T268.setTop (mkF m 50 #[.val (.ref a1), .val (.long q2), .second, .val (.long q3), .second, .val (.long q4), .second, .val (.long sk), .second, .val (.int (0 : Int32))] [(.ref ar), (.int (0 : Int32))])) _
    refine X268.arraylength hx (by rw [e268]; exact Ar270.1) (State.isArrayOf_alike hZ.alike Ar270.2.1) (g := (mkF m 50 #[.val (.ref a1), .val (.long q2), .second, .val (.long q3), .second, .val (.long q4), .second, .val (.long sk), .second, .val (.int (0 : Int32))] [(.ref ar), (.int (0 : Int32))])) rfl rfl (hb hby d16_50) _ ?_
    rw [ln270]
    show Steps p.tables e below (T268.setTop (mkF m 51 #[.val (.ref a1), .val (.long q2), .second, .val (.long q3), .second, .val (.long q4), .second, .val (.long sk), .second, .val (.int (0 : Int32))] [(.int (4 : Int32)), (.int (0 : Int32))])) _
    refine XS.icmpNo X268.here hx rfl (hb hby d16_51) rfl (tlt (by decide : (0 : Int32) < (4 : Int32))).2.1 ?_
    refine XS.aloadN X268.here hx rfl (hb hby d16_54) rfl rfl ?_
    exact kt
  clear R269
  obtain ⟨T272, X272, e272, st272⟩ := getF X268 hx hZ hown (host := "") (Or.inl (hw _ (List.mem_of_getElem? (i := 86) rfl))) Via.refl e268 Fsr_257 (g := (mkF m 55 #[.val (.ref a1), .val (.long q2), .second, .val (.long q3), .second, .val (.long q4), .second, .val (.long sk), .second, .val (.int (0 : Int32))] [(.ref a1)])) rfl rfl (hb hby d16_55)
  have R273 : ∀ tg, Steps p.tables e below (T272.setTop (mkF m 72 #[.val (.ref a1), .val (.long q2), .second, .val (.long q3), .second, .val (.long q4), .second, .val (.long sk), .second, .val (.int (0 : Int32))] [(.long (sk + ((((0 : Int32) + (1 : Int32)).toInt64) * (-7046029254386353131 : Int64)))), (.int (0 : Int32)), (.ref ar)])) tg → Steps p.tables e below (s₁.setTop (mkF m 0 #[.val (.ref a1), .val (.long q2), .second, .val (.long q3), .second, .val (.long q4), .second, .unset, .unset, .unset] [])) tg := by
    intro tg kt
    refine R271 _ ?_
    refine st272 _ ?_
    refine XS.iload X272.here hx rfl (hb hby d16_58) rfl ?_
    show Steps p.tables e below (T272.setTop (mkF m 60 #[.val (.ref a1), .val (.long q2), .second, .val (.long q3), .second, .val (.long q4), .second, .val (.long sk), .second, .val (.int (0 : Int32))] [(.int (0 : Int32)), (.ref ar)])) _
    refine XS.lload X272.here hx rfl (hb hby d16_60) rfl ?_
    refine XS.iload X272.here hx rfl (hb hby d16_62) rfl ?_
    refine XS.iconst X272.here hx rfl (hb hby d16_64) ?_
    show Steps p.tables e below (T272.setTop (mkF m 65 #[.val (.ref a1), .val (.long q2), .second, .val (.long q3), .second, .val (.long q4), .second, .val (.long sk), .second, .val (.int (0 : Int32))] [(.int (1 : Int32)), (.int (0 : Int32)), (.long sk), (.int (0 : Int32)), (.ref ar)])) _
    refine XS.iadd X272.here hx rfl (hb hby d16_65) rfl ?_
    show Steps p.tables e below (T272.setTop (mkF m 66 #[.val (.ref a1), .val (.long q2), .second, .val (.long q3), .second, .val (.long q4), .second, .val (.long sk), .second, .val (.int (0 : Int32))] [(.int ((0 : Int32) + (1 : Int32))), (.long sk), (.int (0 : Int32)), (.ref ar)])) _
    refine XS.i2l X272.here hx rfl (hb hby d16_66) rfl ?_
    show Steps p.tables e below (T272.setTop (mkF m 67 #[.val (.ref a1), .val (.long q2), .second, .val (.long q3), .second, .val (.long q4), .second, .val (.long sk), .second, .val (.int (0 : Int32))] [(.long (((0 : Int32) + (1 : Int32)).toInt64)), (.long sk), (.int (0 : Int32)), (.ref ar)])) _
    refine X272.ldc2Long hx hown (mvT hZ (hw _ (List.mem_of_getElem? (i := 94) rfl))) (g := (mkF m 67 #[.val (.ref a1), .val (.long q2), .second, .val (.long q3), .second, .val (.long q4), .second, .val (.long sk), .second, .val (.int (0 : Int32))] [(.long (((0 : Int32) + (1 : Int32)).toInt64)), (.long sk), (.int (0 : Int32)), (.ref ar)])) rfl (hb hby d16_67) _ ?_
    show Steps p.tables e below (T272.setTop (mkF m 70 #[.val (.ref a1), .val (.long q2), .second, .val (.long q3), .second, .val (.long q4), .second, .val (.long sk), .second, .val (.int (0 : Int32))] [(.long (-7046029254386353131 : Int64)), (.long (((0 : Int32) + (1 : Int32)).toInt64)), (.long sk), (.int (0 : Int32)), (.ref ar)])) _
    refine XS.lmul X272.here hx rfl (hb hby d16_70) rfl ?_
    show Steps p.tables e below (T272.setTop (mkF m 71 #[.val (.ref a1), .val (.long q2), .second, .val (.long q3), .second, .val (.long q4), .second, .val (.long sk), .second, .val (.int (0 : Int32))] [(.long ((((0 : Int32) + (1 : Int32)).toInt64) * (-7046029254386353131 : Int64))), (.long sk), (.int (0 : Int32)), (.ref ar)])) _
    refine XS.ladd X272.here hx rfl (hb hby d16_71) rfl ?_
    exact kt
  clear R271 st272
  obtain ⟨_, _, ⟨T274, L274, k274, n274⟩, -, X274, ⟨Lc274, hQ274, l274, y274, z274⟩, st274⟩ := Jvm.LawKit.callS X272 hx (y := (⟨"com/example/loadloom/loadloom/Draws", "mix", "(J)J"⟩ : MethodName)) hown (mvT hZ (hw _ (List.mem_of_getElem? (i := 76) rfl))) (mvT hZ (hw _ (List.mem_of_getElem? (i := 77) rfl))) (mvT hZ (hw _ (List.mem_of_getElem? (i := 28) rfl))) (mvT hZ (hw _ (List.mem_of_getElem? (i := 78) rfl))) (by decide) (backOf (W := 2) (rm_mix l Z a0 hw [] (sk + ((((0 : Int32) + (1 : Int32)).toInt64) * (-7046029254386353131 : Int64))) h257 n0 Zs257) hZ (hw _ (List.mem_of_getElem? (i := 78) rfl)) (hw _ (List.mem_of_getElem? (i := 28) rfl)) (by decide) (by decide)) (g := (mkF m 72 #[.val (.ref a1), .val (.long q2), .second, .val (.long q3), .second, .val (.long q4), .second, .val (.long sk), .second, .val (.int (0 : Int32))] [(.long (sk + ((((0 : Int32) + (1 : Int32)).toInt64) * (-7046029254386353131 : Int64)))), (.int (0 : Int32)), (.ref ar)])) rfl (by rw [hml]; rfl) (argsL := [(.long (sk + ((((0 : Int32) + (1 : Int32)).toInt64) * (-7046029254386353131 : Int64))))]) (rest := [(.int (0 : Int32)), (.ref ar)]) (lenOf pd_13 rfl) rfl (by show 2 * 0 + _ ≤ _; exact Nat.le_of_eq rfl) (hb hby d16_72) (fun _ _ => ⟨rfl, e272, (by decide : 1 + 0 ≤ _), (by decide : 4 + 0 ≤ _)⟩)
  dsimp only [Pt.U, Pt.locs, Pt.cells, Pt.slots] at X274 l274 y274 z274 st274 hQ274
  rw [l274, y274, z274] at X274
  obtain ⟨rfl, N274q, hh274⟩ := hQ274
  have N274 := Fr.app N265 N274q
  have R275 : ∀ tg, Steps p.tables e below (T274.setTop (mkF m 75 #[.val (.ref a1), .val (.long q2), .second, .val (.long q3), .second, .val (.long q4), .second, .val (.long sk), .second, .val (.int (0 : Int32))] [(.long (own_mix (sk + ((((0 : Int32) + (1 : Int32)).toInt64) * (-7046029254386353131 : Int64))))), (.int (0 : Int32)), (.ref ar)])) tg → Steps p.tables e below (s₁.setTop (mkF m 0 #[.val (.ref a1), .val (.long q2), .second, .val (.long q3), .second, .val (.long q4), .second, .unset, .unset, .unset] [])) tg := by
    intro tg kt
    refine R273 _ ?_
    refine st274 _ ?_
    exact kt
  clear R273 st274
  obtain ⟨cl276, Ar276, hin276, -⟩ := VR_257.at (j := (0 : Int32)) (k := 0) (by decide) rfl (by decide)
  obtain ⟨T277, h277, X277, e277, W277, st277⟩ := stJ X274 hx hZ hh274 Ar276 (j := (0 : Int32)) hin276 (g := (mkF m 75 #[.val (.ref a1), .val (.long q2), .second, .val (.long q3), .second, .val (.long q4), .second, .val (.long sk), .second, .val (.int (0 : Int32))] [(.long (own_mix (sk + ((((0 : Int32) + (1 : Int32)).toInt64) * (-7046029254386353131 : Int64))))), (.int (0 : Int32)), (.ref ar)])) rfl rfl (hb hby d16_75)
  have N277 := Fr.snoc X277 N274 g_ar
  rw [show ((0 : Int32) : Int32).toNatClampNeg = 0 from rfl] at W277
  have VR_277 : AV Z h277 ar .long 4 (fun j => .long ((own_set (fun _ => (0 : Int64)) 0 (own_mix (sk + ((((0 : Int32) + (1 : Int32)).toInt64) * (-7046029254386353131 : Int64))))) j)) := VR_257.setJ W277
  have OL_277 := OL_257.wr W277 g_ar
  have E_a1_277 := E_a1_257.wr W277
  have Fsr_277 := Fsr_257.other W277 (Or.inl ne_a1_ar)
  have Fk_277 := Fk_257.other W277 (Or.inl ne_a1_ar)
  have Fs_277 := Fs_257.other W277 (Or.inl ne_a1_ar)
  clear OL_257 E_a1_257 Fsr_257 Fk_257 Fs_257
  have Zs277 : n0 ≤ h277.size := Nat.le_trans Zs257 (Keep.of_wr W277).1
  have Kw277 : Keep h0 h277 [a1] := Keep.wr Kw257 W277 (Or.inr sz_ar)
  have R278 : ∀ tg, Steps p.tables e below (T277.setTop (mkF m 47 #[.val (.ref a1), .val (.long q2), .second, .val (.long q3), .second, .val (.long q4), .second, .val (.long sk), .second, .val (.int ((0 : Int32) + (1 : Int32)))] [(.ref a1), (.int ((0 : Int32) + (1 : Int32)))])) tg → Steps p.tables e below (s₁.setTop (mkF m 0 #[.val (.ref a1), .val (.long q2), .second, .val (.long q3), .second, .val (.long q4), .second, .unset, .unset, .unset] [])) tg := by
    intro tg kt
    refine R275 _ ?_
    refine st277 _ ?_
    show Steps p.tables e below (T277.setTop (mkF m 76 #[.val (.ref a1), .val (.long q2), .second, .val (.long q3), .second, .val (.long q4), .second, .val (.long sk), .second, .val (.int (0 : Int32))] [])) _
    refine XS.iinc X277.here hx rfl (hb hby d16_76) rfl (l' := #[.val (.ref a1), .val (.long q2), .second, .val (.long q3), .second, .val (.long q4), .second, .val (.long sk), .second, .val (.int ((0 : Int32) + (1 : Int32)))]) rfl ?_
    show Steps p.tables e below (T277.setTop (mkF m 79 #[.val (.ref a1), .val (.long q2), .second, .val (.long q3), .second, .val (.long q4), .second, .val (.long sk), .second, .val (.int ((0 : Int32) + (1 : Int32)))] [])) _
    refine XS.goto X277.here hx rfl (pc0 := 79) (pc' := 44) rfl (hb hby d16_79) (by decide) (by decide) ?_
    refine XS.iload X277.here hx rfl (hb hby d16_44) rfl ?_
    refine XS.aloadN X277.here hx rfl (hb hby d16_46) rfl rfl ?_
    exact kt
  clear R275 st277
  obtain ⟨T279, X279, e279, st279⟩ := getF X277 hx hZ hown (host := "") (Or.inl (hw _ (List.mem_of_getElem? (i := 86) rfl))) Via.refl e277 Fsr_277 (g := (mkF m 47 #[.val (.ref a1), .val (.long q2), .second, .val (.long q3), .second, .val (.long q4), .second, .val (.long sk), .second, .val (.int ((0 : Int32) + (1 : Int32)))] [(.ref a1), (.int ((0 : Int32) + (1 : Int32)))])) rfl rfl (hb hby d16_47)
  have R280 : ∀ tg, Steps p.tables e below (T279.setTop (mkF m 50 #[.val (.ref a1), .val (.long q2), .second, .val (.long q3), .second, .val (.long q4), .second, .val (.long sk), .second, .val (.int ((0 : Int32) + (1 : Int32)))] [(.ref ar), (.int ((0 : Int32) + (1 : Int32)))])) tg → Steps p.tables e below (s₁.setTop (mkF m 0 #[.val (.ref a1), .val (.long q2), .second, .val (.long q3), .second, .val (.long q4), .second, .unset, .unset, .unset] [])) tg := by
    intro tg kt
    refine R278 _ ?_
    refine st279 _ ?_
    exact kt
  clear R278 st279
  obtain ⟨cl281, Ar281, ln281⟩ := VR_277.len
  have R282 : ∀ tg, Steps p.tables e below (T279.setTop (mkF m 55 #[.val (.ref a1), .val (.long q2), .second, .val (.long q3), .second, .val (.long q4), .second, .val (.long sk), .second, .val (.int ((0 : Int32) + (1 : Int32)))] [(.ref a1)])) tg → Steps p.tables e below (s₁.setTop (mkF m 0 #[.val (.ref a1), .val (.long q2), .second, .val (.long q3), .second, .val (.long q4), .second, .unset, .unset, .unset] [])) tg := by
    intro tg kt
    refine R280 _ ?_
    show Steps p.tables e below (T279.setTop (mkF m 50 #[.val (.ref a1), .val (.long q2), .second, .val (.long q3), .second, .val (.long q4), .second, .val (.long sk), .second, .val (.int ((0 : Int32) + (1 : Int32)))] [(.ref ar), (.int ((0 : Int32) + (1 : Int32)))])) _
    refine X279.arraylength hx (by rw [e279]; exact Ar281.1) (State.isArrayOf_alike hZ.alike Ar281.2.1) (g := (mkF m 50 #[.val (.ref a1), .val (.long q2), .second, .val (.long q3), .second, .val (.long q4), .second, .val (.long sk), .second, .val (.int ((0 : Int32) + (1 : Int32)))] [(.ref ar), (.int ((0 : Int32) + (1 : Int32)))])) rfl rfl (hb hby d16_50) _ ?_
    rw [ln281]
    show Steps p.tables e below (T279.setTop (mkF m 51 #[.val (.ref a1), .val (.long q2), .second, .val (.long q3), .second, .val (.long q4), .second, .val (.long sk), .second, .val (.int ((0 : Int32) + (1 : Int32)))] [(.int (4 : Int32)), (.int ((0 : Int32) + (1 : Int32)))])) _
    refine XS.icmpNo X279.here hx rfl (hb hby d16_51) rfl (tlt (by decide : ((0 : Int32) + (1 : Int32)) < (4 : Int32))).2.1 ?_
    refine XS.aloadN X279.here hx rfl (hb hby d16_54) rfl rfl ?_
    exact kt
  clear R280
  obtain ⟨T283, X283, e283, st283⟩ := getF X279 hx hZ hown (host := "") (Or.inl (hw _ (List.mem_of_getElem? (i := 86) rfl))) Via.refl e279 Fsr_277 (g := (mkF m 55 #[.val (.ref a1), .val (.long q2), .second, .val (.long q3), .second, .val (.long q4), .second, .val (.long sk), .second, .val (.int ((0 : Int32) + (1 : Int32)))] [(.ref a1)])) rfl rfl (hb hby d16_55)
  have R284 : ∀ tg, Steps p.tables e below (T283.setTop (mkF m 72 #[.val (.ref a1), .val (.long q2), .second, .val (.long q3), .second, .val (.long q4), .second, .val (.long sk), .second, .val (.int ((0 : Int32) + (1 : Int32)))] [(.long (sk + (((((0 : Int32) + (1 : Int32)) + (1 : Int32)).toInt64) * (-7046029254386353131 : Int64)))), (.int ((0 : Int32) + (1 : Int32))), (.ref ar)])) tg → Steps p.tables e below (s₁.setTop (mkF m 0 #[.val (.ref a1), .val (.long q2), .second, .val (.long q3), .second, .val (.long q4), .second, .unset, .unset, .unset] [])) tg := by
    intro tg kt
    refine R282 _ ?_
    refine st283 _ ?_
    refine XS.iload X283.here hx rfl (hb hby d16_58) rfl ?_
    show Steps p.tables e below (T283.setTop (mkF m 60 #[.val (.ref a1), .val (.long q2), .second, .val (.long q3), .second, .val (.long q4), .second, .val (.long sk), .second, .val (.int ((0 : Int32) + (1 : Int32)))] [(.int ((0 : Int32) + (1 : Int32))), (.ref ar)])) _
    refine XS.lload X283.here hx rfl (hb hby d16_60) rfl ?_
    refine XS.iload X283.here hx rfl (hb hby d16_62) rfl ?_
    refine XS.iconst X283.here hx rfl (hb hby d16_64) ?_
    show Steps p.tables e below (T283.setTop (mkF m 65 #[.val (.ref a1), .val (.long q2), .second, .val (.long q3), .second, .val (.long q4), .second, .val (.long sk), .second, .val (.int ((0 : Int32) + (1 : Int32)))] [(.int (1 : Int32)), (.int ((0 : Int32) + (1 : Int32))), (.long sk), (.int ((0 : Int32) + (1 : Int32))), (.ref ar)])) _
    refine XS.iadd X283.here hx rfl (hb hby d16_65) rfl ?_
    show Steps p.tables e below (T283.setTop (mkF m 66 #[.val (.ref a1), .val (.long q2), .second, .val (.long q3), .second, .val (.long q4), .second, .val (.long sk), .second, .val (.int ((0 : Int32) + (1 : Int32)))] [(.int (((0 : Int32) + (1 : Int32)) + (1 : Int32))), (.long sk), (.int ((0 : Int32) + (1 : Int32))), (.ref ar)])) _
    refine XS.i2l X283.here hx rfl (hb hby d16_66) rfl ?_
    show Steps p.tables e below (T283.setTop (mkF m 67 #[.val (.ref a1), .val (.long q2), .second, .val (.long q3), .second, .val (.long q4), .second, .val (.long sk), .second, .val (.int ((0 : Int32) + (1 : Int32)))] [(.long ((((0 : Int32) + (1 : Int32)) + (1 : Int32)).toInt64)), (.long sk), (.int ((0 : Int32) + (1 : Int32))), (.ref ar)])) _
    refine X283.ldc2Long hx hown (mvT hZ (hw _ (List.mem_of_getElem? (i := 94) rfl))) (g := (mkF m 67 #[.val (.ref a1), .val (.long q2), .second, .val (.long q3), .second, .val (.long q4), .second, .val (.long sk), .second, .val (.int ((0 : Int32) + (1 : Int32)))] [(.long ((((0 : Int32) + (1 : Int32)) + (1 : Int32)).toInt64)), (.long sk), (.int ((0 : Int32) + (1 : Int32))), (.ref ar)])) rfl (hb hby d16_67) _ ?_
    show Steps p.tables e below (T283.setTop (mkF m 70 #[.val (.ref a1), .val (.long q2), .second, .val (.long q3), .second, .val (.long q4), .second, .val (.long sk), .second, .val (.int ((0 : Int32) + (1 : Int32)))] [(.long (-7046029254386353131 : Int64)), (.long ((((0 : Int32) + (1 : Int32)) + (1 : Int32)).toInt64)), (.long sk), (.int ((0 : Int32) + (1 : Int32))), (.ref ar)])) _
    refine XS.lmul X283.here hx rfl (hb hby d16_70) rfl ?_
    show Steps p.tables e below (T283.setTop (mkF m 71 #[.val (.ref a1), .val (.long q2), .second, .val (.long q3), .second, .val (.long q4), .second, .val (.long sk), .second, .val (.int ((0 : Int32) + (1 : Int32)))] [(.long (((((0 : Int32) + (1 : Int32)) + (1 : Int32)).toInt64) * (-7046029254386353131 : Int64))), (.long sk), (.int ((0 : Int32) + (1 : Int32))), (.ref ar)])) _
    refine XS.ladd X283.here hx rfl (hb hby d16_71) rfl ?_
    exact kt
  clear R282 st283
  obtain ⟨_, _, ⟨T285, L285, k285, n285⟩, -, X285, ⟨Lc285, hQ285, l285, y285, z285⟩, st285⟩ := Jvm.LawKit.callS X283 hx (y := (⟨"com/example/loadloom/loadloom/Draws", "mix", "(J)J"⟩ : MethodName)) hown (mvT hZ (hw _ (List.mem_of_getElem? (i := 76) rfl))) (mvT hZ (hw _ (List.mem_of_getElem? (i := 77) rfl))) (mvT hZ (hw _ (List.mem_of_getElem? (i := 28) rfl))) (mvT hZ (hw _ (List.mem_of_getElem? (i := 78) rfl))) (by decide) (backOf (W := 2) (rm_mix l Z a0 hw [] (sk + (((((0 : Int32) + (1 : Int32)) + (1 : Int32)).toInt64) * (-7046029254386353131 : Int64))) h277 n0 Zs277) hZ (hw _ (List.mem_of_getElem? (i := 78) rfl)) (hw _ (List.mem_of_getElem? (i := 28) rfl)) (by decide) (by decide)) (g := (mkF m 72 #[.val (.ref a1), .val (.long q2), .second, .val (.long q3), .second, .val (.long q4), .second, .val (.long sk), .second, .val (.int ((0 : Int32) + (1 : Int32)))] [(.long (sk + (((((0 : Int32) + (1 : Int32)) + (1 : Int32)).toInt64) * (-7046029254386353131 : Int64)))), (.int ((0 : Int32) + (1 : Int32))), (.ref ar)])) rfl (by rw [hml]; rfl) (argsL := [(.long (sk + (((((0 : Int32) + (1 : Int32)) + (1 : Int32)).toInt64) * (-7046029254386353131 : Int64))))]) (rest := [(.int ((0 : Int32) + (1 : Int32))), (.ref ar)]) (lenOf pd_13 rfl) rfl (by show 2 * 0 + _ ≤ _; exact Nat.le_of_eq rfl) (hb hby d16_72) (fun _ _ => ⟨rfl, e283, (by decide : 1 + 0 ≤ _), (by decide : 4 + 0 ≤ _)⟩)
  dsimp only [Pt.U, Pt.locs, Pt.cells, Pt.slots] at X285 l285 y285 z285 st285 hQ285
  rw [l285, y285, z285] at X285
  obtain ⟨rfl, N285q, hh285⟩ := hQ285
  have N285 := Fr.app N277 N285q
  have R286 : ∀ tg, Steps p.tables e below (T285.setTop (mkF m 75 #[.val (.ref a1), .val (.long q2), .second, .val (.long q3), .second, .val (.long q4), .second, .val (.long sk), .second, .val (.int ((0 : Int32) + (1 : Int32)))] [(.long (own_mix (sk + (((((0 : Int32) + (1 : Int32)) + (1 : Int32)).toInt64) * (-7046029254386353131 : Int64))))), (.int ((0 : Int32) + (1 : Int32))), (.ref ar)])) tg → Steps p.tables e below (s₁.setTop (mkF m 0 #[.val (.ref a1), .val (.long q2), .second, .val (.long q3), .second, .val (.long q4), .second, .unset, .unset, .unset] [])) tg := by
    intro tg kt
    refine R284 _ ?_
    refine st285 _ ?_
    exact kt
  clear R284 st285
  obtain ⟨cl287, Ar287, hin287, -⟩ := VR_277.at (j := ((0 : Int32) + (1 : Int32))) (k := 1) (by decide) rfl (by decide)
  obtain ⟨T288, h288, X288, e288, W288, st288⟩ := stJ X285 hx hZ hh285 Ar287 (j := ((0 : Int32) + (1 : Int32))) hin287 (g := (mkF m 75 #[.val (.ref a1), .val (.long q2), .second, .val (.long q3), .second, .val (.long q4), .second, .val (.long sk), .second, .val (.int ((0 : Int32) + (1 : Int32)))] [(.long (own_mix (sk + (((((0 : Int32) + (1 : Int32)) + (1 : Int32)).toInt64) * (-7046029254386353131 : Int64))))), (.int ((0 : Int32) + (1 : Int32))), (.ref ar)])) rfl rfl (hb hby d16_75)
  have N288 := Fr.snoc X288 N285 g_ar
  rw [show (((0 : Int32) + (1 : Int32)) : Int32).toNatClampNeg = 1 from rfl] at W288
  have VR_288 : AV Z h288 ar .long 4 (fun j => .long ((own_set (own_set (fun _ => (0 : Int64)) 0 (own_mix (sk + ((((0 : Int32) + (1 : Int32)).toInt64) * (-7046029254386353131 : Int64))))) 1 (own_mix (sk + (((((0 : Int32) + (1 : Int32)) + (1 : Int32)).toInt64) * (-7046029254386353131 : Int64))))) j)) := VR_277.setJ W288
  have OL_288 := OL_277.wr W288 g_ar
  have E_a1_288 := E_a1_277.wr W288
  have Fsr_288 := Fsr_277.other W288 (Or.inl ne_a1_ar)
  have Fk_288 := Fk_277.other W288 (Or.inl ne_a1_ar)
  have Fs_288 := Fs_277.other W288 (Or.inl ne_a1_ar)
  clear OL_277 E_a1_277 Fsr_277 Fk_277 Fs_277
  have Zs288 : n0 ≤ h288.size := Nat.le_trans Zs277 (Keep.of_wr W288).1
  have Kw288 : Keep h0 h288 [a1] := Keep.wr Kw277 W288 (Or.inr sz_ar)
  have R289 : ∀ tg, Steps p.tables e below (T288.setTop (mkF m 47 #[.val (.ref a1), .val (.long q2), .second, .val (.long q3), .second, .val (.long q4), .second, .val (.long sk), .second, .val (.int (((0 : Int32) + (1 : Int32)) + (1 : Int32)))] [(.ref a1), (.int (((0 : Int32) + (1 : Int32)) + (1 : Int32)))])) tg → Steps p.tables e below (s₁.setTop (mkF m 0 #[.val (.ref a1), .val (.long q2), .second, .val (.long q3), .second, .val (.long q4), .second, .unset, .unset, .unset] [])) tg := by
    intro tg kt
    refine R286 _ ?_
    refine st288 _ ?_
    show Steps p.tables e below (T288.setTop (mkF m 76 #[.val (.ref a1), .val (.long q2), .second, .val (.long q3), .second, .val (.long q4), .second, .val (.long sk), .second, .val (.int ((0 : Int32) + (1 : Int32)))] [])) _
    refine XS.iinc X288.here hx rfl (hb hby d16_76) rfl (l' := #[.val (.ref a1), .val (.long q2), .second, .val (.long q3), .second, .val (.long q4), .second, .val (.long sk), .second, .val (.int (((0 : Int32) + (1 : Int32)) + (1 : Int32)))]) rfl ?_
    show Steps p.tables e below (T288.setTop (mkF m 79 #[.val (.ref a1), .val (.long q2), .second, .val (.long q3), .second, .val (.long q4), .second, .val (.long sk), .second, .val (.int (((0 : Int32) + (1 : Int32)) + (1 : Int32)))] [])) _
    refine XS.goto X288.here hx rfl (pc0 := 79) (pc' := 44) rfl (hb hby d16_79) (by decide) (by decide) ?_
    refine XS.iload X288.here hx rfl (hb hby d16_44) rfl ?_
    refine XS.aloadN X288.here hx rfl (hb hby d16_46) rfl rfl ?_
    exact kt
  clear R286 st288
  obtain ⟨T290, X290, e290, st290⟩ := getF X288 hx hZ hown (host := "") (Or.inl (hw _ (List.mem_of_getElem? (i := 86) rfl))) Via.refl e288 Fsr_288 (g := (mkF m 47 #[.val (.ref a1), .val (.long q2), .second, .val (.long q3), .second, .val (.long q4), .second, .val (.long sk), .second, .val (.int (((0 : Int32) + (1 : Int32)) + (1 : Int32)))] [(.ref a1), (.int (((0 : Int32) + (1 : Int32)) + (1 : Int32)))])) rfl rfl (hb hby d16_47)
  have R291 : ∀ tg, Steps p.tables e below (T290.setTop (mkF m 50 #[.val (.ref a1), .val (.long q2), .second, .val (.long q3), .second, .val (.long q4), .second, .val (.long sk), .second, .val (.int (((0 : Int32) + (1 : Int32)) + (1 : Int32)))] [(.ref ar), (.int (((0 : Int32) + (1 : Int32)) + (1 : Int32)))])) tg → Steps p.tables e below (s₁.setTop (mkF m 0 #[.val (.ref a1), .val (.long q2), .second, .val (.long q3), .second, .val (.long q4), .second, .unset, .unset, .unset] [])) tg := by
    intro tg kt
    refine R289 _ ?_
    refine st290 _ ?_
    exact kt
  clear R289 st290
  obtain ⟨cl292, Ar292, ln292⟩ := VR_288.len
  have R293 : ∀ tg, Steps p.tables e below (T290.setTop (mkF m 55 #[.val (.ref a1), .val (.long q2), .second, .val (.long q3), .second, .val (.long q4), .second, .val (.long sk), .second, .val (.int (((0 : Int32) + (1 : Int32)) + (1 : Int32)))] [(.ref a1)])) tg → Steps p.tables e below (s₁.setTop (mkF m 0 #[.val (.ref a1), .val (.long q2), .second, .val (.long q3), .second, .val (.long q4), .second, .unset, .unset, .unset] [])) tg := by
    intro tg kt
    refine R291 _ ?_
    show Steps p.tables e below (T290.setTop (mkF m 50 #[.val (.ref a1), .val (.long q2), .second, .val (.long q3), .second, .val (.long q4), .second, .val (.long sk), .second, .val (.int (((0 : Int32) + (1 : Int32)) + (1 : Int32)))] [(.ref ar), (.int (((0 : Int32) + (1 : Int32)) + (1 : Int32)))])) _
    refine X290.arraylength hx (by rw [e290]; exact Ar292.1) (State.isArrayOf_alike hZ.alike Ar292.2.1) (g := (mkF m 50 #[.val (.ref a1), .val (.long q2), .second, .val (.long q3), .second, .val (.long q4), .second, .val (.long sk), .second, .val (.int (((0 : Int32) + (1 : Int32)) + (1 : Int32)))] [(.ref ar), (.int (((0 : Int32) + (1 : Int32)) + (1 : Int32)))])) rfl rfl (hb hby d16_50) _ ?_
    rw [ln292]
    show Steps p.tables e below (T290.setTop (mkF m 51 #[.val (.ref a1), .val (.long q2), .second, .val (.long q3), .second, .val (.long q4), .second, .val (.long sk), .second, .val (.int (((0 : Int32) + (1 : Int32)) + (1 : Int32)))] [(.int (4 : Int32)), (.int (((0 : Int32) + (1 : Int32)) + (1 : Int32)))])) _
    refine XS.icmpNo X290.here hx rfl (hb hby d16_51) rfl (tlt (by decide : (((0 : Int32) + (1 : Int32)) + (1 : Int32)) < (4 : Int32))).2.1 ?_
    refine XS.aloadN X290.here hx rfl (hb hby d16_54) rfl rfl ?_
    exact kt
  clear R291
  obtain ⟨T294, X294, e294, st294⟩ := getF X290 hx hZ hown (host := "") (Or.inl (hw _ (List.mem_of_getElem? (i := 86) rfl))) Via.refl e290 Fsr_288 (g := (mkF m 55 #[.val (.ref a1), .val (.long q2), .second, .val (.long q3), .second, .val (.long q4), .second, .val (.long sk), .second, .val (.int (((0 : Int32) + (1 : Int32)) + (1 : Int32)))] [(.ref a1)])) rfl rfl (hb hby d16_55)
  have R295 : ∀ tg, Steps p.tables e below (T294.setTop (mkF m 72 #[.val (.ref a1), .val (.long q2), .second, .val (.long q3), .second, .val (.long q4), .second, .val (.long sk), .second, .val (.int (((0 : Int32) + (1 : Int32)) + (1 : Int32)))] [(.long (sk + ((((((0 : Int32) + (1 : Int32)) + (1 : Int32)) + (1 : Int32)).toInt64) * (-7046029254386353131 : Int64)))), (.int (((0 : Int32) + (1 : Int32)) + (1 : Int32))), (.ref ar)])) tg → Steps p.tables e below (s₁.setTop (mkF m 0 #[.val (.ref a1), .val (.long q2), .second, .val (.long q3), .second, .val (.long q4), .second, .unset, .unset, .unset] [])) tg := by
    intro tg kt
    refine R293 _ ?_
    refine st294 _ ?_
    refine XS.iload X294.here hx rfl (hb hby d16_58) rfl ?_
    show Steps p.tables e below (T294.setTop (mkF m 60 #[.val (.ref a1), .val (.long q2), .second, .val (.long q3), .second, .val (.long q4), .second, .val (.long sk), .second, .val (.int (((0 : Int32) + (1 : Int32)) + (1 : Int32)))] [(.int (((0 : Int32) + (1 : Int32)) + (1 : Int32))), (.ref ar)])) _
    refine XS.lload X294.here hx rfl (hb hby d16_60) rfl ?_
    refine XS.iload X294.here hx rfl (hb hby d16_62) rfl ?_
    refine XS.iconst X294.here hx rfl (hb hby d16_64) ?_
    show Steps p.tables e below (T294.setTop (mkF m 65 #[.val (.ref a1), .val (.long q2), .second, .val (.long q3), .second, .val (.long q4), .second, .val (.long sk), .second, .val (.int (((0 : Int32) + (1 : Int32)) + (1 : Int32)))] [(.int (1 : Int32)), (.int (((0 : Int32) + (1 : Int32)) + (1 : Int32))), (.long sk), (.int (((0 : Int32) + (1 : Int32)) + (1 : Int32))), (.ref ar)])) _
    refine XS.iadd X294.here hx rfl (hb hby d16_65) rfl ?_
    show Steps p.tables e below (T294.setTop (mkF m 66 #[.val (.ref a1), .val (.long q2), .second, .val (.long q3), .second, .val (.long q4), .second, .val (.long sk), .second, .val (.int (((0 : Int32) + (1 : Int32)) + (1 : Int32)))] [(.int ((((0 : Int32) + (1 : Int32)) + (1 : Int32)) + (1 : Int32))), (.long sk), (.int (((0 : Int32) + (1 : Int32)) + (1 : Int32))), (.ref ar)])) _
    refine XS.i2l X294.here hx rfl (hb hby d16_66) rfl ?_
    show Steps p.tables e below (T294.setTop (mkF m 67 #[.val (.ref a1), .val (.long q2), .second, .val (.long q3), .second, .val (.long q4), .second, .val (.long sk), .second, .val (.int (((0 : Int32) + (1 : Int32)) + (1 : Int32)))] [(.long (((((0 : Int32) + (1 : Int32)) + (1 : Int32)) + (1 : Int32)).toInt64)), (.long sk), (.int (((0 : Int32) + (1 : Int32)) + (1 : Int32))), (.ref ar)])) _
    refine X294.ldc2Long hx hown (mvT hZ (hw _ (List.mem_of_getElem? (i := 94) rfl))) (g := (mkF m 67 #[.val (.ref a1), .val (.long q2), .second, .val (.long q3), .second, .val (.long q4), .second, .val (.long sk), .second, .val (.int (((0 : Int32) + (1 : Int32)) + (1 : Int32)))] [(.long (((((0 : Int32) + (1 : Int32)) + (1 : Int32)) + (1 : Int32)).toInt64)), (.long sk), (.int (((0 : Int32) + (1 : Int32)) + (1 : Int32))), (.ref ar)])) rfl (hb hby d16_67) _ ?_
    show Steps p.tables e below (T294.setTop (mkF m 70 #[.val (.ref a1), .val (.long q2), .second, .val (.long q3), .second, .val (.long q4), .second, .val (.long sk), .second, .val (.int (((0 : Int32) + (1 : Int32)) + (1 : Int32)))] [(.long (-7046029254386353131 : Int64)), (.long (((((0 : Int32) + (1 : Int32)) + (1 : Int32)) + (1 : Int32)).toInt64)), (.long sk), (.int (((0 : Int32) + (1 : Int32)) + (1 : Int32))), (.ref ar)])) _
    refine XS.lmul X294.here hx rfl (hb hby d16_70) rfl ?_
    show Steps p.tables e below (T294.setTop (mkF m 71 #[.val (.ref a1), .val (.long q2), .second, .val (.long q3), .second, .val (.long q4), .second, .val (.long sk), .second, .val (.int (((0 : Int32) + (1 : Int32)) + (1 : Int32)))] [(.long ((((((0 : Int32) + (1 : Int32)) + (1 : Int32)) + (1 : Int32)).toInt64) * (-7046029254386353131 : Int64))), (.long sk), (.int (((0 : Int32) + (1 : Int32)) + (1 : Int32))), (.ref ar)])) _
    refine XS.ladd X294.here hx rfl (hb hby d16_71) rfl ?_
    exact kt
  clear R293 st294
  obtain ⟨_, _, ⟨T296, L296, k296, n296⟩, -, X296, ⟨Lc296, hQ296, l296, y296, z296⟩, st296⟩ := Jvm.LawKit.callS X294 hx (y := (⟨"com/example/loadloom/loadloom/Draws", "mix", "(J)J"⟩ : MethodName)) hown (mvT hZ (hw _ (List.mem_of_getElem? (i := 76) rfl))) (mvT hZ (hw _ (List.mem_of_getElem? (i := 77) rfl))) (mvT hZ (hw _ (List.mem_of_getElem? (i := 28) rfl))) (mvT hZ (hw _ (List.mem_of_getElem? (i := 78) rfl))) (by decide) (backOf (W := 2) (rm_mix l Z a0 hw [] (sk + ((((((0 : Int32) + (1 : Int32)) + (1 : Int32)) + (1 : Int32)).toInt64) * (-7046029254386353131 : Int64))) h288 n0 Zs288) hZ (hw _ (List.mem_of_getElem? (i := 78) rfl)) (hw _ (List.mem_of_getElem? (i := 28) rfl)) (by decide) (by decide)) (g := (mkF m 72 #[.val (.ref a1), .val (.long q2), .second, .val (.long q3), .second, .val (.long q4), .second, .val (.long sk), .second, .val (.int (((0 : Int32) + (1 : Int32)) + (1 : Int32)))] [(.long (sk + ((((((0 : Int32) + (1 : Int32)) + (1 : Int32)) + (1 : Int32)).toInt64) * (-7046029254386353131 : Int64)))), (.int (((0 : Int32) + (1 : Int32)) + (1 : Int32))), (.ref ar)])) rfl (by rw [hml]; rfl) (argsL := [(.long (sk + ((((((0 : Int32) + (1 : Int32)) + (1 : Int32)) + (1 : Int32)).toInt64) * (-7046029254386353131 : Int64))))]) (rest := [(.int (((0 : Int32) + (1 : Int32)) + (1 : Int32))), (.ref ar)]) (lenOf pd_13 rfl) rfl (by show 2 * 0 + _ ≤ _; exact Nat.le_of_eq rfl) (hb hby d16_72) (fun _ _ => ⟨rfl, e294, (by decide : 1 + 0 ≤ _), (by decide : 4 + 0 ≤ _)⟩)
  dsimp only [Pt.U, Pt.locs, Pt.cells, Pt.slots] at X296 l296 y296 z296 st296 hQ296
  rw [l296, y296, z296] at X296
  obtain ⟨rfl, N296q, hh296⟩ := hQ296
  have N296 := Fr.app N288 N296q
  have R297 : ∀ tg, Steps p.tables e below (T296.setTop (mkF m 75 #[.val (.ref a1), .val (.long q2), .second, .val (.long q3), .second, .val (.long q4), .second, .val (.long sk), .second, .val (.int (((0 : Int32) + (1 : Int32)) + (1 : Int32)))] [(.long (own_mix (sk + ((((((0 : Int32) + (1 : Int32)) + (1 : Int32)) + (1 : Int32)).toInt64) * (-7046029254386353131 : Int64))))), (.int (((0 : Int32) + (1 : Int32)) + (1 : Int32))), (.ref ar)])) tg → Steps p.tables e below (s₁.setTop (mkF m 0 #[.val (.ref a1), .val (.long q2), .second, .val (.long q3), .second, .val (.long q4), .second, .unset, .unset, .unset] [])) tg := by
    intro tg kt
    refine R295 _ ?_
    refine st296 _ ?_
    exact kt
  clear R295 st296
  obtain ⟨cl298, Ar298, hin298, -⟩ := VR_288.at (j := (((0 : Int32) + (1 : Int32)) + (1 : Int32))) (k := 2) (by decide) rfl (by decide)
  obtain ⟨T299, h299, X299, e299, W299, st299⟩ := stJ X296 hx hZ hh296 Ar298 (j := (((0 : Int32) + (1 : Int32)) + (1 : Int32))) hin298 (g := (mkF m 75 #[.val (.ref a1), .val (.long q2), .second, .val (.long q3), .second, .val (.long q4), .second, .val (.long sk), .second, .val (.int (((0 : Int32) + (1 : Int32)) + (1 : Int32)))] [(.long (own_mix (sk + ((((((0 : Int32) + (1 : Int32)) + (1 : Int32)) + (1 : Int32)).toInt64) * (-7046029254386353131 : Int64))))), (.int (((0 : Int32) + (1 : Int32)) + (1 : Int32))), (.ref ar)])) rfl rfl (hb hby d16_75)
  have N299 := Fr.snoc X299 N296 g_ar
  rw [show ((((0 : Int32) + (1 : Int32)) + (1 : Int32)) : Int32).toNatClampNeg = 2 from rfl] at W299
  have VR_299 : AV Z h299 ar .long 4 (fun j => .long ((own_set (own_set (own_set (fun _ => (0 : Int64)) 0 (own_mix (sk + ((((0 : Int32) + (1 : Int32)).toInt64) * (-7046029254386353131 : Int64))))) 1 (own_mix (sk + (((((0 : Int32) + (1 : Int32)) + (1 : Int32)).toInt64) * (-7046029254386353131 : Int64))))) 2 (own_mix (sk + ((((((0 : Int32) + (1 : Int32)) + (1 : Int32)) + (1 : Int32)).toInt64) * (-7046029254386353131 : Int64))))) j)) := VR_288.setJ W299
  have OL_299 := OL_288.wr W299 g_ar
  have E_a1_299 := E_a1_288.wr W299
  have Fsr_299 := Fsr_288.other W299 (Or.inl ne_a1_ar)
  have Fk_299 := Fk_288.other W299 (Or.inl ne_a1_ar)
  have Fs_299 := Fs_288.other W299 (Or.inl ne_a1_ar)
  clear OL_288 E_a1_288 Fsr_288 Fk_288 Fs_288
  have Zs299 : n0 ≤ h299.size := Nat.le_trans Zs288 (Keep.of_wr W299).1
  have Kw299 : Keep h0 h299 [a1] := Keep.wr Kw288 W299 (Or.inr sz_ar)
  have R300 : ∀ tg, Steps p.tables e below (T299.setTop (mkF m 47 #[.val (.ref a1), .val (.long q2), .second, .val (.long q3), .second, .val (.long q4), .second, .val (.long sk), .second, .val (.int ((((0 : Int32) + (1 : Int32)) + (1 : Int32)) + (1 : Int32)))] [(.ref a1), (.int ((((0 : Int32) + (1 : Int32)) + (1 : Int32)) + (1 : Int32)))])) tg → Steps p.tables e below (s₁.setTop (mkF m 0 #[.val (.ref a1), .val (.long q2), .second, .val (.long q3), .second, .val (.long q4), .second, .unset, .unset, .unset] [])) tg := by
    intro tg kt
    refine R297 _ ?_
    refine st299 _ ?_
    show Steps p.tables e below (T299.setTop (mkF m 76 #[.val (.ref a1), .val (.long q2), .second, .val (.long q3), .second, .val (.long q4), .second, .val (.long sk), .second, .val (.int (((0 : Int32) + (1 : Int32)) + (1 : Int32)))] [])) _
    refine XS.iinc X299.here hx rfl (hb hby d16_76) rfl (l' := #[.val (.ref a1), .val (.long q2), .second, .val (.long q3), .second, .val (.long q4), .second, .val (.long sk), .second, .val (.int ((((0 : Int32) + (1 : Int32)) + (1 : Int32)) + (1 : Int32)))]) rfl ?_
    show Steps p.tables e below (T299.setTop (mkF m 79 #[.val (.ref a1), .val (.long q2), .second, .val (.long q3), .second, .val (.long q4), .second, .val (.long sk), .second, .val (.int ((((0 : Int32) + (1 : Int32)) + (1 : Int32)) + (1 : Int32)))] [])) _
    refine XS.goto X299.here hx rfl (pc0 := 79) (pc' := 44) rfl (hb hby d16_79) (by decide) (by decide) ?_
    refine XS.iload X299.here hx rfl (hb hby d16_44) rfl ?_
    refine XS.aloadN X299.here hx rfl (hb hby d16_46) rfl rfl ?_
    exact kt
  clear R297 st299
  obtain ⟨T301, X301, e301, st301⟩ := getF X299 hx hZ hown (host := "") (Or.inl (hw _ (List.mem_of_getElem? (i := 86) rfl))) Via.refl e299 Fsr_299 (g := (mkF m 47 #[.val (.ref a1), .val (.long q2), .second, .val (.long q3), .second, .val (.long q4), .second, .val (.long sk), .second, .val (.int ((((0 : Int32) + (1 : Int32)) + (1 : Int32)) + (1 : Int32)))] [(.ref a1), (.int ((((0 : Int32) + (1 : Int32)) + (1 : Int32)) + (1 : Int32)))])) rfl rfl (hb hby d16_47)
  have R302 : ∀ tg, Steps p.tables e below (T301.setTop (mkF m 50 #[.val (.ref a1), .val (.long q2), .second, .val (.long q3), .second, .val (.long q4), .second, .val (.long sk), .second, .val (.int ((((0 : Int32) + (1 : Int32)) + (1 : Int32)) + (1 : Int32)))] [(.ref ar), (.int ((((0 : Int32) + (1 : Int32)) + (1 : Int32)) + (1 : Int32)))])) tg → Steps p.tables e below (s₁.setTop (mkF m 0 #[.val (.ref a1), .val (.long q2), .second, .val (.long q3), .second, .val (.long q4), .second, .unset, .unset, .unset] [])) tg := by
    intro tg kt
    refine R300 _ ?_
    refine st301 _ ?_
    exact kt
  clear R300 st301
  obtain ⟨cl303, Ar303, ln303⟩ := VR_299.len
  have R304 : ∀ tg, Steps p.tables e below (T301.setTop (mkF m 55 #[.val (.ref a1), .val (.long q2), .second, .val (.long q3), .second, .val (.long q4), .second, .val (.long sk), .second, .val (.int ((((0 : Int32) + (1 : Int32)) + (1 : Int32)) + (1 : Int32)))] [(.ref a1)])) tg → Steps p.tables e below (s₁.setTop (mkF m 0 #[.val (.ref a1), .val (.long q2), .second, .val (.long q3), .second, .val (.long q4), .second, .unset, .unset, .unset] [])) tg := by
    intro tg kt
    refine R302 _ ?_
    show Steps p.tables e below (T301.setTop (mkF m 50 #[.val (.ref a1), .val (.long q2), .second, .val (.long q3), .second, .val (.long q4), .second, .val (.long sk), .second, .val (.int ((((0 : Int32) + (1 : Int32)) + (1 : Int32)) + (1 : Int32)))] [(.ref ar), (.int ((((0 : Int32) + (1 : Int32)) + (1 : Int32)) + (1 : Int32)))])) _
    refine X301.arraylength hx (by rw [e301]; exact Ar303.1) (State.isArrayOf_alike hZ.alike Ar303.2.1) (g := (mkF m 50 #[.val (.ref a1), .val (.long q2), .second, .val (.long q3), .second, .val (.long q4), .second, .val (.long sk), .second, .val (.int ((((0 : Int32) + (1 : Int32)) + (1 : Int32)) + (1 : Int32)))] [(.ref ar), (.int ((((0 : Int32) + (1 : Int32)) + (1 : Int32)) + (1 : Int32)))])) rfl rfl (hb hby d16_50) _ ?_
    rw [ln303]
    show Steps p.tables e below (T301.setTop (mkF m 51 #[.val (.ref a1), .val (.long q2), .second, .val (.long q3), .second, .val (.long q4), .second, .val (.long sk), .second, .val (.int ((((0 : Int32) + (1 : Int32)) + (1 : Int32)) + (1 : Int32)))] [(.int (4 : Int32)), (.int ((((0 : Int32) + (1 : Int32)) + (1 : Int32)) + (1 : Int32)))])) _
    refine XS.icmpNo X301.here hx rfl (hb hby d16_51) rfl (tlt (by decide : ((((0 : Int32) + (1 : Int32)) + (1 : Int32)) + (1 : Int32)) < (4 : Int32))).2.1 ?_
    refine XS.aloadN X301.here hx rfl (hb hby d16_54) rfl rfl ?_
    exact kt
  clear R302
  obtain ⟨T305, X305, e305, st305⟩ := getF X301 hx hZ hown (host := "") (Or.inl (hw _ (List.mem_of_getElem? (i := 86) rfl))) Via.refl e301 Fsr_299 (g := (mkF m 55 #[.val (.ref a1), .val (.long q2), .second, .val (.long q3), .second, .val (.long q4), .second, .val (.long sk), .second, .val (.int ((((0 : Int32) + (1 : Int32)) + (1 : Int32)) + (1 : Int32)))] [(.ref a1)])) rfl rfl (hb hby d16_55)
  have R306 : ∀ tg, Steps p.tables e below (T305.setTop (mkF m 72 #[.val (.ref a1), .val (.long q2), .second, .val (.long q3), .second, .val (.long q4), .second, .val (.long sk), .second, .val (.int ((((0 : Int32) + (1 : Int32)) + (1 : Int32)) + (1 : Int32)))] [(.long (sk + (((((((0 : Int32) + (1 : Int32)) + (1 : Int32)) + (1 : Int32)) + (1 : Int32)).toInt64) * (-7046029254386353131 : Int64)))), (.int ((((0 : Int32) + (1 : Int32)) + (1 : Int32)) + (1 : Int32))), (.ref ar)])) tg → Steps p.tables e below (s₁.setTop (mkF m 0 #[.val (.ref a1), .val (.long q2), .second, .val (.long q3), .second, .val (.long q4), .second, .unset, .unset, .unset] [])) tg := by
    intro tg kt
    refine R304 _ ?_
    refine st305 _ ?_
    refine XS.iload X305.here hx rfl (hb hby d16_58) rfl ?_
    show Steps p.tables e below (T305.setTop (mkF m 60 #[.val (.ref a1), .val (.long q2), .second, .val (.long q3), .second, .val (.long q4), .second, .val (.long sk), .second, .val (.int ((((0 : Int32) + (1 : Int32)) + (1 : Int32)) + (1 : Int32)))] [(.int ((((0 : Int32) + (1 : Int32)) + (1 : Int32)) + (1 : Int32))), (.ref ar)])) _
    refine XS.lload X305.here hx rfl (hb hby d16_60) rfl ?_
    refine XS.iload X305.here hx rfl (hb hby d16_62) rfl ?_
    refine XS.iconst X305.here hx rfl (hb hby d16_64) ?_
    show Steps p.tables e below (T305.setTop (mkF m 65 #[.val (.ref a1), .val (.long q2), .second, .val (.long q3), .second, .val (.long q4), .second, .val (.long sk), .second, .val (.int ((((0 : Int32) + (1 : Int32)) + (1 : Int32)) + (1 : Int32)))] [(.int (1 : Int32)), (.int ((((0 : Int32) + (1 : Int32)) + (1 : Int32)) + (1 : Int32))), (.long sk), (.int ((((0 : Int32) + (1 : Int32)) + (1 : Int32)) + (1 : Int32))), (.ref ar)])) _
    refine XS.iadd X305.here hx rfl (hb hby d16_65) rfl ?_
    show Steps p.tables e below (T305.setTop (mkF m 66 #[.val (.ref a1), .val (.long q2), .second, .val (.long q3), .second, .val (.long q4), .second, .val (.long sk), .second, .val (.int ((((0 : Int32) + (1 : Int32)) + (1 : Int32)) + (1 : Int32)))] [(.int (((((0 : Int32) + (1 : Int32)) + (1 : Int32)) + (1 : Int32)) + (1 : Int32))), (.long sk), (.int ((((0 : Int32) + (1 : Int32)) + (1 : Int32)) + (1 : Int32))), (.ref ar)])) _
    refine XS.i2l X305.here hx rfl (hb hby d16_66) rfl ?_
    show Steps p.tables e below (T305.setTop (mkF m 67 #[.val (.ref a1), .val (.long q2), .second, .val (.long q3), .second, .val (.long q4), .second, .val (.long sk), .second, .val (.int ((((0 : Int32) + (1 : Int32)) + (1 : Int32)) + (1 : Int32)))] [(.long ((((((0 : Int32) + (1 : Int32)) + (1 : Int32)) + (1 : Int32)) + (1 : Int32)).toInt64)), (.long sk), (.int ((((0 : Int32) + (1 : Int32)) + (1 : Int32)) + (1 : Int32))), (.ref ar)])) _
    refine X305.ldc2Long hx hown (mvT hZ (hw _ (List.mem_of_getElem? (i := 94) rfl))) (g := (mkF m 67 #[.val (.ref a1), .val (.long q2), .second, .val (.long q3), .second, .val (.long q4), .second, .val (.long sk), .second, .val (.int ((((0 : Int32) + (1 : Int32)) + (1 : Int32)) + (1 : Int32)))] [(.long ((((((0 : Int32) + (1 : Int32)) + (1 : Int32)) + (1 : Int32)) + (1 : Int32)).toInt64)), (.long sk), (.int ((((0 : Int32) + (1 : Int32)) + (1 : Int32)) + (1 : Int32))), (.ref ar)])) rfl (hb hby d16_67) _ ?_
    show Steps p.tables e below (T305.setTop (mkF m 70 #[.val (.ref a1), .val (.long q2), .second, .val (.long q3), .second, .val (.long q4), .second, .val (.long sk), .second, .val (.int ((((0 : Int32) + (1 : Int32)) + (1 : Int32)) + (1 : Int32)))] [(.long (-7046029254386353131 : Int64)), (.long ((((((0 : Int32) + (1 : Int32)) + (1 : Int32)) + (1 : Int32)) + (1 : Int32)).toInt64)), (.long sk), (.int ((((0 : Int32) + (1 : Int32)) + (1 : Int32)) + (1 : Int32))), (.ref ar)])) _
    refine XS.lmul X305.here hx rfl (hb hby d16_70) rfl ?_
    show Steps p.tables e below (T305.setTop (mkF m 71 #[.val (.ref a1), .val (.long q2), .second, .val (.long q3), .second, .val (.long q4), .second, .val (.long sk), .second, .val (.int ((((0 : Int32) + (1 : Int32)) + (1 : Int32)) + (1 : Int32)))] [(.long (((((((0 : Int32) + (1 : Int32)) + (1 : Int32)) + (1 : Int32)) + (1 : Int32)).toInt64) * (-7046029254386353131 : Int64))), (.long sk), (.int ((((0 : Int32) + (1 : Int32)) + (1 : Int32)) + (1 : Int32))), (.ref ar)])) _
    refine XS.ladd X305.here hx rfl (hb hby d16_71) rfl ?_
    exact kt
  clear R304 st305
  obtain ⟨_, _, ⟨T307, L307, k307, n307⟩, -, X307, ⟨Lc307, hQ307, l307, y307, z307⟩, st307⟩ := Jvm.LawKit.callS X305 hx (y := (⟨"com/example/loadloom/loadloom/Draws", "mix", "(J)J"⟩ : MethodName)) hown (mvT hZ (hw _ (List.mem_of_getElem? (i := 76) rfl))) (mvT hZ (hw _ (List.mem_of_getElem? (i := 77) rfl))) (mvT hZ (hw _ (List.mem_of_getElem? (i := 28) rfl))) (mvT hZ (hw _ (List.mem_of_getElem? (i := 78) rfl))) (by decide) (backOf (W := 2) (rm_mix l Z a0 hw [] (sk + (((((((0 : Int32) + (1 : Int32)) + (1 : Int32)) + (1 : Int32)) + (1 : Int32)).toInt64) * (-7046029254386353131 : Int64))) h299 n0 Zs299) hZ (hw _ (List.mem_of_getElem? (i := 78) rfl)) (hw _ (List.mem_of_getElem? (i := 28) rfl)) (by decide) (by decide)) (g := (mkF m 72 #[.val (.ref a1), .val (.long q2), .second, .val (.long q3), .second, .val (.long q4), .second, .val (.long sk), .second, .val (.int ((((0 : Int32) + (1 : Int32)) + (1 : Int32)) + (1 : Int32)))] [(.long (sk + (((((((0 : Int32) + (1 : Int32)) + (1 : Int32)) + (1 : Int32)) + (1 : Int32)).toInt64) * (-7046029254386353131 : Int64)))), (.int ((((0 : Int32) + (1 : Int32)) + (1 : Int32)) + (1 : Int32))), (.ref ar)])) rfl (by rw [hml]; rfl) (argsL := [(.long (sk + (((((((0 : Int32) + (1 : Int32)) + (1 : Int32)) + (1 : Int32)) + (1 : Int32)).toInt64) * (-7046029254386353131 : Int64))))]) (rest := [(.int ((((0 : Int32) + (1 : Int32)) + (1 : Int32)) + (1 : Int32))), (.ref ar)]) (lenOf pd_13 rfl) rfl (by show 2 * 0 + _ ≤ _; exact Nat.le_of_eq rfl) (hb hby d16_72) (fun _ _ => ⟨rfl, e305, (by decide : 1 + 0 ≤ _), (by decide : 4 + 0 ≤ _)⟩)
  dsimp only [Pt.U, Pt.locs, Pt.cells, Pt.slots] at X307 l307 y307 z307 st307 hQ307
  rw [l307, y307, z307] at X307
  obtain ⟨rfl, N307q, hh307⟩ := hQ307
  have N307 := Fr.app N299 N307q
  have R308 : ∀ tg, Steps p.tables e below (T307.setTop (mkF m 75 #[.val (.ref a1), .val (.long q2), .second, .val (.long q3), .second, .val (.long q4), .second, .val (.long sk), .second, .val (.int ((((0 : Int32) + (1 : Int32)) + (1 : Int32)) + (1 : Int32)))] [(.long (own_mix (sk + (((((((0 : Int32) + (1 : Int32)) + (1 : Int32)) + (1 : Int32)) + (1 : Int32)).toInt64) * (-7046029254386353131 : Int64))))), (.int ((((0 : Int32) + (1 : Int32)) + (1 : Int32)) + (1 : Int32))), (.ref ar)])) tg → Steps p.tables e below (s₁.setTop (mkF m 0 #[.val (.ref a1), .val (.long q2), .second, .val (.long q3), .second, .val (.long q4), .second, .unset, .unset, .unset] [])) tg := by
    intro tg kt
    refine R306 _ ?_
    refine st307 _ ?_
    exact kt
  clear R306 st307
  obtain ⟨cl309, Ar309, hin309, -⟩ := VR_299.at (j := ((((0 : Int32) + (1 : Int32)) + (1 : Int32)) + (1 : Int32))) (k := 3) (by decide) rfl (by decide)
  obtain ⟨T310, h310, X310, e310, W310, st310⟩ := stJ X307 hx hZ hh307 Ar309 (j := ((((0 : Int32) + (1 : Int32)) + (1 : Int32)) + (1 : Int32))) hin309 (g := (mkF m 75 #[.val (.ref a1), .val (.long q2), .second, .val (.long q3), .second, .val (.long q4), .second, .val (.long sk), .second, .val (.int ((((0 : Int32) + (1 : Int32)) + (1 : Int32)) + (1 : Int32)))] [(.long (own_mix (sk + (((((((0 : Int32) + (1 : Int32)) + (1 : Int32)) + (1 : Int32)) + (1 : Int32)).toInt64) * (-7046029254386353131 : Int64))))), (.int ((((0 : Int32) + (1 : Int32)) + (1 : Int32)) + (1 : Int32))), (.ref ar)])) rfl rfl (hb hby d16_75)
  have N310 := Fr.snoc X310 N307 g_ar
  rw [show (((((0 : Int32) + (1 : Int32)) + (1 : Int32)) + (1 : Int32)) : Int32).toNatClampNeg = 3 from rfl] at W310
  have VR_310 : AV Z h310 ar .long 4 (fun j => .long ((own_set (own_set (own_set (own_set (fun _ => (0 : Int64)) 0 (own_mix (sk + ((((0 : Int32) + (1 : Int32)).toInt64) * (-7046029254386353131 : Int64))))) 1 (own_mix (sk + (((((0 : Int32) + (1 : Int32)) + (1 : Int32)).toInt64) * (-7046029254386353131 : Int64))))) 2 (own_mix (sk + ((((((0 : Int32) + (1 : Int32)) + (1 : Int32)) + (1 : Int32)).toInt64) * (-7046029254386353131 : Int64))))) 3 (own_mix (sk + (((((((0 : Int32) + (1 : Int32)) + (1 : Int32)) + (1 : Int32)) + (1 : Int32)).toInt64) * (-7046029254386353131 : Int64))))) j)) := VR_299.setJ W310
  have OL_310 := OL_299.wr W310 g_ar
  have E_a1_310 := E_a1_299.wr W310
  have Fsr_310 := Fsr_299.other W310 (Or.inl ne_a1_ar)
  have Fk_310 := Fk_299.other W310 (Or.inl ne_a1_ar)
  have Fs_310 := Fs_299.other W310 (Or.inl ne_a1_ar)
  clear OL_299 E_a1_299 Fsr_299 Fk_299 Fs_299
  have Zs310 : n0 ≤ h310.size := Nat.le_trans Zs299 (Keep.of_wr W310).1
  have Kw310 : Keep h0 h310 [a1] := Keep.wr Kw299 W310 (Or.inr sz_ar)
  have R311 : ∀ tg, Steps p.tables e below (T310.setTop (mkF m 47 #[.val (.ref a1), .val (.long q2), .second, .val (.long q3), .second, .val (.long q4), .second, .val (.long sk), .second, .val (.int (((((0 : Int32) + (1 : Int32)) + (1 : Int32)) + (1 : Int32)) + (1 : Int32)))] [(.ref a1), (.int (((((0 : Int32) + (1 : Int32)) + (1 : Int32)) + (1 : Int32)) + (1 : Int32)))])) tg → Steps p.tables e below (s₁.setTop (mkF m 0 #[.val (.ref a1), .val (.long q2), .second, .val (.long q3), .second, .val (.long q4), .second, .unset, .unset, .unset] [])) tg := by
    intro tg kt
    refine R308 _ ?_
    refine st310 _ ?_
    show Steps p.tables e below (T310.setTop (mkF m 76 #[.val (.ref a1), .val (.long q2), .second, .val (.long q3), .second, .val (.long q4), .second, .val (.long sk), .second, .val (.int ((((0 : Int32) + (1 : Int32)) + (1 : Int32)) + (1 : Int32)))] [])) _
    refine XS.iinc X310.here hx rfl (hb hby d16_76) rfl (l' := #[.val (.ref a1), .val (.long q2), .second, .val (.long q3), .second, .val (.long q4), .second, .val (.long sk), .second, .val (.int (((((0 : Int32) + (1 : Int32)) + (1 : Int32)) + (1 : Int32)) + (1 : Int32)))]) rfl ?_
    show Steps p.tables e below (T310.setTop (mkF m 79 #[.val (.ref a1), .val (.long q2), .second, .val (.long q3), .second, .val (.long q4), .second, .val (.long sk), .second, .val (.int (((((0 : Int32) + (1 : Int32)) + (1 : Int32)) + (1 : Int32)) + (1 : Int32)))] [])) _
    refine XS.goto X310.here hx rfl (pc0 := 79) (pc' := 44) rfl (hb hby d16_79) (by decide) (by decide) ?_
    refine XS.iload X310.here hx rfl (hb hby d16_44) rfl ?_
    refine XS.aloadN X310.here hx rfl (hb hby d16_46) rfl rfl ?_
    exact kt
  clear R308 st310
  obtain ⟨T312, X312, e312, st312⟩ := getF X310 hx hZ hown (host := "") (Or.inl (hw _ (List.mem_of_getElem? (i := 86) rfl))) Via.refl e310 Fsr_310 (g := (mkF m 47 #[.val (.ref a1), .val (.long q2), .second, .val (.long q3), .second, .val (.long q4), .second, .val (.long sk), .second, .val (.int (((((0 : Int32) + (1 : Int32)) + (1 : Int32)) + (1 : Int32)) + (1 : Int32)))] [(.ref a1), (.int (((((0 : Int32) + (1 : Int32)) + (1 : Int32)) + (1 : Int32)) + (1 : Int32)))])) rfl rfl (hb hby d16_47)
  have R313 : ∀ tg, Steps p.tables e below (T312.setTop (mkF m 50 #[.val (.ref a1), .val (.long q2), .second, .val (.long q3), .second, .val (.long q4), .second, .val (.long sk), .second, .val (.int (((((0 : Int32) + (1 : Int32)) + (1 : Int32)) + (1 : Int32)) + (1 : Int32)))] [(.ref ar), (.int (((((0 : Int32) + (1 : Int32)) + (1 : Int32)) + (1 : Int32)) + (1 : Int32)))])) tg → Steps p.tables e below (s₁.setTop (mkF m 0 #[.val (.ref a1), .val (.long q2), .second, .val (.long q3), .second, .val (.long q4), .second, .unset, .unset, .unset] [])) tg := by
    intro tg kt
    refine R311 _ ?_
    refine st312 _ ?_
    exact kt
  clear R311 st312
  obtain ⟨cl314, Ar314, ln314⟩ := VR_310.len
  have R315 : ∀ tg, Steps p.tables e below (T312.setTop (mkF m 82 #[.val (.ref a1), .val (.long q2), .second, .val (.long q3), .second, .val (.long q4), .second, .val (.long sk), .second, .val (.int (((((0 : Int32) + (1 : Int32)) + (1 : Int32)) + (1 : Int32)) + (1 : Int32)))] [])) tg → Steps p.tables e below (s₁.setTop (mkF m 0 #[.val (.ref a1), .val (.long q2), .second, .val (.long q3), .second, .val (.long q4), .second, .unset, .unset, .unset] [])) tg := by
    intro tg kt
    refine R313 _ ?_
    show Steps p.tables e below (T312.setTop (mkF m 50 #[.val (.ref a1), .val (.long q2), .second, .val (.long q3), .second, .val (.long q4), .second, .val (.long sk), .second, .val (.int (((((0 : Int32) + (1 : Int32)) + (1 : Int32)) + (1 : Int32)) + (1 : Int32)))] [(.ref ar), (.int (((((0 : Int32) + (1 : Int32)) + (1 : Int32)) + (1 : Int32)) + (1 : Int32)))])) _
    refine X312.arraylength hx (by rw [e312]; exact Ar314.1) (State.isArrayOf_alike hZ.alike Ar314.2.1) (g := (mkF m 50 #[.val (.ref a1), .val (.long q2), .second, .val (.long q3), .second, .val (.long q4), .second, .val (.long sk), .second, .val (.int (((((0 : Int32) + (1 : Int32)) + (1 : Int32)) + (1 : Int32)) + (1 : Int32)))] [(.ref ar), (.int (((((0 : Int32) + (1 : Int32)) + (1 : Int32)) + (1 : Int32)) + (1 : Int32)))])) rfl rfl (hb hby d16_50) _ ?_
    rw [ln314]
    show Steps p.tables e below (T312.setTop (mkF m 51 #[.val (.ref a1), .val (.long q2), .second, .val (.long q3), .second, .val (.long q4), .second, .val (.long sk), .second, .val (.int (((((0 : Int32) + (1 : Int32)) + (1 : Int32)) + (1 : Int32)) + (1 : Int32)))] [(.int (4 : Int32)), (.int (((((0 : Int32) + (1 : Int32)) + (1 : Int32)) + (1 : Int32)) + (1 : Int32)))])) _
    refine XS.icmpYes X312.here hx rfl (pc0 := 51) (pc' := 82) rfl (hb hby d16_51) rfl (flt (by decide : ¬ ((((((0 : Int32) + (1 : Int32)) + (1 : Int32)) + (1 : Int32)) + (1 : Int32)) < (4 : Int32)))).2.1 (by decide) (by decide) ?_
    exact kt
  clear R313
  obtain ⟨fs, hr, hrun, hended, hW, hsame⟩ := X312.leave (v := none) (fun _ => rfl)
  refine ⟨_, _, pre0 _ (R315 _ ?_), hrun, hended, _, _, rfl, ?_, ⟨_, rfl⟩, hW, hsame.mono (by decide) (by decide)⟩
  · exact X312.returnOut hx Bd.returns (hb hby d16_82) hr
  · show Q_rm_dr3 Z a1 q2 q3 q4 sw gw h0 n0 _ T312.heap _
    rw [e312]
    exact ⟨rfl, N310, Kw310, E_a1_310, Fk_310, Fs_310⟩
theorem d6_0 : decode prog_8_method_2_code 0 = .ok (.aload_n 0, 1) := by decide +kernel
theorem d6_1 : decode prog_8_method_2_code 1 = .ok (.lload_n 1, 1) := by decide +kernel
theorem d6_2 : decode prog_8_method_2_code 2 = .ok (.lload_n 1, 1) := by decide +kernel
theorem d6_3 : decode prog_8_method_2_code 3 = .ok (.aload_n 3, 1) := by decide +kernel
theorem d6_4 : decode prog_8_method_2_code 4 = .ok (.aload 4, 2) := by decide +kernel
theorem pd_14 : parseMethodDescriptor "(JLjava/lang/String;Ljava/lang/String;)J" = some ⟨[.long, (.object "java/lang/String"), (.object "java/lang/String")], some .long⟩ := by decide +kernel
theorem d6_6 : decode prog_8_method_2_code 6 = .ok (.invokestatic 36, 3) := by decide +kernel
theorem d6_9 : decode prog_8_method_2_code 9 = .ok (.lconst 0, 1) := by decide +kernel
theorem pd_15 : parseMethodDescriptor "(JJJ)V" = some ⟨[.long, .long, .long], none⟩ := by decide +kernel
theorem d6_10 : decode prog_8_method_2_code 10 = .ok (.invokespecial 40, 3) := by decide +kernel
theorem d6_13 : decode prog_8_method_2_code 13 = .ok (.return_, 1) := by decide +kernel
theorem ef_rm_dr (m : MethodId) (a1 : Addr) (q2 : Int64) (a3 : Addr) (a4 : Addr) : entryFrame m #[(.ref a1), (.long q2), (.ref a3), (.ref a4)] 5 = mkF m 0 #[.val (.ref a1), .val (.long q2), .second, .val (.ref a3), .val (.ref a4)] [] := by first | (simp [entryFrame, mkF, argsToLocals, Value.category]; done) | rfl
def Q_rm_dr (Z : State) (a1 : Addr) (q2 : Int64) (a3 : Addr) (a4 : Addr) (c2 : Int32) (c3 : Int32) (t2 : Addr) (t3 : Addr) (uu : Addr) (cs : Int32) (sw : Addr) (gw : Nat → Int32) (h0 : Heap) (n0 : Nat) (v : Option Value) (h : Heap) (L : List Loc) : Prop := v = none ∧ Fr n0 L ∧ Keep h0 h [a1] ∧ Exa Z h a1 "com/example/loadloom/loadloom/Draws" ∧ Fld Z h a1 "com/example/loadloom/loadloom/Draws" "key" "J" (.long (own_key q2 c2 c3)) ∧ Fld Z h a1 "com/example/loadloom/loadloom/Draws" "state" "J" (.long (0 : Int64))
set_option maxRecDepth 65536 in
set_option maxHeartbeats 40000000 in
theorem rm_dr (l : Launch) (Z : State) (a0 : Array Value) (hw : ∀ d ∈ tables_1, d.before a0 Z = true) (ws : List Jvm.Cond) (a1 : Addr) (q2 : Int64) (a3 : Addr) (a4 : Addr) (c2 : Int32) (c3 : Int32) (t2 : Addr) (t3 : Addr) (uu : Addr) (cs : Int32) (sw : Addr) (gw : Nat → Int32) (h0 : Heap) (n0 : Nat) (Z0 : n0 ≤ h0.size) (E1 : Exa Z h0 a1 "com/example/loadloom/loadloom/Draws") (Fsr : Fld Z h0 a1 "com/example/loadloom/loadloom/Draws" "spreadRounds" "[J" .null) (Fk : Fld Z h0 a1 "com/example/loadloom/loadloom/Draws" "key" "J" (.long (0 : Int64))) (Fs : Fld Z h0 a1 "com/example/loadloom/loadloom/Draws" "state" "J" (.long (0 : Int64))) (ga : n0 ≤ a1) (SW : Sta Z Z.heap "com/example/loadloom/loadloom/Draws" "SPREAD_WORD" "[B" (.ref sw)) (VW : AV Z Z.heap sw .byte 6 (fun j => .int (gw j))) (SC : Sta Z Z.heap "java/lang/String" "COMPACT_STRINGS" "Z" (.int cs)) (SU : Sta Z Z.heap "java/nio/charset/StandardCharsets" "UTF_8" "Ljava/nio/charset/Charset;" (.ref uu)) (SI : Sta Z Z.heap "sun/nio/cs/UTF_8" "INSTANCE" "Lsun/nio/cs/UTF_8;" (.ref uu)) (OL : Old Z n0 h0) (hcs : ¬ (cs = (0 : Int32))) (E2 : Exa Z h0 a3 "java/lang/String") (Fv2 : Fld Z h0 a3 "java/lang/String" "value" "[B" (.ref t2)) (Fc2 : Fld Z h0 a3 "java/lang/String" "coder" "B" (.int (0 : Int32))) (VA2 : AV Z h0 t2 .byte 1 (fun _ => .int (own_bv c2))) (EA2 : Exa Z h0 t2 "[B") (hz2 : ¬ c2 < 0) (hc2 : ¬ (255 : Int32) < c2) (E3 : Exa Z h0 a4 "java/lang/String") (Fv3 : Fld Z h0 a4 "java/lang/String" "value" "[B" (.ref t3)) (Fc3 : Fld Z h0 a4 "java/lang/String" "coder" "B" (.int (0 : Int32))) (VA3 : AV Z h0 t3 .byte 1 (fun _ => .int (own_bv c3))) (EA3 : Exa Z h0 t3 "[B") (hz3 : ¬ c3 < 0) (hc3 : ¬ (255 : Int32) < c3) :
    MetFree l (⟨"com/example/loadloom/loadloom/Draws", "<init>", "(JLjava/lang/String;Ljava/lang/String;)V"⟩ : MethodName) (head1 (Jvm.Cond.code (⟨"com/example/loadloom/loadloom/Draws", "<init>", "(JLjava/lang/String;Ljava/lang/String;)V"⟩ : MethodName) prog_8_method_2_code 5 none :: ws) ({ frames := 6, cells := 4, slots := 9, locals := 99 } : Room)) (fun a U => a = #[(.ref a1), (.long q2), (.ref a3), (.ref a4)] ∧ Z.Warmed39 U.vm ∧ U.heap = h0) (fun _ _ _ _ _ => True) (fun _ U oC U' => ∃ v L, oC = .returned v ∧ Q_rm_dr Z a1 q2 a3 a4 c2 c3 t2 t3 uu cs sw gw h0 n0 v U'.heap L ∧ FrameEnd U oC U' L ({ frames := 6, cells := 4, slots := 9, locals := 99 } : Room).cells ({ frames := 6, cells := 4, slots := 9, locals := 99 } : Room).slots) := by
  refine MetFree.of_bodySF (plainFor_of_name pn_0) hisR ?_
  intro p e s m args below meth c s₁ Bd hml0 hP hK
  obtain ⟨rfl, hZ, hh⟩ := hP
  have hx := Bd.exec
  have hby := Bd.bytes
  have hml : c.maxLocals = 5 := hml0
  have hown : s.vm.findClass "com/example/loadloom/loadloom/Draws" = some m.cls := findClass_of_methodNamed Bd.named
  have hnm := (name_of_methodNamed Bd.named Bd.method).1
  have X0 : Stand p l e ({ frames := 6, cells := 4, slots := 9, locals := 99 } : Room) s m #[(.ref a1), (.long q2), (.ref a3), (.ref a4)] below meth c s₁ [] 0 0 := Stand.of_body Bd
  have e0 : s₁.heap = h0 := by rw [← hh, Bd.state]; rfl
  have N0 := Fr.nil n0
  have pre0 : ∀ tg, Steps p.tables e below (s₁.setTop (mkF m 0 #[.val (.ref a1), .val (.long q2), .second, .val (.ref a3), .val (.ref a4)] [])) tg → Steps p.tables e below (s₁.setTop (entryFrame m #[(.ref a1), (.long q2), (.ref a3), (.ref a4)] 5)) tg := fun t k => castTop (ef_rm_dr m a1 q2 a3 a4) k
  have pre00 : ∀ tg, Steps p.tables e below (s₁.setTop (mkF m 0 #[.val (.ref a1), .val (.long q2), .second, .val (.ref a3), .val (.ref a4)] [])) tg → Steps p.tables e below (s₁.setTop (mkF m 0 #[.val (.ref a1), .val (.long q2), .second, .val (.ref a3), .val (.ref a4)] [])) tg := fun _ k => k
  have R316 : ∀ tg, Steps p.tables e below (s₁.setTop (mkF m 6 #[.val (.ref a1), .val (.long q2), .second, .val (.ref a3), .val (.ref a4)] [(.ref a4), (.ref a3), (.long q2), (.long q2), (.ref a1)])) tg → Steps p.tables e below (s₁.setTop (mkF m 0 #[.val (.ref a1), .val (.long q2), .second, .val (.ref a3), .val (.ref a4)] [])) tg := by
    intro tg kt
    refine pre00 _ ?_
    show Steps p.tables e below (s₁.setTop (mkF m 0 #[.val (.ref a1), .val (.long q2), .second, .val (.ref a3), .val (.ref a4)] [])) _
    refine XS.aloadN X0.here hx rfl (hb hby d6_0) rfl rfl ?_
    refine XS.lloadN X0.here hx rfl (hb hby d6_1) rfl ?_
    refine XS.lloadN X0.here hx rfl (hb hby d6_2) rfl ?_
    show Steps p.tables e below (s₁.setTop (mkF m 3 #[.val (.ref a1), .val (.long q2), .second, .val (.ref a3), .val (.ref a4)] [(.long q2), (.long q2), (.ref a1)])) _
    refine XS.aloadN X0.here hx rfl (hb hby d6_3) rfl rfl ?_
    refine XS.aload X0.here hx rfl (hb hby d6_4) rfl rfl ?_
    exact kt
  obtain ⟨_, _, ⟨T317, L317, k317, n317⟩, -, X317, ⟨Lc317, hQ317, l317, y317, z317⟩, st317⟩ := Jvm.LawKit.callS X0 hx (y := (⟨"com/example/loadloom/loadloom/Draws", "attributeKey", "(JLjava/lang/String;Ljava/lang/String;)J"⟩ : MethodName)) hown (mvT hZ (hw _ (List.mem_of_getElem? (i := 32) rfl))) (mvT hZ (hw _ (List.mem_of_getElem? (i := 33) rfl))) (mvT hZ (hw _ (List.mem_of_getElem? (i := 28) rfl))) (mvT hZ (hw _ (List.mem_of_getElem? (i := 34) rfl))) (by decide) (backOf (W := 3) (rm_key l Z a0 hw [] q2 a3 a4 c2 c3 t2 t3 uu cs h0 n0 Z0 SC SU SI OL hcs E2 Fv2 Fc2 VA2 EA2 hz2 hc2 E3 Fv3 Fc3 VA3 EA3 hz3 hc3) hZ (hw _ (List.mem_of_getElem? (i := 34) rfl)) (hw _ (List.mem_of_getElem? (i := 28) rfl)) (by decide) (by decide)) (g := (mkF m 6 #[.val (.ref a1), .val (.long q2), .second, .val (.ref a3), .val (.ref a4)] [(.ref a4), (.ref a3), (.long q2), (.long q2), (.ref a1)])) rfl (by rw [hml]; rfl) (argsL := [(.long q2), (.ref a3), (.ref a4)]) (rest := [(.long q2), (.ref a1)]) (lenOf pd_14 rfl) rfl (by show 2 * 0 + _ ≤ _; exact Nat.le_of_eq rfl) (hb hby d6_6) (fun _ _ => ⟨rfl, e0, (by decide : 0 + 3 ≤ _), (by decide : 0 + 5 ≤ _)⟩)
  dsimp only [Pt.U, Pt.locs, Pt.cells, Pt.slots] at X317 l317 y317 z317 st317 hQ317
  rw [l317, y317, z317] at X317
  obtain ⟨rfl, N317q, K317⟩ := hQ317
  have N317 := Fr.app N0 N317q
  have OL_318 := OL.keep K317 (own_ge0)
  have E_a1_318 := E1.keep K317
  have Fsr_318 := Fsr.keep K317 own_notin0
  have Fk_318 := Fk.keep K317 own_notin0
  have Fs_318 := Fs.keep K317 own_notin0
  have Zs318 : n0 ≤ T317.heap.size := Nat.le_trans Z0 K317.1
  have Kk318 : Keep h0 T317.heap [a1] := Keep.trans (Keep.refl h0 [a1]) K317 (own_trans0 )
  have R319 : ∀ tg, Steps p.tables e below (T317.setTop (mkF m 10 #[.val (.ref a1), .val (.long q2), .second, .val (.ref a3), .val (.ref a4)] [(.long (0 : Int64)), (.long (own_key q2 c2 c3)), (.long q2), (.ref a1)])) tg → Steps p.tables e below (s₁.setTop (mkF m 0 #[.val (.ref a1), .val (.long q2), .second, .val (.ref a3), .val (.ref a4)] [])) tg := by
    intro tg kt
    refine R316 _ ?_
    refine st317 _ ?_
    refine XS.lconst X317.here hx rfl (hb hby d6_9) ?_
    exact kt
  clear R316 st317
  obtain ⟨_, _, ⟨T320, L320, k320, n320⟩, -, X320, ⟨Lc320, hQ320, l320, y320, z320⟩, st320⟩ := X317.specialBack hx (y := (⟨"com/example/loadloom/loadloom/Draws", "<init>", "(JJJ)V"⟩ : MethodName)) rfl hown (mvT hZ (hw _ (List.mem_of_getElem? (i := 81) rfl))) (mvT hZ (hw _ (List.mem_of_getElem? (i := 82) rfl))) (mvT hZ (hw _ (List.mem_of_getElem? (i := 83) rfl))) (by decide) (backOf (W := 0) (rm_dr3 l Z a0 hw [] a1 q2 (own_key q2 c2 c3) (0 : Int64) sw gw T317.heap n0 Zs318 E_a1_318 Fsr_318 Fk_318 Fs_318 ga SW VW OL_318) hZ (hw _ (List.mem_of_getElem? (i := 83) rfl)) (hw _ (List.mem_of_getElem? (i := 28) rfl)) (by decide) (by decide)) (g := (mkF m 10 #[.val (.ref a1), .val (.long q2), .second, .val (.ref a3), .val (.ref a4)] [(.long (0 : Int64)), (.long (own_key q2 c2 c3)), (.long q2), (.ref a1)])) rfl (by rw [hml]; rfl) (Steps.refl _) (a := a1) (argsL := [(.long q2), (.long (own_key q2 c2 c3)), (.long (0 : Int64))]) (rest := []) (lenOf pd_15 rfl) rfl (by show 2 * 0 + _ ≤ _; exact Nat.le_of_eq rfl) (hb hby d6_10) (fun _ _ => ⟨rfl, rfl, (by decide : 3 + 1 ≤ _), (by decide : 5 + 4 ≤ _)⟩)
  dsimp only [Pt.U, Pt.locs, Pt.cells, Pt.slots] at X320 l320 y320 z320 st320 hQ320
  rw [l320, y320, z320] at X320
  obtain ⟨rfl, N320q, K320, Ea, Fka, Fsa⟩ := hQ320
  have N320 := Fr.app N317 N320q
  have Zs321 : n0 ≤ T320.heap.size := Nat.le_trans Zs318 K320.1
  have Kk321 : Keep h0 T320.heap [a1] := Keep.trans Kk318 K320 (own_trans1 (Or.inl (List.mem_of_getElem? (i := 0) rfl)))
  have R322 : ∀ tg, Steps p.tables e below (T320.setTop (mkF m 13 #[.val (.ref a1), .val (.long q2), .second, .val (.ref a3), .val (.ref a4)] [])) tg → Steps p.tables e below (s₁.setTop (mkF m 0 #[.val (.ref a1), .val (.long q2), .second, .val (.ref a3), .val (.ref a4)] [])) tg := by
    intro tg kt
    refine R319 _ ?_
    refine st320.trans ?_
    exact kt
  clear R319 st320
  obtain ⟨fs, hr, hrun, hended, hW, hsame⟩ := X320.leave (v := none) (fun _ => rfl)
  refine ⟨_, _, pre0 _ (R322 _ ?_), hrun, hended, _, _, rfl, ?_, ⟨_, rfl⟩, hW, hsame.mono (by decide) (by decide)⟩
  · exact X320.returnOut hx Bd.returns (hb hby d6_13) hr
  · show Q_rm_dr Z a1 q2 a3 a4 c2 c3 t2 t3 uu cs sw gw h0 n0 _ T320.heap _
    exact ⟨rfl, N320, Kk321, Ea, Fka, Fsa⟩
theorem d17_0 : decode prog_8_method_6_code 0 = .ok (.aload_n 0, 1) := by decide +kernel
theorem d17_1 : decode prog_8_method_6_code 1 = .ok (.dup, 1) := by decide +kernel
theorem d17_2 : decode prog_8_method_6_code 2 = .ok (.getfield 17, 3) := by decide +kernel
theorem d17_5 : decode prog_8_method_6_code 5 = .ok (.ldc2_w 34, 3) := by decide +kernel
theorem d17_8 : decode prog_8_method_6_code 8 = .ok (.ladd, 1) := by decide +kernel
theorem d17_9 : decode prog_8_method_6_code 9 = .ok (.putfield 17, 3) := by decide +kernel
theorem d17_12 : decode prog_8_method_6_code 12 = .ok (.aload_n 0, 1) := by decide +kernel
theorem d17_13 : decode prog_8_method_6_code 13 = .ok (.getfield 17, 3) := by decide +kernel
theorem d17_16 : decode prog_8_method_6_code 16 = .ok (.invokestatic 20, 3) := by decide +kernel
theorem d17_19 : decode prog_8_method_6_code 19 = .ok (.lreturn, 1) := by decide +kernel
theorem ef_rm_next (m : MethodId) (a1 : Addr) : entryFrame m #[(.ref a1)] 1 = mkF m 0 #[.val (.ref a1)] [] := by first | (simp [entryFrame, mkF, argsToLocals, Value.category]; done) | rfl
def Q_rm_next (Z : State) (a1 : Addr) (ky : Int64) (sv : Int64) (h0 : Heap) (n0 : Nat) (v : Option Value) (h : Heap) (L : List Loc) : Prop := v = some (.long (own_mix (sv + (-7046029254386353131 : Int64)))) ∧ Fr n0 L ∧ Keep h0 h [a1] ∧ Exa Z h a1 "com/example/loadloom/loadloom/Draws" ∧ Fld Z h a1 "com/example/loadloom/loadloom/Draws" "key" "J" (.long ky) ∧ Fld Z h a1 "com/example/loadloom/loadloom/Draws" "state" "J" (.long (sv + (-7046029254386353131 : Int64)))
set_option maxRecDepth 65536 in
set_option maxHeartbeats 40000000 in
theorem rm_next (l : Launch) (Z : State) (a0 : Array Value) (hw : ∀ d ∈ tables_1, d.before a0 Z = true) (ws : List Jvm.Cond) (a1 : Addr) (ky : Int64) (sv : Int64) (h0 : Heap) (n0 : Nat) (Z0 : n0 ≤ h0.size) (E1 : Exa Z h0 a1 "com/example/loadloom/loadloom/Draws") (Fk : Fld Z h0 a1 "com/example/loadloom/loadloom/Draws" "key" "J" (.long ky)) (Fs : Fld Z h0 a1 "com/example/loadloom/loadloom/Draws" "state" "J" (.long sv)) (ga : n0 ≤ a1) :
    MetFree l (⟨"com/example/loadloom/loadloom/Draws", "next", "()J"⟩ : MethodName) (head1 (Jvm.Cond.code (⟨"com/example/loadloom/loadloom/Draws", "next", "()J"⟩ : MethodName) prog_8_method_6_code 1 (some .long) :: ws) ({ frames := 1, cells := 0, slots := 0, locals := 13 } : Room)) (fun a U => a = #[(.ref a1)] ∧ Z.Warmed39 U.vm ∧ U.heap = h0) (fun _ _ _ _ _ => True) (fun _ U oC U' => ∃ v L, oC = .returned v ∧ Q_rm_next Z a1 ky sv h0 n0 v U'.heap L ∧ FrameEnd U oC U' L ({ frames := 1, cells := 0, slots := 0, locals := 13 } : Room).cells ({ frames := 1, cells := 0, slots := 0, locals := 13 } : Room).slots) := by
  refine MetFree.of_bodySF (plainFor_of_name pn_0) hisR ?_
  intro p e s m args below meth c s₁ Bd hml0 hP hK
  obtain ⟨rfl, hZ, hh⟩ := hP
  have hx := Bd.exec
  have hby := Bd.bytes
  have hml : c.maxLocals = 1 := hml0
  have hown : s.vm.findClass "com/example/loadloom/loadloom/Draws" = some m.cls := findClass_of_methodNamed Bd.named
  have hnm := (name_of_methodNamed Bd.named Bd.method).1
  have X0 : Stand p l e ({ frames := 1, cells := 0, slots := 0, locals := 13 } : Room) s m #[(.ref a1)] below meth c s₁ [] 0 0 := Stand.of_body Bd
  have e0 : s₁.heap = h0 := by rw [← hh, Bd.state]; rfl
  have N0 := Fr.nil n0
  have pre0 : ∀ tg, Steps p.tables e below (s₁.setTop (mkF m 0 #[.val (.ref a1)] [])) tg → Steps p.tables e below (s₁.setTop (entryFrame m #[(.ref a1)] 1)) tg := fun t k => castTop (ef_rm_next m a1) k
  have pre00 : ∀ tg, Steps p.tables e below (s₁.setTop (mkF m 0 #[.val (.ref a1)] [])) tg → Steps p.tables e below (s₁.setTop (mkF m 0 #[.val (.ref a1)] [])) tg := fun _ k => k
  have R323 : ∀ tg, Steps p.tables e below (s₁.setTop (mkF m 2 #[.val (.ref a1)] [(.ref a1), (.ref a1)])) tg → Steps p.tables e below (s₁.setTop (mkF m 0 #[.val (.ref a1)] [])) tg := by
    intro tg kt
    refine pre00 _ ?_
    show Steps p.tables e below (s₁.setTop (mkF m 0 #[.val (.ref a1)] [])) _
    refine XS.aloadN X0.here hx rfl (hb hby d17_0) rfl rfl ?_
    refine XS.dup X0.here hx rfl (hb hby d17_1) rfl rfl ?_
    exact kt
  obtain ⟨T324, X324, e324, st324⟩ := getF X0 hx hZ hown (host := "") (Or.inl (hw _ (List.mem_of_getElem? (i := 90) rfl))) Via.refl e0 Fs (g := (mkF m 2 #[.val (.ref a1)] [(.ref a1), (.ref a1)])) rfl rfl (hb hby d17_2)
  have R325 : ∀ tg, Steps p.tables e below (T324.setTop (mkF m 9 #[.val (.ref a1)] [(.long (sv + (-7046029254386353131 : Int64))), (.ref a1)])) tg → Steps p.tables e below (s₁.setTop (mkF m 0 #[.val (.ref a1)] [])) tg := by
    intro tg kt
    refine R323 _ ?_
    refine st324 _ ?_
    show Steps p.tables e below (T324.setTop (mkF m 5 #[.val (.ref a1)] [(.long sv), (.ref a1)])) _
    refine X324.ldc2Long hx hown (mvT hZ (hw _ (List.mem_of_getElem? (i := 94) rfl))) (g := (mkF m 5 #[.val (.ref a1)] [(.long sv), (.ref a1)])) rfl (hb hby d17_5) _ ?_
    show Steps p.tables e below (T324.setTop (mkF m 8 #[.val (.ref a1)] [(.long (-7046029254386353131 : Int64)), (.long sv), (.ref a1)])) _
    refine XS.ladd X324.here hx rfl (hb hby d17_8) rfl ?_
    exact kt
  clear R323 st324
  obtain ⟨T326, h326, X326, e326, W326, st326⟩ := putF X324 hx hZ hown (host := "") (Or.inl (hw _ (List.mem_of_getElem? (i := 90) rfl))) Via.refl e324 Fs E1 (Or.inl (hw _ (List.mem_of_getElem? (i := 91) rfl))) (hw _ (List.mem_of_getElem? (i := 27) rfl)) (ty := .long) (by decide) rfl rfl (g := (mkF m 9 #[.val (.ref a1)] [(.long (sv + (-7046029254386353131 : Int64))), (.ref a1)])) rfl rfl (hb hby d17_9)
  have N326 := Fr.snoc X326 N0 ga
  have Fs_326 := Fs.same W326
  have E_a1_326 := E1.wr W326
  have Fk_326 := Fk.other W326 (Or.inr (slot_ne (Or.inr (hw _ (List.mem_of_getElem? (i := 89) rfl))) (Or.inl (hw _ (List.mem_of_getElem? (i := 91) rfl))) (by decide) (t := .long) (t' := .long) (by decide) (by decide)))
  have Zs326 : n0 ≤ h326.size := Nat.le_trans Z0 (Keep.of_wr W326).1
  have Kw326 : Keep h0 h326 [a1] := Keep.wr (Keep.refl h0 [a1]) W326 (Or.inl (List.mem_of_getElem? (i := 0) rfl))
  have R327 : ∀ tg, Steps p.tables e below (T326.setTop (mkF m 13 #[.val (.ref a1)] [(.ref a1)])) tg → Steps p.tables e below (s₁.setTop (mkF m 0 #[.val (.ref a1)] [])) tg := by
    intro tg kt
    refine R325 _ ?_
    refine st326 _ ?_
    refine XS.aloadN X326.here hx rfl (hb hby d17_12) rfl rfl ?_
    exact kt
  clear R325 st326
  obtain ⟨T328, X328, e328, st328⟩ := getF X326 hx hZ hown (host := "") (Or.inl (hw _ (List.mem_of_getElem? (i := 90) rfl))) Via.refl e326 Fs_326 (g := (mkF m 13 #[.val (.ref a1)] [(.ref a1)])) rfl rfl (hb hby d17_13)
  have R329 : ∀ tg, Steps p.tables e below (T328.setTop (mkF m 16 #[.val (.ref a1)] [(.long (sv + (-7046029254386353131 : Int64)))])) tg → Steps p.tables e below (s₁.setTop (mkF m 0 #[.val (.ref a1)] [])) tg := by
    intro tg kt
    refine R327 _ ?_
    refine st328 _ ?_
    exact kt
  clear R327 st328
  obtain ⟨_, _, ⟨T330, L330, k330, n330⟩, -, X330, ⟨Lc330, hQ330, l330, y330, z330⟩, st330⟩ := Jvm.LawKit.callS X328 hx (y := (⟨"com/example/loadloom/loadloom/Draws", "mix", "(J)J"⟩ : MethodName)) hown (mvT hZ (hw _ (List.mem_of_getElem? (i := 76) rfl))) (mvT hZ (hw _ (List.mem_of_getElem? (i := 77) rfl))) (mvT hZ (hw _ (List.mem_of_getElem? (i := 28) rfl))) (mvT hZ (hw _ (List.mem_of_getElem? (i := 78) rfl))) (by decide) (backOf (W := 0) (rm_mix l Z a0 hw [] (sv + (-7046029254386353131 : Int64)) h326 n0 Zs326) hZ (hw _ (List.mem_of_getElem? (i := 78) rfl)) (hw _ (List.mem_of_getElem? (i := 28) rfl)) (by decide) (by decide)) (g := (mkF m 16 #[.val (.ref a1)] [(.long (sv + (-7046029254386353131 : Int64)))])) rfl (by rw [hml]; rfl) (argsL := [(.long (sv + (-7046029254386353131 : Int64)))]) (rest := []) (lenOf pd_13 rfl) rfl (by show 2 * 0 + _ ≤ _; exact Nat.le_of_eq rfl) (hb hby d17_16) (fun _ _ => ⟨rfl, e328, (by decide : 0 + 0 ≤ _), (by decide : 0 + 0 ≤ _)⟩)
  dsimp only [Pt.U, Pt.locs, Pt.cells, Pt.slots] at X330 l330 y330 z330 st330 hQ330
  rw [l330, y330, z330] at X330
  obtain ⟨rfl, N330q, hh330⟩ := hQ330
  have N330 := Fr.app N326 N330q
  have R331 : ∀ tg, Steps p.tables e below (T330.setTop (mkF m 19 #[.val (.ref a1)] [(.long (own_mix (sv + (-7046029254386353131 : Int64))))])) tg → Steps p.tables e below (s₁.setTop (mkF m 0 #[.val (.ref a1)] [])) tg := by
    intro tg kt
    refine R329 _ ?_
    refine st330 _ ?_
    exact kt
  clear R329 st330
  obtain ⟨fs, hr, hrun, hended, hW, hsame⟩ := X330.leave (v := some (.long (own_mix (sv + (-7046029254386353131 : Int64))))) (fun h => by rw [Bd.returns] at h; cases h)
  refine ⟨_, _, pre0 _ (R331 _ ?_), hrun, hended, _, _, rfl, ?_, ⟨_, rfl⟩, hW, hsame.mono (by decide) (by decide)⟩
  · exact X330.lreturnOut hx Bd.returns (hb hby d17_19) hr
  · show Q_rm_next Z a1 ky sv h0 n0 _ T330.heap _
    rw [hh330]
    exact ⟨rfl, N330, Kw326, E_a1_326, Fk_326, Fs_326⟩
theorem d21_0 : decode prog_8_method_5_code 0 = .ok (.aload_n 0, 1) := by decide +kernel
theorem d21_1 : decode prog_8_method_5_code 1 = .ok (.aload_n 0, 1) := by decide +kernel
theorem d21_2 : decode prog_8_method_5_code 2 = .ok (.getfield 13, 3) := by decide +kernel
theorem d21_5 : decode prog_8_method_5_code 5 = .ok (.lload_n 1, 1) := by decide +kernel
theorem d21_6 : decode prog_8_method_5_code 6 = .ok (.ldc2_w 34, 3) := by decide +kernel
theorem d21_9 : decode prog_8_method_5_code 9 = .ok (.lmul, 1) := by decide +kernel
theorem d21_10 : decode prog_8_method_5_code 10 = .ok (.ladd, 1) := by decide +kernel
theorem d21_11 : decode prog_8_method_5_code 11 = .ok (.invokestatic 20, 3) := by decide +kernel
theorem d21_14 : decode prog_8_method_5_code 14 = .ok (.putfield 17, 3) := by decide +kernel
theorem d21_17 : decode prog_8_method_5_code 17 = .ok (.return_, 1) := by decide +kernel
theorem ef_rm_row (m : MethodId) (a1 : Addr) (q2 : Int64) : entryFrame m #[(.ref a1), (.long q2)] 3 = mkF m 0 #[.val (.ref a1), .val (.long q2), .second] [] := by first | (simp [entryFrame, mkF, argsToLocals, Value.category]; done) | rfl
def Q_rm_row (Z : State) (a1 : Addr) (q2 : Int64) (ky : Int64) (sv : Int64) (h0 : Heap) (n0 : Nat) (v : Option Value) (h : Heap) (L : List Loc) : Prop := v = none ∧ Fr n0 L ∧ Keep h0 h [a1] ∧ Exa Z h a1 "com/example/loadloom/loadloom/Draws" ∧ Fld Z h a1 "com/example/loadloom/loadloom/Draws" "key" "J" (.long ky) ∧ Fld Z h a1 "com/example/loadloom/loadloom/Draws" "state" "J" (.long (own_mix (ky + (q2 * (-7046029254386353131 : Int64)))))
set_option maxRecDepth 65536 in
set_option maxHeartbeats 40000000 in
theorem rm_row (l : Launch) (Z : State) (a0 : Array Value) (hw : ∀ d ∈ tables_1, d.before a0 Z = true) (ws : List Jvm.Cond) (a1 : Addr) (q2 : Int64) (ky : Int64) (sv : Int64) (h0 : Heap) (n0 : Nat) (Z0 : n0 ≤ h0.size) (E1 : Exa Z h0 a1 "com/example/loadloom/loadloom/Draws") (Fk : Fld Z h0 a1 "com/example/loadloom/loadloom/Draws" "key" "J" (.long ky)) (Fs : Fld Z h0 a1 "com/example/loadloom/loadloom/Draws" "state" "J" (.long sv)) (ga : n0 ≤ a1) :
    MetFree l (⟨"com/example/loadloom/loadloom/Draws", "startRow", "(J)V"⟩ : MethodName) (head1 (Jvm.Cond.code (⟨"com/example/loadloom/loadloom/Draws", "startRow", "(J)V"⟩ : MethodName) prog_8_method_5_code 3 none :: ws) ({ frames := 1, cells := 0, slots := 0, locals := 14 } : Room)) (fun a U => a = #[(.ref a1), (.long q2)] ∧ Z.Warmed39 U.vm ∧ U.heap = h0) (fun _ _ _ _ _ => True) (fun _ U oC U' => ∃ v L, oC = .returned v ∧ Q_rm_row Z a1 q2 ky sv h0 n0 v U'.heap L ∧ FrameEnd U oC U' L ({ frames := 1, cells := 0, slots := 0, locals := 14 } : Room).cells ({ frames := 1, cells := 0, slots := 0, locals := 14 } : Room).slots) := by
  refine MetFree.of_bodySF (plainFor_of_name pn_0) hisR ?_
  intro p e s m args below meth c s₁ Bd hml0 hP hK
  obtain ⟨rfl, hZ, hh⟩ := hP
  have hx := Bd.exec
  have hby := Bd.bytes
  have hml : c.maxLocals = 3 := hml0
  have hown : s.vm.findClass "com/example/loadloom/loadloom/Draws" = some m.cls := findClass_of_methodNamed Bd.named
  have hnm := (name_of_methodNamed Bd.named Bd.method).1
  have X0 : Stand p l e ({ frames := 1, cells := 0, slots := 0, locals := 14 } : Room) s m #[(.ref a1), (.long q2)] below meth c s₁ [] 0 0 := Stand.of_body Bd
  have e0 : s₁.heap = h0 := by rw [← hh, Bd.state]; rfl
  have N0 := Fr.nil n0
  have pre0 : ∀ tg, Steps p.tables e below (s₁.setTop (mkF m 0 #[.val (.ref a1), .val (.long q2), .second] [])) tg → Steps p.tables e below (s₁.setTop (entryFrame m #[(.ref a1), (.long q2)] 3)) tg := fun t k => castTop (ef_rm_row m a1 q2) k
  have pre00 : ∀ tg, Steps p.tables e below (s₁.setTop (mkF m 0 #[.val (.ref a1), .val (.long q2), .second] [])) tg → Steps p.tables e below (s₁.setTop (mkF m 0 #[.val (.ref a1), .val (.long q2), .second] [])) tg := fun _ k => k
  have R332 : ∀ tg, Steps p.tables e below (s₁.setTop (mkF m 2 #[.val (.ref a1), .val (.long q2), .second] [(.ref a1), (.ref a1)])) tg → Steps p.tables e below (s₁.setTop (mkF m 0 #[.val (.ref a1), .val (.long q2), .second] [])) tg := by
    intro tg kt
    refine pre00 _ ?_
    show Steps p.tables e below (s₁.setTop (mkF m 0 #[.val (.ref a1), .val (.long q2), .second] [])) _
    refine XS.aloadN X0.here hx rfl (hb hby d21_0) rfl rfl ?_
    refine XS.aloadN X0.here hx rfl (hb hby d21_1) rfl rfl ?_
    exact kt
  obtain ⟨T333, X333, e333, st333⟩ := getF X0 hx hZ hown (host := "") (Or.inl (hw _ (List.mem_of_getElem? (i := 88) rfl))) Via.refl e0 Fk (g := (mkF m 2 #[.val (.ref a1), .val (.long q2), .second] [(.ref a1), (.ref a1)])) rfl rfl (hb hby d21_2)
  have R334 : ∀ tg, Steps p.tables e below (T333.setTop (mkF m 11 #[.val (.ref a1), .val (.long q2), .second] [(.long (ky + (q2 * (-7046029254386353131 : Int64)))), (.ref a1)])) tg → Steps p.tables e below (s₁.setTop (mkF m 0 #[.val (.ref a1), .val (.long q2), .second] [])) tg := by
    intro tg kt
    refine R332 _ ?_
    refine st333 _ ?_
    refine XS.lloadN X333.here hx rfl (hb hby d21_5) rfl ?_
    show Steps p.tables e below (T333.setTop (mkF m 6 #[.val (.ref a1), .val (.long q2), .second] [(.long q2), (.long ky), (.ref a1)])) _
    refine X333.ldc2Long hx hown (mvT hZ (hw _ (List.mem_of_getElem? (i := 94) rfl))) (g := (mkF m 6 #[.val (.ref a1), .val (.long q2), .second] [(.long q2), (.long ky), (.ref a1)])) rfl (hb hby d21_6) _ ?_
    show Steps p.tables e below (T333.setTop (mkF m 9 #[.val (.ref a1), .val (.long q2), .second] [(.long (-7046029254386353131 : Int64)), (.long q2), (.long ky), (.ref a1)])) _
    refine XS.lmul X333.here hx rfl (hb hby d21_9) rfl ?_
    show Steps p.tables e below (T333.setTop (mkF m 10 #[.val (.ref a1), .val (.long q2), .second] [(.long (q2 * (-7046029254386353131 : Int64))), (.long ky), (.ref a1)])) _
    refine XS.ladd X333.here hx rfl (hb hby d21_10) rfl ?_
    exact kt
  clear R332 st333
  obtain ⟨_, _, ⟨T335, L335, k335, n335⟩, -, X335, ⟨Lc335, hQ335, l335, y335, z335⟩, st335⟩ := Jvm.LawKit.callS X333 hx (y := (⟨"com/example/loadloom/loadloom/Draws", "mix", "(J)J"⟩ : MethodName)) hown (mvT hZ (hw _ (List.mem_of_getElem? (i := 76) rfl))) (mvT hZ (hw _ (List.mem_of_getElem? (i := 77) rfl))) (mvT hZ (hw _ (List.mem_of_getElem? (i := 28) rfl))) (mvT hZ (hw _ (List.mem_of_getElem? (i := 78) rfl))) (by decide) (backOf (W := 1) (rm_mix l Z a0 hw [] (ky + (q2 * (-7046029254386353131 : Int64))) h0 n0 Z0) hZ (hw _ (List.mem_of_getElem? (i := 78) rfl)) (hw _ (List.mem_of_getElem? (i := 28) rfl)) (by decide) (by decide)) (g := (mkF m 11 #[.val (.ref a1), .val (.long q2), .second] [(.long (ky + (q2 * (-7046029254386353131 : Int64)))), (.ref a1)])) rfl (by rw [hml]; rfl) (argsL := [(.long (ky + (q2 * (-7046029254386353131 : Int64))))]) (rest := [(.ref a1)]) (lenOf pd_13 rfl) rfl (by show 2 * 0 + _ ≤ _; exact Nat.le_of_eq rfl) (hb hby d21_11) (fun _ _ => ⟨rfl, e333, (by decide : 0 + 0 ≤ _), (by decide : 0 + 0 ≤ _)⟩)
  dsimp only [Pt.U, Pt.locs, Pt.cells, Pt.slots] at X335 l335 y335 z335 st335 hQ335
  rw [l335, y335, z335] at X335
  obtain ⟨rfl, N335q, hh335⟩ := hQ335
  have N335 := Fr.app N0 N335q
  have R336 : ∀ tg, Steps p.tables e below (T335.setTop (mkF m 14 #[.val (.ref a1), .val (.long q2), .second] [(.long (own_mix (ky + (q2 * (-7046029254386353131 : Int64))))), (.ref a1)])) tg → Steps p.tables e below (s₁.setTop (mkF m 0 #[.val (.ref a1), .val (.long q2), .second] [])) tg := by
    intro tg kt
    refine R334 _ ?_
    refine st335 _ ?_
    exact kt
  clear R334 st335
  obtain ⟨T337, h337, X337, e337, W337, st337⟩ := putF X335 hx hZ hown (host := "") (Or.inl (hw _ (List.mem_of_getElem? (i := 90) rfl))) Via.refl hh335 Fs E1 (Or.inl (hw _ (List.mem_of_getElem? (i := 91) rfl))) (hw _ (List.mem_of_getElem? (i := 27) rfl)) (ty := .long) (by decide) rfl rfl (g := (mkF m 14 #[.val (.ref a1), .val (.long q2), .second] [(.long (own_mix (ky + (q2 * (-7046029254386353131 : Int64))))), (.ref a1)])) rfl rfl (hb hby d21_14)
  have N337 := Fr.snoc X337 N335 ga
  have Fs_337 := Fs.same W337
  have E_a1_337 := E1.wr W337
  have Fk_337 := Fk.other W337 (Or.inr (slot_ne (Or.inr (hw _ (List.mem_of_getElem? (i := 89) rfl))) (Or.inl (hw _ (List.mem_of_getElem? (i := 91) rfl))) (by decide) (t := .long) (t' := .long) (by decide) (by decide)))
  have Zs337 : n0 ≤ h337.size := Nat.le_trans Z0 (Keep.of_wr W337).1
  have Kw337 : Keep h0 h337 [a1] := Keep.wr (Keep.refl h0 [a1]) W337 (Or.inl (List.mem_of_getElem? (i := 0) rfl))
  have R338 : ∀ tg, Steps p.tables e below (T337.setTop (mkF m 17 #[.val (.ref a1), .val (.long q2), .second] [])) tg → Steps p.tables e below (s₁.setTop (mkF m 0 #[.val (.ref a1), .val (.long q2), .second] [])) tg := by
    intro tg kt
    refine R336 _ ?_
    refine st337 _ ?_
    exact kt
  clear R336 st337
  obtain ⟨fs, hr, hrun, hended, hW, hsame⟩ := X337.leave (v := none) (fun _ => rfl)
  refine ⟨_, _, pre0 _ (R338 _ ?_), hrun, hended, _, _, rfl, ?_, ⟨_, rfl⟩, hW, hsame.mono (by decide) (by decide)⟩
  · exact X337.returnOut hx Bd.returns (hb hby d21_17) hr
  · show Q_rm_row Z a1 q2 ky sv h0 n0 _ T337.heap _
    rw [e337]
    exact ⟨rfl, N337, Kw337, E_a1_337, Fk_337, Fs_337⟩
theorem pd_16 : parseMethodDescriptor "(C)Ljava/lang/String;" = some ⟨[.char], some (.object "java/lang/String")⟩ := by decide +kernel
theorem pd_17 : parseMethodDescriptor "(JLjava/lang/String;Ljava/lang/String;)V" = some ⟨[.long, (.object "java/lang/String"), (.object "java/lang/String")], none⟩ := by decide +kernel
theorem pd_18 : parseMethodDescriptor "()J" = some ⟨[], some .long⟩ := by decide +kernel
theorem pd_19 : parseMethodDescriptor "(JC)J" = some ⟨[.long, .char], some .long⟩ := by decide +kernel
theorem pd_20 : parseMethodDescriptor "(J)V" = some ⟨[.long], none⟩ := by decide +kernel
theorem ef_rm_law (m : MethodId) (q1 : Int64) (q2 : Int64) (p3 : Int32) (p4 : Int32) (p5 : Int32) : entryFrame m #[(.long q1), (.long q2), (.int p3), (.int p4), (.int p5)] maxLocals = mkF m 0 #[.val (.long q1), .second, .val (.long q2), .second, .val (.int p3), .val (.int p4), .val (.int p5), .unset, .unset, .unset, .unset, .unset, .unset, .unset, .unset, .unset, .unset, .unset, .unset, .unset, .unset, .unset, .unset, .unset, .unset, .unset, .unset] [] := by first | (simp [entryFrame, mkF, argsToLocals, Value.category, maxLocals]; done) | rfl
def Q_rm_law (Z : State) (q1 : Int64) (q2 : Int64) (p3 : Int32) (p4 : Int32) (p5 : Int32) (uu : Addr) (cs : Int32) (sw : Addr) (gw : Nat → Int32) (h0 : Heap) (n0 : Nat) (v : Option Value) (h : Heap) (L : List Loc) : Prop := v = some (.int (1 : Int32)) ∧ Fr n0 L
set_option maxRecDepth 65536 in
set_option maxHeartbeats 40000000 in
theorem rm_law (l : Launch) (Z : State) (a0 : Array Value) (hw : ∀ d ∈ tables_1, d.before a0 Z = true) (ws : List Jvm.Cond) (q1 : Int64) (q2 : Int64) (p3 : Int32) (p4 : Int32) (p5 : Int32) (uu : Addr) (cs : Int32) (sw : Addr) (gw : Nat → Int32) (h0 : Heap) (n0 : Nat) (Z0 : n0 ≤ h0.size) (SW : Sta Z Z.heap "com/example/loadloom/loadloom/Draws" "SPREAD_WORD" "[B" (.ref sw)) (VW : AV Z Z.heap sw .byte 6 (fun j => .int (gw j))) (SC : Sta Z Z.heap "java/lang/String" "COMPACT_STRINGS" "Z" (.int cs)) (SU : Sta Z Z.heap "java/nio/charset/StandardCharsets" "UTF_8" "Ljava/nio/charset/Charset;" (.ref uu)) (SI : Sta Z Z.heap "sun/nio/cs/UTF_8" "INSTANCE" "Lsun/nio/cs/UTF_8;" (.ref uu)) (OL : Old Z n0 h0) (hcs : ¬ (cs = (0 : Int32))) :
    MetFree l x (head1 (Jvm.Cond.code x code maxLocals ret :: ws) room_1) (fun a U => a = #[(.long q1), (.long q2), (.int p3), (.int p4), (.int p5)] ∧ Z.Warmed39 U.vm ∧ U.heap = h0) (fun _ _ _ _ _ => True) (fun _ U oC U' => ∃ v L, oC = .returned v ∧ Q_rm_law Z q1 q2 p3 p4 p5 uu cs sw gw h0 n0 v U'.heap L ∧ FrameEnd U oC U' L room_1.cells room_1.slots) := by
  refine MetFree.of_bodySF (plainFor_of_name pn_1) hisR ?_
  intro p e s m args below meth c s₁ Bd hml0 hP hK
  obtain ⟨rfl, hZ, hh⟩ := hP
  have hx := Bd.exec
  have hby := Bd.bytes
  have hml : c.maxLocals = 27 := hml0
  have hown : s.vm.findClass "com/example/loadloom/loadloom/DrawsNextPinLaw" = some m.cls := findClass_of_methodNamed Bd.named
  have hnm := (name_of_methodNamed Bd.named Bd.method).1
  have X0 : Stand p l e room_1 s m #[(.long q1), (.long q2), (.int p3), (.int p4), (.int p5)] below meth c s₁ [] 0 0 := Stand.of_body Bd
  have e0 : s₁.heap = h0 := by rw [← hh, Bd.state]; rfl
  have N0 := Fr.nil n0
  have pre0 : ∀ tg, Steps p.tables e below (s₁.setTop (mkF m 0 #[.val (.long q1), .second, .val (.long q2), .second, .val (.int p3), .val (.int p4), .val (.int p5), .unset, .unset, .unset, .unset, .unset, .unset, .unset, .unset, .unset, .unset, .unset, .unset, .unset, .unset, .unset, .unset, .unset, .unset, .unset, .unset] [])) tg → Steps p.tables e below (s₁.setTop (entryFrame m #[(.long q1), (.long q2), (.int p3), (.int p4), (.int p5)] maxLocals)) tg := fun t k => castTop (ef_rm_law m q1 q2 p3 p4 p5) k
  have pre00 : ∀ tg, Steps p.tables e below (s₁.setTop (mkF m 0 #[.val (.long q1), .second, .val (.long q2), .second, .val (.int p3), .val (.int p4), .val (.int p5), .unset, .unset, .unset, .unset, .unset, .unset, .unset, .unset, .unset, .unset, .unset, .unset, .unset, .unset, .unset, .unset, .unset, .unset, .unset, .unset] [])) tg → Steps p.tables e below (s₁.setTop (mkF m 0 #[.val (.long q1), .second, .val (.long q2), .second, .val (.int p3), .val (.int p4), .val (.int p5), .unset, .unset, .unset, .unset, .unset, .unset, .unset, .unset, .unset, .unset, .unset, .unset, .unset, .unset, .unset, .unset, .unset, .unset, .unset, .unset] [])) tg := fun _ k => k
  obtain ⟨hz2, hc2⟩ := own_cmask p3
  obtain ⟨hz3, hc3⟩ := own_cmask p4
  have R339 : ∀ tg, Steps p.tables e below (s₁.setTop (mkF m 7 #[.val (.long q1), .second, .val (.long q2), .second, .val (.int p3), .val (.int p4), .val (.int p5), .unset, .unset, .unset, .unset, .unset, .unset, .unset, .unset, .unset, .unset, .unset, .unset, .unset, .unset, .unset, .unset, .unset, .unset, .unset, .unset] [(.int ((p3 &&& (255 : Int32)).toUInt32.toUInt16.toUInt32.toInt32))])) tg → Steps p.tables e below (s₁.setTop (mkF m 0 #[.val (.long q1), .second, .val (.long q2), .second, .val (.int p3), .val (.int p4), .val (.int p5), .unset, .unset, .unset, .unset, .unset, .unset, .unset, .unset, .unset, .unset, .unset, .unset, .unset, .unset, .unset, .unset, .unset, .unset, .unset, .unset] [])) tg := by
    intro tg kt
    refine pre00 _ ?_
    show Steps p.tables e below (s₁.setTop (mkF m 0 #[.val (.long q1), .second, .val (.long q2), .second, .val (.int p3), .val (.int p4), .val (.int p5), .unset, .unset, .unset, .unset, .unset, .unset, .unset, .unset, .unset, .unset, .unset, .unset, .unset, .unset, .unset, .unset, .unset, .unset, .unset, .unset] [])) _
    refine XS.iload X0.here hx rfl (hb hby at_0) rfl ?_
    refine XS.sipush X0.here hx rfl (hb hby at_2) ?_
    show Steps p.tables e below (s₁.setTop (mkF m 5 #[.val (.long q1), .second, .val (.long q2), .second, .val (.int p3), .val (.int p4), .val (.int p5), .unset, .unset, .unset, .unset, .unset, .unset, .unset, .unset, .unset, .unset, .unset, .unset, .unset, .unset, .unset, .unset, .unset, .unset, .unset, .unset] [(.int (255 : Int32)), (.int p3)])) _
    refine XS.iand X0.here hx rfl (hb hby at_5) rfl ?_
    show Steps p.tables e below (s₁.setTop (mkF m 6 #[.val (.long q1), .second, .val (.long q2), .second, .val (.int p3), .val (.int p4), .val (.int p5), .unset, .unset, .unset, .unset, .unset, .unset, .unset, .unset, .unset, .unset, .unset, .unset, .unset, .unset, .unset, .unset, .unset, .unset, .unset, .unset] [(.int (p3 &&& (255 : Int32)))])) _
    refine XS.i2c X0.here hx rfl (hb hby at_6) rfl ?_
    exact kt
  obtain ⟨ca, hca⟩ : ∃ z : Int32, z = ((p3 &&& (255 : Int32)).toUInt32.toUInt16.toUInt32.toInt32) := ⟨_, rfl⟩
  have R340 : ∀ tg, Steps p.tables e below (s₁.setTop (mkF m 7 #[.val (.long q1), .second, .val (.long q2), .second, .val (.int p3), .val (.int p4), .val (.int p5), .unset, .unset, .unset, .unset, .unset, .unset, .unset, .unset, .unset, .unset, .unset, .unset, .unset, .unset, .unset, .unset, .unset, .unset, .unset, .unset] [(.int ca)])) tg → Steps p.tables e below (s₁.setTop (mkF m 0 #[.val (.long q1), .second, .val (.long q2), .second, .val (.int p3), .val (.int p4), .val (.int p5), .unset, .unset, .unset, .unset, .unset, .unset, .unset, .unset, .unset, .unset, .unset, .unset, .unset, .unset, .unset, .unset, .unset, .unset, .unset, .unset] [])) tg := by rw [hca]; exact R339
  rw [show (p3 &&& (255 : Int32)).toUInt32.toUInt16.toUInt32.toInt32 = ca from hca.symm] at hz2 hc2
  have R341 : ∀ tg, Steps p.tables e below (s₁.setTop (mkF m 16 #[.val (.long q1), .second, .val (.long q2), .second, .val (.int p3), .val (.int p4), .val (.int p5), .val (.int ca), .unset, .unset, .unset, .unset, .unset, .unset, .unset, .unset, .unset, .unset, .unset, .unset, .unset, .unset, .unset, .unset, .unset, .unset, .unset] [(.int ((p4 &&& (255 : Int32)).toUInt32.toUInt16.toUInt32.toInt32))])) tg → Steps p.tables e below (s₁.setTop (mkF m 0 #[.val (.long q1), .second, .val (.long q2), .second, .val (.int p3), .val (.int p4), .val (.int p5), .unset, .unset, .unset, .unset, .unset, .unset, .unset, .unset, .unset, .unset, .unset, .unset, .unset, .unset, .unset, .unset, .unset, .unset, .unset, .unset] [])) tg := by
    intro tg kt
    refine R340 _ ?_
    show Steps p.tables e below (s₁.setTop (mkF m 7 #[.val (.long q1), .second, .val (.long q2), .second, .val (.int p3), .val (.int p4), .val (.int p5), .unset, .unset, .unset, .unset, .unset, .unset, .unset, .unset, .unset, .unset, .unset, .unset, .unset, .unset, .unset, .unset, .unset, .unset, .unset, .unset] [(.int ca)])) _
    refine XS.istore X0.here hx rfl (hb hby at_7) rfl (l' := #[.val (.long q1), .second, .val (.long q2), .second, .val (.int p3), .val (.int p4), .val (.int p5), .val (.int ca), .unset, .unset, .unset, .unset, .unset, .unset, .unset, .unset, .unset, .unset, .unset, .unset, .unset, .unset, .unset, .unset, .unset, .unset, .unset]) rfl ?_
    refine XS.iload X0.here hx rfl (hb hby at_9) rfl ?_
    refine XS.sipush X0.here hx rfl (hb hby at_11) ?_
    show Steps p.tables e below (s₁.setTop (mkF m 14 #[.val (.long q1), .second, .val (.long q2), .second, .val (.int p3), .val (.int p4), .val (.int p5), .val (.int ca), .unset, .unset, .unset, .unset, .unset, .unset, .unset, .unset, .unset, .unset, .unset, .unset, .unset, .unset, .unset, .unset, .unset, .unset, .unset] [(.int (255 : Int32)), (.int p4)])) _
    refine XS.iand X0.here hx rfl (hb hby at_14) rfl ?_
    show Steps p.tables e below (s₁.setTop (mkF m 15 #[.val (.long q1), .second, .val (.long q2), .second, .val (.int p3), .val (.int p4), .val (.int p5), .val (.int ca), .unset, .unset, .unset, .unset, .unset, .unset, .unset, .unset, .unset, .unset, .unset, .unset, .unset, .unset, .unset, .unset, .unset, .unset, .unset] [(.int (p4 &&& (255 : Int32)))])) _
    refine XS.i2c X0.here hx rfl (hb hby at_15) rfl ?_
    exact kt
  clear R340
  obtain ⟨cb, hcb⟩ : ∃ z : Int32, z = ((p4 &&& (255 : Int32)).toUInt32.toUInt16.toUInt32.toInt32) := ⟨_, rfl⟩
  have R342 : ∀ tg, Steps p.tables e below (s₁.setTop (mkF m 16 #[.val (.long q1), .second, .val (.long q2), .second, .val (.int p3), .val (.int p4), .val (.int p5), .val (.int ca), .unset, .unset, .unset, .unset, .unset, .unset, .unset, .unset, .unset, .unset, .unset, .unset, .unset, .unset, .unset, .unset, .unset, .unset, .unset] [(.int cb)])) tg → Steps p.tables e below (s₁.setTop (mkF m 0 #[.val (.long q1), .second, .val (.long q2), .second, .val (.int p3), .val (.int p4), .val (.int p5), .unset, .unset, .unset, .unset, .unset, .unset, .unset, .unset, .unset, .unset, .unset, .unset, .unset, .unset, .unset, .unset, .unset, .unset, .unset, .unset] [])) tg := by rw [hcb]; exact R341
  rw [show (p4 &&& (255 : Int32)).toUInt32.toUInt16.toUInt32.toInt32 = cb from hcb.symm] at hz3 hc3
  have R343 : ∀ tg, Steps p.tables e below (s₁.setTop (mkF m 20 #[.val (.long q1), .second, .val (.long q2), .second, .val (.int p3), .val (.int p4), .val (.int p5), .val (.int ca), .val (.int cb), .unset, .unset, .unset, .unset, .unset, .unset, .unset, .unset, .unset, .unset, .unset, .unset, .unset, .unset, .unset, .unset, .unset, .unset] [(.int ca)])) tg → Steps p.tables e below (s₁.setTop (mkF m 0 #[.val (.long q1), .second, .val (.long q2), .second, .val (.int p3), .val (.int p4), .val (.int p5), .unset, .unset, .unset, .unset, .unset, .unset, .unset, .unset, .unset, .unset, .unset, .unset, .unset, .unset, .unset, .unset, .unset, .unset, .unset, .unset] [])) tg := by
    intro tg kt
    refine R342 _ ?_
    show Steps p.tables e below (s₁.setTop (mkF m 16 #[.val (.long q1), .second, .val (.long q2), .second, .val (.int p3), .val (.int p4), .val (.int p5), .val (.int ca), .unset, .unset, .unset, .unset, .unset, .unset, .unset, .unset, .unset, .unset, .unset, .unset, .unset, .unset, .unset, .unset, .unset, .unset, .unset] [(.int cb)])) _
    refine XS.istore X0.here hx rfl (hb hby at_16) rfl (l' := #[.val (.long q1), .second, .val (.long q2), .second, .val (.int p3), .val (.int p4), .val (.int p5), .val (.int ca), .val (.int cb), .unset, .unset, .unset, .unset, .unset, .unset, .unset, .unset, .unset, .unset, .unset, .unset, .unset, .unset, .unset, .unset, .unset, .unset]) rfl ?_
    refine XS.iload X0.here hx rfl (hb hby at_18) rfl ?_
    exact kt
  clear R342
  obtain ⟨_, _, ⟨T344, L344, k344, n344⟩, -, X344, ⟨Lc344, hQ344, l344, y344, z344⟩, st344⟩ := Jvm.LawKit.callS X0 hx (y := (⟨"java/lang/String", "valueOf", "(C)Ljava/lang/String;"⟩ : MethodName)) hown (mvT hZ (hw _ (List.mem_of_getElem? (i := 0) rfl))) (mvT hZ (hw _ (List.mem_of_getElem? (i := 1) rfl))) (mvT hZ (hw _ (List.mem_of_getElem? (i := 2) rfl))) (mvT hZ (hw _ (List.mem_of_getElem? (i := 3) rfl))) (by decide) (backOf (W := 0) (rm_val l Z a0 hw [] ca cs h0 n0 Z0 SC OL hcs hc2) hZ (hw _ (List.mem_of_getElem? (i := 3) rfl)) (hw _ (List.mem_of_getElem? (i := 2) rfl)) (by decide) (by decide)) (g := (mkF m 20 #[.val (.long q1), .second, .val (.long q2), .second, .val (.int p3), .val (.int p4), .val (.int p5), .val (.int ca), .val (.int cb), .unset, .unset, .unset, .unset, .unset, .unset, .unset, .unset, .unset, .unset, .unset, .unset, .unset, .unset, .unset, .unset, .unset, .unset] [(.int ca)])) rfl (by rw [hml]; rfl) (argsL := [(.int ca)]) (rest := []) (lenOf pd_16 rfl) rfl (by show 2 * 0 + _ ≤ _; exact Nat.le_of_eq rfl) (hb hby at_20) (fun _ _ => ⟨rfl, e0, (by decide : 0 + 2 ≤ _), (by decide : 0 + 5 ≤ _)⟩)
  dsimp only [Pt.U, Pt.locs, Pt.cells, Pt.slots] at X344 l344 y344 z344 st344 hQ344
  rw [l344, y344, z344] at X344
  obtain ⟨s2, t2, rfl, N344q, szs2, szt2, K344, E2, Fv2, Fc2, VA2, EA2⟩ := hQ344
  have N344 := Fr.app N0 N344q
  have g_s2 : n0 ≤ s2 := Nat.le_trans Z0 szs2
  have g_t2 : n0 ≤ t2 := Nat.le_trans Z0 szt2
  have OL_345 := OL.keep K344 (own_ge0)
  have Zs345 : n0 ≤ T344.heap.size := Nat.le_trans Z0 K344.1
  have R346 : ∀ tg, Steps p.tables e below (T344.setTop (mkF m 27 #[.val (.long q1), .second, .val (.long q2), .second, .val (.int p3), .val (.int p4), .val (.int p5), .val (.int ca), .val (.int cb), .val (.ref s2), .unset, .unset, .unset, .unset, .unset, .unset, .unset, .unset, .unset, .unset, .unset, .unset, .unset, .unset, .unset, .unset, .unset] [(.int cb)])) tg → Steps p.tables e below (s₁.setTop (mkF m 0 #[.val (.long q1), .second, .val (.long q2), .second, .val (.int p3), .val (.int p4), .val (.int p5), .unset, .unset, .unset, .unset, .unset, .unset, .unset, .unset, .unset, .unset, .unset, .unset, .unset, .unset, .unset, .unset, .unset, .unset, .unset, .unset] [])) tg := by
    intro tg kt
    refine R343 _ ?_
    refine st344 _ ?_
    show Steps p.tables e below (T344.setTop (mkF m 23 #[.val (.long q1), .second, .val (.long q2), .second, .val (.int p3), .val (.int p4), .val (.int p5), .val (.int ca), .val (.int cb), .unset, .unset, .unset, .unset, .unset, .unset, .unset, .unset, .unset, .unset, .unset, .unset, .unset, .unset, .unset, .unset, .unset, .unset] [(.ref s2)])) _
    refine XS.astore X344.here hx rfl (hb hby at_23) rfl rfl (l' := #[.val (.long q1), .second, .val (.long q2), .second, .val (.int p3), .val (.int p4), .val (.int p5), .val (.int ca), .val (.int cb), .val (.ref s2), .unset, .unset, .unset, .unset, .unset, .unset, .unset, .unset, .unset, .unset, .unset, .unset, .unset, .unset, .unset, .unset, .unset]) rfl ?_
    refine XS.iload X344.here hx rfl (hb hby at_25) rfl ?_
    exact kt
  clear R343 st344
  obtain ⟨_, _, ⟨T347, L347, k347, n347⟩, -, X347, ⟨Lc347, hQ347, l347, y347, z347⟩, st347⟩ := Jvm.LawKit.callS X344 hx (y := (⟨"java/lang/String", "valueOf", "(C)Ljava/lang/String;"⟩ : MethodName)) hown (mvT hZ (hw _ (List.mem_of_getElem? (i := 0) rfl))) (mvT hZ (hw _ (List.mem_of_getElem? (i := 1) rfl))) (mvT hZ (hw _ (List.mem_of_getElem? (i := 2) rfl))) (mvT hZ (hw _ (List.mem_of_getElem? (i := 3) rfl))) (by decide) (backOf (W := 0) (rm_val l Z a0 hw [] cb cs T344.heap n0 Zs345 SC OL_345 hcs hc3) hZ (hw _ (List.mem_of_getElem? (i := 3) rfl)) (hw _ (List.mem_of_getElem? (i := 2) rfl)) (by decide) (by decide)) (g := (mkF m 27 #[.val (.long q1), .second, .val (.long q2), .second, .val (.int p3), .val (.int p4), .val (.int p5), .val (.int ca), .val (.int cb), .val (.ref s2), .unset, .unset, .unset, .unset, .unset, .unset, .unset, .unset, .unset, .unset, .unset, .unset, .unset, .unset, .unset, .unset, .unset] [(.int cb)])) rfl (by rw [hml]; rfl) (argsL := [(.int cb)]) (rest := []) (lenOf pd_16 rfl) rfl (by show 2 * 0 + _ ≤ _; exact Nat.le_of_eq rfl) (hb hby at_27) (fun _ _ => ⟨rfl, rfl, (by decide : 2 + 2 ≤ _), (by decide : 5 + 5 ≤ _)⟩)
  dsimp only [Pt.U, Pt.locs, Pt.cells, Pt.slots] at X347 l347 y347 z347 st347 hQ347
  rw [l347, y347, z347] at X347
  obtain ⟨s3, t3, rfl, N347q, szs3, szt3, K347, E3, Fv3, Fc3, VA3, EA3⟩ := hQ347
  have N347 := Fr.app N344 N347q
  have g_s3 : n0 ≤ s3 := Nat.le_trans Zs345 szs3
  have ne_s2_s3 : s2 ≠ s3 := Nat.ne_of_lt (Nat.lt_of_lt_of_le E2.lt szs3)
  have ne_t2_s3 : t2 ≠ s3 := Nat.ne_of_lt (Nat.lt_of_lt_of_le VA2.lt szs3)
  have g_t3 : n0 ≤ t3 := Nat.le_trans Zs345 szt3
  have ne_s2_t3 : s2 ≠ t3 := Nat.ne_of_lt (Nat.lt_of_lt_of_le E2.lt szt3)
  have ne_t2_t3 : t2 ≠ t3 := Nat.ne_of_lt (Nat.lt_of_lt_of_le VA2.lt szt3)
  have OL_348 := OL_345.keep K347 (own_ge0)
  have E2_348 := E2.keep K347
  have Fv2_348 := Fv2.keep K347 own_notin0
  have Fc2_348 := Fc2.keep K347 own_notin0
  have VA2_348 := VA2.keep K347 own_notin0
  have EA2_348 := EA2.keep K347
  clear OL_345
  have Zs348 : n0 ≤ T347.heap.size := Nat.le_trans Zs345 K347.1
  have R349 : ∀ tg, Steps p.tables e below (T347.setTop (mkF m 32 #[.val (.long q1), .second, .val (.long q2), .second, .val (.int p3), .val (.int p4), .val (.int p5), .val (.int ca), .val (.int cb), .val (.ref s2), .val (.ref s3), .unset, .unset, .unset, .unset, .unset, .unset, .unset, .unset, .unset, .unset, .unset, .unset, .unset, .unset, .unset, .unset] [])) tg → Steps p.tables e below (s₁.setTop (mkF m 0 #[.val (.long q1), .second, .val (.long q2), .second, .val (.int p3), .val (.int p4), .val (.int p5), .unset, .unset, .unset, .unset, .unset, .unset, .unset, .unset, .unset, .unset, .unset, .unset, .unset, .unset, .unset, .unset, .unset, .unset, .unset, .unset] [])) tg := by
    intro tg kt
    refine R346 _ ?_
    refine st347 _ ?_
    show Steps p.tables e below (T347.setTop (mkF m 30 #[.val (.long q1), .second, .val (.long q2), .second, .val (.int p3), .val (.int p4), .val (.int p5), .val (.int ca), .val (.int cb), .val (.ref s2), .unset, .unset, .unset, .unset, .unset, .unset, .unset, .unset, .unset, .unset, .unset, .unset, .unset, .unset, .unset, .unset, .unset] [(.ref s3)])) _
    refine XS.astore X347.here hx rfl (hb hby at_30) rfl rfl (l' := #[.val (.long q1), .second, .val (.long q2), .second, .val (.int p3), .val (.int p4), .val (.int p5), .val (.int ca), .val (.int cb), .val (.ref s2), .val (.ref s3), .unset, .unset, .unset, .unset, .unset, .unset, .unset, .unset, .unset, .unset, .unset, .unset, .unset, .unset, .unset, .unset]) rfl ?_
    exact kt
  clear R346 st347
  obtain ⟨T350, h350, X350, e350, E350, A350, D350, -, st350⟩ := newO X347 hx hZ hown (hw _ (List.mem_of_getElem? (i := 26) rfl)) (hw _ (List.mem_of_getElem? (i := 27) rfl)) (hw _ (List.mem_of_getElem? (i := 28) rfl)) rfl (g := (mkF m 32 #[.val (.long q1), .second, .val (.long q2), .second, .val (.int p3), .val (.int p4), .val (.int p5), .val (.int ca), .val (.int cb), .val (.ref s2), .val (.ref s3), .unset, .unset, .unset, .unset, .unset, .unset, .unset, .unset, .unset, .unset, .unset, .unset, .unset, .unset, .unset, .unset] [])) rfl (hb hby at_32) (by decide) (by decide)
  obtain ⟨ob, g350⟩ : ∃ z, z = T347.heap.size := ⟨_, rfl⟩
  rw [← g350] at A350 D350 st350
  have E_ob := A350
  have g_ob : n0 ≤ ob := Nat.le_trans Zs348 (Nat.le_of_eq g350.symm)
  have ne_s2_ob : s2 ≠ ob := Nat.ne_of_lt (Nat.lt_of_lt_of_le E2_348.lt (Nat.le_of_eq g350.symm))
  have ne_t2_ob : t2 ≠ ob := Nat.ne_of_lt (Nat.lt_of_lt_of_le VA2_348.lt (Nat.le_of_eq g350.symm))
  have ne_s3_ob : s3 ≠ ob := Nat.ne_of_lt (Nat.lt_of_lt_of_le E3.lt (Nat.le_of_eq g350.symm))
  have ne_t3_ob : t3 ≠ ob := Nat.ne_of_lt (Nat.lt_of_lt_of_le VA3.lt (Nat.le_of_eq g350.symm))
  have OL_350 := OL_348.ext E350
  have E2_350 := E2_348.ext E350
  have Fv2_350 := Fv2_348.ext E350
  have Fc2_350 := Fc2_348.ext E350
  have VA2_350 := VA2_348.ext E350
  have EA2_350 := EA2_348.ext E350
  have E3_350 := E3.ext E350
  have Fv3_350 := Fv3.ext E350
  have Fc3_350 := Fc3.ext E350
  have VA3_350 := VA3.ext E350
  have EA3_350 := EA3.ext E350
  clear OL_348 E2_348 Fv2_348 Fc2_348 VA2_348 EA2_348
  have Zs350 : n0 ≤ h350.size := Nat.le_trans Zs348 E350.1
  have Fsr : Fld Z h350 ob "com/example/loadloom/loadloom/Draws" "spreadRounds" "[J" .null := D350 (Or.inr (hw _ (List.mem_of_getElem? (i := 87) rfl))) (ty := (.array .long)) (by decide)
  have Fk : Fld Z h350 ob "com/example/loadloom/loadloom/Draws" "key" "J" (.long (0 : Int64)) := D350 (Or.inr (hw _ (List.mem_of_getElem? (i := 89) rfl))) (ty := .long) (by decide)
  have Fs : Fld Z h350 ob "com/example/loadloom/loadloom/Draws" "state" "J" (.long (0 : Int64)) := D350 (Or.inl (hw _ (List.mem_of_getElem? (i := 91) rfl))) (ty := .long) (by decide)
  have R351 : ∀ tg, Steps p.tables e below (T350.setTop (mkF m 41 #[.val (.long q1), .second, .val (.long q2), .second, .val (.int p3), .val (.int p4), .val (.int p5), .val (.int ca), .val (.int cb), .val (.ref s2), .val (.ref s3), .unset, .unset, .unset, .unset, .unset, .unset, .unset, .unset, .unset, .unset, .unset, .unset, .unset, .unset, .unset, .unset] [(.ref s3), (.ref s2), (.long q1), (.ref ob), (.ref ob)])) tg → Steps p.tables e below (s₁.setTop (mkF m 0 #[.val (.long q1), .second, .val (.long q2), .second, .val (.int p3), .val (.int p4), .val (.int p5), .unset, .unset, .unset, .unset, .unset, .unset, .unset, .unset, .unset, .unset, .unset, .unset, .unset, .unset, .unset, .unset, .unset, .unset, .unset, .unset] [])) tg := by
    intro tg kt
    refine R349 _ ?_
    refine st350 _ ?_
    refine XS.dup X350.here hx rfl (hb hby at_35) rfl rfl ?_
    refine XS.lloadN X350.here hx rfl (hb hby at_36) rfl ?_
    show Steps p.tables e below (T350.setTop (mkF m 37 #[.val (.long q1), .second, .val (.long q2), .second, .val (.int p3), .val (.int p4), .val (.int p5), .val (.int ca), .val (.int cb), .val (.ref s2), .val (.ref s3), .unset, .unset, .unset, .unset, .unset, .unset, .unset, .unset, .unset, .unset, .unset, .unset, .unset, .unset, .unset, .unset] [(.long q1), (.ref ob), (.ref ob)])) _
    refine XS.aload X350.here hx rfl (hb hby at_37) rfl rfl ?_
    refine XS.aload X350.here hx rfl (hb hby at_39) rfl rfl ?_
    exact kt
  clear R349 st350
  obtain ⟨_, _, ⟨T352, L352, k352, n352⟩, -, X352, ⟨Lc352, hQ352, l352, y352, z352⟩, st352⟩ := X350.specialBack hx (y := (⟨"com/example/loadloom/loadloom/Draws", "<init>", "(JLjava/lang/String;Ljava/lang/String;)V"⟩ : MethodName)) rfl hown (mvT hZ (hw _ (List.mem_of_getElem? (i := 29) rfl))) (mvT hZ (hw _ (List.mem_of_getElem? (i := 30) rfl))) (mvT hZ (hw _ (List.mem_of_getElem? (i := 31) rfl))) (by decide) (backOf (W := 1) (rm_dr l Z a0 hw [] ob q1 s2 s3 ca cb t2 t3 uu cs sw gw h350 n0 Zs350 E_ob Fsr Fk Fs g_ob SW VW SC SU SI OL_350 hcs E2_350 Fv2_350 Fc2_350 VA2_350 EA2_350 hz2 hc2 E3_350 Fv3_350 Fc3_350 VA3_350 EA3_350 hz3 hc3) hZ (hw _ (List.mem_of_getElem? (i := 31) rfl)) (hw _ (List.mem_of_getElem? (i := 28) rfl)) (by decide) (by decide)) (g := (mkF m 41 #[.val (.long q1), .second, .val (.long q2), .second, .val (.int p3), .val (.int p4), .val (.int p5), .val (.int ca), .val (.int cb), .val (.ref s2), .val (.ref s3), .unset, .unset, .unset, .unset, .unset, .unset, .unset, .unset, .unset, .unset, .unset, .unset, .unset, .unset, .unset, .unset] [(.ref s3), (.ref s2), (.long q1), (.ref ob), (.ref ob)])) rfl (by rw [hml]; rfl) (Steps.refl _) (a := ob) (argsL := [(.long q1), (.ref s2), (.ref s3)]) (rest := [(.ref ob)]) (lenOf pd_17 rfl) rfl (by show 2 * 0 + _ ≤ _; exact Nat.le_of_eq rfl) (hb hby at_41) (fun _ _ => ⟨rfl, e350, (by decide : 5 + 4 ≤ _), (by decide : 13 + 9 ≤ _)⟩)
  dsimp only [Pt.U, Pt.locs, Pt.cells, Pt.slots] at X352 l352 y352 z352 st352 hQ352
  rw [l352, y352, z352] at X352
  obtain ⟨rfl, N352q, K352, Ea, Fka, Fsa⟩ := hQ352
  have N352 := Fr.app N347 N352q
  have Zs353 : n0 ≤ T352.heap.size := Nat.le_trans Zs350 K352.1
  have R354 : ∀ tg, Steps p.tables e below (T352.setTop (mkF m 50 #[.val (.long q1), .second, .val (.long q2), .second, .val (.int p3), .val (.int p4), .val (.int p5), .val (.int ca), .val (.int cb), .val (.ref s2), .val (.ref s3), .val (.ref ob), .unset, .unset, .unset, .unset, .unset, .unset, .unset, .unset, .unset, .unset, .unset, .unset, .unset, .unset, .unset] [(.int (p5 &&& (1 : Int32)))])) tg → Steps p.tables e below (s₁.setTop (mkF m 0 #[.val (.long q1), .second, .val (.long q2), .second, .val (.int p3), .val (.int p4), .val (.int p5), .unset, .unset, .unset, .unset, .unset, .unset, .unset, .unset, .unset, .unset, .unset, .unset, .unset, .unset, .unset, .unset, .unset, .unset, .unset, .unset] [])) tg := by
    intro tg kt
    refine R351 _ ?_
    refine st352.trans ?_
    show Steps p.tables e below (T352.setTop (mkF m 44 #[.val (.long q1), .second, .val (.long q2), .second, .val (.int p3), .val (.int p4), .val (.int p5), .val (.int ca), .val (.int cb), .val (.ref s2), .val (.ref s3), .unset, .unset, .unset, .unset, .unset, .unset, .unset, .unset, .unset, .unset, .unset, .unset, .unset, .unset, .unset, .unset] [(.ref ob)])) _
    refine XS.astore X352.here hx rfl (hb hby at_44) rfl rfl (l' := #[.val (.long q1), .second, .val (.long q2), .second, .val (.int p3), .val (.int p4), .val (.int p5), .val (.int ca), .val (.int cb), .val (.ref s2), .val (.ref s3), .val (.ref ob), .unset, .unset, .unset, .unset, .unset, .unset, .unset, .unset, .unset, .unset, .unset, .unset, .unset, .unset, .unset]) rfl ?_
    refine XS.iload X352.here hx rfl (hb hby at_46) rfl ?_
    refine XS.iconst X352.here hx rfl (hb hby at_48) ?_
    show Steps p.tables e below (T352.setTop (mkF m 49 #[.val (.long q1), .second, .val (.long q2), .second, .val (.int p3), .val (.int p4), .val (.int p5), .val (.int ca), .val (.int cb), .val (.ref s2), .val (.ref s3), .val (.ref ob), .unset, .unset, .unset, .unset, .unset, .unset, .unset, .unset, .unset, .unset, .unset, .unset, .unset, .unset, .unset] [(.int (1 : Int32)), (.int p5)])) _
    refine XS.iand X352.here hx rfl (hb hby at_49) rfl ?_
    exact kt
  clear R351 st352
  by_cases hst : (p5 &&& (1 : Int32)) = (0 : Int32)
  · have R355 : ∀ tg, Steps p.tables e below (T352.setTop (mkF m 73 #[.val (.long q1), .second, .val (.long q2), .second, .val (.int p3), .val (.int p4), .val (.int p5), .val (.int ca), .val (.int cb), .val (.ref s2), .val (.ref s3), .val (.ref ob), .val (.int (0 : Int32)), .unset, .unset, .unset, .unset, .unset, .unset, .unset, .unset, .unset, .unset, .unset, .unset, .unset, .unset] [(.ref ob)])) tg → Steps p.tables e below (s₁.setTop (mkF m 0 #[.val (.long q1), .second, .val (.long q2), .second, .val (.int p3), .val (.int p4), .val (.int p5), .unset, .unset, .unset, .unset, .unset, .unset, .unset, .unset, .unset, .unset, .unset, .unset, .unset, .unset, .unset, .unset, .unset, .unset, .unset, .unset] [])) tg := by
      intro tg kt
      refine R354 _ ?_
      show Steps p.tables e below (T352.setTop (mkF m 50 #[.val (.long q1), .second, .val (.long q2), .second, .val (.int p3), .val (.int p4), .val (.int p5), .val (.int ca), .val (.int cb), .val (.ref s2), .val (.ref s3), .val (.ref ob), .unset, .unset, .unset, .unset, .unset, .unset, .unset, .unset, .unset, .unset, .unset, .unset, .unset, .unset, .unset] [(.int (p5 &&& (1 : Int32)))])) _
      refine XS.ifYes X352.here hx rfl (pc0 := 50) (pc' := 57) rfl (hb hby at_50) rfl ((if0 _ _).trans (teq (hst : (p5 &&& (1 : Int32)) = (0 : Int32))).1) (by decide) (by decide) ?_
      refine XS.iconst X352.here hx rfl (hb hby at_57) ?_
      show Steps p.tables e below (T352.setTop (mkF m 58 #[.val (.long q1), .second, .val (.long q2), .second, .val (.int p3), .val (.int p4), .val (.int p5), .val (.int ca), .val (.int cb), .val (.ref s2), .val (.ref s3), .val (.ref ob), .unset, .unset, .unset, .unset, .unset, .unset, .unset, .unset, .unset, .unset, .unset, .unset, .unset, .unset, .unset] [(.int (0 : Int32))])) _
      refine XS.istore X352.here hx rfl (hb hby at_58) rfl (l' := #[.val (.long q1), .second, .val (.long q2), .second, .val (.int p3), .val (.int p4), .val (.int p5), .val (.int ca), .val (.int cb), .val (.ref s2), .val (.ref s3), .val (.ref ob), .val (.int (0 : Int32)), .unset, .unset, .unset, .unset, .unset, .unset, .unset, .unset, .unset, .unset, .unset, .unset, .unset, .unset]) rfl ?_
      refine XS.iload X352.here hx rfl (hb hby at_60) rfl ?_
      show Steps p.tables e below (T352.setTop (mkF m 62 #[.val (.long q1), .second, .val (.long q2), .second, .val (.int p3), .val (.int p4), .val (.int p5), .val (.int ca), .val (.int cb), .val (.ref s2), .val (.ref s3), .val (.ref ob), .val (.int (0 : Int32)), .unset, .unset, .unset, .unset, .unset, .unset, .unset, .unset, .unset, .unset, .unset, .unset, .unset, .unset] [(.int (0 : Int32))])) _
      refine XS.ifYes X352.here hx rfl (pc0 := 62) (pc' := 71) rfl (hb hby at_62) rfl ((if0 _ _).trans (teq (by decide : (0 : Int32) = (0 : Int32))).1) (by decide) (by decide) ?_
      refine XS.aload X352.here hx rfl (hb hby at_71) rfl rfl ?_
      exact kt
    clear R354
    obtain ⟨cq356, kq356, q356a, q356b, q356c⟩ := isOf hZ rfl Ea
    obtain ⟨_, _, ⟨T356, L356, k356, n356⟩, -, X356, ⟨Lc356, hQ356, l356, y356, z356⟩, st356⟩ := X352.virtualBack hx (y := (⟨"com/example/loadloom/loadloom/Draws", "next", "()J"⟩ : MethodName)) (z := (⟨"com/example/loadloom/loadloom/Draws", "next", "()J"⟩ : MethodName)) hown (mvT hZ (hw _ (List.mem_of_getElem? (i := 95) rfl))) (mvT hZ (hw _ (List.mem_of_getElem? (i := 96) rfl))) (notFace_of_selects (args := #[]) (mvT hZ (hw _ (List.mem_of_getElem? (i := 98) rfl)))) (mvT hZ (hw _ (List.mem_of_getElem? (i := 98) rfl))) (mvT hZ (hw _ (List.mem_of_getElem? (i := 97) rfl))) (by decide) (backOf (W := 0) (rm_next l Z a0 hw [] ob (own_key q1 ca cb) (0 : Int64) T352.heap n0 Zs353 Ea Fka Fsa g_ob) hZ (hw _ (List.mem_of_getElem? (i := 99) rfl)) (hw _ (List.mem_of_getElem? (i := 28) rfl)) (by decide) (by decide)) q356a q356c (g := (mkF m 73 #[.val (.long q1), .second, .val (.long q2), .second, .val (.int p3), .val (.int p4), .val (.int p5), .val (.int ca), .val (.int cb), .val (.ref s2), .val (.ref s3), .val (.ref ob), .val (.int (0 : Int32)), .unset, .unset, .unset, .unset, .unset, .unset, .unset, .unset, .unset, .unset, .unset, .unset, .unset, .unset] [(.ref ob)])) rfl (by rw [hml]; rfl) (Steps.refl _) (argsL := []) (rest := []) (lenOf pd_18 rfl) rfl (by show 2 * 0 + _ ≤ _; exact Nat.le_of_eq rfl) (hb hby at_73) (fun _ _ => ⟨rfl, rfl, (by decide : 9 + 0 ≤ _), (by decide : 22 + 0 ≤ _)⟩)
    dsimp only [Pt.U, Pt.locs, Pt.cells, Pt.slots] at X356 l356 y356 z356 st356 hQ356
    rw [l356, y356, z356] at X356
    obtain ⟨rfl, N356q, K356, Ea356, Fka356, Fsa356⟩ := hQ356
    have N356 := Fr.app N352 N356q
    have Zs357 : n0 ≤ T356.heap.size := Nat.le_trans Zs353 K356.1
    have R358 : ∀ tg, Steps p.tables e below (T356.setTop (mkF m 80 #[.val (.long q1), .second, .val (.long q2), .second, .val (.int p3), .val (.int p4), .val (.int p5), .val (.int ca), .val (.int cb), .val (.ref s2), .val (.ref s3), .val (.ref ob), .val (.int (0 : Int32)), .val (.long (own_mix ((0 : Int64) + (-7046029254386353131 : Int64)))), .second, .unset, .unset, .unset, .unset, .unset, .unset, .unset, .unset, .unset, .unset, .unset, .unset] [(.ref ob)])) tg → Steps p.tables e below (s₁.setTop (mkF m 0 #[.val (.long q1), .second, .val (.long q2), .second, .val (.int p3), .val (.int p4), .val (.int p5), .unset, .unset, .unset, .unset, .unset, .unset, .unset, .unset, .unset, .unset, .unset, .unset, .unset, .unset, .unset, .unset, .unset, .unset, .unset, .unset] [])) tg := by
      intro tg kt
      refine R355 _ ?_
      refine st356.trans ?_
      show Steps p.tables e below (T356.setTop (mkF m 76 #[.val (.long q1), .second, .val (.long q2), .second, .val (.int p3), .val (.int p4), .val (.int p5), .val (.int ca), .val (.int cb), .val (.ref s2), .val (.ref s3), .val (.ref ob), .val (.int (0 : Int32)), .unset, .unset, .unset, .unset, .unset, .unset, .unset, .unset, .unset, .unset, .unset, .unset, .unset, .unset] [(.long (own_mix ((0 : Int64) + (-7046029254386353131 : Int64))))])) _
      refine XS.lstore X356.here hx rfl (hb hby at_76) rfl (l' := #[.val (.long q1), .second, .val (.long q2), .second, .val (.int p3), .val (.int p4), .val (.int p5), .val (.int ca), .val (.int cb), .val (.ref s2), .val (.ref s3), .val (.ref ob), .val (.int (0 : Int32)), .val (.long (own_mix ((0 : Int64) + (-7046029254386353131 : Int64)))), .second, .unset, .unset, .unset, .unset, .unset, .unset, .unset, .unset, .unset, .unset, .unset, .unset]) rfl ?_
      refine XS.aload X356.here hx rfl (hb hby at_78) rfl rfl ?_
      exact kt
    clear R355 st356
    obtain ⟨cq359, kq359, q359a, q359b, q359c⟩ := isOf hZ rfl Ea356
    obtain ⟨_, _, ⟨T359, L359, k359, n359⟩, -, X359, ⟨Lc359, hQ359, l359, y359, z359⟩, st359⟩ := X356.virtualBack hx (y := (⟨"com/example/loadloom/loadloom/Draws", "next", "()J"⟩ : MethodName)) (z := (⟨"com/example/loadloom/loadloom/Draws", "next", "()J"⟩ : MethodName)) hown (mvT hZ (hw _ (List.mem_of_getElem? (i := 95) rfl))) (mvT hZ (hw _ (List.mem_of_getElem? (i := 96) rfl))) (notFace_of_selects (args := #[]) (mvT hZ (hw _ (List.mem_of_getElem? (i := 98) rfl)))) (mvT hZ (hw _ (List.mem_of_getElem? (i := 98) rfl))) (mvT hZ (hw _ (List.mem_of_getElem? (i := 97) rfl))) (by decide) (backOf (W := 0) (rm_next l Z a0 hw [] ob (own_key q1 ca cb) ((0 : Int64) + (-7046029254386353131 : Int64)) T356.heap n0 Zs357 Ea356 Fka356 Fsa356 g_ob) hZ (hw _ (List.mem_of_getElem? (i := 99) rfl)) (hw _ (List.mem_of_getElem? (i := 28) rfl)) (by decide) (by decide)) q359a q359c (g := (mkF m 80 #[.val (.long q1), .second, .val (.long q2), .second, .val (.int p3), .val (.int p4), .val (.int p5), .val (.int ca), .val (.int cb), .val (.ref s2), .val (.ref s3), .val (.ref ob), .val (.int (0 : Int32)), .val (.long (own_mix ((0 : Int64) + (-7046029254386353131 : Int64)))), .second, .unset, .unset, .unset, .unset, .unset, .unset, .unset, .unset, .unset, .unset, .unset, .unset] [(.ref ob)])) rfl (by rw [hml]; rfl) (Steps.refl _) (argsL := []) (rest := []) (lenOf pd_18 rfl) rfl (by show 2 * 0 + _ ≤ _; exact Nat.le_of_eq rfl) (hb hby at_80) (fun _ _ => ⟨rfl, rfl, (by decide : 9 + 0 ≤ _), (by decide : 22 + 0 ≤ _)⟩)
    dsimp only [Pt.U, Pt.locs, Pt.cells, Pt.slots] at X359 l359 y359 z359 st359 hQ359
    rw [l359, y359, z359] at X359
    obtain ⟨rfl, N359q, K359, Ea359, Fka359, Fsa359⟩ := hQ359
    have N359 := Fr.app N356 N359q
    have Zs360 : n0 ≤ T359.heap.size := Nat.le_trans Zs357 K359.1
    have R361 : ∀ tg, Steps p.tables e below (T359.setTop (mkF m 90 #[.val (.long q1), .second, .val (.long q2), .second, .val (.int p3), .val (.int p4), .val (.int p5), .val (.int ca), .val (.int cb), .val (.ref s2), .val (.ref s3), .val (.ref ob), .val (.int (0 : Int32)), .val (.long (own_mix ((0 : Int64) + (-7046029254386353131 : Int64)))), .second, .val (.long (own_mix (((0 : Int64) + (-7046029254386353131 : Int64)) + (-7046029254386353131 : Int64)))), .second, .unset, .unset, .unset, .unset, .unset, .unset, .unset, .unset, .unset, .unset] [(.int ca), (.long (-3750763034362895579 : Int64))])) tg → Steps p.tables e below (s₁.setTop (mkF m 0 #[.val (.long q1), .second, .val (.long q2), .second, .val (.int p3), .val (.int p4), .val (.int p5), .unset, .unset, .unset, .unset, .unset, .unset, .unset, .unset, .unset, .unset, .unset, .unset, .unset, .unset, .unset, .unset, .unset, .unset, .unset, .unset] [])) tg := by
      intro tg kt
      refine R358 _ ?_
      refine st359.trans ?_
      show Steps p.tables e below (T359.setTop (mkF m 83 #[.val (.long q1), .second, .val (.long q2), .second, .val (.int p3), .val (.int p4), .val (.int p5), .val (.int ca), .val (.int cb), .val (.ref s2), .val (.ref s3), .val (.ref ob), .val (.int (0 : Int32)), .val (.long (own_mix ((0 : Int64) + (-7046029254386353131 : Int64)))), .second, .unset, .unset, .unset, .unset, .unset, .unset, .unset, .unset, .unset, .unset, .unset, .unset] [(.long (own_mix (((0 : Int64) + (-7046029254386353131 : Int64)) + (-7046029254386353131 : Int64))))])) _
      refine XS.lstore X359.here hx rfl (hb hby at_83) rfl (l' := #[.val (.long q1), .second, .val (.long q2), .second, .val (.int p3), .val (.int p4), .val (.int p5), .val (.int ca), .val (.int cb), .val (.ref s2), .val (.ref s3), .val (.ref ob), .val (.int (0 : Int32)), .val (.long (own_mix ((0 : Int64) + (-7046029254386353131 : Int64)))), .second, .val (.long (own_mix (((0 : Int64) + (-7046029254386353131 : Int64)) + (-7046029254386353131 : Int64)))), .second, .unset, .unset, .unset, .unset, .unset, .unset, .unset, .unset, .unset, .unset]) rfl ?_
      show Steps p.tables e below (T359.setTop (mkF m 85 #[.val (.long q1), .second, .val (.long q2), .second, .val (.int p3), .val (.int p4), .val (.int p5), .val (.int ca), .val (.int cb), .val (.ref s2), .val (.ref s3), .val (.ref ob), .val (.int (0 : Int32)), .val (.long (own_mix ((0 : Int64) + (-7046029254386353131 : Int64)))), .second, .val (.long (own_mix (((0 : Int64) + (-7046029254386353131 : Int64)) + (-7046029254386353131 : Int64)))), .second, .unset, .unset, .unset, .unset, .unset, .unset, .unset, .unset, .unset, .unset] [])) _
      refine X359.ldc2Long hx hown (mvT hZ (hw _ (List.mem_of_getElem? (i := 100) rfl))) (g := (mkF m 85 #[.val (.long q1), .second, .val (.long q2), .second, .val (.int p3), .val (.int p4), .val (.int p5), .val (.int ca), .val (.int cb), .val (.ref s2), .val (.ref s3), .val (.ref ob), .val (.int (0 : Int32)), .val (.long (own_mix ((0 : Int64) + (-7046029254386353131 : Int64)))), .second, .val (.long (own_mix (((0 : Int64) + (-7046029254386353131 : Int64)) + (-7046029254386353131 : Int64)))), .second, .unset, .unset, .unset, .unset, .unset, .unset, .unset, .unset, .unset, .unset] [])) rfl (hb hby at_85) _ ?_
      refine XS.iload X359.here hx rfl (hb hby at_88) rfl ?_
      exact kt
    clear R358 st359
    obtain ⟨_, _, ⟨T362, L362, k362, n362⟩, -, X362, ⟨Lc362, hQ362, l362, y362, z362⟩, st362⟩ := Jvm.LawKit.callS X359 hx (y := (⟨"com/example/loadloom/loadloom/DrawsNextPinLaw", "fnvChar", "(JC)J"⟩ : MethodName)) hown (mvT hZ (hw _ (List.mem_of_getElem? (i := 101) rfl))) (mvT hZ (hw _ (List.mem_of_getElem? (i := 102) rfl))) (mvT hZ (hw _ (List.mem_of_getElem? (i := 103) rfl))) (mvT hZ (hw _ (List.mem_of_getElem? (i := 104) rfl))) (by decide) (backOf (W := 0) (rm_fc l Z a0 hw [] (-3750763034362895579 : Int64) ca T359.heap n0 Zs360) hZ (hw _ (List.mem_of_getElem? (i := 104) rfl)) (hw _ (List.mem_of_getElem? (i := 103) rfl)) (by decide) (by decide)) (g := (mkF m 90 #[.val (.long q1), .second, .val (.long q2), .second, .val (.int p3), .val (.int p4), .val (.int p5), .val (.int ca), .val (.int cb), .val (.ref s2), .val (.ref s3), .val (.ref ob), .val (.int (0 : Int32)), .val (.long (own_mix ((0 : Int64) + (-7046029254386353131 : Int64)))), .second, .val (.long (own_mix (((0 : Int64) + (-7046029254386353131 : Int64)) + (-7046029254386353131 : Int64)))), .second, .unset, .unset, .unset, .unset, .unset, .unset, .unset, .unset, .unset, .unset] [(.int ca), (.long (-3750763034362895579 : Int64))])) rfl (by rw [hml]; rfl) (argsL := [(.long (-3750763034362895579 : Int64)), (.int ca)]) (rest := []) (lenOf pd_19 rfl) rfl (by show 2 * 0 + _ ≤ _; exact Nat.le_of_eq rfl) (hb hby at_90) (fun _ _ => ⟨rfl, rfl, (by decide : 9 + 0 ≤ _), (by decide : 22 + 0 ≤ _)⟩)
    dsimp only [Pt.U, Pt.locs, Pt.cells, Pt.slots] at X362 l362 y362 z362 st362 hQ362
    rw [l362, y362, z362] at X362
    obtain ⟨rfl, N362q, hh362⟩ := hQ362
    have N362 := Fr.app N359 N362q
    have R363 : ∀ tg, Steps p.tables e below (T362.setTop (mkF m 98 #[.val (.long q1), .second, .val (.long q2), .second, .val (.int p3), .val (.int p4), .val (.int p5), .val (.int ca), .val (.int cb), .val (.ref s2), .val (.ref s3), .val (.ref ob), .val (.int (0 : Int32)), .val (.long (own_mix ((0 : Int64) + (-7046029254386353131 : Int64)))), .second, .val (.long (own_mix (((0 : Int64) + (-7046029254386353131 : Int64)) + (-7046029254386353131 : Int64)))), .second, .val (.long (own_fc (-3750763034362895579 : Int64) ca)), .second, .unset, .unset, .unset, .unset, .unset, .unset, .unset, .unset] [(.int (0 : Int32)), (.long (own_fc (-3750763034362895579 : Int64) ca))])) tg → Steps p.tables e below (s₁.setTop (mkF m 0 #[.val (.long q1), .second, .val (.long q2), .second, .val (.int p3), .val (.int p4), .val (.int p5), .unset, .unset, .unset, .unset, .unset, .unset, .unset, .unset, .unset, .unset, .unset, .unset, .unset, .unset, .unset, .unset, .unset, .unset, .unset, .unset] [])) tg := by
      intro tg kt
      refine R361 _ ?_
      refine st362 _ ?_
      show Steps p.tables e below (T362.setTop (mkF m 93 #[.val (.long q1), .second, .val (.long q2), .second, .val (.int p3), .val (.int p4), .val (.int p5), .val (.int ca), .val (.int cb), .val (.ref s2), .val (.ref s3), .val (.ref ob), .val (.int (0 : Int32)), .val (.long (own_mix ((0 : Int64) + (-7046029254386353131 : Int64)))), .second, .val (.long (own_mix (((0 : Int64) + (-7046029254386353131 : Int64)) + (-7046029254386353131 : Int64)))), .second, .unset, .unset, .unset, .unset, .unset, .unset, .unset, .unset, .unset, .unset] [(.long (own_fc (-3750763034362895579 : Int64) ca))])) _
      refine XS.lstore X362.here hx rfl (hb hby at_93) rfl (l' := #[.val (.long q1), .second, .val (.long q2), .second, .val (.int p3), .val (.int p4), .val (.int p5), .val (.int ca), .val (.int cb), .val (.ref s2), .val (.ref s3), .val (.ref ob), .val (.int (0 : Int32)), .val (.long (own_mix ((0 : Int64) + (-7046029254386353131 : Int64)))), .second, .val (.long (own_mix (((0 : Int64) + (-7046029254386353131 : Int64)) + (-7046029254386353131 : Int64)))), .second, .val (.long (own_fc (-3750763034362895579 : Int64) ca)), .second, .unset, .unset, .unset, .unset, .unset, .unset, .unset, .unset]) rfl ?_
      refine XS.lload X362.here hx rfl (hb hby at_95) rfl ?_
      refine XS.iconst X362.here hx rfl (hb hby at_97) ?_
      exact kt
    clear R361 st362
    obtain ⟨_, _, ⟨T364, L364, k364, n364⟩, -, X364, ⟨Lc364, hQ364, l364, y364, z364⟩, st364⟩ := Jvm.LawKit.callS X362 hx (y := (⟨"com/example/loadloom/loadloom/DrawsNextPinLaw", "fnvByte", "(JI)J"⟩ : MethodName)) hown (mvT hZ (hw _ (List.mem_of_getElem? (i := 105) rfl))) (mvT hZ (hw _ (List.mem_of_getElem? (i := 106) rfl))) (mvT hZ (hw _ (List.mem_of_getElem? (i := 103) rfl))) (mvT hZ (hw _ (List.mem_of_getElem? (i := 107) rfl))) (by decide) (backOf (W := 0) (rm_fb l Z a0 hw [] (own_fc (-3750763034362895579 : Int64) ca) (0 : Int32) T359.heap n0 Zs360) hZ (hw _ (List.mem_of_getElem? (i := 107) rfl)) (hw _ (List.mem_of_getElem? (i := 103) rfl)) (by decide) (by decide)) (g := (mkF m 98 #[.val (.long q1), .second, .val (.long q2), .second, .val (.int p3), .val (.int p4), .val (.int p5), .val (.int ca), .val (.int cb), .val (.ref s2), .val (.ref s3), .val (.ref ob), .val (.int (0 : Int32)), .val (.long (own_mix ((0 : Int64) + (-7046029254386353131 : Int64)))), .second, .val (.long (own_mix (((0 : Int64) + (-7046029254386353131 : Int64)) + (-7046029254386353131 : Int64)))), .second, .val (.long (own_fc (-3750763034362895579 : Int64) ca)), .second, .unset, .unset, .unset, .unset, .unset, .unset, .unset, .unset] [(.int (0 : Int32)), (.long (own_fc (-3750763034362895579 : Int64) ca))])) rfl (by rw [hml]; rfl) (argsL := [(.long (own_fc (-3750763034362895579 : Int64) ca)), (.int (0 : Int32))]) (rest := []) (lenOf pd_0 rfl) rfl (by show 2 * 0 + _ ≤ _; exact Nat.le_of_eq rfl) (hb hby at_98) (fun _ _ => ⟨rfl, hh362, (by decide : 9 + 0 ≤ _), (by decide : 22 + 0 ≤ _)⟩)
    dsimp only [Pt.U, Pt.locs, Pt.cells, Pt.slots] at X364 l364 y364 z364 st364 hQ364
    rw [l364, y364, z364] at X364
    obtain ⟨rfl, N364q, hh364⟩ := hQ364
    have N364 := Fr.app N362 N364q
    have R365 : ∀ tg, Steps p.tables e below (T364.setTop (mkF m 107 #[.val (.long q1), .second, .val (.long q2), .second, .val (.int p3), .val (.int p4), .val (.int p5), .val (.int ca), .val (.int cb), .val (.ref s2), .val (.ref s3), .val (.ref ob), .val (.int (0 : Int32)), .val (.long (own_mix ((0 : Int64) + (-7046029254386353131 : Int64)))), .second, .val (.long (own_mix (((0 : Int64) + (-7046029254386353131 : Int64)) + (-7046029254386353131 : Int64)))), .second, .val (.long (own_fb (own_fc (-3750763034362895579 : Int64) ca) (0 : Int32))), .second, .unset, .unset, .unset, .unset, .unset, .unset, .unset, .unset] [(.int cb), (.long (own_fb (own_fc (-3750763034362895579 : Int64) ca) (0 : Int32)))])) tg → Steps p.tables e below (s₁.setTop (mkF m 0 #[.val (.long q1), .second, .val (.long q2), .second, .val (.int p3), .val (.int p4), .val (.int p5), .unset, .unset, .unset, .unset, .unset, .unset, .unset, .unset, .unset, .unset, .unset, .unset, .unset, .unset, .unset, .unset, .unset, .unset, .unset, .unset] [])) tg := by
      intro tg kt
      refine R363 _ ?_
      refine st364 _ ?_
      show Steps p.tables e below (T364.setTop (mkF m 101 #[.val (.long q1), .second, .val (.long q2), .second, .val (.int p3), .val (.int p4), .val (.int p5), .val (.int ca), .val (.int cb), .val (.ref s2), .val (.ref s3), .val (.ref ob), .val (.int (0 : Int32)), .val (.long (own_mix ((0 : Int64) + (-7046029254386353131 : Int64)))), .second, .val (.long (own_mix (((0 : Int64) + (-7046029254386353131 : Int64)) + (-7046029254386353131 : Int64)))), .second, .val (.long (own_fc (-3750763034362895579 : Int64) ca)), .second, .unset, .unset, .unset, .unset, .unset, .unset, .unset, .unset] [(.long (own_fb (own_fc (-3750763034362895579 : Int64) ca) (0 : Int32)))])) _
      refine XS.lstore X364.here hx rfl (hb hby at_101) rfl (l' := #[.val (.long q1), .second, .val (.long q2), .second, .val (.int p3), .val (.int p4), .val (.int p5), .val (.int ca), .val (.int cb), .val (.ref s2), .val (.ref s3), .val (.ref ob), .val (.int (0 : Int32)), .val (.long (own_mix ((0 : Int64) + (-7046029254386353131 : Int64)))), .second, .val (.long (own_mix (((0 : Int64) + (-7046029254386353131 : Int64)) + (-7046029254386353131 : Int64)))), .second, .val (.long (own_fb (own_fc (-3750763034362895579 : Int64) ca) (0 : Int32))), .second, .unset, .unset, .unset, .unset, .unset, .unset, .unset, .unset]) rfl ?_
      refine XS.lload X364.here hx rfl (hb hby at_103) rfl ?_
      refine XS.iload X364.here hx rfl (hb hby at_105) rfl ?_
      exact kt
    clear R363 st364
    obtain ⟨_, _, ⟨T366, L366, k366, n366⟩, -, X366, ⟨Lc366, hQ366, l366, y366, z366⟩, st366⟩ := Jvm.LawKit.callS X364 hx (y := (⟨"com/example/loadloom/loadloom/DrawsNextPinLaw", "fnvChar", "(JC)J"⟩ : MethodName)) hown (mvT hZ (hw _ (List.mem_of_getElem? (i := 101) rfl))) (mvT hZ (hw _ (List.mem_of_getElem? (i := 102) rfl))) (mvT hZ (hw _ (List.mem_of_getElem? (i := 103) rfl))) (mvT hZ (hw _ (List.mem_of_getElem? (i := 104) rfl))) (by decide) (backOf (W := 0) (rm_fc l Z a0 hw [] (own_fb (own_fc (-3750763034362895579 : Int64) ca) (0 : Int32)) cb T359.heap n0 Zs360) hZ (hw _ (List.mem_of_getElem? (i := 104) rfl)) (hw _ (List.mem_of_getElem? (i := 103) rfl)) (by decide) (by decide)) (g := (mkF m 107 #[.val (.long q1), .second, .val (.long q2), .second, .val (.int p3), .val (.int p4), .val (.int p5), .val (.int ca), .val (.int cb), .val (.ref s2), .val (.ref s3), .val (.ref ob), .val (.int (0 : Int32)), .val (.long (own_mix ((0 : Int64) + (-7046029254386353131 : Int64)))), .second, .val (.long (own_mix (((0 : Int64) + (-7046029254386353131 : Int64)) + (-7046029254386353131 : Int64)))), .second, .val (.long (own_fb (own_fc (-3750763034362895579 : Int64) ca) (0 : Int32))), .second, .unset, .unset, .unset, .unset, .unset, .unset, .unset, .unset] [(.int cb), (.long (own_fb (own_fc (-3750763034362895579 : Int64) ca) (0 : Int32)))])) rfl (by rw [hml]; rfl) (argsL := [(.long (own_fb (own_fc (-3750763034362895579 : Int64) ca) (0 : Int32))), (.int cb)]) (rest := []) (lenOf pd_19 rfl) rfl (by show 2 * 0 + _ ≤ _; exact Nat.le_of_eq rfl) (hb hby at_107) (fun _ _ => ⟨rfl, hh364, (by decide : 9 + 0 ≤ _), (by decide : 22 + 0 ≤ _)⟩)
    dsimp only [Pt.U, Pt.locs, Pt.cells, Pt.slots] at X366 l366 y366 z366 st366 hQ366
    rw [l366, y366, z366] at X366
    obtain ⟨rfl, N366q, hh366⟩ := hQ366
    have N366 := Fr.app N364 N366q
    have R367 : ∀ tg, Steps p.tables e below (T366.setTop (mkF m 113 #[.val (.long q1), .second, .val (.long q2), .second, .val (.int p3), .val (.int p4), .val (.int p5), .val (.int ca), .val (.int cb), .val (.ref s2), .val (.ref s3), .val (.ref ob), .val (.int (0 : Int32)), .val (.long (own_mix ((0 : Int64) + (-7046029254386353131 : Int64)))), .second, .val (.long (own_mix (((0 : Int64) + (-7046029254386353131 : Int64)) + (-7046029254386353131 : Int64)))), .second, .val (.long (own_fc (own_fb (own_fc (-3750763034362895579 : Int64) ca) (0 : Int32)) cb)), .second, .unset, .unset, .unset, .unset, .unset, .unset, .unset, .unset] [(.long q1)])) tg → Steps p.tables e below (s₁.setTop (mkF m 0 #[.val (.long q1), .second, .val (.long q2), .second, .val (.int p3), .val (.int p4), .val (.int p5), .unset, .unset, .unset, .unset, .unset, .unset, .unset, .unset, .unset, .unset, .unset, .unset, .unset, .unset, .unset, .unset, .unset, .unset, .unset, .unset] [])) tg := by
      intro tg kt
      refine R365 _ ?_
      refine st366 _ ?_
      show Steps p.tables e below (T366.setTop (mkF m 110 #[.val (.long q1), .second, .val (.long q2), .second, .val (.int p3), .val (.int p4), .val (.int p5), .val (.int ca), .val (.int cb), .val (.ref s2), .val (.ref s3), .val (.ref ob), .val (.int (0 : Int32)), .val (.long (own_mix ((0 : Int64) + (-7046029254386353131 : Int64)))), .second, .val (.long (own_mix (((0 : Int64) + (-7046029254386353131 : Int64)) + (-7046029254386353131 : Int64)))), .second, .val (.long (own_fb (own_fc (-3750763034362895579 : Int64) ca) (0 : Int32))), .second, .unset, .unset, .unset, .unset, .unset, .unset, .unset, .unset] [(.long (own_fc (own_fb (own_fc (-3750763034362895579 : Int64) ca) (0 : Int32)) cb))])) _
      refine XS.lstore X366.here hx rfl (hb hby at_110) rfl (l' := #[.val (.long q1), .second, .val (.long q2), .second, .val (.int p3), .val (.int p4), .val (.int p5), .val (.int ca), .val (.int cb), .val (.ref s2), .val (.ref s3), .val (.ref ob), .val (.int (0 : Int32)), .val (.long (own_mix ((0 : Int64) + (-7046029254386353131 : Int64)))), .second, .val (.long (own_mix (((0 : Int64) + (-7046029254386353131 : Int64)) + (-7046029254386353131 : Int64)))), .second, .val (.long (own_fc (own_fb (own_fc (-3750763034362895579 : Int64) ca) (0 : Int32)) cb)), .second, .unset, .unset, .unset, .unset, .unset, .unset, .unset, .unset]) rfl ?_
      refine XS.lloadN X366.here hx rfl (hb hby at_112) rfl ?_
      exact kt
    clear R365 st366
    obtain ⟨_, _, ⟨T368, L368, k368, n368⟩, -, X368, ⟨Lc368, hQ368, l368, y368, z368⟩, st368⟩ := Jvm.LawKit.callS X366 hx (y := (⟨"com/example/loadloom/loadloom/DrawsNextPinLaw", "mix", "(J)J"⟩ : MethodName)) hown (mvT hZ (hw _ (List.mem_of_getElem? (i := 109) rfl))) (mvT hZ (hw _ (List.mem_of_getElem? (i := 110) rfl))) (mvT hZ (hw _ (List.mem_of_getElem? (i := 103) rfl))) (mvT hZ (hw _ (List.mem_of_getElem? (i := 111) rfl))) (by decide) (backOf (W := 0) (rm_mixL l Z a0 hw [] q1 T359.heap n0 Zs360) hZ (hw _ (List.mem_of_getElem? (i := 111) rfl)) (hw _ (List.mem_of_getElem? (i := 103) rfl)) (by decide) (by decide)) (g := (mkF m 113 #[.val (.long q1), .second, .val (.long q2), .second, .val (.int p3), .val (.int p4), .val (.int p5), .val (.int ca), .val (.int cb), .val (.ref s2), .val (.ref s3), .val (.ref ob), .val (.int (0 : Int32)), .val (.long (own_mix ((0 : Int64) + (-7046029254386353131 : Int64)))), .second, .val (.long (own_mix (((0 : Int64) + (-7046029254386353131 : Int64)) + (-7046029254386353131 : Int64)))), .second, .val (.long (own_fc (own_fb (own_fc (-3750763034362895579 : Int64) ca) (0 : Int32)) cb)), .second, .unset, .unset, .unset, .unset, .unset, .unset, .unset, .unset] [(.long q1)])) rfl (by rw [hml]; rfl) (argsL := [(.long q1)]) (rest := []) (lenOf pd_13 rfl) rfl (by show 2 * 0 + _ ≤ _; exact Nat.le_of_eq rfl) (hb hby at_113) (fun _ _ => ⟨rfl, hh366, (by decide : 9 + 0 ≤ _), (by decide : 22 + 0 ≤ _)⟩)
    dsimp only [Pt.U, Pt.locs, Pt.cells, Pt.slots] at X368 l368 y368 z368 st368 hQ368
    rw [l368, y368, z368] at X368
    obtain ⟨rfl, N368q, hh368⟩ := hQ368
    have N368 := Fr.app N366 N368q
    have R369 : ∀ tg, Steps p.tables e below (T368.setTop (mkF m 119 #[.val (.long q1), .second, .val (.long q2), .second, .val (.int p3), .val (.int p4), .val (.int p5), .val (.int ca), .val (.int cb), .val (.ref s2), .val (.ref s3), .val (.ref ob), .val (.int (0 : Int32)), .val (.long (own_mix ((0 : Int64) + (-7046029254386353131 : Int64)))), .second, .val (.long (own_mix (((0 : Int64) + (-7046029254386353131 : Int64)) + (-7046029254386353131 : Int64)))), .second, .val (.long (own_fc (own_fb (own_fc (-3750763034362895579 : Int64) ca) (0 : Int32)) cb)), .second, .unset, .unset, .unset, .unset, .unset, .unset, .unset, .unset] [(.long ((own_mix q1) ^^^ (own_fc (own_fb (own_fc (-3750763034362895579 : Int64) ca) (0 : Int32)) cb)))])) tg → Steps p.tables e below (s₁.setTop (mkF m 0 #[.val (.long q1), .second, .val (.long q2), .second, .val (.int p3), .val (.int p4), .val (.int p5), .unset, .unset, .unset, .unset, .unset, .unset, .unset, .unset, .unset, .unset, .unset, .unset, .unset, .unset, .unset, .unset, .unset, .unset, .unset, .unset] [])) tg := by
      intro tg kt
      refine R367 _ ?_
      refine st368 _ ?_
      refine XS.lload X368.here hx rfl (hb hby at_116) rfl ?_
      show Steps p.tables e below (T368.setTop (mkF m 118 #[.val (.long q1), .second, .val (.long q2), .second, .val (.int p3), .val (.int p4), .val (.int p5), .val (.int ca), .val (.int cb), .val (.ref s2), .val (.ref s3), .val (.ref ob), .val (.int (0 : Int32)), .val (.long (own_mix ((0 : Int64) + (-7046029254386353131 : Int64)))), .second, .val (.long (own_mix (((0 : Int64) + (-7046029254386353131 : Int64)) + (-7046029254386353131 : Int64)))), .second, .val (.long (own_fc (own_fb (own_fc (-3750763034362895579 : Int64) ca) (0 : Int32)) cb)), .second, .unset, .unset, .unset, .unset, .unset, .unset, .unset, .unset] [(.long (own_fc (own_fb (own_fc (-3750763034362895579 : Int64) ca) (0 : Int32)) cb)), (.long (own_mix q1))])) _
      refine XS.lxor X368.here hx rfl (hb hby at_118) rfl ?_
      exact kt
    clear R367 st368
    obtain ⟨_, _, ⟨T370, L370, k370, n370⟩, -, X370, ⟨Lc370, hQ370, l370, y370, z370⟩, st370⟩ := Jvm.LawKit.callS X368 hx (y := (⟨"com/example/loadloom/loadloom/DrawsNextPinLaw", "mix", "(J)J"⟩ : MethodName)) hown (mvT hZ (hw _ (List.mem_of_getElem? (i := 109) rfl))) (mvT hZ (hw _ (List.mem_of_getElem? (i := 110) rfl))) (mvT hZ (hw _ (List.mem_of_getElem? (i := 103) rfl))) (mvT hZ (hw _ (List.mem_of_getElem? (i := 111) rfl))) (by decide) (backOf (W := 0) (rm_mixL l Z a0 hw [] ((own_mix q1) ^^^ (own_fc (own_fb (own_fc (-3750763034362895579 : Int64) ca) (0 : Int32)) cb)) T359.heap n0 Zs360) hZ (hw _ (List.mem_of_getElem? (i := 111) rfl)) (hw _ (List.mem_of_getElem? (i := 103) rfl)) (by decide) (by decide)) (g := (mkF m 119 #[.val (.long q1), .second, .val (.long q2), .second, .val (.int p3), .val (.int p4), .val (.int p5), .val (.int ca), .val (.int cb), .val (.ref s2), .val (.ref s3), .val (.ref ob), .val (.int (0 : Int32)), .val (.long (own_mix ((0 : Int64) + (-7046029254386353131 : Int64)))), .second, .val (.long (own_mix (((0 : Int64) + (-7046029254386353131 : Int64)) + (-7046029254386353131 : Int64)))), .second, .val (.long (own_fc (own_fb (own_fc (-3750763034362895579 : Int64) ca) (0 : Int32)) cb)), .second, .unset, .unset, .unset, .unset, .unset, .unset, .unset, .unset] [(.long ((own_mix q1) ^^^ (own_fc (own_fb (own_fc (-3750763034362895579 : Int64) ca) (0 : Int32)) cb)))])) rfl (by rw [hml]; rfl) (argsL := [(.long ((own_mix q1) ^^^ (own_fc (own_fb (own_fc (-3750763034362895579 : Int64) ca) (0 : Int32)) cb)))]) (rest := []) (lenOf pd_13 rfl) rfl (by show 2 * 0 + _ ≤ _; exact Nat.le_of_eq rfl) (hb hby at_119) (fun _ _ => ⟨rfl, hh368, (by decide : 9 + 0 ≤ _), (by decide : 22 + 0 ≤ _)⟩)
    dsimp only [Pt.U, Pt.locs, Pt.cells, Pt.slots] at X370 l370 y370 z370 st370 hQ370
    rw [l370, y370, z370] at X370
    obtain ⟨rfl, N370q, hh370⟩ := hQ370
    have N370 := Fr.app N368 N370q
    have R371 : ∀ tg, Steps p.tables e below (T370.setTop (mkF m 122 #[.val (.long q1), .second, .val (.long q2), .second, .val (.int p3), .val (.int p4), .val (.int p5), .val (.int ca), .val (.int cb), .val (.ref s2), .val (.ref s3), .val (.ref ob), .val (.int (0 : Int32)), .val (.long (own_mix ((0 : Int64) + (-7046029254386353131 : Int64)))), .second, .val (.long (own_mix (((0 : Int64) + (-7046029254386353131 : Int64)) + (-7046029254386353131 : Int64)))), .second, .val (.long (own_fc (own_fb (own_fc (-3750763034362895579 : Int64) ca) (0 : Int32)) cb)), .second, .unset, .unset, .unset, .unset, .unset, .unset, .unset, .unset] [(.long (own_mix ((own_mix q1) ^^^ (own_fc (own_fb (own_fc (-3750763034362895579 : Int64) ca) (0 : Int32)) cb))))])) tg → Steps p.tables e below (s₁.setTop (mkF m 0 #[.val (.long q1), .second, .val (.long q2), .second, .val (.int p3), .val (.int p4), .val (.int p5), .unset, .unset, .unset, .unset, .unset, .unset, .unset, .unset, .unset, .unset, .unset, .unset, .unset, .unset, .unset, .unset, .unset, .unset, .unset, .unset] [])) tg := by
      intro tg kt
      refine R369 _ ?_
      refine st370 _ ?_
      exact kt
    clear R369 st370
    have R372 : ∀ tg, Steps p.tables e below (T370.setTop (mkF m 122 #[.val (.long q1), .second, .val (.long q2), .second, .val (.int p3), .val (.int p4), .val (.int p5), .val (.int ca), .val (.int cb), .val (.ref s2), .val (.ref s3), .val (.ref ob), .val (.int (0 : Int32)), .val (.long (own_mix ((0 : Int64) + (-7046029254386353131 : Int64)))), .second, .val (.long (own_mix (((0 : Int64) + (-7046029254386353131 : Int64)) + (-7046029254386353131 : Int64)))), .second, .val (.long (own_fc (own_fb (own_fc (-3750763034362895579 : Int64) ca) (0 : Int32)) cb)), .second, .unset, .unset, .unset, .unset, .unset, .unset, .unset, .unset] [(.long (own_key q1 ca cb))])) tg → Steps p.tables e below (s₁.setTop (mkF m 0 #[.val (.long q1), .second, .val (.long q2), .second, .val (.int p3), .val (.int p4), .val (.int p5), .unset, .unset, .unset, .unset, .unset, .unset, .unset, .unset, .unset, .unset, .unset, .unset, .unset, .unset, .unset, .unset, .unset, .unset, .unset, .unset] [])) tg := R371
    have R373 : ∀ tg, Steps p.tables e below (T370.setTop (mkF m 152 #[.val (.long q1), .second, .val (.long q2), .second, .val (.int p3), .val (.int p4), .val (.int p5), .val (.int ca), .val (.int cb), .val (.ref s2), .val (.ref s3), .val (.ref ob), .val (.int (0 : Int32)), .val (.long (own_mix ((0 : Int64) + (-7046029254386353131 : Int64)))), .second, .val (.long (own_mix (((0 : Int64) + (-7046029254386353131 : Int64)) + (-7046029254386353131 : Int64)))), .second, .val (.long (own_fc (own_fb (own_fc (-3750763034362895579 : Int64) ca) (0 : Int32)) cb)), .second, .val (.long (own_key q1 ca cb)), .second, .val (.long (0 : Int64)), .second, .unset, .unset, .unset, .unset] [(.long ((0 : Int64) + (-7046029254386353131 : Int64)))])) tg → Steps p.tables e below (s₁.setTop (mkF m 0 #[.val (.long q1), .second, .val (.long q2), .second, .val (.int p3), .val (.int p4), .val (.int p5), .unset, .unset, .unset, .unset, .unset, .unset, .unset, .unset, .unset, .unset, .unset, .unset, .unset, .unset, .unset, .unset, .unset, .unset, .unset, .unset] [])) tg := by
      intro tg kt
      refine R372 _ ?_
      show Steps p.tables e below (T370.setTop (mkF m 122 #[.val (.long q1), .second, .val (.long q2), .second, .val (.int p3), .val (.int p4), .val (.int p5), .val (.int ca), .val (.int cb), .val (.ref s2), .val (.ref s3), .val (.ref ob), .val (.int (0 : Int32)), .val (.long (own_mix ((0 : Int64) + (-7046029254386353131 : Int64)))), .second, .val (.long (own_mix (((0 : Int64) + (-7046029254386353131 : Int64)) + (-7046029254386353131 : Int64)))), .second, .val (.long (own_fc (own_fb (own_fc (-3750763034362895579 : Int64) ca) (0 : Int32)) cb)), .second, .unset, .unset, .unset, .unset, .unset, .unset, .unset, .unset] [(.long (own_key q1 ca cb))])) _
      refine XS.lstore X370.here hx rfl (hb hby at_122) rfl (l' := #[.val (.long q1), .second, .val (.long q2), .second, .val (.int p3), .val (.int p4), .val (.int p5), .val (.int ca), .val (.int cb), .val (.ref s2), .val (.ref s3), .val (.ref ob), .val (.int (0 : Int32)), .val (.long (own_mix ((0 : Int64) + (-7046029254386353131 : Int64)))), .second, .val (.long (own_mix (((0 : Int64) + (-7046029254386353131 : Int64)) + (-7046029254386353131 : Int64)))), .second, .val (.long (own_fc (own_fb (own_fc (-3750763034362895579 : Int64) ca) (0 : Int32)) cb)), .second, .val (.long (own_key q1 ca cb)), .second, .unset, .unset, .unset, .unset, .unset, .unset]) rfl ?_
      refine XS.iload X370.here hx rfl (hb hby at_124) rfl ?_
      show Steps p.tables e below (T370.setTop (mkF m 126 #[.val (.long q1), .second, .val (.long q2), .second, .val (.int p3), .val (.int p4), .val (.int p5), .val (.int ca), .val (.int cb), .val (.ref s2), .val (.ref s3), .val (.ref ob), .val (.int (0 : Int32)), .val (.long (own_mix ((0 : Int64) + (-7046029254386353131 : Int64)))), .second, .val (.long (own_mix (((0 : Int64) + (-7046029254386353131 : Int64)) + (-7046029254386353131 : Int64)))), .second, .val (.long (own_fc (own_fb (own_fc (-3750763034362895579 : Int64) ca) (0 : Int32)) cb)), .second, .val (.long (own_key q1 ca cb)), .second, .unset, .unset, .unset, .unset, .unset, .unset] [(.int (0 : Int32))])) _
      refine XS.ifYes X370.here hx rfl (pc0 := 126) (pc' := 143) rfl (hb hby at_126) rfl ((if0 _ _).trans (teq (by decide : (0 : Int32) = (0 : Int32))).1) (by decide) (by decide) ?_
      refine XS.lconst X370.here hx rfl (hb hby at_143) ?_
      show Steps p.tables e below (T370.setTop (mkF m 144 #[.val (.long q1), .second, .val (.long q2), .second, .val (.int p3), .val (.int p4), .val (.int p5), .val (.int ca), .val (.int cb), .val (.ref s2), .val (.ref s3), .val (.ref ob), .val (.int (0 : Int32)), .val (.long (own_mix ((0 : Int64) + (-7046029254386353131 : Int64)))), .second, .val (.long (own_mix (((0 : Int64) + (-7046029254386353131 : Int64)) + (-7046029254386353131 : Int64)))), .second, .val (.long (own_fc (own_fb (own_fc (-3750763034362895579 : Int64) ca) (0 : Int32)) cb)), .second, .val (.long (own_key q1 ca cb)), .second, .unset, .unset, .unset, .unset, .unset, .unset] [(.long (0 : Int64))])) _
      refine XS.lstore X370.here hx rfl (hb hby at_144) rfl (l' := #[.val (.long q1), .second, .val (.long q2), .second, .val (.int p3), .val (.int p4), .val (.int p5), .val (.int ca), .val (.int cb), .val (.ref s2), .val (.ref s3), .val (.ref ob), .val (.int (0 : Int32)), .val (.long (own_mix ((0 : Int64) + (-7046029254386353131 : Int64)))), .second, .val (.long (own_mix (((0 : Int64) + (-7046029254386353131 : Int64)) + (-7046029254386353131 : Int64)))), .second, .val (.long (own_fc (own_fb (own_fc (-3750763034362895579 : Int64) ca) (0 : Int32)) cb)), .second, .val (.long (own_key q1 ca cb)), .second, .val (.long (0 : Int64)), .second, .unset, .unset, .unset, .unset]) rfl ?_
      refine XS.lload X370.here hx rfl (hb hby at_146) rfl ?_
      show Steps p.tables e below (T370.setTop (mkF m 148 #[.val (.long q1), .second, .val (.long q2), .second, .val (.int p3), .val (.int p4), .val (.int p5), .val (.int ca), .val (.int cb), .val (.ref s2), .val (.ref s3), .val (.ref ob), .val (.int (0 : Int32)), .val (.long (own_mix ((0 : Int64) + (-7046029254386353131 : Int64)))), .second, .val (.long (own_mix (((0 : Int64) + (-7046029254386353131 : Int64)) + (-7046029254386353131 : Int64)))), .second, .val (.long (own_fc (own_fb (own_fc (-3750763034362895579 : Int64) ca) (0 : Int32)) cb)), .second, .val (.long (own_key q1 ca cb)), .second, .val (.long (0 : Int64)), .second, .unset, .unset, .unset, .unset] [(.long (0 : Int64))])) _
      refine X370.ldc2Long hx hown (mvT hZ (hw _ (List.mem_of_getElem? (i := 114) rfl))) (g := (mkF m 148 #[.val (.long q1), .second, .val (.long q2), .second, .val (.int p3), .val (.int p4), .val (.int p5), .val (.int ca), .val (.int cb), .val (.ref s2), .val (.ref s3), .val (.ref ob), .val (.int (0 : Int32)), .val (.long (own_mix ((0 : Int64) + (-7046029254386353131 : Int64)))), .second, .val (.long (own_mix (((0 : Int64) + (-7046029254386353131 : Int64)) + (-7046029254386353131 : Int64)))), .second, .val (.long (own_fc (own_fb (own_fc (-3750763034362895579 : Int64) ca) (0 : Int32)) cb)), .second, .val (.long (own_key q1 ca cb)), .second, .val (.long (0 : Int64)), .second, .unset, .unset, .unset, .unset] [(.long (0 : Int64))])) rfl (hb hby at_148) _ ?_
      show Steps p.tables e below (T370.setTop (mkF m 151 #[.val (.long q1), .second, .val (.long q2), .second, .val (.int p3), .val (.int p4), .val (.int p5), .val (.int ca), .val (.int cb), .val (.ref s2), .val (.ref s3), .val (.ref ob), .val (.int (0 : Int32)), .val (.long (own_mix ((0 : Int64) + (-7046029254386353131 : Int64)))), .second, .val (.long (own_mix (((0 : Int64) + (-7046029254386353131 : Int64)) + (-7046029254386353131 : Int64)))), .second, .val (.long (own_fc (own_fb (own_fc (-3750763034362895579 : Int64) ca) (0 : Int32)) cb)), .second, .val (.long (own_key q1 ca cb)), .second, .val (.long (0 : Int64)), .second, .unset, .unset, .unset, .unset] [(.long (-7046029254386353131 : Int64)), (.long (0 : Int64))])) _
      refine XS.ladd X370.here hx rfl (hb hby at_151) rfl ?_
      exact kt
    clear R372
    obtain ⟨_, _, ⟨T374, L374, k374, n374⟩, -, X374, ⟨Lc374, hQ374, l374, y374, z374⟩, st374⟩ := Jvm.LawKit.callS X370 hx (y := (⟨"com/example/loadloom/loadloom/DrawsNextPinLaw", "mix", "(J)J"⟩ : MethodName)) hown (mvT hZ (hw _ (List.mem_of_getElem? (i := 109) rfl))) (mvT hZ (hw _ (List.mem_of_getElem? (i := 110) rfl))) (mvT hZ (hw _ (List.mem_of_getElem? (i := 103) rfl))) (mvT hZ (hw _ (List.mem_of_getElem? (i := 111) rfl))) (by decide) (backOf (W := 0) (rm_mixL l Z a0 hw [] ((0 : Int64) + (-7046029254386353131 : Int64)) T359.heap n0 Zs360) hZ (hw _ (List.mem_of_getElem? (i := 111) rfl)) (hw _ (List.mem_of_getElem? (i := 103) rfl)) (by decide) (by decide)) (g := (mkF m 152 #[.val (.long q1), .second, .val (.long q2), .second, .val (.int p3), .val (.int p4), .val (.int p5), .val (.int ca), .val (.int cb), .val (.ref s2), .val (.ref s3), .val (.ref ob), .val (.int (0 : Int32)), .val (.long (own_mix ((0 : Int64) + (-7046029254386353131 : Int64)))), .second, .val (.long (own_mix (((0 : Int64) + (-7046029254386353131 : Int64)) + (-7046029254386353131 : Int64)))), .second, .val (.long (own_fc (own_fb (own_fc (-3750763034362895579 : Int64) ca) (0 : Int32)) cb)), .second, .val (.long (own_key q1 ca cb)), .second, .val (.long (0 : Int64)), .second, .unset, .unset, .unset, .unset] [(.long ((0 : Int64) + (-7046029254386353131 : Int64)))])) rfl (by rw [hml]; rfl) (argsL := [(.long ((0 : Int64) + (-7046029254386353131 : Int64)))]) (rest := []) (lenOf pd_13 rfl) rfl (by show 2 * 0 + _ ≤ _; exact Nat.le_of_eq rfl) (hb hby at_152) (fun _ _ => ⟨rfl, hh370, (by decide : 9 + 0 ≤ _), (by decide : 22 + 0 ≤ _)⟩)
    dsimp only [Pt.U, Pt.locs, Pt.cells, Pt.slots] at X374 l374 y374 z374 st374 hQ374
    rw [l374, y374, z374] at X374
    obtain ⟨rfl, N374q, hh374⟩ := hQ374
    have N374 := Fr.app N370 N374q
    have R375 : ∀ tg, Steps p.tables e below (T374.setTop (mkF m 167 #[.val (.long q1), .second, .val (.long q2), .second, .val (.int p3), .val (.int p4), .val (.int p5), .val (.int ca), .val (.int cb), .val (.ref s2), .val (.ref s3), .val (.ref ob), .val (.int (0 : Int32)), .val (.long (own_mix ((0 : Int64) + (-7046029254386353131 : Int64)))), .second, .val (.long (own_mix (((0 : Int64) + (-7046029254386353131 : Int64)) + (-7046029254386353131 : Int64)))), .second, .val (.long (own_fc (own_fb (own_fc (-3750763034362895579 : Int64) ca) (0 : Int32)) cb)), .second, .val (.long (own_key q1 ca cb)), .second, .val (.long (0 : Int64)), .second, .val (.long (own_mix ((0 : Int64) + (-7046029254386353131 : Int64)))), .second, .unset, .unset] [(.long (((0 : Int64) + (-7046029254386353131 : Int64)) + (-7046029254386353131 : Int64)))])) tg → Steps p.tables e below (s₁.setTop (mkF m 0 #[.val (.long q1), .second, .val (.long q2), .second, .val (.int p3), .val (.int p4), .val (.int p5), .unset, .unset, .unset, .unset, .unset, .unset, .unset, .unset, .unset, .unset, .unset, .unset, .unset, .unset, .unset, .unset, .unset, .unset, .unset, .unset] [])) tg := by
      intro tg kt
      refine R373 _ ?_
      refine st374 _ ?_
      show Steps p.tables e below (T374.setTop (mkF m 155 #[.val (.long q1), .second, .val (.long q2), .second, .val (.int p3), .val (.int p4), .val (.int p5), .val (.int ca), .val (.int cb), .val (.ref s2), .val (.ref s3), .val (.ref ob), .val (.int (0 : Int32)), .val (.long (own_mix ((0 : Int64) + (-7046029254386353131 : Int64)))), .second, .val (.long (own_mix (((0 : Int64) + (-7046029254386353131 : Int64)) + (-7046029254386353131 : Int64)))), .second, .val (.long (own_fc (own_fb (own_fc (-3750763034362895579 : Int64) ca) (0 : Int32)) cb)), .second, .val (.long (own_key q1 ca cb)), .second, .val (.long (0 : Int64)), .second, .unset, .unset, .unset, .unset] [(.long (own_mix ((0 : Int64) + (-7046029254386353131 : Int64))))])) _
      refine XS.lstore X374.here hx rfl (hb hby at_155) rfl (l' := #[.val (.long q1), .second, .val (.long q2), .second, .val (.int p3), .val (.int p4), .val (.int p5), .val (.int ca), .val (.int cb), .val (.ref s2), .val (.ref s3), .val (.ref ob), .val (.int (0 : Int32)), .val (.long (own_mix ((0 : Int64) + (-7046029254386353131 : Int64)))), .second, .val (.long (own_mix (((0 : Int64) + (-7046029254386353131 : Int64)) + (-7046029254386353131 : Int64)))), .second, .val (.long (own_fc (own_fb (own_fc (-3750763034362895579 : Int64) ca) (0 : Int32)) cb)), .second, .val (.long (own_key q1 ca cb)), .second, .val (.long (0 : Int64)), .second, .val (.long (own_mix ((0 : Int64) + (-7046029254386353131 : Int64)))), .second, .unset, .unset]) rfl ?_
      refine XS.lload X374.here hx rfl (hb hby at_157) rfl ?_
      show Steps p.tables e below (T374.setTop (mkF m 159 #[.val (.long q1), .second, .val (.long q2), .second, .val (.int p3), .val (.int p4), .val (.int p5), .val (.int ca), .val (.int cb), .val (.ref s2), .val (.ref s3), .val (.ref ob), .val (.int (0 : Int32)), .val (.long (own_mix ((0 : Int64) + (-7046029254386353131 : Int64)))), .second, .val (.long (own_mix (((0 : Int64) + (-7046029254386353131 : Int64)) + (-7046029254386353131 : Int64)))), .second, .val (.long (own_fc (own_fb (own_fc (-3750763034362895579 : Int64) ca) (0 : Int32)) cb)), .second, .val (.long (own_key q1 ca cb)), .second, .val (.long (0 : Int64)), .second, .val (.long (own_mix ((0 : Int64) + (-7046029254386353131 : Int64)))), .second, .unset, .unset] [(.long (0 : Int64))])) _
      refine X374.ldc2Long hx hown (mvT hZ (hw _ (List.mem_of_getElem? (i := 114) rfl))) (g := (mkF m 159 #[.val (.long q1), .second, .val (.long q2), .second, .val (.int p3), .val (.int p4), .val (.int p5), .val (.int ca), .val (.int cb), .val (.ref s2), .val (.ref s3), .val (.ref ob), .val (.int (0 : Int32)), .val (.long (own_mix ((0 : Int64) + (-7046029254386353131 : Int64)))), .second, .val (.long (own_mix (((0 : Int64) + (-7046029254386353131 : Int64)) + (-7046029254386353131 : Int64)))), .second, .val (.long (own_fc (own_fb (own_fc (-3750763034362895579 : Int64) ca) (0 : Int32)) cb)), .second, .val (.long (own_key q1 ca cb)), .second, .val (.long (0 : Int64)), .second, .val (.long (own_mix ((0 : Int64) + (-7046029254386353131 : Int64)))), .second, .unset, .unset] [(.long (0 : Int64))])) rfl (hb hby at_159) _ ?_
      show Steps p.tables e below (T374.setTop (mkF m 162 #[.val (.long q1), .second, .val (.long q2), .second, .val (.int p3), .val (.int p4), .val (.int p5), .val (.int ca), .val (.int cb), .val (.ref s2), .val (.ref s3), .val (.ref ob), .val (.int (0 : Int32)), .val (.long (own_mix ((0 : Int64) + (-7046029254386353131 : Int64)))), .second, .val (.long (own_mix (((0 : Int64) + (-7046029254386353131 : Int64)) + (-7046029254386353131 : Int64)))), .second, .val (.long (own_fc (own_fb (own_fc (-3750763034362895579 : Int64) ca) (0 : Int32)) cb)), .second, .val (.long (own_key q1 ca cb)), .second, .val (.long (0 : Int64)), .second, .val (.long (own_mix ((0 : Int64) + (-7046029254386353131 : Int64)))), .second, .unset, .unset] [(.long (-7046029254386353131 : Int64)), (.long (0 : Int64))])) _
      refine XS.ladd X374.here hx rfl (hb hby at_162) rfl ?_
      show Steps p.tables e below (T374.setTop (mkF m 163 #[.val (.long q1), .second, .val (.long q2), .second, .val (.int p3), .val (.int p4), .val (.int p5), .val (.int ca), .val (.int cb), .val (.ref s2), .val (.ref s3), .val (.ref ob), .val (.int (0 : Int32)), .val (.long (own_mix ((0 : Int64) + (-7046029254386353131 : Int64)))), .second, .val (.long (own_mix (((0 : Int64) + (-7046029254386353131 : Int64)) + (-7046029254386353131 : Int64)))), .second, .val (.long (own_fc (own_fb (own_fc (-3750763034362895579 : Int64) ca) (0 : Int32)) cb)), .second, .val (.long (own_key q1 ca cb)), .second, .val (.long (0 : Int64)), .second, .val (.long (own_mix ((0 : Int64) + (-7046029254386353131 : Int64)))), .second, .unset, .unset] [(.long ((0 : Int64) + (-7046029254386353131 : Int64)))])) _
      refine X374.ldc2Long hx hown (mvT hZ (hw _ (List.mem_of_getElem? (i := 114) rfl))) (g := (mkF m 163 #[.val (.long q1), .second, .val (.long q2), .second, .val (.int p3), .val (.int p4), .val (.int p5), .val (.int ca), .val (.int cb), .val (.ref s2), .val (.ref s3), .val (.ref ob), .val (.int (0 : Int32)), .val (.long (own_mix ((0 : Int64) + (-7046029254386353131 : Int64)))), .second, .val (.long (own_mix (((0 : Int64) + (-7046029254386353131 : Int64)) + (-7046029254386353131 : Int64)))), .second, .val (.long (own_fc (own_fb (own_fc (-3750763034362895579 : Int64) ca) (0 : Int32)) cb)), .second, .val (.long (own_key q1 ca cb)), .second, .val (.long (0 : Int64)), .second, .val (.long (own_mix ((0 : Int64) + (-7046029254386353131 : Int64)))), .second, .unset, .unset] [(.long ((0 : Int64) + (-7046029254386353131 : Int64)))])) rfl (hb hby at_163) _ ?_
      show Steps p.tables e below (T374.setTop (mkF m 166 #[.val (.long q1), .second, .val (.long q2), .second, .val (.int p3), .val (.int p4), .val (.int p5), .val (.int ca), .val (.int cb), .val (.ref s2), .val (.ref s3), .val (.ref ob), .val (.int (0 : Int32)), .val (.long (own_mix ((0 : Int64) + (-7046029254386353131 : Int64)))), .second, .val (.long (own_mix (((0 : Int64) + (-7046029254386353131 : Int64)) + (-7046029254386353131 : Int64)))), .second, .val (.long (own_fc (own_fb (own_fc (-3750763034362895579 : Int64) ca) (0 : Int32)) cb)), .second, .val (.long (own_key q1 ca cb)), .second, .val (.long (0 : Int64)), .second, .val (.long (own_mix ((0 : Int64) + (-7046029254386353131 : Int64)))), .second, .unset, .unset] [(.long (-7046029254386353131 : Int64)), (.long ((0 : Int64) + (-7046029254386353131 : Int64)))])) _
      refine XS.ladd X374.here hx rfl (hb hby at_166) rfl ?_
      exact kt
    clear R373 st374
    obtain ⟨_, _, ⟨T376, L376, k376, n376⟩, -, X376, ⟨Lc376, hQ376, l376, y376, z376⟩, st376⟩ := Jvm.LawKit.callS X374 hx (y := (⟨"com/example/loadloom/loadloom/DrawsNextPinLaw", "mix", "(J)J"⟩ : MethodName)) hown (mvT hZ (hw _ (List.mem_of_getElem? (i := 109) rfl))) (mvT hZ (hw _ (List.mem_of_getElem? (i := 110) rfl))) (mvT hZ (hw _ (List.mem_of_getElem? (i := 103) rfl))) (mvT hZ (hw _ (List.mem_of_getElem? (i := 111) rfl))) (by decide) (backOf (W := 0) (rm_mixL l Z a0 hw [] (((0 : Int64) + (-7046029254386353131 : Int64)) + (-7046029254386353131 : Int64)) T359.heap n0 Zs360) hZ (hw _ (List.mem_of_getElem? (i := 111) rfl)) (hw _ (List.mem_of_getElem? (i := 103) rfl)) (by decide) (by decide)) (g := (mkF m 167 #[.val (.long q1), .second, .val (.long q2), .second, .val (.int p3), .val (.int p4), .val (.int p5), .val (.int ca), .val (.int cb), .val (.ref s2), .val (.ref s3), .val (.ref ob), .val (.int (0 : Int32)), .val (.long (own_mix ((0 : Int64) + (-7046029254386353131 : Int64)))), .second, .val (.long (own_mix (((0 : Int64) + (-7046029254386353131 : Int64)) + (-7046029254386353131 : Int64)))), .second, .val (.long (own_fc (own_fb (own_fc (-3750763034362895579 : Int64) ca) (0 : Int32)) cb)), .second, .val (.long (own_key q1 ca cb)), .second, .val (.long (0 : Int64)), .second, .val (.long (own_mix ((0 : Int64) + (-7046029254386353131 : Int64)))), .second, .unset, .unset] [(.long (((0 : Int64) + (-7046029254386353131 : Int64)) + (-7046029254386353131 : Int64)))])) rfl (by rw [hml]; rfl) (argsL := [(.long (((0 : Int64) + (-7046029254386353131 : Int64)) + (-7046029254386353131 : Int64)))]) (rest := []) (lenOf pd_13 rfl) rfl (by show 2 * 0 + _ ≤ _; exact Nat.le_of_eq rfl) (hb hby at_167) (fun _ _ => ⟨rfl, hh374, (by decide : 9 + 0 ≤ _), (by decide : 22 + 0 ≤ _)⟩)
    dsimp only [Pt.U, Pt.locs, Pt.cells, Pt.slots] at X376 l376 y376 z376 st376 hQ376
    rw [l376, y376, z376] at X376
    obtain ⟨rfl, N376q, hh376⟩ := hQ376
    have N376 := Fr.app N374 N376q
    have R377 : ∀ tg, Steps p.tables e below (T376.setTop (mkF m 193 #[.val (.long q1), .second, .val (.long q2), .second, .val (.int p3), .val (.int p4), .val (.int p5), .val (.int ca), .val (.int cb), .val (.ref s2), .val (.ref s3), .val (.ref ob), .val (.int (0 : Int32)), .val (.long (own_mix ((0 : Int64) + (-7046029254386353131 : Int64)))), .second, .val (.long (own_mix (((0 : Int64) + (-7046029254386353131 : Int64)) + (-7046029254386353131 : Int64)))), .second, .val (.long (own_fc (own_fb (own_fc (-3750763034362895579 : Int64) ca) (0 : Int32)) cb)), .second, .val (.long (own_key q1 ca cb)), .second, .val (.long (0 : Int64)), .second, .val (.long (own_mix ((0 : Int64) + (-7046029254386353131 : Int64)))), .second, .val (.long (own_mix (((0 : Int64) + (-7046029254386353131 : Int64)) + (-7046029254386353131 : Int64)))), .second] [(.int (1 : Int32))])) tg → Steps p.tables e below (s₁.setTop (mkF m 0 #[.val (.long q1), .second, .val (.long q2), .second, .val (.int p3), .val (.int p4), .val (.int p5), .unset, .unset, .unset, .unset, .unset, .unset, .unset, .unset, .unset, .unset, .unset, .unset, .unset, .unset, .unset, .unset, .unset, .unset, .unset, .unset] [])) tg := by
      intro tg kt
      refine R375 _ ?_
      refine st376 _ ?_
      show Steps p.tables e below (T376.setTop (mkF m 170 #[.val (.long q1), .second, .val (.long q2), .second, .val (.int p3), .val (.int p4), .val (.int p5), .val (.int ca), .val (.int cb), .val (.ref s2), .val (.ref s3), .val (.ref ob), .val (.int (0 : Int32)), .val (.long (own_mix ((0 : Int64) + (-7046029254386353131 : Int64)))), .second, .val (.long (own_mix (((0 : Int64) + (-7046029254386353131 : Int64)) + (-7046029254386353131 : Int64)))), .second, .val (.long (own_fc (own_fb (own_fc (-3750763034362895579 : Int64) ca) (0 : Int32)) cb)), .second, .val (.long (own_key q1 ca cb)), .second, .val (.long (0 : Int64)), .second, .val (.long (own_mix ((0 : Int64) + (-7046029254386353131 : Int64)))), .second, .unset, .unset] [(.long (own_mix (((0 : Int64) + (-7046029254386353131 : Int64)) + (-7046029254386353131 : Int64))))])) _
      refine XS.lstore X376.here hx rfl (hb hby at_170) rfl (l' := #[.val (.long q1), .second, .val (.long q2), .second, .val (.int p3), .val (.int p4), .val (.int p5), .val (.int ca), .val (.int cb), .val (.ref s2), .val (.ref s3), .val (.ref ob), .val (.int (0 : Int32)), .val (.long (own_mix ((0 : Int64) + (-7046029254386353131 : Int64)))), .second, .val (.long (own_mix (((0 : Int64) + (-7046029254386353131 : Int64)) + (-7046029254386353131 : Int64)))), .second, .val (.long (own_fc (own_fb (own_fc (-3750763034362895579 : Int64) ca) (0 : Int32)) cb)), .second, .val (.long (own_key q1 ca cb)), .second, .val (.long (0 : Int64)), .second, .val (.long (own_mix ((0 : Int64) + (-7046029254386353131 : Int64)))), .second, .val (.long (own_mix (((0 : Int64) + (-7046029254386353131 : Int64)) + (-7046029254386353131 : Int64)))), .second]) rfl ?_
      refine XS.lload X376.here hx rfl (hb hby at_172) rfl ?_
      refine XS.lload X376.here hx rfl (hb hby at_174) rfl ?_
      show Steps p.tables e below (T376.setTop (mkF m 176 #[.val (.long q1), .second, .val (.long q2), .second, .val (.int p3), .val (.int p4), .val (.int p5), .val (.int ca), .val (.int cb), .val (.ref s2), .val (.ref s3), .val (.ref ob), .val (.int (0 : Int32)), .val (.long (own_mix ((0 : Int64) + (-7046029254386353131 : Int64)))), .second, .val (.long (own_mix (((0 : Int64) + (-7046029254386353131 : Int64)) + (-7046029254386353131 : Int64)))), .second, .val (.long (own_fc (own_fb (own_fc (-3750763034362895579 : Int64) ca) (0 : Int32)) cb)), .second, .val (.long (own_key q1 ca cb)), .second, .val (.long (0 : Int64)), .second, .val (.long (own_mix ((0 : Int64) + (-7046029254386353131 : Int64)))), .second, .val (.long (own_mix (((0 : Int64) + (-7046029254386353131 : Int64)) + (-7046029254386353131 : Int64)))), .second] [(.long (own_mix ((0 : Int64) + (-7046029254386353131 : Int64)))), (.long (own_mix ((0 : Int64) + (-7046029254386353131 : Int64))))])) _
      refine XS.lcmp X376.here hx rfl (hb hby at_176) rfl ?_
      show Steps p.tables e below (T376.setTop (mkF m 177 #[.val (.long q1), .second, .val (.long q2), .second, .val (.int p3), .val (.int p4), .val (.int p5), .val (.int ca), .val (.int cb), .val (.ref s2), .val (.ref s3), .val (.ref ob), .val (.int (0 : Int32)), .val (.long (own_mix ((0 : Int64) + (-7046029254386353131 : Int64)))), .second, .val (.long (own_mix (((0 : Int64) + (-7046029254386353131 : Int64)) + (-7046029254386353131 : Int64)))), .second, .val (.long (own_fc (own_fb (own_fc (-3750763034362895579 : Int64) ca) (0 : Int32)) cb)), .second, .val (.long (own_key q1 ca cb)), .second, .val (.long (0 : Int64)), .second, .val (.long (own_mix ((0 : Int64) + (-7046029254386353131 : Int64)))), .second, .val (.long (own_mix (((0 : Int64) + (-7046029254386353131 : Int64)) + (-7046029254386353131 : Int64)))), .second] [(.int (lcmpW (own_mix ((0 : Int64) + (-7046029254386353131 : Int64))) (own_mix ((0 : Int64) + (-7046029254386353131 : Int64)))))])) _
      refine XS.ifNo X376.here hx rfl (hb hby at_177) rfl ((if0 _ _).trans (teq ((lw_eq _ _).mpr rfl : (lcmpW (own_mix ((0 : Int64) + (-7046029254386353131 : Int64))) (own_mix ((0 : Int64) + (-7046029254386353131 : Int64)))) = (0 : Int32))).2) ?_
      refine XS.lload X376.here hx rfl (hb hby at_180) rfl ?_
      refine XS.lload X376.here hx rfl (hb hby at_182) rfl ?_
      show Steps p.tables e below (T376.setTop (mkF m 184 #[.val (.long q1), .second, .val (.long q2), .second, .val (.int p3), .val (.int p4), .val (.int p5), .val (.int ca), .val (.int cb), .val (.ref s2), .val (.ref s3), .val (.ref ob), .val (.int (0 : Int32)), .val (.long (own_mix ((0 : Int64) + (-7046029254386353131 : Int64)))), .second, .val (.long (own_mix (((0 : Int64) + (-7046029254386353131 : Int64)) + (-7046029254386353131 : Int64)))), .second, .val (.long (own_fc (own_fb (own_fc (-3750763034362895579 : Int64) ca) (0 : Int32)) cb)), .second, .val (.long (own_key q1 ca cb)), .second, .val (.long (0 : Int64)), .second, .val (.long (own_mix ((0 : Int64) + (-7046029254386353131 : Int64)))), .second, .val (.long (own_mix (((0 : Int64) + (-7046029254386353131 : Int64)) + (-7046029254386353131 : Int64)))), .second] [(.long (own_mix (((0 : Int64) + (-7046029254386353131 : Int64)) + (-7046029254386353131 : Int64)))), (.long (own_mix (((0 : Int64) + (-7046029254386353131 : Int64)) + (-7046029254386353131 : Int64))))])) _
      refine XS.lcmp X376.here hx rfl (hb hby at_184) rfl ?_
      show Steps p.tables e below (T376.setTop (mkF m 185 #[.val (.long q1), .second, .val (.long q2), .second, .val (.int p3), .val (.int p4), .val (.int p5), .val (.int ca), .val (.int cb), .val (.ref s2), .val (.ref s3), .val (.ref ob), .val (.int (0 : Int32)), .val (.long (own_mix ((0 : Int64) + (-7046029254386353131 : Int64)))), .second, .val (.long (own_mix (((0 : Int64) + (-7046029254386353131 : Int64)) + (-7046029254386353131 : Int64)))), .second, .val (.long (own_fc (own_fb (own_fc (-3750763034362895579 : Int64) ca) (0 : Int32)) cb)), .second, .val (.long (own_key q1 ca cb)), .second, .val (.long (0 : Int64)), .second, .val (.long (own_mix ((0 : Int64) + (-7046029254386353131 : Int64)))), .second, .val (.long (own_mix (((0 : Int64) + (-7046029254386353131 : Int64)) + (-7046029254386353131 : Int64)))), .second] [(.int (lcmpW (own_mix (((0 : Int64) + (-7046029254386353131 : Int64)) + (-7046029254386353131 : Int64))) (own_mix (((0 : Int64) + (-7046029254386353131 : Int64)) + (-7046029254386353131 : Int64)))))])) _
      refine XS.ifNo X376.here hx rfl (hb hby at_185) rfl ((if0 _ _).trans (teq ((lw_eq _ _).mpr rfl : (lcmpW (own_mix (((0 : Int64) + (-7046029254386353131 : Int64)) + (-7046029254386353131 : Int64))) (own_mix (((0 : Int64) + (-7046029254386353131 : Int64)) + (-7046029254386353131 : Int64)))) = (0 : Int32))).2) ?_
      refine XS.iconst X376.here hx rfl (hb hby at_188) ?_
      show Steps p.tables e below (T376.setTop (mkF m 189 #[.val (.long q1), .second, .val (.long q2), .second, .val (.int p3), .val (.int p4), .val (.int p5), .val (.int ca), .val (.int cb), .val (.ref s2), .val (.ref s3), .val (.ref ob), .val (.int (0 : Int32)), .val (.long (own_mix ((0 : Int64) + (-7046029254386353131 : Int64)))), .second, .val (.long (own_mix (((0 : Int64) + (-7046029254386353131 : Int64)) + (-7046029254386353131 : Int64)))), .second, .val (.long (own_fc (own_fb (own_fc (-3750763034362895579 : Int64) ca) (0 : Int32)) cb)), .second, .val (.long (own_key q1 ca cb)), .second, .val (.long (0 : Int64)), .second, .val (.long (own_mix ((0 : Int64) + (-7046029254386353131 : Int64)))), .second, .val (.long (own_mix (((0 : Int64) + (-7046029254386353131 : Int64)) + (-7046029254386353131 : Int64)))), .second] [(.int (1 : Int32))])) _
      refine XS.goto X376.here hx rfl (pc0 := 189) (pc' := 193) rfl (hb hby at_189) (by decide) (by decide) ?_
      exact kt
    clear R375 st376
    obtain ⟨fs, hr, hrun, hended, hW, hsame⟩ := X376.leave (v := some (.int (1 : Int32))) (fun h => by rw [Bd.returns] at h; cases h)
    refine ⟨_, _, pre0 _ (R377 _ ?_), hrun, hended, _, _, rfl, ?_, ⟨_, rfl⟩, hW, hsame.mono (by decide) (by decide)⟩
    · exact retN X376 hx (t := .boolean) Bd.returns (by simp) (hb hby at_193) hr
    · show Q_rm_law Z q1 q2 p3 p4 p5 uu cs sw gw h0 n0 _ T376.heap _
      rw [hh376]
      exact ⟨rfl, N376⟩
  · have R378 : ∀ tg, Steps p.tables e below (T352.setTop (mkF m 68 #[.val (.long q1), .second, .val (.long q2), .second, .val (.int p3), .val (.int p4), .val (.int p5), .val (.int ca), .val (.int cb), .val (.ref s2), .val (.ref s3), .val (.ref ob), .val (.int (1 : Int32)), .unset, .unset, .unset, .unset, .unset, .unset, .unset, .unset, .unset, .unset, .unset, .unset, .unset, .unset] [(.long q2), (.ref ob)])) tg → Steps p.tables e below (s₁.setTop (mkF m 0 #[.val (.long q1), .second, .val (.long q2), .second, .val (.int p3), .val (.int p4), .val (.int p5), .unset, .unset, .unset, .unset, .unset, .unset, .unset, .unset, .unset, .unset, .unset, .unset, .unset, .unset, .unset, .unset, .unset, .unset, .unset, .unset] [])) tg := by
      intro tg kt
      refine R354 _ ?_
      show Steps p.tables e below (T352.setTop (mkF m 50 #[.val (.long q1), .second, .val (.long q2), .second, .val (.int p3), .val (.int p4), .val (.int p5), .val (.int ca), .val (.int cb), .val (.ref s2), .val (.ref s3), .val (.ref ob), .unset, .unset, .unset, .unset, .unset, .unset, .unset, .unset, .unset, .unset, .unset, .unset, .unset, .unset, .unset] [(.int (p5 &&& (1 : Int32)))])) _
      refine XS.ifNo X352.here hx rfl (hb hby at_50) rfl ((if0 _ _).trans (feq (hst : ¬ ((p5 &&& (1 : Int32)) = (0 : Int32)))).1) ?_
      refine XS.iconst X352.here hx rfl (hb hby at_53) ?_
      show Steps p.tables e below (T352.setTop (mkF m 54 #[.val (.long q1), .second, .val (.long q2), .second, .val (.int p3), .val (.int p4), .val (.int p5), .val (.int ca), .val (.int cb), .val (.ref s2), .val (.ref s3), .val (.ref ob), .unset, .unset, .unset, .unset, .unset, .unset, .unset, .unset, .unset, .unset, .unset, .unset, .unset, .unset, .unset] [(.int (1 : Int32))])) _
      refine XS.goto X352.here hx rfl (pc0 := 54) (pc' := 58) rfl (hb hby at_54) (by decide) (by decide) ?_
      show Steps p.tables e below (T352.setTop (mkF m 58 #[.val (.long q1), .second, .val (.long q2), .second, .val (.int p3), .val (.int p4), .val (.int p5), .val (.int ca), .val (.int cb), .val (.ref s2), .val (.ref s3), .val (.ref ob), .unset, .unset, .unset, .unset, .unset, .unset, .unset, .unset, .unset, .unset, .unset, .unset, .unset, .unset, .unset] [(.int (1 : Int32))])) _
      refine XS.istore X352.here hx rfl (hb hby at_58) rfl (l' := #[.val (.long q1), .second, .val (.long q2), .second, .val (.int p3), .val (.int p4), .val (.int p5), .val (.int ca), .val (.int cb), .val (.ref s2), .val (.ref s3), .val (.ref ob), .val (.int (1 : Int32)), .unset, .unset, .unset, .unset, .unset, .unset, .unset, .unset, .unset, .unset, .unset, .unset, .unset, .unset]) rfl ?_
      refine XS.iload X352.here hx rfl (hb hby at_60) rfl ?_
      show Steps p.tables e below (T352.setTop (mkF m 62 #[.val (.long q1), .second, .val (.long q2), .second, .val (.int p3), .val (.int p4), .val (.int p5), .val (.int ca), .val (.int cb), .val (.ref s2), .val (.ref s3), .val (.ref ob), .val (.int (1 : Int32)), .unset, .unset, .unset, .unset, .unset, .unset, .unset, .unset, .unset, .unset, .unset, .unset, .unset, .unset] [(.int (1 : Int32))])) _
      refine XS.ifNo X352.here hx rfl (hb hby at_62) rfl ((if0 _ _).trans (feq (by decide : ¬ ((1 : Int32) = (0 : Int32)))).1) ?_
      refine XS.aload X352.here hx rfl (hb hby at_65) rfl rfl ?_
      refine XS.lloadN X352.here hx rfl (hb hby at_67) rfl ?_
      exact kt
    clear R354
    obtain ⟨cq379, kq379, q379a, q379b, q379c⟩ := isOf hZ rfl Ea
    obtain ⟨_, _, ⟨T379, L379, k379, n379⟩, -, X379, ⟨Lc379, hQ379, l379, y379, z379⟩, st379⟩ := X352.virtualBack hx (y := (⟨"com/example/loadloom/loadloom/Draws", "startRow", "(J)V"⟩ : MethodName)) (z := (⟨"com/example/loadloom/loadloom/Draws", "startRow", "(J)V"⟩ : MethodName)) hown (mvT hZ (hw _ (List.mem_of_getElem? (i := 115) rfl))) (mvT hZ (hw _ (List.mem_of_getElem? (i := 116) rfl))) (notFace_of_selects (args := #[]) (mvT hZ (hw _ (List.mem_of_getElem? (i := 118) rfl)))) (mvT hZ (hw _ (List.mem_of_getElem? (i := 118) rfl))) (mvT hZ (hw _ (List.mem_of_getElem? (i := 117) rfl))) (by decide) (backOf (W := 0) (rm_row l Z a0 hw [] ob q2 (own_key q1 ca cb) (0 : Int64) T352.heap n0 Zs353 Ea Fka Fsa g_ob) hZ (hw _ (List.mem_of_getElem? (i := 119) rfl)) (hw _ (List.mem_of_getElem? (i := 28) rfl)) (by decide) (by decide)) q379a q379c (g := (mkF m 68 #[.val (.long q1), .second, .val (.long q2), .second, .val (.int p3), .val (.int p4), .val (.int p5), .val (.int ca), .val (.int cb), .val (.ref s2), .val (.ref s3), .val (.ref ob), .val (.int (1 : Int32)), .unset, .unset, .unset, .unset, .unset, .unset, .unset, .unset, .unset, .unset, .unset, .unset, .unset, .unset] [(.long q2), (.ref ob)])) rfl (by rw [hml]; rfl) (Steps.refl _) (argsL := [(.long q2)]) (rest := []) (lenOf pd_20 rfl) rfl (by show 2 * 0 + _ ≤ _; exact Nat.le_of_eq rfl) (hb hby at_68) (fun _ _ => ⟨rfl, rfl, (by decide : 9 + 0 ≤ _), (by decide : 22 + 0 ≤ _)⟩)
    dsimp only [Pt.U, Pt.locs, Pt.cells, Pt.slots] at X379 l379 y379 z379 st379 hQ379
    rw [l379, y379, z379] at X379
    obtain ⟨rfl, N379q, K379, Ea379, Fka379, Fsa379⟩ := hQ379
    have N379 := Fr.app N352 N379q
    have Zs380 : n0 ≤ T379.heap.size := Nat.le_trans Zs353 K379.1
    have R381 : ∀ tg, Steps p.tables e below (T379.setTop (mkF m 73 #[.val (.long q1), .second, .val (.long q2), .second, .val (.int p3), .val (.int p4), .val (.int p5), .val (.int ca), .val (.int cb), .val (.ref s2), .val (.ref s3), .val (.ref ob), .val (.int (1 : Int32)), .unset, .unset, .unset, .unset, .unset, .unset, .unset, .unset, .unset, .unset, .unset, .unset, .unset, .unset] [(.ref ob)])) tg → Steps p.tables e below (s₁.setTop (mkF m 0 #[.val (.long q1), .second, .val (.long q2), .second, .val (.int p3), .val (.int p4), .val (.int p5), .unset, .unset, .unset, .unset, .unset, .unset, .unset, .unset, .unset, .unset, .unset, .unset, .unset, .unset, .unset, .unset, .unset, .unset, .unset, .unset] [])) tg := by
      intro tg kt
      refine R378 _ ?_
      refine st379.trans ?_
      show Steps p.tables e below (T379.setTop (mkF m 71 #[.val (.long q1), .second, .val (.long q2), .second, .val (.int p3), .val (.int p4), .val (.int p5), .val (.int ca), .val (.int cb), .val (.ref s2), .val (.ref s3), .val (.ref ob), .val (.int (1 : Int32)), .unset, .unset, .unset, .unset, .unset, .unset, .unset, .unset, .unset, .unset, .unset, .unset, .unset, .unset] [])) _
      refine XS.aload X379.here hx rfl (hb hby at_71) rfl rfl ?_
      exact kt
    clear R378 st379
    obtain ⟨cq382, kq382, q382a, q382b, q382c⟩ := isOf hZ rfl Ea379
    obtain ⟨_, _, ⟨T382, L382, k382, n382⟩, -, X382, ⟨Lc382, hQ382, l382, y382, z382⟩, st382⟩ := X379.virtualBack hx (y := (⟨"com/example/loadloom/loadloom/Draws", "next", "()J"⟩ : MethodName)) (z := (⟨"com/example/loadloom/loadloom/Draws", "next", "()J"⟩ : MethodName)) hown (mvT hZ (hw _ (List.mem_of_getElem? (i := 95) rfl))) (mvT hZ (hw _ (List.mem_of_getElem? (i := 96) rfl))) (notFace_of_selects (args := #[]) (mvT hZ (hw _ (List.mem_of_getElem? (i := 98) rfl)))) (mvT hZ (hw _ (List.mem_of_getElem? (i := 98) rfl))) (mvT hZ (hw _ (List.mem_of_getElem? (i := 97) rfl))) (by decide) (backOf (W := 0) (rm_next l Z a0 hw [] ob (own_key q1 ca cb) (own_mix ((own_key q1 ca cb) + (q2 * (-7046029254386353131 : Int64)))) T379.heap n0 Zs380 Ea379 Fka379 Fsa379 g_ob) hZ (hw _ (List.mem_of_getElem? (i := 99) rfl)) (hw _ (List.mem_of_getElem? (i := 28) rfl)) (by decide) (by decide)) q382a q382c (g := (mkF m 73 #[.val (.long q1), .second, .val (.long q2), .second, .val (.int p3), .val (.int p4), .val (.int p5), .val (.int ca), .val (.int cb), .val (.ref s2), .val (.ref s3), .val (.ref ob), .val (.int (1 : Int32)), .unset, .unset, .unset, .unset, .unset, .unset, .unset, .unset, .unset, .unset, .unset, .unset, .unset, .unset] [(.ref ob)])) rfl (by rw [hml]; rfl) (Steps.refl _) (argsL := []) (rest := []) (lenOf pd_18 rfl) rfl (by show 2 * 0 + _ ≤ _; exact Nat.le_of_eq rfl) (hb hby at_73) (fun _ _ => ⟨rfl, rfl, (by decide : 9 + 0 ≤ _), (by decide : 22 + 0 ≤ _)⟩)
    dsimp only [Pt.U, Pt.locs, Pt.cells, Pt.slots] at X382 l382 y382 z382 st382 hQ382
    rw [l382, y382, z382] at X382
    obtain ⟨rfl, N382q, K382, Ea382, Fka382, Fsa382⟩ := hQ382
    have N382 := Fr.app N379 N382q
    have Zs383 : n0 ≤ T382.heap.size := Nat.le_trans Zs380 K382.1
    have R384 : ∀ tg, Steps p.tables e below (T382.setTop (mkF m 80 #[.val (.long q1), .second, .val (.long q2), .second, .val (.int p3), .val (.int p4), .val (.int p5), .val (.int ca), .val (.int cb), .val (.ref s2), .val (.ref s3), .val (.ref ob), .val (.int (1 : Int32)), .val (.long (own_mix ((own_mix ((own_key q1 ca cb) + (q2 * (-7046029254386353131 : Int64)))) + (-7046029254386353131 : Int64)))), .second, .unset, .unset, .unset, .unset, .unset, .unset, .unset, .unset, .unset, .unset, .unset, .unset] [(.ref ob)])) tg → Steps p.tables e below (s₁.setTop (mkF m 0 #[.val (.long q1), .second, .val (.long q2), .second, .val (.int p3), .val (.int p4), .val (.int p5), .unset, .unset, .unset, .unset, .unset, .unset, .unset, .unset, .unset, .unset, .unset, .unset, .unset, .unset, .unset, .unset, .unset, .unset, .unset, .unset] [])) tg := by
      intro tg kt
      refine R381 _ ?_
      refine st382.trans ?_
      show Steps p.tables e below (T382.setTop (mkF m 76 #[.val (.long q1), .second, .val (.long q2), .second, .val (.int p3), .val (.int p4), .val (.int p5), .val (.int ca), .val (.int cb), .val (.ref s2), .val (.ref s3), .val (.ref ob), .val (.int (1 : Int32)), .unset, .unset, .unset, .unset, .unset, .unset, .unset, .unset, .unset, .unset, .unset, .unset, .unset, .unset] [(.long (own_mix ((own_mix ((own_key q1 ca cb) + (q2 * (-7046029254386353131 : Int64)))) + (-7046029254386353131 : Int64))))])) _
      refine XS.lstore X382.here hx rfl (hb hby at_76) rfl (l' := #[.val (.long q1), .second, .val (.long q2), .second, .val (.int p3), .val (.int p4), .val (.int p5), .val (.int ca), .val (.int cb), .val (.ref s2), .val (.ref s3), .val (.ref ob), .val (.int (1 : Int32)), .val (.long (own_mix ((own_mix ((own_key q1 ca cb) + (q2 * (-7046029254386353131 : Int64)))) + (-7046029254386353131 : Int64)))), .second, .unset, .unset, .unset, .unset, .unset, .unset, .unset, .unset, .unset, .unset, .unset, .unset]) rfl ?_
      refine XS.aload X382.here hx rfl (hb hby at_78) rfl rfl ?_
      exact kt
    clear R381 st382
    obtain ⟨cq385, kq385, q385a, q385b, q385c⟩ := isOf hZ rfl Ea382
    obtain ⟨_, _, ⟨T385, L385, k385, n385⟩, -, X385, ⟨Lc385, hQ385, l385, y385, z385⟩, st385⟩ := X382.virtualBack hx (y := (⟨"com/example/loadloom/loadloom/Draws", "next", "()J"⟩ : MethodName)) (z := (⟨"com/example/loadloom/loadloom/Draws", "next", "()J"⟩ : MethodName)) hown (mvT hZ (hw _ (List.mem_of_getElem? (i := 95) rfl))) (mvT hZ (hw _ (List.mem_of_getElem? (i := 96) rfl))) (notFace_of_selects (args := #[]) (mvT hZ (hw _ (List.mem_of_getElem? (i := 98) rfl)))) (mvT hZ (hw _ (List.mem_of_getElem? (i := 98) rfl))) (mvT hZ (hw _ (List.mem_of_getElem? (i := 97) rfl))) (by decide) (backOf (W := 0) (rm_next l Z a0 hw [] ob (own_key q1 ca cb) ((own_mix ((own_key q1 ca cb) + (q2 * (-7046029254386353131 : Int64)))) + (-7046029254386353131 : Int64)) T382.heap n0 Zs383 Ea382 Fka382 Fsa382 g_ob) hZ (hw _ (List.mem_of_getElem? (i := 99) rfl)) (hw _ (List.mem_of_getElem? (i := 28) rfl)) (by decide) (by decide)) q385a q385c (g := (mkF m 80 #[.val (.long q1), .second, .val (.long q2), .second, .val (.int p3), .val (.int p4), .val (.int p5), .val (.int ca), .val (.int cb), .val (.ref s2), .val (.ref s3), .val (.ref ob), .val (.int (1 : Int32)), .val (.long (own_mix ((own_mix ((own_key q1 ca cb) + (q2 * (-7046029254386353131 : Int64)))) + (-7046029254386353131 : Int64)))), .second, .unset, .unset, .unset, .unset, .unset, .unset, .unset, .unset, .unset, .unset, .unset, .unset] [(.ref ob)])) rfl (by rw [hml]; rfl) (Steps.refl _) (argsL := []) (rest := []) (lenOf pd_18 rfl) rfl (by show 2 * 0 + _ ≤ _; exact Nat.le_of_eq rfl) (hb hby at_80) (fun _ _ => ⟨rfl, rfl, (by decide : 9 + 0 ≤ _), (by decide : 22 + 0 ≤ _)⟩)
    dsimp only [Pt.U, Pt.locs, Pt.cells, Pt.slots] at X385 l385 y385 z385 st385 hQ385
    rw [l385, y385, z385] at X385
    obtain ⟨rfl, N385q, K385, Ea385, Fka385, Fsa385⟩ := hQ385
    have N385 := Fr.app N382 N385q
    have Zs386 : n0 ≤ T385.heap.size := Nat.le_trans Zs383 K385.1
    have R387 : ∀ tg, Steps p.tables e below (T385.setTop (mkF m 90 #[.val (.long q1), .second, .val (.long q2), .second, .val (.int p3), .val (.int p4), .val (.int p5), .val (.int ca), .val (.int cb), .val (.ref s2), .val (.ref s3), .val (.ref ob), .val (.int (1 : Int32)), .val (.long (own_mix ((own_mix ((own_key q1 ca cb) + (q2 * (-7046029254386353131 : Int64)))) + (-7046029254386353131 : Int64)))), .second, .val (.long (own_mix (((own_mix ((own_key q1 ca cb) + (q2 * (-7046029254386353131 : Int64)))) + (-7046029254386353131 : Int64)) + (-7046029254386353131 : Int64)))), .second, .unset, .unset, .unset, .unset, .unset, .unset, .unset, .unset, .unset, .unset] [(.int ca), (.long (-3750763034362895579 : Int64))])) tg → Steps p.tables e below (s₁.setTop (mkF m 0 #[.val (.long q1), .second, .val (.long q2), .second, .val (.int p3), .val (.int p4), .val (.int p5), .unset, .unset, .unset, .unset, .unset, .unset, .unset, .unset, .unset, .unset, .unset, .unset, .unset, .unset, .unset, .unset, .unset, .unset, .unset, .unset] [])) tg := by
      intro tg kt
      refine R384 _ ?_
      refine st385.trans ?_
      show Steps p.tables e below (T385.setTop (mkF m 83 #[.val (.long q1), .second, .val (.long q2), .second, .val (.int p3), .val (.int p4), .val (.int p5), .val (.int ca), .val (.int cb), .val (.ref s2), .val (.ref s3), .val (.ref ob), .val (.int (1 : Int32)), .val (.long (own_mix ((own_mix ((own_key q1 ca cb) + (q2 * (-7046029254386353131 : Int64)))) + (-7046029254386353131 : Int64)))), .second, .unset, .unset, .unset, .unset, .unset, .unset, .unset, .unset, .unset, .unset, .unset, .unset] [(.long (own_mix (((own_mix ((own_key q1 ca cb) + (q2 * (-7046029254386353131 : Int64)))) + (-7046029254386353131 : Int64)) + (-7046029254386353131 : Int64))))])) _
      refine XS.lstore X385.here hx rfl (hb hby at_83) rfl (l' := #[.val (.long q1), .second, .val (.long q2), .second, .val (.int p3), .val (.int p4), .val (.int p5), .val (.int ca), .val (.int cb), .val (.ref s2), .val (.ref s3), .val (.ref ob), .val (.int (1 : Int32)), .val (.long (own_mix ((own_mix ((own_key q1 ca cb) + (q2 * (-7046029254386353131 : Int64)))) + (-7046029254386353131 : Int64)))), .second, .val (.long (own_mix (((own_mix ((own_key q1 ca cb) + (q2 * (-7046029254386353131 : Int64)))) + (-7046029254386353131 : Int64)) + (-7046029254386353131 : Int64)))), .second, .unset, .unset, .unset, .unset, .unset, .unset, .unset, .unset, .unset, .unset]) rfl ?_
      show Steps p.tables e below (T385.setTop (mkF m 85 #[.val (.long q1), .second, .val (.long q2), .second, .val (.int p3), .val (.int p4), .val (.int p5), .val (.int ca), .val (.int cb), .val (.ref s2), .val (.ref s3), .val (.ref ob), .val (.int (1 : Int32)), .val (.long (own_mix ((own_mix ((own_key q1 ca cb) + (q2 * (-7046029254386353131 : Int64)))) + (-7046029254386353131 : Int64)))), .second, .val (.long (own_mix (((own_mix ((own_key q1 ca cb) + (q2 * (-7046029254386353131 : Int64)))) + (-7046029254386353131 : Int64)) + (-7046029254386353131 : Int64)))), .second, .unset, .unset, .unset, .unset, .unset, .unset, .unset, .unset, .unset, .unset] [])) _
      refine X385.ldc2Long hx hown (mvT hZ (hw _ (List.mem_of_getElem? (i := 100) rfl))) (g := (mkF m 85 #[.val (.long q1), .second, .val (.long q2), .second, .val (.int p3), .val (.int p4), .val (.int p5), .val (.int ca), .val (.int cb), .val (.ref s2), .val (.ref s3), .val (.ref ob), .val (.int (1 : Int32)), .val (.long (own_mix ((own_mix ((own_key q1 ca cb) + (q2 * (-7046029254386353131 : Int64)))) + (-7046029254386353131 : Int64)))), .second, .val (.long (own_mix (((own_mix ((own_key q1 ca cb) + (q2 * (-7046029254386353131 : Int64)))) + (-7046029254386353131 : Int64)) + (-7046029254386353131 : Int64)))), .second, .unset, .unset, .unset, .unset, .unset, .unset, .unset, .unset, .unset, .unset] [])) rfl (hb hby at_85) _ ?_
      refine XS.iload X385.here hx rfl (hb hby at_88) rfl ?_
      exact kt
    clear R384 st385
    obtain ⟨_, _, ⟨T388, L388, k388, n388⟩, -, X388, ⟨Lc388, hQ388, l388, y388, z388⟩, st388⟩ := Jvm.LawKit.callS X385 hx (y := (⟨"com/example/loadloom/loadloom/DrawsNextPinLaw", "fnvChar", "(JC)J"⟩ : MethodName)) hown (mvT hZ (hw _ (List.mem_of_getElem? (i := 101) rfl))) (mvT hZ (hw _ (List.mem_of_getElem? (i := 102) rfl))) (mvT hZ (hw _ (List.mem_of_getElem? (i := 103) rfl))) (mvT hZ (hw _ (List.mem_of_getElem? (i := 104) rfl))) (by decide) (backOf (W := 0) (rm_fc l Z a0 hw [] (-3750763034362895579 : Int64) ca T385.heap n0 Zs386) hZ (hw _ (List.mem_of_getElem? (i := 104) rfl)) (hw _ (List.mem_of_getElem? (i := 103) rfl)) (by decide) (by decide)) (g := (mkF m 90 #[.val (.long q1), .second, .val (.long q2), .second, .val (.int p3), .val (.int p4), .val (.int p5), .val (.int ca), .val (.int cb), .val (.ref s2), .val (.ref s3), .val (.ref ob), .val (.int (1 : Int32)), .val (.long (own_mix ((own_mix ((own_key q1 ca cb) + (q2 * (-7046029254386353131 : Int64)))) + (-7046029254386353131 : Int64)))), .second, .val (.long (own_mix (((own_mix ((own_key q1 ca cb) + (q2 * (-7046029254386353131 : Int64)))) + (-7046029254386353131 : Int64)) + (-7046029254386353131 : Int64)))), .second, .unset, .unset, .unset, .unset, .unset, .unset, .unset, .unset, .unset, .unset] [(.int ca), (.long (-3750763034362895579 : Int64))])) rfl (by rw [hml]; rfl) (argsL := [(.long (-3750763034362895579 : Int64)), (.int ca)]) (rest := []) (lenOf pd_19 rfl) rfl (by show 2 * 0 + _ ≤ _; exact Nat.le_of_eq rfl) (hb hby at_90) (fun _ _ => ⟨rfl, rfl, (by decide : 9 + 0 ≤ _), (by decide : 22 + 0 ≤ _)⟩)
    dsimp only [Pt.U, Pt.locs, Pt.cells, Pt.slots] at X388 l388 y388 z388 st388 hQ388
    rw [l388, y388, z388] at X388
    obtain ⟨rfl, N388q, hh388⟩ := hQ388
    have N388 := Fr.app N385 N388q
    have R389 : ∀ tg, Steps p.tables e below (T388.setTop (mkF m 98 #[.val (.long q1), .second, .val (.long q2), .second, .val (.int p3), .val (.int p4), .val (.int p5), .val (.int ca), .val (.int cb), .val (.ref s2), .val (.ref s3), .val (.ref ob), .val (.int (1 : Int32)), .val (.long (own_mix ((own_mix ((own_key q1 ca cb) + (q2 * (-7046029254386353131 : Int64)))) + (-7046029254386353131 : Int64)))), .second, .val (.long (own_mix (((own_mix ((own_key q1 ca cb) + (q2 * (-7046029254386353131 : Int64)))) + (-7046029254386353131 : Int64)) + (-7046029254386353131 : Int64)))), .second, .val (.long (own_fc (-3750763034362895579 : Int64) ca)), .second, .unset, .unset, .unset, .unset, .unset, .unset, .unset, .unset] [(.int (0 : Int32)), (.long (own_fc (-3750763034362895579 : Int64) ca))])) tg → Steps p.tables e below (s₁.setTop (mkF m 0 #[.val (.long q1), .second, .val (.long q2), .second, .val (.int p3), .val (.int p4), .val (.int p5), .unset, .unset, .unset, .unset, .unset, .unset, .unset, .unset, .unset, .unset, .unset, .unset, .unset, .unset, .unset, .unset, .unset, .unset, .unset, .unset] [])) tg := by
      intro tg kt
      refine R387 _ ?_
      refine st388 _ ?_
      show Steps p.tables e below (T388.setTop (mkF m 93 #[.val (.long q1), .second, .val (.long q2), .second, .val (.int p3), .val (.int p4), .val (.int p5), .val (.int ca), .val (.int cb), .val (.ref s2), .val (.ref s3), .val (.ref ob), .val (.int (1 : Int32)), .val (.long (own_mix ((own_mix ((own_key q1 ca cb) + (q2 * (-7046029254386353131 : Int64)))) + (-7046029254386353131 : Int64)))), .second, .val (.long (own_mix (((own_mix ((own_key q1 ca cb) + (q2 * (-7046029254386353131 : Int64)))) + (-7046029254386353131 : Int64)) + (-7046029254386353131 : Int64)))), .second, .unset, .unset, .unset, .unset, .unset, .unset, .unset, .unset, .unset, .unset] [(.long (own_fc (-3750763034362895579 : Int64) ca))])) _
      refine XS.lstore X388.here hx rfl (hb hby at_93) rfl (l' := #[.val (.long q1), .second, .val (.long q2), .second, .val (.int p3), .val (.int p4), .val (.int p5), .val (.int ca), .val (.int cb), .val (.ref s2), .val (.ref s3), .val (.ref ob), .val (.int (1 : Int32)), .val (.long (own_mix ((own_mix ((own_key q1 ca cb) + (q2 * (-7046029254386353131 : Int64)))) + (-7046029254386353131 : Int64)))), .second, .val (.long (own_mix (((own_mix ((own_key q1 ca cb) + (q2 * (-7046029254386353131 : Int64)))) + (-7046029254386353131 : Int64)) + (-7046029254386353131 : Int64)))), .second, .val (.long (own_fc (-3750763034362895579 : Int64) ca)), .second, .unset, .unset, .unset, .unset, .unset, .unset, .unset, .unset]) rfl ?_
      refine XS.lload X388.here hx rfl (hb hby at_95) rfl ?_
      refine XS.iconst X388.here hx rfl (hb hby at_97) ?_
      exact kt
    clear R387 st388
    obtain ⟨_, _, ⟨T390, L390, k390, n390⟩, -, X390, ⟨Lc390, hQ390, l390, y390, z390⟩, st390⟩ := Jvm.LawKit.callS X388 hx (y := (⟨"com/example/loadloom/loadloom/DrawsNextPinLaw", "fnvByte", "(JI)J"⟩ : MethodName)) hown (mvT hZ (hw _ (List.mem_of_getElem? (i := 105) rfl))) (mvT hZ (hw _ (List.mem_of_getElem? (i := 106) rfl))) (mvT hZ (hw _ (List.mem_of_getElem? (i := 103) rfl))) (mvT hZ (hw _ (List.mem_of_getElem? (i := 107) rfl))) (by decide) (backOf (W := 0) (rm_fb l Z a0 hw [] (own_fc (-3750763034362895579 : Int64) ca) (0 : Int32) T385.heap n0 Zs386) hZ (hw _ (List.mem_of_getElem? (i := 107) rfl)) (hw _ (List.mem_of_getElem? (i := 103) rfl)) (by decide) (by decide)) (g := (mkF m 98 #[.val (.long q1), .second, .val (.long q2), .second, .val (.int p3), .val (.int p4), .val (.int p5), .val (.int ca), .val (.int cb), .val (.ref s2), .val (.ref s3), .val (.ref ob), .val (.int (1 : Int32)), .val (.long (own_mix ((own_mix ((own_key q1 ca cb) + (q2 * (-7046029254386353131 : Int64)))) + (-7046029254386353131 : Int64)))), .second, .val (.long (own_mix (((own_mix ((own_key q1 ca cb) + (q2 * (-7046029254386353131 : Int64)))) + (-7046029254386353131 : Int64)) + (-7046029254386353131 : Int64)))), .second, .val (.long (own_fc (-3750763034362895579 : Int64) ca)), .second, .unset, .unset, .unset, .unset, .unset, .unset, .unset, .unset] [(.int (0 : Int32)), (.long (own_fc (-3750763034362895579 : Int64) ca))])) rfl (by rw [hml]; rfl) (argsL := [(.long (own_fc (-3750763034362895579 : Int64) ca)), (.int (0 : Int32))]) (rest := []) (lenOf pd_0 rfl) rfl (by show 2 * 0 + _ ≤ _; exact Nat.le_of_eq rfl) (hb hby at_98) (fun _ _ => ⟨rfl, hh388, (by decide : 9 + 0 ≤ _), (by decide : 22 + 0 ≤ _)⟩)
    dsimp only [Pt.U, Pt.locs, Pt.cells, Pt.slots] at X390 l390 y390 z390 st390 hQ390
    rw [l390, y390, z390] at X390
    obtain ⟨rfl, N390q, hh390⟩ := hQ390
    have N390 := Fr.app N388 N390q
    have R391 : ∀ tg, Steps p.tables e below (T390.setTop (mkF m 107 #[.val (.long q1), .second, .val (.long q2), .second, .val (.int p3), .val (.int p4), .val (.int p5), .val (.int ca), .val (.int cb), .val (.ref s2), .val (.ref s3), .val (.ref ob), .val (.int (1 : Int32)), .val (.long (own_mix ((own_mix ((own_key q1 ca cb) + (q2 * (-7046029254386353131 : Int64)))) + (-7046029254386353131 : Int64)))), .second, .val (.long (own_mix (((own_mix ((own_key q1 ca cb) + (q2 * (-7046029254386353131 : Int64)))) + (-7046029254386353131 : Int64)) + (-7046029254386353131 : Int64)))), .second, .val (.long (own_fb (own_fc (-3750763034362895579 : Int64) ca) (0 : Int32))), .second, .unset, .unset, .unset, .unset, .unset, .unset, .unset, .unset] [(.int cb), (.long (own_fb (own_fc (-3750763034362895579 : Int64) ca) (0 : Int32)))])) tg → Steps p.tables e below (s₁.setTop (mkF m 0 #[.val (.long q1), .second, .val (.long q2), .second, .val (.int p3), .val (.int p4), .val (.int p5), .unset, .unset, .unset, .unset, .unset, .unset, .unset, .unset, .unset, .unset, .unset, .unset, .unset, .unset, .unset, .unset, .unset, .unset, .unset, .unset] [])) tg := by
      intro tg kt
      refine R389 _ ?_
      refine st390 _ ?_
      show Steps p.tables e below (T390.setTop (mkF m 101 #[.val (.long q1), .second, .val (.long q2), .second, .val (.int p3), .val (.int p4), .val (.int p5), .val (.int ca), .val (.int cb), .val (.ref s2), .val (.ref s3), .val (.ref ob), .val (.int (1 : Int32)), .val (.long (own_mix ((own_mix ((own_key q1 ca cb) + (q2 * (-7046029254386353131 : Int64)))) + (-7046029254386353131 : Int64)))), .second, .val (.long (own_mix (((own_mix ((own_key q1 ca cb) + (q2 * (-7046029254386353131 : Int64)))) + (-7046029254386353131 : Int64)) + (-7046029254386353131 : Int64)))), .second, .val (.long (own_fc (-3750763034362895579 : Int64) ca)), .second, .unset, .unset, .unset, .unset, .unset, .unset, .unset, .unset] [(.long (own_fb (own_fc (-3750763034362895579 : Int64) ca) (0 : Int32)))])) _
      refine XS.lstore X390.here hx rfl (hb hby at_101) rfl (l' := #[.val (.long q1), .second, .val (.long q2), .second, .val (.int p3), .val (.int p4), .val (.int p5), .val (.int ca), .val (.int cb), .val (.ref s2), .val (.ref s3), .val (.ref ob), .val (.int (1 : Int32)), .val (.long (own_mix ((own_mix ((own_key q1 ca cb) + (q2 * (-7046029254386353131 : Int64)))) + (-7046029254386353131 : Int64)))), .second, .val (.long (own_mix (((own_mix ((own_key q1 ca cb) + (q2 * (-7046029254386353131 : Int64)))) + (-7046029254386353131 : Int64)) + (-7046029254386353131 : Int64)))), .second, .val (.long (own_fb (own_fc (-3750763034362895579 : Int64) ca) (0 : Int32))), .second, .unset, .unset, .unset, .unset, .unset, .unset, .unset, .unset]) rfl ?_
      refine XS.lload X390.here hx rfl (hb hby at_103) rfl ?_
      refine XS.iload X390.here hx rfl (hb hby at_105) rfl ?_
      exact kt
    clear R389 st390
    obtain ⟨_, _, ⟨T392, L392, k392, n392⟩, -, X392, ⟨Lc392, hQ392, l392, y392, z392⟩, st392⟩ := Jvm.LawKit.callS X390 hx (y := (⟨"com/example/loadloom/loadloom/DrawsNextPinLaw", "fnvChar", "(JC)J"⟩ : MethodName)) hown (mvT hZ (hw _ (List.mem_of_getElem? (i := 101) rfl))) (mvT hZ (hw _ (List.mem_of_getElem? (i := 102) rfl))) (mvT hZ (hw _ (List.mem_of_getElem? (i := 103) rfl))) (mvT hZ (hw _ (List.mem_of_getElem? (i := 104) rfl))) (by decide) (backOf (W := 0) (rm_fc l Z a0 hw [] (own_fb (own_fc (-3750763034362895579 : Int64) ca) (0 : Int32)) cb T385.heap n0 Zs386) hZ (hw _ (List.mem_of_getElem? (i := 104) rfl)) (hw _ (List.mem_of_getElem? (i := 103) rfl)) (by decide) (by decide)) (g := (mkF m 107 #[.val (.long q1), .second, .val (.long q2), .second, .val (.int p3), .val (.int p4), .val (.int p5), .val (.int ca), .val (.int cb), .val (.ref s2), .val (.ref s3), .val (.ref ob), .val (.int (1 : Int32)), .val (.long (own_mix ((own_mix ((own_key q1 ca cb) + (q2 * (-7046029254386353131 : Int64)))) + (-7046029254386353131 : Int64)))), .second, .val (.long (own_mix (((own_mix ((own_key q1 ca cb) + (q2 * (-7046029254386353131 : Int64)))) + (-7046029254386353131 : Int64)) + (-7046029254386353131 : Int64)))), .second, .val (.long (own_fb (own_fc (-3750763034362895579 : Int64) ca) (0 : Int32))), .second, .unset, .unset, .unset, .unset, .unset, .unset, .unset, .unset] [(.int cb), (.long (own_fb (own_fc (-3750763034362895579 : Int64) ca) (0 : Int32)))])) rfl (by rw [hml]; rfl) (argsL := [(.long (own_fb (own_fc (-3750763034362895579 : Int64) ca) (0 : Int32))), (.int cb)]) (rest := []) (lenOf pd_19 rfl) rfl (by show 2 * 0 + _ ≤ _; exact Nat.le_of_eq rfl) (hb hby at_107) (fun _ _ => ⟨rfl, hh390, (by decide : 9 + 0 ≤ _), (by decide : 22 + 0 ≤ _)⟩)
    dsimp only [Pt.U, Pt.locs, Pt.cells, Pt.slots] at X392 l392 y392 z392 st392 hQ392
    rw [l392, y392, z392] at X392
    obtain ⟨rfl, N392q, hh392⟩ := hQ392
    have N392 := Fr.app N390 N392q
    have R393 : ∀ tg, Steps p.tables e below (T392.setTop (mkF m 113 #[.val (.long q1), .second, .val (.long q2), .second, .val (.int p3), .val (.int p4), .val (.int p5), .val (.int ca), .val (.int cb), .val (.ref s2), .val (.ref s3), .val (.ref ob), .val (.int (1 : Int32)), .val (.long (own_mix ((own_mix ((own_key q1 ca cb) + (q2 * (-7046029254386353131 : Int64)))) + (-7046029254386353131 : Int64)))), .second, .val (.long (own_mix (((own_mix ((own_key q1 ca cb) + (q2 * (-7046029254386353131 : Int64)))) + (-7046029254386353131 : Int64)) + (-7046029254386353131 : Int64)))), .second, .val (.long (own_fc (own_fb (own_fc (-3750763034362895579 : Int64) ca) (0 : Int32)) cb)), .second, .unset, .unset, .unset, .unset, .unset, .unset, .unset, .unset] [(.long q1)])) tg → Steps p.tables e below (s₁.setTop (mkF m 0 #[.val (.long q1), .second, .val (.long q2), .second, .val (.int p3), .val (.int p4), .val (.int p5), .unset, .unset, .unset, .unset, .unset, .unset, .unset, .unset, .unset, .unset, .unset, .unset, .unset, .unset, .unset, .unset, .unset, .unset, .unset, .unset] [])) tg := by
      intro tg kt
      refine R391 _ ?_
      refine st392 _ ?_
      show Steps p.tables e below (T392.setTop (mkF m 110 #[.val (.long q1), .second, .val (.long q2), .second, .val (.int p3), .val (.int p4), .val (.int p5), .val (.int ca), .val (.int cb), .val (.ref s2), .val (.ref s3), .val (.ref ob), .val (.int (1 : Int32)), .val (.long (own_mix ((own_mix ((own_key q1 ca cb) + (q2 * (-7046029254386353131 : Int64)))) + (-7046029254386353131 : Int64)))), .second, .val (.long (own_mix (((own_mix ((own_key q1 ca cb) + (q2 * (-7046029254386353131 : Int64)))) + (-7046029254386353131 : Int64)) + (-7046029254386353131 : Int64)))), .second, .val (.long (own_fb (own_fc (-3750763034362895579 : Int64) ca) (0 : Int32))), .second, .unset, .unset, .unset, .unset, .unset, .unset, .unset, .unset] [(.long (own_fc (own_fb (own_fc (-3750763034362895579 : Int64) ca) (0 : Int32)) cb))])) _
      refine XS.lstore X392.here hx rfl (hb hby at_110) rfl (l' := #[.val (.long q1), .second, .val (.long q2), .second, .val (.int p3), .val (.int p4), .val (.int p5), .val (.int ca), .val (.int cb), .val (.ref s2), .val (.ref s3), .val (.ref ob), .val (.int (1 : Int32)), .val (.long (own_mix ((own_mix ((own_key q1 ca cb) + (q2 * (-7046029254386353131 : Int64)))) + (-7046029254386353131 : Int64)))), .second, .val (.long (own_mix (((own_mix ((own_key q1 ca cb) + (q2 * (-7046029254386353131 : Int64)))) + (-7046029254386353131 : Int64)) + (-7046029254386353131 : Int64)))), .second, .val (.long (own_fc (own_fb (own_fc (-3750763034362895579 : Int64) ca) (0 : Int32)) cb)), .second, .unset, .unset, .unset, .unset, .unset, .unset, .unset, .unset]) rfl ?_
      refine XS.lloadN X392.here hx rfl (hb hby at_112) rfl ?_
      exact kt
    clear R391 st392
    obtain ⟨_, _, ⟨T394, L394, k394, n394⟩, -, X394, ⟨Lc394, hQ394, l394, y394, z394⟩, st394⟩ := Jvm.LawKit.callS X392 hx (y := (⟨"com/example/loadloom/loadloom/DrawsNextPinLaw", "mix", "(J)J"⟩ : MethodName)) hown (mvT hZ (hw _ (List.mem_of_getElem? (i := 109) rfl))) (mvT hZ (hw _ (List.mem_of_getElem? (i := 110) rfl))) (mvT hZ (hw _ (List.mem_of_getElem? (i := 103) rfl))) (mvT hZ (hw _ (List.mem_of_getElem? (i := 111) rfl))) (by decide) (backOf (W := 0) (rm_mixL l Z a0 hw [] q1 T385.heap n0 Zs386) hZ (hw _ (List.mem_of_getElem? (i := 111) rfl)) (hw _ (List.mem_of_getElem? (i := 103) rfl)) (by decide) (by decide)) (g := (mkF m 113 #[.val (.long q1), .second, .val (.long q2), .second, .val (.int p3), .val (.int p4), .val (.int p5), .val (.int ca), .val (.int cb), .val (.ref s2), .val (.ref s3), .val (.ref ob), .val (.int (1 : Int32)), .val (.long (own_mix ((own_mix ((own_key q1 ca cb) + (q2 * (-7046029254386353131 : Int64)))) + (-7046029254386353131 : Int64)))), .second, .val (.long (own_mix (((own_mix ((own_key q1 ca cb) + (q2 * (-7046029254386353131 : Int64)))) + (-7046029254386353131 : Int64)) + (-7046029254386353131 : Int64)))), .second, .val (.long (own_fc (own_fb (own_fc (-3750763034362895579 : Int64) ca) (0 : Int32)) cb)), .second, .unset, .unset, .unset, .unset, .unset, .unset, .unset, .unset] [(.long q1)])) rfl (by rw [hml]; rfl) (argsL := [(.long q1)]) (rest := []) (lenOf pd_13 rfl) rfl (by show 2 * 0 + _ ≤ _; exact Nat.le_of_eq rfl) (hb hby at_113) (fun _ _ => ⟨rfl, hh392, (by decide : 9 + 0 ≤ _), (by decide : 22 + 0 ≤ _)⟩)
    dsimp only [Pt.U, Pt.locs, Pt.cells, Pt.slots] at X394 l394 y394 z394 st394 hQ394
    rw [l394, y394, z394] at X394
    obtain ⟨rfl, N394q, hh394⟩ := hQ394
    have N394 := Fr.app N392 N394q
    have R395 : ∀ tg, Steps p.tables e below (T394.setTop (mkF m 119 #[.val (.long q1), .second, .val (.long q2), .second, .val (.int p3), .val (.int p4), .val (.int p5), .val (.int ca), .val (.int cb), .val (.ref s2), .val (.ref s3), .val (.ref ob), .val (.int (1 : Int32)), .val (.long (own_mix ((own_mix ((own_key q1 ca cb) + (q2 * (-7046029254386353131 : Int64)))) + (-7046029254386353131 : Int64)))), .second, .val (.long (own_mix (((own_mix ((own_key q1 ca cb) + (q2 * (-7046029254386353131 : Int64)))) + (-7046029254386353131 : Int64)) + (-7046029254386353131 : Int64)))), .second, .val (.long (own_fc (own_fb (own_fc (-3750763034362895579 : Int64) ca) (0 : Int32)) cb)), .second, .unset, .unset, .unset, .unset, .unset, .unset, .unset, .unset] [(.long ((own_mix q1) ^^^ (own_fc (own_fb (own_fc (-3750763034362895579 : Int64) ca) (0 : Int32)) cb)))])) tg → Steps p.tables e below (s₁.setTop (mkF m 0 #[.val (.long q1), .second, .val (.long q2), .second, .val (.int p3), .val (.int p4), .val (.int p5), .unset, .unset, .unset, .unset, .unset, .unset, .unset, .unset, .unset, .unset, .unset, .unset, .unset, .unset, .unset, .unset, .unset, .unset, .unset, .unset] [])) tg := by
      intro tg kt
      refine R393 _ ?_
      refine st394 _ ?_
      refine XS.lload X394.here hx rfl (hb hby at_116) rfl ?_
      show Steps p.tables e below (T394.setTop (mkF m 118 #[.val (.long q1), .second, .val (.long q2), .second, .val (.int p3), .val (.int p4), .val (.int p5), .val (.int ca), .val (.int cb), .val (.ref s2), .val (.ref s3), .val (.ref ob), .val (.int (1 : Int32)), .val (.long (own_mix ((own_mix ((own_key q1 ca cb) + (q2 * (-7046029254386353131 : Int64)))) + (-7046029254386353131 : Int64)))), .second, .val (.long (own_mix (((own_mix ((own_key q1 ca cb) + (q2 * (-7046029254386353131 : Int64)))) + (-7046029254386353131 : Int64)) + (-7046029254386353131 : Int64)))), .second, .val (.long (own_fc (own_fb (own_fc (-3750763034362895579 : Int64) ca) (0 : Int32)) cb)), .second, .unset, .unset, .unset, .unset, .unset, .unset, .unset, .unset] [(.long (own_fc (own_fb (own_fc (-3750763034362895579 : Int64) ca) (0 : Int32)) cb)), (.long (own_mix q1))])) _
      refine XS.lxor X394.here hx rfl (hb hby at_118) rfl ?_
      exact kt
    clear R393 st394
    obtain ⟨_, _, ⟨T396, L396, k396, n396⟩, -, X396, ⟨Lc396, hQ396, l396, y396, z396⟩, st396⟩ := Jvm.LawKit.callS X394 hx (y := (⟨"com/example/loadloom/loadloom/DrawsNextPinLaw", "mix", "(J)J"⟩ : MethodName)) hown (mvT hZ (hw _ (List.mem_of_getElem? (i := 109) rfl))) (mvT hZ (hw _ (List.mem_of_getElem? (i := 110) rfl))) (mvT hZ (hw _ (List.mem_of_getElem? (i := 103) rfl))) (mvT hZ (hw _ (List.mem_of_getElem? (i := 111) rfl))) (by decide) (backOf (W := 0) (rm_mixL l Z a0 hw [] ((own_mix q1) ^^^ (own_fc (own_fb (own_fc (-3750763034362895579 : Int64) ca) (0 : Int32)) cb)) T385.heap n0 Zs386) hZ (hw _ (List.mem_of_getElem? (i := 111) rfl)) (hw _ (List.mem_of_getElem? (i := 103) rfl)) (by decide) (by decide)) (g := (mkF m 119 #[.val (.long q1), .second, .val (.long q2), .second, .val (.int p3), .val (.int p4), .val (.int p5), .val (.int ca), .val (.int cb), .val (.ref s2), .val (.ref s3), .val (.ref ob), .val (.int (1 : Int32)), .val (.long (own_mix ((own_mix ((own_key q1 ca cb) + (q2 * (-7046029254386353131 : Int64)))) + (-7046029254386353131 : Int64)))), .second, .val (.long (own_mix (((own_mix ((own_key q1 ca cb) + (q2 * (-7046029254386353131 : Int64)))) + (-7046029254386353131 : Int64)) + (-7046029254386353131 : Int64)))), .second, .val (.long (own_fc (own_fb (own_fc (-3750763034362895579 : Int64) ca) (0 : Int32)) cb)), .second, .unset, .unset, .unset, .unset, .unset, .unset, .unset, .unset] [(.long ((own_mix q1) ^^^ (own_fc (own_fb (own_fc (-3750763034362895579 : Int64) ca) (0 : Int32)) cb)))])) rfl (by rw [hml]; rfl) (argsL := [(.long ((own_mix q1) ^^^ (own_fc (own_fb (own_fc (-3750763034362895579 : Int64) ca) (0 : Int32)) cb)))]) (rest := []) (lenOf pd_13 rfl) rfl (by show 2 * 0 + _ ≤ _; exact Nat.le_of_eq rfl) (hb hby at_119) (fun _ _ => ⟨rfl, hh394, (by decide : 9 + 0 ≤ _), (by decide : 22 + 0 ≤ _)⟩)
    dsimp only [Pt.U, Pt.locs, Pt.cells, Pt.slots] at X396 l396 y396 z396 st396 hQ396
    rw [l396, y396, z396] at X396
    obtain ⟨rfl, N396q, hh396⟩ := hQ396
    have N396 := Fr.app N394 N396q
    have R397 : ∀ tg, Steps p.tables e below (T396.setTop (mkF m 122 #[.val (.long q1), .second, .val (.long q2), .second, .val (.int p3), .val (.int p4), .val (.int p5), .val (.int ca), .val (.int cb), .val (.ref s2), .val (.ref s3), .val (.ref ob), .val (.int (1 : Int32)), .val (.long (own_mix ((own_mix ((own_key q1 ca cb) + (q2 * (-7046029254386353131 : Int64)))) + (-7046029254386353131 : Int64)))), .second, .val (.long (own_mix (((own_mix ((own_key q1 ca cb) + (q2 * (-7046029254386353131 : Int64)))) + (-7046029254386353131 : Int64)) + (-7046029254386353131 : Int64)))), .second, .val (.long (own_fc (own_fb (own_fc (-3750763034362895579 : Int64) ca) (0 : Int32)) cb)), .second, .unset, .unset, .unset, .unset, .unset, .unset, .unset, .unset] [(.long (own_mix ((own_mix q1) ^^^ (own_fc (own_fb (own_fc (-3750763034362895579 : Int64) ca) (0 : Int32)) cb))))])) tg → Steps p.tables e below (s₁.setTop (mkF m 0 #[.val (.long q1), .second, .val (.long q2), .second, .val (.int p3), .val (.int p4), .val (.int p5), .unset, .unset, .unset, .unset, .unset, .unset, .unset, .unset, .unset, .unset, .unset, .unset, .unset, .unset, .unset, .unset, .unset, .unset, .unset, .unset] [])) tg := by
      intro tg kt
      refine R395 _ ?_
      refine st396 _ ?_
      exact kt
    clear R395 st396
    have R398 : ∀ tg, Steps p.tables e below (T396.setTop (mkF m 122 #[.val (.long q1), .second, .val (.long q2), .second, .val (.int p3), .val (.int p4), .val (.int p5), .val (.int ca), .val (.int cb), .val (.ref s2), .val (.ref s3), .val (.ref ob), .val (.int (1 : Int32)), .val (.long (own_mix ((own_mix ((own_key q1 ca cb) + (q2 * (-7046029254386353131 : Int64)))) + (-7046029254386353131 : Int64)))), .second, .val (.long (own_mix (((own_mix ((own_key q1 ca cb) + (q2 * (-7046029254386353131 : Int64)))) + (-7046029254386353131 : Int64)) + (-7046029254386353131 : Int64)))), .second, .val (.long (own_fc (own_fb (own_fc (-3750763034362895579 : Int64) ca) (0 : Int32)) cb)), .second, .unset, .unset, .unset, .unset, .unset, .unset, .unset, .unset] [(.long (own_key q1 ca cb))])) tg → Steps p.tables e below (s₁.setTop (mkF m 0 #[.val (.long q1), .second, .val (.long q2), .second, .val (.int p3), .val (.int p4), .val (.int p5), .unset, .unset, .unset, .unset, .unset, .unset, .unset, .unset, .unset, .unset, .unset, .unset, .unset, .unset, .unset, .unset, .unset, .unset, .unset, .unset] [])) tg := R397
    have R399 : ∀ tg, Steps p.tables e below (T396.setTop (mkF m 137 #[.val (.long q1), .second, .val (.long q2), .second, .val (.int p3), .val (.int p4), .val (.int p5), .val (.int ca), .val (.int cb), .val (.ref s2), .val (.ref s3), .val (.ref ob), .val (.int (1 : Int32)), .val (.long (own_mix ((own_mix ((own_key q1 ca cb) + (q2 * (-7046029254386353131 : Int64)))) + (-7046029254386353131 : Int64)))), .second, .val (.long (own_mix (((own_mix ((own_key q1 ca cb) + (q2 * (-7046029254386353131 : Int64)))) + (-7046029254386353131 : Int64)) + (-7046029254386353131 : Int64)))), .second, .val (.long (own_fc (own_fb (own_fc (-3750763034362895579 : Int64) ca) (0 : Int32)) cb)), .second, .val (.long (own_key q1 ca cb)), .second, .unset, .unset, .unset, .unset, .unset, .unset] [(.long ((own_key q1 ca cb) + (q2 * (-7046029254386353131 : Int64))))])) tg → Steps p.tables e below (s₁.setTop (mkF m 0 #[.val (.long q1), .second, .val (.long q2), .second, .val (.int p3), .val (.int p4), .val (.int p5), .unset, .unset, .unset, .unset, .unset, .unset, .unset, .unset, .unset, .unset, .unset, .unset, .unset, .unset, .unset, .unset, .unset, .unset, .unset, .unset] [])) tg := by
      intro tg kt
      refine R398 _ ?_
      show Steps p.tables e below (T396.setTop (mkF m 122 #[.val (.long q1), .second, .val (.long q2), .second, .val (.int p3), .val (.int p4), .val (.int p5), .val (.int ca), .val (.int cb), .val (.ref s2), .val (.ref s3), .val (.ref ob), .val (.int (1 : Int32)), .val (.long (own_mix ((own_mix ((own_key q1 ca cb) + (q2 * (-7046029254386353131 : Int64)))) + (-7046029254386353131 : Int64)))), .second, .val (.long (own_mix (((own_mix ((own_key q1 ca cb) + (q2 * (-7046029254386353131 : Int64)))) + (-7046029254386353131 : Int64)) + (-7046029254386353131 : Int64)))), .second, .val (.long (own_fc (own_fb (own_fc (-3750763034362895579 : Int64) ca) (0 : Int32)) cb)), .second, .unset, .unset, .unset, .unset, .unset, .unset, .unset, .unset] [(.long (own_key q1 ca cb))])) _
      refine XS.lstore X396.here hx rfl (hb hby at_122) rfl (l' := #[.val (.long q1), .second, .val (.long q2), .second, .val (.int p3), .val (.int p4), .val (.int p5), .val (.int ca), .val (.int cb), .val (.ref s2), .val (.ref s3), .val (.ref ob), .val (.int (1 : Int32)), .val (.long (own_mix ((own_mix ((own_key q1 ca cb) + (q2 * (-7046029254386353131 : Int64)))) + (-7046029254386353131 : Int64)))), .second, .val (.long (own_mix (((own_mix ((own_key q1 ca cb) + (q2 * (-7046029254386353131 : Int64)))) + (-7046029254386353131 : Int64)) + (-7046029254386353131 : Int64)))), .second, .val (.long (own_fc (own_fb (own_fc (-3750763034362895579 : Int64) ca) (0 : Int32)) cb)), .second, .val (.long (own_key q1 ca cb)), .second, .unset, .unset, .unset, .unset, .unset, .unset]) rfl ?_
      refine XS.iload X396.here hx rfl (hb hby at_124) rfl ?_
      show Steps p.tables e below (T396.setTop (mkF m 126 #[.val (.long q1), .second, .val (.long q2), .second, .val (.int p3), .val (.int p4), .val (.int p5), .val (.int ca), .val (.int cb), .val (.ref s2), .val (.ref s3), .val (.ref ob), .val (.int (1 : Int32)), .val (.long (own_mix ((own_mix ((own_key q1 ca cb) + (q2 * (-7046029254386353131 : Int64)))) + (-7046029254386353131 : Int64)))), .second, .val (.long (own_mix (((own_mix ((own_key q1 ca cb) + (q2 * (-7046029254386353131 : Int64)))) + (-7046029254386353131 : Int64)) + (-7046029254386353131 : Int64)))), .second, .val (.long (own_fc (own_fb (own_fc (-3750763034362895579 : Int64) ca) (0 : Int32)) cb)), .second, .val (.long (own_key q1 ca cb)), .second, .unset, .unset, .unset, .unset, .unset, .unset] [(.int (1 : Int32))])) _
      refine XS.ifNo X396.here hx rfl (hb hby at_126) rfl ((if0 _ _).trans (feq (by decide : ¬ ((1 : Int32) = (0 : Int32)))).1) ?_
      refine XS.lload X396.here hx rfl (hb hby at_129) rfl ?_
      refine XS.lloadN X396.here hx rfl (hb hby at_131) rfl ?_
      show Steps p.tables e below (T396.setTop (mkF m 132 #[.val (.long q1), .second, .val (.long q2), .second, .val (.int p3), .val (.int p4), .val (.int p5), .val (.int ca), .val (.int cb), .val (.ref s2), .val (.ref s3), .val (.ref ob), .val (.int (1 : Int32)), .val (.long (own_mix ((own_mix ((own_key q1 ca cb) + (q2 * (-7046029254386353131 : Int64)))) + (-7046029254386353131 : Int64)))), .second, .val (.long (own_mix (((own_mix ((own_key q1 ca cb) + (q2 * (-7046029254386353131 : Int64)))) + (-7046029254386353131 : Int64)) + (-7046029254386353131 : Int64)))), .second, .val (.long (own_fc (own_fb (own_fc (-3750763034362895579 : Int64) ca) (0 : Int32)) cb)), .second, .val (.long (own_key q1 ca cb)), .second, .unset, .unset, .unset, .unset, .unset, .unset] [(.long q2), (.long (own_key q1 ca cb))])) _
      refine X396.ldc2Long hx hown (mvT hZ (hw _ (List.mem_of_getElem? (i := 114) rfl))) (g := (mkF m 132 #[.val (.long q1), .second, .val (.long q2), .second, .val (.int p3), .val (.int p4), .val (.int p5), .val (.int ca), .val (.int cb), .val (.ref s2), .val (.ref s3), .val (.ref ob), .val (.int (1 : Int32)), .val (.long (own_mix ((own_mix ((own_key q1 ca cb) + (q2 * (-7046029254386353131 : Int64)))) + (-7046029254386353131 : Int64)))), .second, .val (.long (own_mix (((own_mix ((own_key q1 ca cb) + (q2 * (-7046029254386353131 : Int64)))) + (-7046029254386353131 : Int64)) + (-7046029254386353131 : Int64)))), .second, .val (.long (own_fc (own_fb (own_fc (-3750763034362895579 : Int64) ca) (0 : Int32)) cb)), .second, .val (.long (own_key q1 ca cb)), .second, .unset, .unset, .unset, .unset, .unset, .unset] [(.long q2), (.long (own_key q1 ca cb))])) rfl (hb hby at_132) _ ?_
      show Steps p.tables e below (T396.setTop (mkF m 135 #[.val (.long q1), .second, .val (.long q2), .second, .val (.int p3), .val (.int p4), .val (.int p5), .val (.int ca), .val (.int cb), .val (.ref s2), .val (.ref s3), .val (.ref ob), .val (.int (1 : Int32)), .val (.long (own_mix ((own_mix ((own_key q1 ca cb) + (q2 * (-7046029254386353131 : Int64)))) + (-7046029254386353131 : Int64)))), .second, .val (.long (own_mix (((own_mix ((own_key q1 ca cb) + (q2 * (-7046029254386353131 : Int64)))) + (-7046029254386353131 : Int64)) + (-7046029254386353131 : Int64)))), .second, .val (.long (own_fc (own_fb (own_fc (-3750763034362895579 : Int64) ca) (0 : Int32)) cb)), .second, .val (.long (own_key q1 ca cb)), .second, .unset, .unset, .unset, .unset, .unset, .unset] [(.long (-7046029254386353131 : Int64)), (.long q2), (.long (own_key q1 ca cb))])) _
      refine XS.lmul X396.here hx rfl (hb hby at_135) rfl ?_
      show Steps p.tables e below (T396.setTop (mkF m 136 #[.val (.long q1), .second, .val (.long q2), .second, .val (.int p3), .val (.int p4), .val (.int p5), .val (.int ca), .val (.int cb), .val (.ref s2), .val (.ref s3), .val (.ref ob), .val (.int (1 : Int32)), .val (.long (own_mix ((own_mix ((own_key q1 ca cb) + (q2 * (-7046029254386353131 : Int64)))) + (-7046029254386353131 : Int64)))), .second, .val (.long (own_mix (((own_mix ((own_key q1 ca cb) + (q2 * (-7046029254386353131 : Int64)))) + (-7046029254386353131 : Int64)) + (-7046029254386353131 : Int64)))), .second, .val (.long (own_fc (own_fb (own_fc (-3750763034362895579 : Int64) ca) (0 : Int32)) cb)), .second, .val (.long (own_key q1 ca cb)), .second, .unset, .unset, .unset, .unset, .unset, .unset] [(.long (q2 * (-7046029254386353131 : Int64))), (.long (own_key q1 ca cb))])) _
      refine XS.ladd X396.here hx rfl (hb hby at_136) rfl ?_
      exact kt
    clear R398
    obtain ⟨_, _, ⟨T400, L400, k400, n400⟩, -, X400, ⟨Lc400, hQ400, l400, y400, z400⟩, st400⟩ := Jvm.LawKit.callS X396 hx (y := (⟨"com/example/loadloom/loadloom/DrawsNextPinLaw", "mix", "(J)J"⟩ : MethodName)) hown (mvT hZ (hw _ (List.mem_of_getElem? (i := 109) rfl))) (mvT hZ (hw _ (List.mem_of_getElem? (i := 110) rfl))) (mvT hZ (hw _ (List.mem_of_getElem? (i := 103) rfl))) (mvT hZ (hw _ (List.mem_of_getElem? (i := 111) rfl))) (by decide) (backOf (W := 0) (rm_mixL l Z a0 hw [] ((own_key q1 ca cb) + (q2 * (-7046029254386353131 : Int64))) T385.heap n0 Zs386) hZ (hw _ (List.mem_of_getElem? (i := 111) rfl)) (hw _ (List.mem_of_getElem? (i := 103) rfl)) (by decide) (by decide)) (g := (mkF m 137 #[.val (.long q1), .second, .val (.long q2), .second, .val (.int p3), .val (.int p4), .val (.int p5), .val (.int ca), .val (.int cb), .val (.ref s2), .val (.ref s3), .val (.ref ob), .val (.int (1 : Int32)), .val (.long (own_mix ((own_mix ((own_key q1 ca cb) + (q2 * (-7046029254386353131 : Int64)))) + (-7046029254386353131 : Int64)))), .second, .val (.long (own_mix (((own_mix ((own_key q1 ca cb) + (q2 * (-7046029254386353131 : Int64)))) + (-7046029254386353131 : Int64)) + (-7046029254386353131 : Int64)))), .second, .val (.long (own_fc (own_fb (own_fc (-3750763034362895579 : Int64) ca) (0 : Int32)) cb)), .second, .val (.long (own_key q1 ca cb)), .second, .unset, .unset, .unset, .unset, .unset, .unset] [(.long ((own_key q1 ca cb) + (q2 * (-7046029254386353131 : Int64))))])) rfl (by rw [hml]; rfl) (argsL := [(.long ((own_key q1 ca cb) + (q2 * (-7046029254386353131 : Int64))))]) (rest := []) (lenOf pd_13 rfl) rfl (by show 2 * 0 + _ ≤ _; exact Nat.le_of_eq rfl) (hb hby at_137) (fun _ _ => ⟨rfl, hh396, (by decide : 9 + 0 ≤ _), (by decide : 22 + 0 ≤ _)⟩)
    dsimp only [Pt.U, Pt.locs, Pt.cells, Pt.slots] at X400 l400 y400 z400 st400 hQ400
    rw [l400, y400, z400] at X400
    obtain ⟨rfl, N400q, hh400⟩ := hQ400
    have N400 := Fr.app N396 N400q
    have R401 : ∀ tg, Steps p.tables e below (T400.setTop (mkF m 152 #[.val (.long q1), .second, .val (.long q2), .second, .val (.int p3), .val (.int p4), .val (.int p5), .val (.int ca), .val (.int cb), .val (.ref s2), .val (.ref s3), .val (.ref ob), .val (.int (1 : Int32)), .val (.long (own_mix ((own_mix ((own_key q1 ca cb) + (q2 * (-7046029254386353131 : Int64)))) + (-7046029254386353131 : Int64)))), .second, .val (.long (own_mix (((own_mix ((own_key q1 ca cb) + (q2 * (-7046029254386353131 : Int64)))) + (-7046029254386353131 : Int64)) + (-7046029254386353131 : Int64)))), .second, .val (.long (own_fc (own_fb (own_fc (-3750763034362895579 : Int64) ca) (0 : Int32)) cb)), .second, .val (.long (own_key q1 ca cb)), .second, .val (.long (own_mix ((own_key q1 ca cb) + (q2 * (-7046029254386353131 : Int64))))), .second, .unset, .unset, .unset, .unset] [(.long ((own_mix ((own_key q1 ca cb) + (q2 * (-7046029254386353131 : Int64)))) + (-7046029254386353131 : Int64)))])) tg → Steps p.tables e below (s₁.setTop (mkF m 0 #[.val (.long q1), .second, .val (.long q2), .second, .val (.int p3), .val (.int p4), .val (.int p5), .unset, .unset, .unset, .unset, .unset, .unset, .unset, .unset, .unset, .unset, .unset, .unset, .unset, .unset, .unset, .unset, .unset, .unset, .unset, .unset] [])) tg := by
      intro tg kt
      refine R399 _ ?_
      refine st400 _ ?_
      show Steps p.tables e below (T400.setTop (mkF m 140 #[.val (.long q1), .second, .val (.long q2), .second, .val (.int p3), .val (.int p4), .val (.int p5), .val (.int ca), .val (.int cb), .val (.ref s2), .val (.ref s3), .val (.ref ob), .val (.int (1 : Int32)), .val (.long (own_mix ((own_mix ((own_key q1 ca cb) + (q2 * (-7046029254386353131 : Int64)))) + (-7046029254386353131 : Int64)))), .second, .val (.long (own_mix (((own_mix ((own_key q1 ca cb) + (q2 * (-7046029254386353131 : Int64)))) + (-7046029254386353131 : Int64)) + (-7046029254386353131 : Int64)))), .second, .val (.long (own_fc (own_fb (own_fc (-3750763034362895579 : Int64) ca) (0 : Int32)) cb)), .second, .val (.long (own_key q1 ca cb)), .second, .unset, .unset, .unset, .unset, .unset, .unset] [(.long (own_mix ((own_key q1 ca cb) + (q2 * (-7046029254386353131 : Int64)))))])) _
      refine XS.goto X400.here hx rfl (pc0 := 140) (pc' := 144) rfl (hb hby at_140) (by decide) (by decide) ?_
      show Steps p.tables e below (T400.setTop (mkF m 144 #[.val (.long q1), .second, .val (.long q2), .second, .val (.int p3), .val (.int p4), .val (.int p5), .val (.int ca), .val (.int cb), .val (.ref s2), .val (.ref s3), .val (.ref ob), .val (.int (1 : Int32)), .val (.long (own_mix ((own_mix ((own_key q1 ca cb) + (q2 * (-7046029254386353131 : Int64)))) + (-7046029254386353131 : Int64)))), .second, .val (.long (own_mix (((own_mix ((own_key q1 ca cb) + (q2 * (-7046029254386353131 : Int64)))) + (-7046029254386353131 : Int64)) + (-7046029254386353131 : Int64)))), .second, .val (.long (own_fc (own_fb (own_fc (-3750763034362895579 : Int64) ca) (0 : Int32)) cb)), .second, .val (.long (own_key q1 ca cb)), .second, .unset, .unset, .unset, .unset, .unset, .unset] [(.long (own_mix ((own_key q1 ca cb) + (q2 * (-7046029254386353131 : Int64)))))])) _
      refine XS.lstore X400.here hx rfl (hb hby at_144) rfl (l' := #[.val (.long q1), .second, .val (.long q2), .second, .val (.int p3), .val (.int p4), .val (.int p5), .val (.int ca), .val (.int cb), .val (.ref s2), .val (.ref s3), .val (.ref ob), .val (.int (1 : Int32)), .val (.long (own_mix ((own_mix ((own_key q1 ca cb) + (q2 * (-7046029254386353131 : Int64)))) + (-7046029254386353131 : Int64)))), .second, .val (.long (own_mix (((own_mix ((own_key q1 ca cb) + (q2 * (-7046029254386353131 : Int64)))) + (-7046029254386353131 : Int64)) + (-7046029254386353131 : Int64)))), .second, .val (.long (own_fc (own_fb (own_fc (-3750763034362895579 : Int64) ca) (0 : Int32)) cb)), .second, .val (.long (own_key q1 ca cb)), .second, .val (.long (own_mix ((own_key q1 ca cb) + (q2 * (-7046029254386353131 : Int64))))), .second, .unset, .unset, .unset, .unset]) rfl ?_
      refine XS.lload X400.here hx rfl (hb hby at_146) rfl ?_
      show Steps p.tables e below (T400.setTop (mkF m 148 #[.val (.long q1), .second, .val (.long q2), .second, .val (.int p3), .val (.int p4), .val (.int p5), .val (.int ca), .val (.int cb), .val (.ref s2), .val (.ref s3), .val (.ref ob), .val (.int (1 : Int32)), .val (.long (own_mix ((own_mix ((own_key q1 ca cb) + (q2 * (-7046029254386353131 : Int64)))) + (-7046029254386353131 : Int64)))), .second, .val (.long (own_mix (((own_mix ((own_key q1 ca cb) + (q2 * (-7046029254386353131 : Int64)))) + (-7046029254386353131 : Int64)) + (-7046029254386353131 : Int64)))), .second, .val (.long (own_fc (own_fb (own_fc (-3750763034362895579 : Int64) ca) (0 : Int32)) cb)), .second, .val (.long (own_key q1 ca cb)), .second, .val (.long (own_mix ((own_key q1 ca cb) + (q2 * (-7046029254386353131 : Int64))))), .second, .unset, .unset, .unset, .unset] [(.long (own_mix ((own_key q1 ca cb) + (q2 * (-7046029254386353131 : Int64)))))])) _
      refine X400.ldc2Long hx hown (mvT hZ (hw _ (List.mem_of_getElem? (i := 114) rfl))) (g := (mkF m 148 #[.val (.long q1), .second, .val (.long q2), .second, .val (.int p3), .val (.int p4), .val (.int p5), .val (.int ca), .val (.int cb), .val (.ref s2), .val (.ref s3), .val (.ref ob), .val (.int (1 : Int32)), .val (.long (own_mix ((own_mix ((own_key q1 ca cb) + (q2 * (-7046029254386353131 : Int64)))) + (-7046029254386353131 : Int64)))), .second, .val (.long (own_mix (((own_mix ((own_key q1 ca cb) + (q2 * (-7046029254386353131 : Int64)))) + (-7046029254386353131 : Int64)) + (-7046029254386353131 : Int64)))), .second, .val (.long (own_fc (own_fb (own_fc (-3750763034362895579 : Int64) ca) (0 : Int32)) cb)), .second, .val (.long (own_key q1 ca cb)), .second, .val (.long (own_mix ((own_key q1 ca cb) + (q2 * (-7046029254386353131 : Int64))))), .second, .unset, .unset, .unset, .unset] [(.long (own_mix ((own_key q1 ca cb) + (q2 * (-7046029254386353131 : Int64)))))])) rfl (hb hby at_148) _ ?_
      show Steps p.tables e below (T400.setTop (mkF m 151 #[.val (.long q1), .second, .val (.long q2), .second, .val (.int p3), .val (.int p4), .val (.int p5), .val (.int ca), .val (.int cb), .val (.ref s2), .val (.ref s3), .val (.ref ob), .val (.int (1 : Int32)), .val (.long (own_mix ((own_mix ((own_key q1 ca cb) + (q2 * (-7046029254386353131 : Int64)))) + (-7046029254386353131 : Int64)))), .second, .val (.long (own_mix (((own_mix ((own_key q1 ca cb) + (q2 * (-7046029254386353131 : Int64)))) + (-7046029254386353131 : Int64)) + (-7046029254386353131 : Int64)))), .second, .val (.long (own_fc (own_fb (own_fc (-3750763034362895579 : Int64) ca) (0 : Int32)) cb)), .second, .val (.long (own_key q1 ca cb)), .second, .val (.long (own_mix ((own_key q1 ca cb) + (q2 * (-7046029254386353131 : Int64))))), .second, .unset, .unset, .unset, .unset] [(.long (-7046029254386353131 : Int64)), (.long (own_mix ((own_key q1 ca cb) + (q2 * (-7046029254386353131 : Int64)))))])) _
      refine XS.ladd X400.here hx rfl (hb hby at_151) rfl ?_
      exact kt
    clear R399 st400
    obtain ⟨_, _, ⟨T402, L402, k402, n402⟩, -, X402, ⟨Lc402, hQ402, l402, y402, z402⟩, st402⟩ := Jvm.LawKit.callS X400 hx (y := (⟨"com/example/loadloom/loadloom/DrawsNextPinLaw", "mix", "(J)J"⟩ : MethodName)) hown (mvT hZ (hw _ (List.mem_of_getElem? (i := 109) rfl))) (mvT hZ (hw _ (List.mem_of_getElem? (i := 110) rfl))) (mvT hZ (hw _ (List.mem_of_getElem? (i := 103) rfl))) (mvT hZ (hw _ (List.mem_of_getElem? (i := 111) rfl))) (by decide) (backOf (W := 0) (rm_mixL l Z a0 hw [] ((own_mix ((own_key q1 ca cb) + (q2 * (-7046029254386353131 : Int64)))) + (-7046029254386353131 : Int64)) T385.heap n0 Zs386) hZ (hw _ (List.mem_of_getElem? (i := 111) rfl)) (hw _ (List.mem_of_getElem? (i := 103) rfl)) (by decide) (by decide)) (g := (mkF m 152 #[.val (.long q1), .second, .val (.long q2), .second, .val (.int p3), .val (.int p4), .val (.int p5), .val (.int ca), .val (.int cb), .val (.ref s2), .val (.ref s3), .val (.ref ob), .val (.int (1 : Int32)), .val (.long (own_mix ((own_mix ((own_key q1 ca cb) + (q2 * (-7046029254386353131 : Int64)))) + (-7046029254386353131 : Int64)))), .second, .val (.long (own_mix (((own_mix ((own_key q1 ca cb) + (q2 * (-7046029254386353131 : Int64)))) + (-7046029254386353131 : Int64)) + (-7046029254386353131 : Int64)))), .second, .val (.long (own_fc (own_fb (own_fc (-3750763034362895579 : Int64) ca) (0 : Int32)) cb)), .second, .val (.long (own_key q1 ca cb)), .second, .val (.long (own_mix ((own_key q1 ca cb) + (q2 * (-7046029254386353131 : Int64))))), .second, .unset, .unset, .unset, .unset] [(.long ((own_mix ((own_key q1 ca cb) + (q2 * (-7046029254386353131 : Int64)))) + (-7046029254386353131 : Int64)))])) rfl (by rw [hml]; rfl) (argsL := [(.long ((own_mix ((own_key q1 ca cb) + (q2 * (-7046029254386353131 : Int64)))) + (-7046029254386353131 : Int64)))]) (rest := []) (lenOf pd_13 rfl) rfl (by show 2 * 0 + _ ≤ _; exact Nat.le_of_eq rfl) (hb hby at_152) (fun _ _ => ⟨rfl, hh400, (by decide : 9 + 0 ≤ _), (by decide : 22 + 0 ≤ _)⟩)
    dsimp only [Pt.U, Pt.locs, Pt.cells, Pt.slots] at X402 l402 y402 z402 st402 hQ402
    rw [l402, y402, z402] at X402
    obtain ⟨rfl, N402q, hh402⟩ := hQ402
    have N402 := Fr.app N400 N402q
    have R403 : ∀ tg, Steps p.tables e below (T402.setTop (mkF m 167 #[.val (.long q1), .second, .val (.long q2), .second, .val (.int p3), .val (.int p4), .val (.int p5), .val (.int ca), .val (.int cb), .val (.ref s2), .val (.ref s3), .val (.ref ob), .val (.int (1 : Int32)), .val (.long (own_mix ((own_mix ((own_key q1 ca cb) + (q2 * (-7046029254386353131 : Int64)))) + (-7046029254386353131 : Int64)))), .second, .val (.long (own_mix (((own_mix ((own_key q1 ca cb) + (q2 * (-7046029254386353131 : Int64)))) + (-7046029254386353131 : Int64)) + (-7046029254386353131 : Int64)))), .second, .val (.long (own_fc (own_fb (own_fc (-3750763034362895579 : Int64) ca) (0 : Int32)) cb)), .second, .val (.long (own_key q1 ca cb)), .second, .val (.long (own_mix ((own_key q1 ca cb) + (q2 * (-7046029254386353131 : Int64))))), .second, .val (.long (own_mix ((own_mix ((own_key q1 ca cb) + (q2 * (-7046029254386353131 : Int64)))) + (-7046029254386353131 : Int64)))), .second, .unset, .unset] [(.long (((own_mix ((own_key q1 ca cb) + (q2 * (-7046029254386353131 : Int64)))) + (-7046029254386353131 : Int64)) + (-7046029254386353131 : Int64)))])) tg → Steps p.tables e below (s₁.setTop (mkF m 0 #[.val (.long q1), .second, .val (.long q2), .second, .val (.int p3), .val (.int p4), .val (.int p5), .unset, .unset, .unset, .unset, .unset, .unset, .unset, .unset, .unset, .unset, .unset, .unset, .unset, .unset, .unset, .unset, .unset, .unset, .unset, .unset] [])) tg := by
      intro tg kt
      refine R401 _ ?_
      refine st402 _ ?_
      show Steps p.tables e below (T402.setTop (mkF m 155 #[.val (.long q1), .second, .val (.long q2), .second, .val (.int p3), .val (.int p4), .val (.int p5), .val (.int ca), .val (.int cb), .val (.ref s2), .val (.ref s3), .val (.ref ob), .val (.int (1 : Int32)), .val (.long (own_mix ((own_mix ((own_key q1 ca cb) + (q2 * (-7046029254386353131 : Int64)))) + (-7046029254386353131 : Int64)))), .second, .val (.long (own_mix (((own_mix ((own_key q1 ca cb) + (q2 * (-7046029254386353131 : Int64)))) + (-7046029254386353131 : Int64)) + (-7046029254386353131 : Int64)))), .second, .val (.long (own_fc (own_fb (own_fc (-3750763034362895579 : Int64) ca) (0 : Int32)) cb)), .second, .val (.long (own_key q1 ca cb)), .second, .val (.long (own_mix ((own_key q1 ca cb) + (q2 * (-7046029254386353131 : Int64))))), .second, .unset, .unset, .unset, .unset] [(.long (own_mix ((own_mix ((own_key q1 ca cb) + (q2 * (-7046029254386353131 : Int64)))) + (-7046029254386353131 : Int64))))])) _
      refine XS.lstore X402.here hx rfl (hb hby at_155) rfl (l' := #[.val (.long q1), .second, .val (.long q2), .second, .val (.int p3), .val (.int p4), .val (.int p5), .val (.int ca), .val (.int cb), .val (.ref s2), .val (.ref s3), .val (.ref ob), .val (.int (1 : Int32)), .val (.long (own_mix ((own_mix ((own_key q1 ca cb) + (q2 * (-7046029254386353131 : Int64)))) + (-7046029254386353131 : Int64)))), .second, .val (.long (own_mix (((own_mix ((own_key q1 ca cb) + (q2 * (-7046029254386353131 : Int64)))) + (-7046029254386353131 : Int64)) + (-7046029254386353131 : Int64)))), .second, .val (.long (own_fc (own_fb (own_fc (-3750763034362895579 : Int64) ca) (0 : Int32)) cb)), .second, .val (.long (own_key q1 ca cb)), .second, .val (.long (own_mix ((own_key q1 ca cb) + (q2 * (-7046029254386353131 : Int64))))), .second, .val (.long (own_mix ((own_mix ((own_key q1 ca cb) + (q2 * (-7046029254386353131 : Int64)))) + (-7046029254386353131 : Int64)))), .second, .unset, .unset]) rfl ?_
      refine XS.lload X402.here hx rfl (hb hby at_157) rfl ?_
      show Steps p.tables e below (T402.setTop (mkF m 159 #[.val (.long q1), .second, .val (.long q2), .second, .val (.int p3), .val (.int p4), .val (.int p5), .val (.int ca), .val (.int cb), .val (.ref s2), .val (.ref s3), .val (.ref ob), .val (.int (1 : Int32)), .val (.long (own_mix ((own_mix ((own_key q1 ca cb) + (q2 * (-7046029254386353131 : Int64)))) + (-7046029254386353131 : Int64)))), .second, .val (.long (own_mix (((own_mix ((own_key q1 ca cb) + (q2 * (-7046029254386353131 : Int64)))) + (-7046029254386353131 : Int64)) + (-7046029254386353131 : Int64)))), .second, .val (.long (own_fc (own_fb (own_fc (-3750763034362895579 : Int64) ca) (0 : Int32)) cb)), .second, .val (.long (own_key q1 ca cb)), .second, .val (.long (own_mix ((own_key q1 ca cb) + (q2 * (-7046029254386353131 : Int64))))), .second, .val (.long (own_mix ((own_mix ((own_key q1 ca cb) + (q2 * (-7046029254386353131 : Int64)))) + (-7046029254386353131 : Int64)))), .second, .unset, .unset] [(.long (own_mix ((own_key q1 ca cb) + (q2 * (-7046029254386353131 : Int64)))))])) _
      refine X402.ldc2Long hx hown (mvT hZ (hw _ (List.mem_of_getElem? (i := 114) rfl))) (g := (mkF m 159 #[.val (.long q1), .second, .val (.long q2), .second, .val (.int p3), .val (.int p4), .val (.int p5), .val (.int ca), .val (.int cb), .val (.ref s2), .val (.ref s3), .val (.ref ob), .val (.int (1 : Int32)), .val (.long (own_mix ((own_mix ((own_key q1 ca cb) + (q2 * (-7046029254386353131 : Int64)))) + (-7046029254386353131 : Int64)))), .second, .val (.long (own_mix (((own_mix ((own_key q1 ca cb) + (q2 * (-7046029254386353131 : Int64)))) + (-7046029254386353131 : Int64)) + (-7046029254386353131 : Int64)))), .second, .val (.long (own_fc (own_fb (own_fc (-3750763034362895579 : Int64) ca) (0 : Int32)) cb)), .second, .val (.long (own_key q1 ca cb)), .second, .val (.long (own_mix ((own_key q1 ca cb) + (q2 * (-7046029254386353131 : Int64))))), .second, .val (.long (own_mix ((own_mix ((own_key q1 ca cb) + (q2 * (-7046029254386353131 : Int64)))) + (-7046029254386353131 : Int64)))), .second, .unset, .unset] [(.long (own_mix ((own_key q1 ca cb) + (q2 * (-7046029254386353131 : Int64)))))])) rfl (hb hby at_159) _ ?_
      show Steps p.tables e below (T402.setTop (mkF m 162 #[.val (.long q1), .second, .val (.long q2), .second, .val (.int p3), .val (.int p4), .val (.int p5), .val (.int ca), .val (.int cb), .val (.ref s2), .val (.ref s3), .val (.ref ob), .val (.int (1 : Int32)), .val (.long (own_mix ((own_mix ((own_key q1 ca cb) + (q2 * (-7046029254386353131 : Int64)))) + (-7046029254386353131 : Int64)))), .second, .val (.long (own_mix (((own_mix ((own_key q1 ca cb) + (q2 * (-7046029254386353131 : Int64)))) + (-7046029254386353131 : Int64)) + (-7046029254386353131 : Int64)))), .second, .val (.long (own_fc (own_fb (own_fc (-3750763034362895579 : Int64) ca) (0 : Int32)) cb)), .second, .val (.long (own_key q1 ca cb)), .second, .val (.long (own_mix ((own_key q1 ca cb) + (q2 * (-7046029254386353131 : Int64))))), .second, .val (.long (own_mix ((own_mix ((own_key q1 ca cb) + (q2 * (-7046029254386353131 : Int64)))) + (-7046029254386353131 : Int64)))), .second, .unset, .unset] [(.long (-7046029254386353131 : Int64)), (.long (own_mix ((own_key q1 ca cb) + (q2 * (-7046029254386353131 : Int64)))))])) _
      refine XS.ladd X402.here hx rfl (hb hby at_162) rfl ?_
      show Steps p.tables e below (T402.setTop (mkF m 163 #[.val (.long q1), .second, .val (.long q2), .second, .val (.int p3), .val (.int p4), .val (.int p5), .val (.int ca), .val (.int cb), .val (.ref s2), .val (.ref s3), .val (.ref ob), .val (.int (1 : Int32)), .val (.long (own_mix ((own_mix ((own_key q1 ca cb) + (q2 * (-7046029254386353131 : Int64)))) + (-7046029254386353131 : Int64)))), .second, .val (.long (own_mix (((own_mix ((own_key q1 ca cb) + (q2 * (-7046029254386353131 : Int64)))) + (-7046029254386353131 : Int64)) + (-7046029254386353131 : Int64)))), .second, .val (.long (own_fc (own_fb (own_fc (-3750763034362895579 : Int64) ca) (0 : Int32)) cb)), .second, .val (.long (own_key q1 ca cb)), .second, .val (.long (own_mix ((own_key q1 ca cb) + (q2 * (-7046029254386353131 : Int64))))), .second, .val (.long (own_mix ((own_mix ((own_key q1 ca cb) + (q2 * (-7046029254386353131 : Int64)))) + (-7046029254386353131 : Int64)))), .second, .unset, .unset] [(.long ((own_mix ((own_key q1 ca cb) + (q2 * (-7046029254386353131 : Int64)))) + (-7046029254386353131 : Int64)))])) _
      refine X402.ldc2Long hx hown (mvT hZ (hw _ (List.mem_of_getElem? (i := 114) rfl))) (g := (mkF m 163 #[.val (.long q1), .second, .val (.long q2), .second, .val (.int p3), .val (.int p4), .val (.int p5), .val (.int ca), .val (.int cb), .val (.ref s2), .val (.ref s3), .val (.ref ob), .val (.int (1 : Int32)), .val (.long (own_mix ((own_mix ((own_key q1 ca cb) + (q2 * (-7046029254386353131 : Int64)))) + (-7046029254386353131 : Int64)))), .second, .val (.long (own_mix (((own_mix ((own_key q1 ca cb) + (q2 * (-7046029254386353131 : Int64)))) + (-7046029254386353131 : Int64)) + (-7046029254386353131 : Int64)))), .second, .val (.long (own_fc (own_fb (own_fc (-3750763034362895579 : Int64) ca) (0 : Int32)) cb)), .second, .val (.long (own_key q1 ca cb)), .second, .val (.long (own_mix ((own_key q1 ca cb) + (q2 * (-7046029254386353131 : Int64))))), .second, .val (.long (own_mix ((own_mix ((own_key q1 ca cb) + (q2 * (-7046029254386353131 : Int64)))) + (-7046029254386353131 : Int64)))), .second, .unset, .unset] [(.long ((own_mix ((own_key q1 ca cb) + (q2 * (-7046029254386353131 : Int64)))) + (-7046029254386353131 : Int64)))])) rfl (hb hby at_163) _ ?_
      show Steps p.tables e below (T402.setTop (mkF m 166 #[.val (.long q1), .second, .val (.long q2), .second, .val (.int p3), .val (.int p4), .val (.int p5), .val (.int ca), .val (.int cb), .val (.ref s2), .val (.ref s3), .val (.ref ob), .val (.int (1 : Int32)), .val (.long (own_mix ((own_mix ((own_key q1 ca cb) + (q2 * (-7046029254386353131 : Int64)))) + (-7046029254386353131 : Int64)))), .second, .val (.long (own_mix (((own_mix ((own_key q1 ca cb) + (q2 * (-7046029254386353131 : Int64)))) + (-7046029254386353131 : Int64)) + (-7046029254386353131 : Int64)))), .second, .val (.long (own_fc (own_fb (own_fc (-3750763034362895579 : Int64) ca) (0 : Int32)) cb)), .second, .val (.long (own_key q1 ca cb)), .second, .val (.long (own_mix ((own_key q1 ca cb) + (q2 * (-7046029254386353131 : Int64))))), .second, .val (.long (own_mix ((own_mix ((own_key q1 ca cb) + (q2 * (-7046029254386353131 : Int64)))) + (-7046029254386353131 : Int64)))), .second, .unset, .unset] [(.long (-7046029254386353131 : Int64)), (.long ((own_mix ((own_key q1 ca cb) + (q2 * (-7046029254386353131 : Int64)))) + (-7046029254386353131 : Int64)))])) _
      refine XS.ladd X402.here hx rfl (hb hby at_166) rfl ?_
      exact kt
    clear R401 st402
    obtain ⟨_, _, ⟨T404, L404, k404, n404⟩, -, X404, ⟨Lc404, hQ404, l404, y404, z404⟩, st404⟩ := Jvm.LawKit.callS X402 hx (y := (⟨"com/example/loadloom/loadloom/DrawsNextPinLaw", "mix", "(J)J"⟩ : MethodName)) hown (mvT hZ (hw _ (List.mem_of_getElem? (i := 109) rfl))) (mvT hZ (hw _ (List.mem_of_getElem? (i := 110) rfl))) (mvT hZ (hw _ (List.mem_of_getElem? (i := 103) rfl))) (mvT hZ (hw _ (List.mem_of_getElem? (i := 111) rfl))) (by decide) (backOf (W := 0) (rm_mixL l Z a0 hw [] (((own_mix ((own_key q1 ca cb) + (q2 * (-7046029254386353131 : Int64)))) + (-7046029254386353131 : Int64)) + (-7046029254386353131 : Int64)) T385.heap n0 Zs386) hZ (hw _ (List.mem_of_getElem? (i := 111) rfl)) (hw _ (List.mem_of_getElem? (i := 103) rfl)) (by decide) (by decide)) (g := (mkF m 167 #[.val (.long q1), .second, .val (.long q2), .second, .val (.int p3), .val (.int p4), .val (.int p5), .val (.int ca), .val (.int cb), .val (.ref s2), .val (.ref s3), .val (.ref ob), .val (.int (1 : Int32)), .val (.long (own_mix ((own_mix ((own_key q1 ca cb) + (q2 * (-7046029254386353131 : Int64)))) + (-7046029254386353131 : Int64)))), .second, .val (.long (own_mix (((own_mix ((own_key q1 ca cb) + (q2 * (-7046029254386353131 : Int64)))) + (-7046029254386353131 : Int64)) + (-7046029254386353131 : Int64)))), .second, .val (.long (own_fc (own_fb (own_fc (-3750763034362895579 : Int64) ca) (0 : Int32)) cb)), .second, .val (.long (own_key q1 ca cb)), .second, .val (.long (own_mix ((own_key q1 ca cb) + (q2 * (-7046029254386353131 : Int64))))), .second, .val (.long (own_mix ((own_mix ((own_key q1 ca cb) + (q2 * (-7046029254386353131 : Int64)))) + (-7046029254386353131 : Int64)))), .second, .unset, .unset] [(.long (((own_mix ((own_key q1 ca cb) + (q2 * (-7046029254386353131 : Int64)))) + (-7046029254386353131 : Int64)) + (-7046029254386353131 : Int64)))])) rfl (by rw [hml]; rfl) (argsL := [(.long (((own_mix ((own_key q1 ca cb) + (q2 * (-7046029254386353131 : Int64)))) + (-7046029254386353131 : Int64)) + (-7046029254386353131 : Int64)))]) (rest := []) (lenOf pd_13 rfl) rfl (by show 2 * 0 + _ ≤ _; exact Nat.le_of_eq rfl) (hb hby at_167) (fun _ _ => ⟨rfl, hh402, (by decide : 9 + 0 ≤ _), (by decide : 22 + 0 ≤ _)⟩)
    dsimp only [Pt.U, Pt.locs, Pt.cells, Pt.slots] at X404 l404 y404 z404 st404 hQ404
    rw [l404, y404, z404] at X404
    obtain ⟨rfl, N404q, hh404⟩ := hQ404
    have N404 := Fr.app N402 N404q
    have R405 : ∀ tg, Steps p.tables e below (T404.setTop (mkF m 193 #[.val (.long q1), .second, .val (.long q2), .second, .val (.int p3), .val (.int p4), .val (.int p5), .val (.int ca), .val (.int cb), .val (.ref s2), .val (.ref s3), .val (.ref ob), .val (.int (1 : Int32)), .val (.long (own_mix ((own_mix ((own_key q1 ca cb) + (q2 * (-7046029254386353131 : Int64)))) + (-7046029254386353131 : Int64)))), .second, .val (.long (own_mix (((own_mix ((own_key q1 ca cb) + (q2 * (-7046029254386353131 : Int64)))) + (-7046029254386353131 : Int64)) + (-7046029254386353131 : Int64)))), .second, .val (.long (own_fc (own_fb (own_fc (-3750763034362895579 : Int64) ca) (0 : Int32)) cb)), .second, .val (.long (own_key q1 ca cb)), .second, .val (.long (own_mix ((own_key q1 ca cb) + (q2 * (-7046029254386353131 : Int64))))), .second, .val (.long (own_mix ((own_mix ((own_key q1 ca cb) + (q2 * (-7046029254386353131 : Int64)))) + (-7046029254386353131 : Int64)))), .second, .val (.long (own_mix (((own_mix ((own_key q1 ca cb) + (q2 * (-7046029254386353131 : Int64)))) + (-7046029254386353131 : Int64)) + (-7046029254386353131 : Int64)))), .second] [(.int (1 : Int32))])) tg → Steps p.tables e below (s₁.setTop (mkF m 0 #[.val (.long q1), .second, .val (.long q2), .second, .val (.int p3), .val (.int p4), .val (.int p5), .unset, .unset, .unset, .unset, .unset, .unset, .unset, .unset, .unset, .unset, .unset, .unset, .unset, .unset, .unset, .unset, .unset, .unset, .unset, .unset] [])) tg := by
      intro tg kt
      refine R403 _ ?_
      refine st404 _ ?_
      show Steps p.tables e below (T404.setTop (mkF m 170 #[.val (.long q1), .second, .val (.long q2), .second, .val (.int p3), .val (.int p4), .val (.int p5), .val (.int ca), .val (.int cb), .val (.ref s2), .val (.ref s3), .val (.ref ob), .val (.int (1 : Int32)), .val (.long (own_mix ((own_mix ((own_key q1 ca cb) + (q2 * (-7046029254386353131 : Int64)))) + (-7046029254386353131 : Int64)))), .second, .val (.long (own_mix (((own_mix ((own_key q1 ca cb) + (q2 * (-7046029254386353131 : Int64)))) + (-7046029254386353131 : Int64)) + (-7046029254386353131 : Int64)))), .second, .val (.long (own_fc (own_fb (own_fc (-3750763034362895579 : Int64) ca) (0 : Int32)) cb)), .second, .val (.long (own_key q1 ca cb)), .second, .val (.long (own_mix ((own_key q1 ca cb) + (q2 * (-7046029254386353131 : Int64))))), .second, .val (.long (own_mix ((own_mix ((own_key q1 ca cb) + (q2 * (-7046029254386353131 : Int64)))) + (-7046029254386353131 : Int64)))), .second, .unset, .unset] [(.long (own_mix (((own_mix ((own_key q1 ca cb) + (q2 * (-7046029254386353131 : Int64)))) + (-7046029254386353131 : Int64)) + (-7046029254386353131 : Int64))))])) _
      refine XS.lstore X404.here hx rfl (hb hby at_170) rfl (l' := #[.val (.long q1), .second, .val (.long q2), .second, .val (.int p3), .val (.int p4), .val (.int p5), .val (.int ca), .val (.int cb), .val (.ref s2), .val (.ref s3), .val (.ref ob), .val (.int (1 : Int32)), .val (.long (own_mix ((own_mix ((own_key q1 ca cb) + (q2 * (-7046029254386353131 : Int64)))) + (-7046029254386353131 : Int64)))), .second, .val (.long (own_mix (((own_mix ((own_key q1 ca cb) + (q2 * (-7046029254386353131 : Int64)))) + (-7046029254386353131 : Int64)) + (-7046029254386353131 : Int64)))), .second, .val (.long (own_fc (own_fb (own_fc (-3750763034362895579 : Int64) ca) (0 : Int32)) cb)), .second, .val (.long (own_key q1 ca cb)), .second, .val (.long (own_mix ((own_key q1 ca cb) + (q2 * (-7046029254386353131 : Int64))))), .second, .val (.long (own_mix ((own_mix ((own_key q1 ca cb) + (q2 * (-7046029254386353131 : Int64)))) + (-7046029254386353131 : Int64)))), .second, .val (.long (own_mix (((own_mix ((own_key q1 ca cb) + (q2 * (-7046029254386353131 : Int64)))) + (-7046029254386353131 : Int64)) + (-7046029254386353131 : Int64)))), .second]) rfl ?_
      refine XS.lload X404.here hx rfl (hb hby at_172) rfl ?_
      refine XS.lload X404.here hx rfl (hb hby at_174) rfl ?_
      show Steps p.tables e below (T404.setTop (mkF m 176 #[.val (.long q1), .second, .val (.long q2), .second, .val (.int p3), .val (.int p4), .val (.int p5), .val (.int ca), .val (.int cb), .val (.ref s2), .val (.ref s3), .val (.ref ob), .val (.int (1 : Int32)), .val (.long (own_mix ((own_mix ((own_key q1 ca cb) + (q2 * (-7046029254386353131 : Int64)))) + (-7046029254386353131 : Int64)))), .second, .val (.long (own_mix (((own_mix ((own_key q1 ca cb) + (q2 * (-7046029254386353131 : Int64)))) + (-7046029254386353131 : Int64)) + (-7046029254386353131 : Int64)))), .second, .val (.long (own_fc (own_fb (own_fc (-3750763034362895579 : Int64) ca) (0 : Int32)) cb)), .second, .val (.long (own_key q1 ca cb)), .second, .val (.long (own_mix ((own_key q1 ca cb) + (q2 * (-7046029254386353131 : Int64))))), .second, .val (.long (own_mix ((own_mix ((own_key q1 ca cb) + (q2 * (-7046029254386353131 : Int64)))) + (-7046029254386353131 : Int64)))), .second, .val (.long (own_mix (((own_mix ((own_key q1 ca cb) + (q2 * (-7046029254386353131 : Int64)))) + (-7046029254386353131 : Int64)) + (-7046029254386353131 : Int64)))), .second] [(.long (own_mix ((own_mix ((own_key q1 ca cb) + (q2 * (-7046029254386353131 : Int64)))) + (-7046029254386353131 : Int64)))), (.long (own_mix ((own_mix ((own_key q1 ca cb) + (q2 * (-7046029254386353131 : Int64)))) + (-7046029254386353131 : Int64))))])) _
      refine XS.lcmp X404.here hx rfl (hb hby at_176) rfl ?_
      show Steps p.tables e below (T404.setTop (mkF m 177 #[.val (.long q1), .second, .val (.long q2), .second, .val (.int p3), .val (.int p4), .val (.int p5), .val (.int ca), .val (.int cb), .val (.ref s2), .val (.ref s3), .val (.ref ob), .val (.int (1 : Int32)), .val (.long (own_mix ((own_mix ((own_key q1 ca cb) + (q2 * (-7046029254386353131 : Int64)))) + (-7046029254386353131 : Int64)))), .second, .val (.long (own_mix (((own_mix ((own_key q1 ca cb) + (q2 * (-7046029254386353131 : Int64)))) + (-7046029254386353131 : Int64)) + (-7046029254386353131 : Int64)))), .second, .val (.long (own_fc (own_fb (own_fc (-3750763034362895579 : Int64) ca) (0 : Int32)) cb)), .second, .val (.long (own_key q1 ca cb)), .second, .val (.long (own_mix ((own_key q1 ca cb) + (q2 * (-7046029254386353131 : Int64))))), .second, .val (.long (own_mix ((own_mix ((own_key q1 ca cb) + (q2 * (-7046029254386353131 : Int64)))) + (-7046029254386353131 : Int64)))), .second, .val (.long (own_mix (((own_mix ((own_key q1 ca cb) + (q2 * (-7046029254386353131 : Int64)))) + (-7046029254386353131 : Int64)) + (-7046029254386353131 : Int64)))), .second] [(.int (lcmpW (own_mix ((own_mix ((own_key q1 ca cb) + (q2 * (-7046029254386353131 : Int64)))) + (-7046029254386353131 : Int64))) (own_mix ((own_mix ((own_key q1 ca cb) + (q2 * (-7046029254386353131 : Int64)))) + (-7046029254386353131 : Int64)))))])) _
      refine XS.ifNo X404.here hx rfl (hb hby at_177) rfl ((if0 _ _).trans (teq ((lw_eq _ _).mpr rfl : (lcmpW (own_mix ((own_mix ((own_key q1 ca cb) + (q2 * (-7046029254386353131 : Int64)))) + (-7046029254386353131 : Int64))) (own_mix ((own_mix ((own_key q1 ca cb) + (q2 * (-7046029254386353131 : Int64)))) + (-7046029254386353131 : Int64)))) = (0 : Int32))).2) ?_
      refine XS.lload X404.here hx rfl (hb hby at_180) rfl ?_
      refine XS.lload X404.here hx rfl (hb hby at_182) rfl ?_
      show Steps p.tables e below (T404.setTop (mkF m 184 #[.val (.long q1), .second, .val (.long q2), .second, .val (.int p3), .val (.int p4), .val (.int p5), .val (.int ca), .val (.int cb), .val (.ref s2), .val (.ref s3), .val (.ref ob), .val (.int (1 : Int32)), .val (.long (own_mix ((own_mix ((own_key q1 ca cb) + (q2 * (-7046029254386353131 : Int64)))) + (-7046029254386353131 : Int64)))), .second, .val (.long (own_mix (((own_mix ((own_key q1 ca cb) + (q2 * (-7046029254386353131 : Int64)))) + (-7046029254386353131 : Int64)) + (-7046029254386353131 : Int64)))), .second, .val (.long (own_fc (own_fb (own_fc (-3750763034362895579 : Int64) ca) (0 : Int32)) cb)), .second, .val (.long (own_key q1 ca cb)), .second, .val (.long (own_mix ((own_key q1 ca cb) + (q2 * (-7046029254386353131 : Int64))))), .second, .val (.long (own_mix ((own_mix ((own_key q1 ca cb) + (q2 * (-7046029254386353131 : Int64)))) + (-7046029254386353131 : Int64)))), .second, .val (.long (own_mix (((own_mix ((own_key q1 ca cb) + (q2 * (-7046029254386353131 : Int64)))) + (-7046029254386353131 : Int64)) + (-7046029254386353131 : Int64)))), .second] [(.long (own_mix (((own_mix ((own_key q1 ca cb) + (q2 * (-7046029254386353131 : Int64)))) + (-7046029254386353131 : Int64)) + (-7046029254386353131 : Int64)))), (.long (own_mix (((own_mix ((own_key q1 ca cb) + (q2 * (-7046029254386353131 : Int64)))) + (-7046029254386353131 : Int64)) + (-7046029254386353131 : Int64))))])) _
      refine XS.lcmp X404.here hx rfl (hb hby at_184) rfl ?_
      show Steps p.tables e below (T404.setTop (mkF m 185 #[.val (.long q1), .second, .val (.long q2), .second, .val (.int p3), .val (.int p4), .val (.int p5), .val (.int ca), .val (.int cb), .val (.ref s2), .val (.ref s3), .val (.ref ob), .val (.int (1 : Int32)), .val (.long (own_mix ((own_mix ((own_key q1 ca cb) + (q2 * (-7046029254386353131 : Int64)))) + (-7046029254386353131 : Int64)))), .second, .val (.long (own_mix (((own_mix ((own_key q1 ca cb) + (q2 * (-7046029254386353131 : Int64)))) + (-7046029254386353131 : Int64)) + (-7046029254386353131 : Int64)))), .second, .val (.long (own_fc (own_fb (own_fc (-3750763034362895579 : Int64) ca) (0 : Int32)) cb)), .second, .val (.long (own_key q1 ca cb)), .second, .val (.long (own_mix ((own_key q1 ca cb) + (q2 * (-7046029254386353131 : Int64))))), .second, .val (.long (own_mix ((own_mix ((own_key q1 ca cb) + (q2 * (-7046029254386353131 : Int64)))) + (-7046029254386353131 : Int64)))), .second, .val (.long (own_mix (((own_mix ((own_key q1 ca cb) + (q2 * (-7046029254386353131 : Int64)))) + (-7046029254386353131 : Int64)) + (-7046029254386353131 : Int64)))), .second] [(.int (lcmpW (own_mix (((own_mix ((own_key q1 ca cb) + (q2 * (-7046029254386353131 : Int64)))) + (-7046029254386353131 : Int64)) + (-7046029254386353131 : Int64))) (own_mix (((own_mix ((own_key q1 ca cb) + (q2 * (-7046029254386353131 : Int64)))) + (-7046029254386353131 : Int64)) + (-7046029254386353131 : Int64)))))])) _
      refine XS.ifNo X404.here hx rfl (hb hby at_185) rfl ((if0 _ _).trans (teq ((lw_eq _ _).mpr rfl : (lcmpW (own_mix (((own_mix ((own_key q1 ca cb) + (q2 * (-7046029254386353131 : Int64)))) + (-7046029254386353131 : Int64)) + (-7046029254386353131 : Int64))) (own_mix (((own_mix ((own_key q1 ca cb) + (q2 * (-7046029254386353131 : Int64)))) + (-7046029254386353131 : Int64)) + (-7046029254386353131 : Int64)))) = (0 : Int32))).2) ?_
      refine XS.iconst X404.here hx rfl (hb hby at_188) ?_
      show Steps p.tables e below (T404.setTop (mkF m 189 #[.val (.long q1), .second, .val (.long q2), .second, .val (.int p3), .val (.int p4), .val (.int p5), .val (.int ca), .val (.int cb), .val (.ref s2), .val (.ref s3), .val (.ref ob), .val (.int (1 : Int32)), .val (.long (own_mix ((own_mix ((own_key q1 ca cb) + (q2 * (-7046029254386353131 : Int64)))) + (-7046029254386353131 : Int64)))), .second, .val (.long (own_mix (((own_mix ((own_key q1 ca cb) + (q2 * (-7046029254386353131 : Int64)))) + (-7046029254386353131 : Int64)) + (-7046029254386353131 : Int64)))), .second, .val (.long (own_fc (own_fb (own_fc (-3750763034362895579 : Int64) ca) (0 : Int32)) cb)), .second, .val (.long (own_key q1 ca cb)), .second, .val (.long (own_mix ((own_key q1 ca cb) + (q2 * (-7046029254386353131 : Int64))))), .second, .val (.long (own_mix ((own_mix ((own_key q1 ca cb) + (q2 * (-7046029254386353131 : Int64)))) + (-7046029254386353131 : Int64)))), .second, .val (.long (own_mix (((own_mix ((own_key q1 ca cb) + (q2 * (-7046029254386353131 : Int64)))) + (-7046029254386353131 : Int64)) + (-7046029254386353131 : Int64)))), .second] [(.int (1 : Int32))])) _
      refine XS.goto X404.here hx rfl (pc0 := 189) (pc' := 193) rfl (hb hby at_189) (by decide) (by decide) ?_
      exact kt
    clear R403 st404
    obtain ⟨fs, hr, hrun, hended, hW, hsame⟩ := X404.leave (v := some (.int (1 : Int32))) (fun h => by rw [Bd.returns] at h; cases h)
    refine ⟨_, _, pre0 _ (R405 _ ?_), hrun, hended, _, _, rfl, ?_, ⟨_, rfl⟩, hW, hsame.mono (by decide) (by decide)⟩
    · exact retN X404 hx (t := .boolean) Bd.returns (by simp) (hb hby at_193) hr
    · show Q_rm_law Z q1 q2 p3 p4 p5 uu cs sw gw h0 n0 _ T404.heap _
      rw [hh404]
      exact ⟨rfl, N404⟩
set_option maxRecDepth 65536 in
set_option maxHeartbeats 40000000 in
theorem comes_1 {Post : Tables → Env → Array Value → State → Outcome → State → Prop} (hpost : ∀ tb e args s v u, (limb_1_1.after args s (.returned v) u = true ∧ limb_1_2.after args s (.returned v) u = true ∧ True) → FrameEnd s (.returned v) u (Jvm.fieldLocs frame_1_writes args s ++ Jvm.arrayLocs frame_1_arrays args s ++ Jvm.staticLocs frame_1_statics s) 32 128 → Post tb e args s (.returned v) u) :
    ArmFor flags0 classFile x code maxLocals ret World_1 tables_1 room_1 Calls_1 rest_1 Pre_1 Post := by
  intro l hfl _ _ p e ha hc hk s m args below hf hA hF happ hP
  obtain ⟨hcalls, hrest, hpre⟩ := hP
  obtain ⟨-, -, -, hnamed, -, -, -, hat⟩ := (Spec.applies_iff hf).mp happ
  obtain ⟨hg, hn⟩ := and_e (Cond.before_iff.mp (show (Jvm.Cond.and given_1 narrow_1).before args s = true from hpre))
  obtain ⟨gc, gr0⟩ := and_e hg
  obtain ⟨ga0, gr1⟩ := and_e gr0
  obtain ⟨ga1, gr2⟩ := and_e gr1
  obtain ⟨ga2, gr3⟩ := and_e gr2
  obtain ⟨ga3, gr4⟩ := and_e gr3
  obtain ⟨w0, w1, w2, w3, w4, rfl⟩ : ∃ w0 w1 w2 w3 w4 : Value, args = #[w0, w1, w2, w3, w4] := by
    have hs : args.size = 5 := by simpa [Cond.value, given_1] using gc
    obtain ⟨L⟩ := args
    match L, hs with
    | [w0, w1, w2, w3, w4], _ => exact ⟨w0, w1, w2, w3, w4, rfl⟩
  have hw := fun d (hd : d ∈ tables_1) => atoms_spec (ws := Jvm.Cond.code x code maxLocals ret :: tables_1) hat d (List.mem_cons_of_mem _ hd)
  have hfit : Fit s := fun {y c} hc i hi => by
    obtain ⟨ha, rfl⟩ := Array.getElem?_eq_some_iff.mp hc
    have q := List.all_eq_true.mp ((Array.all_eq_true_iff_forall_mem.mp hF) _ (Array.getElem_mem ha)) i (List.mem_range.mpr hi)
    simpa [Array.getElem?_eq_getElem hi] using q
  obtain ⟨hsets, hown0⟩ := atoms_of _ (rest_1_c_eq ▸ (show rest_1_c.before _ s = true from hrest))
  have hr0 := Cond.before_iff.mp hown0
  obtain ⟨i0, ei0⟩ := isL_v ga0
  obtain rfl : w0 = (.long i0) := Option.some.inj ei0
  obtain ⟨i1, ei1⟩ := isL_v ga1
  obtain rfl : w1 = (.long i1) := Option.some.inj ei1
  obtain ⟨i2, ei2⟩ := is_v ga2
  obtain rfl : w2 = (.int i2) := Option.some.inj ei2
  obtain ⟨i3, ei3⟩ := is_v ga3
  obtain rfl : w3 = (.int i3) := Option.some.inj ei3
  obtain ⟨i4, ei4⟩ := is_v gr4
  obtain rfl : w4 = (.int i4) := Option.some.inj ei4
  obtain ⟨cs, ecs⟩ := is_v (Cond.before_iff.mp (hsets _ (List.mem_of_getElem? (i := 1) rfl)))
  have SC := Sta.start ecs (Or.inl (hsets _ (List.mem_of_getElem? (i := 0) rfl)))
  have hcs : ¬ (cs = (0 : Int32)) := gotF (Cond.eq_ints ecs (Term.int_eval (0))) (not_v (Cond.before_iff.mp (hsets _ (List.mem_of_getElem? (i := 2) rfl))))
  obtain ⟨uu, euu⟩ := exa_v (Cond.before_iff.mp (hsets _ (List.mem_of_getElem? (i := 14) rfl)))
  obtain ⟨ui, eui⟩ := exa_v (Cond.before_iff.mp (hsets _ (List.mem_of_getElem? (i := 17) rfl)))
  have huu := gotT (eq_R euu eui rfl rfl) (Cond.before_iff.mp (hsets _ (List.mem_of_getElem? (i := 13) rfl)))
  obtain rfl : uu = ui := Value.ref.inj huu
  have SU := Sta.start euu (Or.inl (hsets _ (List.mem_of_getElem? (i := 10) rfl)))
  have SI := Sta.start eui (Or.inl (hsets _ (List.mem_of_getElem? (i := 12) rfl)))
  obtain ⟨x1, y1⟩ := and_e (show (Jvm.Cond.and _ _).value _ s none s [] = some true from hn)
  obtain ⟨x2, y2⟩ := and_e y1
  obtain ⟨sw, esw⟩ := arr_v x1
  obtain ⟨cw, Aw⟩ := Arr.start esw x1
  obtain ⟨gw, VW⟩ := own_word hfit Aw (own_wlen esw Aw (own_fe x2))
  have SW := Sta.start esw (Or.inr ⟨(hw _ (List.mem_of_getElem? (i := 28) rfl)), (hw _ (List.mem_of_getElem? (i := 93) rfl))⟩)
  obtain ⟨n, o, h1, h2, h3, _, L, rfl, ⟨rfl, N⟩, hq⟩ := rm_law l s _ hw tables_1 i0 i1 i2 i3 i4 uu cs sw gw s.heap s.heap.size (Nat.le_refl _) SW VW SC SU SI (Old.start s) hcs p e ha hc hk s m _ below hf ((Spec.applies_iff_loose hf).mp happ).1 ⟨rfl, State.Warmed39.refl s, rfl⟩ trivial
  refine ⟨n, _, h1, h2, h3, hpost _ _ _ _ _ _ ⟨Cond.after_iff.mpr rfl, Cond.after_iff.mpr (eq_i res_at (Term.int_eval (1)) rfl), trivial⟩ ⟨hq.1, hq.2.1, (hq.2.2.sift fun y hy => Or.inr (N y hy)).mono (by decide) (by decide)⟩⟩
theorem main_1_1 : Claimed_1_1 := comes_1 fun _ _ _ _ _ _ h hF => ⟨h.1, hF⟩
theorem main_1_2 : Claimed_1_2 := comes_1 fun _ _ _ _ _ _ h hF => ⟨h.2.1, hF⟩
end Jvm.Pilot.@@N@@
namespace Jvm.Pilot.@@N@@
open Jvm Jvm.ClassFile Sem Op Lib Jvm.Free Jvm.Stand Jvm.Pilot.@@N@@.Jvm.D
/-! MADE BY PROGRAM (witnessworld.py) out of the Statement's table words and the real class files: 26 classes; the members and pool entries that the words name. The judged class is class 1, her method 4. -/
namespace start1
open Jvm.ClassFile
def u (s : String) : CpInfo := .utf8 (stringToUtf16 s)
/-- a pool by its gaps: so many unusable entries, then the entry; so many at the end -/
def gap : Nat → List CpInfo → List CpInfo
  | 0, r => r
  | n + 1, r => .unusable :: gap n r
def poolList (es : List (Nat × CpInfo)) (last : Nat) : List CpInfo := es.foldr (fun e r => gap e.1 (e.2 :: r)) (gap last [])
def pool (es : List (Nat × CpInfo)) (last : Nat) : Array CpInfo := ⟨poolList es last⟩
def fileOf (pool : Array CpInfo) (this : Nat) (attrs : Array Attribute := #[]) (ms : Array MethodInfo := #[]) (fl : Nat := 33) (sup : Nat := 0) (ifs : Array Nat := #[]) (fds : Array FieldInfo := #[]) : ClassFile where
  minorVersion := 0
  majorVersion := 65
  constantPool := pool
  accessFlags := fl
  thisClass := this
  superClass := sup
  interfaces := ifs
  fields := fds
  methods := ms
  attributes := attrs
def plain (name : String) (sup : Option ClassId) : Class where
  name := name
  kind := .ordinary
  loader := none
  accessFlags := 33
  super := sup
  interfaces := #[]
  cf := none
  fields := #[]
  methods := #[]
  instanceTypes := #[]
  staticTypes := #[]
  resolved := #[]
  callSites := []
  init := .initialized
  statics := none
  mirror := none

def pool0 : Array CpInfo := pool [(5, u "<init>"), (0, u "()V"), (1, .class_ 10), (1, u "java/lang/Object"), (85, u "clone"), (0, u "()Ljava/lang/Object;")] 26

def k0c0 : Code := { maxStack := 0, maxLocals := 1, code := object_method_1_code, exceptionTable := #[], attributes := #[] }
def k0m0 : Method := { name := "<init>", desc := "()V", sig := { parameters := [], returnType := none }, accessFlags := 1, code := some k0c0 }
def k0m1 : Method := { name := "clone", desc := "()Ljava/lang/Object;", sig := { parameters := [], returnType := some (.object "java/lang/Object") }, accessFlags := 260, code := none }
/-- java/lang/Object -/
def k0 : Class := { plain "java/lang/Object" none with
  accessFlags := 33
  interfaces := #[]
  cf := some (fileOf pool0 8 #[] #[{ accessFlags := 1, nameIndex := 5, descriptorIndex := 6, attributes := #[] }, { accessFlags := 260, nameIndex := 96, descriptorIndex := 97, attributes := #[] }] 33 0 #[] #[])
  fields := #[]
  methods := #[k0m0, k0m1]
  instanceTypes := #[]
  staticTypes := #[]
  resolved := Array.replicate 124 none
  statics := none }

def pool1 : Array CpInfo := pool [(2, .class_ 4), (1, u "java/lang/Object"), (0, u "<init>"), (0, u "()V"), (0, .long 13787848793156543929), (1, .long 10723151780598845931), (1, .long 1099511628211), (1, .methodref 14 15), (0, .class_ 16), (0, .nameAndType 17 18), (0, u "com/example/loadloom/loadloom/DrawsNextPinLaw"), (0, u "fnvByte"), (0, u "(JI)J"), (0, .methodref 20 21), (0, .class_ 22), (0, .nameAndType 23 24), (0, u "java/lang/String"), (0, u "valueOf"), (0, u "(C)Ljava/lang/String;"), (0, .class_ 26), (0, u "com/example/loadloom/loadloom/Draws"), (0, .methodref 25 28), (0, .nameAndType 5 29), (0, u "(JLjava/lang/String;Ljava/lang/String;)V"), (0, .methodref 25 31), (0, .nameAndType 32 33), (0, u "startRow"), (0, u "(J)V"), (0, .methodref 25 35), (0, .nameAndType 36 37), (0, u "next"), (0, u "()J"), (0, .long 14695981039346656037), (1, .methodref 14 41), (0, .nameAndType 42 43), (0, u "fnvChar"), (0, u "(JC)J"), (0, .methodref 14 45), (0, .nameAndType 46 47), (0, u "mix"), (0, u "(J)J"), (0, .long 11400714819323198485), (4, u "law"), (0, u "(JJIII)Z")] 2

def k1m0 : Method := { name := "<init>", desc := "()V", sig := { parameters := [], returnType := none }, accessFlags := 1, code := none }
def k1c1 : Code := { maxStack := 5, maxLocals := 2, code := method_2_code, exceptionTable := #[], attributes := #[] }
def k1m1 : Method := { name := "mix", desc := "(J)J", sig := { parameters := [.long], returnType := some .long }, accessFlags := 10, code := some k1c1 }
def k1c2 : Code := { maxStack := 4, maxLocals := 3, code := method_3_code, exceptionTable := #[], attributes := #[] }
def k1m2 : Method := { name := "fnvByte", desc := "(JI)J", sig := { parameters := [.long, .int], returnType := some .long }, accessFlags := 10, code := some k1c2 }
def k1c3 : Code := { maxStack := 5, maxLocals := 3, code := method_4_code, exceptionTable := #[], attributes := #[] }
def k1m3 : Method := { name := "fnvChar", desc := "(JC)J", sig := { parameters := [.long, .char], returnType := some .long }, accessFlags := 10, code := some k1c3 }
def k1c4 : Code := { maxStack := 6, maxLocals := 27, code := code, exceptionTable := #[], attributes := #[] }
def k1m4 : Method := { name := "law", desc := "(JJIII)Z", sig := { parameters := [.long, .long, .int, .int, .int], returnType := some .boolean }, accessFlags := 9, code := some k1c4 }
/-- com/example/loadloom/loadloom/DrawsNextPinLaw -/
def k1 : Class := { plain "com/example/loadloom/loadloom/DrawsNextPinLaw" (some 0) with
  accessFlags := 49
  interfaces := #[]
  cf := some (fileOf pool1 14 #[] #[{ accessFlags := 1, nameIndex := 5, descriptorIndex := 6, attributes := #[] }, { accessFlags := 10, nameIndex := 46, descriptorIndex := 47, attributes := #[] }, { accessFlags := 10, nameIndex := 17, descriptorIndex := 18, attributes := #[] }, { accessFlags := 10, nameIndex := 42, descriptorIndex := 43, attributes := #[] }, { accessFlags := 9, nameIndex := 53, descriptorIndex := 54, attributes := #[] }] 49 2 #[] #[])
  fields := #[]
  methods := #[k1m0, k1m1, k1m2, k1m3, k1m4]
  instanceTypes := #[]
  staticTypes := #[]
  resolved := Array.replicate 57 none
  statics := none }

def pool2 : Array CpInfo := pool [(1, .class_ 2), (0, u "java/io/Serializable"), (0, .class_ 4), (0, u "java/lang/Object")] 2

/-- java/io/Serializable -/
def k2 : Class := { plain "java/io/Serializable" (some 0) with
  accessFlags := 1537
  interfaces := #[]
  cf := some (fileOf pool2 1 #[] #[] 1537 3 #[] #[])
  fields := #[]
  methods := #[]
  instanceTypes := #[]
  staticTypes := #[]
  resolved := Array.replicate 7 none
  statics := none }

def pool3 : Array CpInfo := pool [(1, .class_ 2), (0, u "java/lang/Comparable"), (0, .class_ 4), (0, u "java/lang/Object")] 7

/-- java/lang/Comparable -/
def k3 : Class := { plain "java/lang/Comparable" (some 0) with
  accessFlags := 1537
  interfaces := #[]
  cf := some (fileOf pool3 1 #[] #[] 1537 3 #[] #[])
  fields := #[]
  methods := #[]
  instanceTypes := #[]
  staticTypes := #[]
  resolved := Array.replicate 12 none
  statics := none }

def pool4 : Array CpInfo := pool [(2, .class_ 4), (1, u "java/lang/CharSequence"), (42, .class_ 48), (0, u "java/lang/CharSequence$1CodePointIterator"), (10, .class_ 60), (0, u "java/lang/CharSequence$1CharIterator"), (5, .class_ 67), (0, u "java/lang/Object")] 63

/-- java/lang/CharSequence -/
def k4 : Class := { plain "java/lang/CharSequence" (some 0) with
  accessFlags := 1537
  interfaces := #[]
  cf := some (fileOf pool4 2 #[.nestMembers #[47, 59]] #[] 1537 66 #[] #[])
  fields := #[]
  methods := #[]
  instanceTypes := #[]
  staticTypes := #[]
  resolved := Array.replicate 131 none
  statics := none }

def pool5 : Array CpInfo := pool [(1, .class_ 2), (0, u "java/lang/constant/Constable"), (0, .class_ 4), (0, u "java/lang/Object")] 6

/-- java/lang/constant/Constable -/
def k5 : Class := { plain "java/lang/constant/Constable" (some 0) with
  accessFlags := 1537
  interfaces := #[]
  cf := some (fileOf pool5 1 #[] #[] 1537 3 #[] #[])
  fields := #[]
  methods := #[]
  instanceTypes := #[]
  staticTypes := #[]
  resolved := Array.replicate 11 none
  statics := none }

def pool6 : Array CpInfo := pool [(1, .class_ 2), (0, u "java/lang/constant/ConstantDesc"), (0, .class_ 4), (0, u "java/lang/Object")] 32

/-- java/lang/constant/ConstantDesc -/
def k6 : Class := { plain "java/lang/constant/ConstantDesc" (some 0) with
  accessFlags := 1537
  interfaces := #[]
  cf := some (fileOf pool6 1 #[] #[] 1537 3 #[] #[])
  fields := #[]
  methods := #[]
  instanceTypes := #[]
  staticTypes := #[]
  resolved := Array.replicate 37 none
  statics := none }

def pool7 : Array CpInfo := pool [(1, .methodref 2 3), (0, .class_ 4), (0, .nameAndType 5 6), (0, u "java/lang/Object"), (0, u "<init>"), (0, u "()V"), (2, .fieldref 10 11), (0, .class_ 12), (0, .nameAndType 13 14), (0, u "java/lang/String"), (0, u "value"), (0, u "[B"), (0, .fieldref 10 16), (0, .nameAndType 17 18), (0, u "coder"), (0, u "B"), (2, u "hash"), (0, u "I"), (2, u "hashIsZero"), (0, u "Z"), (11, .fieldref 10 39), (0, .nameAndType 40 26), (0, u "COMPACT_STRINGS"), (1, .class_ 44), (1, u "java/lang/StringUTF16"), (8, u "toBytes"), (6, .methodref 42 61), (0, .nameAndType 62 63), (0, u "newBytesFor"), (0, u "(I)[B"), (22, .fieldref 87 88), (0, .class_ 89), (0, .nameAndType 90 91), (0, u "sun/nio/cs/UTF_8"), (0, u "INSTANCE"), (0, u "Lsun/nio/cs/UTF_8;"), (1, .class_ 95), (1, u "java/lang/StringCoding"), (11, .class_ 109), (1, u "java/lang/StringLatin1"), (18, .methodref 93 129), (0, .nameAndType 130 131), (0, u "hasNegatives"), (0, u "([BII)Z"), (77, .methodref 10 210), (0, .nameAndType 5 211), (0, u "([BB)V"), (40, .methodref 10 253), (0, .nameAndType 254 255), (0, u "encodeUTF8"), (0, u "(B[BZ)[B"), (23, .methodref 280 281), (0, .class_ 14), (0, .nameAndType 282 283), (0, u "clone"), (0, u "()Ljava/lang/Object;"), (33, u "encode"), (17, .methodref 10 336), (0, .nameAndType 17 337), (0, u "()B"), (31, u "(C)Z"), (162, u "getBytes"), (2, .methodref 10 536), (0, .nameAndType 317 537), (0, u "(Ljava/nio/charset/Charset;B[B)[B"), (37, .class_ 576), (0, u "java/lang/CharSequence"), (22, u "CASE_INSENSITIVE_ORDER"), (0, u "Ljava/util/Comparator;"), (181, u "valueOf"), (0, u "(C)Ljava/lang/String;"), (231, .methodref 107 1016), (0, .nameAndType 1017 369), (0, u "canEncode"), (0, .methodref 107 1019), (0, .nameAndType 53 1020), (0, u "(C)[B"), (80, u "serialPersistentFields"), (0, u "[Ljava/io/ObjectStreamField;"), (0, .class_ 1104), (0, u "java/lang/String$CaseInsensitiveComparator"), (1, .class_ 1107), (0, u "java/io/Serializable"), (0, .class_ 1109), (0, u "java/lang/Comparable"), (0, .class_ 1111), (0, u "java/lang/constant/Constable"), (0, .class_ 1113), (0, u "java/lang/constant/ConstantDesc"), (2, u "serialVersionUID"), (0, u "J"), (3, u "REPL"), (0, u "C"), (2, u "LATIN1"), (1, u "UTF16"), (117, u "(Ljava/nio/charset/Charset;)[B")] 205

def k7m0 : Method := { name := "<init>", desc := "()V", sig := { parameters := [], returnType := none }, accessFlags := 1, code := none }
def k7c1 : Code := { maxStack := 4, maxLocals := 3, code := jdk_42_method_18_code, exceptionTable := #[], attributes := #[] }
def k7m1 : Method := { name := "encode", desc := "(Ljava/nio/charset/Charset;B[B)[B", sig := { parameters := [(.object "java/nio/charset/Charset"), .byte, (.array .byte)], returnType := some (.array .byte) }, accessFlags := 10, code := some k7c1 }
def k7c2 : Code := { maxStack := 5, maxLocals := 9, code := jdk_42_method_46_code, exceptionTable := #[], attributes := #[] }
def k7m2 : Method := { name := "encodeUTF8", desc := "(B[BZ)[B", sig := { parameters := [.byte, (.array .byte), .boolean], returnType := some (.array .byte) }, accessFlags := 10, code := some k7c2 }
def k7c3 : Code := { maxStack := 3, maxLocals := 2, code := jdk_42_method_64_code, exceptionTable := #[], attributes := #[] }
def k7m3 : Method := { name := "getBytes", desc := "(Ljava/nio/charset/Charset;)[B", sig := { parameters := [(.object "java/nio/charset/Charset")], returnType := some (.array .byte) }, accessFlags := 1, code := some k7c3 }
def k7c4 : Code := { maxStack := 4, maxLocals := 1, code := jdk_42_method_139_code, exceptionTable := #[], attributes := #[] }
def k7m4 : Method := { name := "valueOf", desc := "(C)Ljava/lang/String;", sig := { parameters := [.char], returnType := some (.object "java/lang/String") }, accessFlags := 9, code := some k7c4 }
def k7c5 : Code := { maxStack := 2, maxLocals := 3, code := jdk_42_method_151_code, exceptionTable := #[], attributes := #[] }
def k7m5 : Method := { name := "<init>", desc := "([BB)V", sig := { parameters := [(.array .byte), .byte], returnType := none }, accessFlags := 0, code := some k7c5 }
def k7c6 : Code := { maxStack := 1, maxLocals := 1, code := jdk_42_method_152_code, exceptionTable := #[], attributes := #[] }
def k7m6 : Method := { name := "coder", desc := "()B", sig := { parameters := [], returnType := some .byte }, accessFlags := 0, code := some k7c6 }
/-- java/lang/String -/
def k7 : Class := { plain "java/lang/String" (some 0) with
  accessFlags := 49
  interfaces := #[2, 3, 4, 5, 6]
  cf := some (fileOf pool7 10 #[.nestMembers #[1103]] #[{ accessFlags := 1, nameIndex := 5, descriptorIndex := 6, attributes := #[] }, { accessFlags := 10, nameIndex := 317, descriptorIndex := 537, attributes := #[] }, { accessFlags := 10, nameIndex := 254, descriptorIndex := 255, attributes := #[] }, { accessFlags := 1, nameIndex := 532, descriptorIndex := 1245, attributes := #[] }, { accessFlags := 9, nameIndex := 782, descriptorIndex := 783, attributes := #[] }, { accessFlags := 0, nameIndex := 5, descriptorIndex := 211, attributes := #[] }, { accessFlags := 0, nameIndex := 17, descriptorIndex := 337, attributes := #[] }] 49 2 #[1106, 1108, 575, 1110, 1112] #[{ accessFlags := 18, nameIndex := 13, descriptorIndex := 14, attributes := #[] }, { accessFlags := 18, nameIndex := 17, descriptorIndex := 18, attributes := #[] }, { accessFlags := 2, nameIndex := 21, descriptorIndex := 22, attributes := #[] }, { accessFlags := 2, nameIndex := 25, descriptorIndex := 26, attributes := #[] }, { accessFlags := 26, nameIndex := 1116, descriptorIndex := 1117, attributes := #[] }, { accessFlags := 24, nameIndex := 40, descriptorIndex := 26, attributes := #[] }, { accessFlags := 26, nameIndex := 1101, descriptorIndex := 1102, attributes := #[] }, { accessFlags := 26, nameIndex := 1121, descriptorIndex := 1122, attributes := #[] }, { accessFlags := 25, nameIndex := 599, descriptorIndex := 600, attributes := #[] }, { accessFlags := 24, nameIndex := 1125, descriptorIndex := 18, attributes := #[] }, { accessFlags := 24, nameIndex := 1127, descriptorIndex := 18, attributes := #[] }])
  fields := #[{ name := "value", type := (.array .byte), accessFlags := 18, slot := 0, constantValue := 0 }, { name := "coder", type := .byte, accessFlags := 18, slot := 1, constantValue := 0 }, { name := "hash", type := .int, accessFlags := 2, slot := 2, constantValue := 0 }, { name := "hashIsZero", type := .boolean, accessFlags := 2, slot := 3, constantValue := 0 }, { name := "serialVersionUID", type := .long, accessFlags := 26, slot := 0, constantValue := 0 }, { name := "COMPACT_STRINGS", type := .boolean, accessFlags := 24, slot := 1, constantValue := 0 }, { name := "serialPersistentFields", type := (.array (.object "java/io/ObjectStreamField")), accessFlags := 26, slot := 2, constantValue := 0 }, { name := "REPL", type := .char, accessFlags := 26, slot := 3, constantValue := 0 }, { name := "CASE_INSENSITIVE_ORDER", type := (.object "java/util/Comparator"), accessFlags := 25, slot := 4, constantValue := 0 }, { name := "LATIN1", type := .byte, accessFlags := 24, slot := 5, constantValue := 0 }, { name := "UTF16", type := .byte, accessFlags := 24, slot := 6, constantValue := 0 }]
  methods := #[k7m0, k7m1, k7m2, k7m3, k7m4, k7m5, k7m6]
  instanceTypes := #[(.array .byte), .byte, .int, .boolean]
  staticTypes := #[.long, .boolean, (.array (.object "java/io/ObjectStreamField")), .char, (.object "java/util/Comparator"), .byte, .byte]
  resolved := Array.replicate 1451 none
  statics := some 0 }

def pool8 : Array CpInfo := pool [(4, .class_ 6), (1, u "java/lang/Object"), (0, u "<init>"), (0, u "()V"), (5, .class_ 16), (1, u "java/lang/StringLatin1"), (73, u "canEncode"), (14, u "(C)Z"), (15, u "$assertionsDisabled"), (0, u "Z"), (98, .class_ 223), (1, u "java/lang/StringLatin1$LinesSpliterator"), (156, u "toBytes"), (1, u "(C)[B"), (7, .class_ 391), (0, u "java/lang/StringLatin1$CharsSpliterator")] 3

def k8m0 : Method := { name := "<init>", desc := "()V", sig := { parameters := [], returnType := none }, accessFlags := 0, code := none }
def k8c1 : Code := { maxStack := 2, maxLocals := 1, code := jdk_43_method_3_code, exceptionTable := #[], attributes := #[] }
def k8m1 : Method := { name := "canEncode", desc := "(C)Z", sig := { parameters := [.char], returnType := some .boolean }, accessFlags := 9, code := some k8c1 }
def k8c2 : Code := { maxStack := 4, maxLocals := 1, code := jdk_43_method_46_code, exceptionTable := #[], attributes := #[] }
def k8m2 : Method := { name := "toBytes", desc := "(C)[B", sig := { parameters := [.char], returnType := some (.array .byte) }, accessFlags := 9, code := some k8c2 }
/-- java/lang/StringLatin1 -/
def k8 : Class := { plain "java/lang/StringLatin1" (some 0) with
  accessFlags := 48
  interfaces := #[]
  cf := some (fileOf pool8 14 #[.nestMembers #[390, 221]] #[{ accessFlags := 0, nameIndex := 7, descriptorIndex := 8, attributes := #[] }, { accessFlags := 9, nameIndex := 90, descriptorIndex := 105, attributes := #[] }, { accessFlags := 9, nameIndex := 380, descriptorIndex := 382, attributes := #[] }] 48 4 #[] #[{ accessFlags := 4120, nameIndex := 121, descriptorIndex := 122, attributes := #[] }])
  fields := #[{ name := "$assertionsDisabled", type := .boolean, accessFlags := 4120, slot := 0, constantValue := 0 }]
  methods := #[k8m0, k8m1, k8m2]
  instanceTypes := #[]
  staticTypes := #[.boolean]
  resolved := Array.replicate 395 none
  statics := none }

def pool9 : Array CpInfo := pool [(1, .methodref 2 3), (0, .class_ 4), (0, .nameAndType 5 6), (0, u "java/lang/Object"), (0, u "<init>"), (0, u "()V"), (0, .fieldref 8 9), (0, .class_ 10), (0, .nameAndType 11 12), (0, u "com/example/loadloom/loadloom/Draws"), (0, u "spreadRounds"), (0, u "[J"), (0, .fieldref 8 14), (0, .nameAndType 15 16), (0, u "key"), (0, u "J"), (0, .fieldref 8 18), (0, .nameAndType 19 16), (0, u "state"), (0, .methodref 8 21), (0, .nameAndType 22 23), (0, u "mix"), (0, u "(J)J"), (0, .long 14695981039346656037), (1, .fieldref 8 27), (0, .nameAndType 28 29), (0, u "SPREAD_WORD"), (0, u "[B"), (0, .methodref 8 31), (0, .nameAndType 32 33), (0, u "fnv1a"), (0, u "(J[B)J"), (0, .long 11400714819323198485), (1, .methodref 8 37), (0, .nameAndType 38 39), (0, u "attributeKey"), (0, u "(JLjava/lang/String;Ljava/lang/String;)J"), (0, .methodref 8 41), (0, .nameAndType 5 42), (0, u "(JJJ)V"), (0, .fieldref 44 45), (0, .class_ 46), (0, .nameAndType 47 48), (0, u "java/nio/charset/StandardCharsets"), (0, u "UTF_8"), (0, u "Ljava/nio/charset/Charset;"), (0, .methodref 50 51), (0, .class_ 52), (0, .nameAndType 53 54), (0, u "java/lang/String"), (0, u "getBytes"), (0, u "(Ljava/nio/charset/Charset;)[B"), (2, u "next"), (0, u "()J"), (52, .class_ 112), (0, u "com/example/loadloom/loadloom/Draws$Ascending"), (30, .long 13787848793156543929), (1, .long 10723151780598845931), (1, .long 1099511628211), (3, u "RECIPE"), (0, u "I"), (2, u "GAMMA"), (0, u "FNV_OFFSET_BASIS"), (0, u "FNV_PRIME"), (0, u "FRACTION_UNIT"), (0, u "D"), (0, u "ALWAYS_STANDS"), (3, u "(JLjava/lang/String;Ljava/lang/String;)V"), (2, u "startRow"), (0, u "(J)V")] 18

def k9c0 : Code := { maxStack := 8, maxLocals := 10, code := prog_8_method_1_code, exceptionTable := #[], attributes := #[] }
def k9m0 : Method := { name := "<init>", desc := "(JJJ)V", sig := { parameters := [.long, .long, .long], returnType := none }, accessFlags := 2, code := some k9c0 }
def k9c1 : Code := { maxStack := 7, maxLocals := 5, code := prog_8_method_2_code, exceptionTable := #[], attributes := #[] }
def k9m1 : Method := { name := "<init>", desc := "(JLjava/lang/String;Ljava/lang/String;)V", sig := { parameters := [.long, (.object "java/lang/String"), (.object "java/lang/String")], returnType := none }, accessFlags := 0, code := some k9c1 }
def k9c2 : Code := { maxStack := 6, maxLocals := 6, code := prog_8_method_4_code, exceptionTable := #[], attributes := #[] }
def k9m2 : Method := { name := "attributeKey", desc := "(JLjava/lang/String;Ljava/lang/String;)J", sig := { parameters := [.long, (.object "java/lang/String"), (.object "java/lang/String")], returnType := some .long }, accessFlags := 10, code := some k9c2 }
def k9c3 : Code := { maxStack := 7, maxLocals := 3, code := prog_8_method_5_code, exceptionTable := #[], attributes := #[] }
def k9m3 : Method := { name := "startRow", desc := "(J)V", sig := { parameters := [.long], returnType := none }, accessFlags := 0, code := some k9c3 }
def k9c4 : Code := { maxStack := 5, maxLocals := 1, code := prog_8_method_6_code, exceptionTable := #[], attributes := #[] }
def k9m4 : Method := { name := "next", desc := "()J", sig := { parameters := [], returnType := some .long }, accessFlags := 0, code := some k9c4 }
def k9c5 : Code := { maxStack := 5, maxLocals := 2, code := prog_8_method_18_code, exceptionTable := #[], attributes := #[] }
def k9m5 : Method := { name := "mix", desc := "(J)J", sig := { parameters := [.long], returnType := some .long }, accessFlags := 8, code := some k9c5 }
def k9c6 : Code := { maxStack := 4, maxLocals := 7, code := prog_8_method_19_code, exceptionTable := #[], attributes := #[] }
def k9m6 : Method := { name := "fnv1a", desc := "(J[B)J", sig := { parameters := [.long, (.array .byte)], returnType := some .long }, accessFlags := 10, code := some k9c6 }
/-- com/example/loadloom/loadloom/Draws -/
def k9 : Class := { plain "com/example/loadloom/loadloom/Draws" (some 0) with
  accessFlags := 48
  interfaces := #[]
  cf := some (fileOf pool9 8 #[.nestMembers #[111]] #[{ accessFlags := 2, nameIndex := 5, descriptorIndex := 42, attributes := #[] }, { accessFlags := 0, nameIndex := 5, descriptorIndex := 164, attributes := #[] }, { accessFlags := 10, nameIndex := 38, descriptorIndex := 39, attributes := #[] }, { accessFlags := 0, nameIndex := 167, descriptorIndex := 168, attributes := #[] }, { accessFlags := 0, nameIndex := 57, descriptorIndex := 58, attributes := #[] }, { accessFlags := 8, nameIndex := 22, descriptorIndex := 23, attributes := #[] }, { accessFlags := 10, nameIndex := 32, descriptorIndex := 33, attributes := #[] }] 48 2 #[] #[{ accessFlags := 24, nameIndex := 151, descriptorIndex := 152, attributes := #[] }, { accessFlags := 26, nameIndex := 155, descriptorIndex := 16, attributes := #[] }, { accessFlags := 26, nameIndex := 156, descriptorIndex := 16, attributes := #[] }, { accessFlags := 26, nameIndex := 157, descriptorIndex := 16, attributes := #[] }, { accessFlags := 26, nameIndex := 158, descriptorIndex := 159, attributes := #[] }, { accessFlags := 26, nameIndex := 160, descriptorIndex := 159, attributes := #[] }, { accessFlags := 26, nameIndex := 28, descriptorIndex := 29, attributes := #[] }, { accessFlags := 18, nameIndex := 15, descriptorIndex := 16, attributes := #[] }, { accessFlags := 2, nameIndex := 19, descriptorIndex := 16, attributes := #[] }, { accessFlags := 18, nameIndex := 11, descriptorIndex := 12, attributes := #[] }])
  fields := #[{ name := "RECIPE", type := .int, accessFlags := 24, slot := 0, constantValue := 0 }, { name := "GAMMA", type := .long, accessFlags := 26, slot := 1, constantValue := 0 }, { name := "FNV_OFFSET_BASIS", type := .long, accessFlags := 26, slot := 2, constantValue := 0 }, { name := "FNV_PRIME", type := .long, accessFlags := 26, slot := 3, constantValue := 0 }, { name := "FRACTION_UNIT", type := .double, accessFlags := 26, slot := 4, constantValue := 0 }, { name := "ALWAYS_STANDS", type := .double, accessFlags := 26, slot := 5, constantValue := 0 }, { name := "SPREAD_WORD", type := (.array .byte), accessFlags := 26, slot := 6, constantValue := 0 }, { name := "key", type := .long, accessFlags := 18, slot := 0, constantValue := 0 }, { name := "state", type := .long, accessFlags := 2, slot := 1, constantValue := 0 }, { name := "spreadRounds", type := (.array .long), accessFlags := 18, slot := 2, constantValue := 0 }]
  methods := #[k9m0, k9m1, k9m2, k9m3, k9m4, k9m5, k9m6]
  instanceTypes := #[.long, .long, (.array .long)]
  staticTypes := #[.int, .long, .long, .long, .double, .double, (.array .byte)]
  resolved := Array.replicate 187 none
  statics := some 1 }

def pool10 : Array CpInfo := pool [(2, .class_ 4), (1, u "java/lang/Object"), (0, u "<init>"), (0, u "()V"), (14, .class_ 23), (1, u "java/nio/charset/StandardCharsets"), (0, u "US_ASCII"), (0, u "Ljava/nio/charset/Charset;"), (7, u "ISO_8859_1"), (7, u "UTF_8"), (5, u "UTF_16BE"), (5, u "UTF_16LE"), (5, u "UTF_16")] 8

def k10m0 : Method := { name := "<init>", desc := "()V", sig := { parameters := [], returnType := none }, accessFlags := 2, code := none }
/-- java/nio/charset/StandardCharsets -/
def k10 : Class := { plain "java/nio/charset/StandardCharsets" (some 0) with
  accessFlags := 49
  interfaces := #[]
  cf := some (fileOf pool10 21 #[] #[{ accessFlags := 2, nameIndex := 5, descriptorIndex := 6, attributes := #[] }] 49 2 #[] #[{ accessFlags := 25, nameIndex := 24, descriptorIndex := 25, attributes := #[] }, { accessFlags := 25, nameIndex := 33, descriptorIndex := 25, attributes := #[] }, { accessFlags := 25, nameIndex := 41, descriptorIndex := 25, attributes := #[] }, { accessFlags := 25, nameIndex := 47, descriptorIndex := 25, attributes := #[] }, { accessFlags := 25, nameIndex := 53, descriptorIndex := 25, attributes := #[] }, { accessFlags := 25, nameIndex := 59, descriptorIndex := 25, attributes := #[] }])
  fields := #[{ name := "US_ASCII", type := (.object "java/nio/charset/Charset"), accessFlags := 25, slot := 0, constantValue := 0 }, { name := "ISO_8859_1", type := (.object "java/nio/charset/Charset"), accessFlags := 25, slot := 1, constantValue := 0 }, { name := "UTF_8", type := (.object "java/nio/charset/Charset"), accessFlags := 25, slot := 2, constantValue := 0 }, { name := "UTF_16BE", type := (.object "java/nio/charset/Charset"), accessFlags := 25, slot := 3, constantValue := 0 }, { name := "UTF_16LE", type := (.object "java/nio/charset/Charset"), accessFlags := 25, slot := 4, constantValue := 0 }, { name := "UTF_16", type := (.object "java/nio/charset/Charset"), accessFlags := 25, slot := 5, constantValue := 0 }]
  methods := #[k10m0]
  instanceTypes := #[]
  staticTypes := #[(.object "java/nio/charset/Charset"), (.object "java/nio/charset/Charset"), (.object "java/nio/charset/Charset"), (.object "java/nio/charset/Charset"), (.object "java/nio/charset/Charset"), (.object "java/nio/charset/Charset")]
  resolved := Array.replicate 68 none
  statics := some 2 }

def pool11 : Array CpInfo := pool [(18, .class_ 20), (1, u "java/nio/charset/Charset"), (0, u "cache1"), (0, u "[Ljava/lang/Object;"), (2, u "cache2"), (0, .class_ 27), (0, u "java/lang/Object"), (0, .class_ 29), (0, u "java/nio/charset/Charset$1"), (4, .class_ 36), (1, u "java/nio/charset/Charset$ThreadTrackHolder"), (21, .class_ 59), (0, u "java/nio/charset/Charset$2"), (11, .class_ 73), (1, u "java/nio/charset/Charset$ExtendedProviderHolder"), (22, u "standardProvider"), (0, u "Ljava/nio/charset/spi/CharsetProvider;"), (29, u "name"), (7, .class_ 136), (0, u "java/nio/charset/Charset$3"), (5, u "defaultCharset"), (0, u "Ljava/nio/charset/Charset;"), (14, u "zeroAliases"), (0, u "[Ljava/lang/String;"), (29, u "Ljava/lang/String;"), (2, u "aliases"), (2, u "aliasSet"), (0, u "Ljava/util/Set;"), (82, .class_ 280), (0, u "java/lang/Comparable"), (84, .class_ 366), (0, u "java/nio/charset/Charset$ExtendedProviderHolder$1")] 3

/-- java/nio/charset/Charset -/
def k11 : Class := { plain "java/nio/charset/Charset" (some 0) with
  accessFlags := 1057
  interfaces := #[3]
  cf := some (fileOf pool11 18 #[.nestMembers #[71, 365, 34, 135, 58, 28]] #[] 1057 26 #[279] #[{ accessFlags := 26, nameIndex := 96, descriptorIndex := 97, attributes := #[] }, { accessFlags := 26, nameIndex := 158, descriptorIndex := 159, attributes := #[] }, { accessFlags := 74, nameIndex := 21, descriptorIndex := 22, attributes := #[] }, { accessFlags := 74, nameIndex := 25, descriptorIndex := 22, attributes := #[] }, { accessFlags := 10, nameIndex := 142, descriptorIndex := 143, attributes := #[] }, { accessFlags := 18, nameIndex := 127, descriptorIndex := 189, attributes := #[] }, { accessFlags := 18, nameIndex := 192, descriptorIndex := 159, attributes := #[] }, { accessFlags := 2, nameIndex := 195, descriptorIndex := 196, attributes := #[] }])
  fields := #[{ name := "standardProvider", type := (.object "java/nio/charset/spi/CharsetProvider"), accessFlags := 26, slot := 0, constantValue := 0 }, { name := "zeroAliases", type := (.array (.object "java/lang/String")), accessFlags := 26, slot := 1, constantValue := 0 }, { name := "cache1", type := (.array (.object "java/lang/Object")), accessFlags := 74, slot := 2, constantValue := 0 }, { name := "cache2", type := (.array (.object "java/lang/Object")), accessFlags := 74, slot := 3, constantValue := 0 }, { name := "defaultCharset", type := (.object "java/nio/charset/Charset"), accessFlags := 10, slot := 4, constantValue := 0 }, { name := "name", type := (.object "java/lang/String"), accessFlags := 18, slot := 0, constantValue := 0 }, { name := "aliases", type := (.array (.object "java/lang/String")), accessFlags := 18, slot := 1, constantValue := 0 }, { name := "aliasSet", type := (.object "java/util/Set"), accessFlags := 2, slot := 2, constantValue := 0 }]
  methods := #[]
  instanceTypes := #[(.object "java/lang/String"), (.array (.object "java/lang/String")), (.object "java/util/Set")]
  staticTypes := #[(.object "java/nio/charset/spi/CharsetProvider"), (.array (.object "java/lang/String")), (.array (.object "java/lang/Object")), (.array (.object "java/lang/Object")), (.object "java/nio/charset/Charset")]
  resolved := Array.replicate 370 none
  statics := none }

def pool12 : Array CpInfo := pool [(1, .class_ 2), (0, u "sun/nio/cs/HistoricallyNamedCharset"), (0, .class_ 4), (0, u "java/lang/Object")] 4

/-- sun/nio/cs/HistoricallyNamedCharset -/
def k12 : Class := { plain "sun/nio/cs/HistoricallyNamedCharset" (some 0) with
  accessFlags := 1537
  interfaces := #[]
  cf := some (fileOf pool12 1 #[] #[] 1537 3 #[] #[])
  fields := #[]
  methods := #[]
  instanceTypes := #[]
  staticTypes := #[]
  resolved := Array.replicate 9 none
  statics := none }

def pool13 : Array CpInfo := pool [(2, .class_ 4), (1, u "java/nio/charset/Charset"), (130, .class_ 136), (0, u "sun/nio/cs/Unicode"), (0, .class_ 138), (0, u "sun/nio/cs/HistoricallyNamedCharset")] 15

/-- sun/nio/cs/Unicode -/
def k13 : Class := { plain "sun/nio/cs/Unicode" (some 11) with
  accessFlags := 1056
  interfaces := #[12]
  cf := some (fileOf pool13 135 #[] #[] 1056 2 #[137] #[])
  fields := #[]
  methods := #[]
  instanceTypes := #[(.object "java/lang/String"), (.array (.object "java/lang/String")), (.object "java/util/Set")]
  staticTypes := #[]
  resolved := Array.replicate 154 none
  statics := none }

def pool14 : Array CpInfo := pool [(10, .class_ 12), (1, u "sun/nio/cs/Unicode"), (0, u "<init>"), (3, .class_ 18), (0, u "sun/nio/cs/UTF_8$Decoder"), (3, .class_ 23), (0, u "sun/nio/cs/UTF_8$Encoder"), (15, .class_ 40), (0, u "sun/nio/cs/UTF_8"), (2, u "()V"), (2, u "INSTANCE"), (0, u "Lsun/nio/cs/UTF_8;"), (8, u "JLA"), (0, u "Ljdk/internal/access/JavaLangAccess;")] 26

def k14m0 : Method := { name := "<init>", desc := "()V", sig := { parameters := [], returnType := none }, accessFlags := 1, code := none }
/-- sun/nio/cs/UTF_8 -/
def k14 : Class := { plain "sun/nio/cs/UTF_8" (some 13) with
  accessFlags := 49
  interfaces := #[]
  cf := some (fileOf pool14 39 #[.nestMembers #[22, 17]] #[{ accessFlags := 1, nameIndex := 13, descriptorIndex := 43, attributes := #[] }] 49 10 #[] #[{ accessFlags := 25, nameIndex := 46, descriptorIndex := 47, attributes := #[] }, { accessFlags := 26, nameIndex := 56, descriptorIndex := 57, attributes := #[] }])
  fields := #[{ name := "INSTANCE", type := (.object "sun/nio/cs/UTF_8"), accessFlags := 25, slot := 0, constantValue := 0 }, { name := "JLA", type := (.object "jdk/internal/access/JavaLangAccess"), accessFlags := 26, slot := 1, constantValue := 0 }]
  methods := #[k14m0]
  instanceTypes := #[(.object "java/lang/String"), (.array (.object "java/lang/String")), (.object "java/util/Set")]
  staticTypes := #[(.object "sun/nio/cs/UTF_8"), (.object "jdk/internal/access/JavaLangAccess")]
  resolved := Array.replicate 84 none
  statics := some 3 }

def pool15 : Array CpInfo := pool [(2, .class_ 4), (1, u "java/lang/Object"), (0, u "<init>"), (0, u "()V"), (0, .methodref 8 9), (0, .class_ 10), (0, .nameAndType 11 12), (0, u "java/lang/StringCoding"), (0, u "countPositives"), (0, u "([BII)I"), (11, u "hasNegatives"), (0, u "([BII)Z")] 23

def k15m0 : Method := { name := "<init>", desc := "()V", sig := { parameters := [], returnType := none }, accessFlags := 2, code := none }
def k15c1 : Code := { maxStack := 3, maxLocals := 3, code := jdk_123_method_2_code, exceptionTable := #[], attributes := #[] }
def k15m1 : Method := { name := "hasNegatives", desc := "([BII)Z", sig := { parameters := [(.array .byte), .int, .int], returnType := some .boolean }, accessFlags := 9, code := some k15c1 }
def k15c2 : Code := { maxStack := 2, maxLocals := 5, code := jdk_123_method_3_code, exceptionTable := #[], attributes := #[] }
def k15m2 : Method := { name := "countPositives", desc := "([BII)I", sig := { parameters := [(.array .byte), .int, .int], returnType := some .int }, accessFlags := 9, code := some k15c2 }
/-- java/lang/StringCoding -/
def k15 : Class := { plain "java/lang/StringCoding" (some 0) with
  accessFlags := 32
  interfaces := #[]
  cf := some (fileOf pool15 8 #[] #[{ accessFlags := 2, nameIndex := 5, descriptorIndex := 6, attributes := #[] }, { accessFlags := 9, nameIndex := 24, descriptorIndex := 25, attributes := #[] }, { accessFlags := 9, nameIndex := 11, descriptorIndex := 12, attributes := #[] }] 32 2 #[] #[])
  fields := #[]
  methods := #[k15m0, k15m1, k15m2]
  instanceTypes := #[]
  staticTypes := #[]
  resolved := Array.replicate 49 none
  statics := none }

def pool16 : Array CpInfo := pool [(1, .class_ 2), (0, u "java/lang/Cloneable"), (0, .class_ 4), (0, u "java/lang/Object")] 2

/-- java/lang/Cloneable -/
def k16 : Class := { plain "java/lang/Cloneable" (some 0) with
  accessFlags := 1537
  interfaces := #[]
  cf := some (fileOf pool16 1 #[] #[] 1537 3 #[] #[])
  fields := #[]
  methods := #[]
  instanceTypes := #[]
  staticTypes := #[]
  resolved := Array.replicate 7 none
  statics := none }

def pool17 : Array CpInfo := pool [(6, .class_ 8), (1, u "java/lang/Object"), (0, u "<init>"), (0, u "()V"), (0, .methodref 12 13), (0, .class_ 14), (0, .nameAndType 15 16), (0, u "java/lang/StringUTF16"), (0, u "newBytesLength"), (0, u "(I)I"), (3, .integer 1073741823), (25, u "$assertionsDisabled"), (0, u "Z"), (13, u "HI_BYTE_SHIFT"), (0, u "I"), (2, u "LO_BYTE_SHIFT"), (43, u "newBytesFor"), (0, u "(I)[B"), (258, .class_ 371), (1, u "java/lang/StringUTF16$LinesSpliterator"), (58, u "MAX_LENGTH"), (196, .class_ 628), (0, u "java/lang/StringUTF16$CodePointsSpliterator"), (0, .class_ 630), (0, u "java/lang/StringUTF16$CharsSpliterator")] 4

def k17m0 : Method := { name := "<init>", desc := "()V", sig := { parameters := [], returnType := none }, accessFlags := 0, code := none }
def k17c1 : Code := { maxStack := 1, maxLocals := 1, code := jdk_52_method_2_code, exceptionTable := #[], attributes := #[] }
def k17m1 : Method := { name := "newBytesFor", desc := "(I)[B", sig := { parameters := [.int], returnType := some (.array .byte) }, accessFlags := 9, code := some k17c1 }
def k17c2 : Code := { maxStack := 4, maxLocals := 1, code := jdk_52_method_3_code, exceptionTable := #[], attributes := #[] }
def k17m2 : Method := { name := "newBytesLength", desc := "(I)I", sig := { parameters := [.int], returnType := some .int }, accessFlags := 9, code := some k17c2 }
/-- java/lang/StringUTF16 -/
def k17 : Class := { plain "java/lang/StringUTF16" (some 0) with
  accessFlags := 48
  interfaces := #[]
  cf := some (fileOf pool17 12 #[.nestMembers #[627, 629, 369]] #[{ accessFlags := 0, nameIndex := 9, descriptorIndex := 10, attributes := #[] }, { accessFlags := 9, nameIndex := 109, descriptorIndex := 110, attributes := #[] }, { accessFlags := 9, nameIndex := 15, descriptorIndex := 16, attributes := #[] }] 48 6 #[] #[{ accessFlags := 26, nameIndex := 61, descriptorIndex := 62, attributes := #[] }, { accessFlags := 26, nameIndex := 65, descriptorIndex := 62, attributes := #[] }, { accessFlags := 24, nameIndex := 430, descriptorIndex := 62, attributes := #[] }, { accessFlags := 4120, nameIndex := 46, descriptorIndex := 47, attributes := #[] }])
  fields := #[{ name := "HI_BYTE_SHIFT", type := .int, accessFlags := 26, slot := 0, constantValue := 0 }, { name := "LO_BYTE_SHIFT", type := .int, accessFlags := 26, slot := 1, constantValue := 0 }, { name := "MAX_LENGTH", type := .int, accessFlags := 24, slot := 2, constantValue := 0 }, { name := "$assertionsDisabled", type := .boolean, accessFlags := 4120, slot := 3, constantValue := 0 }]
  methods := #[k17m0, k17m1, k17m2]
  instanceTypes := #[]
  staticTypes := #[.int, .int, .int, .boolean]
  resolved := Array.replicate 635 none
  statics := none }

def pool18 : Array CpInfo := pool [(2, .class_ 4), (1, u "java/lang/Object"), (0, u "<init>"), (0, u "()V"), (17, .class_ 26), (1, u "jdk/internal/util/Preconditions"), (28, .class_ 56), (0, u "jdk/internal/util/Preconditions$4"), (57, .class_ 115), (0, u "jdk/internal/util/Preconditions$1"), (7, u "SIOOBE_FORMATTER"), (0, u "Ljava/util/function/BiFunction;"), (0, .class_ 126), (0, u "jdk/internal/util/Preconditions$2"), (3, u "AIOOBE_FORMATTER"), (0, .class_ 132), (0, u "jdk/internal/util/Preconditions$3"), (3, u "IOOBE_FORMATTER")] 57

def k18m0 : Method := { name := "<init>", desc := "()V", sig := { parameters := [], returnType := none }, accessFlags := 1, code := none }
/-- jdk/internal/util/Preconditions -/
def k18 : Class := { plain "jdk/internal/util/Preconditions" (some 0) with
  accessFlags := 33
  interfaces := #[]
  cf := some (fileOf pool18 24 #[.nestMembers #[55, 131, 125, 114]] #[{ accessFlags := 1, nameIndex := 5, descriptorIndex := 6, attributes := #[] }] 33 2 #[] #[{ accessFlags := 25, nameIndex := 123, descriptorIndex := 124, attributes := #[] }, { accessFlags := 25, nameIndex := 130, descriptorIndex := 124, attributes := #[] }, { accessFlags := 25, nameIndex := 136, descriptorIndex := 124, attributes := #[] }])
  fields := #[{ name := "SIOOBE_FORMATTER", type := (.object "java/util/function/BiFunction"), accessFlags := 25, slot := 0, constantValue := 0 }, { name := "AIOOBE_FORMATTER", type := (.object "java/util/function/BiFunction"), accessFlags := 25, slot := 1, constantValue := 0 }, { name := "IOOBE_FORMATTER", type := (.object "java/util/function/BiFunction"), accessFlags := 25, slot := 2, constantValue := 0 }]
  methods := #[k18m0]
  instanceTypes := #[]
  staticTypes := #[(.object "java/util/function/BiFunction"), (.object "java/util/function/BiFunction"), (.object "java/util/function/BiFunction")]
  resolved := Array.replicate 194 none
  statics := some 4 }

def pool19 : Array CpInfo := pool [(9, u "<init>"), (6, .class_ 18), (1, u "java/lang/Object"), (0, u "()V"), (1, .class_ 23), (1, u "jdk/internal/util/ArraysSupport"), (0, u "LOG2_ARRAY_LONG_INDEX_SCALE"), (0, u "I"), (2, u "U"), (0, u "Ljdk/internal/misc/Unsafe;"), (8, u "BIG_ENDIAN"), (0, u "Z"), (8, u "LOG2_BYTE_BIT_SIZE"), (4, u "LOG2_ARRAY_INT_INDEX_SCALE"), (54, u "JLA"), (0, u "Ljdk/internal/access/JavaLangAccess;"), (11, u "LOG2_ARRAY_BOOLEAN_INDEX_SCALE"), (9, u "LOG2_ARRAY_BYTE_INDEX_SCALE"), (5, u "LOG2_ARRAY_CHAR_INDEX_SCALE"), (5, u "LOG2_ARRAY_SHORT_INDEX_SCALE"), (18, u "LOG2_ARRAY_FLOAT_INDEX_SCALE"), (24, u "LOG2_ARRAY_DOUBLE_INDEX_SCALE"), (89, u "T_BOOLEAN"), (2, u "T_CHAR"), (1, u "T_FLOAT"), (1, u "T_DOUBLE"), (1, u "T_BYTE"), (1, u "T_SHORT"), (1, u "T_INT"), (1, u "T_LONG"), (1, u "SOFT_MAX_ARRAY_LENGTH")] 83

def k19m0 : Method := { name := "<init>", desc := "()V", sig := { parameters := [], returnType := none }, accessFlags := 2, code := none }
/-- jdk/internal/util/ArraysSupport -/
def k19 : Class := { plain "jdk/internal/util/ArraysSupport" (some 0) with
  accessFlags := 33
  interfaces := #[]
  cf := some (fileOf pool19 21 #[] #[{ accessFlags := 2, nameIndex := 9, descriptorIndex := 19, attributes := #[] }] 33 16 #[] #[{ accessFlags := 24, nameIndex := 28, descriptorIndex := 29, attributes := #[] }, { accessFlags := 26, nameIndex := 38, descriptorIndex := 39, attributes := #[] }, { accessFlags := 25, nameIndex := 121, descriptorIndex := 25, attributes := #[] }, { accessFlags := 25, nameIndex := 131, descriptorIndex := 25, attributes := #[] }, { accessFlags := 25, nameIndex := 137, descriptorIndex := 25, attributes := #[] }, { accessFlags := 25, nameIndex := 143, descriptorIndex := 25, attributes := #[] }, { accessFlags := 25, nameIndex := 53, descriptorIndex := 25, attributes := #[] }, { accessFlags := 25, nameIndex := 24, descriptorIndex := 25, attributes := #[] }, { accessFlags := 25, nameIndex := 162, descriptorIndex := 25, attributes := #[] }, { accessFlags := 25, nameIndex := 187, descriptorIndex := 25, attributes := #[] }, { accessFlags := 26, nameIndex := 48, descriptorIndex := 25, attributes := #[] }, { accessFlags := 25, nameIndex := 277, descriptorIndex := 25, attributes := #[] }, { accessFlags := 25, nameIndex := 280, descriptorIndex := 25, attributes := #[] }, { accessFlags := 25, nameIndex := 282, descriptorIndex := 25, attributes := #[] }, { accessFlags := 25, nameIndex := 284, descriptorIndex := 25, attributes := #[] }, { accessFlags := 25, nameIndex := 286, descriptorIndex := 25, attributes := #[] }, { accessFlags := 25, nameIndex := 288, descriptorIndex := 25, attributes := #[] }, { accessFlags := 25, nameIndex := 290, descriptorIndex := 25, attributes := #[] }, { accessFlags := 25, nameIndex := 292, descriptorIndex := 25, attributes := #[] }, { accessFlags := 26, nameIndex := 108, descriptorIndex := 109, attributes := #[] }, { accessFlags := 25, nameIndex := 294, descriptorIndex := 25, attributes := #[] }])
  fields := #[{ name := "U", type := (.object "jdk/internal/misc/Unsafe"), accessFlags := 24, slot := 0, constantValue := 0 }, { name := "BIG_ENDIAN", type := .boolean, accessFlags := 26, slot := 1, constantValue := 0 }, { name := "LOG2_ARRAY_BOOLEAN_INDEX_SCALE", type := .int, accessFlags := 25, slot := 2, constantValue := 0 }, { name := "LOG2_ARRAY_BYTE_INDEX_SCALE", type := .int, accessFlags := 25, slot := 3, constantValue := 0 }, { name := "LOG2_ARRAY_CHAR_INDEX_SCALE", type := .int, accessFlags := 25, slot := 4, constantValue := 0 }, { name := "LOG2_ARRAY_SHORT_INDEX_SCALE", type := .int, accessFlags := 25, slot := 5, constantValue := 0 }, { name := "LOG2_ARRAY_INT_INDEX_SCALE", type := .int, accessFlags := 25, slot := 6, constantValue := 0 }, { name := "LOG2_ARRAY_LONG_INDEX_SCALE", type := .int, accessFlags := 25, slot := 7, constantValue := 0 }, { name := "LOG2_ARRAY_FLOAT_INDEX_SCALE", type := .int, accessFlags := 25, slot := 8, constantValue := 0 }, { name := "LOG2_ARRAY_DOUBLE_INDEX_SCALE", type := .int, accessFlags := 25, slot := 9, constantValue := 0 }, { name := "LOG2_BYTE_BIT_SIZE", type := .int, accessFlags := 26, slot := 10, constantValue := 0 }, { name := "T_BOOLEAN", type := .int, accessFlags := 25, slot := 11, constantValue := 0 }, { name := "T_CHAR", type := .int, accessFlags := 25, slot := 12, constantValue := 0 }, { name := "T_FLOAT", type := .int, accessFlags := 25, slot := 13, constantValue := 0 }, { name := "T_DOUBLE", type := .int, accessFlags := 25, slot := 14, constantValue := 0 }, { name := "T_BYTE", type := .int, accessFlags := 25, slot := 15, constantValue := 0 }, { name := "T_SHORT", type := .int, accessFlags := 25, slot := 16, constantValue := 0 }, { name := "T_INT", type := .int, accessFlags := 25, slot := 17, constantValue := 0 }, { name := "T_LONG", type := .int, accessFlags := 25, slot := 18, constantValue := 0 }, { name := "JLA", type := (.object "jdk/internal/access/JavaLangAccess"), accessFlags := 26, slot := 19, constantValue := 0 }, { name := "SOFT_MAX_ARRAY_LENGTH", type := .int, accessFlags := 25, slot := 20, constantValue := 0 }]
  methods := #[k19m0]
  instanceTypes := #[]
  staticTypes := #[(.object "jdk/internal/misc/Unsafe"), .boolean, .int, .int, .int, .int, .int, .int, .int, .int, .int, .int, .int, .int, .int, .int, .int, .int, .int, (.object "jdk/internal/access/JavaLangAccess"), .int]
  resolved := Array.replicate 378 none
  statics := none }

/-- the primitive byte -/
def k20 : Class := { plain "byte" none with kind := .primitive 'B', accessFlags := 0x411 }
/-- [B -/
def k21 : Class := { plain "[B" (some 0) with kind := .array 20 .byte, interfaces := #[16, 2], accessFlags := 1041 }

/-- the primitive int -/
def k22 : Class := { plain "int" none with kind := .primitive 'I', accessFlags := 0x411 }
/-- [I -/
def k23 : Class := { plain "[I" (some 0) with kind := .array 22 .int, interfaces := #[16, 2], accessFlags := 1041 }

/-- the primitive long -/
def k24 : Class := { plain "long" none with kind := .primitive 'J', accessFlags := 0x411 }
/-- [J -/
def k25 : Class := { plain "[J" (some 0) with kind := .array 24 .long, interfaces := #[16, 2], accessFlags := 1041 }

def heap : Heap := #[{ cls := 7, slots := #[.long 0, .int 1, .null, .int 0, .null, .int 0, .int 0], vm := .statics 7 },
  { cls := 9, slots := #[.int 0, .long 0, .long 0, .long 0, .double 0, .double 0, .ref 5], vm := .statics 9 },
  { cls := 10, slots := #[.null, .null, .ref 6, .null, .null, .null], vm := .statics 10 },
  { cls := 14, slots := #[.ref 6, .null], vm := .statics 14 },
  { cls := 18, slots := #[.null, .null, .null], vm := .statics 18 },
  { cls := 21, slots := #[.int 83, .int 80, .int 82, .int 69, .int 65, .int 68], vm := .none },
  { cls := 14, slots := #[.null, .null, .null], vm := .none }]
def classes : Array Class := #[k0, k1, k2, k3, k4, k5, k6, k7, k8, k9, k10, k11, k12, k13, k14, k15, k16, k17, k18, k19, k20, k21, k22, k23, k24, k25]
def interned : List (Array UInt16 × Addr) := []
def slotsUsed : Nat := 34
def theMethod : MethodId := ⟨1, 4⟩
def args0 : Array Value := #[.long 5, .long 7, .int 65, .int 200, .int 1]
def aboutOver (below : List Frame) : State where
  vm := { classes := classes, interned := interned.toArray }
  heap := heap
  slotsUsed := slotsUsed
  threads := #[{ frames := .invoking theMethod args0 :: below }]
def below0 : List Frame := [.native { method := ⟨0, 0⟩, args := #[] }]
def about1 : State := aboutOver below0
def p0 : Program := .bare "" "" ""
def e0 : Env := launch0.env 0 0 0
theorem w_frames : about1.frames = Frame.invoking theMethod args0 :: below0 := rfl
set_option maxRecDepth 65536 in
theorem w_args : argsFit about1.vm theMethod args0 = true := by decide +kernel
set_option maxRecDepth 65536 in
theorem w_heap : heapFits about1 = true := by decide +kernel
set_option maxRecDepth 65536 in
theorem w_runnable : about1.curStatus? = some .runnable := by decide +kernel
set_option maxRecDepth 65536 in
theorem w_alone : about1.alone = true := by decide +kernel
set_option maxRecDepth 65536 in
theorem w_named : about1.methodNamed? x = some theMethod := by decide +kernel
set_option maxRecDepth 65536 in
theorem w_hears : about1.hears theMethod below0 = true := by decide +kernel
set_option maxRecDepth 65536 in
theorem w_ripe : about1.ripe theMethod args0 below0 = true := by decide +kernel
theorem w_running : about1.status = .running := rfl
set_option maxRecDepth 65536 in
theorem w_room : about1.hasRoom e0.platform room_1 = true :=
  launch0.hasRoom_least _ room_1 (by decide +kernel) (by decide +kernel) (by decide +kernel) (by decide +kernel) (by decide +kernel) (by decide +kernel)
theorem allAtoms_all (ts : List Jvm.Cond) (a : Array Jvm.Value) (st : Jvm.State) : (allAtoms ts).before a st = ts.all (fun c => c.before a st) := by
  induction ts with
  | nil => rfl
  | cons c t ih =>
    show (Jvm.Cond.and c (allAtoms t)).before a st = _
    rw [Jvm.Cond.before_and, ih, List.all_cons]
def words1 : List Jvm.Cond := Jvm.Cond.code x code maxLocals ret :: tables_1
/-- a 'code' word, met by the world's own term for the bytes: nothing is compared byte by byte -/
theorem code_word {y : MethodName} {bytes : ByteArray} {mx : Nat} {rt : Option FieldType} {a : Array Value} {s : State} {m : MethodId} {meth : Method} {c : Code} (h1 : s.methodNamed? y = some m) (h2 : s.vm.method? m = some meth) (h3 : meth.code = some c) (h4 : c.code = bytes)
    (h5 : (c.maxLocals == mx && c.exceptionTable.isEmpty && decide (c.maxStack ≤ mostOperands) && decide (meth.sig.returnType = rt) && !meth.locks && decide (parseMethodDescriptor y.desc = some meth.sig)) = true) : (Jvm.Cond.code y bytes mx rt).before a s = true := by
  simp only [Bool.and_eq_true, beq_iff_eq, Bool.not_eq_true', decide_eq_true_eq] at h5
  obtain ⟨⟨⟨⟨⟨g1, g2⟩, g3⟩, g4⟩, g5⟩, g6⟩ := h5
  simp [Cond.before, Cond.holds, Cond.value, h1, h2, h3, h4, g1, g2, g3, g4, g5, g6]
def isCode : Jvm.Cond → Bool
  | .code _ _ _ _ => true
  | _ => false
theorem all_split {L : List Jvm.Cond} {P : Jvm.Cond → Bool} (h1 : L.all (fun c => isCode c || P c) = true) (h2 : ∀ c ∈ L.filter isCode, P c = true) : L.all P = true := by
  refine List.all_eq_true.mpr fun c hc => ?_
  have h := List.all_eq_true.mp h1 c hc
  rcases Bool.eq_false_or_eq_true (isCode c) with hi | hi
  · exact h2 c (List.mem_filter.mpr ⟨hc, hi⟩)
  · simpa [hi] using h
set_option maxRecDepth 65536 in
theorem w_c0 : (Jvm.Cond.code x code maxLocals ret).before args0 about1 = true := code_word (m := ⟨1, 4⟩) (meth := k1m4) (c := k1c4) (by decide +kernel) rfl rfl rfl (by decide +kernel)
set_option maxRecDepth 65536 in
theorem w_c1 : (Jvm.Cond.code ({ cls := "java/lang/String", name := "valueOf", desc := "(C)Ljava/lang/String;" } : Jvm.MethodName) jdk_42_method_139_code (1 : Nat) (Option.some (Jvm.ClassFile.FieldType.object "java/lang/String"))).before args0 about1 = true := code_word (m := ⟨7, 4⟩) (meth := k7m4) (c := k7c4) (by decide +kernel) rfl rfl rfl (by decide +kernel)
set_option maxRecDepth 65536 in
theorem w_c2 : (Jvm.Cond.code ({ cls := "java/lang/StringLatin1", name := "canEncode", desc := "(C)Z" } : Jvm.MethodName) jdk_43_method_3_code (1 : Nat) (Option.some Jvm.ClassFile.FieldType.boolean)).before args0 about1 = true := code_word (m := ⟨8, 1⟩) (meth := k8m1) (c := k8c1) (by decide +kernel) rfl rfl rfl (by decide +kernel)
set_option maxRecDepth 65536 in
theorem w_c3 : (Jvm.Cond.code ({ cls := "java/lang/StringLatin1", name := "toBytes", desc := "(C)[B" } : Jvm.MethodName) jdk_43_method_46_code (1 : Nat) (Option.some (Jvm.ClassFile.FieldType.array Jvm.ClassFile.FieldType.byte))).before args0 about1 = true := code_word (m := ⟨8, 2⟩) (meth := k8m2) (c := k8c2) (by decide +kernel) rfl rfl rfl (by decide +kernel)
set_option maxRecDepth 65536 in
theorem w_c4 : (Jvm.Cond.code ({ cls := "java/lang/String", name := "<init>", desc := "([BB)V" } : Jvm.MethodName) jdk_42_method_151_code (3 : Nat) (Option.none : Option Jvm.ClassFile.FieldType)).before args0 about1 = true := code_word (m := ⟨7, 5⟩) (meth := k7m5) (c := k7c5) (by decide +kernel) rfl rfl rfl (by decide +kernel)
set_option maxRecDepth 65536 in
theorem w_c5 : (Jvm.Cond.code ({ cls := "java/lang/Object", name := "<init>", desc := "()V" } : Jvm.MethodName) object_method_1_code (1 : Nat) (Option.none : Option Jvm.ClassFile.FieldType)).before args0 about1 = true := code_word (m := ⟨0, 0⟩) (meth := k0m0) (c := k0c0) (by decide +kernel) rfl rfl rfl (by decide +kernel)
set_option maxRecDepth 65536 in
theorem w_c6 : (Jvm.Cond.code ({ cls := "com/example/loadloom/loadloom/Draws", name := "<init>", desc := "(JLjava/lang/String;Ljava/lang/String;)V" } : Jvm.MethodName) prog_8_method_2_code (5 : Nat) (Option.none : Option Jvm.ClassFile.FieldType)).before args0 about1 = true := code_word (m := ⟨9, 1⟩) (meth := k9m1) (c := k9c1) (by decide +kernel) rfl rfl rfl (by decide +kernel)
set_option maxRecDepth 65536 in
theorem w_c7 : (Jvm.Cond.code ({ cls := "com/example/loadloom/loadloom/Draws", name := "attributeKey", desc := "(JLjava/lang/String;Ljava/lang/String;)J" } : Jvm.MethodName) prog_8_method_4_code (6 : Nat) (Option.some Jvm.ClassFile.FieldType.long)).before args0 about1 = true := code_word (m := ⟨9, 2⟩) (meth := k9m2) (c := k9c2) (by decide +kernel) rfl rfl rfl (by decide +kernel)
set_option maxRecDepth 65536 in
theorem w_c8 : (Jvm.Cond.code ({ cls := "java/lang/String", name := "getBytes", desc := "(Ljava/nio/charset/Charset;)[B" } : Jvm.MethodName) jdk_42_method_64_code (2 : Nat) (Option.some (Jvm.ClassFile.FieldType.array Jvm.ClassFile.FieldType.byte))).before args0 about1 = true := code_word (m := ⟨7, 3⟩) (meth := k7m3) (c := k7c3) (by decide +kernel) rfl rfl rfl (by decide +kernel)
set_option maxRecDepth 65536 in
theorem w_c9 : (Jvm.Cond.code ({ cls := "java/lang/String", name := "coder", desc := "()B" } : Jvm.MethodName) jdk_42_method_152_code (1 : Nat) (Option.some Jvm.ClassFile.FieldType.byte)).before args0 about1 = true := code_word (m := ⟨7, 6⟩) (meth := k7m6) (c := k7c6) (by decide +kernel) rfl rfl rfl (by decide +kernel)
set_option maxRecDepth 65536 in
theorem w_c10 : (Jvm.Cond.code ({ cls := "java/lang/String", name := "encode", desc := "(Ljava/nio/charset/Charset;B[B)[B" } : Jvm.MethodName) jdk_42_method_18_code (3 : Nat) (Option.some (Jvm.ClassFile.FieldType.array Jvm.ClassFile.FieldType.byte))).before args0 about1 = true := code_word (m := ⟨7, 1⟩) (meth := k7m1) (c := k7c1) (by decide +kernel) rfl rfl rfl (by decide +kernel)
set_option maxRecDepth 65536 in
theorem w_c11 : (Jvm.Cond.code ({ cls := "java/lang/String", name := "encodeUTF8", desc := "(B[BZ)[B" } : Jvm.MethodName) jdk_42_method_46_code (9 : Nat) (Option.some (Jvm.ClassFile.FieldType.array Jvm.ClassFile.FieldType.byte))).before args0 about1 = true := code_word (m := ⟨7, 2⟩) (meth := k7m2) (c := k7c2) (by decide +kernel) rfl rfl rfl (by decide +kernel)
set_option maxRecDepth 65536 in
theorem w_c12 : (Jvm.Cond.code ({ cls := "java/lang/StringCoding", name := "hasNegatives", desc := "([BII)Z" } : Jvm.MethodName) jdk_123_method_2_code (3 : Nat) (Option.some Jvm.ClassFile.FieldType.boolean)).before args0 about1 = true := code_word (m := ⟨15, 1⟩) (meth := k15m1) (c := k15c1) (by decide +kernel) rfl rfl rfl (by decide +kernel)
set_option maxRecDepth 65536 in
theorem w_c13 : (Jvm.Cond.code ({ cls := "java/lang/StringCoding", name := "countPositives", desc := "([BII)I" } : Jvm.MethodName) jdk_123_method_3_code (5 : Nat) (Option.some Jvm.ClassFile.FieldType.int)).before args0 about1 = true := code_word (m := ⟨15, 2⟩) (meth := k15m2) (c := k15c2) (by decide +kernel) rfl rfl rfl (by decide +kernel)
set_option maxRecDepth 65536 in
theorem w_c14 : (Jvm.Cond.code ({ cls := "com/example/loadloom/loadloom/Draws", name := "fnv1a", desc := "(J[B)J" } : Jvm.MethodName) prog_8_method_19_code (7 : Nat) (Option.some Jvm.ClassFile.FieldType.long)).before args0 about1 = true := code_word (m := ⟨9, 6⟩) (meth := k9m6) (c := k9c6) (by decide +kernel) rfl rfl rfl (by decide +kernel)
set_option maxRecDepth 65536 in
theorem w_c15 : (Jvm.Cond.code ({ cls := "com/example/loadloom/loadloom/Draws", name := "mix", desc := "(J)J" } : Jvm.MethodName) prog_8_method_18_code (2 : Nat) (Option.some Jvm.ClassFile.FieldType.long)).before args0 about1 = true := code_word (m := ⟨9, 5⟩) (meth := k9m5) (c := k9c5) (by decide +kernel) rfl rfl rfl (by decide +kernel)
set_option maxRecDepth 65536 in
theorem w_c16 : (Jvm.Cond.code ({ cls := "com/example/loadloom/loadloom/Draws", name := "<init>", desc := "(JJJ)V" } : Jvm.MethodName) prog_8_method_1_code (10 : Nat) (Option.none : Option Jvm.ClassFile.FieldType)).before args0 about1 = true := code_word (m := ⟨9, 0⟩) (meth := k9m0) (c := k9c0) (by decide +kernel) rfl rfl rfl (by decide +kernel)
set_option maxRecDepth 65536 in
theorem w_c17 : (Jvm.Cond.code ({ cls := "com/example/loadloom/loadloom/Draws", name := "next", desc := "()J" } : Jvm.MethodName) prog_8_method_6_code (1 : Nat) (Option.some Jvm.ClassFile.FieldType.long)).before args0 about1 = true := code_word (m := ⟨9, 4⟩) (meth := k9m4) (c := k9c4) (by decide +kernel) rfl rfl rfl (by decide +kernel)
set_option maxRecDepth 65536 in
theorem w_c18 : (Jvm.Cond.code ({ cls := "com/example/loadloom/loadloom/DrawsNextPinLaw", name := "fnvChar", desc := "(JC)J" } : Jvm.MethodName) method_4_code (3 : Nat) (Option.some Jvm.ClassFile.FieldType.long)).before args0 about1 = true := code_word (m := ⟨1, 3⟩) (meth := k1m3) (c := k1c3) (by decide +kernel) rfl rfl rfl (by decide +kernel)
set_option maxRecDepth 65536 in
theorem w_c19 : (Jvm.Cond.code ({ cls := "com/example/loadloom/loadloom/DrawsNextPinLaw", name := "fnvByte", desc := "(JI)J" } : Jvm.MethodName) method_3_code (3 : Nat) (Option.some Jvm.ClassFile.FieldType.long)).before args0 about1 = true := code_word (m := ⟨1, 2⟩) (meth := k1m2) (c := k1c2) (by decide +kernel) rfl rfl rfl (by decide +kernel)
set_option maxRecDepth 65536 in
theorem w_c20 : (Jvm.Cond.code ({ cls := "com/example/loadloom/loadloom/DrawsNextPinLaw", name := "mix", desc := "(J)J" } : Jvm.MethodName) method_2_code (2 : Nat) (Option.some Jvm.ClassFile.FieldType.long)).before args0 about1 = true := code_word (m := ⟨1, 1⟩) (meth := k1m1) (c := k1c1) (by decide +kernel) rfl rfl rfl (by decide +kernel)
set_option maxRecDepth 65536 in
theorem w_c21 : (Jvm.Cond.code ({ cls := "com/example/loadloom/loadloom/Draws", name := "startRow", desc := "(J)V" } : Jvm.MethodName) prog_8_method_5_code (3 : Nat) (Option.none : Option Jvm.ClassFile.FieldType)).before args0 about1 = true := code_word (m := ⟨9, 3⟩) (meth := k9m3) (c := k9c3) (by decide +kernel) rfl rfl rfl (by decide +kernel)
set_option maxRecDepth 65536 in
theorem w_c22 : (Jvm.Cond.code ({ cls := "java/lang/StringUTF16", name := "newBytesFor", desc := "(I)[B" } : Jvm.MethodName) jdk_52_method_2_code (1 : Nat) (Option.some (Jvm.ClassFile.FieldType.array Jvm.ClassFile.FieldType.byte))).before args0 about1 = true := code_word (m := ⟨17, 1⟩) (meth := k17m1) (c := k17c1) (by decide +kernel) rfl rfl rfl (by decide +kernel)
set_option maxRecDepth 65536 in
theorem w_c23 : (Jvm.Cond.code ({ cls := "java/lang/StringUTF16", name := "newBytesLength", desc := "(I)I" } : Jvm.MethodName) jdk_52_method_3_code (1 : Nat) (Option.some Jvm.ClassFile.FieldType.int)).before args0 about1 = true := code_word (m := ⟨17, 2⟩) (meth := k17m2) (c := k17c2) (by decide +kernel) rfl rfl rfl (by decide +kernel)
def codes1 : List Jvm.Cond := [Jvm.Cond.code x code maxLocals ret, Jvm.Cond.code ({ cls := "java/lang/String", name := "valueOf", desc := "(C)Ljava/lang/String;" } : Jvm.MethodName) jdk_42_method_139_code (1 : Nat) (Option.some (Jvm.ClassFile.FieldType.object "java/lang/String")), Jvm.Cond.code ({ cls := "java/lang/StringLatin1", name := "canEncode", desc := "(C)Z" } : Jvm.MethodName) jdk_43_method_3_code (1 : Nat) (Option.some Jvm.ClassFile.FieldType.boolean), Jvm.Cond.code ({ cls := "java/lang/StringLatin1", name := "toBytes", desc := "(C)[B" } : Jvm.MethodName) jdk_43_method_46_code (1 : Nat) (Option.some (Jvm.ClassFile.FieldType.array Jvm.ClassFile.FieldType.byte)), Jvm.Cond.code ({ cls := "java/lang/String", name := "<init>", desc := "([BB)V" } : Jvm.MethodName) jdk_42_method_151_code (3 : Nat) (Option.none : Option Jvm.ClassFile.FieldType), Jvm.Cond.code ({ cls := "java/lang/Object", name := "<init>", desc := "()V" } : Jvm.MethodName) object_method_1_code (1 : Nat) (Option.none : Option Jvm.ClassFile.FieldType), Jvm.Cond.code ({ cls := "com/example/loadloom/loadloom/Draws", name := "<init>", desc := "(JLjava/lang/String;Ljava/lang/String;)V" } : Jvm.MethodName) prog_8_method_2_code (5 : Nat) (Option.none : Option Jvm.ClassFile.FieldType), Jvm.Cond.code ({ cls := "com/example/loadloom/loadloom/Draws", name := "attributeKey", desc := "(JLjava/lang/String;Ljava/lang/String;)J" } : Jvm.MethodName) prog_8_method_4_code (6 : Nat) (Option.some Jvm.ClassFile.FieldType.long), Jvm.Cond.code ({ cls := "java/lang/String", name := "getBytes", desc := "(Ljava/nio/charset/Charset;)[B" } : Jvm.MethodName) jdk_42_method_64_code (2 : Nat) (Option.some (Jvm.ClassFile.FieldType.array Jvm.ClassFile.FieldType.byte)), Jvm.Cond.code ({ cls := "java/lang/String", name := "coder", desc := "()B" } : Jvm.MethodName) jdk_42_method_152_code (1 : Nat) (Option.some Jvm.ClassFile.FieldType.byte), Jvm.Cond.code ({ cls := "java/lang/String", name := "encode", desc := "(Ljava/nio/charset/Charset;B[B)[B" } : Jvm.MethodName) jdk_42_method_18_code (3 : Nat) (Option.some (Jvm.ClassFile.FieldType.array Jvm.ClassFile.FieldType.byte)), Jvm.Cond.code ({ cls := "java/lang/String", name := "encodeUTF8", desc := "(B[BZ)[B" } : Jvm.MethodName) jdk_42_method_46_code (9 : Nat) (Option.some (Jvm.ClassFile.FieldType.array Jvm.ClassFile.FieldType.byte)), Jvm.Cond.code ({ cls := "java/lang/StringCoding", name := "hasNegatives", desc := "([BII)Z" } : Jvm.MethodName) jdk_123_method_2_code (3 : Nat) (Option.some Jvm.ClassFile.FieldType.boolean), Jvm.Cond.code ({ cls := "java/lang/StringCoding", name := "countPositives", desc := "([BII)I" } : Jvm.MethodName) jdk_123_method_3_code (5 : Nat) (Option.some Jvm.ClassFile.FieldType.int), Jvm.Cond.code ({ cls := "com/example/loadloom/loadloom/Draws", name := "fnv1a", desc := "(J[B)J" } : Jvm.MethodName) prog_8_method_19_code (7 : Nat) (Option.some Jvm.ClassFile.FieldType.long), Jvm.Cond.code ({ cls := "com/example/loadloom/loadloom/Draws", name := "mix", desc := "(J)J" } : Jvm.MethodName) prog_8_method_18_code (2 : Nat) (Option.some Jvm.ClassFile.FieldType.long), Jvm.Cond.code ({ cls := "com/example/loadloom/loadloom/Draws", name := "<init>", desc := "(JJJ)V" } : Jvm.MethodName) prog_8_method_1_code (10 : Nat) (Option.none : Option Jvm.ClassFile.FieldType), Jvm.Cond.code ({ cls := "com/example/loadloom/loadloom/Draws", name := "next", desc := "()J" } : Jvm.MethodName) prog_8_method_6_code (1 : Nat) (Option.some Jvm.ClassFile.FieldType.long), Jvm.Cond.code ({ cls := "com/example/loadloom/loadloom/DrawsNextPinLaw", name := "fnvChar", desc := "(JC)J" } : Jvm.MethodName) method_4_code (3 : Nat) (Option.some Jvm.ClassFile.FieldType.long), Jvm.Cond.code ({ cls := "com/example/loadloom/loadloom/DrawsNextPinLaw", name := "fnvByte", desc := "(JI)J" } : Jvm.MethodName) method_3_code (3 : Nat) (Option.some Jvm.ClassFile.FieldType.long), Jvm.Cond.code ({ cls := "com/example/loadloom/loadloom/DrawsNextPinLaw", name := "mix", desc := "(J)J" } : Jvm.MethodName) method_2_code (2 : Nat) (Option.some Jvm.ClassFile.FieldType.long), Jvm.Cond.code ({ cls := "com/example/loadloom/loadloom/Draws", name := "startRow", desc := "(J)V" } : Jvm.MethodName) prog_8_method_5_code (3 : Nat) (Option.none : Option Jvm.ClassFile.FieldType), Jvm.Cond.code ({ cls := "java/lang/StringUTF16", name := "newBytesFor", desc := "(I)[B" } : Jvm.MethodName) jdk_52_method_2_code (1 : Nat) (Option.some (Jvm.ClassFile.FieldType.array Jvm.ClassFile.FieldType.byte)), Jvm.Cond.code ({ cls := "java/lang/StringUTF16", name := "newBytesLength", desc := "(I)I" } : Jvm.MethodName) jdk_52_method_3_code (1 : Nat) (Option.some Jvm.ClassFile.FieldType.int)]
set_option maxRecDepth 65536 in
theorem codes_eq : words1.filter isCode = codes1 := rfl
theorem w_codes : ∀ c ∈ words1.filter isCode, c.before args0 about1 = true := by
  rw [codes_eq]
  intro c hc
  simp only [codes1, List.mem_cons, List.not_mem_nil, or_false] at hc
  rcases hc with rfl | rfl | rfl | rfl | rfl | rfl | rfl | rfl | rfl | rfl | rfl | rfl | rfl | rfl | rfl | rfl | rfl | rfl | rfl | rfl | rfl | rfl | rfl | rfl
  · exact w_c0
  · exact w_c1
  · exact w_c2
  · exact w_c3
  · exact w_c4
  · exact w_c5
  · exact w_c6
  · exact w_c7
  · exact w_c8
  · exact w_c9
  · exact w_c10
  · exact w_c11
  · exact w_c12
  · exact w_c13
  · exact w_c14
  · exact w_c15
  · exact w_c16
  · exact w_c17
  · exact w_c18
  · exact w_c19
  · exact w_c20
  · exact w_c21
  · exact w_c22
  · exact w_c23
set_option maxRecDepth 65536 in
theorem w_t1 : (words1.take 24).all (fun c => isCode c || c.before args0 about1) = true := by decide +kernel
set_option maxRecDepth 65536 in
theorem w_t2 : ((words1.drop 24).take 24).all (fun c => isCode c || c.before args0 about1) = true := by decide +kernel
set_option maxRecDepth 65536 in
theorem w_t3 : (((words1.drop 24).drop 24).take 24).all (fun c => isCode c || c.before args0 about1) = true := by decide +kernel
set_option maxRecDepth 65536 in
theorem w_t4 : ((((words1.drop 24).drop 24).drop 24).take 24).all (fun c => isCode c || c.before args0 about1) = true := by decide +kernel
set_option maxRecDepth 65536 in
theorem w_t5 : (((((words1.drop 24).drop 24).drop 24).drop 24).take 24).all (fun c => isCode c || c.before args0 about1) = true := by decide +kernel
set_option maxRecDepth 65536 in
theorem w_t6 : (((((words1.drop 24).drop 24).drop 24).drop 24).drop 24).all (fun c => isCode c || c.before args0 about1) = true := by decide +kernel
theorem w_tables : (allAtoms (Jvm.Cond.code x code maxLocals ret :: tables_1)).before args0 about1 = true := by
  rw [allAtoms_all]
  show words1.all (fun c => c.before args0 about1) = true
  refine all_split ?_ w_codes
  rw [← List.take_append_drop 24 words1, List.all_append, w_t1, ← List.take_append_drop 24 (words1.drop 24), List.all_append, w_t2, ← List.take_append_drop 24 ((words1.drop 24).drop 24), List.all_append, w_t3, ← List.take_append_drop 24 (((words1.drop 24).drop 24).drop 24), List.all_append, w_t4, ← List.take_append_drop 24 ((((words1.drop 24).drop 24).drop 24).drop 24), List.all_append, w_t5, w_t6]
  rfl
set_option maxRecDepth 65536 in
theorem w_rest : rest_1_c.before args0 about1 = true := by decide +kernel
set_option maxRecDepth 65536 in
theorem w_case : (Jvm.Cond.and given_1 narrow_1).before args0 about1 = true := by decide +kernel
theorem w_applies : (headSpec (Jvm.Cond.code x code maxLocals ret :: tables_1) room_1).applies x e0.platform about1 = true :=
  (Spec.applies_iff w_frames).mpr ⟨w_running, w_runnable, w_alone, w_named, w_hears, w_ripe, w_room, w_tables⟩
theorem atStart : AtStart classFile x code maxLocals ret World_1 tables_1 room_1 Calls_1 rest_1 Pre_1 launch0 p0 e0 about1 theMethod args0 below0 :=
  ⟨lists_1, trivial, launch0.admits_env _ _ _, launch0.least_env, fairChoices_fair.cas, fairChoices_fair.clock, w_frames, w_args, w_heap, w_applies, trivial, w_rest, w_case⟩
end start1
theorem witness_1 : WitnessClaimed_1 := ⟨start1.p0, start1.e0, start1.about1, start1.theMethod, start1.args0, start1.below0, start1.atStart⟩
end Jvm.Pilot.@@N@@
