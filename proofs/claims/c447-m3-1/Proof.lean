import JvmDerived
import JvmDerived.Pilot.@@N@@Statement
import JvmDerived.Pilot.@@N@@Code
set_option linter.unusedVariables false
set_option linter.unusedSimpArgs false
namespace Jvm.RoadKit
open Sem ClassFile Op Lib Jvm.Stand Jvm.Free Jvm.LawKit
section New
variable {p : Program} {l : Launch} {e : Env} {R : Room} {s : State} {m : MethodId} {args : Array Value} {below : List Frame} {meth : Method} {c : Code} {T : State} {locs : List Loc} {cells slots : Nat}
theorem retI (X : Stand p l e R s m args below meth c T locs cells slots) (hx : p.tables.exec = Jvm.exec) {pc : Nat} {Ls : Array Slot} {z : Int32} {rest : List Value} (hret : meth.sig.returnType = some .int) (hd : decode c.code pc = .ok (.ireturn, 1)) {fs : List Frame}
    (hl : ∀ (f : JFrame) (acts : List Action), f.method = m → f.locked = none → f.entered = [] → (doReturn e (T.setTop f) acts (some (.int z))).1 = T.setFrames fs) : Steps p.tables e below (T.setTop (mkF m pc Ls (.int z :: rest))) (T.setFrames fs) := by
  have hm' : T.vm.method? m = some meth := X.method'
  have hn : narrow .int (.int z) = .int z := rfl
  show Steps p.tables e below (T.setTop { method := m, pc := pc, locals := Ls, stack := _ :: rest, locked := none }) _
  jvm_step X.here [X.here.top, hx, hd, hm', hret, hn]
  first | (intro acts; rw [hl _ acts rfl rfl rfl]) | rw [hl _ _ rfl rfl rfl]
  exact Steps.refl _
end New
end Jvm.RoadKit
namespace Jvm.Pilot.@@N@@
open Jvm Jvm.ClassFile Sem Op Lib Jvm.Free Jvm.Stand Jvm.LawKit Jvm.RoadKit Bundle Jvm.Pilot.@@N@@.Jvm.D
def AV (Z : State) (h : Heap) (a : Addr) (ty : FieldType) (n : Nat) (f : Nat → Value) : Prop := ∃ c : Cell, Arr Z h a c ty ∧ c.slots.size = n ∧ ∀ j, j < n → c.slots[j]? = some (f j) ∧ fits ty (f j) = true
def own_upd (f : Nat → Value) (k : Nat) (v : Value) : Nat → Value := fun j => if j = k then v else f j
section AVs
variable {Z : State} {h h' : Heap} {a b : Addr} {ty : FieldType} {n : Nat} {f : Nat → Value} {v : Value} {sl : Nat}
theorem AV.lt (A : AV Z h a ty n f) : a < h.size := by obtain ⟨c, A, -⟩ := A; exact A.lt
theorem AV.ext (A : AV Z h a ty n f) (E : Ext h h') : AV Z h' a ty n f := by obtain ⟨c, A, r⟩ := A; exact ⟨c, A.ext E, r⟩
theorem AV.other (A : AV Z h b ty n f) (W : Wr h h' a sl v) (q : b ≠ a) : AV Z h' b ty n f := by obtain ⟨c, A, r⟩ := A; exact ⟨c, A.other W q, r⟩
theorem AV.keep {ws : List Addr} (A : AV Z h a ty n f) (K : Keep h h' ws) (q : a ∉ ws) : AV Z h' a ty n f := by obtain ⟨c, A, r⟩ := A; exact ⟨c, ⟨K.2.1 a c A.1 q, A.2⟩, r⟩
theorem AV.new {k : ClassId} {z : Int32} (A : Arr Z h a (newA k ty z) ty) (hz : z.toNatClampNeg = n) (hf : fits ty (defaultValue ty) = true) : AV Z h a ty n (fun _ => defaultValue ty) := ⟨_, A, by rw [sz_new]; exact hz, fun j hj => ⟨by simp [newA, hz, hj], hf⟩⟩
theorem AV.set (A : AV Z h a ty n f) (W : Wr h h' a sl v) (hv : fits ty v = true) : AV Z h' a ty n (own_upd f sl v) := by
  obtain ⟨c, A, S, H⟩ := A
  refine ⟨_, A.same W, by rw [sz_set]; exact S, fun j hj => ?_⟩
  by_cases e : j = sl
  · subst e
    exact ⟨by simp [Cell.setSlot, own_upd, S, hj], by simp [own_upd, hv]⟩
  · have e2 : (c.setSlot sl v).slots[j]? = c.slots[j]? := Array.getElem?_setIfInBounds_ne (Ne.symm e)
    exact ⟨by rw [e2, own_upd, if_neg e]; exact (H j hj).1, by rw [own_upd, if_neg e]; exact (H j hj).2⟩
theorem AV.at (A : AV Z h a ty n f) {j : Int32} {k : Nat} (h0 : ¬ j < 0) (hj : j.toNatClampNeg = k) (hk : k < n) : ∃ c : Cell, Arr Z h a c ty ∧ ¬ (j < 0 ∨ c.slots.size ≤ j.toNatClampNeg) ∧ c.slots[j.toNatClampNeg]? = some (f k) := by
  obtain ⟨c, A, S, H⟩ := A
  exact ⟨c, A, fun q => q.elim h0 (fun r => by omega), by rw [hj]; exact (H k hk).1⟩
theorem AV.len (A : AV Z h a ty n f) : ∃ c : Cell, Arr Z h a c ty ∧ c.slots.size.toInt32 = n.toInt32 := by
  obtain ⟨c, A, S, H⟩ := A
  exact ⟨c, A, by rw [S]⟩
theorem AV.congr (A : AV Z h a ty n f) {g : Nat → Value} (e : ∀ j, j < n → f j = g j) : AV Z h a ty n g := by
  obtain ⟨c, A, S, H⟩ := A
  exact ⟨c, A, S, fun j hj => by rw [← e j hj]; exact H j hj⟩
theorem AV.fit (A : AV Z h a ty n f) {j : Nat} (hj : j < n) : fits ty (f j) = true := by
  obtain ⟨c, A, S, H⟩ := A
  exact (H j hj).2
end AVs
theorem own_notin1 {a b : Addr} (h : a ≠ b) : a ∉ [b] := fun q => h (List.mem_singleton.mp q)
theorem own_notin2 {a b c : Addr} (h : a ≠ b) (h2 : a ≠ c) : a ∉ [b, c] := fun q => by
  rcases List.mem_cons.mp q with r | r
  · exact h r
  · exact own_notin1 h2 r
theorem own_notin0 {a : Addr} : a ∉ ([] : List Addr) := nofun
theorem own_trans0 {ws : List Addr} {n : Nat} : ∀ x ∈ ([] : List Addr), x ∈ ws ∨ n ≤ x := nofun
theorem own_trans1 {ws : List Addr} {n : Nat} {a : Addr} (h : a ∈ ws ∨ n ≤ a) : ∀ x ∈ [a], x ∈ ws ∨ n ≤ x := fun x q => by cases List.mem_singleton.mp q; exact h
theorem own_trans2 {ws : List Addr} {n : Nat} {a b : Addr} (h : a ∈ ws ∨ n ≤ a) (h2 : b ∈ ws ∨ n ≤ b) : ∀ x ∈ [a, b], x ∈ ws ∨ n ≤ x := fun x q => by
  rcases List.mem_cons.mp q with r | r
  · cases r; exact h
  · cases List.mem_singleton.mp r; exact h2
/-- a byte[] of n places, whatever it holds -/
def AN (Z : State) (h : Heap) (a : Addr) (n : Nat) : Prop := ∃ f, AV Z h a .byte n f
section ANs
variable {Z : State} {h h' : Heap} {a b : Addr} {n : Nat} {v : Value} {sl : Nat}
theorem AN.lt (A : AN Z h a n) : a < h.size := by obtain ⟨f, A⟩ := A; exact A.lt
theorem AN.ext (A : AN Z h a n) (E : Ext h h') : AN Z h' a n := by obtain ⟨f, A⟩ := A; exact ⟨f, A.ext E⟩
theorem AN.other (A : AN Z h b n) (W : Wr h h' a sl v) (q : b ≠ a) : AN Z h' b n := by obtain ⟨f, A⟩ := A; exact ⟨f, A.other W q⟩
theorem AN.keep {ws : List Addr} (A : AN Z h a n) (K : Keep h h' ws) (q : a ∉ ws) : AN Z h' a n := by obtain ⟨f, A⟩ := A; exact ⟨f, A.keep K q⟩
theorem AN.set (A : AN Z h a n) (W : Wr h h' a sl v) (hv : fits .byte v = true) : AN Z h' a n := by obtain ⟨f, A⟩ := A; exact ⟨_, A.set W hv⟩
theorem AN.len (A : AN Z h a n) : ∃ c : Cell, Arr Z h a c .byte ∧ c.slots.size.toInt32 = n.toInt32 := by obtain ⟨f, A⟩ := A; exact A.len
theorem AN.at (A : AN Z h a n) {j : Int32} {k : Nat} (h0 : ¬ j < 0) (hj : j.toNatClampNeg = k) (hk : k < n) : ∃ c : Cell, Arr Z h a c .byte ∧ ¬ (j < 0 ∨ c.slots.size ≤ j.toNatClampNeg) := by
  obtain ⟨f, A⟩ := A
  obtain ⟨c, A, r, -⟩ := A.at h0 hj hk
  exact ⟨c, A, r⟩
theorem AN.arv (A : AN Z h a n) {z : Int32} (hz : z.toNatClampNeg = n) (h0 : ¬ z < 0) : ∃ k vs, Arv Z h a k .byte z vs (.int 0) ∧ vs.length = n := by
  obtain ⟨f, c, A, S, H⟩ := A
  refine ⟨c.cls, (List.range n).map f, ⟨c, A, rfl, by rw [S, hz], h0, fun i hi => ?_, fun i hi => ?_⟩, by simp⟩
  · rw [S] at hi
    rw [(H i hi).1]; simp [List.getD, hi]
  · rw [S] at hi
    have := (H i hi).2
    simpa [List.getD, hi] using this
theorem AN.of {k : ClassId} {z : Int32} {vs : List Value} {dv : Value} (V : Arv Z h a k .byte z vs dv) (hz : z.toNatClampNeg = n) : AN Z h a n := by
  obtain ⟨c, A, -, S, -, H, G⟩ := V
  exact ⟨fun j => vs.getD j dv, c, A, by rw [S, hz], fun j hj => ⟨H j (by rw [S, hz]; exact hj), G j (by rw [S, hz]; exact hj)⟩⟩
end ANs
theorem own_selp {s : State} {args : Array Value} {y : MethodName} {n : Nat} (hins : (Jvm.Cond.instantiable y.cls n).before args s = true) (hpriv : (Jvm.Cond.privateMethod y).before args s = true) (hinst : (Jvm.Cond.instanceMethod y).before args s = true) (hy : y.cls ≠ "java/lang/invoke/MethodHandle" ∧ y.cls ≠ "java/lang/invoke/VarHandle") : (Jvm.Cond.selects y.cls y y).before args s = true := by
  obtain ⟨c, k, hc, hk, -, hniab, -, -⟩ := Cond.instantiable_spec hins
  exact selects_self_of_private hc hk (Bool.or_eq_false_iff.mp hniab).1 (Cond.privateMethod_at hpriv) hinst hy
def own_min (a b : Int32) : Int32 := if b < a then b else a
def own_max (a b : Int32) : Int32 := if a < b then b else a
def own_fg (n k : Int32) : Int32 := if (n &&& k) = (0 : Int32) then (0 : Int32) else (1 : Int32)
theorem own_fg01 (n k : Int32) : own_fg n k = 0 ∨ own_fg n k = 1 := by rw [own_fg]; split <;> simp
theorem own_mm (p : Int32) (h : p.toInt = 32768) : own_min (16384 : Int32) p = (16384 : Int32) := by
  rw [own_min, if_neg]; rw [Int32.lt_iff_toInt_lt, h]; decide
theorem own_mx (x : Int32) (h : x.toInt ≤ 32768) : own_max ((2 : Int32) * (16384 : Int32)) x = (32768 : Int32) := by
  rw [own_max, if_neg]; · decide
  rw [Int32.lt_iff_toInt_lt]; have : ((2 : Int32) * (16384 : Int32)).toInt = 32768 := by decide
  omega
theorem own_ladd (x y : Int32) (a b : Nat) (hx : x.toInt = a) (hy : y.toInt = b) (h : a + b ≤ 40000) : (x + y).toInt = ((a + b : Nat) : Int) := by
  have q := c_iadd x y
  have b1 := Int32.le_toInt (x + y)
  have b2 := Int32.toInt_lt (x + y)
  omega
theorem own_nat0 (x : Int32) (a : Nat) (hx : x.toInt = a) : ¬ x < 0 ∧ x.toNatClampNeg = a := by
  have z : (0 : Int32).toInt = 0 := rfl
  exact ⟨by rw [Int32.lt_iff_toInt_lt]; omega, by simp only [Int32.toNatClampNeg]; omega⟩
theorem own_notlt (x y : Int32) (a b : Nat) (hx : x.toInt = a) (hy : y.toInt = b) (h : b ≤ a) : ¬ x < y := by rw [Int32.lt_iff_toInt_lt]; omega
theorem own_lt (x y : Int32) (a b : Nat) (hx : x.toInt = a) (hy : y.toInt = b) (h : x < y) : a < b := by rw [Int32.lt_iff_toInt_lt] at h; omega
theorem own_ge (x y : Int32) (a b : Nat) (hx : x.toInt = a) (hy : y.toInt = b) (h : ¬ x < y) : b ≤ a := by rw [Int32.lt_iff_toInt_lt] at h; omega
theorem own_kap {cap L m : Nat} (hc : cap = 16384 ∨ cap = 32768) (h : L + m ≤ 20000) (hg : cap < L + m) : cap = 16384 := by omega
theorem own_cz {cap : Nat} (hc : cap = 16384 ∨ cap = 32768) : (Int32.ofNat cap).toNatClampNeg = cap ∧ ¬ (Int32.ofNat cap) < 0 := by
  rcases hc with rfl | rfl <;> exact ⟨by decide, by decide⟩
theorem own_g2 {t t2 : Addr} {n0 m : Nat} (h : t2 = t ∨ m ≤ t2) (gt : n0 ≤ t) (z : n0 ≤ m) : n0 ≤ t2 := h.elim (fun q => q ▸ gt) (fun q => Nat.le_trans z q)
theorem own_n2 {a t t2 : Addr} {m : Nat} (h : t2 = t ∨ m ≤ t2) (nt : a ≠ t) (z : a < m) : a ≠ t2 := h.elim (fun q => q ▸ nt) (fun q => Nat.ne_of_lt (Nat.lt_of_lt_of_le z q))
theorem own_km {a t t2 : Addr} {m : Nat} (h : t2 = t ∨ m ≤ t2) : t2 ∈ [a, t] ∨ m ≤ t2 := h.elim (fun q => Or.inl (by rw [q]; exact List.mem_cons_of_mem _ (List.mem_singleton.mpr rfl))) Or.inr
theorem own_lt1 {L cap m : Nat} (h : L + m ≤ cap) (hm : 0 < m) : L < cap := by omega
def own_ad (f l d : Int32) : Int32 := if f = (0 : Int32) then l else (l + d)
def own_cl (f l : Int32) : Int32 := if f = (0 : Int32) then l else (0 : Int32)
theorem own_ad_b (f l d : Int32) (a b : Nat) (hl : ∃ n : Nat, l.toInt = n ∧ n ≤ a) (hd : d.toInt = b) (h : a + b ≤ 40000) : ∃ n : Nat, (own_ad f l d).toInt = n ∧ n ≤ a + b := by
  obtain ⟨n, e, q⟩ := hl
  rw [own_ad]
  split
  · exact ⟨n, e, by omega⟩
  · exact ⟨n + b, own_ladd l d n b e hd (by omega), by omega⟩
theorem own_cl_b (f l : Int32) (a : Nat) (hl : ∃ n : Nat, l.toInt = n ∧ n ≤ a) : ∃ n : Nat, (own_cl f l).toInt = n ∧ n ≤ a := by
  obtain ⟨n, e, q⟩ := hl
  rw [own_cl]
  split
  · exact ⟨n, e, q⟩
  · exact ⟨0, rfl, Nat.zero_le _⟩
theorem own_two (x y : Int32) (h : x = y) : (x + (1 : Int32)) + (1 : Int32) = y + (2 : Int32) := by rw [h, Int32.add_assoc]; rfl
theorem own_b1 {n a c : Nat} (h : n ≤ a) (q : a + 1 ≤ c) : n + 1 ≤ c := by omega
theorem own_le2 {L m : Nat} (h : L + m ≤ 20000) : L + m ≤ 32768 := by omega
theorem d9_0 : decode jdk_29_method_69_code 0 = .ok (.iload_n 0, 1) := by decide +kernel
theorem d9_1 : decode jdk_29_method_69_code 1 = .ok (.iload_n 1, 1) := by decide +kernel
theorem d9_2 : decode jdk_29_method_69_code 2 = .ok (.if_icmp .gt 7, 3) := by decide +kernel
theorem d9_9 : decode jdk_29_method_69_code 9 = .ok (.iload_n 1, 1) := by decide +kernel
theorem d9_10 : decode jdk_29_method_69_code 10 = .ok (.ireturn, 1) := by decide +kernel
theorem d9_5 : decode jdk_29_method_69_code 5 = .ok (.iload_n 0, 1) := by decide +kernel
theorem d9_6 : decode jdk_29_method_69_code 6 = .ok (.goto 4, 3) := by decide +kernel
theorem ef_rm_min (m : MethodId) (p1 : Int32) (p2 : Int32) : entryFrame m #[(.int p1), (.int p2)] 2 = mkF m 0 #[.val (.int p1), .val (.int p2)] [] := by first | (simp [entryFrame, mkF, argsToLocals, Value.category]; done) | rfl
def Q_rm_min (Z : State) (p1 : Int32) (p2 : Int32) (h0 : Heap) (n0 : Nat) (v : Option Value) (h : Heap) (L : List Loc) : Prop := v = some (.int (own_min p1 p2)) ∧ Fr n0 L ∧ h = h0
set_option maxRecDepth 65536 in
set_option maxHeartbeats 40000000 in
theorem rm_min (l : Launch) (Z : State) (a0 : Array Value) (hw : ∀ d ∈ tables_1, d.before a0 Z = true) (ws : List Jvm.Cond) (p1 : Int32) (p2 : Int32) (h0 : Heap) (n0 : Nat) (Z0 : n0 ≤ h0.size) :
    MetFree l (⟨"java/lang/Math", "min", "(II)I"⟩ : MethodName) (head1 (Jvm.Cond.code (⟨"java/lang/Math", "min", "(II)I"⟩ : MethodName) jdk_29_method_69_code 2 (some .int) :: ws) ({ frames := 0, cells := 0, slots := 0, locals := 0 } : Room)) (fun a U => a = #[(.int p1), (.int p2)] ∧ Z.Warmed39 U.vm ∧ U.heap = h0) (fun _ _ _ _ _ => True) (fun _ U oC U' => ∃ v L, oC = .returned v ∧ Q_rm_min Z p1 p2 h0 n0 v U'.heap L ∧ FrameEnd U oC U' L ({ frames := 0, cells := 0, slots := 0, locals := 0 } : Room).cells ({ frames := 0, cells := 0, slots := 0, locals := 0 } : Room).slots) := by
  refine MetFree.of_bodySF (Jvm.Free.JP.mathPlain rfl (by decide +kernel)) hisR ?_
  intro p e s m args below meth c s₁ Bd hml0 hP hK
  obtain ⟨rfl, hZ, hh⟩ := hP
  have hx := Bd.exec
  have hby := Bd.bytes
  have hml : c.maxLocals = 2 := hml0
  have hown : s.vm.findClass "java/lang/Math" = some m.cls := findClass_of_methodNamed Bd.named
  have hnm := (name_of_methodNamed Bd.named Bd.method).1
  have X0 : Stand p l e ({ frames := 0, cells := 0, slots := 0, locals := 0 } : Room) s m #[(.int p1), (.int p2)] below meth c s₁ [] 0 0 := Stand.of_body Bd
  have e0 : s₁.heap = h0 := by rw [← hh, Bd.state]; rfl
  have N0 := Fr.nil n0
  have pre0 : ∀ tg, Steps p.tables e below (s₁.setTop (mkF m 0 #[.val (.int p1), .val (.int p2)] [])) tg → Steps p.tables e below (s₁.setTop (entryFrame m #[(.int p1), (.int p2)] 2)) tg := fun t k => castTop (ef_rm_min m p1 p2) k
  have pre00 : ∀ tg, Steps p.tables e below (s₁.setTop (mkF m 0 #[.val (.int p1), .val (.int p2)] [])) tg → Steps p.tables e below (s₁.setTop (mkF m 0 #[.val (.int p1), .val (.int p2)] [])) tg := fun _ k => k
  have R1 : ∀ tg, Steps p.tables e below (s₁.setTop (mkF m 2 #[.val (.int p1), .val (.int p2)] [(.int p2), (.int p1)])) tg → Steps p.tables e below (s₁.setTop (mkF m 0 #[.val (.int p1), .val (.int p2)] [])) tg := by
    intro tg kt
    refine pre00 _ ?_
    show Steps p.tables e below (s₁.setTop (mkF m 0 #[.val (.int p1), .val (.int p2)] [])) _
    refine XS.iloadN X0.here hx rfl (hb hby d9_0) rfl ?_
    show Steps p.tables e below (s₁.setTop (mkF m 1 #[.val (.int p1), .val (.int p2)] [(.int p1)])) _
    refine XS.iloadN X0.here hx rfl (hb hby d9_1) rfl ?_
    exact kt
  by_cases hc : p2 < p1
  · have R2 : ∀ tg, Steps p.tables e below (s₁.setTop (mkF m 10 #[.val (.int p1), .val (.int p2)] [(.int p2)])) tg → Steps p.tables e below (s₁.setTop (mkF m 0 #[.val (.int p1), .val (.int p2)] [])) tg := by
      intro tg kt
      refine R1 _ ?_
      show Steps p.tables e below (s₁.setTop (mkF m 2 #[.val (.int p1), .val (.int p2)] [(.int p2), (.int p1)])) _
      refine XS.icmpYes X0.here hx rfl (pc0 := 2) (pc' := 9) rfl (hb hby d9_2) rfl (tlt (hc : p2 < p1)).2.2.1 (by decide) (by decide) ?_
      show Steps p.tables e below (s₁.setTop (mkF m 9 #[.val (.int p1), .val (.int p2)] [])) _
      refine XS.iloadN X0.here hx rfl (hb hby d9_9) rfl ?_
      exact kt
    clear R1
    obtain ⟨fs, hr, hrun, hended, hW, hsame⟩ := X0.leave (v := some (.int p2)) (fun h => by rw [Bd.returns] at h; cases h)
    refine ⟨_, _, pre0 _ (R2 _ ?_), hrun, hended, _, _, rfl, ?_, ⟨_, rfl⟩, hW, hsame.mono (by decide) (by decide)⟩
    · exact retI X0 hx Bd.returns (hb hby d9_10) hr
    · show Q_rm_min Z p1 p2 h0 n0 _ s₁.heap _
      rw [e0]
      exact ⟨by simp [own_min, hc], N0, rfl⟩
  · have R3 : ∀ tg, Steps p.tables e below (s₁.setTop (mkF m 10 #[.val (.int p1), .val (.int p2)] [(.int p1)])) tg → Steps p.tables e below (s₁.setTop (mkF m 0 #[.val (.int p1), .val (.int p2)] [])) tg := by
      intro tg kt
      refine R1 _ ?_
      show Steps p.tables e below (s₁.setTop (mkF m 2 #[.val (.int p1), .val (.int p2)] [(.int p2), (.int p1)])) _
      refine XS.icmpNo X0.here hx rfl (hb hby d9_2) rfl (flt (hc : ¬ (p2 < p1))).2.2.1 ?_
      show Steps p.tables e below (s₁.setTop (mkF m 5 #[.val (.int p1), .val (.int p2)] [])) _
      refine XS.iloadN X0.here hx rfl (hb hby d9_5) rfl ?_
      show Steps p.tables e below (s₁.setTop (mkF m 6 #[.val (.int p1), .val (.int p2)] [(.int p1)])) _
      refine XS.goto X0.here hx rfl (pc0 := 6) (pc' := 10) rfl (hb hby d9_6) (by decide) (by decide) ?_
      exact kt
    clear R1
    obtain ⟨fs, hr, hrun, hended, hW, hsame⟩ := X0.leave (v := some (.int p1)) (fun h => by rw [Bd.returns] at h; cases h)
    refine ⟨_, _, pre0 _ (R3 _ ?_), hrun, hended, _, _, rfl, ?_, ⟨_, rfl⟩, hW, hsame.mono (by decide) (by decide)⟩
    · exact retI X0 hx Bd.returns (hb hby d9_10) hr
    · show Q_rm_min Z p1 p2 h0 n0 _ s₁.heap _
      rw [e0]
      exact ⟨by simp [own_min, hc], N0, rfl⟩
theorem d7_0 : decode jdk_29_method_65_code 0 = .ok (.iload_n 0, 1) := by decide +kernel
theorem d7_1 : decode jdk_29_method_65_code 1 = .ok (.iload_n 1, 1) := by decide +kernel
theorem d7_2 : decode jdk_29_method_65_code 2 = .ok (.if_icmp .lt 7, 3) := by decide +kernel
theorem d7_9 : decode jdk_29_method_65_code 9 = .ok (.iload_n 1, 1) := by decide +kernel
theorem d7_10 : decode jdk_29_method_65_code 10 = .ok (.ireturn, 1) := by decide +kernel
theorem d7_5 : decode jdk_29_method_65_code 5 = .ok (.iload_n 0, 1) := by decide +kernel
theorem d7_6 : decode jdk_29_method_65_code 6 = .ok (.goto 4, 3) := by decide +kernel
theorem ef_rm_max (m : MethodId) (p1 : Int32) (p2 : Int32) : entryFrame m #[(.int p1), (.int p2)] 2 = mkF m 0 #[.val (.int p1), .val (.int p2)] [] := by first | (simp [entryFrame, mkF, argsToLocals, Value.category]; done) | rfl
def Q_rm_max (Z : State) (p1 : Int32) (p2 : Int32) (h0 : Heap) (n0 : Nat) (v : Option Value) (h : Heap) (L : List Loc) : Prop := v = some (.int (own_max p1 p2)) ∧ Fr n0 L ∧ h = h0
set_option maxRecDepth 65536 in
set_option maxHeartbeats 40000000 in
theorem rm_max (l : Launch) (Z : State) (a0 : Array Value) (hw : ∀ d ∈ tables_1, d.before a0 Z = true) (ws : List Jvm.Cond) (p1 : Int32) (p2 : Int32) (h0 : Heap) (n0 : Nat) (Z0 : n0 ≤ h0.size) :
    MetFree l (⟨"java/lang/Math", "max", "(II)I"⟩ : MethodName) (head1 (Jvm.Cond.code (⟨"java/lang/Math", "max", "(II)I"⟩ : MethodName) jdk_29_method_65_code 2 (some .int) :: ws) ({ frames := 0, cells := 0, slots := 0, locals := 0 } : Room)) (fun a U => a = #[(.int p1), (.int p2)] ∧ Z.Warmed39 U.vm ∧ U.heap = h0) (fun _ _ _ _ _ => True) (fun _ U oC U' => ∃ v L, oC = .returned v ∧ Q_rm_max Z p1 p2 h0 n0 v U'.heap L ∧ FrameEnd U oC U' L ({ frames := 0, cells := 0, slots := 0, locals := 0 } : Room).cells ({ frames := 0, cells := 0, slots := 0, locals := 0 } : Room).slots) := by
  refine MetFree.of_bodySF (Jvm.Free.JP.mathPlain rfl (by decide +kernel)) hisR ?_
  intro p e s m args below meth c s₁ Bd hml0 hP hK
  obtain ⟨rfl, hZ, hh⟩ := hP
  have hx := Bd.exec
  have hby := Bd.bytes
  have hml : c.maxLocals = 2 := hml0
  have hown : s.vm.findClass "java/lang/Math" = some m.cls := findClass_of_methodNamed Bd.named
  have hnm := (name_of_methodNamed Bd.named Bd.method).1
  have X0 : Stand p l e ({ frames := 0, cells := 0, slots := 0, locals := 0 } : Room) s m #[(.int p1), (.int p2)] below meth c s₁ [] 0 0 := Stand.of_body Bd
  have e0 : s₁.heap = h0 := by rw [← hh, Bd.state]; rfl
  have N0 := Fr.nil n0
  have pre0 : ∀ tg, Steps p.tables e below (s₁.setTop (mkF m 0 #[.val (.int p1), .val (.int p2)] [])) tg → Steps p.tables e below (s₁.setTop (entryFrame m #[(.int p1), (.int p2)] 2)) tg := fun t k => castTop (ef_rm_max m p1 p2) k
  have pre00 : ∀ tg, Steps p.tables e below (s₁.setTop (mkF m 0 #[.val (.int p1), .val (.int p2)] [])) tg → Steps p.tables e below (s₁.setTop (mkF m 0 #[.val (.int p1), .val (.int p2)] [])) tg := fun _ k => k
  have R4 : ∀ tg, Steps p.tables e below (s₁.setTop (mkF m 2 #[.val (.int p1), .val (.int p2)] [(.int p2), (.int p1)])) tg → Steps p.tables e below (s₁.setTop (mkF m 0 #[.val (.int p1), .val (.int p2)] [])) tg := by
    intro tg kt
    refine pre00 _ ?_
    show Steps p.tables e below (s₁.setTop (mkF m 0 #[.val (.int p1), .val (.int p2)] [])) _
    refine XS.iloadN X0.here hx rfl (hb hby d7_0) rfl ?_
    show Steps p.tables e below (s₁.setTop (mkF m 1 #[.val (.int p1), .val (.int p2)] [(.int p1)])) _
    refine XS.iloadN X0.here hx rfl (hb hby d7_1) rfl ?_
    exact kt
  by_cases hc : p1 < p2
  · have R5 : ∀ tg, Steps p.tables e below (s₁.setTop (mkF m 10 #[.val (.int p1), .val (.int p2)] [(.int p2)])) tg → Steps p.tables e below (s₁.setTop (mkF m 0 #[.val (.int p1), .val (.int p2)] [])) tg := by
      intro tg kt
      refine R4 _ ?_
      show Steps p.tables e below (s₁.setTop (mkF m 2 #[.val (.int p1), .val (.int p2)] [(.int p2), (.int p1)])) _
      refine XS.icmpYes X0.here hx rfl (pc0 := 2) (pc' := 9) rfl (hb hby d7_2) rfl (tlt (hc : p1 < p2)).1 (by decide) (by decide) ?_
      show Steps p.tables e below (s₁.setTop (mkF m 9 #[.val (.int p1), .val (.int p2)] [])) _
      refine XS.iloadN X0.here hx rfl (hb hby d7_9) rfl ?_
      exact kt
    clear R4
    obtain ⟨fs, hr, hrun, hended, hW, hsame⟩ := X0.leave (v := some (.int p2)) (fun h => by rw [Bd.returns] at h; cases h)
    refine ⟨_, _, pre0 _ (R5 _ ?_), hrun, hended, _, _, rfl, ?_, ⟨_, rfl⟩, hW, hsame.mono (by decide) (by decide)⟩
    · exact retI X0 hx Bd.returns (hb hby d7_10) hr
    · show Q_rm_max Z p1 p2 h0 n0 _ s₁.heap _
      rw [e0]
      exact ⟨by simp [own_max, hc], N0, rfl⟩
  · have R6 : ∀ tg, Steps p.tables e below (s₁.setTop (mkF m 10 #[.val (.int p1), .val (.int p2)] [(.int p1)])) tg → Steps p.tables e below (s₁.setTop (mkF m 0 #[.val (.int p1), .val (.int p2)] [])) tg := by
      intro tg kt
      refine R4 _ ?_
      show Steps p.tables e below (s₁.setTop (mkF m 2 #[.val (.int p1), .val (.int p2)] [(.int p2), (.int p1)])) _
      refine XS.icmpNo X0.here hx rfl (hb hby d7_2) rfl (flt (hc : ¬ (p1 < p2))).1 ?_
      show Steps p.tables e below (s₁.setTop (mkF m 5 #[.val (.int p1), .val (.int p2)] [])) _
      refine XS.iloadN X0.here hx rfl (hb hby d7_5) rfl ?_
      show Steps p.tables e below (s₁.setTop (mkF m 6 #[.val (.int p1), .val (.int p2)] [(.int p1)])) _
      refine XS.goto X0.here hx rfl (pc0 := 6) (pc' := 10) rfl (hb hby d7_6) (by decide) (by decide) ?_
      exact kt
    clear R4
    obtain ⟨fs, hr, hrun, hended, hW, hsame⟩ := X0.leave (v := some (.int p1)) (fun h => by rw [Bd.returns] at h; cases h)
    refine ⟨_, _, pre0 _ (R6 _ ?_), hrun, hended, _, _, rfl, ?_, ⟨_, rfl⟩, hW, hsame.mono (by decide) (by decide)⟩
    · exact retI X0 hx Bd.returns (hb hby d7_10) hr
    · show Q_rm_max Z p1 p2 h0 n0 _ s₁.heap _
      rw [e0]
      exact ⟨by simp [own_max, hc], N0, rfl⟩
theorem pn_0 : plainName "com/example/travessia/travessia/core/Bytes" = true := by first | (simp [plainName, overriddenIn]; done) | decide +kernel
theorem d1_0 : decode prog_1_method_1_code 0 = .ok (.aload_n 0, 1) := by decide +kernel
theorem d1_1 : decode prog_1_method_1_code 1 = .ok (.invokespecial 1, 3) := by decide +kernel
theorem d1_4 : decode prog_1_method_1_code 4 = .ok (.aload_n 0, 1) := by decide +kernel
theorem d1_5 : decode prog_1_method_1_code 5 = .ok (.sipush 16384, 3) := by decide +kernel
theorem d1_8 : decode prog_1_method_1_code 8 = .ok (.newarray .byte, 2) := by decide +kernel
theorem d1_10 : decode prog_1_method_1_code 10 = .ok (.putfield 7, 3) := by decide +kernel
theorem d1_13 : decode prog_1_method_1_code 13 = .ok (.return_, 1) := by decide +kernel
theorem ef_rm_init (m : MethodId) (a1 : Addr) : entryFrame m #[(.ref a1)] 1 = mkF m 0 #[.val (.ref a1)] [] := by first | (simp [entryFrame, mkF, argsToLocals, Value.category]; done) | rfl
def Q_rm_init (Z : State) (a1 : Addr) (h0 : Heap) (n0 : Nat) (v : Option Value) (h : Heap) (L : List Loc) : Prop := v = none ∧ Fr n0 L ∧ Keep h0 h [a1] ∧ ∃ t : Addr, h0.size ≤ t ∧ Exa Z h a1 "com/example/travessia/travessia/core/Bytes" ∧ Fld Z h a1 "com/example/travessia/travessia/core/Bytes" "bytes" "[B" (.ref t) ∧ Fld Z h a1 "com/example/travessia/travessia/core/Bytes" "length" "I" (.int (0 : Int32)) ∧ AN Z h t 16384
set_option maxRecDepth 65536 in
set_option maxHeartbeats 40000000 in
theorem rm_init (l : Launch) (Z : State) (a0 : Array Value) (hw : ∀ d ∈ tables_1, d.before a0 Z = true) (ws : List Jvm.Cond) (a1 : Addr) (h0 : Heap) (n0 : Nat) (Z0 : n0 ≤ h0.size) (E1 : Exa Z h0 a1 "com/example/travessia/travessia/core/Bytes") (Fb : Fld Z h0 a1 "com/example/travessia/travessia/core/Bytes" "bytes" "[B" .null) (Fn : Fld Z h0 a1 "com/example/travessia/travessia/core/Bytes" "length" "I" (.int (0 : Int32))) (ga : n0 ≤ a1) :
    MetFree l (⟨"com/example/travessia/travessia/core/Bytes", "<init>", "()V"⟩ : MethodName) (head1 (Jvm.Cond.code (⟨"com/example/travessia/travessia/core/Bytes", "<init>", "()V"⟩ : MethodName) prog_1_method_1_code 1 none :: ws) ({ frames := 1, cells := 1, slots := 16384, locals := 12 } : Room)) (fun a U => a = #[(.ref a1)] ∧ Z.Warmed39 U.vm ∧ U.heap = h0) (fun _ _ _ _ _ => True) (fun _ U oC U' => ∃ v L, oC = .returned v ∧ Q_rm_init Z a1 h0 n0 v U'.heap L ∧ FrameEnd U oC U' L ({ frames := 1, cells := 1, slots := 16384, locals := 12 } : Room).cells ({ frames := 1, cells := 1, slots := 16384, locals := 12 } : Room).slots) := by
  refine MetFree.of_bodySF (plainFor_of_name pn_0) hisR ?_
  intro p e s m args below meth c s₁ Bd hml0 hP hK
  obtain ⟨rfl, hZ, hh⟩ := hP
  have hx := Bd.exec
  have hby := Bd.bytes
  have hml : c.maxLocals = 1 := hml0
  have hown : s.vm.findClass "com/example/travessia/travessia/core/Bytes" = some m.cls := findClass_of_methodNamed Bd.named
  have hnm := (name_of_methodNamed Bd.named Bd.method).1
  have X0 : Stand p l e ({ frames := 1, cells := 1, slots := 16384, locals := 12 } : Room) s m #[(.ref a1)] below meth c s₁ [] 0 0 := Stand.of_body Bd
  have e0 : s₁.heap = h0 := by rw [← hh, Bd.state]; rfl
  have N0 := Fr.nil n0
  have pre0 : ∀ tg, Steps p.tables e below (s₁.setTop (mkF m 0 #[.val (.ref a1)] [])) tg → Steps p.tables e below (s₁.setTop (entryFrame m #[(.ref a1)] 1)) tg := fun t k => castTop (ef_rm_init m a1) k
  have pre00 : ∀ tg, Steps p.tables e below (s₁.setTop (mkF m 0 #[.val (.ref a1)] [])) tg → Steps p.tables e below (s₁.setTop (mkF m 0 #[.val (.ref a1)] [])) tg := fun _ k => k
  have R7 : ∀ tg, Steps p.tables e below (s₁.setTop (mkF m 1 #[.val (.ref a1)] [(.ref a1)])) tg → Steps p.tables e below (s₁.setTop (mkF m 0 #[.val (.ref a1)] [])) tg := by
    intro tg kt
    refine pre00 _ ?_
    show Steps p.tables e below (s₁.setTop (mkF m 0 #[.val (.ref a1)] [])) _
    refine XS.aloadN X0.here hx rfl (hb hby d1_0) rfl rfl ?_
    exact kt
  obtain ⟨T8, X8, e8, st8⟩ := initO X0 hx hZ hown (hw _ (List.mem_of_getElem? (i := 6) rfl)) (hw _ (List.mem_of_getElem? (i := 7) rfl)) (hw _ (List.mem_of_getElem? (i := 8) rfl)) e0 (g := (mkF m 1 #[.val (.ref a1)] [(.ref a1)])) rfl (by rw [hml]; rfl) rfl (hb hby d1_1) (by decide) (W := 0) (by show 2 * 0 + _ ≤ _; exact Nat.le_of_eq rfl) (by decide)
  have R9 : ∀ tg, Steps p.tables e below (T8.setTop (mkF m 8 #[.val (.ref a1)] [(.int (16384 : Int32)), (.ref a1)])) tg → Steps p.tables e below (s₁.setTop (mkF m 0 #[.val (.ref a1)] [])) tg := by
    intro tg kt
    refine R7 _ ?_
    refine st8 _ ?_
    show Steps p.tables e below (T8.setTop (mkF m 4 #[.val (.ref a1)] [])) _
    refine XS.aloadN X8.here hx rfl (hb hby d1_4) rfl rfl ?_
    show Steps p.tables e below (T8.setTop (mkF m 5 #[.val (.ref a1)] [(.ref a1)])) _
    refine XS.sipush X8.here hx rfl (hb hby d1_5) ?_
    exact kt
  clear R7 st8
  obtain ⟨T10, h10, k10, X10, e10, E10, A10, st10⟩ := newP X8 hx hZ (hw _ (List.mem_of_getElem? (i := 9) rfl)) e8 (g := (mkF m 8 #[.val (.ref a1)] [(.int (16384 : Int32)), (.ref a1)])) rfl (hb hby d1_8) rfl (by decide) (cap := 16384) (by decide) (by decide) (by decide) (by decide)
  obtain ⟨t, g10⟩ : ∃ z, z = h0.size := ⟨_, rfl⟩
  rw [← g10] at A10 st10
  have g_t : n0 ≤ t := Nat.le_trans Z0 (Nat.le_of_eq g10.symm)
  have sz_t : h0.size ≤ t := Nat.le_trans (Keep.refl h0 [a1]).1 (Nat.le_of_eq g10.symm)
  have ne_a1_t : a1 ≠ t := Nat.ne_of_lt (Nat.lt_of_lt_of_le E1.lt (Nat.le_of_eq g10.symm))
  have E_a1_10 := E1.ext E10
  have Fb_10 := Fb.ext E10
  have Fn_10 := Fn.ext E10
  have Zs10 : n0 ≤ h10.size := Nat.le_trans Z0 E10.1
  have Ke10 : Keep h0 h10 [a1] := Keep.ext (Keep.refl h0 [a1]) E10
  have VBr : AV Z h10 t .byte 16384 (fun _ => defaultValue .byte) := AV.new A10 rfl rfl
  have VB : AN Z h10 t 16384 := ⟨_, VBr⟩
  have R11 : ∀ tg, Steps p.tables e below (T10.setTop (mkF m 10 #[.val (.ref a1)] [(.ref t), (.ref a1)])) tg → Steps p.tables e below (s₁.setTop (mkF m 0 #[.val (.ref a1)] [])) tg := by
    intro tg kt
    refine R9 _ ?_
    refine st10 _ ?_
    exact kt
  clear R9 st10
  obtain ⟨T12, h12, X12, e12, W12, st12⟩ := putF X10 hx hZ hown (host := "") (Or.inl (hw _ (List.mem_of_getElem? (i := 10) rfl))) Via.refl e10 Fb_10 E_a1_10 (Or.inl (hw _ (List.mem_of_getElem? (i := 11) rfl))) (hw _ (List.mem_of_getElem? (i := 1) rfl)) (ty := (.array .byte)) (by decide) rfl rfl (g := (mkF m 10 #[.val (.ref a1)] [(.ref t), (.ref a1)])) rfl rfl (hb hby d1_10)
  have N12 := Fr.snoc X12 N0 ga
  have Fb_12 := Fb_10.same W12
  have E_a1_12 := E_a1_10.wr W12
  have Fn_12 := Fn_10.other W12 (Or.inr (slot_ne (Or.inl (hw _ (List.mem_of_getElem? (i := 18) rfl))) (Or.inl (hw _ (List.mem_of_getElem? (i := 11) rfl))) (by decide) (t := .int) (t' := (.array .byte)) (by decide) (by decide)))
  have VB_12 := VB.other W12 (Ne.symm ne_a1_t)
  clear E_a1_10 Fn_10
  have Zs12 : n0 ≤ h12.size := Nat.le_trans Zs10 (Keep.of_wr W12).1
  have Kw12 : Keep h0 h12 [a1] := Keep.wr Ke10 W12 (Or.inl (List.mem_of_getElem? (i := 0) rfl))
  have R13 : ∀ tg, Steps p.tables e below (T12.setTop (mkF m 13 #[.val (.ref a1)] [])) tg → Steps p.tables e below (s₁.setTop (mkF m 0 #[.val (.ref a1)] [])) tg := by
    intro tg kt
    refine R11 _ ?_
    refine st12 _ ?_
    exact kt
  clear R11 st12
  obtain ⟨fs, hr, hrun, hended, hW, hsame⟩ := X12.leave (v := none) (fun _ => rfl)
  refine ⟨_, _, pre0 _ (R13 _ ?_), hrun, hended, _, _, rfl, ?_, ⟨_, rfl⟩, hW, hsame.mono (by decide) (by decide)⟩
  · exact X12.returnOut hx Bd.returns (hb hby d1_13) hr
  · show Q_rm_init Z a1 h0 n0 _ T12.heap _
    rw [e12]
    exact ⟨rfl, N12, Kw12, t, sz_t, E_a1_12, Fb_12, Fn_12, VB_12⟩
theorem d3_0 : decode prog_1_method_2_code 0 = .ok (.aload_n 0, 1) := by decide +kernel
theorem d3_1 : decode prog_1_method_2_code 1 = .ok (.getfield 13, 3) := by decide +kernel
theorem d3_4 : decode prog_1_method_2_code 4 = .ok (.ireturn, 1) := by decide +kernel
theorem ef_rm_len (m : MethodId) (a1 : Addr) : entryFrame m #[(.ref a1)] 1 = mkF m 0 #[.val (.ref a1)] [] := by first | (simp [entryFrame, mkF, argsToLocals, Value.category]; done) | rfl
def Q_rm_len (Z : State) (a1 : Addr) (ln : Int32) (h0 : Heap) (n0 : Nat) (v : Option Value) (h : Heap) (L : List Loc) : Prop := v = some (.int ln) ∧ Fr n0 L ∧ h = h0
set_option maxRecDepth 65536 in
set_option maxHeartbeats 40000000 in
theorem rm_len (l : Launch) (Z : State) (a0 : Array Value) (hw : ∀ d ∈ tables_1, d.before a0 Z = true) (ws : List Jvm.Cond) (a1 : Addr) (ln : Int32) (h0 : Heap) (n0 : Nat) (Z0 : n0 ≤ h0.size) (Fn : Fld Z h0 a1 "com/example/travessia/travessia/core/Bytes" "length" "I" (.int ln)) :
    MetFree l (⟨"com/example/travessia/travessia/core/Bytes", "length", "()I"⟩ : MethodName) (head1 (Jvm.Cond.code (⟨"com/example/travessia/travessia/core/Bytes", "length", "()I"⟩ : MethodName) prog_1_method_2_code 1 (some .int) :: ws) ({ frames := 0, cells := 0, slots := 0, locals := 0 } : Room)) (fun a U => a = #[(.ref a1)] ∧ Z.Warmed39 U.vm ∧ U.heap = h0) (fun _ _ _ _ _ => True) (fun _ U oC U' => ∃ v L, oC = .returned v ∧ Q_rm_len Z a1 ln h0 n0 v U'.heap L ∧ FrameEnd U oC U' L ({ frames := 0, cells := 0, slots := 0, locals := 0 } : Room).cells ({ frames := 0, cells := 0, slots := 0, locals := 0 } : Room).slots) := by
  refine MetFree.of_bodySF (plainFor_of_name pn_0) hisR ?_
  intro p e s m args below meth c s₁ Bd hml0 hP hK
  obtain ⟨rfl, hZ, hh⟩ := hP
  have hx := Bd.exec
  have hby := Bd.bytes
  have hml : c.maxLocals = 1 := hml0
  have hown : s.vm.findClass "com/example/travessia/travessia/core/Bytes" = some m.cls := findClass_of_methodNamed Bd.named
  have hnm := (name_of_methodNamed Bd.named Bd.method).1
  have X0 : Stand p l e ({ frames := 0, cells := 0, slots := 0, locals := 0 } : Room) s m #[(.ref a1)] below meth c s₁ [] 0 0 := Stand.of_body Bd
  have e0 : s₁.heap = h0 := by rw [← hh, Bd.state]; rfl
  have N0 := Fr.nil n0
  have pre0 : ∀ tg, Steps p.tables e below (s₁.setTop (mkF m 0 #[.val (.ref a1)] [])) tg → Steps p.tables e below (s₁.setTop (entryFrame m #[(.ref a1)] 1)) tg := fun t k => castTop (ef_rm_len m a1) k
  have pre00 : ∀ tg, Steps p.tables e below (s₁.setTop (mkF m 0 #[.val (.ref a1)] [])) tg → Steps p.tables e below (s₁.setTop (mkF m 0 #[.val (.ref a1)] [])) tg := fun _ k => k
  have R14 : ∀ tg, Steps p.tables e below (s₁.setTop (mkF m 1 #[.val (.ref a1)] [(.ref a1)])) tg → Steps p.tables e below (s₁.setTop (mkF m 0 #[.val (.ref a1)] [])) tg := by
    intro tg kt
    refine pre00 _ ?_
    show Steps p.tables e below (s₁.setTop (mkF m 0 #[.val (.ref a1)] [])) _
    refine XS.aloadN X0.here hx rfl (hb hby d3_0) rfl rfl ?_
    exact kt
  obtain ⟨T15, X15, e15, st15⟩ := getF X0 hx hZ hown (host := "") (Or.inl (hw _ (List.mem_of_getElem? (i := 17) rfl))) Via.refl e0 Fn (g := (mkF m 1 #[.val (.ref a1)] [(.ref a1)])) rfl rfl (hb hby d3_1)
  have R16 : ∀ tg, Steps p.tables e below (T15.setTop (mkF m 4 #[.val (.ref a1)] [(.int ln)])) tg → Steps p.tables e below (s₁.setTop (mkF m 0 #[.val (.ref a1)] [])) tg := by
    intro tg kt
    refine R14 _ ?_
    refine st15 _ ?_
    exact kt
  clear R14 st15
  obtain ⟨fs, hr, hrun, hended, hW, hsame⟩ := X15.leave (v := some (.int ln)) (fun h => by rw [Bd.returns] at h; cases h)
  refine ⟨_, _, pre0 _ (R16 _ ?_), hrun, hended, _, _, rfl, ?_, ⟨_, rfl⟩, hW, hsame.mono (by decide) (by decide)⟩
  · exact retI X15 hx Bd.returns (hb hby d3_4) hr
  · show Q_rm_len Z a1 ln h0 n0 _ T15.heap _
    rw [e15]
    exact ⟨rfl, N0, rfl⟩
theorem d10_0 : decode prog_1_method_3_code 0 = .ok (.aload_n 0, 1) := by decide +kernel
theorem d10_1 : decode prog_1_method_3_code 1 = .ok (.iconst 0, 1) := by decide +kernel
theorem d10_2 : decode prog_1_method_3_code 2 = .ok (.putfield 13, 3) := by decide +kernel
theorem d10_5 : decode prog_1_method_3_code 5 = .ok (.return_, 1) := by decide +kernel
theorem ef_rm_clear (m : MethodId) (a1 : Addr) : entryFrame m #[(.ref a1)] 1 = mkF m 0 #[.val (.ref a1)] [] := by first | (simp [entryFrame, mkF, argsToLocals, Value.category]; done) | rfl
def Q_rm_clear (Z : State) (a1 : Addr) (ln : Int32) (t : Addr) (cap : Nat) (h0 : Heap) (n0 : Nat) (v : Option Value) (h : Heap) (L : List Loc) : Prop := v = none ∧ Fr n0 L ∧ Keep h0 h [a1] ∧ Exa Z h a1 "com/example/travessia/travessia/core/Bytes" ∧ Fld Z h a1 "com/example/travessia/travessia/core/Bytes" "bytes" "[B" (.ref t) ∧ Fld Z h a1 "com/example/travessia/travessia/core/Bytes" "length" "I" (.int (0 : Int32)) ∧ AN Z h t cap
set_option maxRecDepth 65536 in
set_option maxHeartbeats 40000000 in
theorem rm_clear (l : Launch) (Z : State) (a0 : Array Value) (hw : ∀ d ∈ tables_1, d.before a0 Z = true) (ws : List Jvm.Cond) (a1 : Addr) (ln : Int32) (t : Addr) (cap : Nat) (h0 : Heap) (n0 : Nat) (Z0 : n0 ≤ h0.size) (E1 : Exa Z h0 a1 "com/example/travessia/travessia/core/Bytes") (Fb : Fld Z h0 a1 "com/example/travessia/travessia/core/Bytes" "bytes" "[B" (.ref t)) (Fn : Fld Z h0 a1 "com/example/travessia/travessia/core/Bytes" "length" "I" (.int ln)) (VB : AN Z h0 t cap) (ga : n0 ≤ a1) (nt : a1 ≠ t) :
    MetFree l (⟨"com/example/travessia/travessia/core/Bytes", "clear", "()V"⟩ : MethodName) (head1 (Jvm.Cond.code (⟨"com/example/travessia/travessia/core/Bytes", "clear", "()V"⟩ : MethodName) prog_1_method_3_code 1 none :: ws) ({ frames := 0, cells := 0, slots := 0, locals := 0 } : Room)) (fun a U => a = #[(.ref a1)] ∧ Z.Warmed39 U.vm ∧ U.heap = h0) (fun _ _ _ _ _ => True) (fun _ U oC U' => ∃ v L, oC = .returned v ∧ Q_rm_clear Z a1 ln t cap h0 n0 v U'.heap L ∧ FrameEnd U oC U' L ({ frames := 0, cells := 0, slots := 0, locals := 0 } : Room).cells ({ frames := 0, cells := 0, slots := 0, locals := 0 } : Room).slots) := by
  refine MetFree.of_bodySF (plainFor_of_name pn_0) hisR ?_
  intro p e s m args below meth c s₁ Bd hml0 hP hK
  obtain ⟨rfl, hZ, hh⟩ := hP
  have hx := Bd.exec
  have hby := Bd.bytes
  have hml : c.maxLocals = 1 := hml0
  have hown : s.vm.findClass "com/example/travessia/travessia/core/Bytes" = some m.cls := findClass_of_methodNamed Bd.named
  have hnm := (name_of_methodNamed Bd.named Bd.method).1
  have X0 : Stand p l e ({ frames := 0, cells := 0, slots := 0, locals := 0 } : Room) s m #[(.ref a1)] below meth c s₁ [] 0 0 := Stand.of_body Bd
  have e0 : s₁.heap = h0 := by rw [← hh, Bd.state]; rfl
  have N0 := Fr.nil n0
  have pre0 : ∀ tg, Steps p.tables e below (s₁.setTop (mkF m 0 #[.val (.ref a1)] [])) tg → Steps p.tables e below (s₁.setTop (entryFrame m #[(.ref a1)] 1)) tg := fun t k => castTop (ef_rm_clear m a1) k
  have pre00 : ∀ tg, Steps p.tables e below (s₁.setTop (mkF m 0 #[.val (.ref a1)] [])) tg → Steps p.tables e below (s₁.setTop (mkF m 0 #[.val (.ref a1)] [])) tg := fun _ k => k
  have R17 : ∀ tg, Steps p.tables e below (s₁.setTop (mkF m 2 #[.val (.ref a1)] [(.int (0 : Int32)), (.ref a1)])) tg → Steps p.tables e below (s₁.setTop (mkF m 0 #[.val (.ref a1)] [])) tg := by
    intro tg kt
    refine pre00 _ ?_
    show Steps p.tables e below (s₁.setTop (mkF m 0 #[.val (.ref a1)] [])) _
    refine XS.aloadN X0.here hx rfl (hb hby d10_0) rfl rfl ?_
    show Steps p.tables e below (s₁.setTop (mkF m 1 #[.val (.ref a1)] [(.ref a1)])) _
    refine XS.iconst X0.here hx rfl (hb hby d10_1) ?_
    exact kt
  obtain ⟨T18, h18, X18, e18, W18, st18⟩ := putF X0 hx hZ hown (host := "") (Or.inl (hw _ (List.mem_of_getElem? (i := 17) rfl))) Via.refl e0 Fn E1 (Or.inl (hw _ (List.mem_of_getElem? (i := 18) rfl))) (hw _ (List.mem_of_getElem? (i := 1) rfl)) (ty := .int) (by decide) rfl rfl (g := (mkF m 2 #[.val (.ref a1)] [(.int (0 : Int32)), (.ref a1)])) rfl rfl (hb hby d10_2)
  have N18 := Fr.snoc X18 N0 ga
  have Fn_18 := Fn.same W18
  have E_a1_18 := E1.wr W18
  have Fb_18 := Fb.other W18 (Or.inr (slot_ne (Or.inl (hw _ (List.mem_of_getElem? (i := 11) rfl))) (Or.inl (hw _ (List.mem_of_getElem? (i := 18) rfl))) (by decide) (t := (.array .byte)) (t' := .int) (by decide) (by decide)))
  have VB_18 := VB.other W18 (Ne.symm nt)
  have Zs18 : n0 ≤ h18.size := Nat.le_trans Z0 (Keep.of_wr W18).1
  have Kw18 : Keep h0 h18 [a1] := Keep.wr (Keep.refl h0 [a1]) W18 (Or.inl (List.mem_of_getElem? (i := 0) rfl))
  have R19 : ∀ tg, Steps p.tables e below (T18.setTop (mkF m 5 #[.val (.ref a1)] [])) tg → Steps p.tables e below (s₁.setTop (mkF m 0 #[.val (.ref a1)] [])) tg := by
    intro tg kt
    refine R17 _ ?_
    refine st18 _ ?_
    exact kt
  clear R17 st18
  obtain ⟨fs, hr, hrun, hended, hW, hsame⟩ := X18.leave (v := none) (fun _ => rfl)
  refine ⟨_, _, pre0 _ (R19 _ ?_), hrun, hended, _, _, rfl, ?_, ⟨_, rfl⟩, hW, hsame.mono (by decide) (by decide)⟩
  · exact X18.returnOut hx Bd.returns (hb hby d10_5) hr
  · show Q_rm_clear Z a1 ln t cap h0 n0 _ T18.heap _
    rw [e18]
    exact ⟨rfl, N18, Kw18, E_a1_18, Fb_18, Fn_18, VB_18⟩
theorem pn_1 : plainName "java/util/Arrays" = true := by first | (simp [plainName, overriddenIn]; done) | decide +kernel
theorem d8_0 : decode jdk_65_method_121_code 0 = .ok (.iload_n 1, 1) := by decide +kernel
theorem d8_1 : decode jdk_65_method_121_code 1 = .ok (.aload_n 0, 1) := by decide +kernel
theorem d8_2 : decode jdk_65_method_121_code 2 = .ok (.arraylength, 1) := by decide +kernel
theorem d8_3 : decode jdk_65_method_121_code 3 = .ok (.if_icmp .ne 11, 3) := by decide +kernel
theorem d8_14 : decode jdk_65_method_121_code 14 = .ok (.iload_n 1, 1) := by decide +kernel
theorem d8_15 : decode jdk_65_method_121_code 15 = .ok (.newarray .byte, 2) := by decide +kernel
theorem d8_17 : decode jdk_65_method_121_code 17 = .ok (.astore_n 2, 1) := by decide +kernel
theorem d8_18 : decode jdk_65_method_121_code 18 = .ok (.aload_n 0, 1) := by decide +kernel
theorem d8_19 : decode jdk_65_method_121_code 19 = .ok (.iconst 0, 1) := by decide +kernel
theorem d8_20 : decode jdk_65_method_121_code 20 = .ok (.aload_n 2, 1) := by decide +kernel
theorem d8_21 : decode jdk_65_method_121_code 21 = .ok (.iconst 0, 1) := by decide +kernel
theorem d8_22 : decode jdk_65_method_121_code 22 = .ok (.aload_n 0, 1) := by decide +kernel
theorem d8_23 : decode jdk_65_method_121_code 23 = .ok (.arraylength, 1) := by decide +kernel
theorem d8_24 : decode jdk_65_method_121_code 24 = .ok (.iload_n 1, 1) := by decide +kernel
theorem pd_0 : parseMethodDescriptor "(II)I" = some ⟨[.int, .int], some .int⟩ := by decide +kernel
theorem d8_25 : decode jdk_65_method_121_code 25 = .ok (.invokestatic 304, 3) := by decide +kernel
theorem d8_28 : decode jdk_65_method_121_code 28 = .ok (.invokestatic 150, 3) := by decide +kernel
theorem d8_31 : decode jdk_65_method_121_code 31 = .ok (.aload_n 2, 1) := by decide +kernel
theorem d8_32 : decode jdk_65_method_121_code 32 = .ok (.areturn, 1) := by decide +kernel
theorem ef_rm_copy (m : MethodId) (a1 : Addr) (p2 : Int32) : entryFrame m #[(.ref a1), (.int p2)] 3 = mkF m 0 #[.val (.ref a1), .val (.int p2), .unset] [] := by first | (simp [entryFrame, mkF, argsToLocals, Value.category]; done) | rfl
def Q_rm_copy (Z : State) (a1 : Addr) (p2 : Int32) (h0 : Heap) (n0 : Nat) (v : Option Value) (h : Heap) (L : List Loc) : Prop := ∃ t : Addr, v = some (.ref t) ∧ Fr n0 L ∧ h0.size ≤ t ∧ Keep h0 h [] ∧ AN Z h t 32768
set_option maxRecDepth 65536 in
set_option maxHeartbeats 40000000 in
theorem rm_copy (l : Launch) (Z : State) (a0 : Array Value) (hw : ∀ d ∈ tables_1, d.before a0 Z = true) (ws : List Jvm.Cond) (a1 : Addr) (p2 : Int32) (h0 : Heap) (n0 : Nat) (Z0 : n0 ≤ h0.size) (VA : AN Z h0 a1 16384) (hp : p2.toInt = 32768) :
    MetFree l (⟨"java/util/Arrays", "copyOf", "([BI)[B"⟩ : MethodName) (head1 (Jvm.Cond.code (⟨"java/util/Arrays", "copyOf", "([BI)[B"⟩ : MethodName) jdk_65_method_121_code 3 (some (.array .byte)) :: ws) ({ frames := 1, cells := 1, slots := 32768, locals := 40 } : Room)) (fun a U => a = #[(.ref a1), (.int p2)] ∧ Z.Warmed39 U.vm ∧ U.heap = h0) (fun _ _ _ _ _ => True) (fun _ U oC U' => ∃ v L, oC = .returned v ∧ Q_rm_copy Z a1 p2 h0 n0 v U'.heap L ∧ FrameEnd U oC U' L ({ frames := 1, cells := 1, slots := 32768, locals := 40 } : Room).cells ({ frames := 1, cells := 1, slots := 32768, locals := 40 } : Room).slots) := by
  refine MetFree.of_bodySF (plainFor_of_name pn_1) hisR ?_
  intro p e s m args below meth c s₁ Bd hml0 hP hK
  obtain ⟨rfl, hZ, hh⟩ := hP
  have hx := Bd.exec
  have hby := Bd.bytes
  have hml : c.maxLocals = 3 := hml0
  have hown : s.vm.findClass "java/util/Arrays" = some m.cls := findClass_of_methodNamed Bd.named
  have hnm := (name_of_methodNamed Bd.named Bd.method).1
  have X0 : Stand p l e ({ frames := 1, cells := 1, slots := 32768, locals := 40 } : Room) s m #[(.ref a1), (.int p2)] below meth c s₁ [] 0 0 := Stand.of_body Bd
  have e0 : s₁.heap = h0 := by rw [← hh, Bd.state]; rfl
  have N0 := Fr.nil n0
  have pre0 : ∀ tg, Steps p.tables e below (s₁.setTop (mkF m 0 #[.val (.ref a1), .val (.int p2), .unset] [])) tg → Steps p.tables e below (s₁.setTop (entryFrame m #[(.ref a1), (.int p2)] 3)) tg := fun t k => castTop (ef_rm_copy m a1 p2) k
  have pre00 : ∀ tg, Steps p.tables e below (s₁.setTop (mkF m 0 #[.val (.ref a1), .val (.int p2), .unset] [])) tg → Steps p.tables e below (s₁.setTop (mkF m 0 #[.val (.ref a1), .val (.int p2), .unset] [])) tg := fun _ k => k
  obtain ⟨p0, pn⟩ := own_nat0 p2 32768 hp
  have pne : ¬ (p2 = (16384 : Int32)) := fun q => by rw [q] at hp; exact absurd hp (by decide)
  have R20 : ∀ tg, Steps p.tables e below (s₁.setTop (mkF m 2 #[.val (.ref a1), .val (.int p2), .unset] [(.ref a1), (.int p2)])) tg → Steps p.tables e below (s₁.setTop (mkF m 0 #[.val (.ref a1), .val (.int p2), .unset] [])) tg := by
    intro tg kt
    refine pre00 _ ?_
    show Steps p.tables e below (s₁.setTop (mkF m 0 #[.val (.ref a1), .val (.int p2), .unset] [])) _
    refine XS.iloadN X0.here hx rfl (hb hby d8_0) rfl ?_
    show Steps p.tables e below (s₁.setTop (mkF m 1 #[.val (.ref a1), .val (.int p2), .unset] [(.int p2)])) _
    refine XS.aloadN X0.here hx rfl (hb hby d8_1) rfl rfl ?_
    exact kt
  obtain ⟨cl21, Ar21, ln21⟩ := VA.len
  have R22 : ∀ tg, Steps p.tables e below (s₁.setTop (mkF m 15 #[.val (.ref a1), .val (.int p2), .unset] [(.int p2)])) tg → Steps p.tables e below (s₁.setTop (mkF m 0 #[.val (.ref a1), .val (.int p2), .unset] [])) tg := by
    intro tg kt
    refine R20 _ ?_
    show Steps p.tables e below (s₁.setTop (mkF m 2 #[.val (.ref a1), .val (.int p2), .unset] [(.ref a1), (.int p2)])) _
    refine X0.arraylength hx (by rw [e0]; exact Ar21.1) (State.isArrayOf_alike hZ.alike Ar21.2.1) (g := (mkF m 2 #[.val (.ref a1), .val (.int p2), .unset] [(.ref a1), (.int p2)])) rfl rfl (hb hby d8_2) _ ?_
    rw [ln21]
    show Steps p.tables e below (s₁.setTop (mkF m 3 #[.val (.ref a1), .val (.int p2), .unset] [(.int (16384 : Int32)), (.int p2)])) _
    refine XS.icmpYes X0.here hx rfl (pc0 := 3) (pc' := 14) rfl (hb hby d8_3) rfl (feq (pne : ¬ (p2 = (16384 : Int32)))).2 (by decide) (by decide) ?_
    show Steps p.tables e below (s₁.setTop (mkF m 14 #[.val (.ref a1), .val (.int p2), .unset] [])) _
    refine XS.iloadN X0.here hx rfl (hb hby d8_14) rfl ?_
    exact kt
  clear R20
  obtain ⟨T23, h23, k23, X23, e23, E23, A23, st23⟩ := newP X0 hx hZ (hw _ (List.mem_of_getElem? (i := 9) rfl)) e0 (g := (mkF m 15 #[.val (.ref a1), .val (.int p2), .unset] [(.int p2)])) rfl (hb hby d8_15) rfl p0 (cap := 32768) (Nat.le_of_eq pn) (by decide) (by decide) (by decide)
  obtain ⟨t, g23⟩ : ∃ z, z = h0.size := ⟨_, rfl⟩
  rw [← g23] at A23 st23
  have g_t : n0 ≤ t := Nat.le_trans Z0 (Nat.le_of_eq g23.symm)
  have sz_t : h0.size ≤ t := Nat.le_trans (Keep.refl h0 []).1 (Nat.le_of_eq g23.symm)
  have ne_a1_t : a1 ≠ t := Nat.ne_of_lt (Nat.lt_of_lt_of_le VA.lt (Nat.le_of_eq g23.symm))
  have VA_23 := VA.ext E23
  have Zs23 : n0 ≤ h23.size := Nat.le_trans Z0 E23.1
  have Ke23 : Keep h0 h23 [] := Keep.ext (Keep.refl h0 []) E23
  have VTr : AV Z h23 t .byte 32768 (fun _ => defaultValue .byte) := AV.new A23 pn rfl
  have VT : AN Z h23 t 32768 := ⟨_, VTr⟩
  have R24 : ∀ tg, Steps p.tables e below (T23.setTop (mkF m 23 #[.val (.ref a1), .val (.int p2), .val (.ref t)] [(.ref a1), (.int (0 : Int32)), (.ref t), (.int (0 : Int32)), (.ref a1)])) tg → Steps p.tables e below (s₁.setTop (mkF m 0 #[.val (.ref a1), .val (.int p2), .unset] [])) tg := by
    intro tg kt
    refine R22 _ ?_
    refine st23 _ ?_
    show Steps p.tables e below (T23.setTop (mkF m 17 #[.val (.ref a1), .val (.int p2), .unset] [(.ref t)])) _
    refine XS.astoreN X23.here hx rfl (hb hby d8_17) rfl rfl (l' := #[.val (.ref a1), .val (.int p2), .val (.ref t)]) rfl ?_
    show Steps p.tables e below (T23.setTop (mkF m 18 #[.val (.ref a1), .val (.int p2), .val (.ref t)] [])) _
    refine XS.aloadN X23.here hx rfl (hb hby d8_18) rfl rfl ?_
    show Steps p.tables e below (T23.setTop (mkF m 19 #[.val (.ref a1), .val (.int p2), .val (.ref t)] [(.ref a1)])) _
    refine XS.iconst X23.here hx rfl (hb hby d8_19) ?_
    show Steps p.tables e below (T23.setTop (mkF m 20 #[.val (.ref a1), .val (.int p2), .val (.ref t)] [(.int (0 : Int32)), (.ref a1)])) _
    refine XS.aloadN X23.here hx rfl (hb hby d8_20) rfl rfl ?_
    show Steps p.tables e below (T23.setTop (mkF m 21 #[.val (.ref a1), .val (.int p2), .val (.ref t)] [(.ref t), (.int (0 : Int32)), (.ref a1)])) _
    refine XS.iconst X23.here hx rfl (hb hby d8_21) ?_
    show Steps p.tables e below (T23.setTop (mkF m 22 #[.val (.ref a1), .val (.int p2), .val (.ref t)] [(.int (0 : Int32)), (.ref t), (.int (0 : Int32)), (.ref a1)])) _
    refine XS.aloadN X23.here hx rfl (hb hby d8_22) rfl rfl ?_
    exact kt
  clear R22 st23
  obtain ⟨cl25, Ar25, ln25⟩ := VA_23.len
  have R26 : ∀ tg, Steps p.tables e below (T23.setTop (mkF m 25 #[.val (.ref a1), .val (.int p2), .val (.ref t)] [(.int p2), (.int (16384 : Int32)), (.int (0 : Int32)), (.ref t), (.int (0 : Int32)), (.ref a1)])) tg → Steps p.tables e below (s₁.setTop (mkF m 0 #[.val (.ref a1), .val (.int p2), .unset] [])) tg := by
    intro tg kt
    refine R24 _ ?_
    show Steps p.tables e below (T23.setTop (mkF m 23 #[.val (.ref a1), .val (.int p2), .val (.ref t)] [(.ref a1), (.int (0 : Int32)), (.ref t), (.int (0 : Int32)), (.ref a1)])) _
    refine X23.arraylength hx (by rw [e23]; exact Ar25.1) (State.isArrayOf_alike hZ.alike Ar25.2.1) (g := (mkF m 23 #[.val (.ref a1), .val (.int p2), .val (.ref t)] [(.ref a1), (.int (0 : Int32)), (.ref t), (.int (0 : Int32)), (.ref a1)])) rfl rfl (hb hby d8_23) _ ?_
    rw [ln25]
    show Steps p.tables e below (T23.setTop (mkF m 24 #[.val (.ref a1), .val (.int p2), .val (.ref t)] [(.int (16384 : Int32)), (.int (0 : Int32)), (.ref t), (.int (0 : Int32)), (.ref a1)])) _
    refine XS.iloadN X23.here hx rfl (hb hby d8_24) rfl ?_
    exact kt
  clear R24
  obtain ⟨_, _, ⟨T27, L27, k27, n27⟩, -, X27, ⟨Lc27, hQ27, l27, y27, z27⟩, st27⟩ := Jvm.LawKit.callS X23 hx (y := (⟨"java/lang/Math", "min", "(II)I"⟩ : MethodName)) hown (mvT hZ (hw _ (List.mem_of_getElem? (i := 45) rfl))) (mvT hZ (hw _ (List.mem_of_getElem? (i := 46) rfl))) (mvT hZ (hw _ (List.mem_of_getElem? (i := 39) rfl))) (mvT hZ (hw _ (List.mem_of_getElem? (i := 47) rfl))) (by decide) (backOf (W := 4) (rm_min l Z a0 hw [] (16384 : Int32) p2 h23 n0 Zs23) hZ (hw _ (List.mem_of_getElem? (i := 47) rfl)) (hw _ (List.mem_of_getElem? (i := 39) rfl)) (by decide) (by decide)) (g := (mkF m 25 #[.val (.ref a1), .val (.int p2), .val (.ref t)] [(.int p2), (.int (16384 : Int32)), (.int (0 : Int32)), (.ref t), (.int (0 : Int32)), (.ref a1)])) rfl (by rw [hml]; rfl) (argsL := [(.int (16384 : Int32)), (.int p2)]) (rest := [(.int (0 : Int32)), (.ref t), (.int (0 : Int32)), (.ref a1)]) (lenOf pd_0 rfl) rfl (by show 2 * 0 + _ ≤ _; exact Nat.le_of_eq rfl) (hb hby d8_25) (fun _ _ => ⟨rfl, e23, (by decide : 1 + 0 ≤ _), (by decide : 32768 + 0 ≤ _)⟩)
  dsimp only [Pt.U, Pt.locs, Pt.cells, Pt.slots] at X27 l27 y27 z27 st27 hQ27
  rw [l27, y27, z27] at X27
  obtain ⟨rfl, N27q, hh27⟩ := hQ27
  have N27 := Fr.app N0 N27q
  have R28 : ∀ tg, Steps p.tables e below (T27.setTop (mkF m 28 #[.val (.ref a1), .val (.int p2), .val (.ref t)] [(.int (own_min (16384 : Int32) p2)), (.int (0 : Int32)), (.ref t), (.int (0 : Int32)), (.ref a1)])) tg → Steps p.tables e below (s₁.setTop (mkF m 0 #[.val (.ref a1), .val (.int p2), .unset] [])) tg := by
    intro tg kt
    refine R26 _ ?_
    refine st27 _ ?_
    exact kt
  clear R26 st27
  have R29 : ∀ tg, Steps p.tables e below (T27.setTop (mkF m 28 #[.val (.ref a1), .val (.int p2), .val (.ref t)] [(.int (16384 : Int32)), (.int (0 : Int32)), (.ref t), (.int (0 : Int32)), (.ref a1)])) tg → Steps p.tables e below (s₁.setTop (mkF m 0 #[.val (.ref a1), .val (.int p2), .unset] [])) tg := by intro tg kt; refine R28 tg ?_; rw [own_mm p2 hp]; exact kt
  obtain ⟨ks30, us30, As30, ls30⟩ := VA_23.arv (z := (16384 : Int32)) rfl (by decide)
  obtain ⟨kd30, ud30, Ad30, ld30⟩ := VT.arv (z := p2) pn p0
  obtain ⟨T30, h30, L30, X30, e30, N30, K30, B30, st30⟩ := cpA X27 hx hZ hown (hw _ (List.mem_of_getElem? (i := 48) rfl)) (hw _ (List.mem_of_getElem? (i := 36) rfl)) (hw _ (List.mem_of_getElem? (i := 34) rfl)) (hw _ (List.mem_of_getElem? (i := 35) rfl)) hh27 As30 Ad30 (Or.inl ⟨rfl, rfl⟩) (sp := (0 : Int32)) (dp := (0 : Int32)) (nn := (16384 : Int32)) (by decide) (by decide) (by decide) (by decide) (by rw [pn]; decide) rfl (by rw [ld30]; decide) N27 g_t (g := (mkF m 28 #[.val (.ref a1), .val (.int p2), .val (.ref t)] [(.int (16384 : Int32)), (.int (0 : Int32)), (.ref t), (.int (0 : Int32)), (.ref a1)])) rfl (by rw [hml]; rfl) (rest := []) rfl (hb hby d8_28) (by decide) (W := 0) (by show 2 * 0 + _ ≤ _; exact Nat.le_of_eq rfl) (by decide)
  have VA_31 := VA_23.keep K30 (own_notin1 ne_a1_t)
  clear VA_23
  have Zs31 : n0 ≤ h30.size := Nat.le_trans Zs23 K30.1
  have Kk31 : Keep h0 h30 [] := Keep.trans Ke23 K30 (own_trans1 (Or.inr sz_t))
  have VT_30 : AN Z h30 t 32768 := AN.of B30 pn
  have R32 : ∀ tg, Steps p.tables e below (T30.setTop (mkF m 32 #[.val (.ref a1), .val (.int p2), .val (.ref t)] [(.ref t)])) tg → Steps p.tables e below (s₁.setTop (mkF m 0 #[.val (.ref a1), .val (.int p2), .unset] [])) tg := by
    intro tg kt
    refine R29 _ ?_
    refine st30 _ ?_
    show Steps p.tables e below (T30.setTop (mkF m 31 #[.val (.ref a1), .val (.int p2), .val (.ref t)] [])) _
    refine XS.aloadN X30.here hx rfl (hb hby d8_31) rfl rfl ?_
    exact kt
  clear R29 st30
  obtain ⟨fs, hr, hrun, hended, hW, hsame⟩ := X30.leave (v := some (.ref t)) (fun h => by rw [Bd.returns] at h; cases h)
  refine ⟨_, _, pre0 _ (R32 _ ?_), hrun, hended, _, _, rfl, ?_, ⟨_, rfl⟩, hW, hsame.mono (by decide) (by decide)⟩
  · show Steps p.tables e below (T30.setTop (mkF m 32 #[.val (.ref a1), .val (.int p2), .val (.ref t)] [(.ref t)])) _
    jvm_step X30.here [X30.here.top, hx, (hb hby d8_32), X30.method', Bd.returns, Value.isRef, FieldType.isReference]
    first | (intro acts; rw [hr _ acts rfl rfl rfl]) | rw [hr _ _ rfl rfl rfl]
    exact Steps.refl _
  · show Q_rm_copy Z a1 p2 h0 n0 _ T30.heap _
    rw [e30]
    exact ⟨t, rfl, N30, sz_t, Kk31, VT_30⟩
theorem d5_0 : decode prog_1_method_9_code 0 = .ok (.aload_n 0, 1) := by decide +kernel
theorem d5_1 : decode prog_1_method_9_code 1 = .ok (.getfield 13, 3) := by decide +kernel
theorem d5_4 : decode prog_1_method_9_code 4 = .ok (.iload_n 1, 1) := by decide +kernel
theorem d5_5 : decode prog_1_method_9_code 5 = .ok (.iadd, 1) := by decide +kernel
theorem d5_6 : decode prog_1_method_9_code 6 = .ok (.aload_n 0, 1) := by decide +kernel
theorem d5_7 : decode prog_1_method_9_code 7 = .ok (.getfield 7, 3) := by decide +kernel
theorem d5_10 : decode prog_1_method_9_code 10 = .ok (.arraylength, 1) := by decide +kernel
theorem d5_11 : decode prog_1_method_9_code 11 = .ok (.if_icmp .le 30, 3) := by decide +kernel
theorem d5_41 : decode prog_1_method_9_code 41 = .ok (.return_, 1) := by decide +kernel
theorem ef_rm_roomN (m : MethodId) (a1 : Addr) (p2 : Int32) : entryFrame m #[(.ref a1), (.int p2)] 2 = mkF m 0 #[.val (.ref a1), .val (.int p2)] [] := by first | (simp [entryFrame, mkF, argsToLocals, Value.category]; done) | rfl
def Q_rm_roomN (Z : State) (a1 : Addr) (p2 : Int32) (ln : Int32) (t : Addr) (cap : Nat) (LN : Nat) (MN : Nat) (h0 : Heap) (n0 : Nat) (v : Option Value) (h : Heap) (L : List Loc) : Prop := v = none ∧ Fr n0 L ∧ h = h0
set_option maxRecDepth 65536 in
set_option maxHeartbeats 40000000 in
theorem rm_roomN (l : Launch) (Z : State) (a0 : Array Value) (hw : ∀ d ∈ tables_1, d.before a0 Z = true) (ws : List Jvm.Cond) (a1 : Addr) (p2 : Int32) (ln : Int32) (t : Addr) (cap : Nat) (LN : Nat) (MN : Nat) (h0 : Heap) (n0 : Nat) (Z0 : n0 ≤ h0.size) (E1 : Exa Z h0 a1 "com/example/travessia/travessia/core/Bytes") (Fb : Fld Z h0 a1 "com/example/travessia/travessia/core/Bytes" "bytes" "[B" (.ref t)) (Fn : Fld Z h0 a1 "com/example/travessia/travessia/core/Bytes" "length" "I" (.int ln)) (VB : AN Z h0 t cap) (ga : n0 ≤ a1) (nt : a1 ≠ t) (gt : n0 ≤ t) (hl : ln.toInt = LN) (hm : p2.toInt = MN) (hc : cap = 16384) (hN : LN + MN ≤ 16384) :
    MetFree l (⟨"com/example/travessia/travessia/core/Bytes", "room", "(I)V"⟩ : MethodName) (head1 (Jvm.Cond.code (⟨"com/example/travessia/travessia/core/Bytes", "room", "(I)V"⟩ : MethodName) prog_1_method_9_code 2 none :: ws) ({ frames := 0, cells := 0, slots := 0, locals := 0 } : Room)) (fun a U => a = #[(.ref a1), (.int p2)] ∧ Z.Warmed39 U.vm ∧ U.heap = h0) (fun _ _ _ _ _ => True) (fun _ U oC U' => ∃ v L, oC = .returned v ∧ Q_rm_roomN Z a1 p2 ln t cap LN MN h0 n0 v U'.heap L ∧ FrameEnd U oC U' L ({ frames := 0, cells := 0, slots := 0, locals := 0 } : Room).cells ({ frames := 0, cells := 0, slots := 0, locals := 0 } : Room).slots) := by
  refine MetFree.of_bodySF (plainFor_of_name pn_0) hisR ?_
  intro p e s m args below meth c s₁ Bd hml0 hP hK
  obtain ⟨rfl, hZ, hh⟩ := hP
  have hx := Bd.exec
  have hby := Bd.bytes
  have hml : c.maxLocals = 2 := hml0
  have hown : s.vm.findClass "com/example/travessia/travessia/core/Bytes" = some m.cls := findClass_of_methodNamed Bd.named
  have hnm := (name_of_methodNamed Bd.named Bd.method).1
  have X0 : Stand p l e ({ frames := 0, cells := 0, slots := 0, locals := 0 } : Room) s m #[(.ref a1), (.int p2)] below meth c s₁ [] 0 0 := Stand.of_body Bd
  have e0 : s₁.heap = h0 := by rw [← hh, Bd.state]; rfl
  have N0 := Fr.nil n0
  have pre0 : ∀ tg, Steps p.tables e below (s₁.setTop (mkF m 0 #[.val (.ref a1), .val (.int p2)] [])) tg → Steps p.tables e below (s₁.setTop (entryFrame m #[(.ref a1), (.int p2)] 2)) tg := fun t k => castTop (ef_rm_roomN m a1 p2) k
  have pre00 : ∀ tg, Steps p.tables e below (s₁.setTop (mkF m 0 #[.val (.ref a1), .val (.int p2)] [])) tg → Steps p.tables e below (s₁.setTop (mkF m 0 #[.val (.ref a1), .val (.int p2)] [])) tg := fun _ k => k
  rw [hc] at VB
  have hs := own_ladd ln p2 LN MN hl hm (Nat.le_trans hN (by decide))
  have R33 : ∀ tg, Steps p.tables e below (s₁.setTop (mkF m 1 #[.val (.ref a1), .val (.int p2)] [(.ref a1)])) tg → Steps p.tables e below (s₁.setTop (mkF m 0 #[.val (.ref a1), .val (.int p2)] [])) tg := by
    intro tg kt
    refine pre00 _ ?_
    show Steps p.tables e below (s₁.setTop (mkF m 0 #[.val (.ref a1), .val (.int p2)] [])) _
    refine XS.aloadN X0.here hx rfl (hb hby d5_0) rfl rfl ?_
    exact kt
  obtain ⟨T34, X34, e34, st34⟩ := getF X0 hx hZ hown (host := "") (Or.inl (hw _ (List.mem_of_getElem? (i := 17) rfl))) Via.refl e0 Fn (g := (mkF m 1 #[.val (.ref a1), .val (.int p2)] [(.ref a1)])) rfl rfl (hb hby d5_1)
  have R35 : ∀ tg, Steps p.tables e below (T34.setTop (mkF m 7 #[.val (.ref a1), .val (.int p2)] [(.ref a1), (.int (ln + p2))])) tg → Steps p.tables e below (s₁.setTop (mkF m 0 #[.val (.ref a1), .val (.int p2)] [])) tg := by
    intro tg kt
    refine R33 _ ?_
    refine st34 _ ?_
    show Steps p.tables e below (T34.setTop (mkF m 4 #[.val (.ref a1), .val (.int p2)] [(.int ln)])) _
    refine XS.iloadN X34.here hx rfl (hb hby d5_4) rfl ?_
    show Steps p.tables e below (T34.setTop (mkF m 5 #[.val (.ref a1), .val (.int p2)] [(.int p2), (.int ln)])) _
    refine XS.iadd X34.here hx rfl (hb hby d5_5) rfl ?_
    show Steps p.tables e below (T34.setTop (mkF m 6 #[.val (.ref a1), .val (.int p2)] [(.int (ln + p2))])) _
    refine XS.aloadN X34.here hx rfl (hb hby d5_6) rfl rfl ?_
    exact kt
  clear R33 st34
  obtain ⟨T36, X36, e36, st36⟩ := getF X34 hx hZ hown (host := "") (Or.inl (hw _ (List.mem_of_getElem? (i := 10) rfl))) Via.refl e34 Fb (g := (mkF m 7 #[.val (.ref a1), .val (.int p2)] [(.ref a1), (.int (ln + p2))])) rfl rfl (hb hby d5_7)
  have R37 : ∀ tg, Steps p.tables e below (T36.setTop (mkF m 10 #[.val (.ref a1), .val (.int p2)] [(.ref t), (.int (ln + p2))])) tg → Steps p.tables e below (s₁.setTop (mkF m 0 #[.val (.ref a1), .val (.int p2)] [])) tg := by
    intro tg kt
    refine R35 _ ?_
    refine st36 _ ?_
    exact kt
  clear R35 st36
  obtain ⟨cl38, Ar38, ln38⟩ := VB.len
  have R39 : ∀ tg, Steps p.tables e below (T36.setTop (mkF m 41 #[.val (.ref a1), .val (.int p2)] [])) tg → Steps p.tables e below (s₁.setTop (mkF m 0 #[.val (.ref a1), .val (.int p2)] [])) tg := by
    intro tg kt
    refine R37 _ ?_
    show Steps p.tables e below (T36.setTop (mkF m 10 #[.val (.ref a1), .val (.int p2)] [(.ref t), (.int (ln + p2))])) _
    refine X36.arraylength hx (by rw [e36]; exact Ar38.1) (State.isArrayOf_alike hZ.alike Ar38.2.1) (g := (mkF m 10 #[.val (.ref a1), .val (.int p2)] [(.ref t), (.int (ln + p2))])) rfl rfl (hb hby d5_10) _ ?_
    rw [ln38]
    show Steps p.tables e below (T36.setTop (mkF m 11 #[.val (.ref a1), .val (.int p2)] [(.int (16384 : Int32)), (.int (ln + p2))])) _
    refine XS.icmpYes X36.here hx rfl (pc0 := 11) (pc' := 41) rfl (hb hby d5_11) rfl (flt (own_notlt _ _ 16384 (LN + MN) rfl hs hN : ¬ ((16384 : Int32) < (ln + p2)))).2.2.2 (by decide) (by decide) ?_
    exact kt
  clear R37
  obtain ⟨fs, hr, hrun, hended, hW, hsame⟩ := X36.leave (v := none) (fun _ => rfl)
  refine ⟨_, _, pre0 _ (R39 _ ?_), hrun, hended, _, _, rfl, ?_, ⟨_, rfl⟩, hW, hsame.mono (by decide) (by decide)⟩
  · exact X36.returnOut hx Bd.returns (hb hby d5_41) hr
  · show Q_rm_roomN Z a1 p2 ln t cap LN MN h0 n0 _ T36.heap _
    rw [e36]
    exact ⟨rfl, N0, rfl⟩
theorem d5_14 : decode prog_1_method_9_code 14 = .ok (.aload_n 0, 1) := by decide +kernel
theorem d5_15 : decode prog_1_method_9_code 15 = .ok (.aload_n 0, 1) := by decide +kernel
theorem d5_16 : decode prog_1_method_9_code 16 = .ok (.getfield 7, 3) := by decide +kernel
theorem d5_19 : decode prog_1_method_9_code 19 = .ok (.iconst 2, 1) := by decide +kernel
theorem d5_20 : decode prog_1_method_9_code 20 = .ok (.aload_n 0, 1) := by decide +kernel
theorem d5_21 : decode prog_1_method_9_code 21 = .ok (.getfield 7, 3) := by decide +kernel
theorem d5_24 : decode prog_1_method_9_code 24 = .ok (.arraylength, 1) := by decide +kernel
theorem d5_25 : decode prog_1_method_9_code 25 = .ok (.imul, 1) := by decide +kernel
theorem d5_26 : decode prog_1_method_9_code 26 = .ok (.aload_n 0, 1) := by decide +kernel
theorem d5_27 : decode prog_1_method_9_code 27 = .ok (.getfield 13, 3) := by decide +kernel
theorem d5_30 : decode prog_1_method_9_code 30 = .ok (.iload_n 1, 1) := by decide +kernel
theorem d5_31 : decode prog_1_method_9_code 31 = .ok (.iadd, 1) := by decide +kernel
theorem d5_32 : decode prog_1_method_9_code 32 = .ok (.invokestatic 37, 3) := by decide +kernel
theorem pd_1 : parseMethodDescriptor "([BI)[B" = some ⟨[(.array .byte), .int], some (.array .byte)⟩ := by decide +kernel
theorem d5_35 : decode prog_1_method_9_code 35 = .ok (.invokestatic 43, 3) := by decide +kernel
theorem d5_38 : decode prog_1_method_9_code 38 = .ok (.putfield 7, 3) := by decide +kernel
theorem ef_rm_roomU (m : MethodId) (a1 : Addr) (p2 : Int32) : entryFrame m #[(.ref a1), (.int p2)] 2 = mkF m 0 #[.val (.ref a1), .val (.int p2)] [] := by first | (simp [entryFrame, mkF, argsToLocals, Value.category]; done) | rfl
def Q_rm_roomU (Z : State) (a1 : Addr) (p2 : Int32) (ln : Int32) (t : Addr) (cap : Nat) (LN : Nat) (MN : Nat) (h0 : Heap) (n0 : Nat) (v : Option Value) (h : Heap) (L : List Loc) : Prop := v = none ∧ Fr n0 L ∧ Keep h0 h [a1] ∧ ∃ (t2 : Addr) (cap2 : Nat), (t2 = t ∨ h0.size ≤ t2) ∧ (cap2 = 16384 ∨ cap2 = 32768) ∧ LN + MN ≤ cap2 ∧ Exa Z h a1 "com/example/travessia/travessia/core/Bytes" ∧ Fld Z h a1 "com/example/travessia/travessia/core/Bytes" "bytes" "[B" (.ref t2) ∧ Fld Z h a1 "com/example/travessia/travessia/core/Bytes" "length" "I" (.int ln) ∧ AN Z h t2 cap2
set_option maxRecDepth 65536 in
set_option maxHeartbeats 40000000 in
theorem rm_roomU (l : Launch) (Z : State) (a0 : Array Value) (hw : ∀ d ∈ tables_1, d.before a0 Z = true) (ws : List Jvm.Cond) (a1 : Addr) (p2 : Int32) (ln : Int32) (t : Addr) (cap : Nat) (LN : Nat) (MN : Nat) (h0 : Heap) (n0 : Nat) (Z0 : n0 ≤ h0.size) (E1 : Exa Z h0 a1 "com/example/travessia/travessia/core/Bytes") (Fb : Fld Z h0 a1 "com/example/travessia/travessia/core/Bytes" "bytes" "[B" (.ref t)) (Fn : Fld Z h0 a1 "com/example/travessia/travessia/core/Bytes" "length" "I" (.int ln)) (VB : AN Z h0 t cap) (ga : n0 ≤ a1) (nt : a1 ≠ t) (gt : n0 ≤ t) (hl : ln.toInt = LN) (hm : p2.toInt = MN) (hc : cap = 16384 ∨ cap = 32768) (hN : LN + MN ≤ 20000) :
    MetFree l (⟨"com/example/travessia/travessia/core/Bytes", "room", "(I)V"⟩ : MethodName) (head1 (Jvm.Cond.code (⟨"com/example/travessia/travessia/core/Bytes", "room", "(I)V"⟩ : MethodName) prog_1_method_9_code 2 none :: ws) ({ frames := 2, cells := 1, slots := 32768, locals := 55 } : Room)) (fun a U => a = #[(.ref a1), (.int p2)] ∧ Z.Warmed39 U.vm ∧ U.heap = h0) (fun _ _ _ _ _ => True) (fun _ U oC U' => ∃ v L, oC = .returned v ∧ Q_rm_roomU Z a1 p2 ln t cap LN MN h0 n0 v U'.heap L ∧ FrameEnd U oC U' L ({ frames := 2, cells := 1, slots := 32768, locals := 55 } : Room).cells ({ frames := 2, cells := 1, slots := 32768, locals := 55 } : Room).slots) := by
  refine MetFree.of_bodySF (plainFor_of_name pn_0) hisR ?_
  intro p e s m args below meth c s₁ Bd hml0 hP hK
  obtain ⟨rfl, hZ, hh⟩ := hP
  have hx := Bd.exec
  have hby := Bd.bytes
  have hml : c.maxLocals = 2 := hml0
  have hown : s.vm.findClass "com/example/travessia/travessia/core/Bytes" = some m.cls := findClass_of_methodNamed Bd.named
  have hnm := (name_of_methodNamed Bd.named Bd.method).1
  have X0 : Stand p l e ({ frames := 2, cells := 1, slots := 32768, locals := 55 } : Room) s m #[(.ref a1), (.int p2)] below meth c s₁ [] 0 0 := Stand.of_body Bd
  have e0 : s₁.heap = h0 := by rw [← hh, Bd.state]; rfl
  have N0 := Fr.nil n0
  have pre0 : ∀ tg, Steps p.tables e below (s₁.setTop (mkF m 0 #[.val (.ref a1), .val (.int p2)] [])) tg → Steps p.tables e below (s₁.setTop (entryFrame m #[(.ref a1), (.int p2)] 2)) tg := fun t k => castTop (ef_rm_roomU m a1 p2) k
  have pre00 : ∀ tg, Steps p.tables e below (s₁.setTop (mkF m 0 #[.val (.ref a1), .val (.int p2)] [])) tg → Steps p.tables e below (s₁.setTop (mkF m 0 #[.val (.ref a1), .val (.int p2)] [])) tg := fun _ k => k
  have hs := own_ladd ln p2 LN MN hl hm (Nat.le_trans hN (by decide))
  rcases hc with hc | hc
  · rw [hc] at VB
    have R40 : ∀ tg, Steps p.tables e below (s₁.setTop (mkF m 1 #[.val (.ref a1), .val (.int p2)] [(.ref a1)])) tg → Steps p.tables e below (s₁.setTop (mkF m 0 #[.val (.ref a1), .val (.int p2)] [])) tg := by
      intro tg kt
      refine pre00 _ ?_
      show Steps p.tables e below (s₁.setTop (mkF m 0 #[.val (.ref a1), .val (.int p2)] [])) _
      refine XS.aloadN X0.here hx rfl (hb hby d5_0) rfl rfl ?_
      exact kt
    obtain ⟨T41, X41, e41, st41⟩ := getF X0 hx hZ hown (host := "") (Or.inl (hw _ (List.mem_of_getElem? (i := 17) rfl))) Via.refl e0 Fn (g := (mkF m 1 #[.val (.ref a1), .val (.int p2)] [(.ref a1)])) rfl rfl (hb hby d5_1)
    have R42 : ∀ tg, Steps p.tables e below (T41.setTop (mkF m 7 #[.val (.ref a1), .val (.int p2)] [(.ref a1), (.int (ln + p2))])) tg → Steps p.tables e below (s₁.setTop (mkF m 0 #[.val (.ref a1), .val (.int p2)] [])) tg := by
      intro tg kt
      refine R40 _ ?_
      refine st41 _ ?_
      show Steps p.tables e below (T41.setTop (mkF m 4 #[.val (.ref a1), .val (.int p2)] [(.int ln)])) _
      refine XS.iloadN X41.here hx rfl (hb hby d5_4) rfl ?_
      show Steps p.tables e below (T41.setTop (mkF m 5 #[.val (.ref a1), .val (.int p2)] [(.int p2), (.int ln)])) _
      refine XS.iadd X41.here hx rfl (hb hby d5_5) rfl ?_
      show Steps p.tables e below (T41.setTop (mkF m 6 #[.val (.ref a1), .val (.int p2)] [(.int (ln + p2))])) _
      refine XS.aloadN X41.here hx rfl (hb hby d5_6) rfl rfl ?_
      exact kt
    clear R40 st41
    obtain ⟨T43, X43, e43, st43⟩ := getF X41 hx hZ hown (host := "") (Or.inl (hw _ (List.mem_of_getElem? (i := 10) rfl))) Via.refl e41 Fb (g := (mkF m 7 #[.val (.ref a1), .val (.int p2)] [(.ref a1), (.int (ln + p2))])) rfl rfl (hb hby d5_7)
    have R44 : ∀ tg, Steps p.tables e below (T43.setTop (mkF m 10 #[.val (.ref a1), .val (.int p2)] [(.ref t), (.int (ln + p2))])) tg → Steps p.tables e below (s₁.setTop (mkF m 0 #[.val (.ref a1), .val (.int p2)] [])) tg := by
      intro tg kt
      refine R42 _ ?_
      refine st43 _ ?_
      exact kt
    clear R42 st43
    obtain ⟨cl45, Ar45, ln45⟩ := VB.len
    have R46 : ∀ tg, Steps p.tables e below (T43.setTop (mkF m 11 #[.val (.ref a1), .val (.int p2)] [(.int (16384 : Int32)), (.int (ln + p2))])) tg → Steps p.tables e below (s₁.setTop (mkF m 0 #[.val (.ref a1), .val (.int p2)] [])) tg := by
      intro tg kt
      refine R44 _ ?_
      show Steps p.tables e below (T43.setTop (mkF m 10 #[.val (.ref a1), .val (.int p2)] [(.ref t), (.int (ln + p2))])) _
      refine X43.arraylength hx (by rw [e43]; exact Ar45.1) (State.isArrayOf_alike hZ.alike Ar45.2.1) (g := (mkF m 10 #[.val (.ref a1), .val (.int p2)] [(.ref t), (.int (ln + p2))])) rfl rfl (hb hby d5_10) _ ?_
      rw [ln45]
      exact kt
    clear R44
    by_cases hg : (16384 : Int32) < (ln + p2)
    · have R48 : ∀ tg, Steps p.tables e below (T43.setTop (mkF m 16 #[.val (.ref a1), .val (.int p2)] [(.ref a1), (.ref a1)])) tg → Steps p.tables e below (s₁.setTop (mkF m 0 #[.val (.ref a1), .val (.int p2)] [])) tg := by
        intro tg kt
        refine R46 _ ?_
        show Steps p.tables e below (T43.setTop (mkF m 11 #[.val (.ref a1), .val (.int p2)] [(.int (16384 : Int32)), (.int (ln + p2))])) _
        refine XS.icmpNo X43.here hx rfl (hb hby d5_11) rfl (tlt (hg : (16384 : Int32) < (ln + p2))).2.2.2 ?_
        show Steps p.tables e below (T43.setTop (mkF m 14 #[.val (.ref a1), .val (.int p2)] [])) _
        refine XS.aloadN X43.here hx rfl (hb hby d5_14) rfl rfl ?_
        show Steps p.tables e below (T43.setTop (mkF m 15 #[.val (.ref a1), .val (.int p2)] [(.ref a1)])) _
        refine XS.aloadN X43.here hx rfl (hb hby d5_15) rfl rfl ?_
        exact kt
      clear R46
      obtain ⟨T49, X49, e49, st49⟩ := getF X43 hx hZ hown (host := "") (Or.inl (hw _ (List.mem_of_getElem? (i := 10) rfl))) Via.refl e43 Fb (g := (mkF m 16 #[.val (.ref a1), .val (.int p2)] [(.ref a1), (.ref a1)])) rfl rfl (hb hby d5_16)
      have R50 : ∀ tg, Steps p.tables e below (T49.setTop (mkF m 21 #[.val (.ref a1), .val (.int p2)] [(.ref a1), (.int (2 : Int32)), (.ref t), (.ref a1)])) tg → Steps p.tables e below (s₁.setTop (mkF m 0 #[.val (.ref a1), .val (.int p2)] [])) tg := by
        intro tg kt
        refine R48 _ ?_
        refine st49 _ ?_
        show Steps p.tables e below (T49.setTop (mkF m 19 #[.val (.ref a1), .val (.int p2)] [(.ref t), (.ref a1)])) _
        refine XS.iconst X49.here hx rfl (hb hby d5_19) ?_
        show Steps p.tables e below (T49.setTop (mkF m 20 #[.val (.ref a1), .val (.int p2)] [(.int (2 : Int32)), (.ref t), (.ref a1)])) _
        refine XS.aloadN X49.here hx rfl (hb hby d5_20) rfl rfl ?_
        exact kt
      clear R48 st49
      obtain ⟨T51, X51, e51, st51⟩ := getF X49 hx hZ hown (host := "") (Or.inl (hw _ (List.mem_of_getElem? (i := 10) rfl))) Via.refl e49 Fb (g := (mkF m 21 #[.val (.ref a1), .val (.int p2)] [(.ref a1), (.int (2 : Int32)), (.ref t), (.ref a1)])) rfl rfl (hb hby d5_21)
      have R52 : ∀ tg, Steps p.tables e below (T51.setTop (mkF m 24 #[.val (.ref a1), .val (.int p2)] [(.ref t), (.int (2 : Int32)), (.ref t), (.ref a1)])) tg → Steps p.tables e below (s₁.setTop (mkF m 0 #[.val (.ref a1), .val (.int p2)] [])) tg := by
        intro tg kt
        refine R50 _ ?_
        refine st51 _ ?_
        exact kt
      clear R50 st51
      obtain ⟨cl53, Ar53, ln53⟩ := VB.len
      have R54 : ∀ tg, Steps p.tables e below (T51.setTop (mkF m 27 #[.val (.ref a1), .val (.int p2)] [(.ref a1), (.int ((2 : Int32) * (16384 : Int32))), (.ref t), (.ref a1)])) tg → Steps p.tables e below (s₁.setTop (mkF m 0 #[.val (.ref a1), .val (.int p2)] [])) tg := by
        intro tg kt
        refine R52 _ ?_
        show Steps p.tables e below (T51.setTop (mkF m 24 #[.val (.ref a1), .val (.int p2)] [(.ref t), (.int (2 : Int32)), (.ref t), (.ref a1)])) _
        refine X51.arraylength hx (by rw [e51]; exact Ar53.1) (State.isArrayOf_alike hZ.alike Ar53.2.1) (g := (mkF m 24 #[.val (.ref a1), .val (.int p2)] [(.ref t), (.int (2 : Int32)), (.ref t), (.ref a1)])) rfl rfl (hb hby d5_24) _ ?_
        rw [ln53]
        show Steps p.tables e below (T51.setTop (mkF m 25 #[.val (.ref a1), .val (.int p2)] [(.int (16384 : Int32)), (.int (2 : Int32)), (.ref t), (.ref a1)])) _
        refine XS.imul X51.here hx rfl (hb hby d5_25) rfl ?_
        show Steps p.tables e below (T51.setTop (mkF m 26 #[.val (.ref a1), .val (.int p2)] [(.int ((2 : Int32) * (16384 : Int32))), (.ref t), (.ref a1)])) _
        refine XS.aloadN X51.here hx rfl (hb hby d5_26) rfl rfl ?_
        exact kt
      clear R52
      obtain ⟨T55, X55, e55, st55⟩ := getF X51 hx hZ hown (host := "") (Or.inl (hw _ (List.mem_of_getElem? (i := 17) rfl))) Via.refl e51 Fn (g := (mkF m 27 #[.val (.ref a1), .val (.int p2)] [(.ref a1), (.int ((2 : Int32) * (16384 : Int32))), (.ref t), (.ref a1)])) rfl rfl (hb hby d5_27)
      have R56 : ∀ tg, Steps p.tables e below (T55.setTop (mkF m 32 #[.val (.ref a1), .val (.int p2)] [(.int (ln + p2)), (.int ((2 : Int32) * (16384 : Int32))), (.ref t), (.ref a1)])) tg → Steps p.tables e below (s₁.setTop (mkF m 0 #[.val (.ref a1), .val (.int p2)] [])) tg := by
        intro tg kt
        refine R54 _ ?_
        refine st55 _ ?_
        show Steps p.tables e below (T55.setTop (mkF m 30 #[.val (.ref a1), .val (.int p2)] [(.int ln), (.int ((2 : Int32) * (16384 : Int32))), (.ref t), (.ref a1)])) _
        refine XS.iloadN X55.here hx rfl (hb hby d5_30) rfl ?_
        show Steps p.tables e below (T55.setTop (mkF m 31 #[.val (.ref a1), .val (.int p2)] [(.int p2), (.int ln), (.int ((2 : Int32) * (16384 : Int32))), (.ref t), (.ref a1)])) _
        refine XS.iadd X55.here hx rfl (hb hby d5_31) rfl ?_
        exact kt
      clear R54 st55
      obtain ⟨_, _, ⟨T57, L57, k57, n57⟩, -, X57, ⟨Lc57, hQ57, l57, y57, z57⟩, st57⟩ := Jvm.LawKit.callS X55 hx (y := (⟨"java/lang/Math", "max", "(II)I"⟩ : MethodName)) hown (mvT hZ (hw _ (List.mem_of_getElem? (i := 37) rfl))) (mvT hZ (hw _ (List.mem_of_getElem? (i := 38) rfl))) (mvT hZ (hw _ (List.mem_of_getElem? (i := 39) rfl))) (mvT hZ (hw _ (List.mem_of_getElem? (i := 40) rfl))) (by decide) (backOf (W := 2) (rm_max l Z a0 hw [] ((2 : Int32) * (16384 : Int32)) (ln + p2) h0 n0 Z0) hZ (hw _ (List.mem_of_getElem? (i := 40) rfl)) (hw _ (List.mem_of_getElem? (i := 39) rfl)) (by decide) (by decide)) (g := (mkF m 32 #[.val (.ref a1), .val (.int p2)] [(.int (ln + p2)), (.int ((2 : Int32) * (16384 : Int32))), (.ref t), (.ref a1)])) rfl (by rw [hml]; rfl) (argsL := [(.int ((2 : Int32) * (16384 : Int32))), (.int (ln + p2))]) (rest := [(.ref t), (.ref a1)]) (lenOf pd_0 rfl) rfl (by show 2 * 0 + _ ≤ _; exact Nat.le_of_eq rfl) (hb hby d5_32) (fun _ _ => ⟨rfl, e55, (by decide : 0 + 0 ≤ _), (by decide : 0 + 0 ≤ _)⟩)
      dsimp only [Pt.U, Pt.locs, Pt.cells, Pt.slots] at X57 l57 y57 z57 st57 hQ57
      rw [l57, y57, z57] at X57
      obtain ⟨rfl, N57q, hh57⟩ := hQ57
      have N57 := Fr.app N0 N57q
      have R58 : ∀ tg, Steps p.tables e below (T57.setTop (mkF m 35 #[.val (.ref a1), .val (.int p2)] [(.int (own_max ((2 : Int32) * (16384 : Int32)) (ln + p2))), (.ref t), (.ref a1)])) tg → Steps p.tables e below (s₁.setTop (mkF m 0 #[.val (.ref a1), .val (.int p2)] [])) tg := by
        intro tg kt
        refine R56 _ ?_
        refine st57 _ ?_
        exact kt
      clear R56 st57
      have hmx : (own_max ((2 : Int32) * (16384 : Int32)) (ln + p2)) = (32768 : Int32) := own_mx _ (by rw [hs]; exact Int.ofNat_le.mpr (own_le2 hN))
      have R59 : ∀ tg, Steps p.tables e below (T57.setTop (mkF m 35 #[.val (.ref a1), .val (.int p2)] [(.int (32768 : Int32)), (.ref t), (.ref a1)])) tg → Steps p.tables e below (s₁.setTop (mkF m 0 #[.val (.ref a1), .val (.int p2)] [])) tg := by intro tg kt; refine R58 tg ?_; rw [hmx]; exact kt
      obtain ⟨_, _, ⟨T60, L60, k60, n60⟩, -, X60, ⟨Lc60, hQ60, l60, y60, z60⟩, st60⟩ := Jvm.LawKit.callS X57 hx (y := (⟨"java/util/Arrays", "copyOf", "([BI)[B"⟩ : MethodName)) hown (mvT hZ (hw _ (List.mem_of_getElem? (i := 41) rfl))) (mvT hZ (hw _ (List.mem_of_getElem? (i := 42) rfl))) (mvT hZ (hw _ (List.mem_of_getElem? (i := 43) rfl))) (mvT hZ (hw _ (List.mem_of_getElem? (i := 44) rfl))) (by decide) (backOf (W := 1) (rm_copy l Z a0 hw [] t (32768 : Int32) h0 n0 Z0 VB rfl) hZ (hw _ (List.mem_of_getElem? (i := 44) rfl)) (hw _ (List.mem_of_getElem? (i := 43) rfl)) (by decide) (by decide)) (g := (mkF m 35 #[.val (.ref a1), .val (.int p2)] [(.int (32768 : Int32)), (.ref t), (.ref a1)])) rfl (by rw [hml]; rfl) (argsL := [(.ref t), (.int (32768 : Int32))]) (rest := [(.ref a1)]) (lenOf pd_1 rfl) rfl (by show 2 * 0 + _ ≤ _; exact Nat.le_of_eq rfl) (hb hby d5_35) (fun _ _ => ⟨rfl, hh57, (by decide : 0 + 1 ≤ _), (by decide : 0 + 32768 ≤ _)⟩)
      dsimp only [Pt.U, Pt.locs, Pt.cells, Pt.slots] at X60 l60 y60 z60 st60 hQ60
      rw [l60, y60, z60] at X60
      obtain ⟨t2, rfl, N60q, szt, K60, V60⟩ := hQ60
      have N60 := Fr.app N57 N60q
      have ne_a1_t2 : a1 ≠ t2 := Nat.ne_of_lt (Nat.lt_of_lt_of_le E1.lt szt)
      have ne_t_t2 : t ≠ t2 := Nat.ne_of_lt (Nat.lt_of_lt_of_le VB.lt szt)
      have E_a1_61 := E1.keep K60
      have Fb_61 := Fb.keep K60 own_notin0
      have Fn_61 := Fn.keep K60 own_notin0
      have VB_61 := VB.keep K60 own_notin0
      have Zs61 : n0 ≤ T60.heap.size := Nat.le_trans Z0 K60.1
      have Kk61 : Keep h0 T60.heap [a1] := Keep.trans (Keep.refl h0 [a1]) K60 (own_trans0 )
      have R62 : ∀ tg, Steps p.tables e below (T60.setTop (mkF m 38 #[.val (.ref a1), .val (.int p2)] [(.ref t2), (.ref a1)])) tg → Steps p.tables e below (s₁.setTop (mkF m 0 #[.val (.ref a1), .val (.int p2)] [])) tg := by
        intro tg kt
        refine R59 _ ?_
        refine st60 _ ?_
        exact kt
      clear R59 st60
      obtain ⟨T63, h63, X63, e63, W63, st63⟩ := putF X60 hx hZ hown (host := "") (Or.inl (hw _ (List.mem_of_getElem? (i := 10) rfl))) Via.refl rfl Fb_61 E_a1_61 (Or.inl (hw _ (List.mem_of_getElem? (i := 11) rfl))) (hw _ (List.mem_of_getElem? (i := 1) rfl)) (ty := (.array .byte)) (by decide) rfl rfl (g := (mkF m 38 #[.val (.ref a1), .val (.int p2)] [(.ref t2), (.ref a1)])) rfl rfl (hb hby d5_38)
      have N63 := Fr.snoc X63 N60 ga
      have Fb_63 := Fb_61.same W63
      have E_a1_63 := E_a1_61.wr W63
      have Fn_63 := Fn_61.other W63 (Or.inr (slot_ne (Or.inl (hw _ (List.mem_of_getElem? (i := 18) rfl))) (Or.inl (hw _ (List.mem_of_getElem? (i := 11) rfl))) (by decide) (t := .int) (t' := (.array .byte)) (by decide) (by decide)))
      have VB_63 := VB_61.other W63 (Ne.symm nt)
      have VT_63 := V60.other W63 (Ne.symm ne_a1_t2)
      clear E_a1_61 Fn_61 VB_61
      have Zs63 : n0 ≤ h63.size := Nat.le_trans Zs61 (Keep.of_wr W63).1
      have Kw63 : Keep h0 h63 [a1] := Keep.wr Kk61 W63 (Or.inl (List.mem_of_getElem? (i := 0) rfl))
      have R64 : ∀ tg, Steps p.tables e below (T63.setTop (mkF m 41 #[.val (.ref a1), .val (.int p2)] [])) tg → Steps p.tables e below (s₁.setTop (mkF m 0 #[.val (.ref a1), .val (.int p2)] [])) tg := by
        intro tg kt
        refine R62 _ ?_
        refine st63 _ ?_
        exact kt
      clear R62 st63
      obtain ⟨fs, hr, hrun, hended, hW, hsame⟩ := X63.leave (v := none) (fun _ => rfl)
      refine ⟨_, _, pre0 _ (R64 _ ?_), hrun, hended, _, _, rfl, ?_, ⟨_, rfl⟩, hW, hsame.mono (by decide) (by decide)⟩
      · exact X63.returnOut hx Bd.returns (hb hby d5_41) hr
      · show Q_rm_roomU Z a1 p2 ln t cap LN MN h0 n0 _ T63.heap _
        rw [e63]
        exact ⟨rfl, N63, Kw63, t2, 32768, Or.inr szt, Or.inr rfl, own_le2 hN, E_a1_63, Fb_63, Fn_63, VT_63⟩
    · have R47 : ∀ tg, Steps p.tables e below (T43.setTop (mkF m 41 #[.val (.ref a1), .val (.int p2)] [])) tg → Steps p.tables e below (s₁.setTop (mkF m 0 #[.val (.ref a1), .val (.int p2)] [])) tg := by
        intro tg kt
        refine R46 _ ?_
        show Steps p.tables e below (T43.setTop (mkF m 11 #[.val (.ref a1), .val (.int p2)] [(.int (16384 : Int32)), (.int (ln + p2))])) _
        refine XS.icmpYes X43.here hx rfl (pc0 := 11) (pc' := 41) rfl (hb hby d5_11) rfl (flt (hg : ¬ ((16384 : Int32) < (ln + p2)))).2.2.2 (by decide) (by decide) ?_
        exact kt
      clear R46
      obtain ⟨fs, hr, hrun, hended, hW, hsame⟩ := X43.leave (v := none) (fun _ => rfl)
      refine ⟨_, _, pre0 _ (R47 _ ?_), hrun, hended, _, _, rfl, ?_, ⟨_, rfl⟩, hW, hsame.mono (by decide) (by decide)⟩
      · exact X43.returnOut hx Bd.returns (hb hby d5_41) hr
      · show Q_rm_roomU Z a1 p2 ln t cap LN MN h0 n0 _ T43.heap _
        rw [e43]
        exact ⟨rfl, N0, Keep.refl _ _, t, 16384, Or.inl rfl, Or.inl rfl, own_ge _ _ _ _ rfl hs hg, E1, Fb, Fn, VB⟩
  · rw [hc] at VB
    have R65 : ∀ tg, Steps p.tables e below (s₁.setTop (mkF m 1 #[.val (.ref a1), .val (.int p2)] [(.ref a1)])) tg → Steps p.tables e below (s₁.setTop (mkF m 0 #[.val (.ref a1), .val (.int p2)] [])) tg := by
      intro tg kt
      refine pre00 _ ?_
      show Steps p.tables e below (s₁.setTop (mkF m 0 #[.val (.ref a1), .val (.int p2)] [])) _
      refine XS.aloadN X0.here hx rfl (hb hby d5_0) rfl rfl ?_
      exact kt
    obtain ⟨T66, X66, e66, st66⟩ := getF X0 hx hZ hown (host := "") (Or.inl (hw _ (List.mem_of_getElem? (i := 17) rfl))) Via.refl e0 Fn (g := (mkF m 1 #[.val (.ref a1), .val (.int p2)] [(.ref a1)])) rfl rfl (hb hby d5_1)
    have R67 : ∀ tg, Steps p.tables e below (T66.setTop (mkF m 7 #[.val (.ref a1), .val (.int p2)] [(.ref a1), (.int (ln + p2))])) tg → Steps p.tables e below (s₁.setTop (mkF m 0 #[.val (.ref a1), .val (.int p2)] [])) tg := by
      intro tg kt
      refine R65 _ ?_
      refine st66 _ ?_
      show Steps p.tables e below (T66.setTop (mkF m 4 #[.val (.ref a1), .val (.int p2)] [(.int ln)])) _
      refine XS.iloadN X66.here hx rfl (hb hby d5_4) rfl ?_
      show Steps p.tables e below (T66.setTop (mkF m 5 #[.val (.ref a1), .val (.int p2)] [(.int p2), (.int ln)])) _
      refine XS.iadd X66.here hx rfl (hb hby d5_5) rfl ?_
      show Steps p.tables e below (T66.setTop (mkF m 6 #[.val (.ref a1), .val (.int p2)] [(.int (ln + p2))])) _
      refine XS.aloadN X66.here hx rfl (hb hby d5_6) rfl rfl ?_
      exact kt
    clear R65 st66
    obtain ⟨T68, X68, e68, st68⟩ := getF X66 hx hZ hown (host := "") (Or.inl (hw _ (List.mem_of_getElem? (i := 10) rfl))) Via.refl e66 Fb (g := (mkF m 7 #[.val (.ref a1), .val (.int p2)] [(.ref a1), (.int (ln + p2))])) rfl rfl (hb hby d5_7)
    have R69 : ∀ tg, Steps p.tables e below (T68.setTop (mkF m 10 #[.val (.ref a1), .val (.int p2)] [(.ref t), (.int (ln + p2))])) tg → Steps p.tables e below (s₁.setTop (mkF m 0 #[.val (.ref a1), .val (.int p2)] [])) tg := by
      intro tg kt
      refine R67 _ ?_
      refine st68 _ ?_
      exact kt
    clear R67 st68
    obtain ⟨cl70, Ar70, ln70⟩ := VB.len
    have R71 : ∀ tg, Steps p.tables e below (T68.setTop (mkF m 41 #[.val (.ref a1), .val (.int p2)] [])) tg → Steps p.tables e below (s₁.setTop (mkF m 0 #[.val (.ref a1), .val (.int p2)] [])) tg := by
      intro tg kt
      refine R69 _ ?_
      show Steps p.tables e below (T68.setTop (mkF m 10 #[.val (.ref a1), .val (.int p2)] [(.ref t), (.int (ln + p2))])) _
      refine X68.arraylength hx (by rw [e68]; exact Ar70.1) (State.isArrayOf_alike hZ.alike Ar70.2.1) (g := (mkF m 10 #[.val (.ref a1), .val (.int p2)] [(.ref t), (.int (ln + p2))])) rfl rfl (hb hby d5_10) _ ?_
      rw [ln70]
      show Steps p.tables e below (T68.setTop (mkF m 11 #[.val (.ref a1), .val (.int p2)] [(.int (32768 : Int32)), (.int (ln + p2))])) _
      refine XS.icmpYes X68.here hx rfl (pc0 := 11) (pc' := 41) rfl (hb hby d5_11) rfl (flt (own_notlt _ _ 32768 (LN + MN) rfl hs (own_le2 hN) : ¬ ((32768 : Int32) < (ln + p2)))).2.2.2 (by decide) (by decide) ?_
      exact kt
    clear R69
    obtain ⟨fs, hr, hrun, hended, hW, hsame⟩ := X68.leave (v := none) (fun _ => rfl)
    refine ⟨_, _, pre0 _ (R71 _ ?_), hrun, hended, _, _, rfl, ?_, ⟨_, rfl⟩, hW, hsame.mono (by decide) (by decide)⟩
    · exact X68.returnOut hx Bd.returns (hb hby d5_41) hr
    · show Q_rm_roomU Z a1 p2 ln t cap LN MN h0 n0 _ T68.heap _
      rw [e68]
      exact ⟨rfl, N0, Keep.refl _ _, t, 32768, Or.inl rfl, Or.inr rfl, own_le2 hN, E1, Fb, Fn, VB⟩
theorem d4_0 : decode prog_1_method_4_code 0 = .ok (.aload_n 0, 1) := by decide +kernel
theorem d4_1 : decode prog_1_method_4_code 1 = .ok (.iconst 1, 1) := by decide +kernel
theorem pd_2 : parseMethodDescriptor "(I)V" = some ⟨[.int], none⟩ := by decide +kernel
theorem d4_2 : decode prog_1_method_4_code 2 = .ok (.invokevirtual 17, 3) := by decide +kernel
theorem d4_5 : decode prog_1_method_4_code 5 = .ok (.aload_n 0, 1) := by decide +kernel
theorem d4_6 : decode prog_1_method_4_code 6 = .ok (.getfield 7, 3) := by decide +kernel
theorem d4_9 : decode prog_1_method_4_code 9 = .ok (.aload_n 0, 1) := by decide +kernel
theorem d4_10 : decode prog_1_method_4_code 10 = .ok (.dup, 1) := by decide +kernel
theorem d4_11 : decode prog_1_method_4_code 11 = .ok (.getfield 13, 3) := by decide +kernel
theorem d4_14 : decode prog_1_method_4_code 14 = .ok (.dup_x1, 1) := by decide +kernel
theorem d4_15 : decode prog_1_method_4_code 15 = .ok (.iconst 1, 1) := by decide +kernel
theorem d4_16 : decode prog_1_method_4_code 16 = .ok (.iadd, 1) := by decide +kernel
theorem d4_17 : decode prog_1_method_4_code 17 = .ok (.putfield 13, 3) := by decide +kernel
theorem d4_20 : decode prog_1_method_4_code 20 = .ok (.iload_n 1, 1) := by decide +kernel
theorem d4_21 : decode prog_1_method_4_code 21 = .ok (.bastore, 1) := by decide +kernel
theorem d4_22 : decode prog_1_method_4_code 22 = .ok (.return_, 1) := by decide +kernel
theorem ef_rm_addB (m : MethodId) (a1 : Addr) (p2 : Int32) : entryFrame m #[(.ref a1), (.int p2)] 2 = mkF m 0 #[.val (.ref a1), .val (.int p2)] [] := by first | (simp [entryFrame, mkF, argsToLocals, Value.category]; done) | rfl
def Q_rm_addB (Z : State) (a1 : Addr) (p2 : Int32) (ln : Int32) (t : Addr) (cap : Nat) (LN : Nat) (h0 : Heap) (n0 : Nat) (v : Option Value) (h : Heap) (L : List Loc) : Prop := v = none ∧ Fr n0 L ∧ Keep h0 h [a1, t] ∧ ∃ (t2 : Addr) (cap2 : Nat), (t2 = t ∨ h0.size ≤ t2) ∧ (cap2 = 16384 ∨ cap2 = 32768) ∧ LN + 1 ≤ cap2 ∧ Exa Z h a1 "com/example/travessia/travessia/core/Bytes" ∧ Fld Z h a1 "com/example/travessia/travessia/core/Bytes" "bytes" "[B" (.ref t2) ∧ Fld Z h a1 "com/example/travessia/travessia/core/Bytes" "length" "I" (.int (ln + (1 : Int32))) ∧ AN Z h t2 cap2
set_option maxRecDepth 65536 in
set_option maxHeartbeats 40000000 in
theorem rm_addB (l : Launch) (Z : State) (a0 : Array Value) (hw : ∀ d ∈ tables_1, d.before a0 Z = true) (ws : List Jvm.Cond) (a1 : Addr) (p2 : Int32) (ln : Int32) (t : Addr) (cap : Nat) (LN : Nat) (h0 : Heap) (n0 : Nat) (Z0 : n0 ≤ h0.size) (E1 : Exa Z h0 a1 "com/example/travessia/travessia/core/Bytes") (Fb : Fld Z h0 a1 "com/example/travessia/travessia/core/Bytes" "bytes" "[B" (.ref t)) (Fn : Fld Z h0 a1 "com/example/travessia/travessia/core/Bytes" "length" "I" (.int ln)) (VB : AN Z h0 t cap) (ga : n0 ≤ a1) (nt : a1 ≠ t) (gt : n0 ≤ t) (hl : ln.toInt = LN) (hc : cap = 16384 ∨ cap = 32768) (hN : LN + 1 ≤ 20000) :
    MetFree l (⟨"com/example/travessia/travessia/core/Bytes", "add", "(B)V"⟩ : MethodName) (head1 (Jvm.Cond.code (⟨"com/example/travessia/travessia/core/Bytes", "add", "(B)V"⟩ : MethodName) prog_1_method_4_code 2 none :: ws) ({ frames := 3, cells := 1, slots := 32768, locals := 68 } : Room)) (fun a U => a = #[(.ref a1), (.int p2)] ∧ Z.Warmed39 U.vm ∧ U.heap = h0) (fun _ _ _ _ _ => True) (fun _ U oC U' => ∃ v L, oC = .returned v ∧ Q_rm_addB Z a1 p2 ln t cap LN h0 n0 v U'.heap L ∧ FrameEnd U oC U' L ({ frames := 3, cells := 1, slots := 32768, locals := 68 } : Room).cells ({ frames := 3, cells := 1, slots := 32768, locals := 68 } : Room).slots) := by
  refine MetFree.of_bodySF (plainFor_of_name pn_0) hisR ?_
  intro p e s m args below meth c s₁ Bd hml0 hP hK
  obtain ⟨rfl, hZ, hh⟩ := hP
  have hx := Bd.exec
  have hby := Bd.bytes
  have hml : c.maxLocals = 2 := hml0
  have hown : s.vm.findClass "com/example/travessia/travessia/core/Bytes" = some m.cls := findClass_of_methodNamed Bd.named
  have hnm := (name_of_methodNamed Bd.named Bd.method).1
  have X0 : Stand p l e ({ frames := 3, cells := 1, slots := 32768, locals := 68 } : Room) s m #[(.ref a1), (.int p2)] below meth c s₁ [] 0 0 := Stand.of_body Bd
  have e0 : s₁.heap = h0 := by rw [← hh, Bd.state]; rfl
  have N0 := Fr.nil n0
  have pre0 : ∀ tg, Steps p.tables e below (s₁.setTop (mkF m 0 #[.val (.ref a1), .val (.int p2)] [])) tg → Steps p.tables e below (s₁.setTop (entryFrame m #[(.ref a1), (.int p2)] 2)) tg := fun t k => castTop (ef_rm_addB m a1 p2) k
  have pre00 : ∀ tg, Steps p.tables e below (s₁.setTop (mkF m 0 #[.val (.ref a1), .val (.int p2)] [])) tg → Steps p.tables e below (s₁.setTop (mkF m 0 #[.val (.ref a1), .val (.int p2)] [])) tg := fun _ k => k
  have R72 : ∀ tg, Steps p.tables e below (s₁.setTop (mkF m 2 #[.val (.ref a1), .val (.int p2)] [(.int (1 : Int32)), (.ref a1)])) tg → Steps p.tables e below (s₁.setTop (mkF m 0 #[.val (.ref a1), .val (.int p2)] [])) tg := by
    intro tg kt
    refine pre00 _ ?_
    show Steps p.tables e below (s₁.setTop (mkF m 0 #[.val (.ref a1), .val (.int p2)] [])) _
    refine XS.aloadN X0.here hx rfl (hb hby d4_0) rfl rfl ?_
    show Steps p.tables e below (s₁.setTop (mkF m 1 #[.val (.ref a1), .val (.int p2)] [(.ref a1)])) _
    refine XS.iconst X0.here hx rfl (hb hby d4_1) ?_
    exact kt
  obtain ⟨cq73, q73, q73'⟩ := E1.cell
  obtain ⟨_, _, ⟨T73, L73, k73, n73⟩, -, X73, ⟨Lc73, hQ73, l73, y73, z73⟩, st73⟩ := X0.privateBack hx (y := (⟨"com/example/travessia/travessia/core/Bytes", "room", "(I)V"⟩ : MethodName)) hown (mvT hZ (hw _ (List.mem_of_getElem? (i := 24) rfl))) (mvT hZ (hw _ (List.mem_of_getElem? (i := 25) rfl))) (own_selp (mvT hZ (hw _ (List.mem_of_getElem? (i := 1) rfl))) (mvP hZ (hw _ (List.mem_of_getElem? (i := 26) rfl))) (mvT hZ (hw _ (List.mem_of_getElem? (i := 25) rfl))) (by decide)) (Cond.privateMethod_at (mvP hZ (hw _ (List.mem_of_getElem? (i := 26) rfl)) (args := #[]))) (mvT hZ (hw _ (List.mem_of_getElem? (i := 27) rfl))) (by decide) (backOf (W := 0) (rm_roomU l Z a0 hw [] a1 (1 : Int32) ln t cap LN 1 h0 n0 Z0 E1 Fb Fn VB ga nt gt hl rfl hc hN) hZ (hw _ (List.mem_of_getElem? (i := 27) rfl)) (hw _ (List.mem_of_getElem? (i := 2) rfl)) (by decide) (by decide)) (g := (mkF m 2 #[.val (.ref a1), .val (.int p2)] [(.int (1 : Int32)), (.ref a1)])) rfl (by rw [hml]; rfl) (Steps.refl _) (a := a1) (by rw [e0]; exact q73) q73' (argsL := [(.int (1 : Int32))]) (rest := []) (lenOf pd_2 rfl) rfl (by show 2 * 0 + _ ≤ _; exact Nat.le_of_eq rfl) (hb hby d4_2) (fun _ _ => ⟨rfl, e0, (by decide : 0 + 1 ≤ _), (by decide : 0 + 32768 ≤ _)⟩)
  dsimp only [Pt.U, Pt.locs, Pt.cells, Pt.slots] at X73 l73 y73 z73 st73 hQ73
  rw [l73, y73, z73] at X73
  obtain ⟨rfl, N73q, K73, t2, cap2, ht2, hc2, hle, E2, Fb2, Fn2, VB2⟩ := hQ73
  have N73 := Fr.app N0 N73q
  have Zs74 : n0 ≤ T73.heap.size := Nat.le_trans Z0 K73.1
  have Kk74 : Keep h0 T73.heap [a1, t] := Keep.trans (Keep.refl h0 [a1, t]) K73 (own_trans1 (Or.inl (List.mem_of_getElem? (i := 0) rfl)))
  have gt2 := own_g2 ht2 gt Z0
  have nt2 := own_n2 ht2 nt E1.lt
  have R75 : ∀ tg, Steps p.tables e below (T73.setTop (mkF m 6 #[.val (.ref a1), .val (.int p2)] [(.ref a1)])) tg → Steps p.tables e below (s₁.setTop (mkF m 0 #[.val (.ref a1), .val (.int p2)] [])) tg := by
    intro tg kt
    refine R72 _ ?_
    refine st73.trans ?_
    show Steps p.tables e below (T73.setTop (mkF m 5 #[.val (.ref a1), .val (.int p2)] [])) _
    refine XS.aloadN X73.here hx rfl (hb hby d4_5) rfl rfl ?_
    exact kt
  clear R72 st73
  obtain ⟨T76, X76, e76, st76⟩ := getF X73 hx hZ hown (host := "") (Or.inl (hw _ (List.mem_of_getElem? (i := 10) rfl))) Via.refl rfl Fb2 (g := (mkF m 6 #[.val (.ref a1), .val (.int p2)] [(.ref a1)])) rfl rfl (hb hby d4_6)
  have R77 : ∀ tg, Steps p.tables e below (T76.setTop (mkF m 11 #[.val (.ref a1), .val (.int p2)] [(.ref a1), (.ref a1), (.ref t2)])) tg → Steps p.tables e below (s₁.setTop (mkF m 0 #[.val (.ref a1), .val (.int p2)] [])) tg := by
    intro tg kt
    refine R75 _ ?_
    refine st76 _ ?_
    show Steps p.tables e below (T76.setTop (mkF m 9 #[.val (.ref a1), .val (.int p2)] [(.ref t2)])) _
    refine XS.aloadN X76.here hx rfl (hb hby d4_9) rfl rfl ?_
    show Steps p.tables e below (T76.setTop (mkF m 10 #[.val (.ref a1), .val (.int p2)] [(.ref a1), (.ref t2)])) _
    refine XS.dup X76.here hx rfl (hb hby d4_10) rfl rfl ?_
    exact kt
  clear R75 st76
  obtain ⟨T78, X78, e78, st78⟩ := getF X76 hx hZ hown (host := "") (Or.inl (hw _ (List.mem_of_getElem? (i := 17) rfl))) Via.refl e76 Fn2 (g := (mkF m 11 #[.val (.ref a1), .val (.int p2)] [(.ref a1), (.ref a1), (.ref t2)])) rfl rfl (hb hby d4_11)
  have R79 : ∀ tg, Steps p.tables e below (T78.setTop (mkF m 17 #[.val (.ref a1), .val (.int p2)] [(.int (ln + (1 : Int32))), (.ref a1), (.int ln), (.ref t2)])) tg → Steps p.tables e below (s₁.setTop (mkF m 0 #[.val (.ref a1), .val (.int p2)] [])) tg := by
    intro tg kt
    refine R77 _ ?_
    refine st78 _ ?_
    show Steps p.tables e below (T78.setTop (mkF m 14 #[.val (.ref a1), .val (.int p2)] [(.int ln), (.ref a1), (.ref t2)])) _
    refine XS.dupX1 X78.here hx rfl (hb hby d4_14) rfl rfl rfl ?_
    show Steps p.tables e below (T78.setTop (mkF m 15 #[.val (.ref a1), .val (.int p2)] [(.int ln), (.ref a1), (.int ln), (.ref t2)])) _
    refine XS.iconst X78.here hx rfl (hb hby d4_15) ?_
    show Steps p.tables e below (T78.setTop (mkF m 16 #[.val (.ref a1), .val (.int p2)] [(.int (1 : Int32)), (.int ln), (.ref a1), (.int ln), (.ref t2)])) _
    refine XS.iadd X78.here hx rfl (hb hby d4_16) rfl ?_
    exact kt
  clear R77 st78
  obtain ⟨T80, h80, X80, e80, W80, st80⟩ := putF X78 hx hZ hown (host := "") (Or.inl (hw _ (List.mem_of_getElem? (i := 17) rfl))) Via.refl e78 Fn2 E2 (Or.inl (hw _ (List.mem_of_getElem? (i := 18) rfl))) (hw _ (List.mem_of_getElem? (i := 1) rfl)) (ty := .int) (by decide) rfl rfl (g := (mkF m 17 #[.val (.ref a1), .val (.int p2)] [(.int (ln + (1 : Int32))), (.ref a1), (.int ln), (.ref t2)])) rfl rfl (hb hby d4_17)
  have N80 := Fr.snoc X80 N73 ga
  have Fn_80 := Fn2.same W80
  have E_a1_80 := E2.wr W80
  have Fb_80 := Fb2.other W80 (Or.inr (slot_ne (Or.inl (hw _ (List.mem_of_getElem? (i := 11) rfl))) (Or.inl (hw _ (List.mem_of_getElem? (i := 18) rfl))) (by decide) (t := (.array .byte)) (t' := .int) (by decide) (by decide)))
  have VB_80 := VB2.other W80 (Ne.symm nt2)
  have Zs80 : n0 ≤ h80.size := Nat.le_trans Zs74 (Keep.of_wr W80).1
  have Kw80 : Keep h0 h80 [a1, t] := Keep.wr Kk74 W80 (Or.inl (List.mem_of_getElem? (i := 0) rfl))
  obtain ⟨l0, lnn⟩ := own_nat0 ln LN hl
  have R81 : ∀ tg, Steps p.tables e below (T80.setTop (mkF m 21 #[.val (.ref a1), .val (.int p2)] [(.int p2), (.int ln), (.ref t2)])) tg → Steps p.tables e below (s₁.setTop (mkF m 0 #[.val (.ref a1), .val (.int p2)] [])) tg := by
    intro tg kt
    refine R79 _ ?_
    refine st80 _ ?_
    show Steps p.tables e below (T80.setTop (mkF m 20 #[.val (.ref a1), .val (.int p2)] [(.int ln), (.ref t2)])) _
    refine XS.iloadN X80.here hx rfl (hb hby d4_20) rfl ?_
    exact kt
  clear R79 st80
  obtain ⟨cl82, Ar82, hin82⟩ := VB_80.at (j := ln) (k := LN) l0 lnn (own_lt1 hle (by decide))
  obtain ⟨T83, h83, X83, e83, W83, st83⟩ := stB X80 hx hZ e80 Ar82 (j := ln) hin82 (g := (mkF m 21 #[.val (.ref a1), .val (.int p2)] [(.int p2), (.int ln), (.ref t2)])) rfl rfl (hb hby d4_21)
  have N83 := Fr.snoc X83 N80 gt2
  have VB_83 := VB_80.set W83 (fits_nar_byte _)
  have E_a1_83 := E_a1_80.wr W83
  have Fb_83 := Fb_80.other W83 (Or.inl nt2)
  have Fn_83 := Fn_80.other W83 (Or.inl nt2)
  clear E_a1_80 Fb_80 Fn_80
  have Zs83 : n0 ≤ h83.size := Nat.le_trans Zs80 (Keep.of_wr W83).1
  have Kw83 : Keep h0 h83 [a1, t] := Keep.wr Kw80 W83 (own_km ht2)
  have R84 : ∀ tg, Steps p.tables e below (T83.setTop (mkF m 22 #[.val (.ref a1), .val (.int p2)] [])) tg → Steps p.tables e below (s₁.setTop (mkF m 0 #[.val (.ref a1), .val (.int p2)] [])) tg := by
    intro tg kt
    refine R81 _ ?_
    refine st83 _ ?_
    exact kt
  clear R81 st83
  obtain ⟨fs, hr, hrun, hended, hW, hsame⟩ := X83.leave (v := none) (fun _ => rfl)
  refine ⟨_, _, pre0 _ (R84 _ ?_), hrun, hended, _, _, rfl, ?_, ⟨_, rfl⟩, hW, hsame.mono (by decide) (by decide)⟩
  · exact X83.returnOut hx Bd.returns (hb hby d4_22) hr
  · show Q_rm_addB Z a1 p2 ln t cap LN h0 n0 _ T83.heap _
    rw [e83]
    exact ⟨rfl, N83, Kw83, t2, cap2, ht2, hc2, hle, E_a1_83, Fb_83, Fn_83, VB_83⟩
theorem d6_0 : decode prog_1_method_5_code 0 = .ok (.aload_n 0, 1) := by decide +kernel
theorem d6_1 : decode prog_1_method_5_code 1 = .ok (.aload_n 1, 1) := by decide +kernel
theorem d6_2 : decode prog_1_method_5_code 2 = .ok (.arraylength, 1) := by decide +kernel
theorem d6_3 : decode prog_1_method_5_code 3 = .ok (.invokevirtual 17, 3) := by decide +kernel
theorem d6_6 : decode prog_1_method_5_code 6 = .ok (.aload_n 1, 1) := by decide +kernel
theorem d6_7 : decode prog_1_method_5_code 7 = .ok (.iconst 0, 1) := by decide +kernel
theorem d6_8 : decode prog_1_method_5_code 8 = .ok (.aload_n 0, 1) := by decide +kernel
theorem d6_9 : decode prog_1_method_5_code 9 = .ok (.getfield 7, 3) := by decide +kernel
theorem d6_12 : decode prog_1_method_5_code 12 = .ok (.aload_n 0, 1) := by decide +kernel
theorem d6_13 : decode prog_1_method_5_code 13 = .ok (.getfield 13, 3) := by decide +kernel
theorem d6_16 : decode prog_1_method_5_code 16 = .ok (.aload_n 1, 1) := by decide +kernel
theorem d6_17 : decode prog_1_method_5_code 17 = .ok (.arraylength, 1) := by decide +kernel
theorem d6_18 : decode prog_1_method_5_code 18 = .ok (.invokestatic 21, 3) := by decide +kernel
theorem d6_21 : decode prog_1_method_5_code 21 = .ok (.aload_n 0, 1) := by decide +kernel
theorem d6_22 : decode prog_1_method_5_code 22 = .ok (.dup, 1) := by decide +kernel
theorem d6_23 : decode prog_1_method_5_code 23 = .ok (.getfield 13, 3) := by decide +kernel
theorem d6_26 : decode prog_1_method_5_code 26 = .ok (.aload_n 1, 1) := by decide +kernel
theorem d6_27 : decode prog_1_method_5_code 27 = .ok (.arraylength, 1) := by decide +kernel
theorem d6_28 : decode prog_1_method_5_code 28 = .ok (.iadd, 1) := by decide +kernel
theorem d6_29 : decode prog_1_method_5_code 29 = .ok (.putfield 13, 3) := by decide +kernel
theorem d6_32 : decode prog_1_method_5_code 32 = .ok (.return_, 1) := by decide +kernel
theorem ef_rm_addBig (m : MethodId) (a1 : Addr) (a2 : Addr) : entryFrame m #[(.ref a1), (.ref a2)] 2 = mkF m 0 #[.val (.ref a1), .val (.ref a2)] [] := by first | (simp [entryFrame, mkF, argsToLocals, Value.category]; done) | rfl
def Q_rm_addBig (Z : State) (a1 : Addr) (a2 : Addr) (ln : Int32) (t : Addr) (cap : Nat) (LN : Nat) (h0 : Heap) (n0 : Nat) (v : Option Value) (h : Heap) (L : List Loc) : Prop := v = none ∧ Fr n0 L ∧ Keep h0 h [a1, t] ∧ Exa Z h a1 "com/example/travessia/travessia/core/Bytes" ∧ Fld Z h a1 "com/example/travessia/travessia/core/Bytes" "bytes" "[B" (.ref t) ∧ Fld Z h a1 "com/example/travessia/travessia/core/Bytes" "length" "I" (.int (ln + (16383 : Int32))) ∧ AN Z h t cap
set_option maxRecDepth 65536 in
set_option maxHeartbeats 40000000 in
theorem rm_addBig (l : Launch) (Z : State) (a0 : Array Value) (hw : ∀ d ∈ tables_1, d.before a0 Z = true) (ws : List Jvm.Cond) (a1 : Addr) (a2 : Addr) (ln : Int32) (t : Addr) (cap : Nat) (LN : Nat) (h0 : Heap) (n0 : Nat) (Z0 : n0 ≤ h0.size) (E1 : Exa Z h0 a1 "com/example/travessia/travessia/core/Bytes") (Fb : Fld Z h0 a1 "com/example/travessia/travessia/core/Bytes" "bytes" "[B" (.ref t)) (Fn : Fld Z h0 a1 "com/example/travessia/travessia/core/Bytes" "length" "I" (.int ln)) (VB : AN Z h0 t cap) (ga : n0 ≤ a1) (nt : a1 ≠ t) (gt : n0 ≤ t) (hl : ln.toInt = LN) (VM : AN Z h0 a2 16383) (nm : a2 ≠ t) (n12 : a2 ≠ a1) (hc : cap = 16384) (hN : LN + 16383 ≤ 16384) :
    MetFree l (⟨"com/example/travessia/travessia/core/Bytes", "add", "([B)V"⟩ : MethodName) (head1 (Jvm.Cond.code (⟨"com/example/travessia/travessia/core/Bytes", "add", "([B)V"⟩ : MethodName) prog_1_method_5_code 2 none :: ws) ({ frames := 1, cells := 0, slots := 0, locals := 40 } : Room)) (fun a U => a = #[(.ref a1), (.ref a2)] ∧ Z.Warmed39 U.vm ∧ U.heap = h0) (fun _ _ _ _ _ => True) (fun _ U oC U' => ∃ v L, oC = .returned v ∧ Q_rm_addBig Z a1 a2 ln t cap LN h0 n0 v U'.heap L ∧ FrameEnd U oC U' L ({ frames := 1, cells := 0, slots := 0, locals := 40 } : Room).cells ({ frames := 1, cells := 0, slots := 0, locals := 40 } : Room).slots) := by
  refine MetFree.of_bodySF (plainFor_of_name pn_0) hisR ?_
  intro p e s m args below meth c s₁ Bd hml0 hP hK
  obtain ⟨rfl, hZ, hh⟩ := hP
  have hx := Bd.exec
  have hby := Bd.bytes
  have hml : c.maxLocals = 2 := hml0
  have hown : s.vm.findClass "com/example/travessia/travessia/core/Bytes" = some m.cls := findClass_of_methodNamed Bd.named
  have hnm := (name_of_methodNamed Bd.named Bd.method).1
  have X0 : Stand p l e ({ frames := 1, cells := 0, slots := 0, locals := 40 } : Room) s m #[(.ref a1), (.ref a2)] below meth c s₁ [] 0 0 := Stand.of_body Bd
  have e0 : s₁.heap = h0 := by rw [← hh, Bd.state]; rfl
  have N0 := Fr.nil n0
  have pre0 : ∀ tg, Steps p.tables e below (s₁.setTop (mkF m 0 #[.val (.ref a1), .val (.ref a2)] [])) tg → Steps p.tables e below (s₁.setTop (entryFrame m #[(.ref a1), (.ref a2)] 2)) tg := fun t k => castTop (ef_rm_addBig m a1 a2) k
  have pre00 : ∀ tg, Steps p.tables e below (s₁.setTop (mkF m 0 #[.val (.ref a1), .val (.ref a2)] [])) tg → Steps p.tables e below (s₁.setTop (mkF m 0 #[.val (.ref a1), .val (.ref a2)] [])) tg := fun _ k => k
  have R85 : ∀ tg, Steps p.tables e below (s₁.setTop (mkF m 2 #[.val (.ref a1), .val (.ref a2)] [(.ref a2), (.ref a1)])) tg → Steps p.tables e below (s₁.setTop (mkF m 0 #[.val (.ref a1), .val (.ref a2)] [])) tg := by
    intro tg kt
    refine pre00 _ ?_
    show Steps p.tables e below (s₁.setTop (mkF m 0 #[.val (.ref a1), .val (.ref a2)] [])) _
    refine XS.aloadN X0.here hx rfl (hb hby d6_0) rfl rfl ?_
    show Steps p.tables e below (s₁.setTop (mkF m 1 #[.val (.ref a1), .val (.ref a2)] [(.ref a1)])) _
    refine XS.aloadN X0.here hx rfl (hb hby d6_1) rfl rfl ?_
    exact kt
  obtain ⟨cl86, Ar86, ln86⟩ := VM.len
  have R87 : ∀ tg, Steps p.tables e below (s₁.setTop (mkF m 3 #[.val (.ref a1), .val (.ref a2)] [(.int (16383 : Int32)), (.ref a1)])) tg → Steps p.tables e below (s₁.setTop (mkF m 0 #[.val (.ref a1), .val (.ref a2)] [])) tg := by
    intro tg kt
    refine R85 _ ?_
    show Steps p.tables e below (s₁.setTop (mkF m 2 #[.val (.ref a1), .val (.ref a2)] [(.ref a2), (.ref a1)])) _
    refine X0.arraylength hx (by rw [e0]; exact Ar86.1) (State.isArrayOf_alike hZ.alike Ar86.2.1) (g := (mkF m 2 #[.val (.ref a1), .val (.ref a2)] [(.ref a2), (.ref a1)])) rfl rfl (hb hby d6_2) _ ?_
    rw [ln86]
    exact kt
  clear R85
  obtain ⟨cq88, q88, q88'⟩ := E1.cell
  obtain ⟨_, _, ⟨T88, L88, k88, n88⟩, -, X88, ⟨Lc88, hQ88, l88, y88, z88⟩, st88⟩ := X0.privateBack hx (y := (⟨"com/example/travessia/travessia/core/Bytes", "room", "(I)V"⟩ : MethodName)) hown (mvT hZ (hw _ (List.mem_of_getElem? (i := 24) rfl))) (mvT hZ (hw _ (List.mem_of_getElem? (i := 25) rfl))) (own_selp (mvT hZ (hw _ (List.mem_of_getElem? (i := 1) rfl))) (mvP hZ (hw _ (List.mem_of_getElem? (i := 26) rfl))) (mvT hZ (hw _ (List.mem_of_getElem? (i := 25) rfl))) (by decide)) (Cond.privateMethod_at (mvP hZ (hw _ (List.mem_of_getElem? (i := 26) rfl)) (args := #[]))) (mvT hZ (hw _ (List.mem_of_getElem? (i := 27) rfl))) (by decide) (backOf (W := 0) (rm_roomN l Z a0 hw [] a1 (16383 : Int32) ln t cap LN 16383 h0 n0 Z0 E1 Fb Fn VB ga nt gt hl rfl hc hN) hZ (hw _ (List.mem_of_getElem? (i := 27) rfl)) (hw _ (List.mem_of_getElem? (i := 2) rfl)) (by decide) (by decide)) (g := (mkF m 3 #[.val (.ref a1), .val (.ref a2)] [(.int (16383 : Int32)), (.ref a1)])) rfl (by rw [hml]; rfl) (Steps.refl _) (a := a1) (by rw [e0]; exact q88) q88' (argsL := [(.int (16383 : Int32))]) (rest := []) (lenOf pd_2 rfl) rfl (by show 2 * 0 + _ ≤ _; exact Nat.le_of_eq rfl) (hb hby d6_3) (fun _ _ => ⟨rfl, e0, (by decide : 0 + 0 ≤ _), (by decide : 0 + 0 ≤ _)⟩)
  dsimp only [Pt.U, Pt.locs, Pt.cells, Pt.slots] at X88 l88 y88 z88 st88 hQ88
  rw [l88, y88, z88] at X88
  obtain ⟨rfl, N88q, hh88⟩ := hQ88
  have N88 := Fr.app N0 N88q
  have R89 : ∀ tg, Steps p.tables e below (T88.setTop (mkF m 6 #[.val (.ref a1), .val (.ref a2)] [])) tg → Steps p.tables e below (s₁.setTop (mkF m 0 #[.val (.ref a1), .val (.ref a2)] [])) tg := by
    intro tg kt
    refine R87 _ ?_
    refine st88.trans ?_
    exact kt
  clear R87 st88
  have hc2 : cap = 16384 ∨ cap = 32768 := Or.inl hc
  have hle : LN + 16383 ≤ cap := by rw [hc]; exact hN
  have R90 : ∀ tg, Steps p.tables e below (T88.setTop (mkF m 9 #[.val (.ref a1), .val (.ref a2)] [(.ref a1), (.int (0 : Int32)), (.ref a2)])) tg → Steps p.tables e below (s₁.setTop (mkF m 0 #[.val (.ref a1), .val (.ref a2)] [])) tg := by
    intro tg kt
    refine R89 _ ?_
    show Steps p.tables e below (T88.setTop (mkF m 6 #[.val (.ref a1), .val (.ref a2)] [])) _
    refine XS.aloadN X88.here hx rfl (hb hby d6_6) rfl rfl ?_
    show Steps p.tables e below (T88.setTop (mkF m 7 #[.val (.ref a1), .val (.ref a2)] [(.ref a2)])) _
    refine XS.iconst X88.here hx rfl (hb hby d6_7) ?_
    show Steps p.tables e below (T88.setTop (mkF m 8 #[.val (.ref a1), .val (.ref a2)] [(.int (0 : Int32)), (.ref a2)])) _
    refine XS.aloadN X88.here hx rfl (hb hby d6_8) rfl rfl ?_
    exact kt
  clear R89
  obtain ⟨T91, X91, e91, st91⟩ := getF X88 hx hZ hown (host := "") (Or.inl (hw _ (List.mem_of_getElem? (i := 10) rfl))) Via.refl hh88 Fb (g := (mkF m 9 #[.val (.ref a1), .val (.ref a2)] [(.ref a1), (.int (0 : Int32)), (.ref a2)])) rfl rfl (hb hby d6_9)
  have R92 : ∀ tg, Steps p.tables e below (T91.setTop (mkF m 13 #[.val (.ref a1), .val (.ref a2)] [(.ref a1), (.ref t), (.int (0 : Int32)), (.ref a2)])) tg → Steps p.tables e below (s₁.setTop (mkF m 0 #[.val (.ref a1), .val (.ref a2)] [])) tg := by
    intro tg kt
    refine R90 _ ?_
    refine st91 _ ?_
    show Steps p.tables e below (T91.setTop (mkF m 12 #[.val (.ref a1), .val (.ref a2)] [(.ref t), (.int (0 : Int32)), (.ref a2)])) _
    refine XS.aloadN X91.here hx rfl (hb hby d6_12) rfl rfl ?_
    exact kt
  clear R90 st91
  obtain ⟨T93, X93, e93, st93⟩ := getF X91 hx hZ hown (host := "") (Or.inl (hw _ (List.mem_of_getElem? (i := 17) rfl))) Via.refl e91 Fn (g := (mkF m 13 #[.val (.ref a1), .val (.ref a2)] [(.ref a1), (.ref t), (.int (0 : Int32)), (.ref a2)])) rfl rfl (hb hby d6_13)
  have R94 : ∀ tg, Steps p.tables e below (T93.setTop (mkF m 17 #[.val (.ref a1), .val (.ref a2)] [(.ref a2), (.int ln), (.ref t), (.int (0 : Int32)), (.ref a2)])) tg → Steps p.tables e below (s₁.setTop (mkF m 0 #[.val (.ref a1), .val (.ref a2)] [])) tg := by
    intro tg kt
    refine R92 _ ?_
    refine st93 _ ?_
    show Steps p.tables e below (T93.setTop (mkF m 16 #[.val (.ref a1), .val (.ref a2)] [(.int ln), (.ref t), (.int (0 : Int32)), (.ref a2)])) _
    refine XS.aloadN X93.here hx rfl (hb hby d6_16) rfl rfl ?_
    exact kt
  clear R92 st93
  obtain ⟨cl95, Ar95, ln95⟩ := VM.len
  obtain ⟨l0, lnn⟩ := own_nat0 ln LN hl
  obtain ⟨cz, cz0⟩ := own_cz hc2
  have R96 : ∀ tg, Steps p.tables e below (T93.setTop (mkF m 18 #[.val (.ref a1), .val (.ref a2)] [(.int (16383 : Int32)), (.int ln), (.ref t), (.int (0 : Int32)), (.ref a2)])) tg → Steps p.tables e below (s₁.setTop (mkF m 0 #[.val (.ref a1), .val (.ref a2)] [])) tg := by
    intro tg kt
    refine R94 _ ?_
    show Steps p.tables e below (T93.setTop (mkF m 17 #[.val (.ref a1), .val (.ref a2)] [(.ref a2), (.int ln), (.ref t), (.int (0 : Int32)), (.ref a2)])) _
    refine X93.arraylength hx (by rw [e93]; exact Ar95.1) (State.isArrayOf_alike hZ.alike Ar95.2.1) (g := (mkF m 17 #[.val (.ref a1), .val (.ref a2)] [(.ref a2), (.int ln), (.ref t), (.int (0 : Int32)), (.ref a2)])) rfl rfl (hb hby d6_17) _ ?_
    rw [ln95]
    exact kt
  clear R94
  obtain ⟨ks97, us97, As97, ls97⟩ := VM.arv (z := (16383 : Int32)) rfl (by decide)
  obtain ⟨kd97, ud97, Ad97, ld97⟩ := VB.arv (z := (Int32.ofNat cap)) cz cz0
  obtain ⟨T97, h97, L97, X97, e97, N97, K97, B97, st97⟩ := cpA X93 hx hZ hown (hw _ (List.mem_of_getElem? (i := 33) rfl)) (hw _ (List.mem_of_getElem? (i := 36) rfl)) (hw _ (List.mem_of_getElem? (i := 34) rfl)) (hw _ (List.mem_of_getElem? (i := 35) rfl)) e93 As97 Ad97 (Or.inl ⟨rfl, rfl⟩) (sp := (0 : Int32)) (dp := ln) (nn := (16383 : Int32)) (by decide) l0 (by decide) (by decide) (by rw [lnn, cz]; exact hle) rfl (by rw [lnn, ld97]; exact hle) N88 gt (g := (mkF m 18 #[.val (.ref a1), .val (.ref a2)] [(.int (16383 : Int32)), (.int ln), (.ref t), (.int (0 : Int32)), (.ref a2)])) rfl (by rw [hml]; rfl) (rest := []) rfl (hb hby d6_18) (by decide) (W := 0) (by show 2 * 0 + _ ≤ _; exact Nat.le_of_eq rfl) (by decide)
  have E_a1_98 := E1.keep K97
  have Fb_98 := Fb.keep K97 (own_notin1 nt)
  have Fn_98 := Fn.keep K97 (own_notin1 nt)
  have VM_98 := VM.keep K97 (own_notin1 nm)
  have Zs98 : n0 ≤ h97.size := Nat.le_trans Z0 K97.1
  have Kk98 : Keep h0 h97 [a1, t] := Keep.trans (Keep.refl h0 [a1, t]) K97 (own_trans1 (Or.inl (List.mem_of_getElem? (i := 1) rfl)))
  have VB_97 : AN Z h97 t cap := AN.of B97 cz
  have R99 : ∀ tg, Steps p.tables e below (T97.setTop (mkF m 23 #[.val (.ref a1), .val (.ref a2)] [(.ref a1), (.ref a1)])) tg → Steps p.tables e below (s₁.setTop (mkF m 0 #[.val (.ref a1), .val (.ref a2)] [])) tg := by
    intro tg kt
    refine R96 _ ?_
    refine st97 _ ?_
    show Steps p.tables e below (T97.setTop (mkF m 21 #[.val (.ref a1), .val (.ref a2)] [])) _
    refine XS.aloadN X97.here hx rfl (hb hby d6_21) rfl rfl ?_
    show Steps p.tables e below (T97.setTop (mkF m 22 #[.val (.ref a1), .val (.ref a2)] [(.ref a1)])) _
    refine XS.dup X97.here hx rfl (hb hby d6_22) rfl rfl ?_
    exact kt
  clear R96 st97
  obtain ⟨T100, X100, e100, st100⟩ := getF X97 hx hZ hown (host := "") (Or.inl (hw _ (List.mem_of_getElem? (i := 17) rfl))) Via.refl e97 Fn_98 (g := (mkF m 23 #[.val (.ref a1), .val (.ref a2)] [(.ref a1), (.ref a1)])) rfl rfl (hb hby d6_23)
  have R101 : ∀ tg, Steps p.tables e below (T100.setTop (mkF m 27 #[.val (.ref a1), .val (.ref a2)] [(.ref a2), (.int ln), (.ref a1)])) tg → Steps p.tables e below (s₁.setTop (mkF m 0 #[.val (.ref a1), .val (.ref a2)] [])) tg := by
    intro tg kt
    refine R99 _ ?_
    refine st100 _ ?_
    show Steps p.tables e below (T100.setTop (mkF m 26 #[.val (.ref a1), .val (.ref a2)] [(.int ln), (.ref a1)])) _
    refine XS.aloadN X100.here hx rfl (hb hby d6_26) rfl rfl ?_
    exact kt
  clear R99 st100
  obtain ⟨cl102, Ar102, ln102⟩ := VM_98.len
  have R103 : ∀ tg, Steps p.tables e below (T100.setTop (mkF m 29 #[.val (.ref a1), .val (.ref a2)] [(.int (ln + (16383 : Int32))), (.ref a1)])) tg → Steps p.tables e below (s₁.setTop (mkF m 0 #[.val (.ref a1), .val (.ref a2)] [])) tg := by
    intro tg kt
    refine R101 _ ?_
    show Steps p.tables e below (T100.setTop (mkF m 27 #[.val (.ref a1), .val (.ref a2)] [(.ref a2), (.int ln), (.ref a1)])) _
    refine X100.arraylength hx (by rw [e100]; exact Ar102.1) (State.isArrayOf_alike hZ.alike Ar102.2.1) (g := (mkF m 27 #[.val (.ref a1), .val (.ref a2)] [(.ref a2), (.int ln), (.ref a1)])) rfl rfl (hb hby d6_27) _ ?_
    rw [ln102]
    show Steps p.tables e below (T100.setTop (mkF m 28 #[.val (.ref a1), .val (.ref a2)] [(.int (16383 : Int32)), (.int ln), (.ref a1)])) _
    refine XS.iadd X100.here hx rfl (hb hby d6_28) rfl ?_
    exact kt
  clear R101
  obtain ⟨T104, h104, X104, e104, W104, st104⟩ := putF X100 hx hZ hown (host := "") (Or.inl (hw _ (List.mem_of_getElem? (i := 17) rfl))) Via.refl e100 Fn_98 E_a1_98 (Or.inl (hw _ (List.mem_of_getElem? (i := 18) rfl))) (hw _ (List.mem_of_getElem? (i := 1) rfl)) (ty := .int) (by decide) rfl rfl (g := (mkF m 29 #[.val (.ref a1), .val (.ref a2)] [(.int (ln + (16383 : Int32))), (.ref a1)])) rfl rfl (hb hby d6_29)
  have N104 := Fr.snoc X104 N97 ga
  have Fn_104 := Fn_98.same W104
  have E_a1_104 := E_a1_98.wr W104
  have Fb_104 := Fb_98.other W104 (Or.inr (slot_ne (Or.inl (hw _ (List.mem_of_getElem? (i := 11) rfl))) (Or.inl (hw _ (List.mem_of_getElem? (i := 18) rfl))) (by decide) (t := (.array .byte)) (t' := .int) (by decide) (by decide)))
  have VM_104 := VM_98.other W104 n12
  have VB_104 := VB_97.other W104 (Ne.symm nt)
  clear E_a1_98 Fb_98 VM_98 VB_97
  have Zs104 : n0 ≤ h104.size := Nat.le_trans Zs98 (Keep.of_wr W104).1
  have Kw104 : Keep h0 h104 [a1, t] := Keep.wr Kk98 W104 (Or.inl (List.mem_of_getElem? (i := 0) rfl))
  have R105 : ∀ tg, Steps p.tables e below (T104.setTop (mkF m 32 #[.val (.ref a1), .val (.ref a2)] [])) tg → Steps p.tables e below (s₁.setTop (mkF m 0 #[.val (.ref a1), .val (.ref a2)] [])) tg := by
    intro tg kt
    refine R103 _ ?_
    refine st104 _ ?_
    exact kt
  clear R103 st104
  obtain ⟨fs, hr, hrun, hended, hW, hsame⟩ := X104.leave (v := none) (fun _ => rfl)
  refine ⟨_, _, pre0 _ (R105 _ ?_), hrun, hended, _, _, rfl, ?_, ⟨_, rfl⟩, hW, hsame.mono (by decide) (by decide)⟩
  · exact X104.returnOut hx Bd.returns (hb hby d6_32) hr
  · show Q_rm_addBig Z a1 a2 ln t cap LN h0 n0 _ T104.heap _
    rw [e104]
    exact ⟨rfl, N104, Kw104, E_a1_104, Fb_104, Fn_104, VB_104⟩
theorem ef_rm_addOne (m : MethodId) (a1 : Addr) (a2 : Addr) : entryFrame m #[(.ref a1), (.ref a2)] 2 = mkF m 0 #[.val (.ref a1), .val (.ref a2)] [] := by first | (simp [entryFrame, mkF, argsToLocals, Value.category]; done) | rfl
def Q_rm_addOne (Z : State) (a1 : Addr) (a2 : Addr) (ln : Int32) (t : Addr) (cap : Nat) (LN : Nat) (h0 : Heap) (n0 : Nat) (v : Option Value) (h : Heap) (L : List Loc) : Prop := v = none ∧ Fr n0 L ∧ Keep h0 h [a1, t] ∧ Exa Z h a1 "com/example/travessia/travessia/core/Bytes" ∧ Fld Z h a1 "com/example/travessia/travessia/core/Bytes" "bytes" "[B" (.ref t) ∧ Fld Z h a1 "com/example/travessia/travessia/core/Bytes" "length" "I" (.int (ln + (1 : Int32))) ∧ AN Z h t cap
set_option maxRecDepth 65536 in
set_option maxHeartbeats 40000000 in
theorem rm_addOne (l : Launch) (Z : State) (a0 : Array Value) (hw : ∀ d ∈ tables_1, d.before a0 Z = true) (ws : List Jvm.Cond) (a1 : Addr) (a2 : Addr) (ln : Int32) (t : Addr) (cap : Nat) (LN : Nat) (h0 : Heap) (n0 : Nat) (Z0 : n0 ≤ h0.size) (E1 : Exa Z h0 a1 "com/example/travessia/travessia/core/Bytes") (Fb : Fld Z h0 a1 "com/example/travessia/travessia/core/Bytes" "bytes" "[B" (.ref t)) (Fn : Fld Z h0 a1 "com/example/travessia/travessia/core/Bytes" "length" "I" (.int ln)) (VB : AN Z h0 t cap) (ga : n0 ≤ a1) (nt : a1 ≠ t) (gt : n0 ≤ t) (hl : ln.toInt = LN) (VM : AN Z h0 a2 1) (nm : a2 ≠ t) (n12 : a2 ≠ a1) (hc : cap = 16384) (hN : LN + 1 ≤ 16384) :
    MetFree l (⟨"com/example/travessia/travessia/core/Bytes", "add", "([B)V"⟩ : MethodName) (head1 (Jvm.Cond.code (⟨"com/example/travessia/travessia/core/Bytes", "add", "([B)V"⟩ : MethodName) prog_1_method_5_code 2 none :: ws) ({ frames := 1, cells := 0, slots := 0, locals := 40 } : Room)) (fun a U => a = #[(.ref a1), (.ref a2)] ∧ Z.Warmed39 U.vm ∧ U.heap = h0) (fun _ _ _ _ _ => True) (fun _ U oC U' => ∃ v L, oC = .returned v ∧ Q_rm_addOne Z a1 a2 ln t cap LN h0 n0 v U'.heap L ∧ FrameEnd U oC U' L ({ frames := 1, cells := 0, slots := 0, locals := 40 } : Room).cells ({ frames := 1, cells := 0, slots := 0, locals := 40 } : Room).slots) := by
  refine MetFree.of_bodySF (plainFor_of_name pn_0) hisR ?_
  intro p e s m args below meth c s₁ Bd hml0 hP hK
  obtain ⟨rfl, hZ, hh⟩ := hP
  have hx := Bd.exec
  have hby := Bd.bytes
  have hml : c.maxLocals = 2 := hml0
  have hown : s.vm.findClass "com/example/travessia/travessia/core/Bytes" = some m.cls := findClass_of_methodNamed Bd.named
  have hnm := (name_of_methodNamed Bd.named Bd.method).1
  have X0 : Stand p l e ({ frames := 1, cells := 0, slots := 0, locals := 40 } : Room) s m #[(.ref a1), (.ref a2)] below meth c s₁ [] 0 0 := Stand.of_body Bd
  have e0 : s₁.heap = h0 := by rw [← hh, Bd.state]; rfl
  have N0 := Fr.nil n0
  have pre0 : ∀ tg, Steps p.tables e below (s₁.setTop (mkF m 0 #[.val (.ref a1), .val (.ref a2)] [])) tg → Steps p.tables e below (s₁.setTop (entryFrame m #[(.ref a1), (.ref a2)] 2)) tg := fun t k => castTop (ef_rm_addOne m a1 a2) k
  have pre00 : ∀ tg, Steps p.tables e below (s₁.setTop (mkF m 0 #[.val (.ref a1), .val (.ref a2)] [])) tg → Steps p.tables e below (s₁.setTop (mkF m 0 #[.val (.ref a1), .val (.ref a2)] [])) tg := fun _ k => k
  have R106 : ∀ tg, Steps p.tables e below (s₁.setTop (mkF m 2 #[.val (.ref a1), .val (.ref a2)] [(.ref a2), (.ref a1)])) tg → Steps p.tables e below (s₁.setTop (mkF m 0 #[.val (.ref a1), .val (.ref a2)] [])) tg := by
    intro tg kt
    refine pre00 _ ?_
    show Steps p.tables e below (s₁.setTop (mkF m 0 #[.val (.ref a1), .val (.ref a2)] [])) _
    refine XS.aloadN X0.here hx rfl (hb hby d6_0) rfl rfl ?_
    show Steps p.tables e below (s₁.setTop (mkF m 1 #[.val (.ref a1), .val (.ref a2)] [(.ref a1)])) _
    refine XS.aloadN X0.here hx rfl (hb hby d6_1) rfl rfl ?_
    exact kt
  obtain ⟨cl107, Ar107, ln107⟩ := VM.len
  have R108 : ∀ tg, Steps p.tables e below (s₁.setTop (mkF m 3 #[.val (.ref a1), .val (.ref a2)] [(.int (1 : Int32)), (.ref a1)])) tg → Steps p.tables e below (s₁.setTop (mkF m 0 #[.val (.ref a1), .val (.ref a2)] [])) tg := by
    intro tg kt
    refine R106 _ ?_
    show Steps p.tables e below (s₁.setTop (mkF m 2 #[.val (.ref a1), .val (.ref a2)] [(.ref a2), (.ref a1)])) _
    refine X0.arraylength hx (by rw [e0]; exact Ar107.1) (State.isArrayOf_alike hZ.alike Ar107.2.1) (g := (mkF m 2 #[.val (.ref a1), .val (.ref a2)] [(.ref a2), (.ref a1)])) rfl rfl (hb hby d6_2) _ ?_
    rw [ln107]
    exact kt
  clear R106
  obtain ⟨cq109, q109, q109'⟩ := E1.cell
  obtain ⟨_, _, ⟨T109, L109, k109, n109⟩, -, X109, ⟨Lc109, hQ109, l109, y109, z109⟩, st109⟩ := X0.privateBack hx (y := (⟨"com/example/travessia/travessia/core/Bytes", "room", "(I)V"⟩ : MethodName)) hown (mvT hZ (hw _ (List.mem_of_getElem? (i := 24) rfl))) (mvT hZ (hw _ (List.mem_of_getElem? (i := 25) rfl))) (own_selp (mvT hZ (hw _ (List.mem_of_getElem? (i := 1) rfl))) (mvP hZ (hw _ (List.mem_of_getElem? (i := 26) rfl))) (mvT hZ (hw _ (List.mem_of_getElem? (i := 25) rfl))) (by decide)) (Cond.privateMethod_at (mvP hZ (hw _ (List.mem_of_getElem? (i := 26) rfl)) (args := #[]))) (mvT hZ (hw _ (List.mem_of_getElem? (i := 27) rfl))) (by decide) (backOf (W := 0) (rm_roomN l Z a0 hw [] a1 (1 : Int32) ln t cap LN 1 h0 n0 Z0 E1 Fb Fn VB ga nt gt hl rfl hc hN) hZ (hw _ (List.mem_of_getElem? (i := 27) rfl)) (hw _ (List.mem_of_getElem? (i := 2) rfl)) (by decide) (by decide)) (g := (mkF m 3 #[.val (.ref a1), .val (.ref a2)] [(.int (1 : Int32)), (.ref a1)])) rfl (by rw [hml]; rfl) (Steps.refl _) (a := a1) (by rw [e0]; exact q109) q109' (argsL := [(.int (1 : Int32))]) (rest := []) (lenOf pd_2 rfl) rfl (by show 2 * 0 + _ ≤ _; exact Nat.le_of_eq rfl) (hb hby d6_3) (fun _ _ => ⟨rfl, e0, (by decide : 0 + 0 ≤ _), (by decide : 0 + 0 ≤ _)⟩)
  dsimp only [Pt.U, Pt.locs, Pt.cells, Pt.slots] at X109 l109 y109 z109 st109 hQ109
  rw [l109, y109, z109] at X109
  obtain ⟨rfl, N109q, hh109⟩ := hQ109
  have N109 := Fr.app N0 N109q
  have R110 : ∀ tg, Steps p.tables e below (T109.setTop (mkF m 6 #[.val (.ref a1), .val (.ref a2)] [])) tg → Steps p.tables e below (s₁.setTop (mkF m 0 #[.val (.ref a1), .val (.ref a2)] [])) tg := by
    intro tg kt
    refine R108 _ ?_
    refine st109.trans ?_
    exact kt
  clear R108 st109
  have hc2 : cap = 16384 ∨ cap = 32768 := Or.inl hc
  have hle : LN + 1 ≤ cap := by rw [hc]; exact hN
  have R111 : ∀ tg, Steps p.tables e below (T109.setTop (mkF m 9 #[.val (.ref a1), .val (.ref a2)] [(.ref a1), (.int (0 : Int32)), (.ref a2)])) tg → Steps p.tables e below (s₁.setTop (mkF m 0 #[.val (.ref a1), .val (.ref a2)] [])) tg := by
    intro tg kt
    refine R110 _ ?_
    show Steps p.tables e below (T109.setTop (mkF m 6 #[.val (.ref a1), .val (.ref a2)] [])) _
    refine XS.aloadN X109.here hx rfl (hb hby d6_6) rfl rfl ?_
    show Steps p.tables e below (T109.setTop (mkF m 7 #[.val (.ref a1), .val (.ref a2)] [(.ref a2)])) _
    refine XS.iconst X109.here hx rfl (hb hby d6_7) ?_
    show Steps p.tables e below (T109.setTop (mkF m 8 #[.val (.ref a1), .val (.ref a2)] [(.int (0 : Int32)), (.ref a2)])) _
    refine XS.aloadN X109.here hx rfl (hb hby d6_8) rfl rfl ?_
    exact kt
  clear R110
  obtain ⟨T112, X112, e112, st112⟩ := getF X109 hx hZ hown (host := "") (Or.inl (hw _ (List.mem_of_getElem? (i := 10) rfl))) Via.refl hh109 Fb (g := (mkF m 9 #[.val (.ref a1), .val (.ref a2)] [(.ref a1), (.int (0 : Int32)), (.ref a2)])) rfl rfl (hb hby d6_9)
  have R113 : ∀ tg, Steps p.tables e below (T112.setTop (mkF m 13 #[.val (.ref a1), .val (.ref a2)] [(.ref a1), (.ref t), (.int (0 : Int32)), (.ref a2)])) tg → Steps p.tables e below (s₁.setTop (mkF m 0 #[.val (.ref a1), .val (.ref a2)] [])) tg := by
    intro tg kt
    refine R111 _ ?_
    refine st112 _ ?_
    show Steps p.tables e below (T112.setTop (mkF m 12 #[.val (.ref a1), .val (.ref a2)] [(.ref t), (.int (0 : Int32)), (.ref a2)])) _
    refine XS.aloadN X112.here hx rfl (hb hby d6_12) rfl rfl ?_
    exact kt
  clear R111 st112
  obtain ⟨T114, X114, e114, st114⟩ := getF X112 hx hZ hown (host := "") (Or.inl (hw _ (List.mem_of_getElem? (i := 17) rfl))) Via.refl e112 Fn (g := (mkF m 13 #[.val (.ref a1), .val (.ref a2)] [(.ref a1), (.ref t), (.int (0 : Int32)), (.ref a2)])) rfl rfl (hb hby d6_13)
  have R115 : ∀ tg, Steps p.tables e below (T114.setTop (mkF m 17 #[.val (.ref a1), .val (.ref a2)] [(.ref a2), (.int ln), (.ref t), (.int (0 : Int32)), (.ref a2)])) tg → Steps p.tables e below (s₁.setTop (mkF m 0 #[.val (.ref a1), .val (.ref a2)] [])) tg := by
    intro tg kt
    refine R113 _ ?_
    refine st114 _ ?_
    show Steps p.tables e below (T114.setTop (mkF m 16 #[.val (.ref a1), .val (.ref a2)] [(.int ln), (.ref t), (.int (0 : Int32)), (.ref a2)])) _
    refine XS.aloadN X114.here hx rfl (hb hby d6_16) rfl rfl ?_
    exact kt
  clear R113 st114
  obtain ⟨cl116, Ar116, ln116⟩ := VM.len
  obtain ⟨l0, lnn⟩ := own_nat0 ln LN hl
  obtain ⟨cz, cz0⟩ := own_cz hc2
  have R117 : ∀ tg, Steps p.tables e below (T114.setTop (mkF m 18 #[.val (.ref a1), .val (.ref a2)] [(.int (1 : Int32)), (.int ln), (.ref t), (.int (0 : Int32)), (.ref a2)])) tg → Steps p.tables e below (s₁.setTop (mkF m 0 #[.val (.ref a1), .val (.ref a2)] [])) tg := by
    intro tg kt
    refine R115 _ ?_
    show Steps p.tables e below (T114.setTop (mkF m 17 #[.val (.ref a1), .val (.ref a2)] [(.ref a2), (.int ln), (.ref t), (.int (0 : Int32)), (.ref a2)])) _
    refine X114.arraylength hx (by rw [e114]; exact Ar116.1) (State.isArrayOf_alike hZ.alike Ar116.2.1) (g := (mkF m 17 #[.val (.ref a1), .val (.ref a2)] [(.ref a2), (.int ln), (.ref t), (.int (0 : Int32)), (.ref a2)])) rfl rfl (hb hby d6_17) _ ?_
    rw [ln116]
    exact kt
  clear R115
  obtain ⟨ks118, us118, As118, ls118⟩ := VM.arv (z := (1 : Int32)) rfl (by decide)
  obtain ⟨kd118, ud118, Ad118, ld118⟩ := VB.arv (z := (Int32.ofNat cap)) cz cz0
  obtain ⟨T118, h118, L118, X118, e118, N118, K118, B118, st118⟩ := cpA X114 hx hZ hown (hw _ (List.mem_of_getElem? (i := 33) rfl)) (hw _ (List.mem_of_getElem? (i := 36) rfl)) (hw _ (List.mem_of_getElem? (i := 34) rfl)) (hw _ (List.mem_of_getElem? (i := 35) rfl)) e114 As118 Ad118 (Or.inl ⟨rfl, rfl⟩) (sp := (0 : Int32)) (dp := ln) (nn := (1 : Int32)) (by decide) l0 (by decide) (by decide) (by rw [lnn, cz]; exact hle) rfl (by rw [lnn, ld118]; exact hle) N109 gt (g := (mkF m 18 #[.val (.ref a1), .val (.ref a2)] [(.int (1 : Int32)), (.int ln), (.ref t), (.int (0 : Int32)), (.ref a2)])) rfl (by rw [hml]; rfl) (rest := []) rfl (hb hby d6_18) (by decide) (W := 0) (by show 2 * 0 + _ ≤ _; exact Nat.le_of_eq rfl) (by decide)
  have E_a1_119 := E1.keep K118
  have Fb_119 := Fb.keep K118 (own_notin1 nt)
  have Fn_119 := Fn.keep K118 (own_notin1 nt)
  have VM_119 := VM.keep K118 (own_notin1 nm)
  have Zs119 : n0 ≤ h118.size := Nat.le_trans Z0 K118.1
  have Kk119 : Keep h0 h118 [a1, t] := Keep.trans (Keep.refl h0 [a1, t]) K118 (own_trans1 (Or.inl (List.mem_of_getElem? (i := 1) rfl)))
  have VB_118 : AN Z h118 t cap := AN.of B118 cz
  have R120 : ∀ tg, Steps p.tables e below (T118.setTop (mkF m 23 #[.val (.ref a1), .val (.ref a2)] [(.ref a1), (.ref a1)])) tg → Steps p.tables e below (s₁.setTop (mkF m 0 #[.val (.ref a1), .val (.ref a2)] [])) tg := by
    intro tg kt
    refine R117 _ ?_
    refine st118 _ ?_
    show Steps p.tables e below (T118.setTop (mkF m 21 #[.val (.ref a1), .val (.ref a2)] [])) _
    refine XS.aloadN X118.here hx rfl (hb hby d6_21) rfl rfl ?_
    show Steps p.tables e below (T118.setTop (mkF m 22 #[.val (.ref a1), .val (.ref a2)] [(.ref a1)])) _
    refine XS.dup X118.here hx rfl (hb hby d6_22) rfl rfl ?_
    exact kt
  clear R117 st118
  obtain ⟨T121, X121, e121, st121⟩ := getF X118 hx hZ hown (host := "") (Or.inl (hw _ (List.mem_of_getElem? (i := 17) rfl))) Via.refl e118 Fn_119 (g := (mkF m 23 #[.val (.ref a1), .val (.ref a2)] [(.ref a1), (.ref a1)])) rfl rfl (hb hby d6_23)
  have R122 : ∀ tg, Steps p.tables e below (T121.setTop (mkF m 27 #[.val (.ref a1), .val (.ref a2)] [(.ref a2), (.int ln), (.ref a1)])) tg → Steps p.tables e below (s₁.setTop (mkF m 0 #[.val (.ref a1), .val (.ref a2)] [])) tg := by
    intro tg kt
    refine R120 _ ?_
    refine st121 _ ?_
    show Steps p.tables e below (T121.setTop (mkF m 26 #[.val (.ref a1), .val (.ref a2)] [(.int ln), (.ref a1)])) _
    refine XS.aloadN X121.here hx rfl (hb hby d6_26) rfl rfl ?_
    exact kt
  clear R120 st121
  obtain ⟨cl123, Ar123, ln123⟩ := VM_119.len
  have R124 : ∀ tg, Steps p.tables e below (T121.setTop (mkF m 29 #[.val (.ref a1), .val (.ref a2)] [(.int (ln + (1 : Int32))), (.ref a1)])) tg → Steps p.tables e below (s₁.setTop (mkF m 0 #[.val (.ref a1), .val (.ref a2)] [])) tg := by
    intro tg kt
    refine R122 _ ?_
    show Steps p.tables e below (T121.setTop (mkF m 27 #[.val (.ref a1), .val (.ref a2)] [(.ref a2), (.int ln), (.ref a1)])) _
    refine X121.arraylength hx (by rw [e121]; exact Ar123.1) (State.isArrayOf_alike hZ.alike Ar123.2.1) (g := (mkF m 27 #[.val (.ref a1), .val (.ref a2)] [(.ref a2), (.int ln), (.ref a1)])) rfl rfl (hb hby d6_27) _ ?_
    rw [ln123]
    show Steps p.tables e below (T121.setTop (mkF m 28 #[.val (.ref a1), .val (.ref a2)] [(.int (1 : Int32)), (.int ln), (.ref a1)])) _
    refine XS.iadd X121.here hx rfl (hb hby d6_28) rfl ?_
    exact kt
  clear R122
  obtain ⟨T125, h125, X125, e125, W125, st125⟩ := putF X121 hx hZ hown (host := "") (Or.inl (hw _ (List.mem_of_getElem? (i := 17) rfl))) Via.refl e121 Fn_119 E_a1_119 (Or.inl (hw _ (List.mem_of_getElem? (i := 18) rfl))) (hw _ (List.mem_of_getElem? (i := 1) rfl)) (ty := .int) (by decide) rfl rfl (g := (mkF m 29 #[.val (.ref a1), .val (.ref a2)] [(.int (ln + (1 : Int32))), (.ref a1)])) rfl rfl (hb hby d6_29)
  have N125 := Fr.snoc X125 N118 ga
  have Fn_125 := Fn_119.same W125
  have E_a1_125 := E_a1_119.wr W125
  have Fb_125 := Fb_119.other W125 (Or.inr (slot_ne (Or.inl (hw _ (List.mem_of_getElem? (i := 11) rfl))) (Or.inl (hw _ (List.mem_of_getElem? (i := 18) rfl))) (by decide) (t := (.array .byte)) (t' := .int) (by decide) (by decide)))
  have VM_125 := VM_119.other W125 n12
  have VB_125 := VB_118.other W125 (Ne.symm nt)
  clear E_a1_119 Fb_119 VM_119 VB_118
  have Zs125 : n0 ≤ h125.size := Nat.le_trans Zs119 (Keep.of_wr W125).1
  have Kw125 : Keep h0 h125 [a1, t] := Keep.wr Kk119 W125 (Or.inl (List.mem_of_getElem? (i := 0) rfl))
  have R126 : ∀ tg, Steps p.tables e below (T125.setTop (mkF m 32 #[.val (.ref a1), .val (.ref a2)] [])) tg → Steps p.tables e below (s₁.setTop (mkF m 0 #[.val (.ref a1), .val (.ref a2)] [])) tg := by
    intro tg kt
    refine R124 _ ?_
    refine st125 _ ?_
    exact kt
  clear R124 st125
  obtain ⟨fs, hr, hrun, hended, hW, hsame⟩ := X125.leave (v := none) (fun _ => rfl)
  refine ⟨_, _, pre0 _ (R126 _ ?_), hrun, hended, _, _, rfl, ?_, ⟨_, rfl⟩, hW, hsame.mono (by decide) (by decide)⟩
  · exact X125.returnOut hx Bd.returns (hb hby d6_32) hr
  · show Q_rm_addOne Z a1 a2 ln t cap LN h0 n0 _ T125.heap _
    rw [e125]
    exact ⟨rfl, N125, Kw125, E_a1_125, Fb_125, Fn_125, VB_125⟩
theorem ef_rm_addOneU (m : MethodId) (a1 : Addr) (a2 : Addr) : entryFrame m #[(.ref a1), (.ref a2)] 2 = mkF m 0 #[.val (.ref a1), .val (.ref a2)] [] := by first | (simp [entryFrame, mkF, argsToLocals, Value.category]; done) | rfl
def Q_rm_addOneU (Z : State) (a1 : Addr) (a2 : Addr) (ln : Int32) (t : Addr) (cap : Nat) (LN : Nat) (h0 : Heap) (n0 : Nat) (v : Option Value) (h : Heap) (L : List Loc) : Prop := v = none ∧ Fr n0 L ∧ Keep h0 h [a1, t] ∧ ∃ (t2 : Addr) (cap2 : Nat), (t2 = t ∨ h0.size ≤ t2) ∧ (cap2 = 16384 ∨ cap2 = 32768) ∧ LN + 1 ≤ cap2 ∧ Exa Z h a1 "com/example/travessia/travessia/core/Bytes" ∧ Fld Z h a1 "com/example/travessia/travessia/core/Bytes" "bytes" "[B" (.ref t2) ∧ Fld Z h a1 "com/example/travessia/travessia/core/Bytes" "length" "I" (.int (ln + (1 : Int32))) ∧ AN Z h t2 cap2
set_option maxRecDepth 65536 in
set_option maxHeartbeats 40000000 in
theorem rm_addOneU (l : Launch) (Z : State) (a0 : Array Value) (hw : ∀ d ∈ tables_1, d.before a0 Z = true) (ws : List Jvm.Cond) (a1 : Addr) (a2 : Addr) (ln : Int32) (t : Addr) (cap : Nat) (LN : Nat) (h0 : Heap) (n0 : Nat) (Z0 : n0 ≤ h0.size) (E1 : Exa Z h0 a1 "com/example/travessia/travessia/core/Bytes") (Fb : Fld Z h0 a1 "com/example/travessia/travessia/core/Bytes" "bytes" "[B" (.ref t)) (Fn : Fld Z h0 a1 "com/example/travessia/travessia/core/Bytes" "length" "I" (.int ln)) (VB : AN Z h0 t cap) (ga : n0 ≤ a1) (nt : a1 ≠ t) (gt : n0 ≤ t) (hl : ln.toInt = LN) (VM : AN Z h0 a2 1) (nm : a2 ≠ t) (n12 : a2 ≠ a1) (hc : cap = 16384 ∨ cap = 32768) (hN : LN + 1 ≤ 20000) :
    MetFree l (⟨"com/example/travessia/travessia/core/Bytes", "add", "([B)V"⟩ : MethodName) (head1 (Jvm.Cond.code (⟨"com/example/travessia/travessia/core/Bytes", "add", "([B)V"⟩ : MethodName) prog_1_method_5_code 2 none :: ws) ({ frames := 3, cells := 1, slots := 32768, locals := 68 } : Room)) (fun a U => a = #[(.ref a1), (.ref a2)] ∧ Z.Warmed39 U.vm ∧ U.heap = h0) (fun _ _ _ _ _ => True) (fun _ U oC U' => ∃ v L, oC = .returned v ∧ Q_rm_addOneU Z a1 a2 ln t cap LN h0 n0 v U'.heap L ∧ FrameEnd U oC U' L ({ frames := 3, cells := 1, slots := 32768, locals := 68 } : Room).cells ({ frames := 3, cells := 1, slots := 32768, locals := 68 } : Room).slots) := by
  refine MetFree.of_bodySF (plainFor_of_name pn_0) hisR ?_
  intro p e s m args below meth c s₁ Bd hml0 hP hK
  obtain ⟨rfl, hZ, hh⟩ := hP
  have hx := Bd.exec
  have hby := Bd.bytes
  have hml : c.maxLocals = 2 := hml0
  have hown : s.vm.findClass "com/example/travessia/travessia/core/Bytes" = some m.cls := findClass_of_methodNamed Bd.named
  have hnm := (name_of_methodNamed Bd.named Bd.method).1
  have X0 : Stand p l e ({ frames := 3, cells := 1, slots := 32768, locals := 68 } : Room) s m #[(.ref a1), (.ref a2)] below meth c s₁ [] 0 0 := Stand.of_body Bd
  have e0 : s₁.heap = h0 := by rw [← hh, Bd.state]; rfl
  have N0 := Fr.nil n0
  have pre0 : ∀ tg, Steps p.tables e below (s₁.setTop (mkF m 0 #[.val (.ref a1), .val (.ref a2)] [])) tg → Steps p.tables e below (s₁.setTop (entryFrame m #[(.ref a1), (.ref a2)] 2)) tg := fun t k => castTop (ef_rm_addOneU m a1 a2) k
  have pre00 : ∀ tg, Steps p.tables e below (s₁.setTop (mkF m 0 #[.val (.ref a1), .val (.ref a2)] [])) tg → Steps p.tables e below (s₁.setTop (mkF m 0 #[.val (.ref a1), .val (.ref a2)] [])) tg := fun _ k => k
  have R127 : ∀ tg, Steps p.tables e below (s₁.setTop (mkF m 2 #[.val (.ref a1), .val (.ref a2)] [(.ref a2), (.ref a1)])) tg → Steps p.tables e below (s₁.setTop (mkF m 0 #[.val (.ref a1), .val (.ref a2)] [])) tg := by
    intro tg kt
    refine pre00 _ ?_
    show Steps p.tables e below (s₁.setTop (mkF m 0 #[.val (.ref a1), .val (.ref a2)] [])) _
    refine XS.aloadN X0.here hx rfl (hb hby d6_0) rfl rfl ?_
    show Steps p.tables e below (s₁.setTop (mkF m 1 #[.val (.ref a1), .val (.ref a2)] [(.ref a1)])) _
    refine XS.aloadN X0.here hx rfl (hb hby d6_1) rfl rfl ?_
    exact kt
  obtain ⟨cl128, Ar128, ln128⟩ := VM.len
  have R129 : ∀ tg, Steps p.tables e below (s₁.setTop (mkF m 3 #[.val (.ref a1), .val (.ref a2)] [(.int (1 : Int32)), (.ref a1)])) tg → Steps p.tables e below (s₁.setTop (mkF m 0 #[.val (.ref a1), .val (.ref a2)] [])) tg := by
    intro tg kt
    refine R127 _ ?_
    show Steps p.tables e below (s₁.setTop (mkF m 2 #[.val (.ref a1), .val (.ref a2)] [(.ref a2), (.ref a1)])) _
    refine X0.arraylength hx (by rw [e0]; exact Ar128.1) (State.isArrayOf_alike hZ.alike Ar128.2.1) (g := (mkF m 2 #[.val (.ref a1), .val (.ref a2)] [(.ref a2), (.ref a1)])) rfl rfl (hb hby d6_2) _ ?_
    rw [ln128]
    exact kt
  clear R127
  obtain ⟨cq130, q130, q130'⟩ := E1.cell
  obtain ⟨_, _, ⟨T130, L130, k130, n130⟩, -, X130, ⟨Lc130, hQ130, l130, y130, z130⟩, st130⟩ := X0.privateBack hx (y := (⟨"com/example/travessia/travessia/core/Bytes", "room", "(I)V"⟩ : MethodName)) hown (mvT hZ (hw _ (List.mem_of_getElem? (i := 24) rfl))) (mvT hZ (hw _ (List.mem_of_getElem? (i := 25) rfl))) (own_selp (mvT hZ (hw _ (List.mem_of_getElem? (i := 1) rfl))) (mvP hZ (hw _ (List.mem_of_getElem? (i := 26) rfl))) (mvT hZ (hw _ (List.mem_of_getElem? (i := 25) rfl))) (by decide)) (Cond.privateMethod_at (mvP hZ (hw _ (List.mem_of_getElem? (i := 26) rfl)) (args := #[]))) (mvT hZ (hw _ (List.mem_of_getElem? (i := 27) rfl))) (by decide) (backOf (W := 0) (rm_roomU l Z a0 hw [] a1 (1 : Int32) ln t cap LN 1 h0 n0 Z0 E1 Fb Fn VB ga nt gt hl rfl hc hN) hZ (hw _ (List.mem_of_getElem? (i := 27) rfl)) (hw _ (List.mem_of_getElem? (i := 2) rfl)) (by decide) (by decide)) (g := (mkF m 3 #[.val (.ref a1), .val (.ref a2)] [(.int (1 : Int32)), (.ref a1)])) rfl (by rw [hml]; rfl) (Steps.refl _) (a := a1) (by rw [e0]; exact q130) q130' (argsL := [(.int (1 : Int32))]) (rest := []) (lenOf pd_2 rfl) rfl (by show 2 * 0 + _ ≤ _; exact Nat.le_of_eq rfl) (hb hby d6_3) (fun _ _ => ⟨rfl, e0, (by decide : 0 + 1 ≤ _), (by decide : 0 + 32768 ≤ _)⟩)
  dsimp only [Pt.U, Pt.locs, Pt.cells, Pt.slots] at X130 l130 y130 z130 st130 hQ130
  rw [l130, y130, z130] at X130
  obtain ⟨rfl, N130q, K130, t2, cap2, ht2, hc2, hle, E2, Fb2, Fn2, VB2⟩ := hQ130
  have N130 := Fr.app N0 N130q
  have VM_131 := VM.keep K130 (own_notin1 n12)
  have Zs131 : n0 ≤ T130.heap.size := Nat.le_trans Z0 K130.1
  have Kk131 : Keep h0 T130.heap [a1, t] := Keep.trans (Keep.refl h0 [a1, t]) K130 (own_trans1 (Or.inl (List.mem_of_getElem? (i := 0) rfl)))
  have gt2 := own_g2 ht2 gt Z0
  have nt2 := own_n2 ht2 nt E1.lt
  have nm2 := own_n2 ht2 nm VM.lt
  have R132 : ∀ tg, Steps p.tables e below (T130.setTop (mkF m 9 #[.val (.ref a1), .val (.ref a2)] [(.ref a1), (.int (0 : Int32)), (.ref a2)])) tg → Steps p.tables e below (s₁.setTop (mkF m 0 #[.val (.ref a1), .val (.ref a2)] [])) tg := by
    intro tg kt
    refine R129 _ ?_
    refine st130.trans ?_
    show Steps p.tables e below (T130.setTop (mkF m 6 #[.val (.ref a1), .val (.ref a2)] [])) _
    refine XS.aloadN X130.here hx rfl (hb hby d6_6) rfl rfl ?_
    show Steps p.tables e below (T130.setTop (mkF m 7 #[.val (.ref a1), .val (.ref a2)] [(.ref a2)])) _
    refine XS.iconst X130.here hx rfl (hb hby d6_7) ?_
    show Steps p.tables e below (T130.setTop (mkF m 8 #[.val (.ref a1), .val (.ref a2)] [(.int (0 : Int32)), (.ref a2)])) _
    refine XS.aloadN X130.here hx rfl (hb hby d6_8) rfl rfl ?_
    exact kt
  clear R129 st130
  obtain ⟨T133, X133, e133, st133⟩ := getF X130 hx hZ hown (host := "") (Or.inl (hw _ (List.mem_of_getElem? (i := 10) rfl))) Via.refl rfl Fb2 (g := (mkF m 9 #[.val (.ref a1), .val (.ref a2)] [(.ref a1), (.int (0 : Int32)), (.ref a2)])) rfl rfl (hb hby d6_9)
  have R134 : ∀ tg, Steps p.tables e below (T133.setTop (mkF m 13 #[.val (.ref a1), .val (.ref a2)] [(.ref a1), (.ref t2), (.int (0 : Int32)), (.ref a2)])) tg → Steps p.tables e below (s₁.setTop (mkF m 0 #[.val (.ref a1), .val (.ref a2)] [])) tg := by
    intro tg kt
    refine R132 _ ?_
    refine st133 _ ?_
    show Steps p.tables e below (T133.setTop (mkF m 12 #[.val (.ref a1), .val (.ref a2)] [(.ref t2), (.int (0 : Int32)), (.ref a2)])) _
    refine XS.aloadN X133.here hx rfl (hb hby d6_12) rfl rfl ?_
    exact kt
  clear R132 st133
  obtain ⟨T135, X135, e135, st135⟩ := getF X133 hx hZ hown (host := "") (Or.inl (hw _ (List.mem_of_getElem? (i := 17) rfl))) Via.refl e133 Fn2 (g := (mkF m 13 #[.val (.ref a1), .val (.ref a2)] [(.ref a1), (.ref t2), (.int (0 : Int32)), (.ref a2)])) rfl rfl (hb hby d6_13)
  have R136 : ∀ tg, Steps p.tables e below (T135.setTop (mkF m 17 #[.val (.ref a1), .val (.ref a2)] [(.ref a2), (.int ln), (.ref t2), (.int (0 : Int32)), (.ref a2)])) tg → Steps p.tables e below (s₁.setTop (mkF m 0 #[.val (.ref a1), .val (.ref a2)] [])) tg := by
    intro tg kt
    refine R134 _ ?_
    refine st135 _ ?_
    show Steps p.tables e below (T135.setTop (mkF m 16 #[.val (.ref a1), .val (.ref a2)] [(.int ln), (.ref t2), (.int (0 : Int32)), (.ref a2)])) _
    refine XS.aloadN X135.here hx rfl (hb hby d6_16) rfl rfl ?_
    exact kt
  clear R134 st135
  obtain ⟨cl137, Ar137, ln137⟩ := VM_131.len
  obtain ⟨l0, lnn⟩ := own_nat0 ln LN hl
  obtain ⟨cz, cz0⟩ := own_cz hc2
  have R138 : ∀ tg, Steps p.tables e below (T135.setTop (mkF m 18 #[.val (.ref a1), .val (.ref a2)] [(.int (1 : Int32)), (.int ln), (.ref t2), (.int (0 : Int32)), (.ref a2)])) tg → Steps p.tables e below (s₁.setTop (mkF m 0 #[.val (.ref a1), .val (.ref a2)] [])) tg := by
    intro tg kt
    refine R136 _ ?_
    show Steps p.tables e below (T135.setTop (mkF m 17 #[.val (.ref a1), .val (.ref a2)] [(.ref a2), (.int ln), (.ref t2), (.int (0 : Int32)), (.ref a2)])) _
    refine X135.arraylength hx (by rw [e135]; exact Ar137.1) (State.isArrayOf_alike hZ.alike Ar137.2.1) (g := (mkF m 17 #[.val (.ref a1), .val (.ref a2)] [(.ref a2), (.int ln), (.ref t2), (.int (0 : Int32)), (.ref a2)])) rfl rfl (hb hby d6_17) _ ?_
    rw [ln137]
    exact kt
  clear R136
  obtain ⟨ks139, us139, As139, ls139⟩ := VM_131.arv (z := (1 : Int32)) rfl (by decide)
  obtain ⟨kd139, ud139, Ad139, ld139⟩ := VB2.arv (z := (Int32.ofNat cap2)) cz cz0
  obtain ⟨T139, h139, L139, X139, e139, N139, K139, B139, st139⟩ := cpA X135 hx hZ hown (hw _ (List.mem_of_getElem? (i := 33) rfl)) (hw _ (List.mem_of_getElem? (i := 36) rfl)) (hw _ (List.mem_of_getElem? (i := 34) rfl)) (hw _ (List.mem_of_getElem? (i := 35) rfl)) e135 As139 Ad139 (Or.inl ⟨rfl, rfl⟩) (sp := (0 : Int32)) (dp := ln) (nn := (1 : Int32)) (by decide) l0 (by decide) (by decide) (by rw [lnn, cz]; exact hle) rfl (by rw [lnn, ld139]; exact hle) N130 gt2 (g := (mkF m 18 #[.val (.ref a1), .val (.ref a2)] [(.int (1 : Int32)), (.int ln), (.ref t2), (.int (0 : Int32)), (.ref a2)])) rfl (by rw [hml]; rfl) (rest := []) rfl (hb hby d6_18) (by decide) (W := 0) (by show 2 * 0 + _ ≤ _; exact Nat.le_of_eq rfl) (by decide)
  have VM_140 := VM_131.keep K139 (own_notin1 nm2)
  have E_a1_140 := E2.keep K139
  have Fb_140 := Fb2.keep K139 (own_notin1 nt2)
  have Fn_140 := Fn2.keep K139 (own_notin1 nt2)
  clear VM_131
  have Zs140 : n0 ≤ h139.size := Nat.le_trans Zs131 K139.1
  have Kk140 : Keep h0 h139 [a1, t] := Keep.trans Kk131 K139 (own_trans1 ((own_km ht2)))
  have VB_139 : AN Z h139 t2 cap2 := AN.of B139 cz
  have R141 : ∀ tg, Steps p.tables e below (T139.setTop (mkF m 23 #[.val (.ref a1), .val (.ref a2)] [(.ref a1), (.ref a1)])) tg → Steps p.tables e below (s₁.setTop (mkF m 0 #[.val (.ref a1), .val (.ref a2)] [])) tg := by
    intro tg kt
    refine R138 _ ?_
    refine st139 _ ?_
    show Steps p.tables e below (T139.setTop (mkF m 21 #[.val (.ref a1), .val (.ref a2)] [])) _
    refine XS.aloadN X139.here hx rfl (hb hby d6_21) rfl rfl ?_
    show Steps p.tables e below (T139.setTop (mkF m 22 #[.val (.ref a1), .val (.ref a2)] [(.ref a1)])) _
    refine XS.dup X139.here hx rfl (hb hby d6_22) rfl rfl ?_
    exact kt
  clear R138 st139
  obtain ⟨T142, X142, e142, st142⟩ := getF X139 hx hZ hown (host := "") (Or.inl (hw _ (List.mem_of_getElem? (i := 17) rfl))) Via.refl e139 Fn_140 (g := (mkF m 23 #[.val (.ref a1), .val (.ref a2)] [(.ref a1), (.ref a1)])) rfl rfl (hb hby d6_23)
  have R143 : ∀ tg, Steps p.tables e below (T142.setTop (mkF m 27 #[.val (.ref a1), .val (.ref a2)] [(.ref a2), (.int ln), (.ref a1)])) tg → Steps p.tables e below (s₁.setTop (mkF m 0 #[.val (.ref a1), .val (.ref a2)] [])) tg := by
    intro tg kt
    refine R141 _ ?_
    refine st142 _ ?_
    show Steps p.tables e below (T142.setTop (mkF m 26 #[.val (.ref a1), .val (.ref a2)] [(.int ln), (.ref a1)])) _
    refine XS.aloadN X142.here hx rfl (hb hby d6_26) rfl rfl ?_
    exact kt
  clear R141 st142
  obtain ⟨cl144, Ar144, ln144⟩ := VM_140.len
  have R145 : ∀ tg, Steps p.tables e below (T142.setTop (mkF m 29 #[.val (.ref a1), .val (.ref a2)] [(.int (ln + (1 : Int32))), (.ref a1)])) tg → Steps p.tables e below (s₁.setTop (mkF m 0 #[.val (.ref a1), .val (.ref a2)] [])) tg := by
    intro tg kt
    refine R143 _ ?_
    show Steps p.tables e below (T142.setTop (mkF m 27 #[.val (.ref a1), .val (.ref a2)] [(.ref a2), (.int ln), (.ref a1)])) _
    refine X142.arraylength hx (by rw [e142]; exact Ar144.1) (State.isArrayOf_alike hZ.alike Ar144.2.1) (g := (mkF m 27 #[.val (.ref a1), .val (.ref a2)] [(.ref a2), (.int ln), (.ref a1)])) rfl rfl (hb hby d6_27) _ ?_
    rw [ln144]
    show Steps p.tables e below (T142.setTop (mkF m 28 #[.val (.ref a1), .val (.ref a2)] [(.int (1 : Int32)), (.int ln), (.ref a1)])) _
    refine XS.iadd X142.here hx rfl (hb hby d6_28) rfl ?_
    exact kt
  clear R143
  obtain ⟨T146, h146, X146, e146, W146, st146⟩ := putF X142 hx hZ hown (host := "") (Or.inl (hw _ (List.mem_of_getElem? (i := 17) rfl))) Via.refl e142 Fn_140 E_a1_140 (Or.inl (hw _ (List.mem_of_getElem? (i := 18) rfl))) (hw _ (List.mem_of_getElem? (i := 1) rfl)) (ty := .int) (by decide) rfl rfl (g := (mkF m 29 #[.val (.ref a1), .val (.ref a2)] [(.int (ln + (1 : Int32))), (.ref a1)])) rfl rfl (hb hby d6_29)
  have N146 := Fr.snoc X146 N139 ga
  have Fn_146 := Fn_140.same W146
  have VM_146 := VM_140.other W146 n12
  have E_a1_146 := E_a1_140.wr W146
  have Fb_146 := Fb_140.other W146 (Or.inr (slot_ne (Or.inl (hw _ (List.mem_of_getElem? (i := 11) rfl))) (Or.inl (hw _ (List.mem_of_getElem? (i := 18) rfl))) (by decide) (t := (.array .byte)) (t' := .int) (by decide) (by decide)))
  have VB_146 := VB_139.other W146 (Ne.symm nt2)
  clear VM_140 E_a1_140 Fb_140 VB_139
  have Zs146 : n0 ≤ h146.size := Nat.le_trans Zs140 (Keep.of_wr W146).1
  have Kw146 : Keep h0 h146 [a1, t] := Keep.wr Kk140 W146 (Or.inl (List.mem_of_getElem? (i := 0) rfl))
  have R147 : ∀ tg, Steps p.tables e below (T146.setTop (mkF m 32 #[.val (.ref a1), .val (.ref a2)] [])) tg → Steps p.tables e below (s₁.setTop (mkF m 0 #[.val (.ref a1), .val (.ref a2)] [])) tg := by
    intro tg kt
    refine R145 _ ?_
    refine st146 _ ?_
    exact kt
  clear R145 st146
  obtain ⟨fs, hr, hrun, hended, hW, hsame⟩ := X146.leave (v := none) (fun _ => rfl)
  refine ⟨_, _, pre0 _ (R147 _ ?_), hrun, hended, _, _, rfl, ?_, ⟨_, rfl⟩, hW, hsame.mono (by decide) (by decide)⟩
  · exact X146.returnOut hx Bd.returns (hb hby d6_32) hr
  · show Q_rm_addOneU Z a1 a2 ln t cap LN h0 n0 _ T146.heap _
    rw [e146]
    exact ⟨rfl, N146, Kw146, t2, cap2, ht2, hc2, hle, E_a1_146, Fb_146, Fn_146, VB_146⟩
theorem pn_2 : plainName "com/example/travessia/travessia/core/BytesAddPinLaw" = true := by first | (simp [plainName, overriddenIn]; done) | decide +kernel
theorem pd_3 : parseMethodDescriptor "()V" = some ⟨[], none⟩ := by decide +kernel
theorem pd_4 : parseMethodDescriptor "([B)V" = some ⟨[(.array .byte)], none⟩ := by decide +kernel
theorem pd_5 : parseMethodDescriptor "()I" = some ⟨[], some .int⟩ := by decide +kernel
theorem pd_6 : parseMethodDescriptor "(B)V" = some ⟨[.byte], none⟩ := by decide +kernel
theorem ef_rm_law (m : MethodId) (p1 : Int32) (p2 : Int32) (p3 : Int32) : entryFrame m #[(.int p1), (.int p2), (.int p3)] maxLocals = mkF m 0 #[.val (.int p1), .val (.int p2), .val (.int p3), .unset, .unset, .unset, .unset, .unset, .unset, .unset, .unset, .unset, .unset, .unset] [] := by first | (simp [entryFrame, mkF, argsToLocals, Value.category, maxLocals]; done) | rfl
def Q_rm_law (Z : State) (p1 : Int32) (p2 : Int32) (p3 : Int32) (h0 : Heap) (n0 : Nat) (v : Option Value) (h : Heap) (L : List Loc) : Prop := v = some (.int (1 : Int32)) ∧ Fr n0 L
set_option maxRecDepth 65536 in
set_option maxHeartbeats 40000000 in
theorem rm_law (l : Launch) (Z : State) (a0 : Array Value) (hw : ∀ d ∈ tables_1, d.before a0 Z = true) (ws : List Jvm.Cond) (p1 : Int32) (p2 : Int32) (p3 : Int32) (h0 : Heap) (n0 : Nat) (Z0 : n0 ≤ h0.size) :
    MetFree l x (head1 (Jvm.Cond.code x code maxLocals ret :: ws) room_1) (fun a U => a = #[(.int p1), (.int p2), (.int p3)] ∧ Z.Warmed39 U.vm ∧ U.heap = h0) (fun _ _ _ _ _ => True) (fun _ U oC U' => ∃ v L, oC = .returned v ∧ Q_rm_law Z p1 p2 p3 h0 n0 v U'.heap L ∧ FrameEnd U oC U' L room_1.cells room_1.slots) := by
  refine MetFree.of_bodySF (plainFor_of_name pn_2) hisR ?_
  intro p e s m args below meth c s₁ Bd hml0 hP hK
  obtain ⟨rfl, hZ, hh⟩ := hP
  have hx := Bd.exec
  have hby := Bd.bytes
  have hml : c.maxLocals = 14 := hml0
  have hown : s.vm.findClass "com/example/travessia/travessia/core/BytesAddPinLaw" = some m.cls := findClass_of_methodNamed Bd.named
  have hnm := (name_of_methodNamed Bd.named Bd.method).1
  have X0 : Stand p l e room_1 s m #[(.int p1), (.int p2), (.int p3)] below meth c s₁ [] 0 0 := Stand.of_body Bd
  have e0 : s₁.heap = h0 := by rw [← hh, Bd.state]; rfl
  have N0 := Fr.nil n0
  have pre0 : ∀ tg, Steps p.tables e below (s₁.setTop (mkF m 0 #[.val (.int p1), .val (.int p2), .val (.int p3), .unset, .unset, .unset, .unset, .unset, .unset, .unset, .unset, .unset, .unset, .unset] [])) tg → Steps p.tables e below (s₁.setTop (entryFrame m #[(.int p1), (.int p2), (.int p3)] maxLocals)) tg := fun t k => castTop (ef_rm_law m p1 p2 p3) k
  have pre00 : ∀ tg, Steps p.tables e below (s₁.setTop (mkF m 0 #[.val (.int p1), .val (.int p2), .val (.int p3), .unset, .unset, .unset, .unset, .unset, .unset, .unset, .unset, .unset, .unset, .unset] [])) tg → Steps p.tables e below (s₁.setTop (mkF m 0 #[.val (.int p1), .val (.int p2), .val (.int p3), .unset, .unset, .unset, .unset, .unset, .unset, .unset, .unset, .unset, .unset, .unset] [])) tg := fun _ k => k
  obtain ⟨T148, h148, X148, e148, E148, A148, D148, -, st148⟩ := newO X0 hx hZ hown (hw _ (List.mem_of_getElem? (i := 0) rfl)) (hw _ (List.mem_of_getElem? (i := 1) rfl)) (hw _ (List.mem_of_getElem? (i := 2) rfl)) e0 (g := (mkF m 0 #[.val (.int p1), .val (.int p2), .val (.int p3), .unset, .unset, .unset, .unset, .unset, .unset, .unset, .unset, .unset, .unset, .unset] [])) rfl (hb hby at_0) (by decide) (by decide)
  obtain ⟨ob, g148⟩ : ∃ z, z = h0.size := ⟨_, rfl⟩
  rw [← g148] at A148 D148 st148
  have E_ob := A148
  have g_ob : n0 ≤ ob := Nat.le_trans Z0 (Nat.le_of_eq g148.symm)
  have Zs148 : n0 ≤ h148.size := Nat.le_trans Z0 E148.1
  have Fb : Fld Z h148 ob "com/example/travessia/travessia/core/Bytes" "bytes" "[B" .null := D148 (Or.inl (hw _ (List.mem_of_getElem? (i := 11) rfl))) (ty := (.array .byte)) (by decide)
  have Fn : Fld Z h148 ob "com/example/travessia/travessia/core/Bytes" "length" "I" (.int (0 : Int32)) := D148 (Or.inl (hw _ (List.mem_of_getElem? (i := 18) rfl))) (ty := .int) (by decide)
  have R149 : ∀ tg, Steps p.tables e below (T148.setTop (mkF m 4 #[.val (.int p1), .val (.int p2), .val (.int p3), .unset, .unset, .unset, .unset, .unset, .unset, .unset, .unset, .unset, .unset, .unset] [(.ref ob), (.ref ob)])) tg → Steps p.tables e below (s₁.setTop (mkF m 0 #[.val (.int p1), .val (.int p2), .val (.int p3), .unset, .unset, .unset, .unset, .unset, .unset, .unset, .unset, .unset, .unset, .unset] [])) tg := by
    intro tg kt
    refine pre00 _ ?_
    refine st148 _ ?_
    show Steps p.tables e below (T148.setTop (mkF m 3 #[.val (.int p1), .val (.int p2), .val (.int p3), .unset, .unset, .unset, .unset, .unset, .unset, .unset, .unset, .unset, .unset, .unset] [(.ref ob)])) _
    refine XS.dup X148.here hx rfl (hb hby at_3) rfl rfl ?_
    exact kt
  clear st148
  obtain ⟨_, _, ⟨T150, L150, k150, n150⟩, -, X150, ⟨Lc150, hQ150, l150, y150, z150⟩, st150⟩ := X148.specialBack hx (y := (⟨"com/example/travessia/travessia/core/Bytes", "<init>", "()V"⟩ : MethodName)) rfl hown (mvT hZ (hw _ (List.mem_of_getElem? (i := 3) rfl))) (mvT hZ (hw _ (List.mem_of_getElem? (i := 4) rfl))) (mvT hZ (hw _ (List.mem_of_getElem? (i := 5) rfl))) (by decide) (backOf (W := 1) (rm_init l Z a0 hw [] ob h148 n0 Zs148 E_ob Fb Fn g_ob) hZ (hw _ (List.mem_of_getElem? (i := 5) rfl)) (hw _ (List.mem_of_getElem? (i := 2) rfl)) (by decide) (by decide)) (g := (mkF m 4 #[.val (.int p1), .val (.int p2), .val (.int p3), .unset, .unset, .unset, .unset, .unset, .unset, .unset, .unset, .unset, .unset, .unset] [(.ref ob), (.ref ob)])) rfl (by rw [hml]; rfl) (Steps.refl _) (a := ob) (argsL := []) (rest := [(.ref ob)]) (lenOf pd_3 rfl) rfl (by show 2 * 0 + _ ≤ _; exact Nat.le_of_eq rfl) (hb hby at_4) (fun _ _ => ⟨rfl, e148, (by decide : 1 + 1 ≤ _), (by decide : 2 + 16384 ≤ _)⟩)
  dsimp only [Pt.U, Pt.locs, Pt.cells, Pt.slots] at X150 l150 y150 z150 st150 hQ150
  rw [l150, y150, z150] at X150
  obtain ⟨rfl, N150q, K150, ar, szar, Ea, Fba, Fna, VBa⟩ := hQ150
  have N150 := Fr.app N0 N150q
  have Zs151 : n0 ≤ T150.heap.size := Nat.le_trans Zs148 K150.1
  have ne_ob_ar : ob ≠ ar := Nat.ne_of_lt (Nat.lt_of_lt_of_le E_ob.lt szar)
  have R152 : ∀ tg, Steps p.tables e below (T150.setTop (mkF m 11 #[.val (.int p1), .val (.int p2), .val (.int p3), .val (.ref ob), .unset, .unset, .unset, .unset, .unset, .unset, .unset, .unset, .unset, .unset] [(.int (16383 : Int32))])) tg → Steps p.tables e below (s₁.setTop (mkF m 0 #[.val (.int p1), .val (.int p2), .val (.int p3), .unset, .unset, .unset, .unset, .unset, .unset, .unset, .unset, .unset, .unset, .unset] [])) tg := by
    intro tg kt
    refine R149 _ ?_
    refine st150.trans ?_
    show Steps p.tables e below (T150.setTop (mkF m 7 #[.val (.int p1), .val (.int p2), .val (.int p3), .unset, .unset, .unset, .unset, .unset, .unset, .unset, .unset, .unset, .unset, .unset] [(.ref ob)])) _
    refine XS.astoreN X150.here hx rfl (hb hby at_7) rfl rfl (l' := #[.val (.int p1), .val (.int p2), .val (.int p3), .val (.ref ob), .unset, .unset, .unset, .unset, .unset, .unset, .unset, .unset, .unset, .unset]) rfl ?_
    show Steps p.tables e below (T150.setTop (mkF m 8 #[.val (.int p1), .val (.int p2), .val (.int p3), .val (.ref ob), .unset, .unset, .unset, .unset, .unset, .unset, .unset, .unset, .unset, .unset] [])) _
    refine XS.sipush X150.here hx rfl (hb hby at_8) ?_
    exact kt
  clear R149 st150
  obtain ⟨T153, h153, k153, X153, e153, E153, A153, st153⟩ := newP X150 hx hZ (hw _ (List.mem_of_getElem? (i := 9) rfl)) rfl (g := (mkF m 11 #[.val (.int p1), .val (.int p2), .val (.int p3), .val (.ref ob), .unset, .unset, .unset, .unset, .unset, .unset, .unset, .unset, .unset, .unset] [(.int (16383 : Int32))])) rfl (hb hby at_11) rfl (by decide) (cap := 16383) (by decide) (by decide) (by decide) (by decide)
  obtain ⟨bg, g153⟩ : ∃ z, z = T150.heap.size := ⟨_, rfl⟩
  rw [← g153] at A153 st153
  have g_bg : n0 ≤ bg := Nat.le_trans Zs151 (Nat.le_of_eq g153.symm)
  have ne_ob_bg : ob ≠ bg := Nat.ne_of_lt (Nat.lt_of_lt_of_le Ea.lt (Nat.le_of_eq g153.symm))
  have ne_ar_bg : ar ≠ bg := Nat.ne_of_lt (Nat.lt_of_lt_of_le VBa.lt (Nat.le_of_eq g153.symm))
  have E_ob_153 := Ea.ext E153
  have Fb_153 := Fba.ext E153
  have Fn_153 := Fna.ext E153
  have VB_153 := VBa.ext E153
  have Zs153 : n0 ≤ h153.size := Nat.le_trans Zs151 E153.1
  have VGr : AV Z h153 bg .byte 16383 (fun _ => defaultValue .byte) := AV.new A153 rfl rfl
  have VG : AN Z h153 bg 16383 := ⟨_, VGr⟩
  have R154 : ∀ tg, Steps p.tables e below (T153.setTop (mkF m 16 #[.val (.int p1), .val (.int p2), .val (.int p3), .val (.ref ob), .val (.ref bg), .unset, .unset, .unset, .unset, .unset, .unset, .unset, .unset, .unset] [(.int (1 : Int32))])) tg → Steps p.tables e below (s₁.setTop (mkF m 0 #[.val (.int p1), .val (.int p2), .val (.int p3), .unset, .unset, .unset, .unset, .unset, .unset, .unset, .unset, .unset, .unset, .unset] [])) tg := by
    intro tg kt
    refine R152 _ ?_
    refine st153 _ ?_
    show Steps p.tables e below (T153.setTop (mkF m 13 #[.val (.int p1), .val (.int p2), .val (.int p3), .val (.ref ob), .unset, .unset, .unset, .unset, .unset, .unset, .unset, .unset, .unset, .unset] [(.ref bg)])) _
    refine XS.astore X153.here hx rfl (hb hby at_13) rfl rfl (l' := #[.val (.int p1), .val (.int p2), .val (.int p3), .val (.ref ob), .val (.ref bg), .unset, .unset, .unset, .unset, .unset, .unset, .unset, .unset, .unset]) rfl ?_
    show Steps p.tables e below (T153.setTop (mkF m 15 #[.val (.int p1), .val (.int p2), .val (.int p3), .val (.ref ob), .val (.ref bg), .unset, .unset, .unset, .unset, .unset, .unset, .unset, .unset, .unset] [])) _
    refine XS.iconst X153.here hx rfl (hb hby at_15) ?_
    exact kt
  clear R152 st153
  obtain ⟨T155, h155, k155, X155, e155, E155, A155, st155⟩ := newP X153 hx hZ (hw _ (List.mem_of_getElem? (i := 9) rfl)) e153 (g := (mkF m 16 #[.val (.int p1), .val (.int p2), .val (.int p3), .val (.ref ob), .val (.ref bg), .unset, .unset, .unset, .unset, .unset, .unset, .unset, .unset, .unset] [(.int (1 : Int32))])) rfl (hb hby at_16) rfl (by decide) (cap := 1) (by decide) (by decide) (by decide) (by decide)
  obtain ⟨on, g155⟩ : ∃ z, z = h153.size := ⟨_, rfl⟩
  rw [← g155] at A155 st155
  have g_on : n0 ≤ on := Nat.le_trans Zs153 (Nat.le_of_eq g155.symm)
  have ne_ob_on : ob ≠ on := Nat.ne_of_lt (Nat.lt_of_lt_of_le E_ob_153.lt (Nat.le_of_eq g155.symm))
  have ne_ar_on : ar ≠ on := Nat.ne_of_lt (Nat.lt_of_lt_of_le VB_153.lt (Nat.le_of_eq g155.symm))
  have ne_bg_on : bg ≠ on := Nat.ne_of_lt (Nat.lt_of_lt_of_le VG.lt (Nat.le_of_eq g155.symm))
  have E_ob_155 := E_ob_153.ext E155
  have Fb_155 := Fb_153.ext E155
  have Fn_155 := Fn_153.ext E155
  have VB_155 := VB_153.ext E155
  have VG_155 := VG.ext E155
  clear E_ob_153 Fb_153 Fn_153 VB_153
  have Zs155 : n0 ≤ h155.size := Nat.le_trans Zs153 E155.1
  have VOr : AV Z h155 on .byte 1 (fun _ => defaultValue .byte) := AV.new A155 rfl rfl
  have VO : AN Z h155 on 1 := ⟨_, VOr⟩
  have R156 : ∀ tg, Steps p.tables e below (T155.setTop (mkF m 23 #[.val (.int p1), .val (.int p2), .val (.int p3), .val (.ref ob), .val (.ref bg), .val (.ref on), .unset, .unset, .unset, .unset, .unset, .unset, .unset, .unset] [(.int (p1 &&& (1 : Int32)))])) tg → Steps p.tables e below (s₁.setTop (mkF m 0 #[.val (.int p1), .val (.int p2), .val (.int p3), .unset, .unset, .unset, .unset, .unset, .unset, .unset, .unset, .unset, .unset, .unset] [])) tg := by
    intro tg kt
    refine R154 _ ?_
    refine st155 _ ?_
    show Steps p.tables e below (T155.setTop (mkF m 18 #[.val (.int p1), .val (.int p2), .val (.int p3), .val (.ref ob), .val (.ref bg), .unset, .unset, .unset, .unset, .unset, .unset, .unset, .unset, .unset] [(.ref on)])) _
    refine XS.astore X155.here hx rfl (hb hby at_18) rfl rfl (l' := #[.val (.int p1), .val (.int p2), .val (.int p3), .val (.ref ob), .val (.ref bg), .val (.ref on), .unset, .unset, .unset, .unset, .unset, .unset, .unset, .unset]) rfl ?_
    show Steps p.tables e below (T155.setTop (mkF m 20 #[.val (.int p1), .val (.int p2), .val (.int p3), .val (.ref ob), .val (.ref bg), .val (.ref on), .unset, .unset, .unset, .unset, .unset, .unset, .unset, .unset] [])) _
    refine XS.iloadN X155.here hx rfl (hb hby at_20) rfl ?_
    show Steps p.tables e below (T155.setTop (mkF m 21 #[.val (.int p1), .val (.int p2), .val (.int p3), .val (.ref ob), .val (.ref bg), .val (.ref on), .unset, .unset, .unset, .unset, .unset, .unset, .unset, .unset] [(.int p1)])) _
    refine XS.iconst X155.here hx rfl (hb hby at_21) ?_
    show Steps p.tables e below (T155.setTop (mkF m 22 #[.val (.int p1), .val (.int p2), .val (.int p3), .val (.ref ob), .val (.ref bg), .val (.ref on), .unset, .unset, .unset, .unset, .unset, .unset, .unset, .unset] [(.int (1 : Int32)), (.int p1)])) _
    refine XS.iand X155.here hx rfl (hb hby at_22) rfl ?_
    exact kt
  clear R154 st155
  have R157 : ∀ tg, Steps p.tables e below (T155.setTop (mkF m 31 #[.val (.int p1), .val (.int p2), .val (.int p3), .val (.ref ob), .val (.ref bg), .val (.ref on), .unset, .unset, .unset, .unset, .unset, .unset, .unset, .unset] [(.int (own_fg p1 (1 : Int32)))])) tg → Steps p.tables e below (s₁.setTop (mkF m 0 #[.val (.int p1), .val (.int p2), .val (.int p3), .unset, .unset, .unset, .unset, .unset, .unset, .unset, .unset, .unset, .unset, .unset] [])) tg := by
    intro tg kt
    refine R156 _ ?_
    by_cases hf1 : (p1 &&& (1 : Int32)) = (0 : Int32)
    · rw [show (own_fg p1 (1 : Int32)) = (0 : Int32) from if_pos hf1] at kt
      show Steps p.tables e below (T155.setTop (mkF m 23 #[.val (.int p1), .val (.int p2), .val (.int p3), .val (.ref ob), .val (.ref bg), .val (.ref on), .unset, .unset, .unset, .unset, .unset, .unset, .unset, .unset] [(.int (p1 &&& (1 : Int32)))])) _
      refine XS.ifYes X155.here hx rfl (pc0 := 23) (pc' := 30) rfl (hb hby at_23) rfl ((if0 _ _).trans (teq (hf1 : (p1 &&& (1 : Int32)) = (0 : Int32))).1) (by decide) (by decide) ?_
      show Steps p.tables e below (T155.setTop (mkF m 30 #[.val (.int p1), .val (.int p2), .val (.int p3), .val (.ref ob), .val (.ref bg), .val (.ref on), .unset, .unset, .unset, .unset, .unset, .unset, .unset, .unset] [])) _
      refine XS.iconst X155.here hx rfl (hb hby at_30) ?_
      exact kt
    · rw [show (own_fg p1 (1 : Int32)) = (1 : Int32) from if_neg hf1] at kt
      show Steps p.tables e below (T155.setTop (mkF m 23 #[.val (.int p1), .val (.int p2), .val (.int p3), .val (.ref ob), .val (.ref bg), .val (.ref on), .unset, .unset, .unset, .unset, .unset, .unset, .unset, .unset] [(.int (p1 &&& (1 : Int32)))])) _
      refine XS.ifNo X155.here hx rfl (hb hby at_23) rfl ((if0 _ _).trans (feq (hf1 : ¬ ((p1 &&& (1 : Int32)) = (0 : Int32)))).1) ?_
      show Steps p.tables e below (T155.setTop (mkF m 26 #[.val (.int p1), .val (.int p2), .val (.int p3), .val (.ref ob), .val (.ref bg), .val (.ref on), .unset, .unset, .unset, .unset, .unset, .unset, .unset, .unset] [])) _
      refine XS.iconst X155.here hx rfl (hb hby at_26) ?_
      show Steps p.tables e below (T155.setTop (mkF m 27 #[.val (.int p1), .val (.int p2), .val (.int p3), .val (.ref ob), .val (.ref bg), .val (.ref on), .unset, .unset, .unset, .unset, .unset, .unset, .unset, .unset] [(.int (1 : Int32))])) _
      refine XS.goto X155.here hx rfl (pc0 := 27) (pc' := 31) rfl (hb hby at_27) (by decide) (by decide) ?_
      exact kt
  clear R156
  have R158 : ∀ tg, Steps p.tables e below (T155.setTop (mkF m 36 #[.val (.int p1), .val (.int p2), .val (.int p3), .val (.ref ob), .val (.ref bg), .val (.ref on), .val (.int (own_fg p1 (1 : Int32))), .unset, .unset, .unset, .unset, .unset, .unset, .unset] [(.int (p1 &&& (2 : Int32)))])) tg → Steps p.tables e below (s₁.setTop (mkF m 0 #[.val (.int p1), .val (.int p2), .val (.int p3), .unset, .unset, .unset, .unset, .unset, .unset, .unset, .unset, .unset, .unset, .unset] [])) tg := by
    intro tg kt
    refine R157 _ ?_
    show Steps p.tables e below (T155.setTop (mkF m 31 #[.val (.int p1), .val (.int p2), .val (.int p3), .val (.ref ob), .val (.ref bg), .val (.ref on), .unset, .unset, .unset, .unset, .unset, .unset, .unset, .unset] [(.int (own_fg p1 (1 : Int32)))])) _
    refine XS.istore X155.here hx rfl (hb hby at_31) rfl (l' := #[.val (.int p1), .val (.int p2), .val (.int p3), .val (.ref ob), .val (.ref bg), .val (.ref on), .val (.int (own_fg p1 (1 : Int32))), .unset, .unset, .unset, .unset, .unset, .unset, .unset]) rfl ?_
    show Steps p.tables e below (T155.setTop (mkF m 33 #[.val (.int p1), .val (.int p2), .val (.int p3), .val (.ref ob), .val (.ref bg), .val (.ref on), .val (.int (own_fg p1 (1 : Int32))), .unset, .unset, .unset, .unset, .unset, .unset, .unset] [])) _
    refine XS.iloadN X155.here hx rfl (hb hby at_33) rfl ?_
    show Steps p.tables e below (T155.setTop (mkF m 34 #[.val (.int p1), .val (.int p2), .val (.int p3), .val (.ref ob), .val (.ref bg), .val (.ref on), .val (.int (own_fg p1 (1 : Int32))), .unset, .unset, .unset, .unset, .unset, .unset, .unset] [(.int p1)])) _
    refine XS.iconst X155.here hx rfl (hb hby at_34) ?_
    show Steps p.tables e below (T155.setTop (mkF m 35 #[.val (.int p1), .val (.int p2), .val (.int p3), .val (.ref ob), .val (.ref bg), .val (.ref on), .val (.int (own_fg p1 (1 : Int32))), .unset, .unset, .unset, .unset, .unset, .unset, .unset] [(.int (2 : Int32)), (.int p1)])) _
    refine XS.iand X155.here hx rfl (hb hby at_35) rfl ?_
    exact kt
  clear R157
  have R159 : ∀ tg, Steps p.tables e below (T155.setTop (mkF m 44 #[.val (.int p1), .val (.int p2), .val (.int p3), .val (.ref ob), .val (.ref bg), .val (.ref on), .val (.int (own_fg p1 (1 : Int32))), .unset, .unset, .unset, .unset, .unset, .unset, .unset] [(.int (own_fg p1 (2 : Int32)))])) tg → Steps p.tables e below (s₁.setTop (mkF m 0 #[.val (.int p1), .val (.int p2), .val (.int p3), .unset, .unset, .unset, .unset, .unset, .unset, .unset, .unset, .unset, .unset, .unset] [])) tg := by
    intro tg kt
    refine R158 _ ?_
    by_cases hf2 : (p1 &&& (2 : Int32)) = (0 : Int32)
    · rw [show (own_fg p1 (2 : Int32)) = (0 : Int32) from if_pos hf2] at kt
      show Steps p.tables e below (T155.setTop (mkF m 36 #[.val (.int p1), .val (.int p2), .val (.int p3), .val (.ref ob), .val (.ref bg), .val (.ref on), .val (.int (own_fg p1 (1 : Int32))), .unset, .unset, .unset, .unset, .unset, .unset, .unset] [(.int (p1 &&& (2 : Int32)))])) _
      refine XS.ifYes X155.here hx rfl (pc0 := 36) (pc' := 43) rfl (hb hby at_36) rfl ((if0 _ _).trans (teq (hf2 : (p1 &&& (2 : Int32)) = (0 : Int32))).1) (by decide) (by decide) ?_
      show Steps p.tables e below (T155.setTop (mkF m 43 #[.val (.int p1), .val (.int p2), .val (.int p3), .val (.ref ob), .val (.ref bg), .val (.ref on), .val (.int (own_fg p1 (1 : Int32))), .unset, .unset, .unset, .unset, .unset, .unset, .unset] [])) _
      refine XS.iconst X155.here hx rfl (hb hby at_43) ?_
      exact kt
    · rw [show (own_fg p1 (2 : Int32)) = (1 : Int32) from if_neg hf2] at kt
      show Steps p.tables e below (T155.setTop (mkF m 36 #[.val (.int p1), .val (.int p2), .val (.int p3), .val (.ref ob), .val (.ref bg), .val (.ref on), .val (.int (own_fg p1 (1 : Int32))), .unset, .unset, .unset, .unset, .unset, .unset, .unset] [(.int (p1 &&& (2 : Int32)))])) _
      refine XS.ifNo X155.here hx rfl (hb hby at_36) rfl ((if0 _ _).trans (feq (hf2 : ¬ ((p1 &&& (2 : Int32)) = (0 : Int32)))).1) ?_
      show Steps p.tables e below (T155.setTop (mkF m 39 #[.val (.int p1), .val (.int p2), .val (.int p3), .val (.ref ob), .val (.ref bg), .val (.ref on), .val (.int (own_fg p1 (1 : Int32))), .unset, .unset, .unset, .unset, .unset, .unset, .unset] [])) _
      refine XS.iconst X155.here hx rfl (hb hby at_39) ?_
      show Steps p.tables e below (T155.setTop (mkF m 40 #[.val (.int p1), .val (.int p2), .val (.int p3), .val (.ref ob), .val (.ref bg), .val (.ref on), .val (.int (own_fg p1 (1 : Int32))), .unset, .unset, .unset, .unset, .unset, .unset, .unset] [(.int (1 : Int32))])) _
      refine XS.goto X155.here hx rfl (pc0 := 40) (pc' := 44) rfl (hb hby at_40) (by decide) (by decide) ?_
      exact kt
  clear R158
  have R160 : ∀ tg, Steps p.tables e below (T155.setTop (mkF m 49 #[.val (.int p1), .val (.int p2), .val (.int p3), .val (.ref ob), .val (.ref bg), .val (.ref on), .val (.int (own_fg p1 (1 : Int32))), .val (.int (own_fg p1 (2 : Int32))), .unset, .unset, .unset, .unset, .unset, .unset] [(.int (p1 &&& (4 : Int32)))])) tg → Steps p.tables e below (s₁.setTop (mkF m 0 #[.val (.int p1), .val (.int p2), .val (.int p3), .unset, .unset, .unset, .unset, .unset, .unset, .unset, .unset, .unset, .unset, .unset] [])) tg := by
    intro tg kt
    refine R159 _ ?_
    show Steps p.tables e below (T155.setTop (mkF m 44 #[.val (.int p1), .val (.int p2), .val (.int p3), .val (.ref ob), .val (.ref bg), .val (.ref on), .val (.int (own_fg p1 (1 : Int32))), .unset, .unset, .unset, .unset, .unset, .unset, .unset] [(.int (own_fg p1 (2 : Int32)))])) _
    refine XS.istore X155.here hx rfl (hb hby at_44) rfl (l' := #[.val (.int p1), .val (.int p2), .val (.int p3), .val (.ref ob), .val (.ref bg), .val (.ref on), .val (.int (own_fg p1 (1 : Int32))), .val (.int (own_fg p1 (2 : Int32))), .unset, .unset, .unset, .unset, .unset, .unset]) rfl ?_
    show Steps p.tables e below (T155.setTop (mkF m 46 #[.val (.int p1), .val (.int p2), .val (.int p3), .val (.ref ob), .val (.ref bg), .val (.ref on), .val (.int (own_fg p1 (1 : Int32))), .val (.int (own_fg p1 (2 : Int32))), .unset, .unset, .unset, .unset, .unset, .unset] [])) _
    refine XS.iloadN X155.here hx rfl (hb hby at_46) rfl ?_
    show Steps p.tables e below (T155.setTop (mkF m 47 #[.val (.int p1), .val (.int p2), .val (.int p3), .val (.ref ob), .val (.ref bg), .val (.ref on), .val (.int (own_fg p1 (1 : Int32))), .val (.int (own_fg p1 (2 : Int32))), .unset, .unset, .unset, .unset, .unset, .unset] [(.int p1)])) _
    refine XS.iconst X155.here hx rfl (hb hby at_47) ?_
    show Steps p.tables e below (T155.setTop (mkF m 48 #[.val (.int p1), .val (.int p2), .val (.int p3), .val (.ref ob), .val (.ref bg), .val (.ref on), .val (.int (own_fg p1 (1 : Int32))), .val (.int (own_fg p1 (2 : Int32))), .unset, .unset, .unset, .unset, .unset, .unset] [(.int (4 : Int32)), (.int p1)])) _
    refine XS.iand X155.here hx rfl (hb hby at_48) rfl ?_
    exact kt
  clear R159
  have R161 : ∀ tg, Steps p.tables e below (T155.setTop (mkF m 57 #[.val (.int p1), .val (.int p2), .val (.int p3), .val (.ref ob), .val (.ref bg), .val (.ref on), .val (.int (own_fg p1 (1 : Int32))), .val (.int (own_fg p1 (2 : Int32))), .unset, .unset, .unset, .unset, .unset, .unset] [(.int (own_fg p1 (4 : Int32)))])) tg → Steps p.tables e below (s₁.setTop (mkF m 0 #[.val (.int p1), .val (.int p2), .val (.int p3), .unset, .unset, .unset, .unset, .unset, .unset, .unset, .unset, .unset, .unset, .unset] [])) tg := by
    intro tg kt
    refine R160 _ ?_
    by_cases hf4 : (p1 &&& (4 : Int32)) = (0 : Int32)
    · rw [show (own_fg p1 (4 : Int32)) = (0 : Int32) from if_pos hf4] at kt
      show Steps p.tables e below (T155.setTop (mkF m 49 #[.val (.int p1), .val (.int p2), .val (.int p3), .val (.ref ob), .val (.ref bg), .val (.ref on), .val (.int (own_fg p1 (1 : Int32))), .val (.int (own_fg p1 (2 : Int32))), .unset, .unset, .unset, .unset, .unset, .unset] [(.int (p1 &&& (4 : Int32)))])) _
      refine XS.ifYes X155.here hx rfl (pc0 := 49) (pc' := 56) rfl (hb hby at_49) rfl ((if0 _ _).trans (teq (hf4 : (p1 &&& (4 : Int32)) = (0 : Int32))).1) (by decide) (by decide) ?_
      show Steps p.tables e below (T155.setTop (mkF m 56 #[.val (.int p1), .val (.int p2), .val (.int p3), .val (.ref ob), .val (.ref bg), .val (.ref on), .val (.int (own_fg p1 (1 : Int32))), .val (.int (own_fg p1 (2 : Int32))), .unset, .unset, .unset, .unset, .unset, .unset] [])) _
      refine XS.iconst X155.here hx rfl (hb hby at_56) ?_
      exact kt
    · rw [show (own_fg p1 (4 : Int32)) = (1 : Int32) from if_neg hf4] at kt
      show Steps p.tables e below (T155.setTop (mkF m 49 #[.val (.int p1), .val (.int p2), .val (.int p3), .val (.ref ob), .val (.ref bg), .val (.ref on), .val (.int (own_fg p1 (1 : Int32))), .val (.int (own_fg p1 (2 : Int32))), .unset, .unset, .unset, .unset, .unset, .unset] [(.int (p1 &&& (4 : Int32)))])) _
      refine XS.ifNo X155.here hx rfl (hb hby at_49) rfl ((if0 _ _).trans (feq (hf4 : ¬ ((p1 &&& (4 : Int32)) = (0 : Int32)))).1) ?_
      show Steps p.tables e below (T155.setTop (mkF m 52 #[.val (.int p1), .val (.int p2), .val (.int p3), .val (.ref ob), .val (.ref bg), .val (.ref on), .val (.int (own_fg p1 (1 : Int32))), .val (.int (own_fg p1 (2 : Int32))), .unset, .unset, .unset, .unset, .unset, .unset] [])) _
      refine XS.iconst X155.here hx rfl (hb hby at_52) ?_
      show Steps p.tables e below (T155.setTop (mkF m 53 #[.val (.int p1), .val (.int p2), .val (.int p3), .val (.ref ob), .val (.ref bg), .val (.ref on), .val (.int (own_fg p1 (1 : Int32))), .val (.int (own_fg p1 (2 : Int32))), .unset, .unset, .unset, .unset, .unset, .unset] [(.int (1 : Int32))])) _
      refine XS.goto X155.here hx rfl (pc0 := 53) (pc' := 57) rfl (hb hby at_53) (by decide) (by decide) ?_
      exact kt
  clear R160
  have R162 : ∀ tg, Steps p.tables e below (T155.setTop (mkF m 63 #[.val (.int p1), .val (.int p2), .val (.int p3), .val (.ref ob), .val (.ref bg), .val (.ref on), .val (.int (own_fg p1 (1 : Int32))), .val (.int (own_fg p1 (2 : Int32))), .val (.int (own_fg p1 (4 : Int32))), .unset, .unset, .unset, .unset, .unset] [(.int (p1 &&& (8 : Int32)))])) tg → Steps p.tables e below (s₁.setTop (mkF m 0 #[.val (.int p1), .val (.int p2), .val (.int p3), .unset, .unset, .unset, .unset, .unset, .unset, .unset, .unset, .unset, .unset, .unset] [])) tg := by
    intro tg kt
    refine R161 _ ?_
    show Steps p.tables e below (T155.setTop (mkF m 57 #[.val (.int p1), .val (.int p2), .val (.int p3), .val (.ref ob), .val (.ref bg), .val (.ref on), .val (.int (own_fg p1 (1 : Int32))), .val (.int (own_fg p1 (2 : Int32))), .unset, .unset, .unset, .unset, .unset, .unset] [(.int (own_fg p1 (4 : Int32)))])) _
    refine XS.istore X155.here hx rfl (hb hby at_57) rfl (l' := #[.val (.int p1), .val (.int p2), .val (.int p3), .val (.ref ob), .val (.ref bg), .val (.ref on), .val (.int (own_fg p1 (1 : Int32))), .val (.int (own_fg p1 (2 : Int32))), .val (.int (own_fg p1 (4 : Int32))), .unset, .unset, .unset, .unset, .unset]) rfl ?_
    show Steps p.tables e below (T155.setTop (mkF m 59 #[.val (.int p1), .val (.int p2), .val (.int p3), .val (.ref ob), .val (.ref bg), .val (.ref on), .val (.int (own_fg p1 (1 : Int32))), .val (.int (own_fg p1 (2 : Int32))), .val (.int (own_fg p1 (4 : Int32))), .unset, .unset, .unset, .unset, .unset] [])) _
    refine XS.iloadN X155.here hx rfl (hb hby at_59) rfl ?_
    show Steps p.tables e below (T155.setTop (mkF m 60 #[.val (.int p1), .val (.int p2), .val (.int p3), .val (.ref ob), .val (.ref bg), .val (.ref on), .val (.int (own_fg p1 (1 : Int32))), .val (.int (own_fg p1 (2 : Int32))), .val (.int (own_fg p1 (4 : Int32))), .unset, .unset, .unset, .unset, .unset] [(.int p1)])) _
    refine XS.bipush X155.here hx rfl (hb hby at_60) ?_
    show Steps p.tables e below (T155.setTop (mkF m 62 #[.val (.int p1), .val (.int p2), .val (.int p3), .val (.ref ob), .val (.ref bg), .val (.ref on), .val (.int (own_fg p1 (1 : Int32))), .val (.int (own_fg p1 (2 : Int32))), .val (.int (own_fg p1 (4 : Int32))), .unset, .unset, .unset, .unset, .unset] [(.int (8 : Int32)), (.int p1)])) _
    refine XS.iand X155.here hx rfl (hb hby at_62) rfl ?_
    exact kt
  clear R161
  have R163 : ∀ tg, Steps p.tables e below (T155.setTop (mkF m 71 #[.val (.int p1), .val (.int p2), .val (.int p3), .val (.ref ob), .val (.ref bg), .val (.ref on), .val (.int (own_fg p1 (1 : Int32))), .val (.int (own_fg p1 (2 : Int32))), .val (.int (own_fg p1 (4 : Int32))), .unset, .unset, .unset, .unset, .unset] [(.int (own_fg p1 (8 : Int32)))])) tg → Steps p.tables e below (s₁.setTop (mkF m 0 #[.val (.int p1), .val (.int p2), .val (.int p3), .unset, .unset, .unset, .unset, .unset, .unset, .unset, .unset, .unset, .unset, .unset] [])) tg := by
    intro tg kt
    refine R162 _ ?_
    by_cases hf8 : (p1 &&& (8 : Int32)) = (0 : Int32)
    · rw [show (own_fg p1 (8 : Int32)) = (0 : Int32) from if_pos hf8] at kt
      show Steps p.tables e below (T155.setTop (mkF m 63 #[.val (.int p1), .val (.int p2), .val (.int p3), .val (.ref ob), .val (.ref bg), .val (.ref on), .val (.int (own_fg p1 (1 : Int32))), .val (.int (own_fg p1 (2 : Int32))), .val (.int (own_fg p1 (4 : Int32))), .unset, .unset, .unset, .unset, .unset] [(.int (p1 &&& (8 : Int32)))])) _
      refine XS.ifYes X155.here hx rfl (pc0 := 63) (pc' := 70) rfl (hb hby at_63) rfl ((if0 _ _).trans (teq (hf8 : (p1 &&& (8 : Int32)) = (0 : Int32))).1) (by decide) (by decide) ?_
      show Steps p.tables e below (T155.setTop (mkF m 70 #[.val (.int p1), .val (.int p2), .val (.int p3), .val (.ref ob), .val (.ref bg), .val (.ref on), .val (.int (own_fg p1 (1 : Int32))), .val (.int (own_fg p1 (2 : Int32))), .val (.int (own_fg p1 (4 : Int32))), .unset, .unset, .unset, .unset, .unset] [])) _
      refine XS.iconst X155.here hx rfl (hb hby at_70) ?_
      exact kt
    · rw [show (own_fg p1 (8 : Int32)) = (1 : Int32) from if_neg hf8] at kt
      show Steps p.tables e below (T155.setTop (mkF m 63 #[.val (.int p1), .val (.int p2), .val (.int p3), .val (.ref ob), .val (.ref bg), .val (.ref on), .val (.int (own_fg p1 (1 : Int32))), .val (.int (own_fg p1 (2 : Int32))), .val (.int (own_fg p1 (4 : Int32))), .unset, .unset, .unset, .unset, .unset] [(.int (p1 &&& (8 : Int32)))])) _
      refine XS.ifNo X155.here hx rfl (hb hby at_63) rfl ((if0 _ _).trans (feq (hf8 : ¬ ((p1 &&& (8 : Int32)) = (0 : Int32)))).1) ?_
      show Steps p.tables e below (T155.setTop (mkF m 66 #[.val (.int p1), .val (.int p2), .val (.int p3), .val (.ref ob), .val (.ref bg), .val (.ref on), .val (.int (own_fg p1 (1 : Int32))), .val (.int (own_fg p1 (2 : Int32))), .val (.int (own_fg p1 (4 : Int32))), .unset, .unset, .unset, .unset, .unset] [])) _
      refine XS.iconst X155.here hx rfl (hb hby at_66) ?_
      show Steps p.tables e below (T155.setTop (mkF m 67 #[.val (.int p1), .val (.int p2), .val (.int p3), .val (.ref ob), .val (.ref bg), .val (.ref on), .val (.int (own_fg p1 (1 : Int32))), .val (.int (own_fg p1 (2 : Int32))), .val (.int (own_fg p1 (4 : Int32))), .unset, .unset, .unset, .unset, .unset] [(.int (1 : Int32))])) _
      refine XS.goto X155.here hx rfl (pc0 := 67) (pc' := 71) rfl (hb hby at_67) (by decide) (by decide) ?_
      exact kt
  clear R162
  have g_ar : n0 ≤ ar := Nat.le_trans Zs148 szar
  have B0 : ∃ n : Nat, (0 : Int32).toInt = n ∧ n ≤ 0 := ⟨0, rfl, Nat.le_refl _⟩
  have B1 := own_ad_b (own_fg p1 (1 : Int32)) (0 : Int32) (16383 : Int32) 0 16383 B0 rfl (by decide)
  have B2 := own_ad_b (own_fg p1 (2 : Int32)) (own_ad (own_fg p1 (1 : Int32)) (0 : Int32) (16383 : Int32)) (1 : Int32) _ 1 B1 rfl (by decide)
  have B3 := own_ad_b (own_fg p1 (4 : Int32)) (own_ad (own_fg p1 (2 : Int32)) (own_ad (own_fg p1 (1 : Int32)) (0 : Int32) (16383 : Int32)) (1 : Int32)) (1 : Int32) _ 1 B2 rfl (by decide)
  have R164 : ∀ tg, Steps p.tables e below (T155.setTop (mkF m 75 #[.val (.int p1), .val (.int p2), .val (.int p3), .val (.ref ob), .val (.ref bg), .val (.ref on), .val (.int (own_fg p1 (1 : Int32))), .val (.int (own_fg p1 (2 : Int32))), .val (.int (own_fg p1 (4 : Int32))), .val (.int (own_fg p1 (8 : Int32))), .unset, .unset, .unset, .unset] [(.int (own_fg p1 (1 : Int32)))])) tg → Steps p.tables e below (s₁.setTop (mkF m 0 #[.val (.int p1), .val (.int p2), .val (.int p3), .unset, .unset, .unset, .unset, .unset, .unset, .unset, .unset, .unset, .unset, .unset] [])) tg := by
    intro tg kt
    refine R163 _ ?_
    show Steps p.tables e below (T155.setTop (mkF m 71 #[.val (.int p1), .val (.int p2), .val (.int p3), .val (.ref ob), .val (.ref bg), .val (.ref on), .val (.int (own_fg p1 (1 : Int32))), .val (.int (own_fg p1 (2 : Int32))), .val (.int (own_fg p1 (4 : Int32))), .unset, .unset, .unset, .unset, .unset] [(.int (own_fg p1 (8 : Int32)))])) _
    refine XS.istore X155.here hx rfl (hb hby at_71) rfl (l' := #[.val (.int p1), .val (.int p2), .val (.int p3), .val (.ref ob), .val (.ref bg), .val (.ref on), .val (.int (own_fg p1 (1 : Int32))), .val (.int (own_fg p1 (2 : Int32))), .val (.int (own_fg p1 (4 : Int32))), .val (.int (own_fg p1 (8 : Int32))), .unset, .unset, .unset, .unset]) rfl ?_
    show Steps p.tables e below (T155.setTop (mkF m 73 #[.val (.int p1), .val (.int p2), .val (.int p3), .val (.ref ob), .val (.ref bg), .val (.ref on), .val (.int (own_fg p1 (1 : Int32))), .val (.int (own_fg p1 (2 : Int32))), .val (.int (own_fg p1 (4 : Int32))), .val (.int (own_fg p1 (8 : Int32))), .unset, .unset, .unset, .unset] [])) _
    refine XS.iload X155.here hx rfl (hb hby at_73) rfl ?_
    exact kt
  clear R163
  obtain ⟨T165, h165, L165, X165, e165, N165, Zj165, Ej165, Fbj165, Fnj165, VBj165, VGj165, VOj165, st165⟩ : ∃ (T' : State) (h' : Heap) (L' : List Loc), Stand p l e room_1 s m #[(.int p1), (.int p2), (.int p3)] below meth c T' L' 4 32770 ∧ T'.heap = h' ∧ Fr n0 L' ∧ n0 ≤ h'.size ∧ Exa Z h' ob "com/example/travessia/travessia/core/Bytes" ∧ Fld Z h' ob "com/example/travessia/travessia/core/Bytes" "bytes" "[B" (.ref ar) ∧ Fld Z h' ob "com/example/travessia/travessia/core/Bytes" "length" "I" (.int (own_ad (own_fg p1 (1 : Int32)) (0 : Int32) (16383 : Int32))) ∧ AN Z h' ar 16384 ∧ AN Z h' bg 16383 ∧ AN Z h' on 1 ∧ ∀ tg, Steps p.tables e below (T'.setTop (mkF m 84 #[.val (.int p1), .val (.int p2), .val (.int p3), .val (.ref ob), .val (.ref bg), .val (.ref on), .val (.int (own_fg p1 (1 : Int32))), .val (.int (own_fg p1 (2 : Int32))), .val (.int (own_fg p1 (4 : Int32))), .val (.int (own_fg p1 (8 : Int32))), .unset, .unset, .unset, .unset] [])) tg → Steps p.tables e below (T155.setTop (mkF m 75 #[.val (.int p1), .val (.int p2), .val (.int p3), .val (.ref ob), .val (.ref bg), .val (.ref on), .val (.int (own_fg p1 (1 : Int32))), .val (.int (own_fg p1 (2 : Int32))), .val (.int (own_fg p1 (4 : Int32))), .val (.int (own_fg p1 (8 : Int32))), .unset, .unset, .unset, .unset] [(.int (own_fg p1 (1 : Int32)))])) tg := by
    by_cases hj1 : (own_fg p1 (1 : Int32)) = (0 : Int32)
    · have R166 : ∀ tg, Steps p.tables e below (T155.setTop (mkF m 84 #[.val (.int p1), .val (.int p2), .val (.int p3), .val (.ref ob), .val (.ref bg), .val (.ref on), .val (.int (own_fg p1 (1 : Int32))), .val (.int (own_fg p1 (2 : Int32))), .val (.int (own_fg p1 (4 : Int32))), .val (.int (own_fg p1 (8 : Int32))), .unset, .unset, .unset, .unset] [])) tg → Steps p.tables e below (T155.setTop (mkF m 75 #[.val (.int p1), .val (.int p2), .val (.int p3), .val (.ref ob), .val (.ref bg), .val (.ref on), .val (.int (own_fg p1 (1 : Int32))), .val (.int (own_fg p1 (2 : Int32))), .val (.int (own_fg p1 (4 : Int32))), .val (.int (own_fg p1 (8 : Int32))), .unset, .unset, .unset, .unset] [(.int (own_fg p1 (1 : Int32)))])) tg := by
        intro tg kt
        refine (fun (t : State) (k : Steps p.tables e below (T155.setTop (mkF m 75 #[.val (.int p1), .val (.int p2), .val (.int p3), .val (.ref ob), .val (.ref bg), .val (.ref on), .val (.int (own_fg p1 (1 : Int32))), .val (.int (own_fg p1 (2 : Int32))), .val (.int (own_fg p1 (4 : Int32))), .val (.int (own_fg p1 (8 : Int32))), .unset, .unset, .unset, .unset] [(.int (own_fg p1 (1 : Int32)))])) t) => k) _ ?_
        show Steps p.tables e below (T155.setTop (mkF m 75 #[.val (.int p1), .val (.int p2), .val (.int p3), .val (.ref ob), .val (.ref bg), .val (.ref on), .val (.int (own_fg p1 (1 : Int32))), .val (.int (own_fg p1 (2 : Int32))), .val (.int (own_fg p1 (4 : Int32))), .val (.int (own_fg p1 (8 : Int32))), .unset, .unset, .unset, .unset] [(.int (own_fg p1 (1 : Int32)))])) _
        refine XS.ifYes X155.here hx rfl (pc0 := 75) (pc' := 84) rfl (hb hby at_75) rfl ((if0 _ _).trans (teq (hj1 : (own_fg p1 (1 : Int32)) = (0 : Int32))).1) (by decide) (by decide) ?_
        exact kt
      exact ⟨_, _, _, X155.more (by decide) (by decide), e155, N150, Zs155, E_ob_155, Fb_155, (by rw [own_ad, if_pos hj1]; exact Fn_155), VB_155, VG_155, VO, R166⟩
    · have R167 : ∀ tg, Steps p.tables e below (T155.setTop (mkF m 81 #[.val (.int p1), .val (.int p2), .val (.int p3), .val (.ref ob), .val (.ref bg), .val (.ref on), .val (.int (own_fg p1 (1 : Int32))), .val (.int (own_fg p1 (2 : Int32))), .val (.int (own_fg p1 (4 : Int32))), .val (.int (own_fg p1 (8 : Int32))), .unset, .unset, .unset, .unset] [(.ref bg), (.ref ob)])) tg → Steps p.tables e below (T155.setTop (mkF m 75 #[.val (.int p1), .val (.int p2), .val (.int p3), .val (.ref ob), .val (.ref bg), .val (.ref on), .val (.int (own_fg p1 (1 : Int32))), .val (.int (own_fg p1 (2 : Int32))), .val (.int (own_fg p1 (4 : Int32))), .val (.int (own_fg p1 (8 : Int32))), .unset, .unset, .unset, .unset] [(.int (own_fg p1 (1 : Int32)))])) tg := by
        intro tg kt
        refine (fun (t : State) (k : Steps p.tables e below (T155.setTop (mkF m 75 #[.val (.int p1), .val (.int p2), .val (.int p3), .val (.ref ob), .val (.ref bg), .val (.ref on), .val (.int (own_fg p1 (1 : Int32))), .val (.int (own_fg p1 (2 : Int32))), .val (.int (own_fg p1 (4 : Int32))), .val (.int (own_fg p1 (8 : Int32))), .unset, .unset, .unset, .unset] [(.int (own_fg p1 (1 : Int32)))])) t) => k) _ ?_
        show Steps p.tables e below (T155.setTop (mkF m 75 #[.val (.int p1), .val (.int p2), .val (.int p3), .val (.ref ob), .val (.ref bg), .val (.ref on), .val (.int (own_fg p1 (1 : Int32))), .val (.int (own_fg p1 (2 : Int32))), .val (.int (own_fg p1 (4 : Int32))), .val (.int (own_fg p1 (8 : Int32))), .unset, .unset, .unset, .unset] [(.int (own_fg p1 (1 : Int32)))])) _
        refine XS.ifNo X155.here hx rfl (hb hby at_75) rfl ((if0 _ _).trans (feq (hj1 : ¬ ((own_fg p1 (1 : Int32)) = (0 : Int32)))).1) ?_
        show Steps p.tables e below (T155.setTop (mkF m 78 #[.val (.int p1), .val (.int p2), .val (.int p3), .val (.ref ob), .val (.ref bg), .val (.ref on), .val (.int (own_fg p1 (1 : Int32))), .val (.int (own_fg p1 (2 : Int32))), .val (.int (own_fg p1 (4 : Int32))), .val (.int (own_fg p1 (8 : Int32))), .unset, .unset, .unset, .unset] [])) _
        refine XS.aloadN X155.here hx rfl (hb hby at_78) rfl rfl ?_
        show Steps p.tables e below (T155.setTop (mkF m 79 #[.val (.int p1), .val (.int p2), .val (.int p3), .val (.ref ob), .val (.ref bg), .val (.ref on), .val (.int (own_fg p1 (1 : Int32))), .val (.int (own_fg p1 (2 : Int32))), .val (.int (own_fg p1 (4 : Int32))), .val (.int (own_fg p1 (8 : Int32))), .unset, .unset, .unset, .unset] [(.ref ob)])) _
        refine XS.aload X155.here hx rfl (hb hby at_79) rfl rfl ?_
        exact kt
      obtain ⟨cq168, kq168, q168a, q168b, q168c⟩ := isOf hZ e155 E_ob_155
      obtain ⟨_, _, ⟨T168, L168, k168, n168⟩, -, X168, ⟨Lc168, hQ168, l168, y168, z168⟩, st168⟩ := X155.virtualBack hx (y := (⟨"com/example/travessia/travessia/core/Bytes", "add", "([B)V"⟩ : MethodName)) (z := (⟨"com/example/travessia/travessia/core/Bytes", "add", "([B)V"⟩ : MethodName)) hown (mvT hZ (hw _ (List.mem_of_getElem? (i := 28) rfl))) (mvT hZ (hw _ (List.mem_of_getElem? (i := 29) rfl))) (notFace_of_selects (args := #[]) (mvT hZ (hw _ (List.mem_of_getElem? (i := 31) rfl)))) (mvT hZ (hw _ (List.mem_of_getElem? (i := 31) rfl))) (mvT hZ (hw _ (List.mem_of_getElem? (i := 30) rfl))) (by decide) (backOf (W := 0) (rm_addBig l Z a0 hw [] ob bg (0 : Int32) ar 16384 0 h155 n0 Zs155 E_ob_155 Fb_155 Fn_155 VB_155 g_ob ne_ob_ar g_ar rfl VG_155 (Ne.symm ne_ar_bg) (Ne.symm ne_ob_bg) rfl (by decide)) hZ (hw _ (List.mem_of_getElem? (i := 32) rfl)) (hw _ (List.mem_of_getElem? (i := 2) rfl)) (by decide) (by decide)) q168a q168c (g := (mkF m 81 #[.val (.int p1), .val (.int p2), .val (.int p3), .val (.ref ob), .val (.ref bg), .val (.ref on), .val (.int (own_fg p1 (1 : Int32))), .val (.int (own_fg p1 (2 : Int32))), .val (.int (own_fg p1 (4 : Int32))), .val (.int (own_fg p1 (8 : Int32))), .unset, .unset, .unset, .unset] [(.ref bg), (.ref ob)])) rfl (by rw [hml]; rfl) (Steps.refl _) (argsL := [(.ref bg)]) (rest := []) (lenOf pd_4 rfl) rfl (by show 2 * 0 + _ ≤ _; exact Nat.le_of_eq rfl) (hb hby at_81) (fun _ _ => ⟨rfl, e155, (by decide : 4 + 0 ≤ _), (by decide : 32770 + 0 ≤ _)⟩)
      dsimp only [Pt.U, Pt.locs, Pt.cells, Pt.slots] at X168 l168 y168 z168 st168 hQ168
      rw [l168, y168, z168] at X168
      obtain ⟨rfl, N168q, K168, Ea168, Fba168, Fna168, VBa168⟩ := hQ168
      have N168 := Fr.app N150 N168q
      have VG_169 := VG_155.keep K168 (own_notin2 (Ne.symm ne_ob_bg) (Ne.symm ne_ar_bg))
      have VO_169 := VO.keep K168 (own_notin2 (Ne.symm ne_ob_on) (Ne.symm ne_ar_on))
      clear VG_155
      have Zs169 : n0 ≤ T168.heap.size := Nat.le_trans Zs155 K168.1
      have R170 : ∀ tg, Steps p.tables e below (T168.setTop (mkF m 84 #[.val (.int p1), .val (.int p2), .val (.int p3), .val (.ref ob), .val (.ref bg), .val (.ref on), .val (.int (own_fg p1 (1 : Int32))), .val (.int (own_fg p1 (2 : Int32))), .val (.int (own_fg p1 (4 : Int32))), .val (.int (own_fg p1 (8 : Int32))), .unset, .unset, .unset, .unset] [])) tg → Steps p.tables e below (T155.setTop (mkF m 75 #[.val (.int p1), .val (.int p2), .val (.int p3), .val (.ref ob), .val (.ref bg), .val (.ref on), .val (.int (own_fg p1 (1 : Int32))), .val (.int (own_fg p1 (2 : Int32))), .val (.int (own_fg p1 (4 : Int32))), .val (.int (own_fg p1 (8 : Int32))), .unset, .unset, .unset, .unset] [(.int (own_fg p1 (1 : Int32)))])) tg := by
        intro tg kt
        refine R167 _ ?_
        refine st168.trans ?_
        exact kt
      clear R167 st168
      exact ⟨_, _, _, X168.more (by decide) (by decide), rfl, N168, Zs169, Ea168, Fba168, (by rw [own_ad, if_neg hj1]; exact Fna168), VBa168, VG_169, VO_169, R170⟩
  obtain ⟨n1, e1, q1⟩ := B1
  have R171 : ∀ tg, Steps p.tables e below (T165.setTop (mkF m 86 #[.val (.int p1), .val (.int p2), .val (.int p3), .val (.ref ob), .val (.ref bg), .val (.ref on), .val (.int (own_fg p1 (1 : Int32))), .val (.int (own_fg p1 (2 : Int32))), .val (.int (own_fg p1 (4 : Int32))), .val (.int (own_fg p1 (8 : Int32))), .unset, .unset, .unset, .unset] [(.int (own_fg p1 (2 : Int32)))])) tg → Steps p.tables e below (s₁.setTop (mkF m 0 #[.val (.int p1), .val (.int p2), .val (.int p3), .unset, .unset, .unset, .unset, .unset, .unset, .unset, .unset, .unset, .unset, .unset] [])) tg := by
    intro tg kt
    refine R164 _ ?_
    refine st165 _ ?_
    show Steps p.tables e below (T165.setTop (mkF m 84 #[.val (.int p1), .val (.int p2), .val (.int p3), .val (.ref ob), .val (.ref bg), .val (.ref on), .val (.int (own_fg p1 (1 : Int32))), .val (.int (own_fg p1 (2 : Int32))), .val (.int (own_fg p1 (4 : Int32))), .val (.int (own_fg p1 (8 : Int32))), .unset, .unset, .unset, .unset] [])) _
    refine XS.iload X165.here hx rfl (hb hby at_84) rfl ?_
    exact kt
  clear R164 st165
  obtain ⟨T172, h172, L172, X172, e172, N172, Zj172, Ej172, Fbj172, Fnj172, VBj172, VGj172, VOj172, st172⟩ : ∃ (T' : State) (h' : Heap) (L' : List Loc), Stand p l e room_1 s m #[(.int p1), (.int p2), (.int p3)] below meth c T' L' 4 32770 ∧ T'.heap = h' ∧ Fr n0 L' ∧ n0 ≤ h'.size ∧ Exa Z h' ob "com/example/travessia/travessia/core/Bytes" ∧ Fld Z h' ob "com/example/travessia/travessia/core/Bytes" "bytes" "[B" (.ref ar) ∧ Fld Z h' ob "com/example/travessia/travessia/core/Bytes" "length" "I" (.int (own_ad (own_fg p1 (2 : Int32)) (own_ad (own_fg p1 (1 : Int32)) (0 : Int32) (16383 : Int32)) (1 : Int32))) ∧ AN Z h' ar 16384 ∧ AN Z h' bg 16383 ∧ AN Z h' on 1 ∧ ∀ tg, Steps p.tables e below (T'.setTop (mkF m 95 #[.val (.int p1), .val (.int p2), .val (.int p3), .val (.ref ob), .val (.ref bg), .val (.ref on), .val (.int (own_fg p1 (1 : Int32))), .val (.int (own_fg p1 (2 : Int32))), .val (.int (own_fg p1 (4 : Int32))), .val (.int (own_fg p1 (8 : Int32))), .unset, .unset, .unset, .unset] [])) tg → Steps p.tables e below (T165.setTop (mkF m 86 #[.val (.int p1), .val (.int p2), .val (.int p3), .val (.ref ob), .val (.ref bg), .val (.ref on), .val (.int (own_fg p1 (1 : Int32))), .val (.int (own_fg p1 (2 : Int32))), .val (.int (own_fg p1 (4 : Int32))), .val (.int (own_fg p1 (8 : Int32))), .unset, .unset, .unset, .unset] [(.int (own_fg p1 (2 : Int32)))])) tg := by
    by_cases hj2 : (own_fg p1 (2 : Int32)) = (0 : Int32)
    · have R173 : ∀ tg, Steps p.tables e below (T165.setTop (mkF m 95 #[.val (.int p1), .val (.int p2), .val (.int p3), .val (.ref ob), .val (.ref bg), .val (.ref on), .val (.int (own_fg p1 (1 : Int32))), .val (.int (own_fg p1 (2 : Int32))), .val (.int (own_fg p1 (4 : Int32))), .val (.int (own_fg p1 (8 : Int32))), .unset, .unset, .unset, .unset] [])) tg → Steps p.tables e below (T165.setTop (mkF m 86 #[.val (.int p1), .val (.int p2), .val (.int p3), .val (.ref ob), .val (.ref bg), .val (.ref on), .val (.int (own_fg p1 (1 : Int32))), .val (.int (own_fg p1 (2 : Int32))), .val (.int (own_fg p1 (4 : Int32))), .val (.int (own_fg p1 (8 : Int32))), .unset, .unset, .unset, .unset] [(.int (own_fg p1 (2 : Int32)))])) tg := by
        intro tg kt
        refine (fun (t : State) (k : Steps p.tables e below (T165.setTop (mkF m 86 #[.val (.int p1), .val (.int p2), .val (.int p3), .val (.ref ob), .val (.ref bg), .val (.ref on), .val (.int (own_fg p1 (1 : Int32))), .val (.int (own_fg p1 (2 : Int32))), .val (.int (own_fg p1 (4 : Int32))), .val (.int (own_fg p1 (8 : Int32))), .unset, .unset, .unset, .unset] [(.int (own_fg p1 (2 : Int32)))])) t) => k) _ ?_
        show Steps p.tables e below (T165.setTop (mkF m 86 #[.val (.int p1), .val (.int p2), .val (.int p3), .val (.ref ob), .val (.ref bg), .val (.ref on), .val (.int (own_fg p1 (1 : Int32))), .val (.int (own_fg p1 (2 : Int32))), .val (.int (own_fg p1 (4 : Int32))), .val (.int (own_fg p1 (8 : Int32))), .unset, .unset, .unset, .unset] [(.int (own_fg p1 (2 : Int32)))])) _
        refine XS.ifYes X165.here hx rfl (pc0 := 86) (pc' := 95) rfl (hb hby at_86) rfl ((if0 _ _).trans (teq (hj2 : (own_fg p1 (2 : Int32)) = (0 : Int32))).1) (by decide) (by decide) ?_
        exact kt
      exact ⟨_, _, _, X165.more (by decide) (by decide), e165, N165, Zj165, Ej165, Fbj165, (by rw [own_ad, if_pos hj2]; exact Fnj165), VBj165, VGj165, VOj165, R173⟩
    · have R174 : ∀ tg, Steps p.tables e below (T165.setTop (mkF m 92 #[.val (.int p1), .val (.int p2), .val (.int p3), .val (.ref ob), .val (.ref bg), .val (.ref on), .val (.int (own_fg p1 (1 : Int32))), .val (.int (own_fg p1 (2 : Int32))), .val (.int (own_fg p1 (4 : Int32))), .val (.int (own_fg p1 (8 : Int32))), .unset, .unset, .unset, .unset] [(.ref on), (.ref ob)])) tg → Steps p.tables e below (T165.setTop (mkF m 86 #[.val (.int p1), .val (.int p2), .val (.int p3), .val (.ref ob), .val (.ref bg), .val (.ref on), .val (.int (own_fg p1 (1 : Int32))), .val (.int (own_fg p1 (2 : Int32))), .val (.int (own_fg p1 (4 : Int32))), .val (.int (own_fg p1 (8 : Int32))), .unset, .unset, .unset, .unset] [(.int (own_fg p1 (2 : Int32)))])) tg := by
        intro tg kt
        refine (fun (t : State) (k : Steps p.tables e below (T165.setTop (mkF m 86 #[.val (.int p1), .val (.int p2), .val (.int p3), .val (.ref ob), .val (.ref bg), .val (.ref on), .val (.int (own_fg p1 (1 : Int32))), .val (.int (own_fg p1 (2 : Int32))), .val (.int (own_fg p1 (4 : Int32))), .val (.int (own_fg p1 (8 : Int32))), .unset, .unset, .unset, .unset] [(.int (own_fg p1 (2 : Int32)))])) t) => k) _ ?_
        show Steps p.tables e below (T165.setTop (mkF m 86 #[.val (.int p1), .val (.int p2), .val (.int p3), .val (.ref ob), .val (.ref bg), .val (.ref on), .val (.int (own_fg p1 (1 : Int32))), .val (.int (own_fg p1 (2 : Int32))), .val (.int (own_fg p1 (4 : Int32))), .val (.int (own_fg p1 (8 : Int32))), .unset, .unset, .unset, .unset] [(.int (own_fg p1 (2 : Int32)))])) _
        refine XS.ifNo X165.here hx rfl (hb hby at_86) rfl ((if0 _ _).trans (feq (hj2 : ¬ ((own_fg p1 (2 : Int32)) = (0 : Int32)))).1) ?_
        show Steps p.tables e below (T165.setTop (mkF m 89 #[.val (.int p1), .val (.int p2), .val (.int p3), .val (.ref ob), .val (.ref bg), .val (.ref on), .val (.int (own_fg p1 (1 : Int32))), .val (.int (own_fg p1 (2 : Int32))), .val (.int (own_fg p1 (4 : Int32))), .val (.int (own_fg p1 (8 : Int32))), .unset, .unset, .unset, .unset] [])) _
        refine XS.aloadN X165.here hx rfl (hb hby at_89) rfl rfl ?_
        show Steps p.tables e below (T165.setTop (mkF m 90 #[.val (.int p1), .val (.int p2), .val (.int p3), .val (.ref ob), .val (.ref bg), .val (.ref on), .val (.int (own_fg p1 (1 : Int32))), .val (.int (own_fg p1 (2 : Int32))), .val (.int (own_fg p1 (4 : Int32))), .val (.int (own_fg p1 (8 : Int32))), .unset, .unset, .unset, .unset] [(.ref ob)])) _
        refine XS.aload X165.here hx rfl (hb hby at_90) rfl rfl ?_
        exact kt
      obtain ⟨cq175, kq175, q175a, q175b, q175c⟩ := isOf hZ e165 Ej165
      obtain ⟨_, _, ⟨T175, L175, k175, n175⟩, -, X175, ⟨Lc175, hQ175, l175, y175, z175⟩, st175⟩ := X165.virtualBack hx (y := (⟨"com/example/travessia/travessia/core/Bytes", "add", "([B)V"⟩ : MethodName)) (z := (⟨"com/example/travessia/travessia/core/Bytes", "add", "([B)V"⟩ : MethodName)) hown (mvT hZ (hw _ (List.mem_of_getElem? (i := 28) rfl))) (mvT hZ (hw _ (List.mem_of_getElem? (i := 29) rfl))) (notFace_of_selects (args := #[]) (mvT hZ (hw _ (List.mem_of_getElem? (i := 31) rfl)))) (mvT hZ (hw _ (List.mem_of_getElem? (i := 31) rfl))) (mvT hZ (hw _ (List.mem_of_getElem? (i := 30) rfl))) (by decide) (backOf (W := 0) (rm_addOne l Z a0 hw [] ob on (own_ad (own_fg p1 (1 : Int32)) (0 : Int32) (16383 : Int32)) ar 16384 n1 h165 n0 Zj165 Ej165 Fbj165 Fnj165 VBj165 g_ob ne_ob_ar g_ar e1 VOj165 (Ne.symm ne_ar_on) (Ne.symm ne_ob_on) rfl (own_b1 q1 (by decide))) hZ (hw _ (List.mem_of_getElem? (i := 32) rfl)) (hw _ (List.mem_of_getElem? (i := 2) rfl)) (by decide) (by decide)) q175a q175c (g := (mkF m 92 #[.val (.int p1), .val (.int p2), .val (.int p3), .val (.ref ob), .val (.ref bg), .val (.ref on), .val (.int (own_fg p1 (1 : Int32))), .val (.int (own_fg p1 (2 : Int32))), .val (.int (own_fg p1 (4 : Int32))), .val (.int (own_fg p1 (8 : Int32))), .unset, .unset, .unset, .unset] [(.ref on), (.ref ob)])) rfl (by rw [hml]; rfl) (Steps.refl _) (argsL := [(.ref on)]) (rest := []) (lenOf pd_4 rfl) rfl (by show 2 * 0 + _ ≤ _; exact Nat.le_of_eq rfl) (hb hby at_92) (fun _ _ => ⟨rfl, e165, (by decide : 4 + 0 ≤ _), (by decide : 32770 + 0 ≤ _)⟩)
      dsimp only [Pt.U, Pt.locs, Pt.cells, Pt.slots] at X175 l175 y175 z175 st175 hQ175
      rw [l175, y175, z175] at X175
      obtain ⟨rfl, N175q, K175, Ea175, Fba175, Fna175, VBa175⟩ := hQ175
      have N175 := Fr.app N165 N175q
      have VG_176 := VGj165.keep K175 (own_notin2 (Ne.symm ne_ob_bg) (Ne.symm ne_ar_bg))
      have VO_176 := VOj165.keep K175 (own_notin2 (Ne.symm ne_ob_on) (Ne.symm ne_ar_on))
      have Zs176 : n0 ≤ T175.heap.size := Nat.le_trans Zj165 K175.1
      have R177 : ∀ tg, Steps p.tables e below (T175.setTop (mkF m 95 #[.val (.int p1), .val (.int p2), .val (.int p3), .val (.ref ob), .val (.ref bg), .val (.ref on), .val (.int (own_fg p1 (1 : Int32))), .val (.int (own_fg p1 (2 : Int32))), .val (.int (own_fg p1 (4 : Int32))), .val (.int (own_fg p1 (8 : Int32))), .unset, .unset, .unset, .unset] [])) tg → Steps p.tables e below (T165.setTop (mkF m 86 #[.val (.int p1), .val (.int p2), .val (.int p3), .val (.ref ob), .val (.ref bg), .val (.ref on), .val (.int (own_fg p1 (1 : Int32))), .val (.int (own_fg p1 (2 : Int32))), .val (.int (own_fg p1 (4 : Int32))), .val (.int (own_fg p1 (8 : Int32))), .unset, .unset, .unset, .unset] [(.int (own_fg p1 (2 : Int32)))])) tg := by
        intro tg kt
        refine R174 _ ?_
        refine st175.trans ?_
        exact kt
      clear R174 st175
      exact ⟨_, _, _, X175.more (by decide) (by decide), rfl, N175, Zs176, Ea175, Fba175, (by rw [own_ad, if_neg hj2]; exact Fna175), VBa175, VG_176, VO_176, R177⟩
  obtain ⟨n2, e2, q2⟩ := B2
  have R178 : ∀ tg, Steps p.tables e below (T172.setTop (mkF m 97 #[.val (.int p1), .val (.int p2), .val (.int p3), .val (.ref ob), .val (.ref bg), .val (.ref on), .val (.int (own_fg p1 (1 : Int32))), .val (.int (own_fg p1 (2 : Int32))), .val (.int (own_fg p1 (4 : Int32))), .val (.int (own_fg p1 (8 : Int32))), .unset, .unset, .unset, .unset] [(.int (own_fg p1 (4 : Int32)))])) tg → Steps p.tables e below (s₁.setTop (mkF m 0 #[.val (.int p1), .val (.int p2), .val (.int p3), .unset, .unset, .unset, .unset, .unset, .unset, .unset, .unset, .unset, .unset, .unset] [])) tg := by
    intro tg kt
    refine R171 _ ?_
    refine st172 _ ?_
    show Steps p.tables e below (T172.setTop (mkF m 95 #[.val (.int p1), .val (.int p2), .val (.int p3), .val (.ref ob), .val (.ref bg), .val (.ref on), .val (.int (own_fg p1 (1 : Int32))), .val (.int (own_fg p1 (2 : Int32))), .val (.int (own_fg p1 (4 : Int32))), .val (.int (own_fg p1 (8 : Int32))), .unset, .unset, .unset, .unset] [])) _
    refine XS.iload X172.here hx rfl (hb hby at_95) rfl ?_
    exact kt
  clear R171 st172
  obtain ⟨T179, h179, L179, t2, cap2, X179, e179, N179, gt2, nt2, hc2, Zj179, Ej179, Fbj179, Fnj179, VBj179, st179⟩ : ∃ (T' : State) (h' : Heap) (L' : List Loc) (t2 : Addr) (cap2 : Nat), Stand p l e room_1 s m #[(.int p1), (.int p2), (.int p3)] below meth c T' L' 5 65538 ∧ T'.heap = h' ∧ Fr n0 L' ∧ n0 ≤ t2 ∧ ob ≠ t2 ∧ (cap2 = 16384 ∨ cap2 = 32768) ∧ n0 ≤ h'.size ∧ Exa Z h' ob "com/example/travessia/travessia/core/Bytes" ∧ Fld Z h' ob "com/example/travessia/travessia/core/Bytes" "bytes" "[B" (.ref t2) ∧ Fld Z h' ob "com/example/travessia/travessia/core/Bytes" "length" "I" (.int (own_ad (own_fg p1 (4 : Int32)) (own_ad (own_fg p1 (2 : Int32)) (own_ad (own_fg p1 (1 : Int32)) (0 : Int32) (16383 : Int32)) (1 : Int32)) (1 : Int32))) ∧ AN Z h' t2 cap2 ∧ ∀ tg, Steps p.tables e below (T'.setTop (mkF m 106 #[.val (.int p1), .val (.int p2), .val (.int p3), .val (.ref ob), .val (.ref bg), .val (.ref on), .val (.int (own_fg p1 (1 : Int32))), .val (.int (own_fg p1 (2 : Int32))), .val (.int (own_fg p1 (4 : Int32))), .val (.int (own_fg p1 (8 : Int32))), .unset, .unset, .unset, .unset] [])) tg → Steps p.tables e below (T172.setTop (mkF m 97 #[.val (.int p1), .val (.int p2), .val (.int p3), .val (.ref ob), .val (.ref bg), .val (.ref on), .val (.int (own_fg p1 (1 : Int32))), .val (.int (own_fg p1 (2 : Int32))), .val (.int (own_fg p1 (4 : Int32))), .val (.int (own_fg p1 (8 : Int32))), .unset, .unset, .unset, .unset] [(.int (own_fg p1 (4 : Int32)))])) tg := by
    by_cases hj3 : (own_fg p1 (4 : Int32)) = (0 : Int32)
    · have R180 : ∀ tg, Steps p.tables e below (T172.setTop (mkF m 106 #[.val (.int p1), .val (.int p2), .val (.int p3), .val (.ref ob), .val (.ref bg), .val (.ref on), .val (.int (own_fg p1 (1 : Int32))), .val (.int (own_fg p1 (2 : Int32))), .val (.int (own_fg p1 (4 : Int32))), .val (.int (own_fg p1 (8 : Int32))), .unset, .unset, .unset, .unset] [])) tg → Steps p.tables e below (T172.setTop (mkF m 97 #[.val (.int p1), .val (.int p2), .val (.int p3), .val (.ref ob), .val (.ref bg), .val (.ref on), .val (.int (own_fg p1 (1 : Int32))), .val (.int (own_fg p1 (2 : Int32))), .val (.int (own_fg p1 (4 : Int32))), .val (.int (own_fg p1 (8 : Int32))), .unset, .unset, .unset, .unset] [(.int (own_fg p1 (4 : Int32)))])) tg := by
        intro tg kt
        refine (fun (t : State) (k : Steps p.tables e below (T172.setTop (mkF m 97 #[.val (.int p1), .val (.int p2), .val (.int p3), .val (.ref ob), .val (.ref bg), .val (.ref on), .val (.int (own_fg p1 (1 : Int32))), .val (.int (own_fg p1 (2 : Int32))), .val (.int (own_fg p1 (4 : Int32))), .val (.int (own_fg p1 (8 : Int32))), .unset, .unset, .unset, .unset] [(.int (own_fg p1 (4 : Int32)))])) t) => k) _ ?_
        show Steps p.tables e below (T172.setTop (mkF m 97 #[.val (.int p1), .val (.int p2), .val (.int p3), .val (.ref ob), .val (.ref bg), .val (.ref on), .val (.int (own_fg p1 (1 : Int32))), .val (.int (own_fg p1 (2 : Int32))), .val (.int (own_fg p1 (4 : Int32))), .val (.int (own_fg p1 (8 : Int32))), .unset, .unset, .unset, .unset] [(.int (own_fg p1 (4 : Int32)))])) _
        refine XS.ifYes X172.here hx rfl (pc0 := 97) (pc' := 106) rfl (hb hby at_97) rfl ((if0 _ _).trans (teq (hj3 : (own_fg p1 (4 : Int32)) = (0 : Int32))).1) (by decide) (by decide) ?_
        exact kt
      exact ⟨_, _, _, ar, 16384, X172.more (by decide) (by decide), e172, N172, g_ar, ne_ob_ar, Or.inl rfl, Zj172, Ej172, Fbj172, (by rw [own_ad, if_pos hj3]; exact Fnj172), VBj172, R180⟩
    · have R181 : ∀ tg, Steps p.tables e below (T172.setTop (mkF m 103 #[.val (.int p1), .val (.int p2), .val (.int p3), .val (.ref ob), .val (.ref bg), .val (.ref on), .val (.int (own_fg p1 (1 : Int32))), .val (.int (own_fg p1 (2 : Int32))), .val (.int (own_fg p1 (4 : Int32))), .val (.int (own_fg p1 (8 : Int32))), .unset, .unset, .unset, .unset] [(.ref on), (.ref ob)])) tg → Steps p.tables e below (T172.setTop (mkF m 97 #[.val (.int p1), .val (.int p2), .val (.int p3), .val (.ref ob), .val (.ref bg), .val (.ref on), .val (.int (own_fg p1 (1 : Int32))), .val (.int (own_fg p1 (2 : Int32))), .val (.int (own_fg p1 (4 : Int32))), .val (.int (own_fg p1 (8 : Int32))), .unset, .unset, .unset, .unset] [(.int (own_fg p1 (4 : Int32)))])) tg := by
        intro tg kt
        refine (fun (t : State) (k : Steps p.tables e below (T172.setTop (mkF m 97 #[.val (.int p1), .val (.int p2), .val (.int p3), .val (.ref ob), .val (.ref bg), .val (.ref on), .val (.int (own_fg p1 (1 : Int32))), .val (.int (own_fg p1 (2 : Int32))), .val (.int (own_fg p1 (4 : Int32))), .val (.int (own_fg p1 (8 : Int32))), .unset, .unset, .unset, .unset] [(.int (own_fg p1 (4 : Int32)))])) t) => k) _ ?_
        show Steps p.tables e below (T172.setTop (mkF m 97 #[.val (.int p1), .val (.int p2), .val (.int p3), .val (.ref ob), .val (.ref bg), .val (.ref on), .val (.int (own_fg p1 (1 : Int32))), .val (.int (own_fg p1 (2 : Int32))), .val (.int (own_fg p1 (4 : Int32))), .val (.int (own_fg p1 (8 : Int32))), .unset, .unset, .unset, .unset] [(.int (own_fg p1 (4 : Int32)))])) _
        refine XS.ifNo X172.here hx rfl (hb hby at_97) rfl ((if0 _ _).trans (feq (hj3 : ¬ ((own_fg p1 (4 : Int32)) = (0 : Int32)))).1) ?_
        show Steps p.tables e below (T172.setTop (mkF m 100 #[.val (.int p1), .val (.int p2), .val (.int p3), .val (.ref ob), .val (.ref bg), .val (.ref on), .val (.int (own_fg p1 (1 : Int32))), .val (.int (own_fg p1 (2 : Int32))), .val (.int (own_fg p1 (4 : Int32))), .val (.int (own_fg p1 (8 : Int32))), .unset, .unset, .unset, .unset] [])) _
        refine XS.aloadN X172.here hx rfl (hb hby at_100) rfl rfl ?_
        show Steps p.tables e below (T172.setTop (mkF m 101 #[.val (.int p1), .val (.int p2), .val (.int p3), .val (.ref ob), .val (.ref bg), .val (.ref on), .val (.int (own_fg p1 (1 : Int32))), .val (.int (own_fg p1 (2 : Int32))), .val (.int (own_fg p1 (4 : Int32))), .val (.int (own_fg p1 (8 : Int32))), .unset, .unset, .unset, .unset] [(.ref ob)])) _
        refine XS.aload X172.here hx rfl (hb hby at_101) rfl rfl ?_
        exact kt
      obtain ⟨cq182, kq182, q182a, q182b, q182c⟩ := isOf hZ e172 Ej172
      obtain ⟨_, _, ⟨T182, L182, k182, n182⟩, -, X182, ⟨Lc182, hQ182, l182, y182, z182⟩, st182⟩ := X172.virtualBack hx (y := (⟨"com/example/travessia/travessia/core/Bytes", "add", "([B)V"⟩ : MethodName)) (z := (⟨"com/example/travessia/travessia/core/Bytes", "add", "([B)V"⟩ : MethodName)) hown (mvT hZ (hw _ (List.mem_of_getElem? (i := 28) rfl))) (mvT hZ (hw _ (List.mem_of_getElem? (i := 29) rfl))) (notFace_of_selects (args := #[]) (mvT hZ (hw _ (List.mem_of_getElem? (i := 31) rfl)))) (mvT hZ (hw _ (List.mem_of_getElem? (i := 31) rfl))) (mvT hZ (hw _ (List.mem_of_getElem? (i := 30) rfl))) (by decide) (backOf (W := 0) (rm_addOneU l Z a0 hw [] ob on (own_ad (own_fg p1 (2 : Int32)) (own_ad (own_fg p1 (1 : Int32)) (0 : Int32) (16383 : Int32)) (1 : Int32)) ar 16384 n2 h172 n0 Zj172 Ej172 Fbj172 Fnj172 VBj172 g_ob ne_ob_ar g_ar e2 VOj172 (Ne.symm ne_ar_on) (Ne.symm ne_ob_on) (Or.inl rfl) (own_b1 q2 (by decide))) hZ (hw _ (List.mem_of_getElem? (i := 32) rfl)) (hw _ (List.mem_of_getElem? (i := 2) rfl)) (by decide) (by decide)) q182a q182c (g := (mkF m 103 #[.val (.int p1), .val (.int p2), .val (.int p3), .val (.ref ob), .val (.ref bg), .val (.ref on), .val (.int (own_fg p1 (1 : Int32))), .val (.int (own_fg p1 (2 : Int32))), .val (.int (own_fg p1 (4 : Int32))), .val (.int (own_fg p1 (8 : Int32))), .unset, .unset, .unset, .unset] [(.ref on), (.ref ob)])) rfl (by rw [hml]; rfl) (Steps.refl _) (argsL := [(.ref on)]) (rest := []) (lenOf pd_4 rfl) rfl (by show 2 * 0 + _ ≤ _; exact Nat.le_of_eq rfl) (hb hby at_103) (fun _ _ => ⟨rfl, e172, (by decide : 4 + 1 ≤ _), (by decide : 32770 + 32768 ≤ _)⟩)
      dsimp only [Pt.U, Pt.locs, Pt.cells, Pt.slots] at X182 l182 y182 z182 st182 hQ182
      rw [l182, y182, z182] at X182
      obtain ⟨rfl, N182q, K182, t3, cap3, ht3, hc3, hle3, Ea182, Fba182, Fna182, VBa182⟩ := hQ182
      have N182 := Fr.app N172 N182q
      have Zs183 : n0 ≤ T182.heap.size := Nat.le_trans Zj172 K182.1
      have R184 : ∀ tg, Steps p.tables e below (T182.setTop (mkF m 106 #[.val (.int p1), .val (.int p2), .val (.int p3), .val (.ref ob), .val (.ref bg), .val (.ref on), .val (.int (own_fg p1 (1 : Int32))), .val (.int (own_fg p1 (2 : Int32))), .val (.int (own_fg p1 (4 : Int32))), .val (.int (own_fg p1 (8 : Int32))), .unset, .unset, .unset, .unset] [])) tg → Steps p.tables e below (T172.setTop (mkF m 97 #[.val (.int p1), .val (.int p2), .val (.int p3), .val (.ref ob), .val (.ref bg), .val (.ref on), .val (.int (own_fg p1 (1 : Int32))), .val (.int (own_fg p1 (2 : Int32))), .val (.int (own_fg p1 (4 : Int32))), .val (.int (own_fg p1 (8 : Int32))), .unset, .unset, .unset, .unset] [(.int (own_fg p1 (4 : Int32)))])) tg := by
        intro tg kt
        refine R181 _ ?_
        refine st182.trans ?_
        exact kt
      clear R181 st182
      exact ⟨_, _, _, t3, cap3, X182.more (by decide) (by decide), rfl, N182, own_g2 ht3 g_ar Zj172, own_n2 ht3 ne_ob_ar Ej172.lt, hc3, Zs183, Ea182, Fba182, (by rw [own_ad, if_neg hj3]; exact Fna182), VBa182, R184⟩
  have R185 : ∀ tg, Steps p.tables e below (T179.setTop (mkF m 108 #[.val (.int p1), .val (.int p2), .val (.int p3), .val (.ref ob), .val (.ref bg), .val (.ref on), .val (.int (own_fg p1 (1 : Int32))), .val (.int (own_fg p1 (2 : Int32))), .val (.int (own_fg p1 (4 : Int32))), .val (.int (own_fg p1 (8 : Int32))), .unset, .unset, .unset, .unset] [(.int (own_fg p1 (8 : Int32)))])) tg → Steps p.tables e below (s₁.setTop (mkF m 0 #[.val (.int p1), .val (.int p2), .val (.int p3), .unset, .unset, .unset, .unset, .unset, .unset, .unset, .unset, .unset, .unset, .unset] [])) tg := by
    intro tg kt
    refine R178 _ ?_
    refine st179 _ ?_
    show Steps p.tables e below (T179.setTop (mkF m 106 #[.val (.int p1), .val (.int p2), .val (.int p3), .val (.ref ob), .val (.ref bg), .val (.ref on), .val (.int (own_fg p1 (1 : Int32))), .val (.int (own_fg p1 (2 : Int32))), .val (.int (own_fg p1 (4 : Int32))), .val (.int (own_fg p1 (8 : Int32))), .unset, .unset, .unset, .unset] [])) _
    refine XS.iload X179.here hx rfl (hb hby at_106) rfl ?_
    exact kt
  clear R178 st179
  obtain ⟨T186, h186, L186, X186, e186, N186, Zj186, Ej186, Fbj186, Fnj186, VBj186, st186⟩ : ∃ (T' : State) (h' : Heap) (L' : List Loc), Stand p l e room_1 s m #[(.int p1), (.int p2), (.int p3)] below meth c T' L' 5 65538 ∧ T'.heap = h' ∧ Fr n0 L' ∧ n0 ≤ h'.size ∧ Exa Z h' ob "com/example/travessia/travessia/core/Bytes" ∧ Fld Z h' ob "com/example/travessia/travessia/core/Bytes" "bytes" "[B" (.ref t2) ∧ Fld Z h' ob "com/example/travessia/travessia/core/Bytes" "length" "I" (.int (own_cl (own_fg p1 (8 : Int32)) (own_ad (own_fg p1 (4 : Int32)) (own_ad (own_fg p1 (2 : Int32)) (own_ad (own_fg p1 (1 : Int32)) (0 : Int32) (16383 : Int32)) (1 : Int32)) (1 : Int32)))) ∧ AN Z h' t2 cap2 ∧ ∀ tg, Steps p.tables e below (T'.setTop (mkF m 115 #[.val (.int p1), .val (.int p2), .val (.int p3), .val (.ref ob), .val (.ref bg), .val (.ref on), .val (.int (own_fg p1 (1 : Int32))), .val (.int (own_fg p1 (2 : Int32))), .val (.int (own_fg p1 (4 : Int32))), .val (.int (own_fg p1 (8 : Int32))), .unset, .unset, .unset, .unset] [])) tg → Steps p.tables e below (T179.setTop (mkF m 108 #[.val (.int p1), .val (.int p2), .val (.int p3), .val (.ref ob), .val (.ref bg), .val (.ref on), .val (.int (own_fg p1 (1 : Int32))), .val (.int (own_fg p1 (2 : Int32))), .val (.int (own_fg p1 (4 : Int32))), .val (.int (own_fg p1 (8 : Int32))), .unset, .unset, .unset, .unset] [(.int (own_fg p1 (8 : Int32)))])) tg := by
    by_cases hj4 : (own_fg p1 (8 : Int32)) = (0 : Int32)
    · have R187 : ∀ tg, Steps p.tables e below (T179.setTop (mkF m 115 #[.val (.int p1), .val (.int p2), .val (.int p3), .val (.ref ob), .val (.ref bg), .val (.ref on), .val (.int (own_fg p1 (1 : Int32))), .val (.int (own_fg p1 (2 : Int32))), .val (.int (own_fg p1 (4 : Int32))), .val (.int (own_fg p1 (8 : Int32))), .unset, .unset, .unset, .unset] [])) tg → Steps p.tables e below (T179.setTop (mkF m 108 #[.val (.int p1), .val (.int p2), .val (.int p3), .val (.ref ob), .val (.ref bg), .val (.ref on), .val (.int (own_fg p1 (1 : Int32))), .val (.int (own_fg p1 (2 : Int32))), .val (.int (own_fg p1 (4 : Int32))), .val (.int (own_fg p1 (8 : Int32))), .unset, .unset, .unset, .unset] [(.int (own_fg p1 (8 : Int32)))])) tg := by
        intro tg kt
        refine (fun (t : State) (k : Steps p.tables e below (T179.setTop (mkF m 108 #[.val (.int p1), .val (.int p2), .val (.int p3), .val (.ref ob), .val (.ref bg), .val (.ref on), .val (.int (own_fg p1 (1 : Int32))), .val (.int (own_fg p1 (2 : Int32))), .val (.int (own_fg p1 (4 : Int32))), .val (.int (own_fg p1 (8 : Int32))), .unset, .unset, .unset, .unset] [(.int (own_fg p1 (8 : Int32)))])) t) => k) _ ?_
        show Steps p.tables e below (T179.setTop (mkF m 108 #[.val (.int p1), .val (.int p2), .val (.int p3), .val (.ref ob), .val (.ref bg), .val (.ref on), .val (.int (own_fg p1 (1 : Int32))), .val (.int (own_fg p1 (2 : Int32))), .val (.int (own_fg p1 (4 : Int32))), .val (.int (own_fg p1 (8 : Int32))), .unset, .unset, .unset, .unset] [(.int (own_fg p1 (8 : Int32)))])) _
        refine XS.ifYes X179.here hx rfl (pc0 := 108) (pc' := 115) rfl (hb hby at_108) rfl ((if0 _ _).trans (teq (hj4 : (own_fg p1 (8 : Int32)) = (0 : Int32))).1) (by decide) (by decide) ?_
        exact kt
      exact ⟨_, _, _, X179.more (by decide) (by decide), e179, N179, Zj179, Ej179, Fbj179, (by rw [own_cl, if_pos hj4]; exact Fnj179), VBj179, R187⟩
    · have R188 : ∀ tg, Steps p.tables e below (T179.setTop (mkF m 112 #[.val (.int p1), .val (.int p2), .val (.int p3), .val (.ref ob), .val (.ref bg), .val (.ref on), .val (.int (own_fg p1 (1 : Int32))), .val (.int (own_fg p1 (2 : Int32))), .val (.int (own_fg p1 (4 : Int32))), .val (.int (own_fg p1 (8 : Int32))), .unset, .unset, .unset, .unset] [(.ref ob)])) tg → Steps p.tables e below (T179.setTop (mkF m 108 #[.val (.int p1), .val (.int p2), .val (.int p3), .val (.ref ob), .val (.ref bg), .val (.ref on), .val (.int (own_fg p1 (1 : Int32))), .val (.int (own_fg p1 (2 : Int32))), .val (.int (own_fg p1 (4 : Int32))), .val (.int (own_fg p1 (8 : Int32))), .unset, .unset, .unset, .unset] [(.int (own_fg p1 (8 : Int32)))])) tg := by
        intro tg kt
        refine (fun (t : State) (k : Steps p.tables e below (T179.setTop (mkF m 108 #[.val (.int p1), .val (.int p2), .val (.int p3), .val (.ref ob), .val (.ref bg), .val (.ref on), .val (.int (own_fg p1 (1 : Int32))), .val (.int (own_fg p1 (2 : Int32))), .val (.int (own_fg p1 (4 : Int32))), .val (.int (own_fg p1 (8 : Int32))), .unset, .unset, .unset, .unset] [(.int (own_fg p1 (8 : Int32)))])) t) => k) _ ?_
        show Steps p.tables e below (T179.setTop (mkF m 108 #[.val (.int p1), .val (.int p2), .val (.int p3), .val (.ref ob), .val (.ref bg), .val (.ref on), .val (.int (own_fg p1 (1 : Int32))), .val (.int (own_fg p1 (2 : Int32))), .val (.int (own_fg p1 (4 : Int32))), .val (.int (own_fg p1 (8 : Int32))), .unset, .unset, .unset, .unset] [(.int (own_fg p1 (8 : Int32)))])) _
        refine XS.ifNo X179.here hx rfl (hb hby at_108) rfl ((if0 _ _).trans (feq (hj4 : ¬ ((own_fg p1 (8 : Int32)) = (0 : Int32)))).1) ?_
        show Steps p.tables e below (T179.setTop (mkF m 111 #[.val (.int p1), .val (.int p2), .val (.int p3), .val (.ref ob), .val (.ref bg), .val (.ref on), .val (.int (own_fg p1 (1 : Int32))), .val (.int (own_fg p1 (2 : Int32))), .val (.int (own_fg p1 (4 : Int32))), .val (.int (own_fg p1 (8 : Int32))), .unset, .unset, .unset, .unset] [])) _
        refine XS.aloadN X179.here hx rfl (hb hby at_111) rfl rfl ?_
        exact kt
      obtain ⟨cq189, kq189, q189a, q189b, q189c⟩ := isOf hZ e179 Ej179
      obtain ⟨_, _, ⟨T189, L189, k189, n189⟩, -, X189, ⟨Lc189, hQ189, l189, y189, z189⟩, st189⟩ := X179.virtualBack hx (y := (⟨"com/example/travessia/travessia/core/Bytes", "clear", "()V"⟩ : MethodName)) (z := (⟨"com/example/travessia/travessia/core/Bytes", "clear", "()V"⟩ : MethodName)) hown (mvT hZ (hw _ (List.mem_of_getElem? (i := 49) rfl))) (mvT hZ (hw _ (List.mem_of_getElem? (i := 50) rfl))) (notFace_of_selects (args := #[]) (mvT hZ (hw _ (List.mem_of_getElem? (i := 52) rfl)))) (mvT hZ (hw _ (List.mem_of_getElem? (i := 52) rfl))) (mvT hZ (hw _ (List.mem_of_getElem? (i := 51) rfl))) (by decide) (backOf (W := 0) (rm_clear l Z a0 hw [] ob (own_ad (own_fg p1 (4 : Int32)) (own_ad (own_fg p1 (2 : Int32)) (own_ad (own_fg p1 (1 : Int32)) (0 : Int32) (16383 : Int32)) (1 : Int32)) (1 : Int32)) t2 cap2 h179 n0 Zj179 Ej179 Fbj179 Fnj179 VBj179 g_ob nt2) hZ (hw _ (List.mem_of_getElem? (i := 53) rfl)) (hw _ (List.mem_of_getElem? (i := 2) rfl)) (by decide) (by decide)) q189a q189c (g := (mkF m 112 #[.val (.int p1), .val (.int p2), .val (.int p3), .val (.ref ob), .val (.ref bg), .val (.ref on), .val (.int (own_fg p1 (1 : Int32))), .val (.int (own_fg p1 (2 : Int32))), .val (.int (own_fg p1 (4 : Int32))), .val (.int (own_fg p1 (8 : Int32))), .unset, .unset, .unset, .unset] [(.ref ob)])) rfl (by rw [hml]; rfl) (Steps.refl _) (argsL := []) (rest := []) (lenOf pd_3 rfl) rfl (by show 2 * 0 + _ ≤ _; exact Nat.le_of_eq rfl) (hb hby at_112) (fun _ _ => ⟨rfl, e179, (by decide : 5 + 0 ≤ _), (by decide : 65538 + 0 ≤ _)⟩)
      dsimp only [Pt.U, Pt.locs, Pt.cells, Pt.slots] at X189 l189 y189 z189 st189 hQ189
      rw [l189, y189, z189] at X189
      obtain ⟨rfl, N189q, K189, Ea189, Fba189, Fna189, VBa189⟩ := hQ189
      have N189 := Fr.app N179 N189q
      have Zs190 : n0 ≤ T189.heap.size := Nat.le_trans Zj179 K189.1
      have R191 : ∀ tg, Steps p.tables e below (T189.setTop (mkF m 115 #[.val (.int p1), .val (.int p2), .val (.int p3), .val (.ref ob), .val (.ref bg), .val (.ref on), .val (.int (own_fg p1 (1 : Int32))), .val (.int (own_fg p1 (2 : Int32))), .val (.int (own_fg p1 (4 : Int32))), .val (.int (own_fg p1 (8 : Int32))), .unset, .unset, .unset, .unset] [])) tg → Steps p.tables e below (T179.setTop (mkF m 108 #[.val (.int p1), .val (.int p2), .val (.int p3), .val (.ref ob), .val (.ref bg), .val (.ref on), .val (.int (own_fg p1 (1 : Int32))), .val (.int (own_fg p1 (2 : Int32))), .val (.int (own_fg p1 (4 : Int32))), .val (.int (own_fg p1 (8 : Int32))), .unset, .unset, .unset, .unset] [(.int (own_fg p1 (8 : Int32)))])) tg := by
        intro tg kt
        refine R188 _ ?_
        refine st189.trans ?_
        exact kt
      clear R188 st189
      exact ⟨_, _, _, X189.more (by decide) (by decide), rfl, N189, Zs190, Ea189, Fba189, (by rw [own_cl, if_neg hj4]; exact Fna189), VBa189, R191⟩
  obtain ⟨n4, e4, q4⟩ := own_cl_b (own_fg p1 (8 : Int32)) (own_ad (own_fg p1 (4 : Int32)) (own_ad (own_fg p1 (2 : Int32)) (own_ad (own_fg p1 (1 : Int32)) (0 : Int32) (16383 : Int32)) (1 : Int32)) (1 : Int32)) _ B3
  have R192 : ∀ tg, Steps p.tables e below (T186.setTop (mkF m 120 #[.val (.int p1), .val (.int p2), .val (.int p3), .val (.ref ob), .val (.ref bg), .val (.ref on), .val (.int (own_fg p1 (1 : Int32))), .val (.int (own_fg p1 (2 : Int32))), .val (.int (own_fg p1 (4 : Int32))), .val (.int (own_fg p1 (8 : Int32))), .val (.int (0 : Int32)), .unset, .unset, .unset] [(.int (own_fg p1 (8 : Int32)))])) tg → Steps p.tables e below (s₁.setTop (mkF m 0 #[.val (.int p1), .val (.int p2), .val (.int p3), .unset, .unset, .unset, .unset, .unset, .unset, .unset, .unset, .unset, .unset, .unset] [])) tg := by
    intro tg kt
    refine R185 _ ?_
    refine st186 _ ?_
    show Steps p.tables e below (T186.setTop (mkF m 115 #[.val (.int p1), .val (.int p2), .val (.int p3), .val (.ref ob), .val (.ref bg), .val (.ref on), .val (.int (own_fg p1 (1 : Int32))), .val (.int (own_fg p1 (2 : Int32))), .val (.int (own_fg p1 (4 : Int32))), .val (.int (own_fg p1 (8 : Int32))), .unset, .unset, .unset, .unset] [])) _
    refine XS.iconst X186.here hx rfl (hb hby at_115) ?_
    show Steps p.tables e below (T186.setTop (mkF m 116 #[.val (.int p1), .val (.int p2), .val (.int p3), .val (.ref ob), .val (.ref bg), .val (.ref on), .val (.int (own_fg p1 (1 : Int32))), .val (.int (own_fg p1 (2 : Int32))), .val (.int (own_fg p1 (4 : Int32))), .val (.int (own_fg p1 (8 : Int32))), .unset, .unset, .unset, .unset] [(.int (0 : Int32))])) _
    refine XS.istore X186.here hx rfl (hb hby at_116) rfl (l' := #[.val (.int p1), .val (.int p2), .val (.int p3), .val (.ref ob), .val (.ref bg), .val (.ref on), .val (.int (own_fg p1 (1 : Int32))), .val (.int (own_fg p1 (2 : Int32))), .val (.int (own_fg p1 (4 : Int32))), .val (.int (own_fg p1 (8 : Int32))), .val (.int (0 : Int32)), .unset, .unset, .unset]) rfl ?_
    show Steps p.tables e below (T186.setTop (mkF m 118 #[.val (.int p1), .val (.int p2), .val (.int p3), .val (.ref ob), .val (.ref bg), .val (.ref on), .val (.int (own_fg p1 (1 : Int32))), .val (.int (own_fg p1 (2 : Int32))), .val (.int (own_fg p1 (4 : Int32))), .val (.int (own_fg p1 (8 : Int32))), .val (.int (0 : Int32)), .unset, .unset, .unset] [])) _
    refine XS.iload X186.here hx rfl (hb hby at_118) rfl ?_
    exact kt
  clear R185 st186
  by_cases hf8 : (own_fg p1 (8 : Int32)) = (0 : Int32)
  · have R206 : ∀ tg, Steps p.tables e below (T186.setTop (mkF m 125 #[.val (.int p1), .val (.int p2), .val (.int p3), .val (.ref ob), .val (.ref bg), .val (.ref on), .val (.int (own_fg p1 (1 : Int32))), .val (.int (own_fg p1 (2 : Int32))), .val (.int (own_fg p1 (4 : Int32))), .val (.int (own_fg p1 (8 : Int32))), .val (.int (0 : Int32)), .unset, .unset, .unset] [(.int (own_fg p1 (1 : Int32)))])) tg → Steps p.tables e below (s₁.setTop (mkF m 0 #[.val (.int p1), .val (.int p2), .val (.int p3), .unset, .unset, .unset, .unset, .unset, .unset, .unset, .unset, .unset, .unset, .unset] [])) tg := by
      intro tg kt
      refine R192 _ ?_
      show Steps p.tables e below (T186.setTop (mkF m 120 #[.val (.int p1), .val (.int p2), .val (.int p3), .val (.ref ob), .val (.ref bg), .val (.ref on), .val (.int (own_fg p1 (1 : Int32))), .val (.int (own_fg p1 (2 : Int32))), .val (.int (own_fg p1 (4 : Int32))), .val (.int (own_fg p1 (8 : Int32))), .val (.int (0 : Int32)), .unset, .unset, .unset] [(.int (own_fg p1 (8 : Int32)))])) _
      refine XS.ifNo X186.here hx rfl (hb hby at_120) rfl ((if0 _ _).trans (teq (hf8 : (own_fg p1 (8 : Int32)) = (0 : Int32))).2) ?_
      show Steps p.tables e below (T186.setTop (mkF m 123 #[.val (.int p1), .val (.int p2), .val (.int p3), .val (.ref ob), .val (.ref bg), .val (.ref on), .val (.int (own_fg p1 (1 : Int32))), .val (.int (own_fg p1 (2 : Int32))), .val (.int (own_fg p1 (4 : Int32))), .val (.int (own_fg p1 (8 : Int32))), .val (.int (0 : Int32)), .unset, .unset, .unset] [])) _
      refine XS.iload X186.here hx rfl (hb hby at_123) rfl ?_
      exact kt
    clear R192
    have R207 : ∀ tg, Steps p.tables e below (T186.setTop (mkF m 136 #[.val (.int p1), .val (.int p2), .val (.int p3), .val (.ref ob), .val (.ref bg), .val (.ref on), .val (.int (own_fg p1 (1 : Int32))), .val (.int (own_fg p1 (2 : Int32))), .val (.int (own_fg p1 (4 : Int32))), .val (.int (own_fg p1 (8 : Int32))), .val (.int (own_ad (own_fg p1 (1 : Int32)) (0 : Int32) (16383 : Int32))), .unset, .unset, .unset] [])) tg → Steps p.tables e below (s₁.setTop (mkF m 0 #[.val (.int p1), .val (.int p2), .val (.int p3), .unset, .unset, .unset, .unset, .unset, .unset, .unset, .unset, .unset, .unset, .unset] [])) tg := by
      intro tg kt
      refine R206 _ ?_
      by_cases hy1 : (own_fg p1 (1 : Int32)) = (0 : Int32)
      · rw [show (own_ad (own_fg p1 (1 : Int32)) (0 : Int32) (16383 : Int32)) = (0 : Int32) from if_pos hy1] at kt
        show Steps p.tables e below (T186.setTop (mkF m 125 #[.val (.int p1), .val (.int p2), .val (.int p3), .val (.ref ob), .val (.ref bg), .val (.ref on), .val (.int (own_fg p1 (1 : Int32))), .val (.int (own_fg p1 (2 : Int32))), .val (.int (own_fg p1 (4 : Int32))), .val (.int (own_fg p1 (8 : Int32))), .val (.int (0 : Int32)), .unset, .unset, .unset] [(.int (own_fg p1 (1 : Int32)))])) _
        refine XS.ifYes X186.here hx rfl (pc0 := 125) (pc' := 136) rfl (hb hby at_125) rfl ((if0 _ _).trans (teq (hy1 : (own_fg p1 (1 : Int32)) = (0 : Int32))).1) (by decide) (by decide) ?_
        exact kt
      · rw [show (own_ad (own_fg p1 (1 : Int32)) (0 : Int32) (16383 : Int32)) = ((0 : Int32) + (16383 : Int32)) from if_neg hy1] at kt
        show Steps p.tables e below (T186.setTop (mkF m 125 #[.val (.int p1), .val (.int p2), .val (.int p3), .val (.ref ob), .val (.ref bg), .val (.ref on), .val (.int (own_fg p1 (1 : Int32))), .val (.int (own_fg p1 (2 : Int32))), .val (.int (own_fg p1 (4 : Int32))), .val (.int (own_fg p1 (8 : Int32))), .val (.int (0 : Int32)), .unset, .unset, .unset] [(.int (own_fg p1 (1 : Int32)))])) _
        refine XS.ifNo X186.here hx rfl (hb hby at_125) rfl ((if0 _ _).trans (feq (hy1 : ¬ ((own_fg p1 (1 : Int32)) = (0 : Int32)))).1) ?_
        show Steps p.tables e below (T186.setTop (mkF m 128 #[.val (.int p1), .val (.int p2), .val (.int p3), .val (.ref ob), .val (.ref bg), .val (.ref on), .val (.int (own_fg p1 (1 : Int32))), .val (.int (own_fg p1 (2 : Int32))), .val (.int (own_fg p1 (4 : Int32))), .val (.int (own_fg p1 (8 : Int32))), .val (.int (0 : Int32)), .unset, .unset, .unset] [])) _
        refine XS.iload X186.here hx rfl (hb hby at_128) rfl ?_
        show Steps p.tables e below (T186.setTop (mkF m 130 #[.val (.int p1), .val (.int p2), .val (.int p3), .val (.ref ob), .val (.ref bg), .val (.ref on), .val (.int (own_fg p1 (1 : Int32))), .val (.int (own_fg p1 (2 : Int32))), .val (.int (own_fg p1 (4 : Int32))), .val (.int (own_fg p1 (8 : Int32))), .val (.int (0 : Int32)), .unset, .unset, .unset] [(.int (0 : Int32))])) _
        refine XS.sipush X186.here hx rfl (hb hby at_130) ?_
        show Steps p.tables e below (T186.setTop (mkF m 133 #[.val (.int p1), .val (.int p2), .val (.int p3), .val (.ref ob), .val (.ref bg), .val (.ref on), .val (.int (own_fg p1 (1 : Int32))), .val (.int (own_fg p1 (2 : Int32))), .val (.int (own_fg p1 (4 : Int32))), .val (.int (own_fg p1 (8 : Int32))), .val (.int (0 : Int32)), .unset, .unset, .unset] [(.int (16383 : Int32)), (.int (0 : Int32))])) _
        refine XS.iadd X186.here hx rfl (hb hby at_133) rfl ?_
        show Steps p.tables e below (T186.setTop (mkF m 134 #[.val (.int p1), .val (.int p2), .val (.int p3), .val (.ref ob), .val (.ref bg), .val (.ref on), .val (.int (own_fg p1 (1 : Int32))), .val (.int (own_fg p1 (2 : Int32))), .val (.int (own_fg p1 (4 : Int32))), .val (.int (own_fg p1 (8 : Int32))), .val (.int (0 : Int32)), .unset, .unset, .unset] [(.int ((0 : Int32) + (16383 : Int32)))])) _
        refine XS.istore X186.here hx rfl (hb hby at_134) rfl (l' := #[.val (.int p1), .val (.int p2), .val (.int p3), .val (.ref ob), .val (.ref bg), .val (.ref on), .val (.int (own_fg p1 (1 : Int32))), .val (.int (own_fg p1 (2 : Int32))), .val (.int (own_fg p1 (4 : Int32))), .val (.int (own_fg p1 (8 : Int32))), .val (.int ((0 : Int32) + (16383 : Int32))), .unset, .unset, .unset]) rfl ?_
        exact kt
    clear R206
    have R208 : ∀ tg, Steps p.tables e below (T186.setTop (mkF m 138 #[.val (.int p1), .val (.int p2), .val (.int p3), .val (.ref ob), .val (.ref bg), .val (.ref on), .val (.int (own_fg p1 (1 : Int32))), .val (.int (own_fg p1 (2 : Int32))), .val (.int (own_fg p1 (4 : Int32))), .val (.int (own_fg p1 (8 : Int32))), .val (.int (own_ad (own_fg p1 (1 : Int32)) (0 : Int32) (16383 : Int32))), .unset, .unset, .unset] [(.int (own_fg p1 (2 : Int32)))])) tg → Steps p.tables e below (s₁.setTop (mkF m 0 #[.val (.int p1), .val (.int p2), .val (.int p3), .unset, .unset, .unset, .unset, .unset, .unset, .unset, .unset, .unset, .unset, .unset] [])) tg := by
      intro tg kt
      refine R207 _ ?_
      show Steps p.tables e below (T186.setTop (mkF m 136 #[.val (.int p1), .val (.int p2), .val (.int p3), .val (.ref ob), .val (.ref bg), .val (.ref on), .val (.int (own_fg p1 (1 : Int32))), .val (.int (own_fg p1 (2 : Int32))), .val (.int (own_fg p1 (4 : Int32))), .val (.int (own_fg p1 (8 : Int32))), .val (.int (own_ad (own_fg p1 (1 : Int32)) (0 : Int32) (16383 : Int32))), .unset, .unset, .unset] [])) _
      refine XS.iload X186.here hx rfl (hb hby at_136) rfl ?_
      exact kt
    clear R207
    have R209 : ∀ tg, Steps p.tables e below (T186.setTop (mkF m 147 #[.val (.int p1), .val (.int p2), .val (.int p3), .val (.ref ob), .val (.ref bg), .val (.ref on), .val (.int (own_fg p1 (1 : Int32))), .val (.int (own_fg p1 (2 : Int32))), .val (.int (own_fg p1 (4 : Int32))), .val (.int (own_fg p1 (8 : Int32))), .val (.int (own_ad (own_fg p1 (2 : Int32)) (own_ad (own_fg p1 (1 : Int32)) (0 : Int32) (16383 : Int32)) (1 : Int32))), .unset, .unset, .unset] [])) tg → Steps p.tables e below (s₁.setTop (mkF m 0 #[.val (.int p1), .val (.int p2), .val (.int p3), .unset, .unset, .unset, .unset, .unset, .unset, .unset, .unset, .unset, .unset, .unset] [])) tg := by
      intro tg kt
      refine R208 _ ?_
      by_cases hy2 : (own_fg p1 (2 : Int32)) = (0 : Int32)
      · rw [show (own_ad (own_fg p1 (2 : Int32)) (own_ad (own_fg p1 (1 : Int32)) (0 : Int32) (16383 : Int32)) (1 : Int32)) = (own_ad (own_fg p1 (1 : Int32)) (0 : Int32) (16383 : Int32)) from if_pos hy2] at kt
        show Steps p.tables e below (T186.setTop (mkF m 138 #[.val (.int p1), .val (.int p2), .val (.int p3), .val (.ref ob), .val (.ref bg), .val (.ref on), .val (.int (own_fg p1 (1 : Int32))), .val (.int (own_fg p1 (2 : Int32))), .val (.int (own_fg p1 (4 : Int32))), .val (.int (own_fg p1 (8 : Int32))), .val (.int (own_ad (own_fg p1 (1 : Int32)) (0 : Int32) (16383 : Int32))), .unset, .unset, .unset] [(.int (own_fg p1 (2 : Int32)))])) _
        refine XS.ifYes X186.here hx rfl (pc0 := 138) (pc' := 147) rfl (hb hby at_138) rfl ((if0 _ _).trans (teq (hy2 : (own_fg p1 (2 : Int32)) = (0 : Int32))).1) (by decide) (by decide) ?_
        exact kt
      · rw [show (own_ad (own_fg p1 (2 : Int32)) (own_ad (own_fg p1 (1 : Int32)) (0 : Int32) (16383 : Int32)) (1 : Int32)) = ((own_ad (own_fg p1 (1 : Int32)) (0 : Int32) (16383 : Int32)) + (1 : Int32)) from if_neg hy2] at kt
        show Steps p.tables e below (T186.setTop (mkF m 138 #[.val (.int p1), .val (.int p2), .val (.int p3), .val (.ref ob), .val (.ref bg), .val (.ref on), .val (.int (own_fg p1 (1 : Int32))), .val (.int (own_fg p1 (2 : Int32))), .val (.int (own_fg p1 (4 : Int32))), .val (.int (own_fg p1 (8 : Int32))), .val (.int (own_ad (own_fg p1 (1 : Int32)) (0 : Int32) (16383 : Int32))), .unset, .unset, .unset] [(.int (own_fg p1 (2 : Int32)))])) _
        refine XS.ifNo X186.here hx rfl (hb hby at_138) rfl ((if0 _ _).trans (feq (hy2 : ¬ ((own_fg p1 (2 : Int32)) = (0 : Int32)))).1) ?_
        show Steps p.tables e below (T186.setTop (mkF m 141 #[.val (.int p1), .val (.int p2), .val (.int p3), .val (.ref ob), .val (.ref bg), .val (.ref on), .val (.int (own_fg p1 (1 : Int32))), .val (.int (own_fg p1 (2 : Int32))), .val (.int (own_fg p1 (4 : Int32))), .val (.int (own_fg p1 (8 : Int32))), .val (.int (own_ad (own_fg p1 (1 : Int32)) (0 : Int32) (16383 : Int32))), .unset, .unset, .unset] [])) _
        refine XS.iload X186.here hx rfl (hb hby at_141) rfl ?_
        show Steps p.tables e below (T186.setTop (mkF m 143 #[.val (.int p1), .val (.int p2), .val (.int p3), .val (.ref ob), .val (.ref bg), .val (.ref on), .val (.int (own_fg p1 (1 : Int32))), .val (.int (own_fg p1 (2 : Int32))), .val (.int (own_fg p1 (4 : Int32))), .val (.int (own_fg p1 (8 : Int32))), .val (.int (own_ad (own_fg p1 (1 : Int32)) (0 : Int32) (16383 : Int32))), .unset, .unset, .unset] [(.int (own_ad (own_fg p1 (1 : Int32)) (0 : Int32) (16383 : Int32)))])) _
        refine XS.iconst X186.here hx rfl (hb hby at_143) ?_
        show Steps p.tables e below (T186.setTop (mkF m 144 #[.val (.int p1), .val (.int p2), .val (.int p3), .val (.ref ob), .val (.ref bg), .val (.ref on), .val (.int (own_fg p1 (1 : Int32))), .val (.int (own_fg p1 (2 : Int32))), .val (.int (own_fg p1 (4 : Int32))), .val (.int (own_fg p1 (8 : Int32))), .val (.int (own_ad (own_fg p1 (1 : Int32)) (0 : Int32) (16383 : Int32))), .unset, .unset, .unset] [(.int (1 : Int32)), (.int (own_ad (own_fg p1 (1 : Int32)) (0 : Int32) (16383 : Int32)))])) _
        refine XS.iadd X186.here hx rfl (hb hby at_144) rfl ?_
        show Steps p.tables e below (T186.setTop (mkF m 145 #[.val (.int p1), .val (.int p2), .val (.int p3), .val (.ref ob), .val (.ref bg), .val (.ref on), .val (.int (own_fg p1 (1 : Int32))), .val (.int (own_fg p1 (2 : Int32))), .val (.int (own_fg p1 (4 : Int32))), .val (.int (own_fg p1 (8 : Int32))), .val (.int (own_ad (own_fg p1 (1 : Int32)) (0 : Int32) (16383 : Int32))), .unset, .unset, .unset] [(.int ((own_ad (own_fg p1 (1 : Int32)) (0 : Int32) (16383 : Int32)) + (1 : Int32)))])) _
        refine XS.istore X186.here hx rfl (hb hby at_145) rfl (l' := #[.val (.int p1), .val (.int p2), .val (.int p3), .val (.ref ob), .val (.ref bg), .val (.ref on), .val (.int (own_fg p1 (1 : Int32))), .val (.int (own_fg p1 (2 : Int32))), .val (.int (own_fg p1 (4 : Int32))), .val (.int (own_fg p1 (8 : Int32))), .val (.int ((own_ad (own_fg p1 (1 : Int32)) (0 : Int32) (16383 : Int32)) + (1 : Int32))), .unset, .unset, .unset]) rfl ?_
        exact kt
    clear R208
    have R210 : ∀ tg, Steps p.tables e below (T186.setTop (mkF m 149 #[.val (.int p1), .val (.int p2), .val (.int p3), .val (.ref ob), .val (.ref bg), .val (.ref on), .val (.int (own_fg p1 (1 : Int32))), .val (.int (own_fg p1 (2 : Int32))), .val (.int (own_fg p1 (4 : Int32))), .val (.int (own_fg p1 (8 : Int32))), .val (.int (own_ad (own_fg p1 (2 : Int32)) (own_ad (own_fg p1 (1 : Int32)) (0 : Int32) (16383 : Int32)) (1 : Int32))), .unset, .unset, .unset] [(.int (own_fg p1 (4 : Int32)))])) tg → Steps p.tables e below (s₁.setTop (mkF m 0 #[.val (.int p1), .val (.int p2), .val (.int p3), .unset, .unset, .unset, .unset, .unset, .unset, .unset, .unset, .unset, .unset, .unset] [])) tg := by
      intro tg kt
      refine R209 _ ?_
      show Steps p.tables e below (T186.setTop (mkF m 147 #[.val (.int p1), .val (.int p2), .val (.int p3), .val (.ref ob), .val (.ref bg), .val (.ref on), .val (.int (own_fg p1 (1 : Int32))), .val (.int (own_fg p1 (2 : Int32))), .val (.int (own_fg p1 (4 : Int32))), .val (.int (own_fg p1 (8 : Int32))), .val (.int (own_ad (own_fg p1 (2 : Int32)) (own_ad (own_fg p1 (1 : Int32)) (0 : Int32) (16383 : Int32)) (1 : Int32))), .unset, .unset, .unset] [])) _
      refine XS.iload X186.here hx rfl (hb hby at_147) rfl ?_
      exact kt
    clear R209
    have R211 : ∀ tg, Steps p.tables e below (T186.setTop (mkF m 158 #[.val (.int p1), .val (.int p2), .val (.int p3), .val (.ref ob), .val (.ref bg), .val (.ref on), .val (.int (own_fg p1 (1 : Int32))), .val (.int (own_fg p1 (2 : Int32))), .val (.int (own_fg p1 (4 : Int32))), .val (.int (own_fg p1 (8 : Int32))), .val (.int (own_ad (own_fg p1 (4 : Int32)) (own_ad (own_fg p1 (2 : Int32)) (own_ad (own_fg p1 (1 : Int32)) (0 : Int32) (16383 : Int32)) (1 : Int32)) (1 : Int32))), .unset, .unset, .unset] [])) tg → Steps p.tables e below (s₁.setTop (mkF m 0 #[.val (.int p1), .val (.int p2), .val (.int p3), .unset, .unset, .unset, .unset, .unset, .unset, .unset, .unset, .unset, .unset, .unset] [])) tg := by
      intro tg kt
      refine R210 _ ?_
      by_cases hy3 : (own_fg p1 (4 : Int32)) = (0 : Int32)
      · rw [show (own_ad (own_fg p1 (4 : Int32)) (own_ad (own_fg p1 (2 : Int32)) (own_ad (own_fg p1 (1 : Int32)) (0 : Int32) (16383 : Int32)) (1 : Int32)) (1 : Int32)) = (own_ad (own_fg p1 (2 : Int32)) (own_ad (own_fg p1 (1 : Int32)) (0 : Int32) (16383 : Int32)) (1 : Int32)) from if_pos hy3] at kt
        show Steps p.tables e below (T186.setTop (mkF m 149 #[.val (.int p1), .val (.int p2), .val (.int p3), .val (.ref ob), .val (.ref bg), .val (.ref on), .val (.int (own_fg p1 (1 : Int32))), .val (.int (own_fg p1 (2 : Int32))), .val (.int (own_fg p1 (4 : Int32))), .val (.int (own_fg p1 (8 : Int32))), .val (.int (own_ad (own_fg p1 (2 : Int32)) (own_ad (own_fg p1 (1 : Int32)) (0 : Int32) (16383 : Int32)) (1 : Int32))), .unset, .unset, .unset] [(.int (own_fg p1 (4 : Int32)))])) _
        refine XS.ifYes X186.here hx rfl (pc0 := 149) (pc' := 158) rfl (hb hby at_149) rfl ((if0 _ _).trans (teq (hy3 : (own_fg p1 (4 : Int32)) = (0 : Int32))).1) (by decide) (by decide) ?_
        exact kt
      · rw [show (own_ad (own_fg p1 (4 : Int32)) (own_ad (own_fg p1 (2 : Int32)) (own_ad (own_fg p1 (1 : Int32)) (0 : Int32) (16383 : Int32)) (1 : Int32)) (1 : Int32)) = ((own_ad (own_fg p1 (2 : Int32)) (own_ad (own_fg p1 (1 : Int32)) (0 : Int32) (16383 : Int32)) (1 : Int32)) + (1 : Int32)) from if_neg hy3] at kt
        show Steps p.tables e below (T186.setTop (mkF m 149 #[.val (.int p1), .val (.int p2), .val (.int p3), .val (.ref ob), .val (.ref bg), .val (.ref on), .val (.int (own_fg p1 (1 : Int32))), .val (.int (own_fg p1 (2 : Int32))), .val (.int (own_fg p1 (4 : Int32))), .val (.int (own_fg p1 (8 : Int32))), .val (.int (own_ad (own_fg p1 (2 : Int32)) (own_ad (own_fg p1 (1 : Int32)) (0 : Int32) (16383 : Int32)) (1 : Int32))), .unset, .unset, .unset] [(.int (own_fg p1 (4 : Int32)))])) _
        refine XS.ifNo X186.here hx rfl (hb hby at_149) rfl ((if0 _ _).trans (feq (hy3 : ¬ ((own_fg p1 (4 : Int32)) = (0 : Int32)))).1) ?_
        show Steps p.tables e below (T186.setTop (mkF m 152 #[.val (.int p1), .val (.int p2), .val (.int p3), .val (.ref ob), .val (.ref bg), .val (.ref on), .val (.int (own_fg p1 (1 : Int32))), .val (.int (own_fg p1 (2 : Int32))), .val (.int (own_fg p1 (4 : Int32))), .val (.int (own_fg p1 (8 : Int32))), .val (.int (own_ad (own_fg p1 (2 : Int32)) (own_ad (own_fg p1 (1 : Int32)) (0 : Int32) (16383 : Int32)) (1 : Int32))), .unset, .unset, .unset] [])) _
        refine XS.iload X186.here hx rfl (hb hby at_152) rfl ?_
        show Steps p.tables e below (T186.setTop (mkF m 154 #[.val (.int p1), .val (.int p2), .val (.int p3), .val (.ref ob), .val (.ref bg), .val (.ref on), .val (.int (own_fg p1 (1 : Int32))), .val (.int (own_fg p1 (2 : Int32))), .val (.int (own_fg p1 (4 : Int32))), .val (.int (own_fg p1 (8 : Int32))), .val (.int (own_ad (own_fg p1 (2 : Int32)) (own_ad (own_fg p1 (1 : Int32)) (0 : Int32) (16383 : Int32)) (1 : Int32))), .unset, .unset, .unset] [(.int (own_ad (own_fg p1 (2 : Int32)) (own_ad (own_fg p1 (1 : Int32)) (0 : Int32) (16383 : Int32)) (1 : Int32)))])) _
        refine XS.iconst X186.here hx rfl (hb hby at_154) ?_
        show Steps p.tables e below (T186.setTop (mkF m 155 #[.val (.int p1), .val (.int p2), .val (.int p3), .val (.ref ob), .val (.ref bg), .val (.ref on), .val (.int (own_fg p1 (1 : Int32))), .val (.int (own_fg p1 (2 : Int32))), .val (.int (own_fg p1 (4 : Int32))), .val (.int (own_fg p1 (8 : Int32))), .val (.int (own_ad (own_fg p1 (2 : Int32)) (own_ad (own_fg p1 (1 : Int32)) (0 : Int32) (16383 : Int32)) (1 : Int32))), .unset, .unset, .unset] [(.int (1 : Int32)), (.int (own_ad (own_fg p1 (2 : Int32)) (own_ad (own_fg p1 (1 : Int32)) (0 : Int32) (16383 : Int32)) (1 : Int32)))])) _
        refine XS.iadd X186.here hx rfl (hb hby at_155) rfl ?_
        show Steps p.tables e below (T186.setTop (mkF m 156 #[.val (.int p1), .val (.int p2), .val (.int p3), .val (.ref ob), .val (.ref bg), .val (.ref on), .val (.int (own_fg p1 (1 : Int32))), .val (.int (own_fg p1 (2 : Int32))), .val (.int (own_fg p1 (4 : Int32))), .val (.int (own_fg p1 (8 : Int32))), .val (.int (own_ad (own_fg p1 (2 : Int32)) (own_ad (own_fg p1 (1 : Int32)) (0 : Int32) (16383 : Int32)) (1 : Int32))), .unset, .unset, .unset] [(.int ((own_ad (own_fg p1 (2 : Int32)) (own_ad (own_fg p1 (1 : Int32)) (0 : Int32) (16383 : Int32)) (1 : Int32)) + (1 : Int32)))])) _
        refine XS.istore X186.here hx rfl (hb hby at_156) rfl (l' := #[.val (.int p1), .val (.int p2), .val (.int p3), .val (.ref ob), .val (.ref bg), .val (.ref on), .val (.int (own_fg p1 (1 : Int32))), .val (.int (own_fg p1 (2 : Int32))), .val (.int (own_fg p1 (4 : Int32))), .val (.int (own_fg p1 (8 : Int32))), .val (.int ((own_ad (own_fg p1 (2 : Int32)) (own_ad (own_fg p1 (1 : Int32)) (0 : Int32) (16383 : Int32)) (1 : Int32)) + (1 : Int32))), .unset, .unset, .unset]) rfl ?_
        exact kt
    clear R210
    have R212 : ∀ tg, Steps p.tables e below (T186.setTop (mkF m 159 #[.val (.int p1), .val (.int p2), .val (.int p3), .val (.ref ob), .val (.ref bg), .val (.ref on), .val (.int (own_fg p1 (1 : Int32))), .val (.int (own_fg p1 (2 : Int32))), .val (.int (own_fg p1 (4 : Int32))), .val (.int (own_fg p1 (8 : Int32))), .val (.int (own_ad (own_fg p1 (4 : Int32)) (own_ad (own_fg p1 (2 : Int32)) (own_ad (own_fg p1 (1 : Int32)) (0 : Int32) (16383 : Int32)) (1 : Int32)) (1 : Int32))), .unset, .unset, .unset] [(.ref ob)])) tg → Steps p.tables e below (s₁.setTop (mkF m 0 #[.val (.int p1), .val (.int p2), .val (.int p3), .unset, .unset, .unset, .unset, .unset, .unset, .unset, .unset, .unset, .unset, .unset] [])) tg := by
      intro tg kt
      refine R211 _ ?_
      show Steps p.tables e below (T186.setTop (mkF m 158 #[.val (.int p1), .val (.int p2), .val (.int p3), .val (.ref ob), .val (.ref bg), .val (.ref on), .val (.int (own_fg p1 (1 : Int32))), .val (.int (own_fg p1 (2 : Int32))), .val (.int (own_fg p1 (4 : Int32))), .val (.int (own_fg p1 (8 : Int32))), .val (.int (own_ad (own_fg p1 (4 : Int32)) (own_ad (own_fg p1 (2 : Int32)) (own_ad (own_fg p1 (1 : Int32)) (0 : Int32) (16383 : Int32)) (1 : Int32)) (1 : Int32))), .unset, .unset, .unset] [])) _
      refine XS.aloadN X186.here hx rfl (hb hby at_158) rfl rfl ?_
      exact kt
    clear R211
    have hE : (own_cl (own_fg p1 (8 : Int32)) (own_ad (own_fg p1 (4 : Int32)) (own_ad (own_fg p1 (2 : Int32)) (own_ad (own_fg p1 (1 : Int32)) (0 : Int32) (16383 : Int32)) (1 : Int32)) (1 : Int32))) = (own_ad (own_fg p1 (4 : Int32)) (own_ad (own_fg p1 (2 : Int32)) (own_ad (own_fg p1 (1 : Int32)) (0 : Int32) (16383 : Int32)) (1 : Int32)) (1 : Int32)) := if_pos hf8
    obtain ⟨cq213, kq213, q213a, q213b, q213c⟩ := isOf hZ e186 Ej186
    obtain ⟨_, _, ⟨T213, L213, k213, n213⟩, -, X213, ⟨Lc213, hQ213, l213, y213, z213⟩, st213⟩ := X186.virtualBack hx (y := (⟨"com/example/travessia/travessia/core/Bytes", "length", "()I"⟩ : MethodName)) (z := (⟨"com/example/travessia/travessia/core/Bytes", "length", "()I"⟩ : MethodName)) hown (mvT hZ (hw _ (List.mem_of_getElem? (i := 12) rfl))) (mvT hZ (hw _ (List.mem_of_getElem? (i := 13) rfl))) (notFace_of_selects (args := #[]) (mvT hZ (hw _ (List.mem_of_getElem? (i := 15) rfl)))) (mvT hZ (hw _ (List.mem_of_getElem? (i := 15) rfl))) (mvT hZ (hw _ (List.mem_of_getElem? (i := 14) rfl))) (by decide) (backOf (W := 0) (rm_len l Z a0 hw [] ob (own_cl (own_fg p1 (8 : Int32)) (own_ad (own_fg p1 (4 : Int32)) (own_ad (own_fg p1 (2 : Int32)) (own_ad (own_fg p1 (1 : Int32)) (0 : Int32) (16383 : Int32)) (1 : Int32)) (1 : Int32))) h186 n0 Zj186 Fnj186) hZ (hw _ (List.mem_of_getElem? (i := 16) rfl)) (hw _ (List.mem_of_getElem? (i := 2) rfl)) (by decide) (by decide)) q213a q213c (g := (mkF m 159 #[.val (.int p1), .val (.int p2), .val (.int p3), .val (.ref ob), .val (.ref bg), .val (.ref on), .val (.int (own_fg p1 (1 : Int32))), .val (.int (own_fg p1 (2 : Int32))), .val (.int (own_fg p1 (4 : Int32))), .val (.int (own_fg p1 (8 : Int32))), .val (.int (own_ad (own_fg p1 (4 : Int32)) (own_ad (own_fg p1 (2 : Int32)) (own_ad (own_fg p1 (1 : Int32)) (0 : Int32) (16383 : Int32)) (1 : Int32)) (1 : Int32))), .unset, .unset, .unset] [(.ref ob)])) rfl (by rw [hml]; rfl) (Steps.refl _) (argsL := []) (rest := []) (lenOf pd_5 rfl) rfl (by show 2 * 0 + _ ≤ _; exact Nat.le_of_eq rfl) (hb hby at_159) (fun _ _ => ⟨rfl, e186, (by decide : 5 + 0 ≤ _), (by decide : 65538 + 0 ≤ _)⟩)
    dsimp only [Pt.U, Pt.locs, Pt.cells, Pt.slots] at X213 l213 y213 z213 st213 hQ213
    rw [l213, y213, z213] at X213
    obtain ⟨rfl, N213q, hh213⟩ := hQ213
    have N213 := Fr.app N186 N213q
    have R214 : ∀ tg, Steps p.tables e below (T213.setTop (mkF m 167 #[.val (.int p1), .val (.int p2), .val (.int p3), .val (.ref ob), .val (.ref bg), .val (.ref on), .val (.int (own_fg p1 (1 : Int32))), .val (.int (own_fg p1 (2 : Int32))), .val (.int (own_fg p1 (4 : Int32))), .val (.int (own_fg p1 (8 : Int32))), .val (.int (own_ad (own_fg p1 (4 : Int32)) (own_ad (own_fg p1 (2 : Int32)) (own_ad (own_fg p1 (1 : Int32)) (0 : Int32) (16383 : Int32)) (1 : Int32)) (1 : Int32))), .val (.int (own_cl (own_fg p1 (8 : Int32)) (own_ad (own_fg p1 (4 : Int32)) (own_ad (own_fg p1 (2 : Int32)) (own_ad (own_fg p1 (1 : Int32)) (0 : Int32) (16383 : Int32)) (1 : Int32)) (1 : Int32)))), .unset, .unset] [(.int (p2.toInt8.toInt32)), (.ref ob)])) tg → Steps p.tables e below (s₁.setTop (mkF m 0 #[.val (.int p1), .val (.int p2), .val (.int p3), .unset, .unset, .unset, .unset, .unset, .unset, .unset, .unset, .unset, .unset, .unset] [])) tg := by
      intro tg kt
      refine R212 _ ?_
      refine st213.trans ?_
      show Steps p.tables e below (T213.setTop (mkF m 162 #[.val (.int p1), .val (.int p2), .val (.int p3), .val (.ref ob), .val (.ref bg), .val (.ref on), .val (.int (own_fg p1 (1 : Int32))), .val (.int (own_fg p1 (2 : Int32))), .val (.int (own_fg p1 (4 : Int32))), .val (.int (own_fg p1 (8 : Int32))), .val (.int (own_ad (own_fg p1 (4 : Int32)) (own_ad (own_fg p1 (2 : Int32)) (own_ad (own_fg p1 (1 : Int32)) (0 : Int32) (16383 : Int32)) (1 : Int32)) (1 : Int32))), .unset, .unset, .unset] [(.int (own_cl (own_fg p1 (8 : Int32)) (own_ad (own_fg p1 (4 : Int32)) (own_ad (own_fg p1 (2 : Int32)) (own_ad (own_fg p1 (1 : Int32)) (0 : Int32) (16383 : Int32)) (1 : Int32)) (1 : Int32))))])) _
      refine XS.istore X213.here hx rfl (hb hby at_162) rfl (l' := #[.val (.int p1), .val (.int p2), .val (.int p3), .val (.ref ob), .val (.ref bg), .val (.ref on), .val (.int (own_fg p1 (1 : Int32))), .val (.int (own_fg p1 (2 : Int32))), .val (.int (own_fg p1 (4 : Int32))), .val (.int (own_fg p1 (8 : Int32))), .val (.int (own_ad (own_fg p1 (4 : Int32)) (own_ad (own_fg p1 (2 : Int32)) (own_ad (own_fg p1 (1 : Int32)) (0 : Int32) (16383 : Int32)) (1 : Int32)) (1 : Int32))), .val (.int (own_cl (own_fg p1 (8 : Int32)) (own_ad (own_fg p1 (4 : Int32)) (own_ad (own_fg p1 (2 : Int32)) (own_ad (own_fg p1 (1 : Int32)) (0 : Int32) (16383 : Int32)) (1 : Int32)) (1 : Int32)))), .unset, .unset]) rfl ?_
      show Steps p.tables e below (T213.setTop (mkF m 164 #[.val (.int p1), .val (.int p2), .val (.int p3), .val (.ref ob), .val (.ref bg), .val (.ref on), .val (.int (own_fg p1 (1 : Int32))), .val (.int (own_fg p1 (2 : Int32))), .val (.int (own_fg p1 (4 : Int32))), .val (.int (own_fg p1 (8 : Int32))), .val (.int (own_ad (own_fg p1 (4 : Int32)) (own_ad (own_fg p1 (2 : Int32)) (own_ad (own_fg p1 (1 : Int32)) (0 : Int32) (16383 : Int32)) (1 : Int32)) (1 : Int32))), .val (.int (own_cl (own_fg p1 (8 : Int32)) (own_ad (own_fg p1 (4 : Int32)) (own_ad (own_fg p1 (2 : Int32)) (own_ad (own_fg p1 (1 : Int32)) (0 : Int32) (16383 : Int32)) (1 : Int32)) (1 : Int32)))), .unset, .unset] [])) _
      refine XS.aloadN X213.here hx rfl (hb hby at_164) rfl rfl ?_
      show Steps p.tables e below (T213.setTop (mkF m 165 #[.val (.int p1), .val (.int p2), .val (.int p3), .val (.ref ob), .val (.ref bg), .val (.ref on), .val (.int (own_fg p1 (1 : Int32))), .val (.int (own_fg p1 (2 : Int32))), .val (.int (own_fg p1 (4 : Int32))), .val (.int (own_fg p1 (8 : Int32))), .val (.int (own_ad (own_fg p1 (4 : Int32)) (own_ad (own_fg p1 (2 : Int32)) (own_ad (own_fg p1 (1 : Int32)) (0 : Int32) (16383 : Int32)) (1 : Int32)) (1 : Int32))), .val (.int (own_cl (own_fg p1 (8 : Int32)) (own_ad (own_fg p1 (4 : Int32)) (own_ad (own_fg p1 (2 : Int32)) (own_ad (own_fg p1 (1 : Int32)) (0 : Int32) (16383 : Int32)) (1 : Int32)) (1 : Int32)))), .unset, .unset] [(.ref ob)])) _
      refine XS.iloadN X213.here hx rfl (hb hby at_165) rfl ?_
      show Steps p.tables e below (T213.setTop (mkF m 166 #[.val (.int p1), .val (.int p2), .val (.int p3), .val (.ref ob), .val (.ref bg), .val (.ref on), .val (.int (own_fg p1 (1 : Int32))), .val (.int (own_fg p1 (2 : Int32))), .val (.int (own_fg p1 (4 : Int32))), .val (.int (own_fg p1 (8 : Int32))), .val (.int (own_ad (own_fg p1 (4 : Int32)) (own_ad (own_fg p1 (2 : Int32)) (own_ad (own_fg p1 (1 : Int32)) (0 : Int32) (16383 : Int32)) (1 : Int32)) (1 : Int32))), .val (.int (own_cl (own_fg p1 (8 : Int32)) (own_ad (own_fg p1 (4 : Int32)) (own_ad (own_fg p1 (2 : Int32)) (own_ad (own_fg p1 (1 : Int32)) (0 : Int32) (16383 : Int32)) (1 : Int32)) (1 : Int32)))), .unset, .unset] [(.int p2), (.ref ob)])) _
      refine XS.i2b X213.here hx rfl (hb hby at_166) rfl ?_
      exact kt
    clear R212 st213
    obtain ⟨cq215, kq215, q215a, q215b, q215c⟩ := isOf hZ hh213 Ej186
    obtain ⟨_, _, ⟨T215, L215, k215, n215⟩, -, X215, ⟨Lc215, hQ215, l215, y215, z215⟩, st215⟩ := X213.virtualBack hx (y := (⟨"com/example/travessia/travessia/core/Bytes", "add", "(B)V"⟩ : MethodName)) (z := (⟨"com/example/travessia/travessia/core/Bytes", "add", "(B)V"⟩ : MethodName)) hown (mvT hZ (hw _ (List.mem_of_getElem? (i := 19) rfl))) (mvT hZ (hw _ (List.mem_of_getElem? (i := 20) rfl))) (notFace_of_selects (args := #[]) (mvT hZ (hw _ (List.mem_of_getElem? (i := 22) rfl)))) (mvT hZ (hw _ (List.mem_of_getElem? (i := 22) rfl))) (mvT hZ (hw _ (List.mem_of_getElem? (i := 21) rfl))) (by decide) (backOf (W := 0) (rm_addB l Z a0 hw [] ob (p2.toInt8.toInt32) (own_cl (own_fg p1 (8 : Int32)) (own_ad (own_fg p1 (4 : Int32)) (own_ad (own_fg p1 (2 : Int32)) (own_ad (own_fg p1 (1 : Int32)) (0 : Int32) (16383 : Int32)) (1 : Int32)) (1 : Int32))) t2 cap2 n4 h186 n0 Zj186 Ej186 Fbj186 Fnj186 VBj186 g_ob nt2 gt2 e4 hc2 (own_b1 q4 (by decide))) hZ (hw _ (List.mem_of_getElem? (i := 23) rfl)) (hw _ (List.mem_of_getElem? (i := 2) rfl)) (by decide) (by decide)) q215a q215c (g := (mkF m 167 #[.val (.int p1), .val (.int p2), .val (.int p3), .val (.ref ob), .val (.ref bg), .val (.ref on), .val (.int (own_fg p1 (1 : Int32))), .val (.int (own_fg p1 (2 : Int32))), .val (.int (own_fg p1 (4 : Int32))), .val (.int (own_fg p1 (8 : Int32))), .val (.int (own_ad (own_fg p1 (4 : Int32)) (own_ad (own_fg p1 (2 : Int32)) (own_ad (own_fg p1 (1 : Int32)) (0 : Int32) (16383 : Int32)) (1 : Int32)) (1 : Int32))), .val (.int (own_cl (own_fg p1 (8 : Int32)) (own_ad (own_fg p1 (4 : Int32)) (own_ad (own_fg p1 (2 : Int32)) (own_ad (own_fg p1 (1 : Int32)) (0 : Int32) (16383 : Int32)) (1 : Int32)) (1 : Int32)))), .unset, .unset] [(.int (p2.toInt8.toInt32)), (.ref ob)])) rfl (by rw [hml]; rfl) (Steps.refl _) (argsL := [(.int (p2.toInt8.toInt32))]) (rest := []) (lenOf pd_6 rfl) rfl (by show 2 * 0 + _ ≤ _; exact Nat.le_of_eq rfl) (hb hby at_167) (fun _ _ => ⟨rfl, hh213, (by decide : 5 + 1 ≤ _), (by decide : 65538 + 32768 ≤ _)⟩)
    dsimp only [Pt.U, Pt.locs, Pt.cells, Pt.slots] at X215 l215 y215 z215 st215 hQ215
    rw [l215, y215, z215] at X215
    obtain ⟨rfl, N215q, K215, u1, kap1, hu1, hk1, hl1, Ea215, Fba215, Fna215, VBa215⟩ := hQ215
    have N215 := Fr.app N213 N215q
    have Zs216 : n0 ≤ T215.heap.size := Nat.le_trans Zj186 K215.1
    have gu1 := own_g2 hu1 gt2 Zj186
    have nu1 := own_n2 hu1 nt2 Ej186.lt
    have eu1 := own_ladd (own_cl (own_fg p1 (8 : Int32)) (own_ad (own_fg p1 (4 : Int32)) (own_ad (own_fg p1 (2 : Int32)) (own_ad (own_fg p1 (1 : Int32)) (0 : Int32) (16383 : Int32)) (1 : Int32)) (1 : Int32))) (1 : Int32) n4 1 e4 rfl (own_b1 q4 (by decide))
    have qu1 : n4 + 1 ≤ 16386 := own_b1 q4 (by decide)
    have R217 : ∀ tg, Steps p.tables e below (T215.setTop (mkF m 171 #[.val (.int p1), .val (.int p2), .val (.int p3), .val (.ref ob), .val (.ref bg), .val (.ref on), .val (.int (own_fg p1 (1 : Int32))), .val (.int (own_fg p1 (2 : Int32))), .val (.int (own_fg p1 (4 : Int32))), .val (.int (own_fg p1 (8 : Int32))), .val (.int (own_ad (own_fg p1 (4 : Int32)) (own_ad (own_fg p1 (2 : Int32)) (own_ad (own_fg p1 (1 : Int32)) (0 : Int32) (16383 : Int32)) (1 : Int32)) (1 : Int32))), .val (.int (own_cl (own_fg p1 (8 : Int32)) (own_ad (own_fg p1 (4 : Int32)) (own_ad (own_fg p1 (2 : Int32)) (own_ad (own_fg p1 (1 : Int32)) (0 : Int32) (16383 : Int32)) (1 : Int32)) (1 : Int32)))), .unset, .unset] [(.ref ob)])) tg → Steps p.tables e below (s₁.setTop (mkF m 0 #[.val (.int p1), .val (.int p2), .val (.int p3), .unset, .unset, .unset, .unset, .unset, .unset, .unset, .unset, .unset, .unset, .unset] [])) tg := by
      intro tg kt
      refine R214 _ ?_
      refine st215.trans ?_
      show Steps p.tables e below (T215.setTop (mkF m 170 #[.val (.int p1), .val (.int p2), .val (.int p3), .val (.ref ob), .val (.ref bg), .val (.ref on), .val (.int (own_fg p1 (1 : Int32))), .val (.int (own_fg p1 (2 : Int32))), .val (.int (own_fg p1 (4 : Int32))), .val (.int (own_fg p1 (8 : Int32))), .val (.int (own_ad (own_fg p1 (4 : Int32)) (own_ad (own_fg p1 (2 : Int32)) (own_ad (own_fg p1 (1 : Int32)) (0 : Int32) (16383 : Int32)) (1 : Int32)) (1 : Int32))), .val (.int (own_cl (own_fg p1 (8 : Int32)) (own_ad (own_fg p1 (4 : Int32)) (own_ad (own_fg p1 (2 : Int32)) (own_ad (own_fg p1 (1 : Int32)) (0 : Int32) (16383 : Int32)) (1 : Int32)) (1 : Int32)))), .unset, .unset] [])) _
      refine XS.aloadN X215.here hx rfl (hb hby at_170) rfl rfl ?_
      exact kt
    clear R214 st215
    obtain ⟨cq218, kq218, q218a, q218b, q218c⟩ := isOf hZ rfl Ea215
    obtain ⟨_, _, ⟨T218, L218, k218, n218⟩, -, X218, ⟨Lc218, hQ218, l218, y218, z218⟩, st218⟩ := X215.virtualBack hx (y := (⟨"com/example/travessia/travessia/core/Bytes", "length", "()I"⟩ : MethodName)) (z := (⟨"com/example/travessia/travessia/core/Bytes", "length", "()I"⟩ : MethodName)) hown (mvT hZ (hw _ (List.mem_of_getElem? (i := 12) rfl))) (mvT hZ (hw _ (List.mem_of_getElem? (i := 13) rfl))) (notFace_of_selects (args := #[]) (mvT hZ (hw _ (List.mem_of_getElem? (i := 15) rfl)))) (mvT hZ (hw _ (List.mem_of_getElem? (i := 15) rfl))) (mvT hZ (hw _ (List.mem_of_getElem? (i := 14) rfl))) (by decide) (backOf (W := 0) (rm_len l Z a0 hw [] ob ((own_cl (own_fg p1 (8 : Int32)) (own_ad (own_fg p1 (4 : Int32)) (own_ad (own_fg p1 (2 : Int32)) (own_ad (own_fg p1 (1 : Int32)) (0 : Int32) (16383 : Int32)) (1 : Int32)) (1 : Int32))) + (1 : Int32)) T215.heap n0 Zs216 Fna215) hZ (hw _ (List.mem_of_getElem? (i := 16) rfl)) (hw _ (List.mem_of_getElem? (i := 2) rfl)) (by decide) (by decide)) q218a q218c (g := (mkF m 171 #[.val (.int p1), .val (.int p2), .val (.int p3), .val (.ref ob), .val (.ref bg), .val (.ref on), .val (.int (own_fg p1 (1 : Int32))), .val (.int (own_fg p1 (2 : Int32))), .val (.int (own_fg p1 (4 : Int32))), .val (.int (own_fg p1 (8 : Int32))), .val (.int (own_ad (own_fg p1 (4 : Int32)) (own_ad (own_fg p1 (2 : Int32)) (own_ad (own_fg p1 (1 : Int32)) (0 : Int32) (16383 : Int32)) (1 : Int32)) (1 : Int32))), .val (.int (own_cl (own_fg p1 (8 : Int32)) (own_ad (own_fg p1 (4 : Int32)) (own_ad (own_fg p1 (2 : Int32)) (own_ad (own_fg p1 (1 : Int32)) (0 : Int32) (16383 : Int32)) (1 : Int32)) (1 : Int32)))), .unset, .unset] [(.ref ob)])) rfl (by rw [hml]; rfl) (Steps.refl _) (argsL := []) (rest := []) (lenOf pd_5 rfl) rfl (by show 2 * 0 + _ ≤ _; exact Nat.le_of_eq rfl) (hb hby at_171) (fun _ _ => ⟨rfl, rfl, (by decide : 6 + 0 ≤ _), (by decide : 98306 + 0 ≤ _)⟩)
    dsimp only [Pt.U, Pt.locs, Pt.cells, Pt.slots] at X218 l218 y218 z218 st218 hQ218
    rw [l218, y218, z218] at X218
    obtain ⟨rfl, N218q, hh218⟩ := hQ218
    have N218 := Fr.app N215 N218q
    have R219 : ∀ tg, Steps p.tables e below (T218.setTop (mkF m 179 #[.val (.int p1), .val (.int p2), .val (.int p3), .val (.ref ob), .val (.ref bg), .val (.ref on), .val (.int (own_fg p1 (1 : Int32))), .val (.int (own_fg p1 (2 : Int32))), .val (.int (own_fg p1 (4 : Int32))), .val (.int (own_fg p1 (8 : Int32))), .val (.int (own_ad (own_fg p1 (4 : Int32)) (own_ad (own_fg p1 (2 : Int32)) (own_ad (own_fg p1 (1 : Int32)) (0 : Int32) (16383 : Int32)) (1 : Int32)) (1 : Int32))), .val (.int (own_cl (own_fg p1 (8 : Int32)) (own_ad (own_fg p1 (4 : Int32)) (own_ad (own_fg p1 (2 : Int32)) (own_ad (own_fg p1 (1 : Int32)) (0 : Int32) (16383 : Int32)) (1 : Int32)) (1 : Int32)))), .val (.int ((own_cl (own_fg p1 (8 : Int32)) (own_ad (own_fg p1 (4 : Int32)) (own_ad (own_fg p1 (2 : Int32)) (own_ad (own_fg p1 (1 : Int32)) (0 : Int32) (16383 : Int32)) (1 : Int32)) (1 : Int32))) + (1 : Int32))), .unset] [(.int (p3.toInt8.toInt32)), (.ref ob)])) tg → Steps p.tables e below (s₁.setTop (mkF m 0 #[.val (.int p1), .val (.int p2), .val (.int p3), .unset, .unset, .unset, .unset, .unset, .unset, .unset, .unset, .unset, .unset, .unset] [])) tg := by
      intro tg kt
      refine R217 _ ?_
      refine st218.trans ?_
      show Steps p.tables e below (T218.setTop (mkF m 174 #[.val (.int p1), .val (.int p2), .val (.int p3), .val (.ref ob), .val (.ref bg), .val (.ref on), .val (.int (own_fg p1 (1 : Int32))), .val (.int (own_fg p1 (2 : Int32))), .val (.int (own_fg p1 (4 : Int32))), .val (.int (own_fg p1 (8 : Int32))), .val (.int (own_ad (own_fg p1 (4 : Int32)) (own_ad (own_fg p1 (2 : Int32)) (own_ad (own_fg p1 (1 : Int32)) (0 : Int32) (16383 : Int32)) (1 : Int32)) (1 : Int32))), .val (.int (own_cl (own_fg p1 (8 : Int32)) (own_ad (own_fg p1 (4 : Int32)) (own_ad (own_fg p1 (2 : Int32)) (own_ad (own_fg p1 (1 : Int32)) (0 : Int32) (16383 : Int32)) (1 : Int32)) (1 : Int32)))), .unset, .unset] [(.int ((own_cl (own_fg p1 (8 : Int32)) (own_ad (own_fg p1 (4 : Int32)) (own_ad (own_fg p1 (2 : Int32)) (own_ad (own_fg p1 (1 : Int32)) (0 : Int32) (16383 : Int32)) (1 : Int32)) (1 : Int32))) + (1 : Int32)))])) _
      refine XS.istore X218.here hx rfl (hb hby at_174) rfl (l' := #[.val (.int p1), .val (.int p2), .val (.int p3), .val (.ref ob), .val (.ref bg), .val (.ref on), .val (.int (own_fg p1 (1 : Int32))), .val (.int (own_fg p1 (2 : Int32))), .val (.int (own_fg p1 (4 : Int32))), .val (.int (own_fg p1 (8 : Int32))), .val (.int (own_ad (own_fg p1 (4 : Int32)) (own_ad (own_fg p1 (2 : Int32)) (own_ad (own_fg p1 (1 : Int32)) (0 : Int32) (16383 : Int32)) (1 : Int32)) (1 : Int32))), .val (.int (own_cl (own_fg p1 (8 : Int32)) (own_ad (own_fg p1 (4 : Int32)) (own_ad (own_fg p1 (2 : Int32)) (own_ad (own_fg p1 (1 : Int32)) (0 : Int32) (16383 : Int32)) (1 : Int32)) (1 : Int32)))), .val (.int ((own_cl (own_fg p1 (8 : Int32)) (own_ad (own_fg p1 (4 : Int32)) (own_ad (own_fg p1 (2 : Int32)) (own_ad (own_fg p1 (1 : Int32)) (0 : Int32) (16383 : Int32)) (1 : Int32)) (1 : Int32))) + (1 : Int32))), .unset]) rfl ?_
      show Steps p.tables e below (T218.setTop (mkF m 176 #[.val (.int p1), .val (.int p2), .val (.int p3), .val (.ref ob), .val (.ref bg), .val (.ref on), .val (.int (own_fg p1 (1 : Int32))), .val (.int (own_fg p1 (2 : Int32))), .val (.int (own_fg p1 (4 : Int32))), .val (.int (own_fg p1 (8 : Int32))), .val (.int (own_ad (own_fg p1 (4 : Int32)) (own_ad (own_fg p1 (2 : Int32)) (own_ad (own_fg p1 (1 : Int32)) (0 : Int32) (16383 : Int32)) (1 : Int32)) (1 : Int32))), .val (.int (own_cl (own_fg p1 (8 : Int32)) (own_ad (own_fg p1 (4 : Int32)) (own_ad (own_fg p1 (2 : Int32)) (own_ad (own_fg p1 (1 : Int32)) (0 : Int32) (16383 : Int32)) (1 : Int32)) (1 : Int32)))), .val (.int ((own_cl (own_fg p1 (8 : Int32)) (own_ad (own_fg p1 (4 : Int32)) (own_ad (own_fg p1 (2 : Int32)) (own_ad (own_fg p1 (1 : Int32)) (0 : Int32) (16383 : Int32)) (1 : Int32)) (1 : Int32))) + (1 : Int32))), .unset] [])) _
      refine XS.aloadN X218.here hx rfl (hb hby at_176) rfl rfl ?_
      show Steps p.tables e below (T218.setTop (mkF m 177 #[.val (.int p1), .val (.int p2), .val (.int p3), .val (.ref ob), .val (.ref bg), .val (.ref on), .val (.int (own_fg p1 (1 : Int32))), .val (.int (own_fg p1 (2 : Int32))), .val (.int (own_fg p1 (4 : Int32))), .val (.int (own_fg p1 (8 : Int32))), .val (.int (own_ad (own_fg p1 (4 : Int32)) (own_ad (own_fg p1 (2 : Int32)) (own_ad (own_fg p1 (1 : Int32)) (0 : Int32) (16383 : Int32)) (1 : Int32)) (1 : Int32))), .val (.int (own_cl (own_fg p1 (8 : Int32)) (own_ad (own_fg p1 (4 : Int32)) (own_ad (own_fg p1 (2 : Int32)) (own_ad (own_fg p1 (1 : Int32)) (0 : Int32) (16383 : Int32)) (1 : Int32)) (1 : Int32)))), .val (.int ((own_cl (own_fg p1 (8 : Int32)) (own_ad (own_fg p1 (4 : Int32)) (own_ad (own_fg p1 (2 : Int32)) (own_ad (own_fg p1 (1 : Int32)) (0 : Int32) (16383 : Int32)) (1 : Int32)) (1 : Int32))) + (1 : Int32))), .unset] [(.ref ob)])) _
      refine XS.iloadN X218.here hx rfl (hb hby at_177) rfl ?_
      show Steps p.tables e below (T218.setTop (mkF m 178 #[.val (.int p1), .val (.int p2), .val (.int p3), .val (.ref ob), .val (.ref bg), .val (.ref on), .val (.int (own_fg p1 (1 : Int32))), .val (.int (own_fg p1 (2 : Int32))), .val (.int (own_fg p1 (4 : Int32))), .val (.int (own_fg p1 (8 : Int32))), .val (.int (own_ad (own_fg p1 (4 : Int32)) (own_ad (own_fg p1 (2 : Int32)) (own_ad (own_fg p1 (1 : Int32)) (0 : Int32) (16383 : Int32)) (1 : Int32)) (1 : Int32))), .val (.int (own_cl (own_fg p1 (8 : Int32)) (own_ad (own_fg p1 (4 : Int32)) (own_ad (own_fg p1 (2 : Int32)) (own_ad (own_fg p1 (1 : Int32)) (0 : Int32) (16383 : Int32)) (1 : Int32)) (1 : Int32)))), .val (.int ((own_cl (own_fg p1 (8 : Int32)) (own_ad (own_fg p1 (4 : Int32)) (own_ad (own_fg p1 (2 : Int32)) (own_ad (own_fg p1 (1 : Int32)) (0 : Int32) (16383 : Int32)) (1 : Int32)) (1 : Int32))) + (1 : Int32))), .unset] [(.int p3), (.ref ob)])) _
      refine XS.i2b X218.here hx rfl (hb hby at_178) rfl ?_
      exact kt
    clear R217 st218
    obtain ⟨cq220, kq220, q220a, q220b, q220c⟩ := isOf hZ hh218 Ea215
    obtain ⟨_, _, ⟨T220, L220, k220, n220⟩, -, X220, ⟨Lc220, hQ220, l220, y220, z220⟩, st220⟩ := X218.virtualBack hx (y := (⟨"com/example/travessia/travessia/core/Bytes", "add", "(B)V"⟩ : MethodName)) (z := (⟨"com/example/travessia/travessia/core/Bytes", "add", "(B)V"⟩ : MethodName)) hown (mvT hZ (hw _ (List.mem_of_getElem? (i := 19) rfl))) (mvT hZ (hw _ (List.mem_of_getElem? (i := 20) rfl))) (notFace_of_selects (args := #[]) (mvT hZ (hw _ (List.mem_of_getElem? (i := 22) rfl)))) (mvT hZ (hw _ (List.mem_of_getElem? (i := 22) rfl))) (mvT hZ (hw _ (List.mem_of_getElem? (i := 21) rfl))) (by decide) (backOf (W := 0) (rm_addB l Z a0 hw [] ob (p3.toInt8.toInt32) ((own_cl (own_fg p1 (8 : Int32)) (own_ad (own_fg p1 (4 : Int32)) (own_ad (own_fg p1 (2 : Int32)) (own_ad (own_fg p1 (1 : Int32)) (0 : Int32) (16383 : Int32)) (1 : Int32)) (1 : Int32))) + (1 : Int32)) u1 kap1 (n4 + 1) T215.heap n0 Zs216 Ea215 Fba215 Fna215 VBa215 g_ob nu1 gu1 eu1 hk1 (own_b1 qu1 (by decide))) hZ (hw _ (List.mem_of_getElem? (i := 23) rfl)) (hw _ (List.mem_of_getElem? (i := 2) rfl)) (by decide) (by decide)) q220a q220c (g := (mkF m 179 #[.val (.int p1), .val (.int p2), .val (.int p3), .val (.ref ob), .val (.ref bg), .val (.ref on), .val (.int (own_fg p1 (1 : Int32))), .val (.int (own_fg p1 (2 : Int32))), .val (.int (own_fg p1 (4 : Int32))), .val (.int (own_fg p1 (8 : Int32))), .val (.int (own_ad (own_fg p1 (4 : Int32)) (own_ad (own_fg p1 (2 : Int32)) (own_ad (own_fg p1 (1 : Int32)) (0 : Int32) (16383 : Int32)) (1 : Int32)) (1 : Int32))), .val (.int (own_cl (own_fg p1 (8 : Int32)) (own_ad (own_fg p1 (4 : Int32)) (own_ad (own_fg p1 (2 : Int32)) (own_ad (own_fg p1 (1 : Int32)) (0 : Int32) (16383 : Int32)) (1 : Int32)) (1 : Int32)))), .val (.int ((own_cl (own_fg p1 (8 : Int32)) (own_ad (own_fg p1 (4 : Int32)) (own_ad (own_fg p1 (2 : Int32)) (own_ad (own_fg p1 (1 : Int32)) (0 : Int32) (16383 : Int32)) (1 : Int32)) (1 : Int32))) + (1 : Int32))), .unset] [(.int (p3.toInt8.toInt32)), (.ref ob)])) rfl (by rw [hml]; rfl) (Steps.refl _) (argsL := [(.int (p3.toInt8.toInt32))]) (rest := []) (lenOf pd_6 rfl) rfl (by show 2 * 0 + _ ≤ _; exact Nat.le_of_eq rfl) (hb hby at_179) (fun _ _ => ⟨rfl, hh218, (by decide : 6 + 1 ≤ _), (by decide : 98306 + 32768 ≤ _)⟩)
    dsimp only [Pt.U, Pt.locs, Pt.cells, Pt.slots] at X220 l220 y220 z220 st220 hQ220
    rw [l220, y220, z220] at X220
    obtain ⟨rfl, N220q, K220, u2, kap2, hu2, hk2, hl2, Ea220, Fba220, Fna220, VBa220⟩ := hQ220
    have N220 := Fr.app N218 N220q
    have Zs221 : n0 ≤ T220.heap.size := Nat.le_trans Zs216 K220.1
    have gu2 := own_g2 hu2 gu1 Zs216
    have nu2 := own_n2 hu2 nu1 Ea215.lt
    have eu2 := own_ladd ((own_cl (own_fg p1 (8 : Int32)) (own_ad (own_fg p1 (4 : Int32)) (own_ad (own_fg p1 (2 : Int32)) (own_ad (own_fg p1 (1 : Int32)) (0 : Int32) (16383 : Int32)) (1 : Int32)) (1 : Int32))) + (1 : Int32)) (1 : Int32) (n4 + 1) 1 eu1 rfl (own_b1 qu1 (by decide))
    have qu2 : (n4 + 1) + 1 ≤ 16387 := own_b1 qu1 (by decide)
    have R222 : ∀ tg, Steps p.tables e below (T220.setTop (mkF m 183 #[.val (.int p1), .val (.int p2), .val (.int p3), .val (.ref ob), .val (.ref bg), .val (.ref on), .val (.int (own_fg p1 (1 : Int32))), .val (.int (own_fg p1 (2 : Int32))), .val (.int (own_fg p1 (4 : Int32))), .val (.int (own_fg p1 (8 : Int32))), .val (.int (own_ad (own_fg p1 (4 : Int32)) (own_ad (own_fg p1 (2 : Int32)) (own_ad (own_fg p1 (1 : Int32)) (0 : Int32) (16383 : Int32)) (1 : Int32)) (1 : Int32))), .val (.int (own_cl (own_fg p1 (8 : Int32)) (own_ad (own_fg p1 (4 : Int32)) (own_ad (own_fg p1 (2 : Int32)) (own_ad (own_fg p1 (1 : Int32)) (0 : Int32) (16383 : Int32)) (1 : Int32)) (1 : Int32)))), .val (.int ((own_cl (own_fg p1 (8 : Int32)) (own_ad (own_fg p1 (4 : Int32)) (own_ad (own_fg p1 (2 : Int32)) (own_ad (own_fg p1 (1 : Int32)) (0 : Int32) (16383 : Int32)) (1 : Int32)) (1 : Int32))) + (1 : Int32))), .unset] [(.ref ob)])) tg → Steps p.tables e below (s₁.setTop (mkF m 0 #[.val (.int p1), .val (.int p2), .val (.int p3), .unset, .unset, .unset, .unset, .unset, .unset, .unset, .unset, .unset, .unset, .unset] [])) tg := by
      intro tg kt
      refine R219 _ ?_
      refine st220.trans ?_
      show Steps p.tables e below (T220.setTop (mkF m 182 #[.val (.int p1), .val (.int p2), .val (.int p3), .val (.ref ob), .val (.ref bg), .val (.ref on), .val (.int (own_fg p1 (1 : Int32))), .val (.int (own_fg p1 (2 : Int32))), .val (.int (own_fg p1 (4 : Int32))), .val (.int (own_fg p1 (8 : Int32))), .val (.int (own_ad (own_fg p1 (4 : Int32)) (own_ad (own_fg p1 (2 : Int32)) (own_ad (own_fg p1 (1 : Int32)) (0 : Int32) (16383 : Int32)) (1 : Int32)) (1 : Int32))), .val (.int (own_cl (own_fg p1 (8 : Int32)) (own_ad (own_fg p1 (4 : Int32)) (own_ad (own_fg p1 (2 : Int32)) (own_ad (own_fg p1 (1 : Int32)) (0 : Int32) (16383 : Int32)) (1 : Int32)) (1 : Int32)))), .val (.int ((own_cl (own_fg p1 (8 : Int32)) (own_ad (own_fg p1 (4 : Int32)) (own_ad (own_fg p1 (2 : Int32)) (own_ad (own_fg p1 (1 : Int32)) (0 : Int32) (16383 : Int32)) (1 : Int32)) (1 : Int32))) + (1 : Int32))), .unset] [])) _
      refine XS.aloadN X220.here hx rfl (hb hby at_182) rfl rfl ?_
      exact kt
    clear R219 st220
    obtain ⟨cq223, kq223, q223a, q223b, q223c⟩ := isOf hZ rfl Ea220
    obtain ⟨_, _, ⟨T223, L223, k223, n223⟩, -, X223, ⟨Lc223, hQ223, l223, y223, z223⟩, st223⟩ := X220.virtualBack hx (y := (⟨"com/example/travessia/travessia/core/Bytes", "length", "()I"⟩ : MethodName)) (z := (⟨"com/example/travessia/travessia/core/Bytes", "length", "()I"⟩ : MethodName)) hown (mvT hZ (hw _ (List.mem_of_getElem? (i := 12) rfl))) (mvT hZ (hw _ (List.mem_of_getElem? (i := 13) rfl))) (notFace_of_selects (args := #[]) (mvT hZ (hw _ (List.mem_of_getElem? (i := 15) rfl)))) (mvT hZ (hw _ (List.mem_of_getElem? (i := 15) rfl))) (mvT hZ (hw _ (List.mem_of_getElem? (i := 14) rfl))) (by decide) (backOf (W := 0) (rm_len l Z a0 hw [] ob (((own_cl (own_fg p1 (8 : Int32)) (own_ad (own_fg p1 (4 : Int32)) (own_ad (own_fg p1 (2 : Int32)) (own_ad (own_fg p1 (1 : Int32)) (0 : Int32) (16383 : Int32)) (1 : Int32)) (1 : Int32))) + (1 : Int32)) + (1 : Int32)) T220.heap n0 Zs221 Fna220) hZ (hw _ (List.mem_of_getElem? (i := 16) rfl)) (hw _ (List.mem_of_getElem? (i := 2) rfl)) (by decide) (by decide)) q223a q223c (g := (mkF m 183 #[.val (.int p1), .val (.int p2), .val (.int p3), .val (.ref ob), .val (.ref bg), .val (.ref on), .val (.int (own_fg p1 (1 : Int32))), .val (.int (own_fg p1 (2 : Int32))), .val (.int (own_fg p1 (4 : Int32))), .val (.int (own_fg p1 (8 : Int32))), .val (.int (own_ad (own_fg p1 (4 : Int32)) (own_ad (own_fg p1 (2 : Int32)) (own_ad (own_fg p1 (1 : Int32)) (0 : Int32) (16383 : Int32)) (1 : Int32)) (1 : Int32))), .val (.int (own_cl (own_fg p1 (8 : Int32)) (own_ad (own_fg p1 (4 : Int32)) (own_ad (own_fg p1 (2 : Int32)) (own_ad (own_fg p1 (1 : Int32)) (0 : Int32) (16383 : Int32)) (1 : Int32)) (1 : Int32)))), .val (.int ((own_cl (own_fg p1 (8 : Int32)) (own_ad (own_fg p1 (4 : Int32)) (own_ad (own_fg p1 (2 : Int32)) (own_ad (own_fg p1 (1 : Int32)) (0 : Int32) (16383 : Int32)) (1 : Int32)) (1 : Int32))) + (1 : Int32))), .unset] [(.ref ob)])) rfl (by rw [hml]; rfl) (Steps.refl _) (argsL := []) (rest := []) (lenOf pd_5 rfl) rfl (by show 2 * 0 + _ ≤ _; exact Nat.le_of_eq rfl) (hb hby at_183) (fun _ _ => ⟨rfl, rfl, (by decide : 7 + 0 ≤ _), (by decide : 131074 + 0 ≤ _)⟩)
    dsimp only [Pt.U, Pt.locs, Pt.cells, Pt.slots] at X223 l223 y223 z223 st223 hQ223
    rw [l223, y223, z223] at X223
    obtain ⟨rfl, N223q, hh223⟩ := hQ223
    have N223 := Fr.app N220 N223q
    have R224 : ∀ tg, Steps p.tables e below (T223.setTop (mkF m 218 #[.val (.int p1), .val (.int p2), .val (.int p3), .val (.ref ob), .val (.ref bg), .val (.ref on), .val (.int (own_fg p1 (1 : Int32))), .val (.int (own_fg p1 (2 : Int32))), .val (.int (own_fg p1 (4 : Int32))), .val (.int (own_fg p1 (8 : Int32))), .val (.int (own_ad (own_fg p1 (4 : Int32)) (own_ad (own_fg p1 (2 : Int32)) (own_ad (own_fg p1 (1 : Int32)) (0 : Int32) (16383 : Int32)) (1 : Int32)) (1 : Int32))), .val (.int (own_cl (own_fg p1 (8 : Int32)) (own_ad (own_fg p1 (4 : Int32)) (own_ad (own_fg p1 (2 : Int32)) (own_ad (own_fg p1 (1 : Int32)) (0 : Int32) (16383 : Int32)) (1 : Int32)) (1 : Int32)))), .val (.int ((own_cl (own_fg p1 (8 : Int32)) (own_ad (own_fg p1 (4 : Int32)) (own_ad (own_fg p1 (2 : Int32)) (own_ad (own_fg p1 (1 : Int32)) (0 : Int32) (16383 : Int32)) (1 : Int32)) (1 : Int32))) + (1 : Int32))), .val (.int (((own_cl (own_fg p1 (8 : Int32)) (own_ad (own_fg p1 (4 : Int32)) (own_ad (own_fg p1 (2 : Int32)) (own_ad (own_fg p1 (1 : Int32)) (0 : Int32) (16383 : Int32)) (1 : Int32)) (1 : Int32))) + (1 : Int32)) + (1 : Int32)))] [(.int (1 : Int32))])) tg → Steps p.tables e below (s₁.setTop (mkF m 0 #[.val (.int p1), .val (.int p2), .val (.int p3), .unset, .unset, .unset, .unset, .unset, .unset, .unset, .unset, .unset, .unset, .unset] [])) tg := by
      intro tg kt
      refine R222 _ ?_
      refine st223.trans ?_
      show Steps p.tables e below (T223.setTop (mkF m 186 #[.val (.int p1), .val (.int p2), .val (.int p3), .val (.ref ob), .val (.ref bg), .val (.ref on), .val (.int (own_fg p1 (1 : Int32))), .val (.int (own_fg p1 (2 : Int32))), .val (.int (own_fg p1 (4 : Int32))), .val (.int (own_fg p1 (8 : Int32))), .val (.int (own_ad (own_fg p1 (4 : Int32)) (own_ad (own_fg p1 (2 : Int32)) (own_ad (own_fg p1 (1 : Int32)) (0 : Int32) (16383 : Int32)) (1 : Int32)) (1 : Int32))), .val (.int (own_cl (own_fg p1 (8 : Int32)) (own_ad (own_fg p1 (4 : Int32)) (own_ad (own_fg p1 (2 : Int32)) (own_ad (own_fg p1 (1 : Int32)) (0 : Int32) (16383 : Int32)) (1 : Int32)) (1 : Int32)))), .val (.int ((own_cl (own_fg p1 (8 : Int32)) (own_ad (own_fg p1 (4 : Int32)) (own_ad (own_fg p1 (2 : Int32)) (own_ad (own_fg p1 (1 : Int32)) (0 : Int32) (16383 : Int32)) (1 : Int32)) (1 : Int32))) + (1 : Int32))), .unset] [(.int (((own_cl (own_fg p1 (8 : Int32)) (own_ad (own_fg p1 (4 : Int32)) (own_ad (own_fg p1 (2 : Int32)) (own_ad (own_fg p1 (1 : Int32)) (0 : Int32) (16383 : Int32)) (1 : Int32)) (1 : Int32))) + (1 : Int32)) + (1 : Int32)))])) _
      refine XS.istore X223.here hx rfl (hb hby at_186) rfl (l' := #[.val (.int p1), .val (.int p2), .val (.int p3), .val (.ref ob), .val (.ref bg), .val (.ref on), .val (.int (own_fg p1 (1 : Int32))), .val (.int (own_fg p1 (2 : Int32))), .val (.int (own_fg p1 (4 : Int32))), .val (.int (own_fg p1 (8 : Int32))), .val (.int (own_ad (own_fg p1 (4 : Int32)) (own_ad (own_fg p1 (2 : Int32)) (own_ad (own_fg p1 (1 : Int32)) (0 : Int32) (16383 : Int32)) (1 : Int32)) (1 : Int32))), .val (.int (own_cl (own_fg p1 (8 : Int32)) (own_ad (own_fg p1 (4 : Int32)) (own_ad (own_fg p1 (2 : Int32)) (own_ad (own_fg p1 (1 : Int32)) (0 : Int32) (16383 : Int32)) (1 : Int32)) (1 : Int32)))), .val (.int ((own_cl (own_fg p1 (8 : Int32)) (own_ad (own_fg p1 (4 : Int32)) (own_ad (own_fg p1 (2 : Int32)) (own_ad (own_fg p1 (1 : Int32)) (0 : Int32) (16383 : Int32)) (1 : Int32)) (1 : Int32))) + (1 : Int32))), .val (.int (((own_cl (own_fg p1 (8 : Int32)) (own_ad (own_fg p1 (4 : Int32)) (own_ad (own_fg p1 (2 : Int32)) (own_ad (own_fg p1 (1 : Int32)) (0 : Int32) (16383 : Int32)) (1 : Int32)) (1 : Int32))) + (1 : Int32)) + (1 : Int32)))]) rfl ?_
      show Steps p.tables e below (T223.setTop (mkF m 188 #[.val (.int p1), .val (.int p2), .val (.int p3), .val (.ref ob), .val (.ref bg), .val (.ref on), .val (.int (own_fg p1 (1 : Int32))), .val (.int (own_fg p1 (2 : Int32))), .val (.int (own_fg p1 (4 : Int32))), .val (.int (own_fg p1 (8 : Int32))), .val (.int (own_ad (own_fg p1 (4 : Int32)) (own_ad (own_fg p1 (2 : Int32)) (own_ad (own_fg p1 (1 : Int32)) (0 : Int32) (16383 : Int32)) (1 : Int32)) (1 : Int32))), .val (.int (own_cl (own_fg p1 (8 : Int32)) (own_ad (own_fg p1 (4 : Int32)) (own_ad (own_fg p1 (2 : Int32)) (own_ad (own_fg p1 (1 : Int32)) (0 : Int32) (16383 : Int32)) (1 : Int32)) (1 : Int32)))), .val (.int ((own_cl (own_fg p1 (8 : Int32)) (own_ad (own_fg p1 (4 : Int32)) (own_ad (own_fg p1 (2 : Int32)) (own_ad (own_fg p1 (1 : Int32)) (0 : Int32) (16383 : Int32)) (1 : Int32)) (1 : Int32))) + (1 : Int32))), .val (.int (((own_cl (own_fg p1 (8 : Int32)) (own_ad (own_fg p1 (4 : Int32)) (own_ad (own_fg p1 (2 : Int32)) (own_ad (own_fg p1 (1 : Int32)) (0 : Int32) (16383 : Int32)) (1 : Int32)) (1 : Int32))) + (1 : Int32)) + (1 : Int32)))] [])) _
      refine XS.iload X223.here hx rfl (hb hby at_188) rfl ?_
      show Steps p.tables e below (T223.setTop (mkF m 190 #[.val (.int p1), .val (.int p2), .val (.int p3), .val (.ref ob), .val (.ref bg), .val (.ref on), .val (.int (own_fg p1 (1 : Int32))), .val (.int (own_fg p1 (2 : Int32))), .val (.int (own_fg p1 (4 : Int32))), .val (.int (own_fg p1 (8 : Int32))), .val (.int (own_ad (own_fg p1 (4 : Int32)) (own_ad (own_fg p1 (2 : Int32)) (own_ad (own_fg p1 (1 : Int32)) (0 : Int32) (16383 : Int32)) (1 : Int32)) (1 : Int32))), .val (.int (own_cl (own_fg p1 (8 : Int32)) (own_ad (own_fg p1 (4 : Int32)) (own_ad (own_fg p1 (2 : Int32)) (own_ad (own_fg p1 (1 : Int32)) (0 : Int32) (16383 : Int32)) (1 : Int32)) (1 : Int32)))), .val (.int ((own_cl (own_fg p1 (8 : Int32)) (own_ad (own_fg p1 (4 : Int32)) (own_ad (own_fg p1 (2 : Int32)) (own_ad (own_fg p1 (1 : Int32)) (0 : Int32) (16383 : Int32)) (1 : Int32)) (1 : Int32))) + (1 : Int32))), .val (.int (((own_cl (own_fg p1 (8 : Int32)) (own_ad (own_fg p1 (4 : Int32)) (own_ad (own_fg p1 (2 : Int32)) (own_ad (own_fg p1 (1 : Int32)) (0 : Int32) (16383 : Int32)) (1 : Int32)) (1 : Int32))) + (1 : Int32)) + (1 : Int32)))] [(.int (own_cl (own_fg p1 (8 : Int32)) (own_ad (own_fg p1 (4 : Int32)) (own_ad (own_fg p1 (2 : Int32)) (own_ad (own_fg p1 (1 : Int32)) (0 : Int32) (16383 : Int32)) (1 : Int32)) (1 : Int32))))])) _
      refine XS.iload X223.here hx rfl (hb hby at_190) rfl ?_
      show Steps p.tables e below (T223.setTop (mkF m 192 #[.val (.int p1), .val (.int p2), .val (.int p3), .val (.ref ob), .val (.ref bg), .val (.ref on), .val (.int (own_fg p1 (1 : Int32))), .val (.int (own_fg p1 (2 : Int32))), .val (.int (own_fg p1 (4 : Int32))), .val (.int (own_fg p1 (8 : Int32))), .val (.int (own_ad (own_fg p1 (4 : Int32)) (own_ad (own_fg p1 (2 : Int32)) (own_ad (own_fg p1 (1 : Int32)) (0 : Int32) (16383 : Int32)) (1 : Int32)) (1 : Int32))), .val (.int (own_cl (own_fg p1 (8 : Int32)) (own_ad (own_fg p1 (4 : Int32)) (own_ad (own_fg p1 (2 : Int32)) (own_ad (own_fg p1 (1 : Int32)) (0 : Int32) (16383 : Int32)) (1 : Int32)) (1 : Int32)))), .val (.int ((own_cl (own_fg p1 (8 : Int32)) (own_ad (own_fg p1 (4 : Int32)) (own_ad (own_fg p1 (2 : Int32)) (own_ad (own_fg p1 (1 : Int32)) (0 : Int32) (16383 : Int32)) (1 : Int32)) (1 : Int32))) + (1 : Int32))), .val (.int (((own_cl (own_fg p1 (8 : Int32)) (own_ad (own_fg p1 (4 : Int32)) (own_ad (own_fg p1 (2 : Int32)) (own_ad (own_fg p1 (1 : Int32)) (0 : Int32) (16383 : Int32)) (1 : Int32)) (1 : Int32))) + (1 : Int32)) + (1 : Int32)))] [(.int (own_ad (own_fg p1 (4 : Int32)) (own_ad (own_fg p1 (2 : Int32)) (own_ad (own_fg p1 (1 : Int32)) (0 : Int32) (16383 : Int32)) (1 : Int32)) (1 : Int32))), (.int (own_cl (own_fg p1 (8 : Int32)) (own_ad (own_fg p1 (4 : Int32)) (own_ad (own_fg p1 (2 : Int32)) (own_ad (own_fg p1 (1 : Int32)) (0 : Int32) (16383 : Int32)) (1 : Int32)) (1 : Int32))))])) _
      refine XS.icmpNo X223.here hx rfl (hb hby at_192) rfl (teq (hE : (own_cl (own_fg p1 (8 : Int32)) (own_ad (own_fg p1 (4 : Int32)) (own_ad (own_fg p1 (2 : Int32)) (own_ad (own_fg p1 (1 : Int32)) (0 : Int32) (16383 : Int32)) (1 : Int32)) (1 : Int32))) = (own_ad (own_fg p1 (4 : Int32)) (own_ad (own_fg p1 (2 : Int32)) (own_ad (own_fg p1 (1 : Int32)) (0 : Int32) (16383 : Int32)) (1 : Int32)) (1 : Int32)))).2 ?_
      show Steps p.tables e below (T223.setTop (mkF m 195 #[.val (.int p1), .val (.int p2), .val (.int p3), .val (.ref ob), .val (.ref bg), .val (.ref on), .val (.int (own_fg p1 (1 : Int32))), .val (.int (own_fg p1 (2 : Int32))), .val (.int (own_fg p1 (4 : Int32))), .val (.int (own_fg p1 (8 : Int32))), .val (.int (own_ad (own_fg p1 (4 : Int32)) (own_ad (own_fg p1 (2 : Int32)) (own_ad (own_fg p1 (1 : Int32)) (0 : Int32) (16383 : Int32)) (1 : Int32)) (1 : Int32))), .val (.int (own_cl (own_fg p1 (8 : Int32)) (own_ad (own_fg p1 (4 : Int32)) (own_ad (own_fg p1 (2 : Int32)) (own_ad (own_fg p1 (1 : Int32)) (0 : Int32) (16383 : Int32)) (1 : Int32)) (1 : Int32)))), .val (.int ((own_cl (own_fg p1 (8 : Int32)) (own_ad (own_fg p1 (4 : Int32)) (own_ad (own_fg p1 (2 : Int32)) (own_ad (own_fg p1 (1 : Int32)) (0 : Int32) (16383 : Int32)) (1 : Int32)) (1 : Int32))) + (1 : Int32))), .val (.int (((own_cl (own_fg p1 (8 : Int32)) (own_ad (own_fg p1 (4 : Int32)) (own_ad (own_fg p1 (2 : Int32)) (own_ad (own_fg p1 (1 : Int32)) (0 : Int32) (16383 : Int32)) (1 : Int32)) (1 : Int32))) + (1 : Int32)) + (1 : Int32)))] [])) _
      refine XS.iload X223.here hx rfl (hb hby at_195) rfl ?_
      show Steps p.tables e below (T223.setTop (mkF m 197 #[.val (.int p1), .val (.int p2), .val (.int p3), .val (.ref ob), .val (.ref bg), .val (.ref on), .val (.int (own_fg p1 (1 : Int32))), .val (.int (own_fg p1 (2 : Int32))), .val (.int (own_fg p1 (4 : Int32))), .val (.int (own_fg p1 (8 : Int32))), .val (.int (own_ad (own_fg p1 (4 : Int32)) (own_ad (own_fg p1 (2 : Int32)) (own_ad (own_fg p1 (1 : Int32)) (0 : Int32) (16383 : Int32)) (1 : Int32)) (1 : Int32))), .val (.int (own_cl (own_fg p1 (8 : Int32)) (own_ad (own_fg p1 (4 : Int32)) (own_ad (own_fg p1 (2 : Int32)) (own_ad (own_fg p1 (1 : Int32)) (0 : Int32) (16383 : Int32)) (1 : Int32)) (1 : Int32)))), .val (.int ((own_cl (own_fg p1 (8 : Int32)) (own_ad (own_fg p1 (4 : Int32)) (own_ad (own_fg p1 (2 : Int32)) (own_ad (own_fg p1 (1 : Int32)) (0 : Int32) (16383 : Int32)) (1 : Int32)) (1 : Int32))) + (1 : Int32))), .val (.int (((own_cl (own_fg p1 (8 : Int32)) (own_ad (own_fg p1 (4 : Int32)) (own_ad (own_fg p1 (2 : Int32)) (own_ad (own_fg p1 (1 : Int32)) (0 : Int32) (16383 : Int32)) (1 : Int32)) (1 : Int32))) + (1 : Int32)) + (1 : Int32)))] [(.int ((own_cl (own_fg p1 (8 : Int32)) (own_ad (own_fg p1 (4 : Int32)) (own_ad (own_fg p1 (2 : Int32)) (own_ad (own_fg p1 (1 : Int32)) (0 : Int32) (16383 : Int32)) (1 : Int32)) (1 : Int32))) + (1 : Int32)))])) _
      refine XS.iload X223.here hx rfl (hb hby at_197) rfl ?_
      show Steps p.tables e below (T223.setTop (mkF m 199 #[.val (.int p1), .val (.int p2), .val (.int p3), .val (.ref ob), .val (.ref bg), .val (.ref on), .val (.int (own_fg p1 (1 : Int32))), .val (.int (own_fg p1 (2 : Int32))), .val (.int (own_fg p1 (4 : Int32))), .val (.int (own_fg p1 (8 : Int32))), .val (.int (own_ad (own_fg p1 (4 : Int32)) (own_ad (own_fg p1 (2 : Int32)) (own_ad (own_fg p1 (1 : Int32)) (0 : Int32) (16383 : Int32)) (1 : Int32)) (1 : Int32))), .val (.int (own_cl (own_fg p1 (8 : Int32)) (own_ad (own_fg p1 (4 : Int32)) (own_ad (own_fg p1 (2 : Int32)) (own_ad (own_fg p1 (1 : Int32)) (0 : Int32) (16383 : Int32)) (1 : Int32)) (1 : Int32)))), .val (.int ((own_cl (own_fg p1 (8 : Int32)) (own_ad (own_fg p1 (4 : Int32)) (own_ad (own_fg p1 (2 : Int32)) (own_ad (own_fg p1 (1 : Int32)) (0 : Int32) (16383 : Int32)) (1 : Int32)) (1 : Int32))) + (1 : Int32))), .val (.int (((own_cl (own_fg p1 (8 : Int32)) (own_ad (own_fg p1 (4 : Int32)) (own_ad (own_fg p1 (2 : Int32)) (own_ad (own_fg p1 (1 : Int32)) (0 : Int32) (16383 : Int32)) (1 : Int32)) (1 : Int32))) + (1 : Int32)) + (1 : Int32)))] [(.int (own_ad (own_fg p1 (4 : Int32)) (own_ad (own_fg p1 (2 : Int32)) (own_ad (own_fg p1 (1 : Int32)) (0 : Int32) (16383 : Int32)) (1 : Int32)) (1 : Int32))), (.int ((own_cl (own_fg p1 (8 : Int32)) (own_ad (own_fg p1 (4 : Int32)) (own_ad (own_fg p1 (2 : Int32)) (own_ad (own_fg p1 (1 : Int32)) (0 : Int32) (16383 : Int32)) (1 : Int32)) (1 : Int32))) + (1 : Int32)))])) _
      refine XS.iconst X223.here hx rfl (hb hby at_199) ?_
      show Steps p.tables e below (T223.setTop (mkF m 200 #[.val (.int p1), .val (.int p2), .val (.int p3), .val (.ref ob), .val (.ref bg), .val (.ref on), .val (.int (own_fg p1 (1 : Int32))), .val (.int (own_fg p1 (2 : Int32))), .val (.int (own_fg p1 (4 : Int32))), .val (.int (own_fg p1 (8 : Int32))), .val (.int (own_ad (own_fg p1 (4 : Int32)) (own_ad (own_fg p1 (2 : Int32)) (own_ad (own_fg p1 (1 : Int32)) (0 : Int32) (16383 : Int32)) (1 : Int32)) (1 : Int32))), .val (.int (own_cl (own_fg p1 (8 : Int32)) (own_ad (own_fg p1 (4 : Int32)) (own_ad (own_fg p1 (2 : Int32)) (own_ad (own_fg p1 (1 : Int32)) (0 : Int32) (16383 : Int32)) (1 : Int32)) (1 : Int32)))), .val (.int ((own_cl (own_fg p1 (8 : Int32)) (own_ad (own_fg p1 (4 : Int32)) (own_ad (own_fg p1 (2 : Int32)) (own_ad (own_fg p1 (1 : Int32)) (0 : Int32) (16383 : Int32)) (1 : Int32)) (1 : Int32))) + (1 : Int32))), .val (.int (((own_cl (own_fg p1 (8 : Int32)) (own_ad (own_fg p1 (4 : Int32)) (own_ad (own_fg p1 (2 : Int32)) (own_ad (own_fg p1 (1 : Int32)) (0 : Int32) (16383 : Int32)) (1 : Int32)) (1 : Int32))) + (1 : Int32)) + (1 : Int32)))] [(.int (1 : Int32)), (.int (own_ad (own_fg p1 (4 : Int32)) (own_ad (own_fg p1 (2 : Int32)) (own_ad (own_fg p1 (1 : Int32)) (0 : Int32) (16383 : Int32)) (1 : Int32)) (1 : Int32))), (.int ((own_cl (own_fg p1 (8 : Int32)) (own_ad (own_fg p1 (4 : Int32)) (own_ad (own_fg p1 (2 : Int32)) (own_ad (own_fg p1 (1 : Int32)) (0 : Int32) (16383 : Int32)) (1 : Int32)) (1 : Int32))) + (1 : Int32)))])) _
      refine XS.iadd X223.here hx rfl (hb hby at_200) rfl ?_
      show Steps p.tables e below (T223.setTop (mkF m 201 #[.val (.int p1), .val (.int p2), .val (.int p3), .val (.ref ob), .val (.ref bg), .val (.ref on), .val (.int (own_fg p1 (1 : Int32))), .val (.int (own_fg p1 (2 : Int32))), .val (.int (own_fg p1 (4 : Int32))), .val (.int (own_fg p1 (8 : Int32))), .val (.int (own_ad (own_fg p1 (4 : Int32)) (own_ad (own_fg p1 (2 : Int32)) (own_ad (own_fg p1 (1 : Int32)) (0 : Int32) (16383 : Int32)) (1 : Int32)) (1 : Int32))), .val (.int (own_cl (own_fg p1 (8 : Int32)) (own_ad (own_fg p1 (4 : Int32)) (own_ad (own_fg p1 (2 : Int32)) (own_ad (own_fg p1 (1 : Int32)) (0 : Int32) (16383 : Int32)) (1 : Int32)) (1 : Int32)))), .val (.int ((own_cl (own_fg p1 (8 : Int32)) (own_ad (own_fg p1 (4 : Int32)) (own_ad (own_fg p1 (2 : Int32)) (own_ad (own_fg p1 (1 : Int32)) (0 : Int32) (16383 : Int32)) (1 : Int32)) (1 : Int32))) + (1 : Int32))), .val (.int (((own_cl (own_fg p1 (8 : Int32)) (own_ad (own_fg p1 (4 : Int32)) (own_ad (own_fg p1 (2 : Int32)) (own_ad (own_fg p1 (1 : Int32)) (0 : Int32) (16383 : Int32)) (1 : Int32)) (1 : Int32))) + (1 : Int32)) + (1 : Int32)))] [(.int ((own_ad (own_fg p1 (4 : Int32)) (own_ad (own_fg p1 (2 : Int32)) (own_ad (own_fg p1 (1 : Int32)) (0 : Int32) (16383 : Int32)) (1 : Int32)) (1 : Int32)) + (1 : Int32))), (.int ((own_cl (own_fg p1 (8 : Int32)) (own_ad (own_fg p1 (4 : Int32)) (own_ad (own_fg p1 (2 : Int32)) (own_ad (own_fg p1 (1 : Int32)) (0 : Int32) (16383 : Int32)) (1 : Int32)) (1 : Int32))) + (1 : Int32)))])) _
      refine XS.icmpNo X223.here hx rfl (hb hby at_201) rfl (teq (congrArg (· + (1 : Int32)) hE : ((own_cl (own_fg p1 (8 : Int32)) (own_ad (own_fg p1 (4 : Int32)) (own_ad (own_fg p1 (2 : Int32)) (own_ad (own_fg p1 (1 : Int32)) (0 : Int32) (16383 : Int32)) (1 : Int32)) (1 : Int32))) + (1 : Int32)) = ((own_ad (own_fg p1 (4 : Int32)) (own_ad (own_fg p1 (2 : Int32)) (own_ad (own_fg p1 (1 : Int32)) (0 : Int32) (16383 : Int32)) (1 : Int32)) (1 : Int32)) + (1 : Int32)))).2 ?_
      show Steps p.tables e below (T223.setTop (mkF m 204 #[.val (.int p1), .val (.int p2), .val (.int p3), .val (.ref ob), .val (.ref bg), .val (.ref on), .val (.int (own_fg p1 (1 : Int32))), .val (.int (own_fg p1 (2 : Int32))), .val (.int (own_fg p1 (4 : Int32))), .val (.int (own_fg p1 (8 : Int32))), .val (.int (own_ad (own_fg p1 (4 : Int32)) (own_ad (own_fg p1 (2 : Int32)) (own_ad (own_fg p1 (1 : Int32)) (0 : Int32) (16383 : Int32)) (1 : Int32)) (1 : Int32))), .val (.int (own_cl (own_fg p1 (8 : Int32)) (own_ad (own_fg p1 (4 : Int32)) (own_ad (own_fg p1 (2 : Int32)) (own_ad (own_fg p1 (1 : Int32)) (0 : Int32) (16383 : Int32)) (1 : Int32)) (1 : Int32)))), .val (.int ((own_cl (own_fg p1 (8 : Int32)) (own_ad (own_fg p1 (4 : Int32)) (own_ad (own_fg p1 (2 : Int32)) (own_ad (own_fg p1 (1 : Int32)) (0 : Int32) (16383 : Int32)) (1 : Int32)) (1 : Int32))) + (1 : Int32))), .val (.int (((own_cl (own_fg p1 (8 : Int32)) (own_ad (own_fg p1 (4 : Int32)) (own_ad (own_fg p1 (2 : Int32)) (own_ad (own_fg p1 (1 : Int32)) (0 : Int32) (16383 : Int32)) (1 : Int32)) (1 : Int32))) + (1 : Int32)) + (1 : Int32)))] [])) _
      refine XS.iload X223.here hx rfl (hb hby at_204) rfl ?_
      show Steps p.tables e below (T223.setTop (mkF m 206 #[.val (.int p1), .val (.int p2), .val (.int p3), .val (.ref ob), .val (.ref bg), .val (.ref on), .val (.int (own_fg p1 (1 : Int32))), .val (.int (own_fg p1 (2 : Int32))), .val (.int (own_fg p1 (4 : Int32))), .val (.int (own_fg p1 (8 : Int32))), .val (.int (own_ad (own_fg p1 (4 : Int32)) (own_ad (own_fg p1 (2 : Int32)) (own_ad (own_fg p1 (1 : Int32)) (0 : Int32) (16383 : Int32)) (1 : Int32)) (1 : Int32))), .val (.int (own_cl (own_fg p1 (8 : Int32)) (own_ad (own_fg p1 (4 : Int32)) (own_ad (own_fg p1 (2 : Int32)) (own_ad (own_fg p1 (1 : Int32)) (0 : Int32) (16383 : Int32)) (1 : Int32)) (1 : Int32)))), .val (.int ((own_cl (own_fg p1 (8 : Int32)) (own_ad (own_fg p1 (4 : Int32)) (own_ad (own_fg p1 (2 : Int32)) (own_ad (own_fg p1 (1 : Int32)) (0 : Int32) (16383 : Int32)) (1 : Int32)) (1 : Int32))) + (1 : Int32))), .val (.int (((own_cl (own_fg p1 (8 : Int32)) (own_ad (own_fg p1 (4 : Int32)) (own_ad (own_fg p1 (2 : Int32)) (own_ad (own_fg p1 (1 : Int32)) (0 : Int32) (16383 : Int32)) (1 : Int32)) (1 : Int32))) + (1 : Int32)) + (1 : Int32)))] [(.int (((own_cl (own_fg p1 (8 : Int32)) (own_ad (own_fg p1 (4 : Int32)) (own_ad (own_fg p1 (2 : Int32)) (own_ad (own_fg p1 (1 : Int32)) (0 : Int32) (16383 : Int32)) (1 : Int32)) (1 : Int32))) + (1 : Int32)) + (1 : Int32)))])) _
      refine XS.iload X223.here hx rfl (hb hby at_206) rfl ?_
      show Steps p.tables e below (T223.setTop (mkF m 208 #[.val (.int p1), .val (.int p2), .val (.int p3), .val (.ref ob), .val (.ref bg), .val (.ref on), .val (.int (own_fg p1 (1 : Int32))), .val (.int (own_fg p1 (2 : Int32))), .val (.int (own_fg p1 (4 : Int32))), .val (.int (own_fg p1 (8 : Int32))), .val (.int (own_ad (own_fg p1 (4 : Int32)) (own_ad (own_fg p1 (2 : Int32)) (own_ad (own_fg p1 (1 : Int32)) (0 : Int32) (16383 : Int32)) (1 : Int32)) (1 : Int32))), .val (.int (own_cl (own_fg p1 (8 : Int32)) (own_ad (own_fg p1 (4 : Int32)) (own_ad (own_fg p1 (2 : Int32)) (own_ad (own_fg p1 (1 : Int32)) (0 : Int32) (16383 : Int32)) (1 : Int32)) (1 : Int32)))), .val (.int ((own_cl (own_fg p1 (8 : Int32)) (own_ad (own_fg p1 (4 : Int32)) (own_ad (own_fg p1 (2 : Int32)) (own_ad (own_fg p1 (1 : Int32)) (0 : Int32) (16383 : Int32)) (1 : Int32)) (1 : Int32))) + (1 : Int32))), .val (.int (((own_cl (own_fg p1 (8 : Int32)) (own_ad (own_fg p1 (4 : Int32)) (own_ad (own_fg p1 (2 : Int32)) (own_ad (own_fg p1 (1 : Int32)) (0 : Int32) (16383 : Int32)) (1 : Int32)) (1 : Int32))) + (1 : Int32)) + (1 : Int32)))] [(.int (own_ad (own_fg p1 (4 : Int32)) (own_ad (own_fg p1 (2 : Int32)) (own_ad (own_fg p1 (1 : Int32)) (0 : Int32) (16383 : Int32)) (1 : Int32)) (1 : Int32))), (.int (((own_cl (own_fg p1 (8 : Int32)) (own_ad (own_fg p1 (4 : Int32)) (own_ad (own_fg p1 (2 : Int32)) (own_ad (own_fg p1 (1 : Int32)) (0 : Int32) (16383 : Int32)) (1 : Int32)) (1 : Int32))) + (1 : Int32)) + (1 : Int32)))])) _
      refine XS.iconst X223.here hx rfl (hb hby at_208) ?_
      show Steps p.tables e below (T223.setTop (mkF m 209 #[.val (.int p1), .val (.int p2), .val (.int p3), .val (.ref ob), .val (.ref bg), .val (.ref on), .val (.int (own_fg p1 (1 : Int32))), .val (.int (own_fg p1 (2 : Int32))), .val (.int (own_fg p1 (4 : Int32))), .val (.int (own_fg p1 (8 : Int32))), .val (.int (own_ad (own_fg p1 (4 : Int32)) (own_ad (own_fg p1 (2 : Int32)) (own_ad (own_fg p1 (1 : Int32)) (0 : Int32) (16383 : Int32)) (1 : Int32)) (1 : Int32))), .val (.int (own_cl (own_fg p1 (8 : Int32)) (own_ad (own_fg p1 (4 : Int32)) (own_ad (own_fg p1 (2 : Int32)) (own_ad (own_fg p1 (1 : Int32)) (0 : Int32) (16383 : Int32)) (1 : Int32)) (1 : Int32)))), .val (.int ((own_cl (own_fg p1 (8 : Int32)) (own_ad (own_fg p1 (4 : Int32)) (own_ad (own_fg p1 (2 : Int32)) (own_ad (own_fg p1 (1 : Int32)) (0 : Int32) (16383 : Int32)) (1 : Int32)) (1 : Int32))) + (1 : Int32))), .val (.int (((own_cl (own_fg p1 (8 : Int32)) (own_ad (own_fg p1 (4 : Int32)) (own_ad (own_fg p1 (2 : Int32)) (own_ad (own_fg p1 (1 : Int32)) (0 : Int32) (16383 : Int32)) (1 : Int32)) (1 : Int32))) + (1 : Int32)) + (1 : Int32)))] [(.int (2 : Int32)), (.int (own_ad (own_fg p1 (4 : Int32)) (own_ad (own_fg p1 (2 : Int32)) (own_ad (own_fg p1 (1 : Int32)) (0 : Int32) (16383 : Int32)) (1 : Int32)) (1 : Int32))), (.int (((own_cl (own_fg p1 (8 : Int32)) (own_ad (own_fg p1 (4 : Int32)) (own_ad (own_fg p1 (2 : Int32)) (own_ad (own_fg p1 (1 : Int32)) (0 : Int32) (16383 : Int32)) (1 : Int32)) (1 : Int32))) + (1 : Int32)) + (1 : Int32)))])) _
      refine XS.iadd X223.here hx rfl (hb hby at_209) rfl ?_
      show Steps p.tables e below (T223.setTop (mkF m 210 #[.val (.int p1), .val (.int p2), .val (.int p3), .val (.ref ob), .val (.ref bg), .val (.ref on), .val (.int (own_fg p1 (1 : Int32))), .val (.int (own_fg p1 (2 : Int32))), .val (.int (own_fg p1 (4 : Int32))), .val (.int (own_fg p1 (8 : Int32))), .val (.int (own_ad (own_fg p1 (4 : Int32)) (own_ad (own_fg p1 (2 : Int32)) (own_ad (own_fg p1 (1 : Int32)) (0 : Int32) (16383 : Int32)) (1 : Int32)) (1 : Int32))), .val (.int (own_cl (own_fg p1 (8 : Int32)) (own_ad (own_fg p1 (4 : Int32)) (own_ad (own_fg p1 (2 : Int32)) (own_ad (own_fg p1 (1 : Int32)) (0 : Int32) (16383 : Int32)) (1 : Int32)) (1 : Int32)))), .val (.int ((own_cl (own_fg p1 (8 : Int32)) (own_ad (own_fg p1 (4 : Int32)) (own_ad (own_fg p1 (2 : Int32)) (own_ad (own_fg p1 (1 : Int32)) (0 : Int32) (16383 : Int32)) (1 : Int32)) (1 : Int32))) + (1 : Int32))), .val (.int (((own_cl (own_fg p1 (8 : Int32)) (own_ad (own_fg p1 (4 : Int32)) (own_ad (own_fg p1 (2 : Int32)) (own_ad (own_fg p1 (1 : Int32)) (0 : Int32) (16383 : Int32)) (1 : Int32)) (1 : Int32))) + (1 : Int32)) + (1 : Int32)))] [(.int ((own_ad (own_fg p1 (4 : Int32)) (own_ad (own_fg p1 (2 : Int32)) (own_ad (own_fg p1 (1 : Int32)) (0 : Int32) (16383 : Int32)) (1 : Int32)) (1 : Int32)) + (2 : Int32))), (.int (((own_cl (own_fg p1 (8 : Int32)) (own_ad (own_fg p1 (4 : Int32)) (own_ad (own_fg p1 (2 : Int32)) (own_ad (own_fg p1 (1 : Int32)) (0 : Int32) (16383 : Int32)) (1 : Int32)) (1 : Int32))) + (1 : Int32)) + (1 : Int32)))])) _
      refine XS.icmpNo X223.here hx rfl (hb hby at_210) rfl (teq (own_two _ _ hE : (((own_cl (own_fg p1 (8 : Int32)) (own_ad (own_fg p1 (4 : Int32)) (own_ad (own_fg p1 (2 : Int32)) (own_ad (own_fg p1 (1 : Int32)) (0 : Int32) (16383 : Int32)) (1 : Int32)) (1 : Int32))) + (1 : Int32)) + (1 : Int32)) = ((own_ad (own_fg p1 (4 : Int32)) (own_ad (own_fg p1 (2 : Int32)) (own_ad (own_fg p1 (1 : Int32)) (0 : Int32) (16383 : Int32)) (1 : Int32)) (1 : Int32)) + (2 : Int32)))).2 ?_
      show Steps p.tables e below (T223.setTop (mkF m 213 #[.val (.int p1), .val (.int p2), .val (.int p3), .val (.ref ob), .val (.ref bg), .val (.ref on), .val (.int (own_fg p1 (1 : Int32))), .val (.int (own_fg p1 (2 : Int32))), .val (.int (own_fg p1 (4 : Int32))), .val (.int (own_fg p1 (8 : Int32))), .val (.int (own_ad (own_fg p1 (4 : Int32)) (own_ad (own_fg p1 (2 : Int32)) (own_ad (own_fg p1 (1 : Int32)) (0 : Int32) (16383 : Int32)) (1 : Int32)) (1 : Int32))), .val (.int (own_cl (own_fg p1 (8 : Int32)) (own_ad (own_fg p1 (4 : Int32)) (own_ad (own_fg p1 (2 : Int32)) (own_ad (own_fg p1 (1 : Int32)) (0 : Int32) (16383 : Int32)) (1 : Int32)) (1 : Int32)))), .val (.int ((own_cl (own_fg p1 (8 : Int32)) (own_ad (own_fg p1 (4 : Int32)) (own_ad (own_fg p1 (2 : Int32)) (own_ad (own_fg p1 (1 : Int32)) (0 : Int32) (16383 : Int32)) (1 : Int32)) (1 : Int32))) + (1 : Int32))), .val (.int (((own_cl (own_fg p1 (8 : Int32)) (own_ad (own_fg p1 (4 : Int32)) (own_ad (own_fg p1 (2 : Int32)) (own_ad (own_fg p1 (1 : Int32)) (0 : Int32) (16383 : Int32)) (1 : Int32)) (1 : Int32))) + (1 : Int32)) + (1 : Int32)))] [])) _
      refine XS.iconst X223.here hx rfl (hb hby at_213) ?_
      show Steps p.tables e below (T223.setTop (mkF m 214 #[.val (.int p1), .val (.int p2), .val (.int p3), .val (.ref ob), .val (.ref bg), .val (.ref on), .val (.int (own_fg p1 (1 : Int32))), .val (.int (own_fg p1 (2 : Int32))), .val (.int (own_fg p1 (4 : Int32))), .val (.int (own_fg p1 (8 : Int32))), .val (.int (own_ad (own_fg p1 (4 : Int32)) (own_ad (own_fg p1 (2 : Int32)) (own_ad (own_fg p1 (1 : Int32)) (0 : Int32) (16383 : Int32)) (1 : Int32)) (1 : Int32))), .val (.int (own_cl (own_fg p1 (8 : Int32)) (own_ad (own_fg p1 (4 : Int32)) (own_ad (own_fg p1 (2 : Int32)) (own_ad (own_fg p1 (1 : Int32)) (0 : Int32) (16383 : Int32)) (1 : Int32)) (1 : Int32)))), .val (.int ((own_cl (own_fg p1 (8 : Int32)) (own_ad (own_fg p1 (4 : Int32)) (own_ad (own_fg p1 (2 : Int32)) (own_ad (own_fg p1 (1 : Int32)) (0 : Int32) (16383 : Int32)) (1 : Int32)) (1 : Int32))) + (1 : Int32))), .val (.int (((own_cl (own_fg p1 (8 : Int32)) (own_ad (own_fg p1 (4 : Int32)) (own_ad (own_fg p1 (2 : Int32)) (own_ad (own_fg p1 (1 : Int32)) (0 : Int32) (16383 : Int32)) (1 : Int32)) (1 : Int32))) + (1 : Int32)) + (1 : Int32)))] [(.int (1 : Int32))])) _
      refine XS.goto X223.here hx rfl (pc0 := 214) (pc' := 218) rfl (hb hby at_214) (by decide) (by decide) ?_
      exact kt
    clear R222 st223
    obtain ⟨fs, hr, hrun, hended, hW, hsame⟩ := X223.leave (v := some (.int (1 : Int32))) (fun h => by rw [Bd.returns] at h; cases h)
    refine ⟨_, _, pre0 _ (R224 _ ?_), hrun, hended, _, _, rfl, ?_, ⟨_, rfl⟩, hW, hsame.mono (by decide) (by decide)⟩
    · exact retN X223 hx (t := .boolean) Bd.returns (by simp) (hb hby at_218) hr
    · show Q_rm_law Z p1 p2 p3 h0 n0 _ T223.heap _
      rw [hh223]
      exact ⟨rfl, N223⟩
  · have R193 : ∀ tg, Steps p.tables e below (T186.setTop (mkF m 159 #[.val (.int p1), .val (.int p2), .val (.int p3), .val (.ref ob), .val (.ref bg), .val (.ref on), .val (.int (own_fg p1 (1 : Int32))), .val (.int (own_fg p1 (2 : Int32))), .val (.int (own_fg p1 (4 : Int32))), .val (.int (own_fg p1 (8 : Int32))), .val (.int (0 : Int32)), .unset, .unset, .unset] [(.ref ob)])) tg → Steps p.tables e below (s₁.setTop (mkF m 0 #[.val (.int p1), .val (.int p2), .val (.int p3), .unset, .unset, .unset, .unset, .unset, .unset, .unset, .unset, .unset, .unset, .unset] [])) tg := by
      intro tg kt
      refine R192 _ ?_
      show Steps p.tables e below (T186.setTop (mkF m 120 #[.val (.int p1), .val (.int p2), .val (.int p3), .val (.ref ob), .val (.ref bg), .val (.ref on), .val (.int (own_fg p1 (1 : Int32))), .val (.int (own_fg p1 (2 : Int32))), .val (.int (own_fg p1 (4 : Int32))), .val (.int (own_fg p1 (8 : Int32))), .val (.int (0 : Int32)), .unset, .unset, .unset] [(.int (own_fg p1 (8 : Int32)))])) _
      refine XS.ifYes X186.here hx rfl (pc0 := 120) (pc' := 158) rfl (hb hby at_120) rfl ((if0 _ _).trans (feq (hf8 : ¬ ((own_fg p1 (8 : Int32)) = (0 : Int32)))).2) (by decide) (by decide) ?_
      show Steps p.tables e below (T186.setTop (mkF m 158 #[.val (.int p1), .val (.int p2), .val (.int p3), .val (.ref ob), .val (.ref bg), .val (.ref on), .val (.int (own_fg p1 (1 : Int32))), .val (.int (own_fg p1 (2 : Int32))), .val (.int (own_fg p1 (4 : Int32))), .val (.int (own_fg p1 (8 : Int32))), .val (.int (0 : Int32)), .unset, .unset, .unset] [])) _
      refine XS.aloadN X186.here hx rfl (hb hby at_158) rfl rfl ?_
      exact kt
    clear R192
    have hE : (own_cl (own_fg p1 (8 : Int32)) (own_ad (own_fg p1 (4 : Int32)) (own_ad (own_fg p1 (2 : Int32)) (own_ad (own_fg p1 (1 : Int32)) (0 : Int32) (16383 : Int32)) (1 : Int32)) (1 : Int32))) = (0 : Int32) := if_neg hf8
    obtain ⟨cq194, kq194, q194a, q194b, q194c⟩ := isOf hZ e186 Ej186
    obtain ⟨_, _, ⟨T194, L194, k194, n194⟩, -, X194, ⟨Lc194, hQ194, l194, y194, z194⟩, st194⟩ := X186.virtualBack hx (y := (⟨"com/example/travessia/travessia/core/Bytes", "length", "()I"⟩ : MethodName)) (z := (⟨"com/example/travessia/travessia/core/Bytes", "length", "()I"⟩ : MethodName)) hown (mvT hZ (hw _ (List.mem_of_getElem? (i := 12) rfl))) (mvT hZ (hw _ (List.mem_of_getElem? (i := 13) rfl))) (notFace_of_selects (args := #[]) (mvT hZ (hw _ (List.mem_of_getElem? (i := 15) rfl)))) (mvT hZ (hw _ (List.mem_of_getElem? (i := 15) rfl))) (mvT hZ (hw _ (List.mem_of_getElem? (i := 14) rfl))) (by decide) (backOf (W := 0) (rm_len l Z a0 hw [] ob (own_cl (own_fg p1 (8 : Int32)) (own_ad (own_fg p1 (4 : Int32)) (own_ad (own_fg p1 (2 : Int32)) (own_ad (own_fg p1 (1 : Int32)) (0 : Int32) (16383 : Int32)) (1 : Int32)) (1 : Int32))) h186 n0 Zj186 Fnj186) hZ (hw _ (List.mem_of_getElem? (i := 16) rfl)) (hw _ (List.mem_of_getElem? (i := 2) rfl)) (by decide) (by decide)) q194a q194c (g := (mkF m 159 #[.val (.int p1), .val (.int p2), .val (.int p3), .val (.ref ob), .val (.ref bg), .val (.ref on), .val (.int (own_fg p1 (1 : Int32))), .val (.int (own_fg p1 (2 : Int32))), .val (.int (own_fg p1 (4 : Int32))), .val (.int (own_fg p1 (8 : Int32))), .val (.int (0 : Int32)), .unset, .unset, .unset] [(.ref ob)])) rfl (by rw [hml]; rfl) (Steps.refl _) (argsL := []) (rest := []) (lenOf pd_5 rfl) rfl (by show 2 * 0 + _ ≤ _; exact Nat.le_of_eq rfl) (hb hby at_159) (fun _ _ => ⟨rfl, e186, (by decide : 5 + 0 ≤ _), (by decide : 65538 + 0 ≤ _)⟩)
    dsimp only [Pt.U, Pt.locs, Pt.cells, Pt.slots] at X194 l194 y194 z194 st194 hQ194
    rw [l194, y194, z194] at X194
    obtain ⟨rfl, N194q, hh194⟩ := hQ194
    have N194 := Fr.app N186 N194q
    have R195 : ∀ tg, Steps p.tables e below (T194.setTop (mkF m 167 #[.val (.int p1), .val (.int p2), .val (.int p3), .val (.ref ob), .val (.ref bg), .val (.ref on), .val (.int (own_fg p1 (1 : Int32))), .val (.int (own_fg p1 (2 : Int32))), .val (.int (own_fg p1 (4 : Int32))), .val (.int (own_fg p1 (8 : Int32))), .val (.int (0 : Int32)), .val (.int (own_cl (own_fg p1 (8 : Int32)) (own_ad (own_fg p1 (4 : Int32)) (own_ad (own_fg p1 (2 : Int32)) (own_ad (own_fg p1 (1 : Int32)) (0 : Int32) (16383 : Int32)) (1 : Int32)) (1 : Int32)))), .unset, .unset] [(.int (p2.toInt8.toInt32)), (.ref ob)])) tg → Steps p.tables e below (s₁.setTop (mkF m 0 #[.val (.int p1), .val (.int p2), .val (.int p3), .unset, .unset, .unset, .unset, .unset, .unset, .unset, .unset, .unset, .unset, .unset] [])) tg := by
      intro tg kt
      refine R193 _ ?_
      refine st194.trans ?_
      show Steps p.tables e below (T194.setTop (mkF m 162 #[.val (.int p1), .val (.int p2), .val (.int p3), .val (.ref ob), .val (.ref bg), .val (.ref on), .val (.int (own_fg p1 (1 : Int32))), .val (.int (own_fg p1 (2 : Int32))), .val (.int (own_fg p1 (4 : Int32))), .val (.int (own_fg p1 (8 : Int32))), .val (.int (0 : Int32)), .unset, .unset, .unset] [(.int (own_cl (own_fg p1 (8 : Int32)) (own_ad (own_fg p1 (4 : Int32)) (own_ad (own_fg p1 (2 : Int32)) (own_ad (own_fg p1 (1 : Int32)) (0 : Int32) (16383 : Int32)) (1 : Int32)) (1 : Int32))))])) _
      refine XS.istore X194.here hx rfl (hb hby at_162) rfl (l' := #[.val (.int p1), .val (.int p2), .val (.int p3), .val (.ref ob), .val (.ref bg), .val (.ref on), .val (.int (own_fg p1 (1 : Int32))), .val (.int (own_fg p1 (2 : Int32))), .val (.int (own_fg p1 (4 : Int32))), .val (.int (own_fg p1 (8 : Int32))), .val (.int (0 : Int32)), .val (.int (own_cl (own_fg p1 (8 : Int32)) (own_ad (own_fg p1 (4 : Int32)) (own_ad (own_fg p1 (2 : Int32)) (own_ad (own_fg p1 (1 : Int32)) (0 : Int32) (16383 : Int32)) (1 : Int32)) (1 : Int32)))), .unset, .unset]) rfl ?_
      show Steps p.tables e below (T194.setTop (mkF m 164 #[.val (.int p1), .val (.int p2), .val (.int p3), .val (.ref ob), .val (.ref bg), .val (.ref on), .val (.int (own_fg p1 (1 : Int32))), .val (.int (own_fg p1 (2 : Int32))), .val (.int (own_fg p1 (4 : Int32))), .val (.int (own_fg p1 (8 : Int32))), .val (.int (0 : Int32)), .val (.int (own_cl (own_fg p1 (8 : Int32)) (own_ad (own_fg p1 (4 : Int32)) (own_ad (own_fg p1 (2 : Int32)) (own_ad (own_fg p1 (1 : Int32)) (0 : Int32) (16383 : Int32)) (1 : Int32)) (1 : Int32)))), .unset, .unset] [])) _
      refine XS.aloadN X194.here hx rfl (hb hby at_164) rfl rfl ?_
      show Steps p.tables e below (T194.setTop (mkF m 165 #[.val (.int p1), .val (.int p2), .val (.int p3), .val (.ref ob), .val (.ref bg), .val (.ref on), .val (.int (own_fg p1 (1 : Int32))), .val (.int (own_fg p1 (2 : Int32))), .val (.int (own_fg p1 (4 : Int32))), .val (.int (own_fg p1 (8 : Int32))), .val (.int (0 : Int32)), .val (.int (own_cl (own_fg p1 (8 : Int32)) (own_ad (own_fg p1 (4 : Int32)) (own_ad (own_fg p1 (2 : Int32)) (own_ad (own_fg p1 (1 : Int32)) (0 : Int32) (16383 : Int32)) (1 : Int32)) (1 : Int32)))), .unset, .unset] [(.ref ob)])) _
      refine XS.iloadN X194.here hx rfl (hb hby at_165) rfl ?_
      show Steps p.tables e below (T194.setTop (mkF m 166 #[.val (.int p1), .val (.int p2), .val (.int p3), .val (.ref ob), .val (.ref bg), .val (.ref on), .val (.int (own_fg p1 (1 : Int32))), .val (.int (own_fg p1 (2 : Int32))), .val (.int (own_fg p1 (4 : Int32))), .val (.int (own_fg p1 (8 : Int32))), .val (.int (0 : Int32)), .val (.int (own_cl (own_fg p1 (8 : Int32)) (own_ad (own_fg p1 (4 : Int32)) (own_ad (own_fg p1 (2 : Int32)) (own_ad (own_fg p1 (1 : Int32)) (0 : Int32) (16383 : Int32)) (1 : Int32)) (1 : Int32)))), .unset, .unset] [(.int p2), (.ref ob)])) _
      refine XS.i2b X194.here hx rfl (hb hby at_166) rfl ?_
      exact kt
    clear R193 st194
    obtain ⟨cq196, kq196, q196a, q196b, q196c⟩ := isOf hZ hh194 Ej186
    obtain ⟨_, _, ⟨T196, L196, k196, n196⟩, -, X196, ⟨Lc196, hQ196, l196, y196, z196⟩, st196⟩ := X194.virtualBack hx (y := (⟨"com/example/travessia/travessia/core/Bytes", "add", "(B)V"⟩ : MethodName)) (z := (⟨"com/example/travessia/travessia/core/Bytes", "add", "(B)V"⟩ : MethodName)) hown (mvT hZ (hw _ (List.mem_of_getElem? (i := 19) rfl))) (mvT hZ (hw _ (List.mem_of_getElem? (i := 20) rfl))) (notFace_of_selects (args := #[]) (mvT hZ (hw _ (List.mem_of_getElem? (i := 22) rfl)))) (mvT hZ (hw _ (List.mem_of_getElem? (i := 22) rfl))) (mvT hZ (hw _ (List.mem_of_getElem? (i := 21) rfl))) (by decide) (backOf (W := 0) (rm_addB l Z a0 hw [] ob (p2.toInt8.toInt32) (own_cl (own_fg p1 (8 : Int32)) (own_ad (own_fg p1 (4 : Int32)) (own_ad (own_fg p1 (2 : Int32)) (own_ad (own_fg p1 (1 : Int32)) (0 : Int32) (16383 : Int32)) (1 : Int32)) (1 : Int32))) t2 cap2 n4 h186 n0 Zj186 Ej186 Fbj186 Fnj186 VBj186 g_ob nt2 gt2 e4 hc2 (own_b1 q4 (by decide))) hZ (hw _ (List.mem_of_getElem? (i := 23) rfl)) (hw _ (List.mem_of_getElem? (i := 2) rfl)) (by decide) (by decide)) q196a q196c (g := (mkF m 167 #[.val (.int p1), .val (.int p2), .val (.int p3), .val (.ref ob), .val (.ref bg), .val (.ref on), .val (.int (own_fg p1 (1 : Int32))), .val (.int (own_fg p1 (2 : Int32))), .val (.int (own_fg p1 (4 : Int32))), .val (.int (own_fg p1 (8 : Int32))), .val (.int (0 : Int32)), .val (.int (own_cl (own_fg p1 (8 : Int32)) (own_ad (own_fg p1 (4 : Int32)) (own_ad (own_fg p1 (2 : Int32)) (own_ad (own_fg p1 (1 : Int32)) (0 : Int32) (16383 : Int32)) (1 : Int32)) (1 : Int32)))), .unset, .unset] [(.int (p2.toInt8.toInt32)), (.ref ob)])) rfl (by rw [hml]; rfl) (Steps.refl _) (argsL := [(.int (p2.toInt8.toInt32))]) (rest := []) (lenOf pd_6 rfl) rfl (by show 2 * 0 + _ ≤ _; exact Nat.le_of_eq rfl) (hb hby at_167) (fun _ _ => ⟨rfl, hh194, (by decide : 5 + 1 ≤ _), (by decide : 65538 + 32768 ≤ _)⟩)
    dsimp only [Pt.U, Pt.locs, Pt.cells, Pt.slots] at X196 l196 y196 z196 st196 hQ196
    rw [l196, y196, z196] at X196
    obtain ⟨rfl, N196q, K196, u1, kap1, hu1, hk1, hl1, Ea196, Fba196, Fna196, VBa196⟩ := hQ196
    have N196 := Fr.app N194 N196q
    have Zs197 : n0 ≤ T196.heap.size := Nat.le_trans Zj186 K196.1
    have gu1 := own_g2 hu1 gt2 Zj186
    have nu1 := own_n2 hu1 nt2 Ej186.lt
    have eu1 := own_ladd (own_cl (own_fg p1 (8 : Int32)) (own_ad (own_fg p1 (4 : Int32)) (own_ad (own_fg p1 (2 : Int32)) (own_ad (own_fg p1 (1 : Int32)) (0 : Int32) (16383 : Int32)) (1 : Int32)) (1 : Int32))) (1 : Int32) n4 1 e4 rfl (own_b1 q4 (by decide))
    have qu1 : n4 + 1 ≤ 16386 := own_b1 q4 (by decide)
    have R198 : ∀ tg, Steps p.tables e below (T196.setTop (mkF m 171 #[.val (.int p1), .val (.int p2), .val (.int p3), .val (.ref ob), .val (.ref bg), .val (.ref on), .val (.int (own_fg p1 (1 : Int32))), .val (.int (own_fg p1 (2 : Int32))), .val (.int (own_fg p1 (4 : Int32))), .val (.int (own_fg p1 (8 : Int32))), .val (.int (0 : Int32)), .val (.int (own_cl (own_fg p1 (8 : Int32)) (own_ad (own_fg p1 (4 : Int32)) (own_ad (own_fg p1 (2 : Int32)) (own_ad (own_fg p1 (1 : Int32)) (0 : Int32) (16383 : Int32)) (1 : Int32)) (1 : Int32)))), .unset, .unset] [(.ref ob)])) tg → Steps p.tables e below (s₁.setTop (mkF m 0 #[.val (.int p1), .val (.int p2), .val (.int p3), .unset, .unset, .unset, .unset, .unset, .unset, .unset, .unset, .unset, .unset, .unset] [])) tg := by
      intro tg kt
      refine R195 _ ?_
      refine st196.trans ?_
      show Steps p.tables e below (T196.setTop (mkF m 170 #[.val (.int p1), .val (.int p2), .val (.int p3), .val (.ref ob), .val (.ref bg), .val (.ref on), .val (.int (own_fg p1 (1 : Int32))), .val (.int (own_fg p1 (2 : Int32))), .val (.int (own_fg p1 (4 : Int32))), .val (.int (own_fg p1 (8 : Int32))), .val (.int (0 : Int32)), .val (.int (own_cl (own_fg p1 (8 : Int32)) (own_ad (own_fg p1 (4 : Int32)) (own_ad (own_fg p1 (2 : Int32)) (own_ad (own_fg p1 (1 : Int32)) (0 : Int32) (16383 : Int32)) (1 : Int32)) (1 : Int32)))), .unset, .unset] [])) _
      refine XS.aloadN X196.here hx rfl (hb hby at_170) rfl rfl ?_
      exact kt
    clear R195 st196
    obtain ⟨cq199, kq199, q199a, q199b, q199c⟩ := isOf hZ rfl Ea196
    obtain ⟨_, _, ⟨T199, L199, k199, n199⟩, -, X199, ⟨Lc199, hQ199, l199, y199, z199⟩, st199⟩ := X196.virtualBack hx (y := (⟨"com/example/travessia/travessia/core/Bytes", "length", "()I"⟩ : MethodName)) (z := (⟨"com/example/travessia/travessia/core/Bytes", "length", "()I"⟩ : MethodName)) hown (mvT hZ (hw _ (List.mem_of_getElem? (i := 12) rfl))) (mvT hZ (hw _ (List.mem_of_getElem? (i := 13) rfl))) (notFace_of_selects (args := #[]) (mvT hZ (hw _ (List.mem_of_getElem? (i := 15) rfl)))) (mvT hZ (hw _ (List.mem_of_getElem? (i := 15) rfl))) (mvT hZ (hw _ (List.mem_of_getElem? (i := 14) rfl))) (by decide) (backOf (W := 0) (rm_len l Z a0 hw [] ob ((own_cl (own_fg p1 (8 : Int32)) (own_ad (own_fg p1 (4 : Int32)) (own_ad (own_fg p1 (2 : Int32)) (own_ad (own_fg p1 (1 : Int32)) (0 : Int32) (16383 : Int32)) (1 : Int32)) (1 : Int32))) + (1 : Int32)) T196.heap n0 Zs197 Fna196) hZ (hw _ (List.mem_of_getElem? (i := 16) rfl)) (hw _ (List.mem_of_getElem? (i := 2) rfl)) (by decide) (by decide)) q199a q199c (g := (mkF m 171 #[.val (.int p1), .val (.int p2), .val (.int p3), .val (.ref ob), .val (.ref bg), .val (.ref on), .val (.int (own_fg p1 (1 : Int32))), .val (.int (own_fg p1 (2 : Int32))), .val (.int (own_fg p1 (4 : Int32))), .val (.int (own_fg p1 (8 : Int32))), .val (.int (0 : Int32)), .val (.int (own_cl (own_fg p1 (8 : Int32)) (own_ad (own_fg p1 (4 : Int32)) (own_ad (own_fg p1 (2 : Int32)) (own_ad (own_fg p1 (1 : Int32)) (0 : Int32) (16383 : Int32)) (1 : Int32)) (1 : Int32)))), .unset, .unset] [(.ref ob)])) rfl (by rw [hml]; rfl) (Steps.refl _) (argsL := []) (rest := []) (lenOf pd_5 rfl) rfl (by show 2 * 0 + _ ≤ _; exact Nat.le_of_eq rfl) (hb hby at_171) (fun _ _ => ⟨rfl, rfl, (by decide : 6 + 0 ≤ _), (by decide : 98306 + 0 ≤ _)⟩)
    dsimp only [Pt.U, Pt.locs, Pt.cells, Pt.slots] at X199 l199 y199 z199 st199 hQ199
    rw [l199, y199, z199] at X199
    obtain ⟨rfl, N199q, hh199⟩ := hQ199
    have N199 := Fr.app N196 N199q
    have R200 : ∀ tg, Steps p.tables e below (T199.setTop (mkF m 179 #[.val (.int p1), .val (.int p2), .val (.int p3), .val (.ref ob), .val (.ref bg), .val (.ref on), .val (.int (own_fg p1 (1 : Int32))), .val (.int (own_fg p1 (2 : Int32))), .val (.int (own_fg p1 (4 : Int32))), .val (.int (own_fg p1 (8 : Int32))), .val (.int (0 : Int32)), .val (.int (own_cl (own_fg p1 (8 : Int32)) (own_ad (own_fg p1 (4 : Int32)) (own_ad (own_fg p1 (2 : Int32)) (own_ad (own_fg p1 (1 : Int32)) (0 : Int32) (16383 : Int32)) (1 : Int32)) (1 : Int32)))), .val (.int ((own_cl (own_fg p1 (8 : Int32)) (own_ad (own_fg p1 (4 : Int32)) (own_ad (own_fg p1 (2 : Int32)) (own_ad (own_fg p1 (1 : Int32)) (0 : Int32) (16383 : Int32)) (1 : Int32)) (1 : Int32))) + (1 : Int32))), .unset] [(.int (p3.toInt8.toInt32)), (.ref ob)])) tg → Steps p.tables e below (s₁.setTop (mkF m 0 #[.val (.int p1), .val (.int p2), .val (.int p3), .unset, .unset, .unset, .unset, .unset, .unset, .unset, .unset, .unset, .unset, .unset] [])) tg := by
      intro tg kt
      refine R198 _ ?_
      refine st199.trans ?_
      show Steps p.tables e below (T199.setTop (mkF m 174 #[.val (.int p1), .val (.int p2), .val (.int p3), .val (.ref ob), .val (.ref bg), .val (.ref on), .val (.int (own_fg p1 (1 : Int32))), .val (.int (own_fg p1 (2 : Int32))), .val (.int (own_fg p1 (4 : Int32))), .val (.int (own_fg p1 (8 : Int32))), .val (.int (0 : Int32)), .val (.int (own_cl (own_fg p1 (8 : Int32)) (own_ad (own_fg p1 (4 : Int32)) (own_ad (own_fg p1 (2 : Int32)) (own_ad (own_fg p1 (1 : Int32)) (0 : Int32) (16383 : Int32)) (1 : Int32)) (1 : Int32)))), .unset, .unset] [(.int ((own_cl (own_fg p1 (8 : Int32)) (own_ad (own_fg p1 (4 : Int32)) (own_ad (own_fg p1 (2 : Int32)) (own_ad (own_fg p1 (1 : Int32)) (0 : Int32) (16383 : Int32)) (1 : Int32)) (1 : Int32))) + (1 : Int32)))])) _
      refine XS.istore X199.here hx rfl (hb hby at_174) rfl (l' := #[.val (.int p1), .val (.int p2), .val (.int p3), .val (.ref ob), .val (.ref bg), .val (.ref on), .val (.int (own_fg p1 (1 : Int32))), .val (.int (own_fg p1 (2 : Int32))), .val (.int (own_fg p1 (4 : Int32))), .val (.int (own_fg p1 (8 : Int32))), .val (.int (0 : Int32)), .val (.int (own_cl (own_fg p1 (8 : Int32)) (own_ad (own_fg p1 (4 : Int32)) (own_ad (own_fg p1 (2 : Int32)) (own_ad (own_fg p1 (1 : Int32)) (0 : Int32) (16383 : Int32)) (1 : Int32)) (1 : Int32)))), .val (.int ((own_cl (own_fg p1 (8 : Int32)) (own_ad (own_fg p1 (4 : Int32)) (own_ad (own_fg p1 (2 : Int32)) (own_ad (own_fg p1 (1 : Int32)) (0 : Int32) (16383 : Int32)) (1 : Int32)) (1 : Int32))) + (1 : Int32))), .unset]) rfl ?_
      show Steps p.tables e below (T199.setTop (mkF m 176 #[.val (.int p1), .val (.int p2), .val (.int p3), .val (.ref ob), .val (.ref bg), .val (.ref on), .val (.int (own_fg p1 (1 : Int32))), .val (.int (own_fg p1 (2 : Int32))), .val (.int (own_fg p1 (4 : Int32))), .val (.int (own_fg p1 (8 : Int32))), .val (.int (0 : Int32)), .val (.int (own_cl (own_fg p1 (8 : Int32)) (own_ad (own_fg p1 (4 : Int32)) (own_ad (own_fg p1 (2 : Int32)) (own_ad (own_fg p1 (1 : Int32)) (0 : Int32) (16383 : Int32)) (1 : Int32)) (1 : Int32)))), .val (.int ((own_cl (own_fg p1 (8 : Int32)) (own_ad (own_fg p1 (4 : Int32)) (own_ad (own_fg p1 (2 : Int32)) (own_ad (own_fg p1 (1 : Int32)) (0 : Int32) (16383 : Int32)) (1 : Int32)) (1 : Int32))) + (1 : Int32))), .unset] [])) _
      refine XS.aloadN X199.here hx rfl (hb hby at_176) rfl rfl ?_
      show Steps p.tables e below (T199.setTop (mkF m 177 #[.val (.int p1), .val (.int p2), .val (.int p3), .val (.ref ob), .val (.ref bg), .val (.ref on), .val (.int (own_fg p1 (1 : Int32))), .val (.int (own_fg p1 (2 : Int32))), .val (.int (own_fg p1 (4 : Int32))), .val (.int (own_fg p1 (8 : Int32))), .val (.int (0 : Int32)), .val (.int (own_cl (own_fg p1 (8 : Int32)) (own_ad (own_fg p1 (4 : Int32)) (own_ad (own_fg p1 (2 : Int32)) (own_ad (own_fg p1 (1 : Int32)) (0 : Int32) (16383 : Int32)) (1 : Int32)) (1 : Int32)))), .val (.int ((own_cl (own_fg p1 (8 : Int32)) (own_ad (own_fg p1 (4 : Int32)) (own_ad (own_fg p1 (2 : Int32)) (own_ad (own_fg p1 (1 : Int32)) (0 : Int32) (16383 : Int32)) (1 : Int32)) (1 : Int32))) + (1 : Int32))), .unset] [(.ref ob)])) _
      refine XS.iloadN X199.here hx rfl (hb hby at_177) rfl ?_
      show Steps p.tables e below (T199.setTop (mkF m 178 #[.val (.int p1), .val (.int p2), .val (.int p3), .val (.ref ob), .val (.ref bg), .val (.ref on), .val (.int (own_fg p1 (1 : Int32))), .val (.int (own_fg p1 (2 : Int32))), .val (.int (own_fg p1 (4 : Int32))), .val (.int (own_fg p1 (8 : Int32))), .val (.int (0 : Int32)), .val (.int (own_cl (own_fg p1 (8 : Int32)) (own_ad (own_fg p1 (4 : Int32)) (own_ad (own_fg p1 (2 : Int32)) (own_ad (own_fg p1 (1 : Int32)) (0 : Int32) (16383 : Int32)) (1 : Int32)) (1 : Int32)))), .val (.int ((own_cl (own_fg p1 (8 : Int32)) (own_ad (own_fg p1 (4 : Int32)) (own_ad (own_fg p1 (2 : Int32)) (own_ad (own_fg p1 (1 : Int32)) (0 : Int32) (16383 : Int32)) (1 : Int32)) (1 : Int32))) + (1 : Int32))), .unset] [(.int p3), (.ref ob)])) _
      refine XS.i2b X199.here hx rfl (hb hby at_178) rfl ?_
      exact kt
    clear R198 st199
    obtain ⟨cq201, kq201, q201a, q201b, q201c⟩ := isOf hZ hh199 Ea196
    obtain ⟨_, _, ⟨T201, L201, k201, n201⟩, -, X201, ⟨Lc201, hQ201, l201, y201, z201⟩, st201⟩ := X199.virtualBack hx (y := (⟨"com/example/travessia/travessia/core/Bytes", "add", "(B)V"⟩ : MethodName)) (z := (⟨"com/example/travessia/travessia/core/Bytes", "add", "(B)V"⟩ : MethodName)) hown (mvT hZ (hw _ (List.mem_of_getElem? (i := 19) rfl))) (mvT hZ (hw _ (List.mem_of_getElem? (i := 20) rfl))) (notFace_of_selects (args := #[]) (mvT hZ (hw _ (List.mem_of_getElem? (i := 22) rfl)))) (mvT hZ (hw _ (List.mem_of_getElem? (i := 22) rfl))) (mvT hZ (hw _ (List.mem_of_getElem? (i := 21) rfl))) (by decide) (backOf (W := 0) (rm_addB l Z a0 hw [] ob (p3.toInt8.toInt32) ((own_cl (own_fg p1 (8 : Int32)) (own_ad (own_fg p1 (4 : Int32)) (own_ad (own_fg p1 (2 : Int32)) (own_ad (own_fg p1 (1 : Int32)) (0 : Int32) (16383 : Int32)) (1 : Int32)) (1 : Int32))) + (1 : Int32)) u1 kap1 (n4 + 1) T196.heap n0 Zs197 Ea196 Fba196 Fna196 VBa196 g_ob nu1 gu1 eu1 hk1 (own_b1 qu1 (by decide))) hZ (hw _ (List.mem_of_getElem? (i := 23) rfl)) (hw _ (List.mem_of_getElem? (i := 2) rfl)) (by decide) (by decide)) q201a q201c (g := (mkF m 179 #[.val (.int p1), .val (.int p2), .val (.int p3), .val (.ref ob), .val (.ref bg), .val (.ref on), .val (.int (own_fg p1 (1 : Int32))), .val (.int (own_fg p1 (2 : Int32))), .val (.int (own_fg p1 (4 : Int32))), .val (.int (own_fg p1 (8 : Int32))), .val (.int (0 : Int32)), .val (.int (own_cl (own_fg p1 (8 : Int32)) (own_ad (own_fg p1 (4 : Int32)) (own_ad (own_fg p1 (2 : Int32)) (own_ad (own_fg p1 (1 : Int32)) (0 : Int32) (16383 : Int32)) (1 : Int32)) (1 : Int32)))), .val (.int ((own_cl (own_fg p1 (8 : Int32)) (own_ad (own_fg p1 (4 : Int32)) (own_ad (own_fg p1 (2 : Int32)) (own_ad (own_fg p1 (1 : Int32)) (0 : Int32) (16383 : Int32)) (1 : Int32)) (1 : Int32))) + (1 : Int32))), .unset] [(.int (p3.toInt8.toInt32)), (.ref ob)])) rfl (by rw [hml]; rfl) (Steps.refl _) (argsL := [(.int (p3.toInt8.toInt32))]) (rest := []) (lenOf pd_6 rfl) rfl (by show 2 * 0 + _ ≤ _; exact Nat.le_of_eq rfl) (hb hby at_179) (fun _ _ => ⟨rfl, hh199, (by decide : 6 + 1 ≤ _), (by decide : 98306 + 32768 ≤ _)⟩)
    dsimp only [Pt.U, Pt.locs, Pt.cells, Pt.slots] at X201 l201 y201 z201 st201 hQ201
    rw [l201, y201, z201] at X201
    obtain ⟨rfl, N201q, K201, u2, kap2, hu2, hk2, hl2, Ea201, Fba201, Fna201, VBa201⟩ := hQ201
    have N201 := Fr.app N199 N201q
    have Zs202 : n0 ≤ T201.heap.size := Nat.le_trans Zs197 K201.1
    have gu2 := own_g2 hu2 gu1 Zs197
    have nu2 := own_n2 hu2 nu1 Ea196.lt
    have eu2 := own_ladd ((own_cl (own_fg p1 (8 : Int32)) (own_ad (own_fg p1 (4 : Int32)) (own_ad (own_fg p1 (2 : Int32)) (own_ad (own_fg p1 (1 : Int32)) (0 : Int32) (16383 : Int32)) (1 : Int32)) (1 : Int32))) + (1 : Int32)) (1 : Int32) (n4 + 1) 1 eu1 rfl (own_b1 qu1 (by decide))
    have qu2 : (n4 + 1) + 1 ≤ 16387 := own_b1 qu1 (by decide)
    have R203 : ∀ tg, Steps p.tables e below (T201.setTop (mkF m 183 #[.val (.int p1), .val (.int p2), .val (.int p3), .val (.ref ob), .val (.ref bg), .val (.ref on), .val (.int (own_fg p1 (1 : Int32))), .val (.int (own_fg p1 (2 : Int32))), .val (.int (own_fg p1 (4 : Int32))), .val (.int (own_fg p1 (8 : Int32))), .val (.int (0 : Int32)), .val (.int (own_cl (own_fg p1 (8 : Int32)) (own_ad (own_fg p1 (4 : Int32)) (own_ad (own_fg p1 (2 : Int32)) (own_ad (own_fg p1 (1 : Int32)) (0 : Int32) (16383 : Int32)) (1 : Int32)) (1 : Int32)))), .val (.int ((own_cl (own_fg p1 (8 : Int32)) (own_ad (own_fg p1 (4 : Int32)) (own_ad (own_fg p1 (2 : Int32)) (own_ad (own_fg p1 (1 : Int32)) (0 : Int32) (16383 : Int32)) (1 : Int32)) (1 : Int32))) + (1 : Int32))), .unset] [(.ref ob)])) tg → Steps p.tables e below (s₁.setTop (mkF m 0 #[.val (.int p1), .val (.int p2), .val (.int p3), .unset, .unset, .unset, .unset, .unset, .unset, .unset, .unset, .unset, .unset, .unset] [])) tg := by
      intro tg kt
      refine R200 _ ?_
      refine st201.trans ?_
      show Steps p.tables e below (T201.setTop (mkF m 182 #[.val (.int p1), .val (.int p2), .val (.int p3), .val (.ref ob), .val (.ref bg), .val (.ref on), .val (.int (own_fg p1 (1 : Int32))), .val (.int (own_fg p1 (2 : Int32))), .val (.int (own_fg p1 (4 : Int32))), .val (.int (own_fg p1 (8 : Int32))), .val (.int (0 : Int32)), .val (.int (own_cl (own_fg p1 (8 : Int32)) (own_ad (own_fg p1 (4 : Int32)) (own_ad (own_fg p1 (2 : Int32)) (own_ad (own_fg p1 (1 : Int32)) (0 : Int32) (16383 : Int32)) (1 : Int32)) (1 : Int32)))), .val (.int ((own_cl (own_fg p1 (8 : Int32)) (own_ad (own_fg p1 (4 : Int32)) (own_ad (own_fg p1 (2 : Int32)) (own_ad (own_fg p1 (1 : Int32)) (0 : Int32) (16383 : Int32)) (1 : Int32)) (1 : Int32))) + (1 : Int32))), .unset] [])) _
      refine XS.aloadN X201.here hx rfl (hb hby at_182) rfl rfl ?_
      exact kt
    clear R200 st201
    obtain ⟨cq204, kq204, q204a, q204b, q204c⟩ := isOf hZ rfl Ea201
    obtain ⟨_, _, ⟨T204, L204, k204, n204⟩, -, X204, ⟨Lc204, hQ204, l204, y204, z204⟩, st204⟩ := X201.virtualBack hx (y := (⟨"com/example/travessia/travessia/core/Bytes", "length", "()I"⟩ : MethodName)) (z := (⟨"com/example/travessia/travessia/core/Bytes", "length", "()I"⟩ : MethodName)) hown (mvT hZ (hw _ (List.mem_of_getElem? (i := 12) rfl))) (mvT hZ (hw _ (List.mem_of_getElem? (i := 13) rfl))) (notFace_of_selects (args := #[]) (mvT hZ (hw _ (List.mem_of_getElem? (i := 15) rfl)))) (mvT hZ (hw _ (List.mem_of_getElem? (i := 15) rfl))) (mvT hZ (hw _ (List.mem_of_getElem? (i := 14) rfl))) (by decide) (backOf (W := 0) (rm_len l Z a0 hw [] ob (((own_cl (own_fg p1 (8 : Int32)) (own_ad (own_fg p1 (4 : Int32)) (own_ad (own_fg p1 (2 : Int32)) (own_ad (own_fg p1 (1 : Int32)) (0 : Int32) (16383 : Int32)) (1 : Int32)) (1 : Int32))) + (1 : Int32)) + (1 : Int32)) T201.heap n0 Zs202 Fna201) hZ (hw _ (List.mem_of_getElem? (i := 16) rfl)) (hw _ (List.mem_of_getElem? (i := 2) rfl)) (by decide) (by decide)) q204a q204c (g := (mkF m 183 #[.val (.int p1), .val (.int p2), .val (.int p3), .val (.ref ob), .val (.ref bg), .val (.ref on), .val (.int (own_fg p1 (1 : Int32))), .val (.int (own_fg p1 (2 : Int32))), .val (.int (own_fg p1 (4 : Int32))), .val (.int (own_fg p1 (8 : Int32))), .val (.int (0 : Int32)), .val (.int (own_cl (own_fg p1 (8 : Int32)) (own_ad (own_fg p1 (4 : Int32)) (own_ad (own_fg p1 (2 : Int32)) (own_ad (own_fg p1 (1 : Int32)) (0 : Int32) (16383 : Int32)) (1 : Int32)) (1 : Int32)))), .val (.int ((own_cl (own_fg p1 (8 : Int32)) (own_ad (own_fg p1 (4 : Int32)) (own_ad (own_fg p1 (2 : Int32)) (own_ad (own_fg p1 (1 : Int32)) (0 : Int32) (16383 : Int32)) (1 : Int32)) (1 : Int32))) + (1 : Int32))), .unset] [(.ref ob)])) rfl (by rw [hml]; rfl) (Steps.refl _) (argsL := []) (rest := []) (lenOf pd_5 rfl) rfl (by show 2 * 0 + _ ≤ _; exact Nat.le_of_eq rfl) (hb hby at_183) (fun _ _ => ⟨rfl, rfl, (by decide : 7 + 0 ≤ _), (by decide : 131074 + 0 ≤ _)⟩)
    dsimp only [Pt.U, Pt.locs, Pt.cells, Pt.slots] at X204 l204 y204 z204 st204 hQ204
    rw [l204, y204, z204] at X204
    obtain ⟨rfl, N204q, hh204⟩ := hQ204
    have N204 := Fr.app N201 N204q
    have R205 : ∀ tg, Steps p.tables e below (T204.setTop (mkF m 218 #[.val (.int p1), .val (.int p2), .val (.int p3), .val (.ref ob), .val (.ref bg), .val (.ref on), .val (.int (own_fg p1 (1 : Int32))), .val (.int (own_fg p1 (2 : Int32))), .val (.int (own_fg p1 (4 : Int32))), .val (.int (own_fg p1 (8 : Int32))), .val (.int (0 : Int32)), .val (.int (own_cl (own_fg p1 (8 : Int32)) (own_ad (own_fg p1 (4 : Int32)) (own_ad (own_fg p1 (2 : Int32)) (own_ad (own_fg p1 (1 : Int32)) (0 : Int32) (16383 : Int32)) (1 : Int32)) (1 : Int32)))), .val (.int ((own_cl (own_fg p1 (8 : Int32)) (own_ad (own_fg p1 (4 : Int32)) (own_ad (own_fg p1 (2 : Int32)) (own_ad (own_fg p1 (1 : Int32)) (0 : Int32) (16383 : Int32)) (1 : Int32)) (1 : Int32))) + (1 : Int32))), .val (.int (((own_cl (own_fg p1 (8 : Int32)) (own_ad (own_fg p1 (4 : Int32)) (own_ad (own_fg p1 (2 : Int32)) (own_ad (own_fg p1 (1 : Int32)) (0 : Int32) (16383 : Int32)) (1 : Int32)) (1 : Int32))) + (1 : Int32)) + (1 : Int32)))] [(.int (1 : Int32))])) tg → Steps p.tables e below (s₁.setTop (mkF m 0 #[.val (.int p1), .val (.int p2), .val (.int p3), .unset, .unset, .unset, .unset, .unset, .unset, .unset, .unset, .unset, .unset, .unset] [])) tg := by
      intro tg kt
      refine R203 _ ?_
      refine st204.trans ?_
      show Steps p.tables e below (T204.setTop (mkF m 186 #[.val (.int p1), .val (.int p2), .val (.int p3), .val (.ref ob), .val (.ref bg), .val (.ref on), .val (.int (own_fg p1 (1 : Int32))), .val (.int (own_fg p1 (2 : Int32))), .val (.int (own_fg p1 (4 : Int32))), .val (.int (own_fg p1 (8 : Int32))), .val (.int (0 : Int32)), .val (.int (own_cl (own_fg p1 (8 : Int32)) (own_ad (own_fg p1 (4 : Int32)) (own_ad (own_fg p1 (2 : Int32)) (own_ad (own_fg p1 (1 : Int32)) (0 : Int32) (16383 : Int32)) (1 : Int32)) (1 : Int32)))), .val (.int ((own_cl (own_fg p1 (8 : Int32)) (own_ad (own_fg p1 (4 : Int32)) (own_ad (own_fg p1 (2 : Int32)) (own_ad (own_fg p1 (1 : Int32)) (0 : Int32) (16383 : Int32)) (1 : Int32)) (1 : Int32))) + (1 : Int32))), .unset] [(.int (((own_cl (own_fg p1 (8 : Int32)) (own_ad (own_fg p1 (4 : Int32)) (own_ad (own_fg p1 (2 : Int32)) (own_ad (own_fg p1 (1 : Int32)) (0 : Int32) (16383 : Int32)) (1 : Int32)) (1 : Int32))) + (1 : Int32)) + (1 : Int32)))])) _
      refine XS.istore X204.here hx rfl (hb hby at_186) rfl (l' := #[.val (.int p1), .val (.int p2), .val (.int p3), .val (.ref ob), .val (.ref bg), .val (.ref on), .val (.int (own_fg p1 (1 : Int32))), .val (.int (own_fg p1 (2 : Int32))), .val (.int (own_fg p1 (4 : Int32))), .val (.int (own_fg p1 (8 : Int32))), .val (.int (0 : Int32)), .val (.int (own_cl (own_fg p1 (8 : Int32)) (own_ad (own_fg p1 (4 : Int32)) (own_ad (own_fg p1 (2 : Int32)) (own_ad (own_fg p1 (1 : Int32)) (0 : Int32) (16383 : Int32)) (1 : Int32)) (1 : Int32)))), .val (.int ((own_cl (own_fg p1 (8 : Int32)) (own_ad (own_fg p1 (4 : Int32)) (own_ad (own_fg p1 (2 : Int32)) (own_ad (own_fg p1 (1 : Int32)) (0 : Int32) (16383 : Int32)) (1 : Int32)) (1 : Int32))) + (1 : Int32))), .val (.int (((own_cl (own_fg p1 (8 : Int32)) (own_ad (own_fg p1 (4 : Int32)) (own_ad (own_fg p1 (2 : Int32)) (own_ad (own_fg p1 (1 : Int32)) (0 : Int32) (16383 : Int32)) (1 : Int32)) (1 : Int32))) + (1 : Int32)) + (1 : Int32)))]) rfl ?_
      show Steps p.tables e below (T204.setTop (mkF m 188 #[.val (.int p1), .val (.int p2), .val (.int p3), .val (.ref ob), .val (.ref bg), .val (.ref on), .val (.int (own_fg p1 (1 : Int32))), .val (.int (own_fg p1 (2 : Int32))), .val (.int (own_fg p1 (4 : Int32))), .val (.int (own_fg p1 (8 : Int32))), .val (.int (0 : Int32)), .val (.int (own_cl (own_fg p1 (8 : Int32)) (own_ad (own_fg p1 (4 : Int32)) (own_ad (own_fg p1 (2 : Int32)) (own_ad (own_fg p1 (1 : Int32)) (0 : Int32) (16383 : Int32)) (1 : Int32)) (1 : Int32)))), .val (.int ((own_cl (own_fg p1 (8 : Int32)) (own_ad (own_fg p1 (4 : Int32)) (own_ad (own_fg p1 (2 : Int32)) (own_ad (own_fg p1 (1 : Int32)) (0 : Int32) (16383 : Int32)) (1 : Int32)) (1 : Int32))) + (1 : Int32))), .val (.int (((own_cl (own_fg p1 (8 : Int32)) (own_ad (own_fg p1 (4 : Int32)) (own_ad (own_fg p1 (2 : Int32)) (own_ad (own_fg p1 (1 : Int32)) (0 : Int32) (16383 : Int32)) (1 : Int32)) (1 : Int32))) + (1 : Int32)) + (1 : Int32)))] [])) _
      refine XS.iload X204.here hx rfl (hb hby at_188) rfl ?_
      show Steps p.tables e below (T204.setTop (mkF m 190 #[.val (.int p1), .val (.int p2), .val (.int p3), .val (.ref ob), .val (.ref bg), .val (.ref on), .val (.int (own_fg p1 (1 : Int32))), .val (.int (own_fg p1 (2 : Int32))), .val (.int (own_fg p1 (4 : Int32))), .val (.int (own_fg p1 (8 : Int32))), .val (.int (0 : Int32)), .val (.int (own_cl (own_fg p1 (8 : Int32)) (own_ad (own_fg p1 (4 : Int32)) (own_ad (own_fg p1 (2 : Int32)) (own_ad (own_fg p1 (1 : Int32)) (0 : Int32) (16383 : Int32)) (1 : Int32)) (1 : Int32)))), .val (.int ((own_cl (own_fg p1 (8 : Int32)) (own_ad (own_fg p1 (4 : Int32)) (own_ad (own_fg p1 (2 : Int32)) (own_ad (own_fg p1 (1 : Int32)) (0 : Int32) (16383 : Int32)) (1 : Int32)) (1 : Int32))) + (1 : Int32))), .val (.int (((own_cl (own_fg p1 (8 : Int32)) (own_ad (own_fg p1 (4 : Int32)) (own_ad (own_fg p1 (2 : Int32)) (own_ad (own_fg p1 (1 : Int32)) (0 : Int32) (16383 : Int32)) (1 : Int32)) (1 : Int32))) + (1 : Int32)) + (1 : Int32)))] [(.int (own_cl (own_fg p1 (8 : Int32)) (own_ad (own_fg p1 (4 : Int32)) (own_ad (own_fg p1 (2 : Int32)) (own_ad (own_fg p1 (1 : Int32)) (0 : Int32) (16383 : Int32)) (1 : Int32)) (1 : Int32))))])) _
      refine XS.iload X204.here hx rfl (hb hby at_190) rfl ?_
      show Steps p.tables e below (T204.setTop (mkF m 192 #[.val (.int p1), .val (.int p2), .val (.int p3), .val (.ref ob), .val (.ref bg), .val (.ref on), .val (.int (own_fg p1 (1 : Int32))), .val (.int (own_fg p1 (2 : Int32))), .val (.int (own_fg p1 (4 : Int32))), .val (.int (own_fg p1 (8 : Int32))), .val (.int (0 : Int32)), .val (.int (own_cl (own_fg p1 (8 : Int32)) (own_ad (own_fg p1 (4 : Int32)) (own_ad (own_fg p1 (2 : Int32)) (own_ad (own_fg p1 (1 : Int32)) (0 : Int32) (16383 : Int32)) (1 : Int32)) (1 : Int32)))), .val (.int ((own_cl (own_fg p1 (8 : Int32)) (own_ad (own_fg p1 (4 : Int32)) (own_ad (own_fg p1 (2 : Int32)) (own_ad (own_fg p1 (1 : Int32)) (0 : Int32) (16383 : Int32)) (1 : Int32)) (1 : Int32))) + (1 : Int32))), .val (.int (((own_cl (own_fg p1 (8 : Int32)) (own_ad (own_fg p1 (4 : Int32)) (own_ad (own_fg p1 (2 : Int32)) (own_ad (own_fg p1 (1 : Int32)) (0 : Int32) (16383 : Int32)) (1 : Int32)) (1 : Int32))) + (1 : Int32)) + (1 : Int32)))] [(.int (0 : Int32)), (.int (own_cl (own_fg p1 (8 : Int32)) (own_ad (own_fg p1 (4 : Int32)) (own_ad (own_fg p1 (2 : Int32)) (own_ad (own_fg p1 (1 : Int32)) (0 : Int32) (16383 : Int32)) (1 : Int32)) (1 : Int32))))])) _
      refine XS.icmpNo X204.here hx rfl (hb hby at_192) rfl (teq (hE : (own_cl (own_fg p1 (8 : Int32)) (own_ad (own_fg p1 (4 : Int32)) (own_ad (own_fg p1 (2 : Int32)) (own_ad (own_fg p1 (1 : Int32)) (0 : Int32) (16383 : Int32)) (1 : Int32)) (1 : Int32))) = (0 : Int32))).2 ?_
      show Steps p.tables e below (T204.setTop (mkF m 195 #[.val (.int p1), .val (.int p2), .val (.int p3), .val (.ref ob), .val (.ref bg), .val (.ref on), .val (.int (own_fg p1 (1 : Int32))), .val (.int (own_fg p1 (2 : Int32))), .val (.int (own_fg p1 (4 : Int32))), .val (.int (own_fg p1 (8 : Int32))), .val (.int (0 : Int32)), .val (.int (own_cl (own_fg p1 (8 : Int32)) (own_ad (own_fg p1 (4 : Int32)) (own_ad (own_fg p1 (2 : Int32)) (own_ad (own_fg p1 (1 : Int32)) (0 : Int32) (16383 : Int32)) (1 : Int32)) (1 : Int32)))), .val (.int ((own_cl (own_fg p1 (8 : Int32)) (own_ad (own_fg p1 (4 : Int32)) (own_ad (own_fg p1 (2 : Int32)) (own_ad (own_fg p1 (1 : Int32)) (0 : Int32) (16383 : Int32)) (1 : Int32)) (1 : Int32))) + (1 : Int32))), .val (.int (((own_cl (own_fg p1 (8 : Int32)) (own_ad (own_fg p1 (4 : Int32)) (own_ad (own_fg p1 (2 : Int32)) (own_ad (own_fg p1 (1 : Int32)) (0 : Int32) (16383 : Int32)) (1 : Int32)) (1 : Int32))) + (1 : Int32)) + (1 : Int32)))] [])) _
      refine XS.iload X204.here hx rfl (hb hby at_195) rfl ?_
      show Steps p.tables e below (T204.setTop (mkF m 197 #[.val (.int p1), .val (.int p2), .val (.int p3), .val (.ref ob), .val (.ref bg), .val (.ref on), .val (.int (own_fg p1 (1 : Int32))), .val (.int (own_fg p1 (2 : Int32))), .val (.int (own_fg p1 (4 : Int32))), .val (.int (own_fg p1 (8 : Int32))), .val (.int (0 : Int32)), .val (.int (own_cl (own_fg p1 (8 : Int32)) (own_ad (own_fg p1 (4 : Int32)) (own_ad (own_fg p1 (2 : Int32)) (own_ad (own_fg p1 (1 : Int32)) (0 : Int32) (16383 : Int32)) (1 : Int32)) (1 : Int32)))), .val (.int ((own_cl (own_fg p1 (8 : Int32)) (own_ad (own_fg p1 (4 : Int32)) (own_ad (own_fg p1 (2 : Int32)) (own_ad (own_fg p1 (1 : Int32)) (0 : Int32) (16383 : Int32)) (1 : Int32)) (1 : Int32))) + (1 : Int32))), .val (.int (((own_cl (own_fg p1 (8 : Int32)) (own_ad (own_fg p1 (4 : Int32)) (own_ad (own_fg p1 (2 : Int32)) (own_ad (own_fg p1 (1 : Int32)) (0 : Int32) (16383 : Int32)) (1 : Int32)) (1 : Int32))) + (1 : Int32)) + (1 : Int32)))] [(.int ((own_cl (own_fg p1 (8 : Int32)) (own_ad (own_fg p1 (4 : Int32)) (own_ad (own_fg p1 (2 : Int32)) (own_ad (own_fg p1 (1 : Int32)) (0 : Int32) (16383 : Int32)) (1 : Int32)) (1 : Int32))) + (1 : Int32)))])) _
      refine XS.iload X204.here hx rfl (hb hby at_197) rfl ?_
      show Steps p.tables e below (T204.setTop (mkF m 199 #[.val (.int p1), .val (.int p2), .val (.int p3), .val (.ref ob), .val (.ref bg), .val (.ref on), .val (.int (own_fg p1 (1 : Int32))), .val (.int (own_fg p1 (2 : Int32))), .val (.int (own_fg p1 (4 : Int32))), .val (.int (own_fg p1 (8 : Int32))), .val (.int (0 : Int32)), .val (.int (own_cl (own_fg p1 (8 : Int32)) (own_ad (own_fg p1 (4 : Int32)) (own_ad (own_fg p1 (2 : Int32)) (own_ad (own_fg p1 (1 : Int32)) (0 : Int32) (16383 : Int32)) (1 : Int32)) (1 : Int32)))), .val (.int ((own_cl (own_fg p1 (8 : Int32)) (own_ad (own_fg p1 (4 : Int32)) (own_ad (own_fg p1 (2 : Int32)) (own_ad (own_fg p1 (1 : Int32)) (0 : Int32) (16383 : Int32)) (1 : Int32)) (1 : Int32))) + (1 : Int32))), .val (.int (((own_cl (own_fg p1 (8 : Int32)) (own_ad (own_fg p1 (4 : Int32)) (own_ad (own_fg p1 (2 : Int32)) (own_ad (own_fg p1 (1 : Int32)) (0 : Int32) (16383 : Int32)) (1 : Int32)) (1 : Int32))) + (1 : Int32)) + (1 : Int32)))] [(.int (0 : Int32)), (.int ((own_cl (own_fg p1 (8 : Int32)) (own_ad (own_fg p1 (4 : Int32)) (own_ad (own_fg p1 (2 : Int32)) (own_ad (own_fg p1 (1 : Int32)) (0 : Int32) (16383 : Int32)) (1 : Int32)) (1 : Int32))) + (1 : Int32)))])) _
      refine XS.iconst X204.here hx rfl (hb hby at_199) ?_
      show Steps p.tables e below (T204.setTop (mkF m 200 #[.val (.int p1), .val (.int p2), .val (.int p3), .val (.ref ob), .val (.ref bg), .val (.ref on), .val (.int (own_fg p1 (1 : Int32))), .val (.int (own_fg p1 (2 : Int32))), .val (.int (own_fg p1 (4 : Int32))), .val (.int (own_fg p1 (8 : Int32))), .val (.int (0 : Int32)), .val (.int (own_cl (own_fg p1 (8 : Int32)) (own_ad (own_fg p1 (4 : Int32)) (own_ad (own_fg p1 (2 : Int32)) (own_ad (own_fg p1 (1 : Int32)) (0 : Int32) (16383 : Int32)) (1 : Int32)) (1 : Int32)))), .val (.int ((own_cl (own_fg p1 (8 : Int32)) (own_ad (own_fg p1 (4 : Int32)) (own_ad (own_fg p1 (2 : Int32)) (own_ad (own_fg p1 (1 : Int32)) (0 : Int32) (16383 : Int32)) (1 : Int32)) (1 : Int32))) + (1 : Int32))), .val (.int (((own_cl (own_fg p1 (8 : Int32)) (own_ad (own_fg p1 (4 : Int32)) (own_ad (own_fg p1 (2 : Int32)) (own_ad (own_fg p1 (1 : Int32)) (0 : Int32) (16383 : Int32)) (1 : Int32)) (1 : Int32))) + (1 : Int32)) + (1 : Int32)))] [(.int (1 : Int32)), (.int (0 : Int32)), (.int ((own_cl (own_fg p1 (8 : Int32)) (own_ad (own_fg p1 (4 : Int32)) (own_ad (own_fg p1 (2 : Int32)) (own_ad (own_fg p1 (1 : Int32)) (0 : Int32) (16383 : Int32)) (1 : Int32)) (1 : Int32))) + (1 : Int32)))])) _
      refine XS.iadd X204.here hx rfl (hb hby at_200) rfl ?_
      show Steps p.tables e below (T204.setTop (mkF m 201 #[.val (.int p1), .val (.int p2), .val (.int p3), .val (.ref ob), .val (.ref bg), .val (.ref on), .val (.int (own_fg p1 (1 : Int32))), .val (.int (own_fg p1 (2 : Int32))), .val (.int (own_fg p1 (4 : Int32))), .val (.int (own_fg p1 (8 : Int32))), .val (.int (0 : Int32)), .val (.int (own_cl (own_fg p1 (8 : Int32)) (own_ad (own_fg p1 (4 : Int32)) (own_ad (own_fg p1 (2 : Int32)) (own_ad (own_fg p1 (1 : Int32)) (0 : Int32) (16383 : Int32)) (1 : Int32)) (1 : Int32)))), .val (.int ((own_cl (own_fg p1 (8 : Int32)) (own_ad (own_fg p1 (4 : Int32)) (own_ad (own_fg p1 (2 : Int32)) (own_ad (own_fg p1 (1 : Int32)) (0 : Int32) (16383 : Int32)) (1 : Int32)) (1 : Int32))) + (1 : Int32))), .val (.int (((own_cl (own_fg p1 (8 : Int32)) (own_ad (own_fg p1 (4 : Int32)) (own_ad (own_fg p1 (2 : Int32)) (own_ad (own_fg p1 (1 : Int32)) (0 : Int32) (16383 : Int32)) (1 : Int32)) (1 : Int32))) + (1 : Int32)) + (1 : Int32)))] [(.int ((0 : Int32) + (1 : Int32))), (.int ((own_cl (own_fg p1 (8 : Int32)) (own_ad (own_fg p1 (4 : Int32)) (own_ad (own_fg p1 (2 : Int32)) (own_ad (own_fg p1 (1 : Int32)) (0 : Int32) (16383 : Int32)) (1 : Int32)) (1 : Int32))) + (1 : Int32)))])) _
      refine XS.icmpNo X204.here hx rfl (hb hby at_201) rfl (teq (congrArg (· + (1 : Int32)) hE : ((own_cl (own_fg p1 (8 : Int32)) (own_ad (own_fg p1 (4 : Int32)) (own_ad (own_fg p1 (2 : Int32)) (own_ad (own_fg p1 (1 : Int32)) (0 : Int32) (16383 : Int32)) (1 : Int32)) (1 : Int32))) + (1 : Int32)) = ((0 : Int32) + (1 : Int32)))).2 ?_
      show Steps p.tables e below (T204.setTop (mkF m 204 #[.val (.int p1), .val (.int p2), .val (.int p3), .val (.ref ob), .val (.ref bg), .val (.ref on), .val (.int (own_fg p1 (1 : Int32))), .val (.int (own_fg p1 (2 : Int32))), .val (.int (own_fg p1 (4 : Int32))), .val (.int (own_fg p1 (8 : Int32))), .val (.int (0 : Int32)), .val (.int (own_cl (own_fg p1 (8 : Int32)) (own_ad (own_fg p1 (4 : Int32)) (own_ad (own_fg p1 (2 : Int32)) (own_ad (own_fg p1 (1 : Int32)) (0 : Int32) (16383 : Int32)) (1 : Int32)) (1 : Int32)))), .val (.int ((own_cl (own_fg p1 (8 : Int32)) (own_ad (own_fg p1 (4 : Int32)) (own_ad (own_fg p1 (2 : Int32)) (own_ad (own_fg p1 (1 : Int32)) (0 : Int32) (16383 : Int32)) (1 : Int32)) (1 : Int32))) + (1 : Int32))), .val (.int (((own_cl (own_fg p1 (8 : Int32)) (own_ad (own_fg p1 (4 : Int32)) (own_ad (own_fg p1 (2 : Int32)) (own_ad (own_fg p1 (1 : Int32)) (0 : Int32) (16383 : Int32)) (1 : Int32)) (1 : Int32))) + (1 : Int32)) + (1 : Int32)))] [])) _
      refine XS.iload X204.here hx rfl (hb hby at_204) rfl ?_
      show Steps p.tables e below (T204.setTop (mkF m 206 #[.val (.int p1), .val (.int p2), .val (.int p3), .val (.ref ob), .val (.ref bg), .val (.ref on), .val (.int (own_fg p1 (1 : Int32))), .val (.int (own_fg p1 (2 : Int32))), .val (.int (own_fg p1 (4 : Int32))), .val (.int (own_fg p1 (8 : Int32))), .val (.int (0 : Int32)), .val (.int (own_cl (own_fg p1 (8 : Int32)) (own_ad (own_fg p1 (4 : Int32)) (own_ad (own_fg p1 (2 : Int32)) (own_ad (own_fg p1 (1 : Int32)) (0 : Int32) (16383 : Int32)) (1 : Int32)) (1 : Int32)))), .val (.int ((own_cl (own_fg p1 (8 : Int32)) (own_ad (own_fg p1 (4 : Int32)) (own_ad (own_fg p1 (2 : Int32)) (own_ad (own_fg p1 (1 : Int32)) (0 : Int32) (16383 : Int32)) (1 : Int32)) (1 : Int32))) + (1 : Int32))), .val (.int (((own_cl (own_fg p1 (8 : Int32)) (own_ad (own_fg p1 (4 : Int32)) (own_ad (own_fg p1 (2 : Int32)) (own_ad (own_fg p1 (1 : Int32)) (0 : Int32) (16383 : Int32)) (1 : Int32)) (1 : Int32))) + (1 : Int32)) + (1 : Int32)))] [(.int (((own_cl (own_fg p1 (8 : Int32)) (own_ad (own_fg p1 (4 : Int32)) (own_ad (own_fg p1 (2 : Int32)) (own_ad (own_fg p1 (1 : Int32)) (0 : Int32) (16383 : Int32)) (1 : Int32)) (1 : Int32))) + (1 : Int32)) + (1 : Int32)))])) _
      refine XS.iload X204.here hx rfl (hb hby at_206) rfl ?_
      show Steps p.tables e below (T204.setTop (mkF m 208 #[.val (.int p1), .val (.int p2), .val (.int p3), .val (.ref ob), .val (.ref bg), .val (.ref on), .val (.int (own_fg p1 (1 : Int32))), .val (.int (own_fg p1 (2 : Int32))), .val (.int (own_fg p1 (4 : Int32))), .val (.int (own_fg p1 (8 : Int32))), .val (.int (0 : Int32)), .val (.int (own_cl (own_fg p1 (8 : Int32)) (own_ad (own_fg p1 (4 : Int32)) (own_ad (own_fg p1 (2 : Int32)) (own_ad (own_fg p1 (1 : Int32)) (0 : Int32) (16383 : Int32)) (1 : Int32)) (1 : Int32)))), .val (.int ((own_cl (own_fg p1 (8 : Int32)) (own_ad (own_fg p1 (4 : Int32)) (own_ad (own_fg p1 (2 : Int32)) (own_ad (own_fg p1 (1 : Int32)) (0 : Int32) (16383 : Int32)) (1 : Int32)) (1 : Int32))) + (1 : Int32))), .val (.int (((own_cl (own_fg p1 (8 : Int32)) (own_ad (own_fg p1 (4 : Int32)) (own_ad (own_fg p1 (2 : Int32)) (own_ad (own_fg p1 (1 : Int32)) (0 : Int32) (16383 : Int32)) (1 : Int32)) (1 : Int32))) + (1 : Int32)) + (1 : Int32)))] [(.int (0 : Int32)), (.int (((own_cl (own_fg p1 (8 : Int32)) (own_ad (own_fg p1 (4 : Int32)) (own_ad (own_fg p1 (2 : Int32)) (own_ad (own_fg p1 (1 : Int32)) (0 : Int32) (16383 : Int32)) (1 : Int32)) (1 : Int32))) + (1 : Int32)) + (1 : Int32)))])) _
      refine XS.iconst X204.here hx rfl (hb hby at_208) ?_
      show Steps p.tables e below (T204.setTop (mkF m 209 #[.val (.int p1), .val (.int p2), .val (.int p3), .val (.ref ob), .val (.ref bg), .val (.ref on), .val (.int (own_fg p1 (1 : Int32))), .val (.int (own_fg p1 (2 : Int32))), .val (.int (own_fg p1 (4 : Int32))), .val (.int (own_fg p1 (8 : Int32))), .val (.int (0 : Int32)), .val (.int (own_cl (own_fg p1 (8 : Int32)) (own_ad (own_fg p1 (4 : Int32)) (own_ad (own_fg p1 (2 : Int32)) (own_ad (own_fg p1 (1 : Int32)) (0 : Int32) (16383 : Int32)) (1 : Int32)) (1 : Int32)))), .val (.int ((own_cl (own_fg p1 (8 : Int32)) (own_ad (own_fg p1 (4 : Int32)) (own_ad (own_fg p1 (2 : Int32)) (own_ad (own_fg p1 (1 : Int32)) (0 : Int32) (16383 : Int32)) (1 : Int32)) (1 : Int32))) + (1 : Int32))), .val (.int (((own_cl (own_fg p1 (8 : Int32)) (own_ad (own_fg p1 (4 : Int32)) (own_ad (own_fg p1 (2 : Int32)) (own_ad (own_fg p1 (1 : Int32)) (0 : Int32) (16383 : Int32)) (1 : Int32)) (1 : Int32))) + (1 : Int32)) + (1 : Int32)))] [(.int (2 : Int32)), (.int (0 : Int32)), (.int (((own_cl (own_fg p1 (8 : Int32)) (own_ad (own_fg p1 (4 : Int32)) (own_ad (own_fg p1 (2 : Int32)) (own_ad (own_fg p1 (1 : Int32)) (0 : Int32) (16383 : Int32)) (1 : Int32)) (1 : Int32))) + (1 : Int32)) + (1 : Int32)))])) _
      refine XS.iadd X204.here hx rfl (hb hby at_209) rfl ?_
      show Steps p.tables e below (T204.setTop (mkF m 210 #[.val (.int p1), .val (.int p2), .val (.int p3), .val (.ref ob), .val (.ref bg), .val (.ref on), .val (.int (own_fg p1 (1 : Int32))), .val (.int (own_fg p1 (2 : Int32))), .val (.int (own_fg p1 (4 : Int32))), .val (.int (own_fg p1 (8 : Int32))), .val (.int (0 : Int32)), .val (.int (own_cl (own_fg p1 (8 : Int32)) (own_ad (own_fg p1 (4 : Int32)) (own_ad (own_fg p1 (2 : Int32)) (own_ad (own_fg p1 (1 : Int32)) (0 : Int32) (16383 : Int32)) (1 : Int32)) (1 : Int32)))), .val (.int ((own_cl (own_fg p1 (8 : Int32)) (own_ad (own_fg p1 (4 : Int32)) (own_ad (own_fg p1 (2 : Int32)) (own_ad (own_fg p1 (1 : Int32)) (0 : Int32) (16383 : Int32)) (1 : Int32)) (1 : Int32))) + (1 : Int32))), .val (.int (((own_cl (own_fg p1 (8 : Int32)) (own_ad (own_fg p1 (4 : Int32)) (own_ad (own_fg p1 (2 : Int32)) (own_ad (own_fg p1 (1 : Int32)) (0 : Int32) (16383 : Int32)) (1 : Int32)) (1 : Int32))) + (1 : Int32)) + (1 : Int32)))] [(.int ((0 : Int32) + (2 : Int32))), (.int (((own_cl (own_fg p1 (8 : Int32)) (own_ad (own_fg p1 (4 : Int32)) (own_ad (own_fg p1 (2 : Int32)) (own_ad (own_fg p1 (1 : Int32)) (0 : Int32) (16383 : Int32)) (1 : Int32)) (1 : Int32))) + (1 : Int32)) + (1 : Int32)))])) _
      refine XS.icmpNo X204.here hx rfl (hb hby at_210) rfl (teq (own_two _ _ hE : (((own_cl (own_fg p1 (8 : Int32)) (own_ad (own_fg p1 (4 : Int32)) (own_ad (own_fg p1 (2 : Int32)) (own_ad (own_fg p1 (1 : Int32)) (0 : Int32) (16383 : Int32)) (1 : Int32)) (1 : Int32))) + (1 : Int32)) + (1 : Int32)) = ((0 : Int32) + (2 : Int32)))).2 ?_
      show Steps p.tables e below (T204.setTop (mkF m 213 #[.val (.int p1), .val (.int p2), .val (.int p3), .val (.ref ob), .val (.ref bg), .val (.ref on), .val (.int (own_fg p1 (1 : Int32))), .val (.int (own_fg p1 (2 : Int32))), .val (.int (own_fg p1 (4 : Int32))), .val (.int (own_fg p1 (8 : Int32))), .val (.int (0 : Int32)), .val (.int (own_cl (own_fg p1 (8 : Int32)) (own_ad (own_fg p1 (4 : Int32)) (own_ad (own_fg p1 (2 : Int32)) (own_ad (own_fg p1 (1 : Int32)) (0 : Int32) (16383 : Int32)) (1 : Int32)) (1 : Int32)))), .val (.int ((own_cl (own_fg p1 (8 : Int32)) (own_ad (own_fg p1 (4 : Int32)) (own_ad (own_fg p1 (2 : Int32)) (own_ad (own_fg p1 (1 : Int32)) (0 : Int32) (16383 : Int32)) (1 : Int32)) (1 : Int32))) + (1 : Int32))), .val (.int (((own_cl (own_fg p1 (8 : Int32)) (own_ad (own_fg p1 (4 : Int32)) (own_ad (own_fg p1 (2 : Int32)) (own_ad (own_fg p1 (1 : Int32)) (0 : Int32) (16383 : Int32)) (1 : Int32)) (1 : Int32))) + (1 : Int32)) + (1 : Int32)))] [])) _
      refine XS.iconst X204.here hx rfl (hb hby at_213) ?_
      show Steps p.tables e below (T204.setTop (mkF m 214 #[.val (.int p1), .val (.int p2), .val (.int p3), .val (.ref ob), .val (.ref bg), .val (.ref on), .val (.int (own_fg p1 (1 : Int32))), .val (.int (own_fg p1 (2 : Int32))), .val (.int (own_fg p1 (4 : Int32))), .val (.int (own_fg p1 (8 : Int32))), .val (.int (0 : Int32)), .val (.int (own_cl (own_fg p1 (8 : Int32)) (own_ad (own_fg p1 (4 : Int32)) (own_ad (own_fg p1 (2 : Int32)) (own_ad (own_fg p1 (1 : Int32)) (0 : Int32) (16383 : Int32)) (1 : Int32)) (1 : Int32)))), .val (.int ((own_cl (own_fg p1 (8 : Int32)) (own_ad (own_fg p1 (4 : Int32)) (own_ad (own_fg p1 (2 : Int32)) (own_ad (own_fg p1 (1 : Int32)) (0 : Int32) (16383 : Int32)) (1 : Int32)) (1 : Int32))) + (1 : Int32))), .val (.int (((own_cl (own_fg p1 (8 : Int32)) (own_ad (own_fg p1 (4 : Int32)) (own_ad (own_fg p1 (2 : Int32)) (own_ad (own_fg p1 (1 : Int32)) (0 : Int32) (16383 : Int32)) (1 : Int32)) (1 : Int32))) + (1 : Int32)) + (1 : Int32)))] [(.int (1 : Int32))])) _
      refine XS.goto X204.here hx rfl (pc0 := 214) (pc' := 218) rfl (hb hby at_214) (by decide) (by decide) ?_
      exact kt
    clear R203 st204
    obtain ⟨fs, hr, hrun, hended, hW, hsame⟩ := X204.leave (v := some (.int (1 : Int32))) (fun h => by rw [Bd.returns] at h; cases h)
    refine ⟨_, _, pre0 _ (R205 _ ?_), hrun, hended, _, _, rfl, ?_, ⟨_, rfl⟩, hW, hsame.mono (by decide) (by decide)⟩
    · exact retN X204 hx (t := .boolean) Bd.returns (by simp) (hb hby at_218) hr
    · show Q_rm_law Z p1 p2 p3 h0 n0 _ T204.heap _
      rw [hh204]
      exact ⟨rfl, N204⟩
set_option maxRecDepth 65536 in
set_option maxHeartbeats 40000000 in
theorem comes_1 {Post : Tables → Env → Array Value → State → Outcome → State → Prop} (hpost : ∀ tb e args s v u, (limb_1_1.after args s (.returned v) u = true ∧ limb_1_2.after args s (.returned v) u = true ∧ True) → FrameEnd s (.returned v) u (Jvm.fieldLocs frame_1_writes args s ++ Jvm.arrayLocs frame_1_arrays args s ++ Jvm.staticLocs frame_1_statics s) 24 131200 → Post tb e args s (.returned v) u) :
    ArmFor flags0 classFile x code maxLocals ret World_1 tables_1 room_1 Calls_1 rest_1 Pre_1 Post := by
  intro l hfl _ _ p e ha hc hk s m args below hf hA hF happ hP
  obtain ⟨hcalls, hrest, hpre⟩ := hP
  obtain ⟨-, -, -, hnamed, -, -, -, hat⟩ := (Spec.applies_iff hf).mp happ
  obtain ⟨hg, hn⟩ := and_e (Cond.before_iff.mp (show (Jvm.Cond.and given_1 narrow_1).before args s = true from hpre))
  obtain ⟨gc, gr0⟩ := and_e hg
  obtain ⟨ga0, gr1⟩ := and_e gr0
  obtain ⟨ga1, gr2⟩ := and_e gr1
  obtain ⟨w0, w1, w2, rfl⟩ : ∃ w0 w1 w2 : Value, args = #[w0, w1, w2] := by
    have hs : args.size = 3 := by simpa [Cond.value, given_1] using gc
    obtain ⟨L⟩ := args
    match L, hs with
    | [w0, w1, w2], _ => exact ⟨w0, w1, w2, rfl⟩
  have hw := fun d (hd : d ∈ tables_1) => atoms_spec (ws := Jvm.Cond.code x code maxLocals ret :: tables_1) hat d (List.mem_cons_of_mem _ hd)
  have hfit : Fit s := fun {y c} hc i hi => by
    obtain ⟨ha, rfl⟩ := Array.getElem?_eq_some_iff.mp hc
    have q := List.all_eq_true.mp ((Array.all_eq_true_iff_forall_mem.mp hF) _ (Array.getElem_mem ha)) i (List.mem_range.mpr hi)
    simpa [Array.getElem?_eq_getElem hi] using q
  obtain ⟨i0, ei0⟩ := is_v ga0
  obtain rfl : w0 = (.int i0) := Option.some.inj ei0
  obtain ⟨i1, ei1⟩ := is_v ga1
  obtain rfl : w1 = (.int i1) := Option.some.inj ei1
  obtain ⟨i2, ei2⟩ := is_v gr2
  obtain rfl : w2 = (.int i2) := Option.some.inj ei2
  obtain ⟨n, o, h1, h2, h3, _, L, rfl, ⟨rfl, N⟩, hq⟩ := rm_law l s _ hw tables_1 i0 i1 i2 s.heap s.heap.size (Nat.le_refl _)  p e ha hc hk s m _ below hf ((Spec.applies_iff_loose hf).mp happ).1 ⟨rfl, State.Warmed39.refl s, rfl⟩ trivial
  refine ⟨n, _, h1, h2, h3, hpost _ _ _ _ _ _ ⟨Cond.after_iff.mpr rfl, Cond.after_iff.mpr (eq_i res_at (Term.int_eval (1)) rfl), trivial⟩ ⟨hq.1, hq.2.1, (hq.2.2.sift fun y hy => Or.inr (N y hy)).mono (by decide) (by decide)⟩⟩
theorem main_1_1 : Claimed_1_1 := comes_1 fun _ _ _ _ _ _ h hF => ⟨h.1, hF⟩
theorem main_1_2 : Claimed_1_2 := comes_1 fun _ _ _ _ _ _ h hF => ⟨h.2.1, hF⟩
end Jvm.Pilot.@@N@@
namespace Jvm.Pilot.@@N@@
open Jvm Jvm.ClassFile Sem Op Lib Jvm.Free Jvm.Stand Jvm.Pilot.@@N@@.Jvm.D
/-! MADE BY PROGRAM (witnessworld.py) out of the Statement's table words and the real class files: 12 classes; the members and pool entries that the words name. The judged class is class 1, her method 1. -/
namespace start1
open Jvm.ClassFile
def u (s : String) : CpInfo := .utf8 (stringToUtf16 s)
/-- a pool by its gaps: so many unusable entries, then the entry; so many at the end -/
def gap : Nat → List CpInfo → List CpInfo
  | 0, r => r
  | n + 1, r => .unusable :: gap n r
def poolList (es : List (Nat × CpInfo)) (last : Nat) : List CpInfo := es.foldr (fun e r => gap e.1 (e.2 :: r)) (gap last [])
def pool (es : List (Nat × CpInfo)) (last : Nat) : Array CpInfo := ⟨poolList es last⟩
def fileOf (pool : Array CpInfo) (this : Nat) (attrs : Array Attribute := #[]) (ms : Array MethodInfo := #[]) (fl : Nat := 33) (sup : Nat := 0) (ifs : Array Nat := #[]) (fds : Array FieldInfo := #[]) : ClassFile where
  minorVersion := 0
  majorVersion := 65
  constantPool := pool
  accessFlags := fl
  thisClass := this
  superClass := sup
  interfaces := ifs
  fields := fds
  methods := ms
  attributes := attrs
def plain (name : String) (sup : Option ClassId) : Class where
  name := name
  kind := .ordinary
  loader := none
  accessFlags := 33
  super := sup
  interfaces := #[]
  cf := none
  fields := #[]
  methods := #[]
  instanceTypes := #[]
  staticTypes := #[]
  resolved := #[]
  callSites := []
  init := .initialized
  statics := none
  mirror := none

def pool0 : Array CpInfo := pool [(5, u "<init>"), (0, u "()V"), (1, .class_ 10), (1, u "java/lang/Object")] 113

def k0c0 : Code := { maxStack := 0, maxLocals := 1, code := object_method_1_code, exceptionTable := #[], attributes := #[] }
def k0m0 : Method := { name := "<init>", desc := "()V", sig := { parameters := [], returnType := none }, accessFlags := 1, code := some k0c0 }
/-- java/lang/Object -/
def k0 : Class := { plain "java/lang/Object" none with
  accessFlags := 33
  interfaces := #[]
  cf := some (fileOf pool0 8 #[] #[{ accessFlags := 1, nameIndex := 5, descriptorIndex := 6, attributes := #[] }] 33 0 #[] #[])
  fields := #[]
  methods := #[k0m0]
  instanceTypes := #[]
  staticTypes := #[]
  resolved := Array.replicate 124 none
  statics := none }

def pool1 : Array CpInfo := pool [(2, .class_ 4), (0, .nameAndType 5 6), (0, u "java/lang/Object"), (0, u "<init>"), (0, u "()V"), (0, .class_ 8), (0, u "com/example/travessia/travessia/core/Bytes"), (0, .methodref 7 3), (0, .methodref 7 11), (0, .nameAndType 12 13), (0, u "add"), (0, u "([B)V"), (0, .methodref 7 15), (0, .nameAndType 16 6), (0, u "clear"), (0, .methodref 7 18), (0, .nameAndType 19 20), (0, u "length"), (0, u "()I"), (0, .methodref 7 22), (0, .nameAndType 12 23), (0, u "(B)V"), (0, .class_ 25), (0, u "com/example/travessia/travessia/core/BytesAddPinLaw"), (2, u "law"), (0, u "(III)Z")] 5

def k1m0 : Method := { name := "<init>", desc := "()V", sig := { parameters := [], returnType := none }, accessFlags := 1, code := none }
def k1c1 : Code := { maxStack := 3, maxLocals := 14, code := code, exceptionTable := #[], attributes := #[] }
def k1m1 : Method := { name := "law", desc := "(III)Z", sig := { parameters := [.int, .int, .int], returnType := some .boolean }, accessFlags := 9, code := some k1c1 }
/-- com/example/travessia/travessia/core/BytesAddPinLaw -/
def k1 : Class := { plain "com/example/travessia/travessia/core/BytesAddPinLaw" (some 0) with
  accessFlags := 49
  interfaces := #[]
  cf := some (fileOf pool1 24 #[] #[{ accessFlags := 1, nameIndex := 5, descriptorIndex := 6, attributes := #[] }, { accessFlags := 9, nameIndex := 28, descriptorIndex := 29, attributes := #[] }] 49 2 #[] #[])
  fields := #[]
  methods := #[k1m0, k1m1]
  instanceTypes := #[]
  staticTypes := #[]
  resolved := Array.replicate 35 none
  statics := none }

def pool2 : Array CpInfo := pool [(1, .methodref 2 3), (0, .class_ 4), (0, .nameAndType 5 6), (0, u "java/lang/Object"), (0, u "<init>"), (0, u "()V"), (0, .fieldref 8 9), (0, .class_ 10), (0, .nameAndType 11 12), (0, u "com/example/travessia/travessia/core/Bytes"), (0, u "bytes"), (0, u "[B"), (0, .fieldref 8 14), (0, .nameAndType 15 16), (0, u "length"), (0, u "I"), (0, .methodref 8 18), (0, .nameAndType 19 20), (0, u "room"), (0, u "(I)V"), (0, .methodref 22 23), (0, .class_ 24), (0, .nameAndType 25 26), (0, u "java/lang/System"), (0, u "arraycopy"), (0, u "(Ljava/lang/Object;ILjava/lang/Object;II)V"), (10, .methodref 38 39), (0, .class_ 40), (0, .nameAndType 41 42), (0, u "java/lang/Math"), (0, u "max"), (0, u "(II)I"), (0, .methodref 44 45), (0, .class_ 46), (0, .nameAndType 47 48), (0, u "java/util/Arrays"), (0, u "copyOf"), (0, u "([BI)[B"), (2, u "()I"), (0, u "clear"), (0, u "add"), (0, u "(B)V"), (0, u "([B)V")] 10

def k2c0 : Code := { maxStack := 2, maxLocals := 1, code := prog_1_method_1_code, exceptionTable := #[], attributes := #[] }
def k2m0 : Method := { name := "<init>", desc := "()V", sig := { parameters := [], returnType := none }, accessFlags := 0, code := some k2c0 }
def k2c1 : Code := { maxStack := 1, maxLocals := 1, code := prog_1_method_2_code, exceptionTable := #[], attributes := #[] }
def k2m1 : Method := { name := "length", desc := "()I", sig := { parameters := [], returnType := some .int }, accessFlags := 0, code := some k2c1 }
def k2c2 : Code := { maxStack := 2, maxLocals := 1, code := prog_1_method_3_code, exceptionTable := #[], attributes := #[] }
def k2m2 : Method := { name := "clear", desc := "()V", sig := { parameters := [], returnType := none }, accessFlags := 0, code := some k2c2 }
def k2c3 : Code := { maxStack := 5, maxLocals := 2, code := prog_1_method_4_code, exceptionTable := #[], attributes := #[] }
def k2m3 : Method := { name := "add", desc := "(B)V", sig := { parameters := [.byte], returnType := none }, accessFlags := 0, code := some k2c3 }
def k2c4 : Code := { maxStack := 5, maxLocals := 2, code := prog_1_method_5_code, exceptionTable := #[], attributes := #[] }
def k2m4 : Method := { name := "add", desc := "([B)V", sig := { parameters := [(.array .byte)], returnType := none }, accessFlags := 0, code := some k2c4 }
def k2c5 : Code := { maxStack := 5, maxLocals := 2, code := prog_1_method_9_code, exceptionTable := #[], attributes := #[] }
def k2m5 : Method := { name := "room", desc := "(I)V", sig := { parameters := [.int], returnType := none }, accessFlags := 2, code := some k2c5 }
/-- com/example/travessia/travessia/core/Bytes -/
def k2 : Class := { plain "com/example/travessia/travessia/core/Bytes" (some 0) with
  accessFlags := 48
  interfaces := #[]
  cf := some (fileOf pool2 8 #[] #[{ accessFlags := 0, nameIndex := 5, descriptorIndex := 6, attributes := #[] }, { accessFlags := 0, nameIndex := 15, descriptorIndex := 51, attributes := #[] }, { accessFlags := 0, nameIndex := 52, descriptorIndex := 6, attributes := #[] }, { accessFlags := 0, nameIndex := 53, descriptorIndex := 54, attributes := #[] }, { accessFlags := 0, nameIndex := 53, descriptorIndex := 55, attributes := #[] }, { accessFlags := 2, nameIndex := 19, descriptorIndex := 20, attributes := #[] }] 48 2 #[] #[{ accessFlags := 2, nameIndex := 11, descriptorIndex := 12, attributes := #[] }, { accessFlags := 2, nameIndex := 15, descriptorIndex := 16, attributes := #[] }])
  fields := #[{ name := "bytes", type := (.array .byte), accessFlags := 2, slot := 0, constantValue := 0 }, { name := "length", type := .int, accessFlags := 2, slot := 1, constantValue := 0 }]
  methods := #[k2m0, k2m1, k2m2, k2m3, k2m4, k2m5]
  instanceTypes := #[(.array .byte), .int]
  staticTypes := #[]
  resolved := Array.replicate 66 none
  statics := none }

def pool3 : Array CpInfo := pool [(2, .class_ 4), (1, u "java/lang/Object"), (0, u "<init>"), (0, u "()V"), (1, .class_ 10), (1, u "java/lang/System"), (0, u "allowSecurityManager"), (0, u "I"), (16, u "cons"), (0, u "Ljava/io/Console;"), (77, .class_ 110), (1, u "java/lang/System$CallersHolder"), (43, u "initialErrStream"), (0, u "Ljava/io/PrintStream;"), (19, u "security"), (0, u "Ljava/lang/SecurityManager;"), (31, .class_ 209), (0, u "java/lang/System$1"), (7, u "props"), (0, u "Ljava/util/Properties;"), (2, u "lineSeparator"), (0, u "Ljava/lang/String;"), (96, .class_ 321), (1, u "java/lang/System$LoggerFinder"), (5, .class_ 328), (0, u "java/lang/System$Logger"), (67, u "err"), (2, u "out"), (91, u "notSupportedJnuEncoding"), (15, u "in"), (17, u "initialIn"), (0, u "Ljava/io/InputStream;"), (35, u "bootLayer"), (0, u "Ljava/lang/ModuleLayer;"), (99, .class_ 664), (0, u "java/lang/System$2"), (9, u "NEVER"), (2, u "MAYBE"), (49, u "arraycopy"), (0, u "(Ljava/lang/Object;ILjava/lang/Object;II)V"), (72, .class_ 802), (0, u "java/lang/System$Logger$Level")] 31

def k3m0 : Method := { name := "<init>", desc := "()V", sig := { parameters := [], returnType := none }, accessFlags := 2, code := none }
def k3m1 : Method := { name := "arraycopy", desc := "(Ljava/lang/Object;ILjava/lang/Object;II)V", sig := { parameters := [(.object "java/lang/Object"), .int, (.object "java/lang/Object"), .int, .int], returnType := none }, accessFlags := 265, code := none }
/-- java/lang/System -/
def k3 : Class := { plain "java/lang/System" (some 0) with
  accessFlags := 49
  interfaces := #[]
  cf := some (fileOf pool3 8 #[.nestMembers #[319, 327, 801, 108, 663, 208]] #[{ accessFlags := 2, nameIndex := 5, descriptorIndex := 6, attributes := #[] }, { accessFlags := 265, nameIndex := 727, descriptorIndex := 728, attributes := #[] }] 49 2 #[] #[{ accessFlags := 25, nameIndex := 507, descriptorIndex := 526, attributes := #[] }, { accessFlags := 25, nameIndex := 399, descriptorIndex := 155, attributes := #[] }, { accessFlags := 25, nameIndex := 396, descriptorIndex := 155, attributes := #[] }, { accessFlags := 10, nameIndex := 525, descriptorIndex := 526, attributes := #[] }, { accessFlags := 26, nameIndex := 674, descriptorIndex := 12, attributes := #[] }, { accessFlags := 26, nameIndex := 677, descriptorIndex := 12, attributes := #[] }, { accessFlags := 10, nameIndex := 11, descriptorIndex := 12, attributes := #[] }, { accessFlags := 74, nameIndex := 175, descriptorIndex := 176, attributes := #[] }, { accessFlags := 10, nameIndex := 491, descriptorIndex := 222, attributes := #[] }, { accessFlags := 74, nameIndex := 29, descriptorIndex := 30, attributes := #[] }, { accessFlags := 74, nameIndex := 154, descriptorIndex := 155, attributes := #[] }, { accessFlags := 10, nameIndex := 217, descriptorIndex := 218, attributes := #[] }, { accessFlags := 10, nameIndex := 221, descriptorIndex := 222, attributes := #[] }, { accessFlags := 8, nameIndex := 562, descriptorIndex := 563, attributes := #[] }])
  fields := #[{ name := "in", type := (.object "java/io/InputStream"), accessFlags := 25, slot := 0, constantValue := 0 }, { name := "out", type := (.object "java/io/PrintStream"), accessFlags := 25, slot := 1, constantValue := 0 }, { name := "err", type := (.object "java/io/PrintStream"), accessFlags := 25, slot := 2, constantValue := 0 }, { name := "initialIn", type := (.object "java/io/InputStream"), accessFlags := 10, slot := 3, constantValue := 0 }, { name := "NEVER", type := .int, accessFlags := 26, slot := 4, constantValue := 0 }, { name := "MAYBE", type := .int, accessFlags := 26, slot := 5, constantValue := 0 }, { name := "allowSecurityManager", type := .int, accessFlags := 10, slot := 6, constantValue := 0 }, { name := "security", type := (.object "java/lang/SecurityManager"), accessFlags := 74, slot := 7, constantValue := 0 }, { name := "notSupportedJnuEncoding", type := (.object "java/lang/String"), accessFlags := 10, slot := 8, constantValue := 0 }, { name := "cons", type := (.object "java/io/Console"), accessFlags := 74, slot := 9, constantValue := 0 }, { name := "initialErrStream", type := (.object "java/io/PrintStream"), accessFlags := 74, slot := 10, constantValue := 0 }, { name := "props", type := (.object "java/util/Properties"), accessFlags := 10, slot := 11, constantValue := 0 }, { name := "lineSeparator", type := (.object "java/lang/String"), accessFlags := 10, slot := 12, constantValue := 0 }, { name := "bootLayer", type := (.object "java/lang/ModuleLayer"), accessFlags := 8, slot := 13, constantValue := 0 }]
  methods := #[k3m0, k3m1]
  instanceTypes := #[]
  staticTypes := #[(.object "java/io/InputStream"), (.object "java/io/PrintStream"), (.object "java/io/PrintStream"), (.object "java/io/InputStream"), .int, .int, .int, (.object "java/lang/SecurityManager"), (.object "java/lang/String"), (.object "java/io/Console"), (.object "java/io/PrintStream"), (.object "java/util/Properties"), (.object "java/lang/String"), (.object "java/lang/ModuleLayer")]
  resolved := Array.replicate 834 none
  statics := none }

def pool4 : Array CpInfo := pool [(1, .class_ 2), (0, u "java/lang/Math"), (1, .class_ 6), (1, u "java/lang/Object"), (0, u "<init>"), (0, u "()V"), (89, .class_ 100), (1, u "java/lang/Math$RandomNumberGeneratorHolder"), (71, u "negativeZeroFloatBits"), (0, u "J"), (2, u "negativeZeroDoubleBits"), (21, u "max"), (2, u "min"), (43, u "$assertionsDisabled"), (0, u "Z"), (88, u "(II)I"), (2, u "twoToTheDoubleScaleDown"), (0, u "D"), (4, u "twoToTheDoubleScaleUp"), (9, u "E"), (3, u "PI"), (2, u "TAU"), (2, u "DEGREES_TO_RADIANS"), (0, u "RADIANS_TO_DEGREES")] 94

def k4m0 : Method := { name := "<init>", desc := "()V", sig := { parameters := [], returnType := none }, accessFlags := 2, code := none }
def k4c1 : Code := { maxStack := 2, maxLocals := 2, code := jdk_29_method_65_code, exceptionTable := #[], attributes := #[] }
def k4m1 : Method := { name := "max", desc := "(II)I", sig := { parameters := [.int, .int], returnType := some .int }, accessFlags := 9, code := some k4c1 }
def k4c2 : Code := { maxStack := 2, maxLocals := 2, code := jdk_29_method_69_code, exceptionTable := #[], attributes := #[] }
def k4m2 : Method := { name := "min", desc := "(II)I", sig := { parameters := [.int, .int], returnType := some .int }, accessFlags := 9, code := some k4c2 }
/-- java/lang/Math -/
def k4 : Class := { plain "java/lang/Math" (some 0) with
  accessFlags := 49
  interfaces := #[]
  cf := some (fileOf pool4 1 #[.nestMembers #[98]] #[{ accessFlags := 2, nameIndex := 7, descriptorIndex := 8, attributes := #[] }, { accessFlags := 9, nameIndex := 198, descriptorIndex := 335, attributes := #[] }, { accessFlags := 9, nameIndex := 201, descriptorIndex := 335, attributes := #[] }] 49 4 #[] #[{ accessFlags := 25, nameIndex := 354, descriptorIndex := 339, attributes := #[] }, { accessFlags := 25, nameIndex := 358, descriptorIndex := 339, attributes := #[] }, { accessFlags := 25, nameIndex := 361, descriptorIndex := 339, attributes := #[] }, { accessFlags := 26, nameIndex := 364, descriptorIndex := 339, attributes := #[] }, { accessFlags := 26, nameIndex := 365, descriptorIndex := 339, attributes := #[] }, { accessFlags := 26, nameIndex := 172, descriptorIndex := 173, attributes := #[] }, { accessFlags := 26, nameIndex := 176, descriptorIndex := 173, attributes := #[] }, { accessFlags := 8, nameIndex := 344, descriptorIndex := 339, attributes := #[] }, { accessFlags := 8, nameIndex := 338, descriptorIndex := 339, attributes := #[] }, { accessFlags := 4120, nameIndex := 245, descriptorIndex := 246, attributes := #[] }])
  fields := #[{ name := "E", type := .double, accessFlags := 25, slot := 0, constantValue := 0 }, { name := "PI", type := .double, accessFlags := 25, slot := 1, constantValue := 0 }, { name := "TAU", type := .double, accessFlags := 25, slot := 2, constantValue := 0 }, { name := "DEGREES_TO_RADIANS", type := .double, accessFlags := 26, slot := 3, constantValue := 0 }, { name := "RADIANS_TO_DEGREES", type := .double, accessFlags := 26, slot := 4, constantValue := 0 }, { name := "negativeZeroFloatBits", type := .long, accessFlags := 26, slot := 5, constantValue := 0 }, { name := "negativeZeroDoubleBits", type := .long, accessFlags := 26, slot := 6, constantValue := 0 }, { name := "twoToTheDoubleScaleUp", type := .double, accessFlags := 8, slot := 7, constantValue := 0 }, { name := "twoToTheDoubleScaleDown", type := .double, accessFlags := 8, slot := 8, constantValue := 0 }, { name := "$assertionsDisabled", type := .boolean, accessFlags := 4120, slot := 9, constantValue := 0 }]
  methods := #[k4m0, k4m1, k4m2]
  instanceTypes := #[]
  staticTypes := #[.double, .double, .double, .double, .double, .long, .long, .double, .double, .boolean]
  resolved := Array.replicate 460 none
  statics := none }

def pool5 : Array CpInfo := pool [(2, .class_ 4), (1, u "java/lang/Object"), (0, u "<init>"), (0, u "()V"), (7, .class_ 16), (1, u "java/util/Arrays"), (57, .class_ 76), (1, u "java/util/Arrays$NaturalOrder"), (36, .class_ 115), (1, u "java/util/Arrays$LegacyMergeSort"), (1, u "Z"), (32, .methodref 151 152), (0, .class_ 153), (0, .nameAndType 154 155), (0, u "java/lang/System"), (0, u "arraycopy"), (0, u "(Ljava/lang/Object;ILjava/lang/Object;II)V"), (146, u "copyOf"), (1, .methodref 305 306), (0, .class_ 307), (0, .nameAndType 308 309), (0, u "java/lang/Math"), (0, u "min"), (0, u "(II)I"), (65, .class_ 376), (0, u "java/util/Arrays$ArrayList"), (68, u "$assertionsDisabled"), (269, u "MIN_ARRAY_SORT_GRAN"), (0, u "I"), (2, u "INSERTIONSORT_THRESHOLD"), (149, u "([BI)[B"), (105, .class_ 976), (0, u "java/util/Arrays$ArrayItr")] 52

def k5m0 : Method := { name := "<init>", desc := "()V", sig := { parameters := [], returnType := none }, accessFlags := 2, code := none }
def k5c1 : Code := { maxStack := 6, maxLocals := 3, code := jdk_65_method_121_code, exceptionTable := #[], attributes := #[] }
def k5m1 : Method := { name := "copyOf", desc := "([BI)[B", sig := { parameters := [(.array .byte), .int], returnType := some (.array .byte) }, accessFlags := 9, code := some k5c1 }
/-- java/util/Arrays -/
def k5 : Class := { plain "java/util/Arrays" (some 0) with
  accessFlags := 49
  interfaces := #[]
  cf := some (fileOf pool5 14 #[.nestMembers #[975, 375, 113, 74]] #[{ accessFlags := 2, nameIndex := 5, descriptorIndex := 6, attributes := #[] }, { accessFlags := 9, nameIndex := 302, descriptorIndex := 869, attributes := #[] }] 49 2 #[] #[{ accessFlags := 26, nameIndex := 715, descriptorIndex := 716, attributes := #[] }, { accessFlags := 26, nameIndex := 719, descriptorIndex := 716, attributes := #[] }, { accessFlags := 4120, nameIndex := 445, descriptorIndex := 117, attributes := #[] }])
  fields := #[{ name := "MIN_ARRAY_SORT_GRAN", type := .int, accessFlags := 26, slot := 0, constantValue := 0 }, { name := "INSERTIONSORT_THRESHOLD", type := .int, accessFlags := 26, slot := 1, constantValue := 0 }, { name := "$assertionsDisabled", type := .boolean, accessFlags := 4120, slot := 2, constantValue := 0 }]
  methods := #[k5m0, k5m1]
  instanceTypes := #[]
  staticTypes := #[.int, .int, .boolean]
  resolved := Array.replicate 1029 none
  statics := none }

def pool6 : Array CpInfo := pool [(1, u "java/lang/Cloneable"), (0, .class_ 1), (0, u "java/lang/Object"), (0, .class_ 3)] 3

/-- java/lang/Cloneable -/
def k6 : Class := { plain "java/lang/Cloneable" (some 0) with
  accessFlags := 1537
  interfaces := #[]
  cf := some (fileOf pool6 2 #[] #[] 1537 4 #[] #[])
  fields := #[]
  methods := #[]
  instanceTypes := #[]
  staticTypes := #[]
  resolved := Array.replicate 8 none
  statics := none }

def pool7 : Array CpInfo := pool [(1, u "java/io/Serializable"), (0, .class_ 1), (0, u "java/lang/Object"), (0, .class_ 3)] 3

/-- java/io/Serializable -/
def k7 : Class := { plain "java/io/Serializable" (some 0) with
  accessFlags := 1537
  interfaces := #[]
  cf := some (fileOf pool7 2 #[] #[] 1537 4 #[] #[])
  fields := #[]
  methods := #[]
  instanceTypes := #[]
  staticTypes := #[]
  resolved := Array.replicate 8 none
  statics := none }

/-- the primitive byte -/
def k8 : Class := { plain "byte" none with kind := .primitive 'B', accessFlags := 0x411 }
/-- [B -/
def k9 : Class := { plain "[B" (some 0) with kind := .array 8 .byte, interfaces := #[6, 7], accessFlags := 1041 }

/-- the primitive int -/
def k10 : Class := { plain "int" none with kind := .primitive 'I', accessFlags := 0x411 }
/-- [I -/
def k11 : Class := { plain "[I" (some 0) with kind := .array 10 .int, interfaces := #[6, 7], accessFlags := 1041 }

def heap : Heap := #[]
def classes : Array Class := #[k0, k1, k2, k3, k4, k5, k6, k7, k8, k9, k10, k11]
def interned : List (Array UInt16 × Addr) := []
def slotsUsed : Nat := 0
def theMethod : MethodId := ⟨1, 1⟩
def args0 : Array Value := #[.int 5, .int 7, .int 300]
def aboutOver (below : List Frame) : State where
  vm := { classes := classes, interned := interned.toArray }
  heap := heap
  slotsUsed := slotsUsed
  threads := #[{ frames := .invoking theMethod args0 :: below }]
def below0 : List Frame := [.native { method := ⟨0, 0⟩, args := #[] }]
def about1 : State := aboutOver below0
def p0 : Program := .bare "" "" ""
def e0 : Env := launch0.env 0 0 0
theorem w_frames : about1.frames = Frame.invoking theMethod args0 :: below0 := rfl
set_option maxRecDepth 65536 in
theorem w_args : argsFit about1.vm theMethod args0 = true := by decide +kernel
set_option maxRecDepth 65536 in
theorem w_heap : heapFits about1 = true := by decide +kernel
set_option maxRecDepth 65536 in
theorem w_runnable : about1.curStatus? = some .runnable := by decide +kernel
set_option maxRecDepth 65536 in
theorem w_alone : about1.alone = true := by decide +kernel
set_option maxRecDepth 65536 in
theorem w_named : about1.methodNamed? x = some theMethod := by decide +kernel
set_option maxRecDepth 65536 in
theorem w_hears : about1.hears theMethod below0 = true := by decide +kernel
set_option maxRecDepth 65536 in
theorem w_ripe : about1.ripe theMethod args0 below0 = true := by decide +kernel
theorem w_running : about1.status = .running := rfl
set_option maxRecDepth 65536 in
theorem w_room : about1.hasRoom e0.platform room_1 = true :=
  launch0.hasRoom_least _ room_1 (by decide +kernel) (by decide +kernel) (by decide +kernel) (by decide +kernel) (by decide +kernel) (by decide +kernel)
theorem allAtoms_all (ts : List Jvm.Cond) (a : Array Jvm.Value) (st : Jvm.State) : (allAtoms ts).before a st = ts.all (fun c => c.before a st) := by
  induction ts with
  | nil => rfl
  | cons c t ih =>
    show (Jvm.Cond.and c (allAtoms t)).before a st = _
    rw [Jvm.Cond.before_and, ih, List.all_cons]
def words1 : List Jvm.Cond := Jvm.Cond.code x code maxLocals ret :: tables_1
/-- a 'code' word, met by the world's own term for the bytes: nothing is compared byte by byte -/
theorem code_word {y : MethodName} {bytes : ByteArray} {mx : Nat} {rt : Option FieldType} {a : Array Value} {s : State} {m : MethodId} {meth : Method} {c : Code} (h1 : s.methodNamed? y = some m) (h2 : s.vm.method? m = some meth) (h3 : meth.code = some c) (h4 : c.code = bytes)
    (h5 : (c.maxLocals == mx && c.exceptionTable.isEmpty && decide (c.maxStack ≤ mostOperands) && decide (meth.sig.returnType = rt) && !meth.locks && decide (parseMethodDescriptor y.desc = some meth.sig)) = true) : (Jvm.Cond.code y bytes mx rt).before a s = true := by
  simp only [Bool.and_eq_true, beq_iff_eq, Bool.not_eq_true', decide_eq_true_eq] at h5
  obtain ⟨⟨⟨⟨⟨g1, g2⟩, g3⟩, g4⟩, g5⟩, g6⟩ := h5
  simp [Cond.before, Cond.holds, Cond.value, h1, h2, h3, h4, g1, g2, g3, g4, g5, g6]
def isCode : Jvm.Cond → Bool
  | .code _ _ _ _ => true
  | _ => false
theorem all_split {L : List Jvm.Cond} {P : Jvm.Cond → Bool} (h1 : L.all (fun c => isCode c || P c) = true) (h2 : ∀ c ∈ L.filter isCode, P c = true) : L.all P = true := by
  refine List.all_eq_true.mpr fun c hc => ?_
  have h := List.all_eq_true.mp h1 c hc
  rcases Bool.eq_false_or_eq_true (isCode c) with hi | hi
  · exact h2 c (List.mem_filter.mpr ⟨hc, hi⟩)
  · simpa [hi] using h
set_option maxRecDepth 65536 in
theorem w_c0 : (Jvm.Cond.code x code maxLocals ret).before args0 about1 = true := code_word (m := ⟨1, 1⟩) (meth := k1m1) (c := k1c1) (by decide +kernel) rfl rfl rfl (by decide +kernel)
set_option maxRecDepth 65536 in
theorem w_c1 : (Jvm.Cond.code ({ cls := "com/example/travessia/travessia/core/Bytes", name := "<init>", desc := "()V" } : Jvm.MethodName) prog_1_method_1_code (1 : Nat) (Option.none : Option Jvm.ClassFile.FieldType)).before args0 about1 = true := code_word (m := ⟨2, 0⟩) (meth := k2m0) (c := k2c0) (by decide +kernel) rfl rfl rfl (by decide +kernel)
set_option maxRecDepth 65536 in
theorem w_c2 : (Jvm.Cond.code ({ cls := "java/lang/Object", name := "<init>", desc := "()V" } : Jvm.MethodName) object_method_1_code (1 : Nat) (Option.none : Option Jvm.ClassFile.FieldType)).before args0 about1 = true := code_word (m := ⟨0, 0⟩) (meth := k0m0) (c := k0c0) (by decide +kernel) rfl rfl rfl (by decide +kernel)
set_option maxRecDepth 65536 in
theorem w_c3 : (Jvm.Cond.code ({ cls := "com/example/travessia/travessia/core/Bytes", name := "length", desc := "()I" } : Jvm.MethodName) prog_1_method_2_code (1 : Nat) (Option.some Jvm.ClassFile.FieldType.int)).before args0 about1 = true := code_word (m := ⟨2, 1⟩) (meth := k2m1) (c := k2c1) (by decide +kernel) rfl rfl rfl (by decide +kernel)
set_option maxRecDepth 65536 in
theorem w_c4 : (Jvm.Cond.code ({ cls := "com/example/travessia/travessia/core/Bytes", name := "add", desc := "(B)V" } : Jvm.MethodName) prog_1_method_4_code (2 : Nat) (Option.none : Option Jvm.ClassFile.FieldType)).before args0 about1 = true := code_word (m := ⟨2, 3⟩) (meth := k2m3) (c := k2c3) (by decide +kernel) rfl rfl rfl (by decide +kernel)
set_option maxRecDepth 65536 in
theorem w_c5 : (Jvm.Cond.code ({ cls := "com/example/travessia/travessia/core/Bytes", name := "room", desc := "(I)V" } : Jvm.MethodName) prog_1_method_9_code (2 : Nat) (Option.none : Option Jvm.ClassFile.FieldType)).before args0 about1 = true := code_word (m := ⟨2, 5⟩) (meth := k2m5) (c := k2c5) (by decide +kernel) rfl rfl rfl (by decide +kernel)
set_option maxRecDepth 65536 in
theorem w_c6 : (Jvm.Cond.code ({ cls := "com/example/travessia/travessia/core/Bytes", name := "add", desc := "([B)V" } : Jvm.MethodName) prog_1_method_5_code (2 : Nat) (Option.none : Option Jvm.ClassFile.FieldType)).before args0 about1 = true := code_word (m := ⟨2, 4⟩) (meth := k2m4) (c := k2c4) (by decide +kernel) rfl rfl rfl (by decide +kernel)
set_option maxRecDepth 65536 in
theorem w_c7 : (Jvm.Cond.code ({ cls := "java/lang/Math", name := "max", desc := "(II)I" } : Jvm.MethodName) jdk_29_method_65_code (2 : Nat) (Option.some Jvm.ClassFile.FieldType.int)).before args0 about1 = true := code_word (m := ⟨4, 1⟩) (meth := k4m1) (c := k4c1) (by decide +kernel) rfl rfl rfl (by decide +kernel)
set_option maxRecDepth 65536 in
theorem w_c8 : (Jvm.Cond.code ({ cls := "java/util/Arrays", name := "copyOf", desc := "([BI)[B" } : Jvm.MethodName) jdk_65_method_121_code (3 : Nat) (Option.some (Jvm.ClassFile.FieldType.array Jvm.ClassFile.FieldType.byte))).before args0 about1 = true := code_word (m := ⟨5, 1⟩) (meth := k5m1) (c := k5c1) (by decide +kernel) rfl rfl rfl (by decide +kernel)
set_option maxRecDepth 65536 in
theorem w_c9 : (Jvm.Cond.code ({ cls := "java/lang/Math", name := "min", desc := "(II)I" } : Jvm.MethodName) jdk_29_method_69_code (2 : Nat) (Option.some Jvm.ClassFile.FieldType.int)).before args0 about1 = true := code_word (m := ⟨4, 2⟩) (meth := k4m2) (c := k4c2) (by decide +kernel) rfl rfl rfl (by decide +kernel)
set_option maxRecDepth 65536 in
theorem w_c10 : (Jvm.Cond.code ({ cls := "com/example/travessia/travessia/core/Bytes", name := "clear", desc := "()V" } : Jvm.MethodName) prog_1_method_3_code (1 : Nat) (Option.none : Option Jvm.ClassFile.FieldType)).before args0 about1 = true := code_word (m := ⟨2, 2⟩) (meth := k2m2) (c := k2c2) (by decide +kernel) rfl rfl rfl (by decide +kernel)
def codes1 : List Jvm.Cond := [Jvm.Cond.code x code maxLocals ret, Jvm.Cond.code ({ cls := "com/example/travessia/travessia/core/Bytes", name := "<init>", desc := "()V" } : Jvm.MethodName) prog_1_method_1_code (1 : Nat) (Option.none : Option Jvm.ClassFile.FieldType), Jvm.Cond.code ({ cls := "java/lang/Object", name := "<init>", desc := "()V" } : Jvm.MethodName) object_method_1_code (1 : Nat) (Option.none : Option Jvm.ClassFile.FieldType), Jvm.Cond.code ({ cls := "com/example/travessia/travessia/core/Bytes", name := "length", desc := "()I" } : Jvm.MethodName) prog_1_method_2_code (1 : Nat) (Option.some Jvm.ClassFile.FieldType.int), Jvm.Cond.code ({ cls := "com/example/travessia/travessia/core/Bytes", name := "add", desc := "(B)V" } : Jvm.MethodName) prog_1_method_4_code (2 : Nat) (Option.none : Option Jvm.ClassFile.FieldType), Jvm.Cond.code ({ cls := "com/example/travessia/travessia/core/Bytes", name := "room", desc := "(I)V" } : Jvm.MethodName) prog_1_method_9_code (2 : Nat) (Option.none : Option Jvm.ClassFile.FieldType), Jvm.Cond.code ({ cls := "com/example/travessia/travessia/core/Bytes", name := "add", desc := "([B)V" } : Jvm.MethodName) prog_1_method_5_code (2 : Nat) (Option.none : Option Jvm.ClassFile.FieldType), Jvm.Cond.code ({ cls := "java/lang/Math", name := "max", desc := "(II)I" } : Jvm.MethodName) jdk_29_method_65_code (2 : Nat) (Option.some Jvm.ClassFile.FieldType.int), Jvm.Cond.code ({ cls := "java/util/Arrays", name := "copyOf", desc := "([BI)[B" } : Jvm.MethodName) jdk_65_method_121_code (3 : Nat) (Option.some (Jvm.ClassFile.FieldType.array Jvm.ClassFile.FieldType.byte)), Jvm.Cond.code ({ cls := "java/lang/Math", name := "min", desc := "(II)I" } : Jvm.MethodName) jdk_29_method_69_code (2 : Nat) (Option.some Jvm.ClassFile.FieldType.int), Jvm.Cond.code ({ cls := "com/example/travessia/travessia/core/Bytes", name := "clear", desc := "()V" } : Jvm.MethodName) prog_1_method_3_code (1 : Nat) (Option.none : Option Jvm.ClassFile.FieldType)]
set_option maxRecDepth 65536 in
theorem codes_eq : words1.filter isCode = codes1 := rfl
theorem w_codes : ∀ c ∈ words1.filter isCode, c.before args0 about1 = true := by
  rw [codes_eq]
  intro c hc
  simp only [codes1, List.mem_cons, List.not_mem_nil, or_false] at hc
  rcases hc with rfl | rfl | rfl | rfl | rfl | rfl | rfl | rfl | rfl | rfl | rfl
  · exact w_c0
  · exact w_c1
  · exact w_c2
  · exact w_c3
  · exact w_c4
  · exact w_c5
  · exact w_c6
  · exact w_c7
  · exact w_c8
  · exact w_c9
  · exact w_c10
set_option maxRecDepth 65536 in
theorem w_t1 : (words1.take 24).all (fun c => isCode c || c.before args0 about1) = true := by decide +kernel
set_option maxRecDepth 65536 in
theorem w_t2 : ((words1.drop 24).take 24).all (fun c => isCode c || c.before args0 about1) = true := by decide +kernel
set_option maxRecDepth 65536 in
theorem w_t3 : ((words1.drop 24).drop 24).all (fun c => isCode c || c.before args0 about1) = true := by decide +kernel
theorem w_tables : (allAtoms (Jvm.Cond.code x code maxLocals ret :: tables_1)).before args0 about1 = true := by
  rw [allAtoms_all]
  show words1.all (fun c => c.before args0 about1) = true
  refine all_split ?_ w_codes
  rw [← List.take_append_drop 24 words1, List.all_append, w_t1, ← List.take_append_drop 24 (words1.drop 24), List.all_append, w_t2, w_t3]
  rfl
set_option maxRecDepth 65536 in
theorem w_case : (Jvm.Cond.and given_1 narrow_1).before args0 about1 = true := by decide +kernel
theorem w_applies : (headSpec (Jvm.Cond.code x code maxLocals ret :: tables_1) room_1).applies x e0.platform about1 = true :=
  (Spec.applies_iff w_frames).mpr ⟨w_running, w_runnable, w_alone, w_named, w_hears, w_ripe, w_room, w_tables⟩
theorem atStart : AtStart classFile x code maxLocals ret World_1 tables_1 room_1 Calls_1 rest_1 Pre_1 launch0 p0 e0 about1 theMethod args0 below0 :=
  ⟨lists_1, trivial, launch0.admits_env _ _ _, launch0.least_env, fairChoices_fair.cas, fairChoices_fair.clock, w_frames, w_args, w_heap, w_applies, trivial, trivial, w_case⟩
end start1
theorem witness_1 : WitnessClaimed_1 := ⟨start1.p0, start1.e0, start1.about1, start1.theMethod, start1.args0, start1.below0, start1.atStart⟩
end Jvm.Pilot.@@N@@
