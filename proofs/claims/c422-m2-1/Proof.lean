import JvmDerived
import JvmDerived.Pilot.@@N@@Statement
import JvmDerived.Pilot.@@N@@Code
set_option linter.unusedVariables false
set_option linter.unusedSimpArgs false
namespace Jvm.RoadKit
open Sem ClassFile Op Lib Jvm.Stand Jvm.Free Jvm.LawKit
section New
variable {p : Program} {l : Launch} {e : Env} {R : Room} {s : State} {m : MethodId} {args : Array Value} {below : List Frame} {meth : Method} {c : Code} {T : State} {locs : List Loc} {cells slots : Nat}
theorem retI (X : Stand p l e R s m args below meth c T locs cells slots) (hx : p.tables.exec = Jvm.exec) {pc : Nat} {Ls : Array Slot} {z : Int32} {rest : List Value} (hret : meth.sig.returnType = some .int) (hd : decode c.code pc = .ok (.ireturn, 1)) {fs : List Frame}
    (hl : ∀ (f : JFrame) (acts : List Action), f.method = m → f.locked = none → f.entered = [] → (doReturn e (T.setTop f) acts (some (.int z))).1 = T.setFrames fs) : Steps p.tables e below (T.setTop (mkF m pc Ls (.int z :: rest))) (T.setFrames fs) := by
  have hm' : T.vm.method? m = some meth := X.method'
  have hn : narrow .int (.int z) = .int z := rfl
  show Steps p.tables e below (T.setTop { method := m, pc := pc, locals := Ls, stack := _ :: rest, locked := none }) _
  jvm_step X.here [X.here.top, hx, hd, hm', hret, hn]
  first | (intro acts; rw [hl _ acts rfl rfl rfl]) | rw [hl _ _ rfl rfl rfl]
  exact Steps.refl _
end New
end Jvm.RoadKit
namespace Jvm.Pilot.@@N@@
open Jvm Jvm.ClassFile Sem Op Lib Jvm.Free Jvm.Stand Jvm.LawKit Jvm.RoadKit Bundle Jvm.Pilot.@@N@@.Jvm.D
def AV (Z : State) (h : Heap) (a : Addr) (ty : FieldType) (n : Nat) (f : Nat → Value) : Prop := ∃ c : Cell, Arr Z h a c ty ∧ c.slots.size = n ∧ ∀ j, j < n → c.slots[j]? = some (f j) ∧ fits ty (f j) = true
def own_upd (f : Nat → Value) (k : Nat) (v : Value) : Nat → Value := fun j => if j = k then v else f j
section AVs
variable {Z : State} {h h' : Heap} {a b : Addr} {ty : FieldType} {n : Nat} {f : Nat → Value} {v : Value} {sl : Nat}
theorem AV.lt (A : AV Z h a ty n f) : a < h.size := by obtain ⟨c, A, -⟩ := A; exact A.lt
theorem AV.ext (A : AV Z h a ty n f) (E : Ext h h') : AV Z h' a ty n f := by obtain ⟨c, A, r⟩ := A; exact ⟨c, A.ext E, r⟩
theorem AV.other (A : AV Z h b ty n f) (W : Wr h h' a sl v) (q : b ≠ a) : AV Z h' b ty n f := by obtain ⟨c, A, r⟩ := A; exact ⟨c, A.other W q, r⟩
theorem AV.keep {ws : List Addr} (A : AV Z h a ty n f) (K : Keep h h' ws) (q : a ∉ ws) : AV Z h' a ty n f := by obtain ⟨c, A, r⟩ := A; exact ⟨c, ⟨K.2.1 a c A.1 q, A.2⟩, r⟩
theorem AV.new {k : ClassId} {z : Int32} (A : Arr Z h a (newA k ty z) ty) (hz : z.toNatClampNeg = n) (hf : fits ty (defaultValue ty) = true) : AV Z h a ty n (fun _ => defaultValue ty) := ⟨_, A, by rw [sz_new]; exact hz, fun j hj => ⟨by simp [newA, hz, hj], hf⟩⟩
theorem AV.set (A : AV Z h a ty n f) (W : Wr h h' a sl v) (hv : fits ty v = true) : AV Z h' a ty n (own_upd f sl v) := by
  obtain ⟨c, A, S, H⟩ := A
  refine ⟨_, A.same W, by rw [sz_set]; exact S, fun j hj => ?_⟩
  by_cases e : j = sl
  · subst e
    exact ⟨by simp [Cell.setSlot, own_upd, S, hj], by simp [own_upd, hv]⟩
  · have e2 : (c.setSlot sl v).slots[j]? = c.slots[j]? := Array.getElem?_setIfInBounds_ne (Ne.symm e)
    exact ⟨by rw [e2, own_upd, if_neg e]; exact (H j hj).1, by rw [own_upd, if_neg e]; exact (H j hj).2⟩
theorem AV.at (A : AV Z h a ty n f) {j : Int32} {k : Nat} (h0 : ¬ j < 0) (hj : j.toNatClampNeg = k) (hk : k < n) : ∃ c : Cell, Arr Z h a c ty ∧ ¬ (j < 0 ∨ c.slots.size ≤ j.toNatClampNeg) ∧ c.slots[j.toNatClampNeg]? = some (f k) := by
  obtain ⟨c, A, S, H⟩ := A
  exact ⟨c, A, fun q => q.elim h0 (fun r => by omega), by rw [hj]; exact (H k hk).1⟩
theorem AV.len (A : AV Z h a ty n f) : ∃ c : Cell, Arr Z h a c ty ∧ c.slots.size.toInt32 = n.toInt32 := by
  obtain ⟨c, A, S, H⟩ := A
  exact ⟨c, A, by rw [S]⟩
theorem AV.congr (A : AV Z h a ty n f) {g : Nat → Value} (e : ∀ j, j < n → f j = g j) : AV Z h a ty n g := by
  obtain ⟨c, A, S, H⟩ := A
  exact ⟨c, A, S, fun j hj => by rw [← e j hj]; exact H j hj⟩
theorem AV.fit (A : AV Z h a ty n f) {j : Nat} (hj : j < n) : fits ty (f j) = true := by
  obtain ⟨c, A, S, H⟩ := A
  exact (H j hj).2
end AVs
theorem own_notin1 {a b : Addr} (h : a ≠ b) : a ∉ [b] := fun q => h (List.mem_singleton.mp q)
theorem own_notin2 {a b c : Addr} (h : a ≠ b) (h2 : a ≠ c) : a ∉ [b, c] := fun q => by
  rcases List.mem_cons.mp q with r | r
  · exact h r
  · exact own_notin1 h2 r
theorem own_notin0 {a : Addr} : a ∉ ([] : List Addr) := nofun
theorem own_trans0 {ws : List Addr} {n : Nat} : ∀ x ∈ ([] : List Addr), x ∈ ws ∨ n ≤ x := nofun
theorem own_trans1 {ws : List Addr} {n : Nat} {a : Addr} (h : a ∈ ws ∨ n ≤ a) : ∀ x ∈ [a], x ∈ ws ∨ n ≤ x := fun x q => by cases List.mem_singleton.mp q; exact h
theorem own_trans2 {ws : List Addr} {n : Nat} {a b : Addr} (h : a ∈ ws ∨ n ≤ a) (h2 : b ∈ ws ∨ n ≤ b) : ∀ x ∈ [a, b], x ∈ ws ∨ n ≤ x := fun x q => by
  rcases List.mem_cons.mp q with r | r
  · cases r; exact h
  · cases List.mem_singleton.mp r; exact h2
theorem own_ib (L : List Int32) (j : Nat) : (L.map Value.int).getD j (.int (0 : Int32)) = .int (L.getD j 0) := by
  simp only [List.getD, List.getElem?_map]
  cases L[j]? <;> rfl
theorem own_avl {Z : State} {h : Heap} {b : Addr} {k : ClassId} {z : Int32} {L : List Int32} {n : Nat} (A : Arv Z h b k .byte z (L.map Value.int) (.int (0 : Int32))) (hn : z.toNatClampNeg = n) : AV Z h b .byte n (fun j => .int (L.getD j 0)) := by
  obtain ⟨c, A, -, S, -, H, G⟩ := A
  have e : c.slots.size = n := S.trans hn
  exact ⟨c, A, e, fun j hj => ⟨by rw [H j (by rw [e]; exact hj), own_ib], by have := G j (by rw [e]; exact hj); rwa [own_ib] at this⟩⟩
theorem own_nrc (x : Int32) : nar .char (x.toUInt32.toUInt16.toUInt32.toInt32) = x.toUInt32.toUInt16.toUInt32.toInt32 := Value.int.inj (show Value.int (nar .char _) = .int _ from Jvm.Free.XT.narrow_c x)
def own_ch (x : Int32) : Int32 := (x &&& (255 : Int32)).toUInt32.toUInt16.toUInt32.toInt32
theorem own_chn (x : Int32) : nar .char (own_ch x) = own_ch x := own_nrc _
def own_LU : List Int32 := [48, 49, 50, 51, 52, 53, 54, 55, 56, 57, 65, 66, 67, 68, 69, 70]
def own_LL : List Int32 := [48, 49, 50, 51, 52, 53, 54, 55, 56, 57, 97, 98, 99, 100, 101, 102]
def own_up (d : Int32) : Int32 := own_ch (own_LU.getD d.toNatClampNeg 0)
def own_lo (d : Int32) : Int32 := own_ch (own_LL.getD d.toNatClampNeg 0)
def own_t3 (c : Int32) : Int32 := if c < (97 : Int32) then (-1 : Int32) else if (102 : Int32) < c then (-1 : Int32) else ((c - (97 : Int32)) + (10 : Int32))
def own_t2 (c : Int32) : Int32 := if c < (65 : Int32) then own_t3 c else if (70 : Int32) < c then own_t3 c else ((c - (65 : Int32)) + (10 : Int32))
def own_hex (c : Int32) : Int32 := if c < (48 : Int32) then own_t2 c else if (57 : Int32) < c then own_t2 c else (c - (48 : Int32))
theorem own_d16 (y : Int32) : ∃ k : Fin 16, y &&& (15 : Int32) = Int32.ofNat k.1 := by
  have := c_and y (15 : Int32) (by decide)
  have f : (15 : Int32).toInt = 15 := rfl
  refine ⟨⟨(y &&& (15 : Int32)).toInt.toNat, by omega⟩, ?_⟩
  rw [← Int32.toInt_inj, Int32.toInt_ofNat_of_lt (by show (y &&& (15 : Int32)).toInt.toNat < 2 ^ 31; omega)]
  show (y &&& (15 : Int32)).toInt = (((y &&& (15 : Int32)).toInt.toNat : Nat) : Int)
  omega
theorem own_din : ∀ k : Fin 16, ¬ (Int32.ofNat k.1) < (0 : Int32) ∧ (Int32.ofNat k.1) < (16 : Nat).toInt32 ∧ (Int32.ofNat k.1).toNatClampNeg < 16 ∧ own_hex (own_up (Int32.ofNat k.1)) = Int32.ofNat k.1 ∧ own_hex (own_lo (Int32.ofNat k.1)) = Int32.ofNat k.1 := by decide +kernel
theorem own_dd (y : Int32) : ¬ (y &&& (15 : Int32)) < (0 : Int32) ∧ (y &&& (15 : Int32)) < (16 : Nat).toInt32 ∧ (y &&& (15 : Int32)).toNatClampNeg < 16 ∧ own_hex (own_up (y &&& (15 : Int32))) = (y &&& (15 : Int32)) ∧ own_hex (own_lo (y &&& (15 : Int32))) = (y &&& (15 : Int32)) := by
  obtain ⟨k, e⟩ := own_d16 y
  rw [e]
  exact own_din k
def own_P (c : Int32) : Prop := own_hex c = (-1 : Int32) ∨ (¬ own_hex c < (0 : Int32) ∧ ¬ (15 : Int32) < own_hex c ∧ own_hex c < (16 : Nat).toInt32 ∧ (own_hex c).toNatClampNeg < 16 ∧ (c = own_up (own_hex c) ∨ c = own_lo (own_hex c)))
instance (c : Int32) : Decidable (own_P c) := by unfold own_P; infer_instance
theorem own_small : ∀ k : Fin 128, own_P (Int32.ofNat k.1) := by decide +kernel
theorem own_any (c : Int32) : own_P c := by
  by_cases h0 : c < (0 : Int32)
  · have h1 : c.toInt < 0 := by rw [Int32.lt_iff_toInt_lt] at h0; exact h0
    have a1 : c < (48 : Int32) := by rw [Int32.lt_iff_toInt_lt]; show c.toInt < 48; omega
    have a2 : c < (65 : Int32) := by rw [Int32.lt_iff_toInt_lt]; show c.toInt < 65; omega
    have a3 : c < (97 : Int32) := by rw [Int32.lt_iff_toInt_lt]; show c.toInt < 97; omega
    exact Or.inl (by rw [own_hex, if_pos a1, own_t2, if_pos a2, own_t3, if_pos a3])
  · by_cases h2 : c < (128 : Int32)
    · have h1 : 0 ≤ c.toInt := by rw [Int32.lt_iff_toInt_lt] at h0; exact Int.not_lt.mp h0
      have h3 : c.toInt < 128 := by rw [Int32.lt_iff_toInt_lt] at h2; exact h2
      have e : Int32.ofNat c.toInt.toNat = c := by
        rw [← Int32.toInt_inj, Int32.toInt_ofNat_of_lt (by omega)]; omega
      have := own_small ⟨c.toInt.toNat, by omega⟩
      simp only [e] at this
      exact this
    · have h3 : 128 ≤ c.toInt := by rw [Int32.lt_iff_toInt_lt] at h2; exact Int.not_lt.mp h2
      have b1 : ¬ c < (48 : Int32) := by rw [Int32.lt_iff_toInt_lt]; show ¬ c.toInt < 48; omega
      have b2 : ¬ c < (65 : Int32) := by rw [Int32.lt_iff_toInt_lt]; show ¬ c.toInt < 65; omega
      have b3 : ¬ c < (97 : Int32) := by rw [Int32.lt_iff_toInt_lt]; show ¬ c.toInt < 97; omega
      have a1 : (57 : Int32) < c := by rw [Int32.lt_iff_toInt_lt]; show 57 < c.toInt; omega
      have a2 : (70 : Int32) < c := by rw [Int32.lt_iff_toInt_lt]; show 70 < c.toInt; omega
      have a3 : (102 : Int32) < c := by rw [Int32.lt_iff_toInt_lt]; show 102 < c.toInt; omega
      exact Or.inl (by rw [own_hex, if_neg b1, if_pos a1, own_t2, if_neg b2, if_pos a2, own_t3, if_neg b3, if_pos a3])
theorem own_lt0 {r : Int32} (h : r = (-1 : Int32)) : r < (0 : Int32) := by rw [h]; decide
theorem pn_0 : plainName "java/lang/String" = true := by first | (simp [plainName, overriddenIn]; done) | decide +kernel
theorem d2_0 : decode jdk_42_method_154_code 0 = .ok (.getstatic 38, 3) := by decide +kernel
theorem d2_3 : decode jdk_42_method_154_code 3 = .ok (.ifCond .eq 14, 3) := by decide +kernel
theorem d2_6 : decode jdk_42_method_154_code 6 = .ok (.aload_n 0, 1) := by decide +kernel
theorem d2_7 : decode jdk_42_method_154_code 7 = .ok (.getfield 15, 3) := by decide +kernel
theorem d2_10 : decode jdk_42_method_154_code 10 = .ok (.ifCond .ne 7, 3) := by decide +kernel
theorem d2_13 : decode jdk_42_method_154_code 13 = .ok (.iconst 1, 1) := by decide +kernel
theorem d2_14 : decode jdk_42_method_154_code 14 = .ok (.goto 4, 3) := by decide +kernel
theorem d2_18 : decode jdk_42_method_154_code 18 = .ok (.ireturn, 1) := by decide +kernel
theorem ef_rm_lat (m : MethodId) (a1 : Addr) : entryFrame m #[(.ref a1)] 1 = mkF m 0 #[.val (.ref a1)] [] := by first | (simp [entryFrame, mkF, argsToLocals, Value.category]; done) | rfl
def Q_rm_lat (Z : State) (a1 : Addr) (cs : Int32) (h0 : Heap) (n0 : Nat) (v : Option Value) (h : Heap) (L : List Loc) : Prop := v = some (.int (1 : Int32)) ∧ Fr n0 L ∧ h = h0
set_option maxRecDepth 65536 in
set_option maxHeartbeats 40000000 in
theorem rm_lat (l : Launch) (Z : State) (a0 : Array Value) (hw : ∀ d ∈ tables_1, d.before a0 Z = true) (ws : List Jvm.Cond) (a1 : Addr) (cs : Int32) (h0 : Heap) (n0 : Nat) (Z0 : n0 ≤ h0.size) (SC : Sta Z Z.heap "java/lang/String" "COMPACT_STRINGS" "Z" (.int cs)) (OL : Old Z n0 h0) (hcs : ¬ (cs = (0 : Int32))) (Fc : Fld Z h0 a1 "java/lang/String" "coder" "B" (.int (0 : Int32))) :
    MetFree l (⟨"java/lang/String", "isLatin1", "()Z"⟩ : MethodName) (head1 (Jvm.Cond.code (⟨"java/lang/String", "isLatin1", "()Z"⟩ : MethodName) jdk_42_method_154_code 1 (some .boolean) :: ws) ({ frames := 0, cells := 0, slots := 0, locals := 0 } : Room)) (fun a U => a = #[(.ref a1)] ∧ Z.Warmed39 U.vm ∧ U.heap = h0) (fun _ _ _ _ _ => True) (fun _ U oC U' => ∃ v L, oC = .returned v ∧ Q_rm_lat Z a1 cs h0 n0 v U'.heap L ∧ FrameEnd U oC U' L ({ frames := 0, cells := 0, slots := 0, locals := 0 } : Room).cells ({ frames := 0, cells := 0, slots := 0, locals := 0 } : Room).slots) := by
  refine MetFree.of_bodySF (plainFor_of_name pn_0) hisR ?_
  intro p e s m args below meth c s₁ Bd hml0 hP hK
  obtain ⟨rfl, hZ, hh⟩ := hP
  have hx := Bd.exec
  have hby := Bd.bytes
  have hml : c.maxLocals = 1 := hml0
  have hown : s.vm.findClass "java/lang/String" = some m.cls := findClass_of_methodNamed Bd.named
  have hnm := (name_of_methodNamed Bd.named Bd.method).1
  have X0 : Stand p l e ({ frames := 0, cells := 0, slots := 0, locals := 0 } : Room) s m #[(.ref a1)] below meth c s₁ [] 0 0 := Stand.of_body Bd
  have e0 : s₁.heap = h0 := by rw [← hh, Bd.state]; rfl
  have N0 := Fr.nil n0
  have pre0 : ∀ tg, Steps p.tables e below (s₁.setTop (mkF m 0 #[.val (.ref a1)] [])) tg → Steps p.tables e below (s₁.setTop (entryFrame m #[(.ref a1)] 1)) tg := fun t k => castTop (ef_rm_lat m a1) k
  have pre00 : ∀ tg, Steps p.tables e below (s₁.setTop (mkF m 0 #[.val (.ref a1)] [])) tg → Steps p.tables e below (s₁.setTop (mkF m 0 #[.val (.ref a1)] [])) tg := fun _ k => k
  obtain ⟨T1, X1, e1, st1⟩ := getS2 X0 hx hZ hown (host := "") (Or.inl (hw _ (List.mem_of_getElem? (i := 20) rfl))) Via.refl e0 (SC.ext OL.2) (g := (mkF m 0 #[.val (.ref a1)] [])) rfl (hb hby d2_0)
  have R2 : ∀ tg, Steps p.tables e below (T1.setTop (mkF m 7 #[.val (.ref a1)] [(.ref a1)])) tg → Steps p.tables e below (s₁.setTop (mkF m 0 #[.val (.ref a1)] [])) tg := by
    intro tg kt
    refine pre00 _ ?_
    refine st1 _ ?_
    show Steps p.tables e below (T1.setTop (mkF m 3 #[.val (.ref a1)] [(.int cs)])) _
    refine XS.ifNo X1.here hx rfl (hb hby d2_3) rfl ((if0 _ _).trans (feq (hcs : ¬ (cs = (0 : Int32)))).1) ?_
    show Steps p.tables e below (T1.setTop (mkF m 6 #[.val (.ref a1)] [])) _
    refine XS.aloadN X1.here hx rfl (hb hby d2_6) rfl rfl ?_
    exact kt
  clear st1
  obtain ⟨T3, X3, e3, st3⟩ := getF X1 hx hZ hown (host := "") (Or.inl (hw _ (List.mem_of_getElem? (i := 21) rfl))) Via.refl e1 Fc (g := (mkF m 7 #[.val (.ref a1)] [(.ref a1)])) rfl rfl (hb hby d2_7)
  have R4 : ∀ tg, Steps p.tables e below (T3.setTop (mkF m 18 #[.val (.ref a1)] [(.int (1 : Int32))])) tg → Steps p.tables e below (s₁.setTop (mkF m 0 #[.val (.ref a1)] [])) tg := by
    intro tg kt
    refine R2 _ ?_
    refine st3 _ ?_
    show Steps p.tables e below (T3.setTop (mkF m 10 #[.val (.ref a1)] [(.int (0 : Int32))])) _
    refine XS.ifNo X3.here hx rfl (hb hby d2_10) rfl ((if0 _ _).trans (teq (rfl : (0 : Int32) = (0 : Int32))).2) ?_
    show Steps p.tables e below (T3.setTop (mkF m 13 #[.val (.ref a1)] [])) _
    refine XS.iconst X3.here hx rfl (hb hby d2_13) ?_
    show Steps p.tables e below (T3.setTop (mkF m 14 #[.val (.ref a1)] [(.int (1 : Int32))])) _
    refine XS.goto X3.here hx rfl (pc0 := 14) (pc' := 18) rfl (hb hby d2_14) (by decide) (by decide) ?_
    exact kt
  clear R2 st3
  obtain ⟨fs, hr, hrun, hended, hW, hsame⟩ := X3.leave (v := some (.int (1 : Int32))) (fun h => by rw [Bd.returns] at h; cases h)
  refine ⟨_, _, pre0 _ (R4 _ ?_), hrun, hended, _, _, rfl, ?_, ⟨_, rfl⟩, hW, hsame.mono (by decide) (by decide)⟩
  · exact retN X3 hx (t := .boolean) Bd.returns (by simp) (hb hby d2_18) hr
  · show Q_rm_lat Z a1 cs h0 n0 _ T3.heap _
    rw [e3]
    exact ⟨rfl, N0, rfl⟩
theorem pn_1 : plainName "jdk/internal/util/Preconditions" = true := by first | (simp [plainName, overriddenIn]; done) | decide +kernel
theorem d5_0 : decode jdk_41_method_11_code 0 = .ok (.iload_n 0, 1) := by decide +kernel
theorem d5_1 : decode jdk_41_method_11_code 1 = .ok (.ifCond .lt 8, 3) := by decide +kernel
theorem d5_4 : decode jdk_41_method_11_code 4 = .ok (.iload_n 0, 1) := by decide +kernel
theorem d5_5 : decode jdk_41_method_11_code 5 = .ok (.iload_n 1, 1) := by decide +kernel
theorem d5_6 : decode jdk_41_method_11_code 6 = .ok (.if_icmp .lt 10, 3) := by decide +kernel
theorem d5_16 : decode jdk_41_method_11_code 16 = .ok (.iload_n 0, 1) := by decide +kernel
theorem d5_17 : decode jdk_41_method_11_code 17 = .ok (.ireturn, 1) := by decide +kernel
theorem ef_rm_pcN (m : MethodId) (p1 : Int32) (p2 : Int32) : entryFrame m #[(.int p1), (.int p2), .null] 3 = mkF m 0 #[.val (.int p1), .val (.int p2), .val .null] [] := by first | (simp [entryFrame, mkF, argsToLocals, Value.category]; done) | rfl
def Q_rm_pcN (Z : State) (p1 : Int32) (p2 : Int32) (h0 : Heap) (n0 : Nat) (v : Option Value) (h : Heap) (L : List Loc) : Prop := v = some (.int p1) ∧ Fr n0 L ∧ h = h0
set_option maxRecDepth 65536 in
set_option maxHeartbeats 40000000 in
theorem rm_pcN (l : Launch) (Z : State) (a0 : Array Value) (hw : ∀ d ∈ tables_1, d.before a0 Z = true) (ws : List Jvm.Cond) (p1 : Int32) (p2 : Int32) (h0 : Heap) (n0 : Nat) (Z0 : n0 ≤ h0.size) (hp : ¬ p1 < (0 : Int32)) (hq : p1 < p2) :
    MetFree l (⟨"jdk/internal/util/Preconditions", "checkIndex", "(IILjava/util/function/BiFunction;)I"⟩ : MethodName) (head1 (Jvm.Cond.code (⟨"jdk/internal/util/Preconditions", "checkIndex", "(IILjava/util/function/BiFunction;)I"⟩ : MethodName) jdk_41_method_11_code 3 (some .int) :: ws) ({ frames := 0, cells := 0, slots := 0, locals := 0 } : Room)) (fun a U => a = #[(.int p1), (.int p2), .null] ∧ Z.Warmed39 U.vm ∧ U.heap = h0) (fun _ _ _ _ _ => True) (fun _ U oC U' => ∃ v L, oC = .returned v ∧ Q_rm_pcN Z p1 p2 h0 n0 v U'.heap L ∧ FrameEnd U oC U' L ({ frames := 0, cells := 0, slots := 0, locals := 0 } : Room).cells ({ frames := 0, cells := 0, slots := 0, locals := 0 } : Room).slots) := by
  refine MetFree.of_bodySF (plainFor_of_name pn_1) hisR ?_
  intro p e s m args below meth c s₁ Bd hml0 hP hK
  obtain ⟨rfl, hZ, hh⟩ := hP
  have hx := Bd.exec
  have hby := Bd.bytes
  have hml : c.maxLocals = 3 := hml0
  have hown : s.vm.findClass "jdk/internal/util/Preconditions" = some m.cls := findClass_of_methodNamed Bd.named
  have hnm := (name_of_methodNamed Bd.named Bd.method).1
  have X0 : Stand p l e ({ frames := 0, cells := 0, slots := 0, locals := 0 } : Room) s m #[(.int p1), (.int p2), .null] below meth c s₁ [] 0 0 := Stand.of_body Bd
  have e0 : s₁.heap = h0 := by rw [← hh, Bd.state]; rfl
  have N0 := Fr.nil n0
  have pre0 : ∀ tg, Steps p.tables e below (s₁.setTop (mkF m 0 #[.val (.int p1), .val (.int p2), .val .null] [])) tg → Steps p.tables e below (s₁.setTop (entryFrame m #[(.int p1), (.int p2), .null] 3)) tg := fun t k => castTop (ef_rm_pcN m p1 p2) k
  have pre00 : ∀ tg, Steps p.tables e below (s₁.setTop (mkF m 0 #[.val (.int p1), .val (.int p2), .val .null] [])) tg → Steps p.tables e below (s₁.setTop (mkF m 0 #[.val (.int p1), .val (.int p2), .val .null] [])) tg := fun _ k => k
  have R5 : ∀ tg, Steps p.tables e below (s₁.setTop (mkF m 17 #[.val (.int p1), .val (.int p2), .val .null] [(.int p1)])) tg → Steps p.tables e below (s₁.setTop (mkF m 0 #[.val (.int p1), .val (.int p2), .val .null] [])) tg := by
    intro tg kt
    refine pre00 _ ?_
    show Steps p.tables e below (s₁.setTop (mkF m 0 #[.val (.int p1), .val (.int p2), .val .null] [])) _
    refine XS.iloadN X0.here hx rfl (hb hby d5_0) rfl ?_
    show Steps p.tables e below (s₁.setTop (mkF m 1 #[.val (.int p1), .val (.int p2), .val .null] [(.int p1)])) _
    refine XS.ifNo X0.here hx rfl (hb hby d5_1) rfl ((if0 _ _).trans (flt (hp : ¬ (p1 < (0 : Int32)))).1) ?_
    show Steps p.tables e below (s₁.setTop (mkF m 4 #[.val (.int p1), .val (.int p2), .val .null] [])) _
    refine XS.iloadN X0.here hx rfl (hb hby d5_4) rfl ?_
    show Steps p.tables e below (s₁.setTop (mkF m 5 #[.val (.int p1), .val (.int p2), .val .null] [(.int p1)])) _
    refine XS.iloadN X0.here hx rfl (hb hby d5_5) rfl ?_
    show Steps p.tables e below (s₁.setTop (mkF m 6 #[.val (.int p1), .val (.int p2), .val .null] [(.int p2), (.int p1)])) _
    refine XS.icmpYes X0.here hx rfl (pc0 := 6) (pc' := 16) rfl (hb hby d5_6) rfl (tlt (hq : p1 < p2)).1 (by decide) (by decide) ?_
    show Steps p.tables e below (s₁.setTop (mkF m 16 #[.val (.int p1), .val (.int p2), .val .null] [])) _
    refine XS.iloadN X0.here hx rfl (hb hby d5_16) rfl ?_
    exact kt
  obtain ⟨fs, hr, hrun, hended, hW, hsame⟩ := X0.leave (v := some (.int p1)) (fun h => by rw [Bd.returns] at h; cases h)
  refine ⟨_, _, pre0 _ (R5 _ ?_), hrun, hended, _, _, rfl, ?_, ⟨_, rfl⟩, hW, hsame.mono (by decide) (by decide)⟩
  · exact retI X0 hx Bd.returns (hb hby d5_17) hr
  · show Q_rm_pcN Z p1 p2 h0 n0 _ s₁.heap _
    rw [e0]
    exact ⟨rfl, N0, rfl⟩
theorem ef_rm_pcR (m : MethodId) (p1 : Int32) (p2 : Int32) (af : Addr) : entryFrame m #[(.int p1), (.int p2), (.ref af)] 3 = mkF m 0 #[.val (.int p1), .val (.int p2), .val (.ref af)] [] := by first | (simp [entryFrame, mkF, argsToLocals, Value.category]; done) | rfl
def Q_rm_pcR (Z : State) (p1 : Int32) (p2 : Int32) (af : Addr) (h0 : Heap) (n0 : Nat) (v : Option Value) (h : Heap) (L : List Loc) : Prop := v = some (.int p1) ∧ Fr n0 L ∧ h = h0
set_option maxRecDepth 65536 in
set_option maxHeartbeats 40000000 in
theorem rm_pcR (l : Launch) (Z : State) (a0 : Array Value) (hw : ∀ d ∈ tables_1, d.before a0 Z = true) (ws : List Jvm.Cond) (p1 : Int32) (p2 : Int32) (af : Addr) (h0 : Heap) (n0 : Nat) (Z0 : n0 ≤ h0.size) (hp : ¬ p1 < (0 : Int32)) (hq : p1 < p2) :
    MetFree l (⟨"jdk/internal/util/Preconditions", "checkIndex", "(IILjava/util/function/BiFunction;)I"⟩ : MethodName) (head1 (Jvm.Cond.code (⟨"jdk/internal/util/Preconditions", "checkIndex", "(IILjava/util/function/BiFunction;)I"⟩ : MethodName) jdk_41_method_11_code 3 (some .int) :: ws) ({ frames := 0, cells := 0, slots := 0, locals := 0 } : Room)) (fun a U => a = #[(.int p1), (.int p2), (.ref af)] ∧ Z.Warmed39 U.vm ∧ U.heap = h0) (fun _ _ _ _ _ => True) (fun _ U oC U' => ∃ v L, oC = .returned v ∧ Q_rm_pcR Z p1 p2 af h0 n0 v U'.heap L ∧ FrameEnd U oC U' L ({ frames := 0, cells := 0, slots := 0, locals := 0 } : Room).cells ({ frames := 0, cells := 0, slots := 0, locals := 0 } : Room).slots) := by
  refine MetFree.of_bodySF (plainFor_of_name pn_1) hisR ?_
  intro p e s m args below meth c s₁ Bd hml0 hP hK
  obtain ⟨rfl, hZ, hh⟩ := hP
  have hx := Bd.exec
  have hby := Bd.bytes
  have hml : c.maxLocals = 3 := hml0
  have hown : s.vm.findClass "jdk/internal/util/Preconditions" = some m.cls := findClass_of_methodNamed Bd.named
  have hnm := (name_of_methodNamed Bd.named Bd.method).1
  have X0 : Stand p l e ({ frames := 0, cells := 0, slots := 0, locals := 0 } : Room) s m #[(.int p1), (.int p2), (.ref af)] below meth c s₁ [] 0 0 := Stand.of_body Bd
  have e0 : s₁.heap = h0 := by rw [← hh, Bd.state]; rfl
  have N0 := Fr.nil n0
  have pre0 : ∀ tg, Steps p.tables e below (s₁.setTop (mkF m 0 #[.val (.int p1), .val (.int p2), .val (.ref af)] [])) tg → Steps p.tables e below (s₁.setTop (entryFrame m #[(.int p1), (.int p2), (.ref af)] 3)) tg := fun t k => castTop (ef_rm_pcR m p1 p2 af) k
  have pre00 : ∀ tg, Steps p.tables e below (s₁.setTop (mkF m 0 #[.val (.int p1), .val (.int p2), .val (.ref af)] [])) tg → Steps p.tables e below (s₁.setTop (mkF m 0 #[.val (.int p1), .val (.int p2), .val (.ref af)] [])) tg := fun _ k => k
  have R6 : ∀ tg, Steps p.tables e below (s₁.setTop (mkF m 17 #[.val (.int p1), .val (.int p2), .val (.ref af)] [(.int p1)])) tg → Steps p.tables e below (s₁.setTop (mkF m 0 #[.val (.int p1), .val (.int p2), .val (.ref af)] [])) tg := by
    intro tg kt
    refine pre00 _ ?_
    show Steps p.tables e below (s₁.setTop (mkF m 0 #[.val (.int p1), .val (.int p2), .val (.ref af)] [])) _
    refine XS.iloadN X0.here hx rfl (hb hby d5_0) rfl ?_
    show Steps p.tables e below (s₁.setTop (mkF m 1 #[.val (.int p1), .val (.int p2), .val (.ref af)] [(.int p1)])) _
    refine XS.ifNo X0.here hx rfl (hb hby d5_1) rfl ((if0 _ _).trans (flt (hp : ¬ (p1 < (0 : Int32)))).1) ?_
    show Steps p.tables e below (s₁.setTop (mkF m 4 #[.val (.int p1), .val (.int p2), .val (.ref af)] [])) _
    refine XS.iloadN X0.here hx rfl (hb hby d5_4) rfl ?_
    show Steps p.tables e below (s₁.setTop (mkF m 5 #[.val (.int p1), .val (.int p2), .val (.ref af)] [(.int p1)])) _
    refine XS.iloadN X0.here hx rfl (hb hby d5_5) rfl ?_
    show Steps p.tables e below (s₁.setTop (mkF m 6 #[.val (.int p1), .val (.int p2), .val (.ref af)] [(.int p2), (.int p1)])) _
    refine XS.icmpYes X0.here hx rfl (pc0 := 6) (pc' := 16) rfl (hb hby d5_6) rfl (tlt (hq : p1 < p2)).1 (by decide) (by decide) ?_
    show Steps p.tables e below (s₁.setTop (mkF m 16 #[.val (.int p1), .val (.int p2), .val (.ref af)] [])) _
    refine XS.iloadN X0.here hx rfl (hb hby d5_16) rfl ?_
    exact kt
  obtain ⟨fs, hr, hrun, hended, hW, hsame⟩ := X0.leave (v := some (.int p1)) (fun h => by rw [Bd.returns] at h; cases h)
  refine ⟨_, _, pre0 _ (R6 _ ?_), hrun, hended, _, _, rfl, ?_, ⟨_, rfl⟩, hW, hsame.mono (by decide) (by decide)⟩
  · exact retI X0 hx Bd.returns (hb hby d5_17) hr
  · show Q_rm_pcR Z p1 p2 af h0 n0 _ s₁.heap _
    rw [e0]
    exact ⟨rfl, N0, rfl⟩
theorem d4_0 : decode jdk_42_method_155_code 0 = .ok (.iload_n 0, 1) := by decide +kernel
theorem d4_1 : decode jdk_42_method_155_code 1 = .ok (.iload_n 1, 1) := by decide +kernel
theorem d4_2 : decode jdk_42_method_155_code 2 = .ok (.getstatic 1053, 3) := by decide +kernel
theorem pd_0 : parseMethodDescriptor "(IILjava/util/function/BiFunction;)I" = some ⟨[.int, .int, (.object "java/util/function/BiFunction")], some .int⟩ := by decide +kernel
theorem d4_5 : decode jdk_42_method_155_code 5 = .ok (.invokestatic 1059, 3) := by decide +kernel
theorem d4_8 : decode jdk_42_method_155_code 8 = .ok (.pop, 1) := by decide +kernel
theorem d4_9 : decode jdk_42_method_155_code 9 = .ok (.return_, 1) := by decide +kernel
theorem ef_rm_ck (m : MethodId) (p1 : Int32) (p2 : Int32) : entryFrame m #[(.int p1), (.int p2)] 2 = mkF m 0 #[.val (.int p1), .val (.int p2)] [] := by first | (simp [entryFrame, mkF, argsToLocals, Value.category]; done) | rfl
def Q_rm_ck (Z : State) (p1 : Int32) (p2 : Int32) (vf : Value) (h0 : Heap) (n0 : Nat) (v : Option Value) (h : Heap) (L : List Loc) : Prop := v = none ∧ Fr n0 L ∧ h = h0
set_option maxRecDepth 65536 in
set_option maxHeartbeats 40000000 in
theorem rm_ck (l : Launch) (Z : State) (a0 : Array Value) (hw : ∀ d ∈ tables_1, d.before a0 Z = true) (ws : List Jvm.Cond) (p1 : Int32) (p2 : Int32) (vf : Value) (h0 : Heap) (n0 : Nat) (Z0 : n0 ≤ h0.size) (SF : Sta Z Z.heap "jdk/internal/util/Preconditions" "SIOOBE_FORMATTER" "Ljava/util/function/BiFunction;" vf) (OL : Old Z n0 h0) (hvf : vf.isRef = true) (hp : ¬ p1 < (0 : Int32)) (hq : p1 < p2) :
    MetFree l (⟨"java/lang/String", "checkIndex", "(II)V"⟩ : MethodName) (head1 (Jvm.Cond.code (⟨"java/lang/String", "checkIndex", "(II)V"⟩ : MethodName) jdk_42_method_155_code 2 none :: ws) ({ frames := 1, cells := 0, slots := 0, locals := 14 } : Room)) (fun a U => a = #[(.int p1), (.int p2)] ∧ Z.Warmed39 U.vm ∧ U.heap = h0) (fun _ _ _ _ _ => True) (fun _ U oC U' => ∃ v L, oC = .returned v ∧ Q_rm_ck Z p1 p2 vf h0 n0 v U'.heap L ∧ FrameEnd U oC U' L ({ frames := 1, cells := 0, slots := 0, locals := 14 } : Room).cells ({ frames := 1, cells := 0, slots := 0, locals := 14 } : Room).slots) := by
  refine MetFree.of_bodySF (plainFor_of_name pn_0) hisR ?_
  intro p e s m args below meth c s₁ Bd hml0 hP hK
  obtain ⟨rfl, hZ, hh⟩ := hP
  have hx := Bd.exec
  have hby := Bd.bytes
  have hml : c.maxLocals = 2 := hml0
  have hown : s.vm.findClass "java/lang/String" = some m.cls := findClass_of_methodNamed Bd.named
  have hnm := (name_of_methodNamed Bd.named Bd.method).1
  have X0 : Stand p l e ({ frames := 1, cells := 0, slots := 0, locals := 14 } : Room) s m #[(.int p1), (.int p2)] below meth c s₁ [] 0 0 := Stand.of_body Bd
  have e0 : s₁.heap = h0 := by rw [← hh, Bd.state]; rfl
  have N0 := Fr.nil n0
  have pre0 : ∀ tg, Steps p.tables e below (s₁.setTop (mkF m 0 #[.val (.int p1), .val (.int p2)] [])) tg → Steps p.tables e below (s₁.setTop (entryFrame m #[(.int p1), (.int p2)] 2)) tg := fun t k => castTop (ef_rm_ck m p1 p2) k
  have pre00 : ∀ tg, Steps p.tables e below (s₁.setTop (mkF m 0 #[.val (.int p1), .val (.int p2)] [])) tg → Steps p.tables e below (s₁.setTop (mkF m 0 #[.val (.int p1), .val (.int p2)] [])) tg := fun _ k => k
  rcases ref_cases hvf with rfl | ⟨af, rfl⟩
  · have R7 : ∀ tg, Steps p.tables e below (s₁.setTop (mkF m 2 #[.val (.int p1), .val (.int p2)] [(.int p2), (.int p1)])) tg → Steps p.tables e below (s₁.setTop (mkF m 0 #[.val (.int p1), .val (.int p2)] [])) tg := by
      intro tg kt
      refine pre00 _ ?_
      show Steps p.tables e below (s₁.setTop (mkF m 0 #[.val (.int p1), .val (.int p2)] [])) _
      refine XS.iloadN X0.here hx rfl (hb hby d4_0) rfl ?_
      show Steps p.tables e below (s₁.setTop (mkF m 1 #[.val (.int p1), .val (.int p2)] [(.int p1)])) _
      refine XS.iloadN X0.here hx rfl (hb hby d4_1) rfl ?_
      exact kt
    obtain ⟨T8, X8, e8, st8⟩ := getS2 X0 hx hZ hown (host := "") (Or.inl (hw _ (List.mem_of_getElem? (i := 30) rfl))) Via.refl e0 (SF.ext OL.2) (g := (mkF m 2 #[.val (.int p1), .val (.int p2)] [(.int p2), (.int p1)])) rfl (hb hby d4_2)
    have R9 : ∀ tg, Steps p.tables e below (T8.setTop (mkF m 5 #[.val (.int p1), .val (.int p2)] [.null, (.int p2), (.int p1)])) tg → Steps p.tables e below (s₁.setTop (mkF m 0 #[.val (.int p1), .val (.int p2)] [])) tg := by
      intro tg kt
      refine R7 _ ?_
      refine st8 _ ?_
      exact kt
    clear R7 st8
    obtain ⟨_, _, ⟨T10, L10, k10, n10⟩, -, X10, ⟨Lc10, hQ10, l10, y10, z10⟩, st10⟩ := Jvm.LawKit.callS X8 hx (y := (⟨"jdk/internal/util/Preconditions", "checkIndex", "(IILjava/util/function/BiFunction;)I"⟩ : MethodName)) hown (mvT hZ (hw _ (List.mem_of_getElem? (i := 32) rfl))) (mvT hZ (hw _ (List.mem_of_getElem? (i := 33) rfl))) (mvT hZ (hw _ (List.mem_of_getElem? (i := 31) rfl))) (mvT hZ (hw _ (List.mem_of_getElem? (i := 34) rfl))) (by decide) (backOf (W := 0) (rm_pcN l Z a0 hw [] p1 p2 h0 n0 Z0 hp hq) hZ (hw _ (List.mem_of_getElem? (i := 34) rfl)) (hw _ (List.mem_of_getElem? (i := 31) rfl)) (by decide) (by decide)) (g := (mkF m 5 #[.val (.int p1), .val (.int p2)] [.null, (.int p2), (.int p1)])) rfl (by rw [hml]; rfl) (argsL := [(.int p1), (.int p2), .null]) (rest := []) (lenOf pd_0 rfl) rfl (by show 2 * 0 + _ ≤ _; exact Nat.le_of_eq rfl) (hb hby d4_5) (fun _ _ => ⟨rfl, e8, (by decide : 0 + 0 ≤ _), (by decide : 0 + 0 ≤ _)⟩)
    dsimp only [Pt.U, Pt.locs, Pt.cells, Pt.slots] at X10 l10 y10 z10 st10 hQ10
    rw [l10, y10, z10] at X10
    obtain ⟨rfl, N10q, hh10⟩ := hQ10
    have N10 := Fr.app N0 N10q
    have R11 : ∀ tg, Steps p.tables e below (T10.setTop (mkF m 9 #[.val (.int p1), .val (.int p2)] [])) tg → Steps p.tables e below (s₁.setTop (mkF m 0 #[.val (.int p1), .val (.int p2)] [])) tg := by
      intro tg kt
      refine R9 _ ?_
      refine st10 _ ?_
      show Steps p.tables e below (T10.setTop (mkF m 8 #[.val (.int p1), .val (.int p2)] [(.int p1)])) _
      refine XS.pop X10.here hx rfl (hb hby d4_8) rfl rfl ?_
      exact kt
    clear R9 st10
    obtain ⟨fs, hr, hrun, hended, hW, hsame⟩ := X10.leave (v := none) (fun _ => rfl)
    refine ⟨_, _, pre0 _ (R11 _ ?_), hrun, hended, _, _, rfl, ?_, ⟨_, rfl⟩, hW, hsame.mono (by decide) (by decide)⟩
    · exact X10.returnOut hx Bd.returns (hb hby d4_9) hr
    · show Q_rm_ck Z p1 p2 .null h0 n0 _ T10.heap _
      rw [hh10]
      exact ⟨rfl, N10, rfl⟩
  · have R12 : ∀ tg, Steps p.tables e below (s₁.setTop (mkF m 2 #[.val (.int p1), .val (.int p2)] [(.int p2), (.int p1)])) tg → Steps p.tables e below (s₁.setTop (mkF m 0 #[.val (.int p1), .val (.int p2)] [])) tg := by
      intro tg kt
      refine pre00 _ ?_
      show Steps p.tables e below (s₁.setTop (mkF m 0 #[.val (.int p1), .val (.int p2)] [])) _
      refine XS.iloadN X0.here hx rfl (hb hby d4_0) rfl ?_
      show Steps p.tables e below (s₁.setTop (mkF m 1 #[.val (.int p1), .val (.int p2)] [(.int p1)])) _
      refine XS.iloadN X0.here hx rfl (hb hby d4_1) rfl ?_
      exact kt
    obtain ⟨T13, X13, e13, st13⟩ := getS2 X0 hx hZ hown (host := "") (Or.inl (hw _ (List.mem_of_getElem? (i := 30) rfl))) Via.refl e0 (SF.ext OL.2) (g := (mkF m 2 #[.val (.int p1), .val (.int p2)] [(.int p2), (.int p1)])) rfl (hb hby d4_2)
    have R14 : ∀ tg, Steps p.tables e below (T13.setTop (mkF m 5 #[.val (.int p1), .val (.int p2)] [(.ref af), (.int p2), (.int p1)])) tg → Steps p.tables e below (s₁.setTop (mkF m 0 #[.val (.int p1), .val (.int p2)] [])) tg := by
      intro tg kt
      refine R12 _ ?_
      refine st13 _ ?_
      exact kt
    clear R12 st13
    obtain ⟨_, _, ⟨T15, L15, k15, n15⟩, -, X15, ⟨Lc15, hQ15, l15, y15, z15⟩, st15⟩ := Jvm.LawKit.callS X13 hx (y := (⟨"jdk/internal/util/Preconditions", "checkIndex", "(IILjava/util/function/BiFunction;)I"⟩ : MethodName)) hown (mvT hZ (hw _ (List.mem_of_getElem? (i := 32) rfl))) (mvT hZ (hw _ (List.mem_of_getElem? (i := 33) rfl))) (mvT hZ (hw _ (List.mem_of_getElem? (i := 31) rfl))) (mvT hZ (hw _ (List.mem_of_getElem? (i := 34) rfl))) (by decide) (backOf (W := 0) (rm_pcR l Z a0 hw [] p1 p2 af h0 n0 Z0 hp hq) hZ (hw _ (List.mem_of_getElem? (i := 34) rfl)) (hw _ (List.mem_of_getElem? (i := 31) rfl)) (by decide) (by decide)) (g := (mkF m 5 #[.val (.int p1), .val (.int p2)] [(.ref af), (.int p2), (.int p1)])) rfl (by rw [hml]; rfl) (argsL := [(.int p1), (.int p2), (.ref af)]) (rest := []) (lenOf pd_0 rfl) rfl (by show 2 * 0 + _ ≤ _; exact Nat.le_of_eq rfl) (hb hby d4_5) (fun _ _ => ⟨rfl, e13, (by decide : 0 + 0 ≤ _), (by decide : 0 + 0 ≤ _)⟩)
    dsimp only [Pt.U, Pt.locs, Pt.cells, Pt.slots] at X15 l15 y15 z15 st15 hQ15
    rw [l15, y15, z15] at X15
    obtain ⟨rfl, N15q, hh15⟩ := hQ15
    have N15 := Fr.app N0 N15q
    have R16 : ∀ tg, Steps p.tables e below (T15.setTop (mkF m 9 #[.val (.int p1), .val (.int p2)] [])) tg → Steps p.tables e below (s₁.setTop (mkF m 0 #[.val (.int p1), .val (.int p2)] [])) tg := by
      intro tg kt
      refine R14 _ ?_
      refine st15 _ ?_
      show Steps p.tables e below (T15.setTop (mkF m 8 #[.val (.int p1), .val (.int p2)] [(.int p1)])) _
      refine XS.pop X15.here hx rfl (hb hby d4_8) rfl rfl ?_
      exact kt
    clear R14 st15
    obtain ⟨fs, hr, hrun, hended, hW, hsame⟩ := X15.leave (v := none) (fun _ => rfl)
    refine ⟨_, _, pre0 _ (R16 _ ?_), hrun, hended, _, _, rfl, ?_, ⟨_, rfl⟩, hW, hsame.mono (by decide) (by decide)⟩
    · exact X15.returnOut hx Bd.returns (hb hby d4_9) hr
    · show Q_rm_ck Z p1 p2 (.ref af) h0 n0 _ T15.heap _
      rw [hh15]
      exact ⟨rfl, N15, rfl⟩
theorem pn_2 : plainName "java/lang/StringLatin1" = true := by first | (simp [plainName, overriddenIn]; done) | decide +kernel
theorem d3_0 : decode jdk_43_method_2_code 0 = .ok (.iload_n 1, 1) := by decide +kernel
theorem d3_1 : decode jdk_43_method_2_code 1 = .ok (.aload_n 0, 1) := by decide +kernel
theorem d3_2 : decode jdk_43_method_2_code 2 = .ok (.arraylength, 1) := by decide +kernel
theorem pd_1 : parseMethodDescriptor "(II)V" = some ⟨[.int, .int], none⟩ := by decide +kernel
theorem d3_3 : decode jdk_43_method_2_code 3 = .ok (.invokestatic 9, 3) := by decide +kernel
theorem d3_6 : decode jdk_43_method_2_code 6 = .ok (.aload_n 0, 1) := by decide +kernel
theorem d3_7 : decode jdk_43_method_2_code 7 = .ok (.iload_n 1, 1) := by decide +kernel
theorem d3_8 : decode jdk_43_method_2_code 8 = .ok (.baload, 1) := by decide +kernel
theorem d3_9 : decode jdk_43_method_2_code 9 = .ok (.sipush 255, 3) := by decide +kernel
theorem d3_12 : decode jdk_43_method_2_code 12 = .ok (.iand, 1) := by decide +kernel
theorem d3_13 : decode jdk_43_method_2_code 13 = .ok (.i2c, 1) := by decide +kernel
theorem d3_14 : decode jdk_43_method_2_code 14 = .ok (.ireturn, 1) := by decide +kernel
theorem ef_rm_lch (m : MethodId) (a1 : Addr) (p2 : Int32) : entryFrame m #[(.ref a1), (.int p2)] 2 = mkF m 0 #[.val (.ref a1), .val (.int p2)] [] := by first | (simp [entryFrame, mkF, argsToLocals, Value.category]; done) | rfl
def Q_rm_lch (Z : State) (a1 : Addr) (p2 : Int32) (n : Nat) (g : Nat → Int32) (k : Nat) (vf : Value) (h0 : Heap) (n0 : Nat) (v : Option Value) (h : Heap) (L : List Loc) : Prop := v = some (.int (own_ch (g k))) ∧ Fr n0 L ∧ h = h0
set_option maxRecDepth 65536 in
set_option maxHeartbeats 40000000 in
theorem rm_lch (l : Launch) (Z : State) (a0 : Array Value) (hw : ∀ d ∈ tables_1, d.before a0 Z = true) (ws : List Jvm.Cond) (a1 : Addr) (p2 : Int32) (n : Nat) (g : Nat → Int32) (k : Nat) (vf : Value) (h0 : Heap) (n0 : Nat) (Z0 : n0 ≤ h0.size) (SF : Sta Z Z.heap "jdk/internal/util/Preconditions" "SIOOBE_FORMATTER" "Ljava/util/function/BiFunction;" vf) (OL : Old Z n0 h0) (hvf : vf.isRef = true) (VA : AV Z h0 a1 .byte n (fun j => .int (g j))) (hp : ¬ p2 < (0 : Int32)) (hq : p2 < (n : Nat).toInt32) (hj : p2.toNatClampNeg = k) (hk : k < n) :
    MetFree l (⟨"java/lang/StringLatin1", "charAt", "([BI)C"⟩ : MethodName) (head1 (Jvm.Cond.code (⟨"java/lang/StringLatin1", "charAt", "([BI)C"⟩ : MethodName) jdk_43_method_2_code 2 (some .char) :: ws) ({ frames := 2, cells := 0, slots := 0, locals := 27 } : Room)) (fun a U => a = #[(.ref a1), (.int p2)] ∧ Z.Warmed39 U.vm ∧ U.heap = h0) (fun _ _ _ _ _ => True) (fun _ U oC U' => ∃ v L, oC = .returned v ∧ Q_rm_lch Z a1 p2 n g k vf h0 n0 v U'.heap L ∧ FrameEnd U oC U' L ({ frames := 2, cells := 0, slots := 0, locals := 27 } : Room).cells ({ frames := 2, cells := 0, slots := 0, locals := 27 } : Room).slots) := by
  refine MetFree.of_bodySF (plainFor_of_name pn_2) hisR ?_
  intro p e s m args below meth c s₁ Bd hml0 hP hK
  obtain ⟨rfl, hZ, hh⟩ := hP
  have hx := Bd.exec
  have hby := Bd.bytes
  have hml : c.maxLocals = 2 := hml0
  have hown : s.vm.findClass "java/lang/StringLatin1" = some m.cls := findClass_of_methodNamed Bd.named
  have hnm := (name_of_methodNamed Bd.named Bd.method).1
  have X0 : Stand p l e ({ frames := 2, cells := 0, slots := 0, locals := 27 } : Room) s m #[(.ref a1), (.int p2)] below meth c s₁ [] 0 0 := Stand.of_body Bd
  have e0 : s₁.heap = h0 := by rw [← hh, Bd.state]; rfl
  have N0 := Fr.nil n0
  have pre0 : ∀ tg, Steps p.tables e below (s₁.setTop (mkF m 0 #[.val (.ref a1), .val (.int p2)] [])) tg → Steps p.tables e below (s₁.setTop (entryFrame m #[(.ref a1), (.int p2)] 2)) tg := fun t k => castTop (ef_rm_lch m a1 p2) k
  have pre00 : ∀ tg, Steps p.tables e below (s₁.setTop (mkF m 0 #[.val (.ref a1), .val (.int p2)] [])) tg → Steps p.tables e below (s₁.setTop (mkF m 0 #[.val (.ref a1), .val (.int p2)] [])) tg := fun _ k => k
  have R17 : ∀ tg, Steps p.tables e below (s₁.setTop (mkF m 2 #[.val (.ref a1), .val (.int p2)] [(.ref a1), (.int p2)])) tg → Steps p.tables e below (s₁.setTop (mkF m 0 #[.val (.ref a1), .val (.int p2)] [])) tg := by
    intro tg kt
    refine pre00 _ ?_
    show Steps p.tables e below (s₁.setTop (mkF m 0 #[.val (.ref a1), .val (.int p2)] [])) _
    refine XS.iloadN X0.here hx rfl (hb hby d3_0) rfl ?_
    show Steps p.tables e below (s₁.setTop (mkF m 1 #[.val (.ref a1), .val (.int p2)] [(.int p2)])) _
    refine XS.aloadN X0.here hx rfl (hb hby d3_1) rfl rfl ?_
    exact kt
  obtain ⟨cl18, Ar18, ln18⟩ := VA.len
  have R19 : ∀ tg, Steps p.tables e below (s₁.setTop (mkF m 3 #[.val (.ref a1), .val (.int p2)] [(.int (n : Nat).toInt32), (.int p2)])) tg → Steps p.tables e below (s₁.setTop (mkF m 0 #[.val (.ref a1), .val (.int p2)] [])) tg := by
    intro tg kt
    refine R17 _ ?_
    show Steps p.tables e below (s₁.setTop (mkF m 2 #[.val (.ref a1), .val (.int p2)] [(.ref a1), (.int p2)])) _
    refine X0.arraylength hx (by rw [e0]; exact Ar18.1) (State.isArrayOf_alike hZ.alike Ar18.2.1) (g := (mkF m 2 #[.val (.ref a1), .val (.int p2)] [(.ref a1), (.int p2)])) rfl rfl (hb hby d3_2) _ ?_
    rw [ln18]
    exact kt
  clear R17
  obtain ⟨_, _, ⟨T20, L20, k20, n20⟩, -, X20, ⟨Lc20, hQ20, l20, y20, z20⟩, st20⟩ := Jvm.LawKit.callS X0 hx (y := (⟨"java/lang/String", "checkIndex", "(II)V"⟩ : MethodName)) hown (mvT hZ (hw _ (List.mem_of_getElem? (i := 27) rfl))) (mvT hZ (hw _ (List.mem_of_getElem? (i := 28) rfl))) (mvT hZ (hw _ (List.mem_of_getElem? (i := 1) rfl))) (mvT hZ (hw _ (List.mem_of_getElem? (i := 29) rfl))) (by decide) (backOf (W := 0) (rm_ck l Z a0 hw [] p2 (n : Nat).toInt32 vf h0 n0 Z0 SF OL hvf hp hq) hZ (hw _ (List.mem_of_getElem? (i := 29) rfl)) (hw _ (List.mem_of_getElem? (i := 1) rfl)) (by decide) (by decide)) (g := (mkF m 3 #[.val (.ref a1), .val (.int p2)] [(.int (n : Nat).toInt32), (.int p2)])) rfl (by rw [hml]; rfl) (argsL := [(.int p2), (.int (n : Nat).toInt32)]) (rest := []) (lenOf pd_1 rfl) rfl (by show 2 * 0 + _ ≤ _; exact Nat.le_of_eq rfl) (hb hby d3_3) (fun _ _ => ⟨rfl, e0, (by decide : 0 + 0 ≤ _), (by decide : 0 + 0 ≤ _)⟩)
  dsimp only [Pt.U, Pt.locs, Pt.cells, Pt.slots] at X20 l20 y20 z20 st20 hQ20
  rw [l20, y20, z20] at X20
  obtain ⟨rfl, N20q, hh20⟩ := hQ20
  have N20 := Fr.app N0 N20q
  have R21 : ∀ tg, Steps p.tables e below (T20.setTop (mkF m 8 #[.val (.ref a1), .val (.int p2)] [(.int p2), (.ref a1)])) tg → Steps p.tables e below (s₁.setTop (mkF m 0 #[.val (.ref a1), .val (.int p2)] [])) tg := by
    intro tg kt
    refine R19 _ ?_
    refine st20 _ ?_
    show Steps p.tables e below (T20.setTop (mkF m 6 #[.val (.ref a1), .val (.int p2)] [])) _
    refine XS.aloadN X20.here hx rfl (hb hby d3_6) rfl rfl ?_
    show Steps p.tables e below (T20.setTop (mkF m 7 #[.val (.ref a1), .val (.int p2)] [(.ref a1)])) _
    refine XS.iloadN X20.here hx rfl (hb hby d3_7) rfl ?_
    exact kt
  clear R19 st20
  obtain ⟨cl22, Ar22, hin22, hat22⟩ := VA.at (j := p2) (k := k) hp hj hk
  have R23 : ∀ tg, Steps p.tables e below (T20.setTop (mkF m 14 #[.val (.ref a1), .val (.int p2)] [(.int (((g k) &&& (255 : Int32)).toUInt32.toUInt16.toUInt32.toInt32))])) tg → Steps p.tables e below (s₁.setTop (mkF m 0 #[.val (.ref a1), .val (.int p2)] [])) tg := by
    intro tg kt
    refine R21 _ ?_
    show Steps p.tables e below (T20.setTop (mkF m 8 #[.val (.ref a1), .val (.int p2)] [(.int p2), (.ref a1)])) _
    refine X20.baloadBytes hx (j := p2) (v := (.int (g k))) (by rw [hh20]; exact Ar22.1) (State.isArrayOf_alike hZ.alike Ar22.2.1) Ar22.2.2 hin22 hat22 (g := (mkF m 8 #[.val (.ref a1), .val (.int p2)] [(.int p2), (.ref a1)])) rfl rfl (hb hby d3_8) _ ?_
    show Steps p.tables e below (T20.setTop (mkF m 9 #[.val (.ref a1), .val (.int p2)] [(.int (g k))])) _
    refine XS.sipush X20.here hx rfl (hb hby d3_9) ?_
    show Steps p.tables e below (T20.setTop (mkF m 12 #[.val (.ref a1), .val (.int p2)] [(.int (255 : Int32)), (.int (g k))])) _
    refine XS.iand X20.here hx rfl (hb hby d3_12) rfl ?_
    show Steps p.tables e below (T20.setTop (mkF m 13 #[.val (.ref a1), .val (.int p2)] [(.int ((g k) &&& (255 : Int32)))])) _
    refine XS.i2c X20.here hx rfl (hb hby d3_13) rfl ?_
    exact kt
  clear R21
  have R24 : ∀ tg, Steps p.tables e below (T20.setTop (mkF m 14 #[.val (.ref a1), .val (.int p2)] [(.int (own_ch (g k)))])) tg → Steps p.tables e below (s₁.setTop (mkF m 0 #[.val (.ref a1), .val (.int p2)] [])) tg := R23
  obtain ⟨fs, hr, hrun, hended, hW, hsame⟩ := X20.leave (v := some (.int (own_ch (g k)))) (fun h => by rw [Bd.returns] at h; cases h)
  refine ⟨_, _, pre0 _ (R24 _ ?_), hrun, hended, _, _, rfl, ?_, ⟨_, rfl⟩, hW, hsame.mono (by decide) (by decide)⟩
  · exact retN X20 hx (t := .char) Bd.returns (by simp) (hb hby d3_14) (fun f acts q1 q2 q3 => (congrArg (fun q => (doReturn e (T20.setTop f) acts (some (.int q))).1) (own_chn _)).trans (hr f acts q1 q2 q3))
  · show Q_rm_lch Z a1 p2 n g k vf h0 n0 _ T20.heap _
    rw [hh20]
    exact ⟨rfl, N20, rfl⟩
theorem d1_0 : decode jdk_42_method_56_code 0 = .ok (.aload_n 0, 1) := by decide +kernel
theorem pd_2 : parseMethodDescriptor "()Z" = some ⟨[], some .boolean⟩ := by decide +kernel
theorem d1_1 : decode jdk_42_method_56_code 1 = .ok (.invokevirtual 492, 3) := by decide +kernel
theorem d1_4 : decode jdk_42_method_56_code 4 = .ok (.ifCond .eq 12, 3) := by decide +kernel
theorem d1_7 : decode jdk_42_method_56_code 7 = .ok (.aload_n 0, 1) := by decide +kernel
theorem d1_8 : decode jdk_42_method_56_code 8 = .ok (.getfield 9, 3) := by decide +kernel
theorem d1_11 : decode jdk_42_method_56_code 11 = .ok (.iload_n 1, 1) := by decide +kernel
theorem pd_3 : parseMethodDescriptor "([BI)C" = some ⟨[(.array .byte), .int], some .char⟩ := by decide +kernel
theorem d1_12 : decode jdk_42_method_56_code 12 = .ok (.invokestatic 495, 3) := by decide +kernel
theorem d1_15 : decode jdk_42_method_56_code 15 = .ok (.ireturn, 1) := by decide +kernel
theorem ef_rm_cha (m : MethodId) (a1 : Addr) (p2 : Int32) : entryFrame m #[(.ref a1), (.int p2)] 2 = mkF m 0 #[.val (.ref a1), .val (.int p2)] [] := by first | (simp [entryFrame, mkF, argsToLocals, Value.category]; done) | rfl
def Q_rm_cha (Z : State) (a1 : Addr) (p2 : Int32) (tb : Addr) (cs : Int32) (n : Nat) (g : Nat → Int32) (k : Nat) (vf : Value) (h0 : Heap) (n0 : Nat) (v : Option Value) (h : Heap) (L : List Loc) : Prop := v = some (.int (own_ch (g k))) ∧ Fr n0 L ∧ h = h0
set_option maxRecDepth 65536 in
set_option maxHeartbeats 40000000 in
theorem rm_cha (l : Launch) (Z : State) (a0 : Array Value) (hw : ∀ d ∈ tables_1, d.before a0 Z = true) (ws : List Jvm.Cond) (a1 : Addr) (p2 : Int32) (tb : Addr) (cs : Int32) (n : Nat) (g : Nat → Int32) (k : Nat) (vf : Value) (h0 : Heap) (n0 : Nat) (Z0 : n0 ≤ h0.size) (SC : Sta Z Z.heap "java/lang/String" "COMPACT_STRINGS" "Z" (.int cs)) (OL : Old Z n0 h0) (hcs : ¬ (cs = (0 : Int32))) (SF : Sta Z Z.heap "jdk/internal/util/Preconditions" "SIOOBE_FORMATTER" "Ljava/util/function/BiFunction;" vf) (hvf : vf.isRef = true) (Fc : Fld Z h0 a1 "java/lang/String" "coder" "B" (.int (0 : Int32))) (Fv : Fld Z h0 a1 "java/lang/String" "value" "[B" (.ref tb)) (E1 : Exa Z h0 a1 "java/lang/String") (VA : AV Z h0 tb .byte n (fun j => .int (g j))) (hp : ¬ p2 < (0 : Int32)) (hq : p2 < (n : Nat).toInt32) (hj : p2.toNatClampNeg = k) (hk : k < n) :
    MetFree l (⟨"java/lang/String", "charAt", "(I)C"⟩ : MethodName) (head1 (Jvm.Cond.code (⟨"java/lang/String", "charAt", "(I)C"⟩ : MethodName) jdk_42_method_56_code 2 (some .char) :: ws) ({ frames := 3, cells := 0, slots := 0, locals := 40 } : Room)) (fun a U => a = #[(.ref a1), (.int p2)] ∧ Z.Warmed39 U.vm ∧ U.heap = h0) (fun _ _ _ _ _ => True) (fun _ U oC U' => ∃ v L, oC = .returned v ∧ Q_rm_cha Z a1 p2 tb cs n g k vf h0 n0 v U'.heap L ∧ FrameEnd U oC U' L ({ frames := 3, cells := 0, slots := 0, locals := 40 } : Room).cells ({ frames := 3, cells := 0, slots := 0, locals := 40 } : Room).slots) := by
  refine MetFree.of_bodySF (plainFor_of_name pn_0) hisR ?_
  intro p e s m args below meth c s₁ Bd hml0 hP hK
  obtain ⟨rfl, hZ, hh⟩ := hP
  have hx := Bd.exec
  have hby := Bd.bytes
  have hml : c.maxLocals = 2 := hml0
  have hown : s.vm.findClass "java/lang/String" = some m.cls := findClass_of_methodNamed Bd.named
  have hnm := (name_of_methodNamed Bd.named Bd.method).1
  have X0 : Stand p l e ({ frames := 3, cells := 0, slots := 0, locals := 40 } : Room) s m #[(.ref a1), (.int p2)] below meth c s₁ [] 0 0 := Stand.of_body Bd
  have e0 : s₁.heap = h0 := by rw [← hh, Bd.state]; rfl
  have N0 := Fr.nil n0
  have pre0 : ∀ tg, Steps p.tables e below (s₁.setTop (mkF m 0 #[.val (.ref a1), .val (.int p2)] [])) tg → Steps p.tables e below (s₁.setTop (entryFrame m #[(.ref a1), (.int p2)] 2)) tg := fun t k => castTop (ef_rm_cha m a1 p2) k
  have pre00 : ∀ tg, Steps p.tables e below (s₁.setTop (mkF m 0 #[.val (.ref a1), .val (.int p2)] [])) tg → Steps p.tables e below (s₁.setTop (mkF m 0 #[.val (.ref a1), .val (.int p2)] [])) tg := fun _ k => k
  have R25 : ∀ tg, Steps p.tables e below (s₁.setTop (mkF m 1 #[.val (.ref a1), .val (.int p2)] [(.ref a1)])) tg → Steps p.tables e below (s₁.setTop (mkF m 0 #[.val (.ref a1), .val (.int p2)] [])) tg := by
    intro tg kt
    refine pre00 _ ?_
    show Steps p.tables e below (s₁.setTop (mkF m 0 #[.val (.ref a1), .val (.int p2)] [])) _
    refine XS.aloadN X0.here hx rfl (hb hby d1_0) rfl rfl ?_
    exact kt
  obtain ⟨cq26, kq26, q26a, q26b, q26c⟩ := isOf hZ e0 E1
  obtain ⟨_, _, ⟨T26, L26, k26, n26⟩, -, X26, ⟨Lc26, hQ26, l26, y26, z26⟩, st26⟩ := X0.virtualBack hx (y := (⟨"java/lang/String", "isLatin1", "()Z"⟩ : MethodName)) (z := (⟨"java/lang/String", "isLatin1", "()Z"⟩ : MethodName)) hown (mvT hZ (hw _ (List.mem_of_getElem? (i := 15) rfl))) (mvT hZ (hw _ (List.mem_of_getElem? (i := 16) rfl))) (notFace_of_selects (args := #[]) (mvT hZ (hw _ (List.mem_of_getElem? (i := 18) rfl)))) (mvT hZ (hw _ (List.mem_of_getElem? (i := 18) rfl))) (mvT hZ (hw _ (List.mem_of_getElem? (i := 17) rfl))) (by decide) (backOf (W := 0) (rm_lat l Z a0 hw [] a1 cs h0 n0 Z0 SC OL hcs Fc) hZ (hw _ (List.mem_of_getElem? (i := 19) rfl)) (hw _ (List.mem_of_getElem? (i := 1) rfl)) (by decide) (by decide)) q26a q26c (g := (mkF m 1 #[.val (.ref a1), .val (.int p2)] [(.ref a1)])) rfl (by rw [hml]; rfl) (Steps.refl _) (argsL := []) (rest := []) (lenOf pd_2 rfl) rfl (by show 2 * 0 + _ ≤ _; exact Nat.le_of_eq rfl) (hb hby d1_1) (fun _ _ => ⟨rfl, e0, (by decide : 0 + 0 ≤ _), (by decide : 0 + 0 ≤ _)⟩)
  dsimp only [Pt.U, Pt.locs, Pt.cells, Pt.slots] at X26 l26 y26 z26 st26 hQ26
  rw [l26, y26, z26] at X26
  obtain ⟨rfl, N26q, hh26⟩ := hQ26
  have N26 := Fr.app N0 N26q
  have R27 : ∀ tg, Steps p.tables e below (T26.setTop (mkF m 8 #[.val (.ref a1), .val (.int p2)] [(.ref a1)])) tg → Steps p.tables e below (s₁.setTop (mkF m 0 #[.val (.ref a1), .val (.int p2)] [])) tg := by
    intro tg kt
    refine R25 _ ?_
    refine st26.trans ?_
    show Steps p.tables e below (T26.setTop (mkF m 4 #[.val (.ref a1), .val (.int p2)] [(.int (1 : Int32))])) _
    refine XS.ifNo X26.here hx rfl (hb hby d1_4) rfl ((if0 _ _).trans (feq (by decide : ¬ ((1 : Int32) = (0 : Int32)))).1) ?_
    show Steps p.tables e below (T26.setTop (mkF m 7 #[.val (.ref a1), .val (.int p2)] [])) _
    refine XS.aloadN X26.here hx rfl (hb hby d1_7) rfl rfl ?_
    exact kt
  clear R25 st26
  obtain ⟨T28, X28, e28, st28⟩ := getF X26 hx hZ hown (host := "") (Or.inl (hw _ (List.mem_of_getElem? (i := 22) rfl))) Via.refl hh26 Fv (g := (mkF m 8 #[.val (.ref a1), .val (.int p2)] [(.ref a1)])) rfl rfl (hb hby d1_8)
  have R29 : ∀ tg, Steps p.tables e below (T28.setTop (mkF m 12 #[.val (.ref a1), .val (.int p2)] [(.int p2), (.ref tb)])) tg → Steps p.tables e below (s₁.setTop (mkF m 0 #[.val (.ref a1), .val (.int p2)] [])) tg := by
    intro tg kt
    refine R27 _ ?_
    refine st28 _ ?_
    show Steps p.tables e below (T28.setTop (mkF m 11 #[.val (.ref a1), .val (.int p2)] [(.ref tb)])) _
    refine XS.iloadN X28.here hx rfl (hb hby d1_11) rfl ?_
    exact kt
  clear R27 st28
  obtain ⟨_, _, ⟨T30, L30, k30, n30⟩, -, X30, ⟨Lc30, hQ30, l30, y30, z30⟩, st30⟩ := Jvm.LawKit.callS X28 hx (y := (⟨"java/lang/StringLatin1", "charAt", "([BI)C"⟩ : MethodName)) hown (mvT hZ (hw _ (List.mem_of_getElem? (i := 23) rfl))) (mvT hZ (hw _ (List.mem_of_getElem? (i := 24) rfl))) (mvT hZ (hw _ (List.mem_of_getElem? (i := 25) rfl))) (mvT hZ (hw _ (List.mem_of_getElem? (i := 26) rfl))) (by decide) (backOf (W := 0) (rm_lch l Z a0 hw [] tb p2 n g k vf h0 n0 Z0 SF OL hvf VA hp hq hj hk) hZ (hw _ (List.mem_of_getElem? (i := 26) rfl)) (hw _ (List.mem_of_getElem? (i := 25) rfl)) (by decide) (by decide)) (g := (mkF m 12 #[.val (.ref a1), .val (.int p2)] [(.int p2), (.ref tb)])) rfl (by rw [hml]; rfl) (argsL := [(.ref tb), (.int p2)]) (rest := []) (lenOf pd_3 rfl) rfl (by show 2 * 0 + _ ≤ _; exact Nat.le_of_eq rfl) (hb hby d1_12) (fun _ _ => ⟨rfl, e28, (by decide : 0 + 0 ≤ _), (by decide : 0 + 0 ≤ _)⟩)
  dsimp only [Pt.U, Pt.locs, Pt.cells, Pt.slots] at X30 l30 y30 z30 st30 hQ30
  rw [l30, y30, z30] at X30
  obtain ⟨rfl, N30q, hh30⟩ := hQ30
  have N30 := Fr.app N26 N30q
  have R31 : ∀ tg, Steps p.tables e below (T30.setTop (mkF m 15 #[.val (.ref a1), .val (.int p2)] [(.int (own_ch (g k)))])) tg → Steps p.tables e below (s₁.setTop (mkF m 0 #[.val (.ref a1), .val (.int p2)] [])) tg := by
    intro tg kt
    refine R29 _ ?_
    refine st30 _ ?_
    exact kt
  clear R29 st30
  obtain ⟨fs, hr, hrun, hended, hW, hsame⟩ := X30.leave (v := some (.int (own_ch (g k)))) (fun h => by rw [Bd.returns] at h; cases h)
  refine ⟨_, _, pre0 _ (R31 _ ?_), hrun, hended, _, _, rfl, ?_, ⟨_, rfl⟩, hW, hsame.mono (by decide) (by decide)⟩
  · exact retN X30 hx (t := .char) Bd.returns (by simp) (hb hby d1_15) (fun f acts q1 q2 q3 => (congrArg (fun q => (doReturn e (T30.setTop f) acts (some (.int q))).1) (own_chn _)).trans (hr f acts q1 q2 q3))
  · show Q_rm_cha Z a1 p2 tb cs n g k vf h0 n0 _ T30.heap _
    rw [hh30]
    exact ⟨rfl, N30, rfl⟩
theorem pn_3 : plainName "com/example/archivolt/archivolt/core/uri/PathSegment" = true := by first | (simp [plainName, overriddenIn]; done) | decide +kernel
theorem d6_0 : decode prog_17_method_8_code 0 = .ok (.iload_n 0, 1) := by decide +kernel
theorem d6_1 : decode prog_17_method_8_code 1 = .ok (.bipush 48, 2) := by decide +kernel
theorem d6_3 : decode prog_17_method_8_code 3 = .ok (.if_icmp .lt 14, 3) := by decide +kernel
theorem d6_17 : decode prog_17_method_8_code 17 = .ok (.iload_n 0, 1) := by decide +kernel
theorem d6_18 : decode prog_17_method_8_code 18 = .ok (.bipush 65, 2) := by decide +kernel
theorem d6_20 : decode prog_17_method_8_code 20 = .ok (.if_icmp .lt 17, 3) := by decide +kernel
theorem d6_37 : decode prog_17_method_8_code 37 = .ok (.iload_n 0, 1) := by decide +kernel
theorem d6_38 : decode prog_17_method_8_code 38 = .ok (.bipush 97, 2) := by decide +kernel
theorem d6_40 : decode prog_17_method_8_code 40 = .ok (.if_icmp .lt 17, 3) := by decide +kernel
theorem d6_57 : decode prog_17_method_8_code 57 = .ok (.iconst (-1), 1) := by decide +kernel
theorem d6_58 : decode prog_17_method_8_code 58 = .ok (.ireturn, 1) := by decide +kernel
theorem d6_43 : decode prog_17_method_8_code 43 = .ok (.iload_n 0, 1) := by decide +kernel
theorem d6_44 : decode prog_17_method_8_code 44 = .ok (.bipush 102, 2) := by decide +kernel
theorem d6_46 : decode prog_17_method_8_code 46 = .ok (.if_icmp .gt 11, 3) := by decide +kernel
theorem d6_49 : decode prog_17_method_8_code 49 = .ok (.iload_n 0, 1) := by decide +kernel
theorem d6_50 : decode prog_17_method_8_code 50 = .ok (.bipush 97, 2) := by decide +kernel
theorem d6_52 : decode prog_17_method_8_code 52 = .ok (.isub, 1) := by decide +kernel
theorem d6_53 : decode prog_17_method_8_code 53 = .ok (.bipush 10, 2) := by decide +kernel
theorem d6_55 : decode prog_17_method_8_code 55 = .ok (.iadd, 1) := by decide +kernel
theorem d6_56 : decode prog_17_method_8_code 56 = .ok (.ireturn, 1) := by decide +kernel
theorem d6_23 : decode prog_17_method_8_code 23 = .ok (.iload_n 0, 1) := by decide +kernel
theorem d6_24 : decode prog_17_method_8_code 24 = .ok (.bipush 70, 2) := by decide +kernel
theorem d6_26 : decode prog_17_method_8_code 26 = .ok (.if_icmp .gt 11, 3) := by decide +kernel
theorem d6_29 : decode prog_17_method_8_code 29 = .ok (.iload_n 0, 1) := by decide +kernel
theorem d6_30 : decode prog_17_method_8_code 30 = .ok (.bipush 65, 2) := by decide +kernel
theorem d6_32 : decode prog_17_method_8_code 32 = .ok (.isub, 1) := by decide +kernel
theorem d6_33 : decode prog_17_method_8_code 33 = .ok (.bipush 10, 2) := by decide +kernel
theorem d6_35 : decode prog_17_method_8_code 35 = .ok (.iadd, 1) := by decide +kernel
theorem d6_36 : decode prog_17_method_8_code 36 = .ok (.ireturn, 1) := by decide +kernel
theorem d6_6 : decode prog_17_method_8_code 6 = .ok (.iload_n 0, 1) := by decide +kernel
theorem d6_7 : decode prog_17_method_8_code 7 = .ok (.bipush 57, 2) := by decide +kernel
theorem d6_9 : decode prog_17_method_8_code 9 = .ok (.if_icmp .gt 8, 3) := by decide +kernel
theorem d6_12 : decode prog_17_method_8_code 12 = .ok (.iload_n 0, 1) := by decide +kernel
theorem d6_13 : decode prog_17_method_8_code 13 = .ok (.bipush 48, 2) := by decide +kernel
theorem d6_15 : decode prog_17_method_8_code 15 = .ok (.isub, 1) := by decide +kernel
theorem d6_16 : decode prog_17_method_8_code 16 = .ok (.ireturn, 1) := by decide +kernel
theorem ef_rm_hex (m : MethodId) (p1 : Int32) : entryFrame m #[(.int p1)] 1 = mkF m 0 #[.val (.int p1)] [] := by first | (simp [entryFrame, mkF, argsToLocals, Value.category]; done) | rfl
def Q_rm_hex (Z : State) (p1 : Int32) (h0 : Heap) (n0 : Nat) (v : Option Value) (h : Heap) (L : List Loc) : Prop := v = some (.int (own_hex p1)) ∧ Fr n0 L ∧ h = h0
set_option maxRecDepth 65536 in
set_option maxHeartbeats 40000000 in
theorem rm_hex (l : Launch) (Z : State) (a0 : Array Value) (hw : ∀ d ∈ tables_1, d.before a0 Z = true) (ws : List Jvm.Cond) (p1 : Int32) (h0 : Heap) (n0 : Nat) (Z0 : n0 ≤ h0.size) :
    MetFree l (⟨"com/example/archivolt/archivolt/core/uri/PathSegment", "hexValue", "(C)I"⟩ : MethodName) (head1 (Jvm.Cond.code (⟨"com/example/archivolt/archivolt/core/uri/PathSegment", "hexValue", "(C)I"⟩ : MethodName) prog_17_method_8_code 1 (some .int) :: ws) ({ frames := 0, cells := 0, slots := 0, locals := 0 } : Room)) (fun a U => a = #[(.int p1)] ∧ Z.Warmed39 U.vm ∧ U.heap = h0) (fun _ _ _ _ _ => True) (fun _ U oC U' => ∃ v L, oC = .returned v ∧ Q_rm_hex Z p1 h0 n0 v U'.heap L ∧ FrameEnd U oC U' L ({ frames := 0, cells := 0, slots := 0, locals := 0 } : Room).cells ({ frames := 0, cells := 0, slots := 0, locals := 0 } : Room).slots) := by
  refine MetFree.of_bodySF (plainFor_of_name pn_3) hisR ?_
  intro p e s m args below meth c s₁ Bd hml0 hP hK
  obtain ⟨rfl, hZ, hh⟩ := hP
  have hx := Bd.exec
  have hby := Bd.bytes
  have hml : c.maxLocals = 1 := hml0
  have hown : s.vm.findClass "com/example/archivolt/archivolt/core/uri/PathSegment" = some m.cls := findClass_of_methodNamed Bd.named
  have hnm := (name_of_methodNamed Bd.named Bd.method).1
  have X0 : Stand p l e ({ frames := 0, cells := 0, slots := 0, locals := 0 } : Room) s m #[(.int p1)] below meth c s₁ [] 0 0 := Stand.of_body Bd
  have e0 : s₁.heap = h0 := by rw [← hh, Bd.state]; rfl
  have N0 := Fr.nil n0
  have pre0 : ∀ tg, Steps p.tables e below (s₁.setTop (mkF m 0 #[.val (.int p1)] [])) tg → Steps p.tables e below (s₁.setTop (entryFrame m #[(.int p1)] 1)) tg := fun t k => castTop (ef_rm_hex m p1) k
  have pre00 : ∀ tg, Steps p.tables e below (s₁.setTop (mkF m 0 #[.val (.int p1)] [])) tg → Steps p.tables e below (s₁.setTop (mkF m 0 #[.val (.int p1)] [])) tg := fun _ k => k
  have R32 : ∀ tg, Steps p.tables e below (s₁.setTop (mkF m 3 #[.val (.int p1)] [(.int (48 : Int32)), (.int p1)])) tg → Steps p.tables e below (s₁.setTop (mkF m 0 #[.val (.int p1)] [])) tg := by
    intro tg kt
    refine pre00 _ ?_
    show Steps p.tables e below (s₁.setTop (mkF m 0 #[.val (.int p1)] [])) _
    refine XS.iloadN X0.here hx rfl (hb hby d6_0) rfl ?_
    show Steps p.tables e below (s₁.setTop (mkF m 1 #[.val (.int p1)] [(.int p1)])) _
    refine XS.bipush X0.here hx rfl (hb hby d6_1) ?_
    exact kt
  by_cases h0a : p1 < (48 : Int32)
  · have R33 : ∀ tg, Steps p.tables e below (s₁.setTop (mkF m 20 #[.val (.int p1)] [(.int (65 : Int32)), (.int p1)])) tg → Steps p.tables e below (s₁.setTop (mkF m 0 #[.val (.int p1)] [])) tg := by
      intro tg kt
      refine R32 _ ?_
      show Steps p.tables e below (s₁.setTop (mkF m 3 #[.val (.int p1)] [(.int (48 : Int32)), (.int p1)])) _
      refine XS.icmpYes X0.here hx rfl (pc0 := 3) (pc' := 17) rfl (hb hby d6_3) rfl (tlt (h0a : p1 < (48 : Int32))).1 (by decide) (by decide) ?_
      show Steps p.tables e below (s₁.setTop (mkF m 17 #[.val (.int p1)] [])) _
      refine XS.iloadN X0.here hx rfl (hb hby d6_17) rfl ?_
      show Steps p.tables e below (s₁.setTop (mkF m 18 #[.val (.int p1)] [(.int p1)])) _
      refine XS.bipush X0.here hx rfl (hb hby d6_18) ?_
      exact kt
    clear R32
    by_cases h1a : p1 < (65 : Int32)
    · have R34 : ∀ tg, Steps p.tables e below (s₁.setTop (mkF m 40 #[.val (.int p1)] [(.int (97 : Int32)), (.int p1)])) tg → Steps p.tables e below (s₁.setTop (mkF m 0 #[.val (.int p1)] [])) tg := by
        intro tg kt
        refine R33 _ ?_
        show Steps p.tables e below (s₁.setTop (mkF m 20 #[.val (.int p1)] [(.int (65 : Int32)), (.int p1)])) _
        refine XS.icmpYes X0.here hx rfl (pc0 := 20) (pc' := 37) rfl (hb hby d6_20) rfl (tlt (h1a : p1 < (65 : Int32))).1 (by decide) (by decide) ?_
        show Steps p.tables e below (s₁.setTop (mkF m 37 #[.val (.int p1)] [])) _
        refine XS.iloadN X0.here hx rfl (hb hby d6_37) rfl ?_
        show Steps p.tables e below (s₁.setTop (mkF m 38 #[.val (.int p1)] [(.int p1)])) _
        refine XS.bipush X0.here hx rfl (hb hby d6_38) ?_
        exact kt
      clear R33
      by_cases h2a : p1 < (97 : Int32)
      · have R35 : ∀ tg, Steps p.tables e below (s₁.setTop (mkF m 58 #[.val (.int p1)] [(.int (-1 : Int32))])) tg → Steps p.tables e below (s₁.setTop (mkF m 0 #[.val (.int p1)] [])) tg := by
          intro tg kt
          refine R34 _ ?_
          show Steps p.tables e below (s₁.setTop (mkF m 40 #[.val (.int p1)] [(.int (97 : Int32)), (.int p1)])) _
          refine XS.icmpYes X0.here hx rfl (pc0 := 40) (pc' := 57) rfl (hb hby d6_40) rfl (tlt (h2a : p1 < (97 : Int32))).1 (by decide) (by decide) ?_
          show Steps p.tables e below (s₁.setTop (mkF m 57 #[.val (.int p1)] [])) _
          refine XS.iconst X0.here hx rfl (hb hby d6_57) ?_
          exact kt
        clear R34
        obtain ⟨fs, hr, hrun, hended, hW, hsame⟩ := X0.leave (v := some (.int (-1 : Int32))) (fun h => by rw [Bd.returns] at h; cases h)
        refine ⟨_, _, pre0 _ (R35 _ ?_), hrun, hended, _, _, rfl, ?_, ⟨_, rfl⟩, hW, hsame.mono (by decide) (by decide)⟩
        · exact retI X0 hx Bd.returns (hb hby d6_58) hr
        · show Q_rm_hex Z p1 h0 n0 _ s₁.heap _
          rw [e0]
          exact ⟨by rw [own_hex, if_pos h0a, own_t2, if_pos h1a, own_t3, if_pos h2a], N0, rfl⟩
      · have R36 : ∀ tg, Steps p.tables e below (s₁.setTop (mkF m 46 #[.val (.int p1)] [(.int (102 : Int32)), (.int p1)])) tg → Steps p.tables e below (s₁.setTop (mkF m 0 #[.val (.int p1)] [])) tg := by
          intro tg kt
          refine R34 _ ?_
          show Steps p.tables e below (s₁.setTop (mkF m 40 #[.val (.int p1)] [(.int (97 : Int32)), (.int p1)])) _
          refine XS.icmpNo X0.here hx rfl (hb hby d6_40) rfl (flt (h2a : ¬ (p1 < (97 : Int32)))).1 ?_
          show Steps p.tables e below (s₁.setTop (mkF m 43 #[.val (.int p1)] [])) _
          refine XS.iloadN X0.here hx rfl (hb hby d6_43) rfl ?_
          show Steps p.tables e below (s₁.setTop (mkF m 44 #[.val (.int p1)] [(.int p1)])) _
          refine XS.bipush X0.here hx rfl (hb hby d6_44) ?_
          exact kt
        clear R34
        by_cases h2b : (102 : Int32) < p1
        · have R37 : ∀ tg, Steps p.tables e below (s₁.setTop (mkF m 58 #[.val (.int p1)] [(.int (-1 : Int32))])) tg → Steps p.tables e below (s₁.setTop (mkF m 0 #[.val (.int p1)] [])) tg := by
            intro tg kt
            refine R36 _ ?_
            show Steps p.tables e below (s₁.setTop (mkF m 46 #[.val (.int p1)] [(.int (102 : Int32)), (.int p1)])) _
            refine XS.icmpYes X0.here hx rfl (pc0 := 46) (pc' := 57) rfl (hb hby d6_46) rfl (tlt (h2b : (102 : Int32) < p1)).2.2.1 (by decide) (by decide) ?_
            show Steps p.tables e below (s₁.setTop (mkF m 57 #[.val (.int p1)] [])) _
            refine XS.iconst X0.here hx rfl (hb hby d6_57) ?_
            exact kt
          clear R36
          obtain ⟨fs, hr, hrun, hended, hW, hsame⟩ := X0.leave (v := some (.int (-1 : Int32))) (fun h => by rw [Bd.returns] at h; cases h)
          refine ⟨_, _, pre0 _ (R37 _ ?_), hrun, hended, _, _, rfl, ?_, ⟨_, rfl⟩, hW, hsame.mono (by decide) (by decide)⟩
          · exact retI X0 hx Bd.returns (hb hby d6_58) hr
          · show Q_rm_hex Z p1 h0 n0 _ s₁.heap _
            rw [e0]
            exact ⟨by rw [own_hex, if_pos h0a, own_t2, if_pos h1a, own_t3, if_neg h2a, if_pos h2b], N0, rfl⟩
        · have R38 : ∀ tg, Steps p.tables e below (s₁.setTop (mkF m 56 #[.val (.int p1)] [(.int ((p1 - (97 : Int32)) + (10 : Int32)))])) tg → Steps p.tables e below (s₁.setTop (mkF m 0 #[.val (.int p1)] [])) tg := by
            intro tg kt
            refine R36 _ ?_
            show Steps p.tables e below (s₁.setTop (mkF m 46 #[.val (.int p1)] [(.int (102 : Int32)), (.int p1)])) _
            refine XS.icmpNo X0.here hx rfl (hb hby d6_46) rfl (flt (h2b : ¬ ((102 : Int32) < p1))).2.2.1 ?_
            show Steps p.tables e below (s₁.setTop (mkF m 49 #[.val (.int p1)] [])) _
            refine XS.iloadN X0.here hx rfl (hb hby d6_49) rfl ?_
            show Steps p.tables e below (s₁.setTop (mkF m 50 #[.val (.int p1)] [(.int p1)])) _
            refine XS.bipush X0.here hx rfl (hb hby d6_50) ?_
            show Steps p.tables e below (s₁.setTop (mkF m 52 #[.val (.int p1)] [(.int (97 : Int32)), (.int p1)])) _
            refine XS.isub X0.here hx rfl (hb hby d6_52) rfl ?_
            show Steps p.tables e below (s₁.setTop (mkF m 53 #[.val (.int p1)] [(.int (p1 - (97 : Int32)))])) _
            refine XS.bipush X0.here hx rfl (hb hby d6_53) ?_
            show Steps p.tables e below (s₁.setTop (mkF m 55 #[.val (.int p1)] [(.int (10 : Int32)), (.int (p1 - (97 : Int32)))])) _
            refine XS.iadd X0.here hx rfl (hb hby d6_55) rfl ?_
            exact kt
          clear R36
          obtain ⟨fs, hr, hrun, hended, hW, hsame⟩ := X0.leave (v := some (.int ((p1 - (97 : Int32)) + (10 : Int32)))) (fun h => by rw [Bd.returns] at h; cases h)
          refine ⟨_, _, pre0 _ (R38 _ ?_), hrun, hended, _, _, rfl, ?_, ⟨_, rfl⟩, hW, hsame.mono (by decide) (by decide)⟩
          · exact retI X0 hx Bd.returns (hb hby d6_56) hr
          · show Q_rm_hex Z p1 h0 n0 _ s₁.heap _
            rw [e0]
            exact ⟨by rw [own_hex, if_pos h0a, own_t2, if_pos h1a, own_t3, if_neg h2a, if_neg h2b], N0, rfl⟩
    · have R39 : ∀ tg, Steps p.tables e below (s₁.setTop (mkF m 26 #[.val (.int p1)] [(.int (70 : Int32)), (.int p1)])) tg → Steps p.tables e below (s₁.setTop (mkF m 0 #[.val (.int p1)] [])) tg := by
        intro tg kt
        refine R33 _ ?_
        show Steps p.tables e below (s₁.setTop (mkF m 20 #[.val (.int p1)] [(.int (65 : Int32)), (.int p1)])) _
        refine XS.icmpNo X0.here hx rfl (hb hby d6_20) rfl (flt (h1a : ¬ (p1 < (65 : Int32)))).1 ?_
        show Steps p.tables e below (s₁.setTop (mkF m 23 #[.val (.int p1)] [])) _
        refine XS.iloadN X0.here hx rfl (hb hby d6_23) rfl ?_
        show Steps p.tables e below (s₁.setTop (mkF m 24 #[.val (.int p1)] [(.int p1)])) _
        refine XS.bipush X0.here hx rfl (hb hby d6_24) ?_
        exact kt
      clear R33
      by_cases h1b : (70 : Int32) < p1
      · have R40 : ∀ tg, Steps p.tables e below (s₁.setTop (mkF m 40 #[.val (.int p1)] [(.int (97 : Int32)), (.int p1)])) tg → Steps p.tables e below (s₁.setTop (mkF m 0 #[.val (.int p1)] [])) tg := by
          intro tg kt
          refine R39 _ ?_
          show Steps p.tables e below (s₁.setTop (mkF m 26 #[.val (.int p1)] [(.int (70 : Int32)), (.int p1)])) _
          refine XS.icmpYes X0.here hx rfl (pc0 := 26) (pc' := 37) rfl (hb hby d6_26) rfl (tlt (h1b : (70 : Int32) < p1)).2.2.1 (by decide) (by decide) ?_
          show Steps p.tables e below (s₁.setTop (mkF m 37 #[.val (.int p1)] [])) _
          refine XS.iloadN X0.here hx rfl (hb hby d6_37) rfl ?_
          show Steps p.tables e below (s₁.setTop (mkF m 38 #[.val (.int p1)] [(.int p1)])) _
          refine XS.bipush X0.here hx rfl (hb hby d6_38) ?_
          exact kt
        clear R39
        by_cases h2a : p1 < (97 : Int32)
        · have R41 : ∀ tg, Steps p.tables e below (s₁.setTop (mkF m 58 #[.val (.int p1)] [(.int (-1 : Int32))])) tg → Steps p.tables e below (s₁.setTop (mkF m 0 #[.val (.int p1)] [])) tg := by
            intro tg kt
            refine R40 _ ?_
            show Steps p.tables e below (s₁.setTop (mkF m 40 #[.val (.int p1)] [(.int (97 : Int32)), (.int p1)])) _
            refine XS.icmpYes X0.here hx rfl (pc0 := 40) (pc' := 57) rfl (hb hby d6_40) rfl (tlt (h2a : p1 < (97 : Int32))).1 (by decide) (by decide) ?_
            show Steps p.tables e below (s₁.setTop (mkF m 57 #[.val (.int p1)] [])) _
            refine XS.iconst X0.here hx rfl (hb hby d6_57) ?_
            exact kt
          clear R40
          obtain ⟨fs, hr, hrun, hended, hW, hsame⟩ := X0.leave (v := some (.int (-1 : Int32))) (fun h => by rw [Bd.returns] at h; cases h)
          refine ⟨_, _, pre0 _ (R41 _ ?_), hrun, hended, _, _, rfl, ?_, ⟨_, rfl⟩, hW, hsame.mono (by decide) (by decide)⟩
          · exact retI X0 hx Bd.returns (hb hby d6_58) hr
          · show Q_rm_hex Z p1 h0 n0 _ s₁.heap _
            rw [e0]
            exact ⟨by rw [own_hex, if_pos h0a, own_t2, if_neg h1a, if_pos h1b, own_t3, if_pos h2a], N0, rfl⟩
        · have R42 : ∀ tg, Steps p.tables e below (s₁.setTop (mkF m 46 #[.val (.int p1)] [(.int (102 : Int32)), (.int p1)])) tg → Steps p.tables e below (s₁.setTop (mkF m 0 #[.val (.int p1)] [])) tg := by
            intro tg kt
            refine R40 _ ?_
            show Steps p.tables e below (s₁.setTop (mkF m 40 #[.val (.int p1)] [(.int (97 : Int32)), (.int p1)])) _
            refine XS.icmpNo X0.here hx rfl (hb hby d6_40) rfl (flt (h2a : ¬ (p1 < (97 : Int32)))).1 ?_
            show Steps p.tables e below (s₁.setTop (mkF m 43 #[.val (.int p1)] [])) _
            refine XS.iloadN X0.here hx rfl (hb hby d6_43) rfl ?_
            show Steps p.tables e below (s₁.setTop (mkF m 44 #[.val (.int p1)] [(.int p1)])) _
            refine XS.bipush X0.here hx rfl (hb hby d6_44) ?_
            exact kt
          clear R40
          by_cases h2b : (102 : Int32) < p1
          · have R43 : ∀ tg, Steps p.tables e below (s₁.setTop (mkF m 58 #[.val (.int p1)] [(.int (-1 : Int32))])) tg → Steps p.tables e below (s₁.setTop (mkF m 0 #[.val (.int p1)] [])) tg := by
              intro tg kt
              refine R42 _ ?_
              show Steps p.tables e below (s₁.setTop (mkF m 46 #[.val (.int p1)] [(.int (102 : Int32)), (.int p1)])) _
              refine XS.icmpYes X0.here hx rfl (pc0 := 46) (pc' := 57) rfl (hb hby d6_46) rfl (tlt (h2b : (102 : Int32) < p1)).2.2.1 (by decide) (by decide) ?_
              show Steps p.tables e below (s₁.setTop (mkF m 57 #[.val (.int p1)] [])) _
              refine XS.iconst X0.here hx rfl (hb hby d6_57) ?_
              exact kt
            clear R42
            obtain ⟨fs, hr, hrun, hended, hW, hsame⟩ := X0.leave (v := some (.int (-1 : Int32))) (fun h => by rw [Bd.returns] at h; cases h)
            refine ⟨_, _, pre0 _ (R43 _ ?_), hrun, hended, _, _, rfl, ?_, ⟨_, rfl⟩, hW, hsame.mono (by decide) (by decide)⟩
            · exact retI X0 hx Bd.returns (hb hby d6_58) hr
            · show Q_rm_hex Z p1 h0 n0 _ s₁.heap _
              rw [e0]
              exact ⟨by rw [own_hex, if_pos h0a, own_t2, if_neg h1a, if_pos h1b, own_t3, if_neg h2a, if_pos h2b], N0, rfl⟩
          · have R44 : ∀ tg, Steps p.tables e below (s₁.setTop (mkF m 56 #[.val (.int p1)] [(.int ((p1 - (97 : Int32)) + (10 : Int32)))])) tg → Steps p.tables e below (s₁.setTop (mkF m 0 #[.val (.int p1)] [])) tg := by
              intro tg kt
              refine R42 _ ?_
              show Steps p.tables e below (s₁.setTop (mkF m 46 #[.val (.int p1)] [(.int (102 : Int32)), (.int p1)])) _
              refine XS.icmpNo X0.here hx rfl (hb hby d6_46) rfl (flt (h2b : ¬ ((102 : Int32) < p1))).2.2.1 ?_
              show Steps p.tables e below (s₁.setTop (mkF m 49 #[.val (.int p1)] [])) _
              refine XS.iloadN X0.here hx rfl (hb hby d6_49) rfl ?_
              show Steps p.tables e below (s₁.setTop (mkF m 50 #[.val (.int p1)] [(.int p1)])) _
              refine XS.bipush X0.here hx rfl (hb hby d6_50) ?_
              show Steps p.tables e below (s₁.setTop (mkF m 52 #[.val (.int p1)] [(.int (97 : Int32)), (.int p1)])) _
              refine XS.isub X0.here hx rfl (hb hby d6_52) rfl ?_
              show Steps p.tables e below (s₁.setTop (mkF m 53 #[.val (.int p1)] [(.int (p1 - (97 : Int32)))])) _
              refine XS.bipush X0.here hx rfl (hb hby d6_53) ?_
              show Steps p.tables e below (s₁.setTop (mkF m 55 #[.val (.int p1)] [(.int (10 : Int32)), (.int (p1 - (97 : Int32)))])) _
              refine XS.iadd X0.here hx rfl (hb hby d6_55) rfl ?_
              exact kt
            clear R42
            obtain ⟨fs, hr, hrun, hended, hW, hsame⟩ := X0.leave (v := some (.int ((p1 - (97 : Int32)) + (10 : Int32)))) (fun h => by rw [Bd.returns] at h; cases h)
            refine ⟨_, _, pre0 _ (R44 _ ?_), hrun, hended, _, _, rfl, ?_, ⟨_, rfl⟩, hW, hsame.mono (by decide) (by decide)⟩
            · exact retI X0 hx Bd.returns (hb hby d6_56) hr
            · show Q_rm_hex Z p1 h0 n0 _ s₁.heap _
              rw [e0]
              exact ⟨by rw [own_hex, if_pos h0a, own_t2, if_neg h1a, if_pos h1b, own_t3, if_neg h2a, if_neg h2b], N0, rfl⟩
      · have R45 : ∀ tg, Steps p.tables e below (s₁.setTop (mkF m 36 #[.val (.int p1)] [(.int ((p1 - (65 : Int32)) + (10 : Int32)))])) tg → Steps p.tables e below (s₁.setTop (mkF m 0 #[.val (.int p1)] [])) tg := by
          intro tg kt
          refine R39 _ ?_
          show Steps p.tables e below (s₁.setTop (mkF m 26 #[.val (.int p1)] [(.int (70 : Int32)), (.int p1)])) _
          refine XS.icmpNo X0.here hx rfl (hb hby d6_26) rfl (flt (h1b : ¬ ((70 : Int32) < p1))).2.2.1 ?_
          show Steps p.tables e below (s₁.setTop (mkF m 29 #[.val (.int p1)] [])) _
          refine XS.iloadN X0.here hx rfl (hb hby d6_29) rfl ?_
          show Steps p.tables e below (s₁.setTop (mkF m 30 #[.val (.int p1)] [(.int p1)])) _
          refine XS.bipush X0.here hx rfl (hb hby d6_30) ?_
          show Steps p.tables e below (s₁.setTop (mkF m 32 #[.val (.int p1)] [(.int (65 : Int32)), (.int p1)])) _
          refine XS.isub X0.here hx rfl (hb hby d6_32) rfl ?_
          show Steps p.tables e below (s₁.setTop (mkF m 33 #[.val (.int p1)] [(.int (p1 - (65 : Int32)))])) _
          refine XS.bipush X0.here hx rfl (hb hby d6_33) ?_
          show Steps p.tables e below (s₁.setTop (mkF m 35 #[.val (.int p1)] [(.int (10 : Int32)), (.int (p1 - (65 : Int32)))])) _
          refine XS.iadd X0.here hx rfl (hb hby d6_35) rfl ?_
          exact kt
        clear R39
        obtain ⟨fs, hr, hrun, hended, hW, hsame⟩ := X0.leave (v := some (.int ((p1 - (65 : Int32)) + (10 : Int32)))) (fun h => by rw [Bd.returns] at h; cases h)
        refine ⟨_, _, pre0 _ (R45 _ ?_), hrun, hended, _, _, rfl, ?_, ⟨_, rfl⟩, hW, hsame.mono (by decide) (by decide)⟩
        · exact retI X0 hx Bd.returns (hb hby d6_36) hr
        · show Q_rm_hex Z p1 h0 n0 _ s₁.heap _
          rw [e0]
          exact ⟨by rw [own_hex, if_pos h0a, own_t2, if_neg h1a, if_neg h1b], N0, rfl⟩
  · have R46 : ∀ tg, Steps p.tables e below (s₁.setTop (mkF m 9 #[.val (.int p1)] [(.int (57 : Int32)), (.int p1)])) tg → Steps p.tables e below (s₁.setTop (mkF m 0 #[.val (.int p1)] [])) tg := by
      intro tg kt
      refine R32 _ ?_
      show Steps p.tables e below (s₁.setTop (mkF m 3 #[.val (.int p1)] [(.int (48 : Int32)), (.int p1)])) _
      refine XS.icmpNo X0.here hx rfl (hb hby d6_3) rfl (flt (h0a : ¬ (p1 < (48 : Int32)))).1 ?_
      show Steps p.tables e below (s₁.setTop (mkF m 6 #[.val (.int p1)] [])) _
      refine XS.iloadN X0.here hx rfl (hb hby d6_6) rfl ?_
      show Steps p.tables e below (s₁.setTop (mkF m 7 #[.val (.int p1)] [(.int p1)])) _
      refine XS.bipush X0.here hx rfl (hb hby d6_7) ?_
      exact kt
    clear R32
    by_cases h0b : (57 : Int32) < p1
    · have R47 : ∀ tg, Steps p.tables e below (s₁.setTop (mkF m 20 #[.val (.int p1)] [(.int (65 : Int32)), (.int p1)])) tg → Steps p.tables e below (s₁.setTop (mkF m 0 #[.val (.int p1)] [])) tg := by
        intro tg kt
        refine R46 _ ?_
        show Steps p.tables e below (s₁.setTop (mkF m 9 #[.val (.int p1)] [(.int (57 : Int32)), (.int p1)])) _
        refine XS.icmpYes X0.here hx rfl (pc0 := 9) (pc' := 17) rfl (hb hby d6_9) rfl (tlt (h0b : (57 : Int32) < p1)).2.2.1 (by decide) (by decide) ?_
        show Steps p.tables e below (s₁.setTop (mkF m 17 #[.val (.int p1)] [])) _
        refine XS.iloadN X0.here hx rfl (hb hby d6_17) rfl ?_
        show Steps p.tables e below (s₁.setTop (mkF m 18 #[.val (.int p1)] [(.int p1)])) _
        refine XS.bipush X0.here hx rfl (hb hby d6_18) ?_
        exact kt
      clear R46
      by_cases h1a : p1 < (65 : Int32)
      · have R48 : ∀ tg, Steps p.tables e below (s₁.setTop (mkF m 40 #[.val (.int p1)] [(.int (97 : Int32)), (.int p1)])) tg → Steps p.tables e below (s₁.setTop (mkF m 0 #[.val (.int p1)] [])) tg := by
          intro tg kt
          refine R47 _ ?_
          show Steps p.tables e below (s₁.setTop (mkF m 20 #[.val (.int p1)] [(.int (65 : Int32)), (.int p1)])) _
          refine XS.icmpYes X0.here hx rfl (pc0 := 20) (pc' := 37) rfl (hb hby d6_20) rfl (tlt (h1a : p1 < (65 : Int32))).1 (by decide) (by decide) ?_
          show Steps p.tables e below (s₁.setTop (mkF m 37 #[.val (.int p1)] [])) _
          refine XS.iloadN X0.here hx rfl (hb hby d6_37) rfl ?_
          show Steps p.tables e below (s₁.setTop (mkF m 38 #[.val (.int p1)] [(.int p1)])) _
          refine XS.bipush X0.here hx rfl (hb hby d6_38) ?_
          exact kt
        clear R47
        by_cases h2a : p1 < (97 : Int32)
        · have R49 : ∀ tg, Steps p.tables e below (s₁.setTop (mkF m 58 #[.val (.int p1)] [(.int (-1 : Int32))])) tg → Steps p.tables e below (s₁.setTop (mkF m 0 #[.val (.int p1)] [])) tg := by
            intro tg kt
            refine R48 _ ?_
            show Steps p.tables e below (s₁.setTop (mkF m 40 #[.val (.int p1)] [(.int (97 : Int32)), (.int p1)])) _
            refine XS.icmpYes X0.here hx rfl (pc0 := 40) (pc' := 57) rfl (hb hby d6_40) rfl (tlt (h2a : p1 < (97 : Int32))).1 (by decide) (by decide) ?_
            show Steps p.tables e below (s₁.setTop (mkF m 57 #[.val (.int p1)] [])) _
            refine XS.iconst X0.here hx rfl (hb hby d6_57) ?_
            exact kt
          clear R48
          obtain ⟨fs, hr, hrun, hended, hW, hsame⟩ := X0.leave (v := some (.int (-1 : Int32))) (fun h => by rw [Bd.returns] at h; cases h)
          refine ⟨_, _, pre0 _ (R49 _ ?_), hrun, hended, _, _, rfl, ?_, ⟨_, rfl⟩, hW, hsame.mono (by decide) (by decide)⟩
          · exact retI X0 hx Bd.returns (hb hby d6_58) hr
          · show Q_rm_hex Z p1 h0 n0 _ s₁.heap _
            rw [e0]
            exact ⟨by rw [own_hex, if_neg h0a, if_pos h0b, own_t2, if_pos h1a, own_t3, if_pos h2a], N0, rfl⟩
        · have R50 : ∀ tg, Steps p.tables e below (s₁.setTop (mkF m 46 #[.val (.int p1)] [(.int (102 : Int32)), (.int p1)])) tg → Steps p.tables e below (s₁.setTop (mkF m 0 #[.val (.int p1)] [])) tg := by
            intro tg kt
            refine R48 _ ?_
            show Steps p.tables e below (s₁.setTop (mkF m 40 #[.val (.int p1)] [(.int (97 : Int32)), (.int p1)])) _
            refine XS.icmpNo X0.here hx rfl (hb hby d6_40) rfl (flt (h2a : ¬ (p1 < (97 : Int32)))).1 ?_
            show Steps p.tables e below (s₁.setTop (mkF m 43 #[.val (.int p1)] [])) _
            refine XS.iloadN X0.here hx rfl (hb hby d6_43) rfl ?_
            show Steps p.tables e below (s₁.setTop (mkF m 44 #[.val (.int p1)] [(.int p1)])) _
            refine XS.bipush X0.here hx rfl (hb hby d6_44) ?_
            exact kt
          clear R48
          by_cases h2b : (102 : Int32) < p1
          · have R51 : ∀ tg, Steps p.tables e below (s₁.setTop (mkF m 58 #[.val (.int p1)] [(.int (-1 : Int32))])) tg → Steps p.tables e below (s₁.setTop (mkF m 0 #[.val (.int p1)] [])) tg := by
              intro tg kt
              refine R50 _ ?_
              show Steps p.tables e below (s₁.setTop (mkF m 46 #[.val (.int p1)] [(.int (102 : Int32)), (.int p1)])) _
              refine XS.icmpYes X0.here hx rfl (pc0 := 46) (pc' := 57) rfl (hb hby d6_46) rfl (tlt (h2b : (102 : Int32) < p1)).2.2.1 (by decide) (by decide) ?_
              show Steps p.tables e below (s₁.setTop (mkF m 57 #[.val (.int p1)] [])) _
              refine XS.iconst X0.here hx rfl (hb hby d6_57) ?_
              exact kt
            clear R50
            obtain ⟨fs, hr, hrun, hended, hW, hsame⟩ := X0.leave (v := some (.int (-1 : Int32))) (fun h => by rw [Bd.returns] at h; cases h)
            refine ⟨_, _, pre0 _ (R51 _ ?_), hrun, hended, _, _, rfl, ?_, ⟨_, rfl⟩, hW, hsame.mono (by decide) (by decide)⟩
            · exact retI X0 hx Bd.returns (hb hby d6_58) hr
            · show Q_rm_hex Z p1 h0 n0 _ s₁.heap _
              rw [e0]
              exact ⟨by rw [own_hex, if_neg h0a, if_pos h0b, own_t2, if_pos h1a, own_t3, if_neg h2a, if_pos h2b], N0, rfl⟩
          · have R52 : ∀ tg, Steps p.tables e below (s₁.setTop (mkF m 56 #[.val (.int p1)] [(.int ((p1 - (97 : Int32)) + (10 : Int32)))])) tg → Steps p.tables e below (s₁.setTop (mkF m 0 #[.val (.int p1)] [])) tg := by
              intro tg kt
              refine R50 _ ?_
              show Steps p.tables e below (s₁.setTop (mkF m 46 #[.val (.int p1)] [(.int (102 : Int32)), (.int p1)])) _
              refine XS.icmpNo X0.here hx rfl (hb hby d6_46) rfl (flt (h2b : ¬ ((102 : Int32) < p1))).2.2.1 ?_
              show Steps p.tables e below (s₁.setTop (mkF m 49 #[.val (.int p1)] [])) _
              refine XS.iloadN X0.here hx rfl (hb hby d6_49) rfl ?_
              show Steps p.tables e below (s₁.setTop (mkF m 50 #[.val (.int p1)] [(.int p1)])) _
              refine XS.bipush X0.here hx rfl (hb hby d6_50) ?_
              show Steps p.tables e below (s₁.setTop (mkF m 52 #[.val (.int p1)] [(.int (97 : Int32)), (.int p1)])) _
              refine XS.isub X0.here hx rfl (hb hby d6_52) rfl ?_
              show Steps p.tables e below (s₁.setTop (mkF m 53 #[.val (.int p1)] [(.int (p1 - (97 : Int32)))])) _
              refine XS.bipush X0.here hx rfl (hb hby d6_53) ?_
              show Steps p.tables e below (s₁.setTop (mkF m 55 #[.val (.int p1)] [(.int (10 : Int32)), (.int (p1 - (97 : Int32)))])) _
              refine XS.iadd X0.here hx rfl (hb hby d6_55) rfl ?_
              exact kt
            clear R50
            obtain ⟨fs, hr, hrun, hended, hW, hsame⟩ := X0.leave (v := some (.int ((p1 - (97 : Int32)) + (10 : Int32)))) (fun h => by rw [Bd.returns] at h; cases h)
            refine ⟨_, _, pre0 _ (R52 _ ?_), hrun, hended, _, _, rfl, ?_, ⟨_, rfl⟩, hW, hsame.mono (by decide) (by decide)⟩
            · exact retI X0 hx Bd.returns (hb hby d6_56) hr
            · show Q_rm_hex Z p1 h0 n0 _ s₁.heap _
              rw [e0]
              exact ⟨by rw [own_hex, if_neg h0a, if_pos h0b, own_t2, if_pos h1a, own_t3, if_neg h2a, if_neg h2b], N0, rfl⟩
      · have R53 : ∀ tg, Steps p.tables e below (s₁.setTop (mkF m 26 #[.val (.int p1)] [(.int (70 : Int32)), (.int p1)])) tg → Steps p.tables e below (s₁.setTop (mkF m 0 #[.val (.int p1)] [])) tg := by
          intro tg kt
          refine R47 _ ?_
          show Steps p.tables e below (s₁.setTop (mkF m 20 #[.val (.int p1)] [(.int (65 : Int32)), (.int p1)])) _
          refine XS.icmpNo X0.here hx rfl (hb hby d6_20) rfl (flt (h1a : ¬ (p1 < (65 : Int32)))).1 ?_
          show Steps p.tables e below (s₁.setTop (mkF m 23 #[.val (.int p1)] [])) _
          refine XS.iloadN X0.here hx rfl (hb hby d6_23) rfl ?_
          show Steps p.tables e below (s₁.setTop (mkF m 24 #[.val (.int p1)] [(.int p1)])) _
          refine XS.bipush X0.here hx rfl (hb hby d6_24) ?_
          exact kt
        clear R47
        by_cases h1b : (70 : Int32) < p1
        · have R54 : ∀ tg, Steps p.tables e below (s₁.setTop (mkF m 40 #[.val (.int p1)] [(.int (97 : Int32)), (.int p1)])) tg → Steps p.tables e below (s₁.setTop (mkF m 0 #[.val (.int p1)] [])) tg := by
            intro tg kt
            refine R53 _ ?_
            show Steps p.tables e below (s₁.setTop (mkF m 26 #[.val (.int p1)] [(.int (70 : Int32)), (.int p1)])) _
            refine XS.icmpYes X0.here hx rfl (pc0 := 26) (pc' := 37) rfl (hb hby d6_26) rfl (tlt (h1b : (70 : Int32) < p1)).2.2.1 (by decide) (by decide) ?_
            show Steps p.tables e below (s₁.setTop (mkF m 37 #[.val (.int p1)] [])) _
            refine XS.iloadN X0.here hx rfl (hb hby d6_37) rfl ?_
            show Steps p.tables e below (s₁.setTop (mkF m 38 #[.val (.int p1)] [(.int p1)])) _
            refine XS.bipush X0.here hx rfl (hb hby d6_38) ?_
            exact kt
          clear R53
          by_cases h2a : p1 < (97 : Int32)
          · have R55 : ∀ tg, Steps p.tables e below (s₁.setTop (mkF m 58 #[.val (.int p1)] [(.int (-1 : Int32))])) tg → Steps p.tables e below (s₁.setTop (mkF m 0 #[.val (.int p1)] [])) tg := by
              intro tg kt
              refine R54 _ ?_
              show Steps p.tables e below (s₁.setTop (mkF m 40 #[.val (.int p1)] [(.int (97 : Int32)), (.int p1)])) _
              refine XS.icmpYes X0.here hx rfl (pc0 := 40) (pc' := 57) rfl (hb hby d6_40) rfl (tlt (h2a : p1 < (97 : Int32))).1 (by decide) (by decide) ?_
              show Steps p.tables e below (s₁.setTop (mkF m 57 #[.val (.int p1)] [])) _
              refine XS.iconst X0.here hx rfl (hb hby d6_57) ?_
              exact kt
            clear R54
            obtain ⟨fs, hr, hrun, hended, hW, hsame⟩ := X0.leave (v := some (.int (-1 : Int32))) (fun h => by rw [Bd.returns] at h; cases h)
            refine ⟨_, _, pre0 _ (R55 _ ?_), hrun, hended, _, _, rfl, ?_, ⟨_, rfl⟩, hW, hsame.mono (by decide) (by decide)⟩
            · exact retI X0 hx Bd.returns (hb hby d6_58) hr
            · show Q_rm_hex Z p1 h0 n0 _ s₁.heap _
              rw [e0]
              exact ⟨by rw [own_hex, if_neg h0a, if_pos h0b, own_t2, if_neg h1a, if_pos h1b, own_t3, if_pos h2a], N0, rfl⟩
          · have R56 : ∀ tg, Steps p.tables e below (s₁.setTop (mkF m 46 #[.val (.int p1)] [(.int (102 : Int32)), (.int p1)])) tg → Steps p.tables e below (s₁.setTop (mkF m 0 #[.val (.int p1)] [])) tg := by
              intro tg kt
              refine R54 _ ?_
              show Steps p.tables e below (s₁.setTop (mkF m 40 #[.val (.int p1)] [(.int (97 : Int32)), (.int p1)])) _
              refine XS.icmpNo X0.here hx rfl (hb hby d6_40) rfl (flt (h2a : ¬ (p1 < (97 : Int32)))).1 ?_
              show Steps p.tables e below (s₁.setTop (mkF m 43 #[.val (.int p1)] [])) _
              refine XS.iloadN X0.here hx rfl (hb hby d6_43) rfl ?_
              show Steps p.tables e below (s₁.setTop (mkF m 44 #[.val (.int p1)] [(.int p1)])) _
              refine XS.bipush X0.here hx rfl (hb hby d6_44) ?_
              exact kt
            clear R54
            by_cases h2b : (102 : Int32) < p1
            · have R57 : ∀ tg, Steps p.tables e below (s₁.setTop (mkF m 58 #[.val (.int p1)] [(.int (-1 : Int32))])) tg → Steps p.tables e below (s₁.setTop (mkF m 0 #[.val (.int p1)] [])) tg := by
                intro tg kt
                refine R56 _ ?_
                show Steps p.tables e below (s₁.setTop (mkF m 46 #[.val (.int p1)] [(.int (102 : Int32)), (.int p1)])) _
                refine XS.icmpYes X0.here hx rfl (pc0 := 46) (pc' := 57) rfl (hb hby d6_46) rfl (tlt (h2b : (102 : Int32) < p1)).2.2.1 (by decide) (by decide) ?_
                show Steps p.tables e below (s₁.setTop (mkF m 57 #[.val (.int p1)] [])) _
                refine XS.iconst X0.here hx rfl (hb hby d6_57) ?_
                exact kt
              clear R56
              obtain ⟨fs, hr, hrun, hended, hW, hsame⟩ := X0.leave (v := some (.int (-1 : Int32))) (fun h => by rw [Bd.returns] at h; cases h)
              refine ⟨_, _, pre0 _ (R57 _ ?_), hrun, hended, _, _, rfl, ?_, ⟨_, rfl⟩, hW, hsame.mono (by decide) (by decide)⟩
              · exact retI X0 hx Bd.returns (hb hby d6_58) hr
              · show Q_rm_hex Z p1 h0 n0 _ s₁.heap _
                rw [e0]
                exact ⟨by rw [own_hex, if_neg h0a, if_pos h0b, own_t2, if_neg h1a, if_pos h1b, own_t3, if_neg h2a, if_pos h2b], N0, rfl⟩
            · have R58 : ∀ tg, Steps p.tables e below (s₁.setTop (mkF m 56 #[.val (.int p1)] [(.int ((p1 - (97 : Int32)) + (10 : Int32)))])) tg → Steps p.tables e below (s₁.setTop (mkF m 0 #[.val (.int p1)] [])) tg := by
                intro tg kt
                refine R56 _ ?_
                show Steps p.tables e below (s₁.setTop (mkF m 46 #[.val (.int p1)] [(.int (102 : Int32)), (.int p1)])) _
                refine XS.icmpNo X0.here hx rfl (hb hby d6_46) rfl (flt (h2b : ¬ ((102 : Int32) < p1))).2.2.1 ?_
                show Steps p.tables e below (s₁.setTop (mkF m 49 #[.val (.int p1)] [])) _
                refine XS.iloadN X0.here hx rfl (hb hby d6_49) rfl ?_
                show Steps p.tables e below (s₁.setTop (mkF m 50 #[.val (.int p1)] [(.int p1)])) _
                refine XS.bipush X0.here hx rfl (hb hby d6_50) ?_
                show Steps p.tables e below (s₁.setTop (mkF m 52 #[.val (.int p1)] [(.int (97 : Int32)), (.int p1)])) _
                refine XS.isub X0.here hx rfl (hb hby d6_52) rfl ?_
                show Steps p.tables e below (s₁.setTop (mkF m 53 #[.val (.int p1)] [(.int (p1 - (97 : Int32)))])) _
                refine XS.bipush X0.here hx rfl (hb hby d6_53) ?_
                show Steps p.tables e below (s₁.setTop (mkF m 55 #[.val (.int p1)] [(.int (10 : Int32)), (.int (p1 - (97 : Int32)))])) _
                refine XS.iadd X0.here hx rfl (hb hby d6_55) rfl ?_
                exact kt
              clear R56
              obtain ⟨fs, hr, hrun, hended, hW, hsame⟩ := X0.leave (v := some (.int ((p1 - (97 : Int32)) + (10 : Int32)))) (fun h => by rw [Bd.returns] at h; cases h)
              refine ⟨_, _, pre0 _ (R58 _ ?_), hrun, hended, _, _, rfl, ?_, ⟨_, rfl⟩, hW, hsame.mono (by decide) (by decide)⟩
              · exact retI X0 hx Bd.returns (hb hby d6_56) hr
              · show Q_rm_hex Z p1 h0 n0 _ s₁.heap _
                rw [e0]
                exact ⟨by rw [own_hex, if_neg h0a, if_pos h0b, own_t2, if_neg h1a, if_pos h1b, own_t3, if_neg h2a, if_neg h2b], N0, rfl⟩
        · have R59 : ∀ tg, Steps p.tables e below (s₁.setTop (mkF m 36 #[.val (.int p1)] [(.int ((p1 - (65 : Int32)) + (10 : Int32)))])) tg → Steps p.tables e below (s₁.setTop (mkF m 0 #[.val (.int p1)] [])) tg := by
            intro tg kt
            refine R53 _ ?_
            show Steps p.tables e below (s₁.setTop (mkF m 26 #[.val (.int p1)] [(.int (70 : Int32)), (.int p1)])) _
            refine XS.icmpNo X0.here hx rfl (hb hby d6_26) rfl (flt (h1b : ¬ ((70 : Int32) < p1))).2.2.1 ?_
            show Steps p.tables e below (s₁.setTop (mkF m 29 #[.val (.int p1)] [])) _
            refine XS.iloadN X0.here hx rfl (hb hby d6_29) rfl ?_
            show Steps p.tables e below (s₁.setTop (mkF m 30 #[.val (.int p1)] [(.int p1)])) _
            refine XS.bipush X0.here hx rfl (hb hby d6_30) ?_
            show Steps p.tables e below (s₁.setTop (mkF m 32 #[.val (.int p1)] [(.int (65 : Int32)), (.int p1)])) _
            refine XS.isub X0.here hx rfl (hb hby d6_32) rfl ?_
            show Steps p.tables e below (s₁.setTop (mkF m 33 #[.val (.int p1)] [(.int (p1 - (65 : Int32)))])) _
            refine XS.bipush X0.here hx rfl (hb hby d6_33) ?_
            show Steps p.tables e below (s₁.setTop (mkF m 35 #[.val (.int p1)] [(.int (10 : Int32)), (.int (p1 - (65 : Int32)))])) _
            refine XS.iadd X0.here hx rfl (hb hby d6_35) rfl ?_
            exact kt
          clear R53
          obtain ⟨fs, hr, hrun, hended, hW, hsame⟩ := X0.leave (v := some (.int ((p1 - (65 : Int32)) + (10 : Int32)))) (fun h => by rw [Bd.returns] at h; cases h)
          refine ⟨_, _, pre0 _ (R59 _ ?_), hrun, hended, _, _, rfl, ?_, ⟨_, rfl⟩, hW, hsame.mono (by decide) (by decide)⟩
          · exact retI X0 hx Bd.returns (hb hby d6_36) hr
          · show Q_rm_hex Z p1 h0 n0 _ s₁.heap _
            rw [e0]
            exact ⟨by rw [own_hex, if_neg h0a, if_pos h0b, own_t2, if_neg h1a, if_neg h1b], N0, rfl⟩
    · have R60 : ∀ tg, Steps p.tables e below (s₁.setTop (mkF m 16 #[.val (.int p1)] [(.int (p1 - (48 : Int32)))])) tg → Steps p.tables e below (s₁.setTop (mkF m 0 #[.val (.int p1)] [])) tg := by
        intro tg kt
        refine R46 _ ?_
        show Steps p.tables e below (s₁.setTop (mkF m 9 #[.val (.int p1)] [(.int (57 : Int32)), (.int p1)])) _
        refine XS.icmpNo X0.here hx rfl (hb hby d6_9) rfl (flt (h0b : ¬ ((57 : Int32) < p1))).2.2.1 ?_
        show Steps p.tables e below (s₁.setTop (mkF m 12 #[.val (.int p1)] [])) _
        refine XS.iloadN X0.here hx rfl (hb hby d6_12) rfl ?_
        show Steps p.tables e below (s₁.setTop (mkF m 13 #[.val (.int p1)] [(.int p1)])) _
        refine XS.bipush X0.here hx rfl (hb hby d6_13) ?_
        show Steps p.tables e below (s₁.setTop (mkF m 15 #[.val (.int p1)] [(.int (48 : Int32)), (.int p1)])) _
        refine XS.isub X0.here hx rfl (hb hby d6_15) rfl ?_
        exact kt
      clear R46
      obtain ⟨fs, hr, hrun, hended, hW, hsame⟩ := X0.leave (v := some (.int (p1 - (48 : Int32)))) (fun h => by rw [Bd.returns] at h; cases h)
      refine ⟨_, _, pre0 _ (R60 _ ?_), hrun, hended, _, _, rfl, ?_, ⟨_, rfl⟩, hW, hsame.mono (by decide) (by decide)⟩
      · exact retI X0 hx Bd.returns (hb hby d6_16) hr
      · show Q_rm_hex Z p1 h0 n0 _ s₁.heap _
        rw [e0]
        exact ⟨by rw [own_hex, if_neg h0a, if_neg h0b], N0, rfl⟩
theorem pn_4 : plainName "com/example/archivolt/archivolt/core/uri/PathSegmentHexValuePinLaw" = true := by first | (simp [plainName, overriddenIn]; done) | decide +kernel
theorem pd_4 : parseMethodDescriptor "(I)C" = some ⟨[.int], some .char⟩ := by decide +kernel
theorem pd_5 : parseMethodDescriptor "(C)I" = some ⟨[.char], some .int⟩ := by decide +kernel
theorem ef_rm_law (m : MethodId) (p1 : Int32) (p2 : Int32) : entryFrame m #[(.int p1), (.int p2)] maxLocals = mkF m 0 #[.val (.int p1), .val (.int p2), .unset, .unset, .unset, .unset, .unset, .unset, .unset] [] := by first | (simp [entryFrame, mkF, argsToLocals, Value.category, maxLocals]; done) | rfl
def Q_rm_law (Z : State) (p1 : Int32) (p2 : Int32) (cs : Int32) (vf : Value) (h0 : Heap) (n0 : Nat) (v : Option Value) (h : Heap) (L : List Loc) : Prop := v = some (.int (1 : Int32)) ∧ Fr n0 L
set_option maxRecDepth 65536 in
set_option maxHeartbeats 40000000 in
theorem rm_law (l : Launch) (Z : State) (a0 : Array Value) (hw : ∀ d ∈ tables_1, d.before a0 Z = true) (ws : List Jvm.Cond) (p1 : Int32) (p2 : Int32) (cs : Int32) (vf : Value) (h0 : Heap) (n0 : Nat) (Z0 : n0 ≤ h0.size) (SC : Sta Z Z.heap "java/lang/String" "COMPACT_STRINGS" "Z" (.int cs)) (OL : Old Z n0 h0) (hcs : ¬ (cs = (0 : Int32))) (SF : Sta Z Z.heap "jdk/internal/util/Preconditions" "SIOOBE_FORMATTER" "Ljava/util/function/BiFunction;" vf) (hvf : vf.isRef = true) (hc7 : Jvm.Lit.constHeld Z "com/example/archivolt/archivolt/core/uri/PathSegmentHexValuePinLaw" 7) (hc9 : Jvm.Lit.constHeld Z "com/example/archivolt/archivolt/core/uri/PathSegmentHexValuePinLaw" 9) (hcw : Jvm.Lit.compactW.before a0 Z = true) :
    MetFree l x (head1 (Jvm.Cond.code x code maxLocals ret :: ws) room_1) (fun a U => a = #[(.int p1), (.int p2)] ∧ Z.Warmed39 U.vm ∧ U.heap = h0 ∧ IB Z U.vm []) (fun _ _ _ _ _ => True) (fun _ U oC U' => ∃ v L, oC = .returned v ∧ Q_rm_law Z p1 p2 cs vf h0 n0 v U'.heap L ∧ ReturnedEndW U oC U' L room_1.cells room_1.slots) := by
  refine MetFree.of_bodySF (plainFor_of_name pn_4) hisR ?_
  intro p e s m args below meth c s₁ Bd hml0 hP hK
  obtain ⟨rfl, hZ, hh, hI⟩ := hP
  have hS0 : s.Since s.vm 0 := State.WarmedH.since (State.WarmedH.refl s) 0
  have hk0 : 0 ≤ h0.size := Nat.zero_le _
  have hkeep : ∀ (b : Addr) (cl : Cell), Z.heap[b]? = some cl → s.heap[b]? = some cl := by rw [hh]; exact OL.2.2
  have hx := Bd.exec
  have hby := Bd.bytes
  have hml : c.maxLocals = 9 := hml0
  have hown : s.vm.findClass "com/example/archivolt/archivolt/core/uri/PathSegmentHexValuePinLaw" = some m.cls := findClass_of_methodNamed Bd.named
  have hnm := (name_of_methodNamed Bd.named Bd.method).1
  have X0 : Stand p l e room_1 s m #[(.int p1), (.int p2)] below meth c s₁ [] 0 0 := Stand.of_body Bd
  have e0 : s₁.heap = h0 := by rw [← hh, Bd.state]; rfl
  have N0 := Fr.nil n0
  have pre0 : ∀ tg, Steps p.tables e below (s₁.setTop (mkF m 0 #[.val (.int p1), .val (.int p2), .unset, .unset, .unset, .unset, .unset, .unset, .unset] [])) tg → Steps p.tables e below (s₁.setTop (entryFrame m #[(.int p1), (.int p2)] maxLocals)) tg := fun t k => castTop (ef_rm_law m p1 p2) k
  have pre00 : ∀ tg, Steps p.tables e below (s₁.setTop (mkF m 0 #[.val (.int p1), .val (.int p2), .unset, .unset, .unset, .unset, .unset, .unset, .unset] [])) tg → Steps p.tables e below (s₁.setTop (mkF m 0 #[.val (.int p1), .val (.int p2), .unset, .unset, .unset, .unset, .unset, .unset, .unset] [])) tg := fun _ k => k
  have wS : ∀ d ∈ Bundle.stringAtoms, d.before a0 Z = true := fun d hd => by
    simp only [Bundle.stringAtoms, List.mem_cons, List.not_mem_nil, or_false] at hd
    rcases hd with rfl | rfl | rfl | rfl | rfl | rfl | rfl
    · exact (hw _ (List.mem_of_getElem? (i := 1) rfl))
    · exact (hw _ (List.mem_of_getElem? (i := 2) rfl))
    · exact (hw _ (List.mem_of_getElem? (i := 3) rfl))
    · exact (hw _ (List.mem_of_getElem? (i := 4) rfl))
    · exact (hw _ (List.mem_of_getElem? (i := 5) rfl))
    · exact (hw _ (List.mem_of_getElem? (i := 6) rfl))
    · exact (hw _ (List.mem_of_getElem? (i := 7) rfl))
  obtain ⟨au, T61, h61, k61, bu, kk61, X61, e61, E61, S61, hk61, hZ, hown, Ea_au, Fc_au, Fv_au, Vr_au, -, -, I61, st61⟩ := ldcSV (s := s) (vm0 := s.vm) X0 hx hZ hown (hw _ (List.mem_of_getElem? (i := 0) rfl)) wS e0 hS0 hk0 (Fr.nil _) hkeep hI (by decide) hc7 hcw (vs := List.map Value.int own_LU) (z := 16) (by constructor <;> decide +kernel) (by decide) (by decide) (g := (mkF m 0 #[.val (.int p1), .val (.int p2), .unset, .unset, .unset, .unset, .unset, .unset, .unset] [])) rfl (hb hby at_0) (n := 64) (by decide +kernel) (by decide) (by decide) (by decide)
  have OL_61 := OL.ext E61
  have Zs61 : n0 ≤ h61.size := Nat.le_trans Z0 E61.1
  have Va_au := own_avl (n := 16) Vr_au rfl
  have R62 : ∀ tg, Steps p.tables e below (T61.setTop (mkF m 3 #[.val (.int p1), .val (.int p2), .val (.ref au), .unset, .unset, .unset, .unset, .unset, .unset] [])) tg → Steps p.tables e below (s₁.setTop (mkF m 0 #[.val (.int p1), .val (.int p2), .unset, .unset, .unset, .unset, .unset, .unset, .unset] [])) tg := by
    intro tg kt
    refine pre00 _ ?_
    refine st61 _ ?_
    show Steps p.tables e below (T61.setTop (mkF m 2 #[.val (.int p1), .val (.int p2), .unset, .unset, .unset, .unset, .unset, .unset, .unset] [(.ref au)])) _
    refine XS.astoreN X61.here hx rfl (hb hby at_2) rfl rfl (l' := #[.val (.int p1), .val (.int p2), .val (.ref au), .unset, .unset, .unset, .unset, .unset, .unset]) rfl ?_
    exact kt
  clear st61
  obtain ⟨al, T63, h63, k63, bl, kk63, X63, e63, E63, S63, hk63, hZ, hown, Ea_al, Fc_al, Fv_al, Vr_al, -, -, I63, st63⟩ := ldcSV (s := s) (vm0 := T61.vm) X61 hx hZ hown (hw _ (List.mem_of_getElem? (i := 8) rfl)) wS e61 S61 hk61 (Fr.nil _) hkeep I61 (by decide) hc9 hcw (vs := List.map Value.int own_LL) (z := 16) (by constructor <;> decide +kernel) (by decide) (by decide) (g := (mkF m 3 #[.val (.int p1), .val (.int p2), .val (.ref au), .unset, .unset, .unset, .unset, .unset, .unset] [])) rfl (hb hby at_3) (n := 64) (by decide +kernel) (by decide) (by decide) (by decide)
  have OL_63 := OL_61.ext E63
  have E_au_63 := Ea_au.ext E63
  have Fc_au_63 := Fc_au.ext E63
  have Fv_au_63 := Fv_au.ext E63
  have VA_au_63 := Va_au.ext E63
  have Zs63 : n0 ≤ h63.size := Nat.le_trans Zs61 E63.1
  have Va_al := own_avl (n := 16) Vr_al rfl
  have R64 : ∀ tg, Steps p.tables e below (T63.setTop (mkF m 22 #[.val (.int p1), .val (.int p2), .val (.ref au), .val (.ref al), .val (.int ((p1 &&& (65535 : Int32)).toUInt32.toUInt16.toUInt32.toInt32)), .val (.int (p2 &&& (15 : Int32))), .unset, .unset, .unset] [(.int (p2 &&& (15 : Int32))), (.ref au)])) tg → Steps p.tables e below (s₁.setTop (mkF m 0 #[.val (.int p1), .val (.int p2), .unset, .unset, .unset, .unset, .unset, .unset, .unset] [])) tg := by
    intro tg kt
    refine R62 _ ?_
    refine st63 _ ?_
    show Steps p.tables e below (T63.setTop (mkF m 5 #[.val (.int p1), .val (.int p2), .val (.ref au), .unset, .unset, .unset, .unset, .unset, .unset] [(.ref al)])) _
    refine XS.astoreN X63.here hx rfl (hb hby at_5) rfl rfl (l' := #[.val (.int p1), .val (.int p2), .val (.ref au), .val (.ref al), .unset, .unset, .unset, .unset, .unset]) rfl ?_
    show Steps p.tables e below (T63.setTop (mkF m 6 #[.val (.int p1), .val (.int p2), .val (.ref au), .val (.ref al), .unset, .unset, .unset, .unset, .unset] [])) _
    refine XS.iloadN X63.here hx rfl (hb hby at_6) rfl ?_
    show Steps p.tables e below (T63.setTop (mkF m 7 #[.val (.int p1), .val (.int p2), .val (.ref au), .val (.ref al), .unset, .unset, .unset, .unset, .unset] [(.int p1)])) _
    refine X63.ldcInt hx hown (mvT hZ (hw _ (List.mem_of_getElem? (i := 9) rfl))) (g := (mkF m 7 #[.val (.int p1), .val (.int p2), .val (.ref au), .val (.ref al), .unset, .unset, .unset, .unset, .unset] [(.int p1)])) rfl (hb hby at_7) _ ?_
    show Steps p.tables e below (T63.setTop (mkF m 9 #[.val (.int p1), .val (.int p2), .val (.ref au), .val (.ref al), .unset, .unset, .unset, .unset, .unset] [(.int (65535 : Int32)), (.int p1)])) _
    refine XS.iand X63.here hx rfl (hb hby at_9) rfl ?_
    show Steps p.tables e below (T63.setTop (mkF m 10 #[.val (.int p1), .val (.int p2), .val (.ref au), .val (.ref al), .unset, .unset, .unset, .unset, .unset] [(.int (p1 &&& (65535 : Int32)))])) _
    refine XS.i2c X63.here hx rfl (hb hby at_10) rfl ?_
    show Steps p.tables e below (T63.setTop (mkF m 11 #[.val (.int p1), .val (.int p2), .val (.ref au), .val (.ref al), .unset, .unset, .unset, .unset, .unset] [(.int ((p1 &&& (65535 : Int32)).toUInt32.toUInt16.toUInt32.toInt32))])) _
    refine XS.istore X63.here hx rfl (hb hby at_11) rfl (l' := #[.val (.int p1), .val (.int p2), .val (.ref au), .val (.ref al), .val (.int ((p1 &&& (65535 : Int32)).toUInt32.toUInt16.toUInt32.toInt32)), .unset, .unset, .unset, .unset]) rfl ?_
    show Steps p.tables e below (T63.setTop (mkF m 13 #[.val (.int p1), .val (.int p2), .val (.ref au), .val (.ref al), .val (.int ((p1 &&& (65535 : Int32)).toUInt32.toUInt16.toUInt32.toInt32)), .unset, .unset, .unset, .unset] [])) _
    refine XS.iloadN X63.here hx rfl (hb hby at_13) rfl ?_
    show Steps p.tables e below (T63.setTop (mkF m 14 #[.val (.int p1), .val (.int p2), .val (.ref au), .val (.ref al), .val (.int ((p1 &&& (65535 : Int32)).toUInt32.toUInt16.toUInt32.toInt32)), .unset, .unset, .unset, .unset] [(.int p2)])) _
    refine XS.bipush X63.here hx rfl (hb hby at_14) ?_
    show Steps p.tables e below (T63.setTop (mkF m 16 #[.val (.int p1), .val (.int p2), .val (.ref au), .val (.ref al), .val (.int ((p1 &&& (65535 : Int32)).toUInt32.toUInt16.toUInt32.toInt32)), .unset, .unset, .unset, .unset] [(.int (15 : Int32)), (.int p2)])) _
    refine XS.iand X63.here hx rfl (hb hby at_16) rfl ?_
    show Steps p.tables e below (T63.setTop (mkF m 17 #[.val (.int p1), .val (.int p2), .val (.ref au), .val (.ref al), .val (.int ((p1 &&& (65535 : Int32)).toUInt32.toUInt16.toUInt32.toInt32)), .unset, .unset, .unset, .unset] [(.int (p2 &&& (15 : Int32)))])) _
    refine XS.istore X63.here hx rfl (hb hby at_17) rfl (l' := #[.val (.int p1), .val (.int p2), .val (.ref au), .val (.ref al), .val (.int ((p1 &&& (65535 : Int32)).toUInt32.toUInt16.toUInt32.toInt32)), .val (.int (p2 &&& (15 : Int32))), .unset, .unset, .unset]) rfl ?_
    show Steps p.tables e below (T63.setTop (mkF m 19 #[.val (.int p1), .val (.int p2), .val (.ref au), .val (.ref al), .val (.int ((p1 &&& (65535 : Int32)).toUInt32.toUInt16.toUInt32.toInt32)), .val (.int (p2 &&& (15 : Int32))), .unset, .unset, .unset] [])) _
    refine XS.aloadN X63.here hx rfl (hb hby at_19) rfl rfl ?_
    show Steps p.tables e below (T63.setTop (mkF m 20 #[.val (.int p1), .val (.int p2), .val (.ref au), .val (.ref al), .val (.int ((p1 &&& (65535 : Int32)).toUInt32.toUInt16.toUInt32.toInt32)), .val (.int (p2 &&& (15 : Int32))), .unset, .unset, .unset] [(.ref au)])) _
    refine XS.iload X63.here hx rfl (hb hby at_20) rfl ?_
    exact kt
  clear R62 st63
  obtain ⟨dn, dl, dk, du, de⟩ := own_dd p2
  obtain ⟨cq65, kq65, q65a, q65b, q65c⟩ := isOf hZ e63 E_au_63
  obtain ⟨_, _, ⟨T65, L65, k65, n65⟩, -, X65, ⟨Lc65, hQ65, l65, y65, z65⟩, st65⟩ := X63.virtualBack hx (y := (⟨"java/lang/String", "charAt", "(I)C"⟩ : MethodName)) (z := (⟨"java/lang/String", "charAt", "(I)C"⟩ : MethodName)) hown (mvT hZ (hw _ (List.mem_of_getElem? (i := 10) rfl))) (mvT hZ (hw _ (List.mem_of_getElem? (i := 11) rfl))) (notFace_of_selects (args := #[]) (mvT hZ (hw _ (List.mem_of_getElem? (i := 13) rfl)))) (mvT hZ (hw _ (List.mem_of_getElem? (i := 13) rfl))) (mvT hZ (hw _ (List.mem_of_getElem? (i := 12) rfl))) (by decide) (backOf (W := 0) (rm_cha l Z a0 hw [] au (p2 &&& (15 : Int32)) bu cs 16 (fun j => own_LU.getD j 0) ((p2 &&& (15 : Int32))).toNatClampNeg vf h63 n0 Zs63 SC OL_63 hcs SF hvf Fc_au_63 Fv_au_63 E_au_63 VA_au_63 dn dl rfl dk) hZ (hw _ (List.mem_of_getElem? (i := 14) rfl)) (hw _ (List.mem_of_getElem? (i := 1) rfl)) (by decide) (by decide)) q65a q65c (g := (mkF m 22 #[.val (.int p1), .val (.int p2), .val (.ref au), .val (.ref al), .val (.int ((p1 &&& (65535 : Int32)).toUInt32.toUInt16.toUInt32.toInt32)), .val (.int (p2 &&& (15 : Int32))), .unset, .unset, .unset] [(.int (p2 &&& (15 : Int32))), (.ref au)])) rfl (by rw [hml]; rfl) (Steps.refl _) (argsL := [(.int (p2 &&& (15 : Int32)))]) (rest := []) (lenOf pd_4 rfl) rfl (by show 2 * 0 + _ ≤ _; exact Nat.le_of_eq rfl) (hb hby at_22) (fun _ _ => ⟨rfl, e63, (by decide : 4 + 0 ≤ _), (by decide : 136 + 0 ≤ _)⟩)
  dsimp only [Pt.U, Pt.locs, Pt.cells, Pt.slots] at X65 l65 y65 z65 st65 hQ65
  rw [l65, y65, z65] at X65
  obtain ⟨rfl, N65q, hh65⟩ := hQ65
  have N65 := Fr.app N0 N65q
  have R66 : ∀ tg, Steps p.tables e below (T65.setTop (mkF m 25 #[.val (.int p1), .val (.int p2), .val (.ref au), .val (.ref al), .val (.int ((p1 &&& (65535 : Int32)).toUInt32.toUInt16.toUInt32.toInt32)), .val (.int (p2 &&& (15 : Int32))), .unset, .unset, .unset] [(.int (own_up (p2 &&& (15 : Int32))))])) tg → Steps p.tables e below (s₁.setTop (mkF m 0 #[.val (.int p1), .val (.int p2), .unset, .unset, .unset, .unset, .unset, .unset, .unset] [])) tg := by
    intro tg kt
    refine R64 _ ?_
    refine st65.trans ?_
    exact kt
  clear R64 st65
  obtain ⟨_, _, ⟨T67, L67, k67, n67⟩, -, X67, ⟨Lc67, hQ67, l67, y67, z67⟩, st67⟩ := Jvm.LawKit.callS X65 hx (y := (⟨"com/example/archivolt/archivolt/core/uri/PathSegment", "hexValue", "(C)I"⟩ : MethodName)) hown (mvT hZ (hw _ (List.mem_of_getElem? (i := 35) rfl))) (mvT hZ (hw _ (List.mem_of_getElem? (i := 36) rfl))) (mvT hZ (hw _ (List.mem_of_getElem? (i := 37) rfl))) (mvT hZ (hw _ (List.mem_of_getElem? (i := 38) rfl))) (by decide) (backOf (W := 0) (rm_hex l Z a0 hw [] (own_up (p2 &&& (15 : Int32))) h63 n0 Zs63) hZ (hw _ (List.mem_of_getElem? (i := 38) rfl)) (hw _ (List.mem_of_getElem? (i := 37) rfl)) (by decide) (by decide)) (g := (mkF m 25 #[.val (.int p1), .val (.int p2), .val (.ref au), .val (.ref al), .val (.int ((p1 &&& (65535 : Int32)).toUInt32.toUInt16.toUInt32.toInt32)), .val (.int (p2 &&& (15 : Int32))), .unset, .unset, .unset] [(.int (own_up (p2 &&& (15 : Int32))))])) rfl (by rw [hml]; rfl) (argsL := [(.int (own_up (p2 &&& (15 : Int32))))]) (rest := []) (lenOf pd_5 rfl) rfl (by show 2 * 0 + _ ≤ _; exact Nat.le_of_eq rfl) (hb hby at_25) (fun _ _ => ⟨rfl, hh65, (by decide : 4 + 0 ≤ _), (by decide : 136 + 0 ≤ _)⟩)
  dsimp only [Pt.U, Pt.locs, Pt.cells, Pt.slots] at X67 l67 y67 z67 st67 hQ67
  rw [l67, y67, z67] at X67
  obtain ⟨rfl, N67q, hh67⟩ := hQ67
  have N67 := Fr.app N65 N67q
  have R68 : ∀ tg, Steps p.tables e below (T67.setTop (mkF m 36 #[.val (.int p1), .val (.int p2), .val (.ref au), .val (.ref al), .val (.int ((p1 &&& (65535 : Int32)).toUInt32.toUInt16.toUInt32.toInt32)), .val (.int (p2 &&& (15 : Int32))), .unset, .unset, .unset] [(.int (p2 &&& (15 : Int32))), (.ref al)])) tg → Steps p.tables e below (s₁.setTop (mkF m 0 #[.val (.int p1), .val (.int p2), .unset, .unset, .unset, .unset, .unset, .unset, .unset] [])) tg := by
    intro tg kt
    refine R66 _ ?_
    refine st67 _ ?_
    show Steps p.tables e below (T67.setTop (mkF m 28 #[.val (.int p1), .val (.int p2), .val (.ref au), .val (.ref al), .val (.int ((p1 &&& (65535 : Int32)).toUInt32.toUInt16.toUInt32.toInt32)), .val (.int (p2 &&& (15 : Int32))), .unset, .unset, .unset] [(.int (own_hex (own_up (p2 &&& (15 : Int32)))))])) _
    refine XS.iload X67.here hx rfl (hb hby at_28) rfl ?_
    show Steps p.tables e below (T67.setTop (mkF m 30 #[.val (.int p1), .val (.int p2), .val (.ref au), .val (.ref al), .val (.int ((p1 &&& (65535 : Int32)).toUInt32.toUInt16.toUInt32.toInt32)), .val (.int (p2 &&& (15 : Int32))), .unset, .unset, .unset] [(.int (p2 &&& (15 : Int32))), (.int (own_hex (own_up (p2 &&& (15 : Int32)))))])) _
    refine XS.icmpNo X67.here hx rfl (hb hby at_30) rfl (teq (du : (own_hex (own_up (p2 &&& (15 : Int32)))) = (p2 &&& (15 : Int32)))).2 ?_
    show Steps p.tables e below (T67.setTop (mkF m 33 #[.val (.int p1), .val (.int p2), .val (.ref au), .val (.ref al), .val (.int ((p1 &&& (65535 : Int32)).toUInt32.toUInt16.toUInt32.toInt32)), .val (.int (p2 &&& (15 : Int32))), .unset, .unset, .unset] [])) _
    refine XS.aloadN X67.here hx rfl (hb hby at_33) rfl rfl ?_
    show Steps p.tables e below (T67.setTop (mkF m 34 #[.val (.int p1), .val (.int p2), .val (.ref au), .val (.ref al), .val (.int ((p1 &&& (65535 : Int32)).toUInt32.toUInt16.toUInt32.toInt32)), .val (.int (p2 &&& (15 : Int32))), .unset, .unset, .unset] [(.ref al)])) _
    refine XS.iload X67.here hx rfl (hb hby at_34) rfl ?_
    exact kt
  clear R66 st67
  obtain ⟨cq69, kq69, q69a, q69b, q69c⟩ := isOf hZ hh67 Ea_al
  obtain ⟨_, _, ⟨T69, L69, k69, n69⟩, -, X69, ⟨Lc69, hQ69, l69, y69, z69⟩, st69⟩ := X67.virtualBack hx (y := (⟨"java/lang/String", "charAt", "(I)C"⟩ : MethodName)) (z := (⟨"java/lang/String", "charAt", "(I)C"⟩ : MethodName)) hown (mvT hZ (hw _ (List.mem_of_getElem? (i := 10) rfl))) (mvT hZ (hw _ (List.mem_of_getElem? (i := 11) rfl))) (notFace_of_selects (args := #[]) (mvT hZ (hw _ (List.mem_of_getElem? (i := 13) rfl)))) (mvT hZ (hw _ (List.mem_of_getElem? (i := 13) rfl))) (mvT hZ (hw _ (List.mem_of_getElem? (i := 12) rfl))) (by decide) (backOf (W := 0) (rm_cha l Z a0 hw [] al (p2 &&& (15 : Int32)) bl cs 16 (fun j => own_LL.getD j 0) ((p2 &&& (15 : Int32))).toNatClampNeg vf h63 n0 Zs63 SC OL_63 hcs SF hvf Fc_al Fv_al Ea_al Va_al dn dl rfl dk) hZ (hw _ (List.mem_of_getElem? (i := 14) rfl)) (hw _ (List.mem_of_getElem? (i := 1) rfl)) (by decide) (by decide)) q69a q69c (g := (mkF m 36 #[.val (.int p1), .val (.int p2), .val (.ref au), .val (.ref al), .val (.int ((p1 &&& (65535 : Int32)).toUInt32.toUInt16.toUInt32.toInt32)), .val (.int (p2 &&& (15 : Int32))), .unset, .unset, .unset] [(.int (p2 &&& (15 : Int32))), (.ref al)])) rfl (by rw [hml]; rfl) (Steps.refl _) (argsL := [(.int (p2 &&& (15 : Int32)))]) (rest := []) (lenOf pd_4 rfl) rfl (by show 2 * 0 + _ ≤ _; exact Nat.le_of_eq rfl) (hb hby at_36) (fun _ _ => ⟨rfl, hh67, (by decide : 4 + 0 ≤ _), (by decide : 136 + 0 ≤ _)⟩)
  dsimp only [Pt.U, Pt.locs, Pt.cells, Pt.slots] at X69 l69 y69 z69 st69 hQ69
  rw [l69, y69, z69] at X69
  obtain ⟨rfl, N69q, hh69⟩ := hQ69
  have N69 := Fr.app N67 N69q
  have R70 : ∀ tg, Steps p.tables e below (T69.setTop (mkF m 39 #[.val (.int p1), .val (.int p2), .val (.ref au), .val (.ref al), .val (.int ((p1 &&& (65535 : Int32)).toUInt32.toUInt16.toUInt32.toInt32)), .val (.int (p2 &&& (15 : Int32))), .unset, .unset, .unset] [(.int (own_lo (p2 &&& (15 : Int32))))])) tg → Steps p.tables e below (s₁.setTop (mkF m 0 #[.val (.int p1), .val (.int p2), .unset, .unset, .unset, .unset, .unset, .unset, .unset] [])) tg := by
    intro tg kt
    refine R68 _ ?_
    refine st69.trans ?_
    exact kt
  clear R68 st69
  obtain ⟨_, _, ⟨T71, L71, k71, n71⟩, -, X71, ⟨Lc71, hQ71, l71, y71, z71⟩, st71⟩ := Jvm.LawKit.callS X69 hx (y := (⟨"com/example/archivolt/archivolt/core/uri/PathSegment", "hexValue", "(C)I"⟩ : MethodName)) hown (mvT hZ (hw _ (List.mem_of_getElem? (i := 35) rfl))) (mvT hZ (hw _ (List.mem_of_getElem? (i := 36) rfl))) (mvT hZ (hw _ (List.mem_of_getElem? (i := 37) rfl))) (mvT hZ (hw _ (List.mem_of_getElem? (i := 38) rfl))) (by decide) (backOf (W := 0) (rm_hex l Z a0 hw [] (own_lo (p2 &&& (15 : Int32))) h63 n0 Zs63) hZ (hw _ (List.mem_of_getElem? (i := 38) rfl)) (hw _ (List.mem_of_getElem? (i := 37) rfl)) (by decide) (by decide)) (g := (mkF m 39 #[.val (.int p1), .val (.int p2), .val (.ref au), .val (.ref al), .val (.int ((p1 &&& (65535 : Int32)).toUInt32.toUInt16.toUInt32.toInt32)), .val (.int (p2 &&& (15 : Int32))), .unset, .unset, .unset] [(.int (own_lo (p2 &&& (15 : Int32))))])) rfl (by rw [hml]; rfl) (argsL := [(.int (own_lo (p2 &&& (15 : Int32))))]) (rest := []) (lenOf pd_5 rfl) rfl (by show 2 * 0 + _ ≤ _; exact Nat.le_of_eq rfl) (hb hby at_39) (fun _ _ => ⟨rfl, hh69, (by decide : 4 + 0 ≤ _), (by decide : 136 + 0 ≤ _)⟩)
  dsimp only [Pt.U, Pt.locs, Pt.cells, Pt.slots] at X71 l71 y71 z71 st71 hQ71
  rw [l71, y71, z71] at X71
  obtain ⟨rfl, N71q, hh71⟩ := hQ71
  have N71 := Fr.app N69 N71q
  have R72 : ∀ tg, Steps p.tables e below (T71.setTop (mkF m 56 #[.val (.int p1), .val (.int p2), .val (.ref au), .val (.ref al), .val (.int ((p1 &&& (65535 : Int32)).toUInt32.toUInt16.toUInt32.toInt32)), .val (.int (p2 &&& (15 : Int32))), .val (.int (1 : Int32)), .unset, .unset] [(.int ((p1 &&& (65535 : Int32)).toUInt32.toUInt16.toUInt32.toInt32))])) tg → Steps p.tables e below (s₁.setTop (mkF m 0 #[.val (.int p1), .val (.int p2), .unset, .unset, .unset, .unset, .unset, .unset, .unset] [])) tg := by
    intro tg kt
    refine R70 _ ?_
    refine st71 _ ?_
    show Steps p.tables e below (T71.setTop (mkF m 42 #[.val (.int p1), .val (.int p2), .val (.ref au), .val (.ref al), .val (.int ((p1 &&& (65535 : Int32)).toUInt32.toUInt16.toUInt32.toInt32)), .val (.int (p2 &&& (15 : Int32))), .unset, .unset, .unset] [(.int (own_hex (own_lo (p2 &&& (15 : Int32)))))])) _
    refine XS.iload X71.here hx rfl (hb hby at_42) rfl ?_
    show Steps p.tables e below (T71.setTop (mkF m 44 #[.val (.int p1), .val (.int p2), .val (.ref au), .val (.ref al), .val (.int ((p1 &&& (65535 : Int32)).toUInt32.toUInt16.toUInt32.toInt32)), .val (.int (p2 &&& (15 : Int32))), .unset, .unset, .unset] [(.int (p2 &&& (15 : Int32))), (.int (own_hex (own_lo (p2 &&& (15 : Int32)))))])) _
    refine XS.icmpNo X71.here hx rfl (hb hby at_44) rfl (teq (de : (own_hex (own_lo (p2 &&& (15 : Int32)))) = (p2 &&& (15 : Int32)))).2 ?_
    show Steps p.tables e below (T71.setTop (mkF m 47 #[.val (.int p1), .val (.int p2), .val (.ref au), .val (.ref al), .val (.int ((p1 &&& (65535 : Int32)).toUInt32.toUInt16.toUInt32.toInt32)), .val (.int (p2 &&& (15 : Int32))), .unset, .unset, .unset] [])) _
    refine XS.iconst X71.here hx rfl (hb hby at_47) ?_
    show Steps p.tables e below (T71.setTop (mkF m 48 #[.val (.int p1), .val (.int p2), .val (.ref au), .val (.ref al), .val (.int ((p1 &&& (65535 : Int32)).toUInt32.toUInt16.toUInt32.toInt32)), .val (.int (p2 &&& (15 : Int32))), .unset, .unset, .unset] [(.int (1 : Int32))])) _
    refine XS.goto X71.here hx rfl (pc0 := 48) (pc' := 52) rfl (hb hby at_48) (by decide) (by decide) ?_
    show Steps p.tables e below (T71.setTop (mkF m 52 #[.val (.int p1), .val (.int p2), .val (.ref au), .val (.ref al), .val (.int ((p1 &&& (65535 : Int32)).toUInt32.toUInt16.toUInt32.toInt32)), .val (.int (p2 &&& (15 : Int32))), .unset, .unset, .unset] [(.int (1 : Int32))])) _
    refine XS.istore X71.here hx rfl (hb hby at_52) rfl (l' := #[.val (.int p1), .val (.int p2), .val (.ref au), .val (.ref al), .val (.int ((p1 &&& (65535 : Int32)).toUInt32.toUInt16.toUInt32.toInt32)), .val (.int (p2 &&& (15 : Int32))), .val (.int (1 : Int32)), .unset, .unset]) rfl ?_
    show Steps p.tables e below (T71.setTop (mkF m 54 #[.val (.int p1), .val (.int p2), .val (.ref au), .val (.ref al), .val (.int ((p1 &&& (65535 : Int32)).toUInt32.toUInt16.toUInt32.toInt32)), .val (.int (p2 &&& (15 : Int32))), .val (.int (1 : Int32)), .unset, .unset] [])) _
    refine XS.iload X71.here hx rfl (hb hby at_54) rfl ?_
    exact kt
  clear R70 st71
  obtain ⟨cc, hcc⟩ : ∃ z : Int32, z = ((p1 &&& (65535 : Int32)).toUInt32.toUInt16.toUInt32.toInt32) := ⟨_, rfl⟩
  have R73 : ∀ tg, Steps p.tables e below (T71.setTop (mkF m 56 #[.val (.int p1), .val (.int p2), .val (.ref au), .val (.ref al), .val (.int cc), .val (.int (p2 &&& (15 : Int32))), .val (.int (1 : Int32)), .unset, .unset] [(.int cc)])) tg → Steps p.tables e below (s₁.setTop (mkF m 0 #[.val (.int p1), .val (.int p2), .unset, .unset, .unset, .unset, .unset, .unset, .unset] [])) tg := by rw [hcc]; exact R72
  obtain ⟨_, _, ⟨T74, L74, k74, n74⟩, -, X74, ⟨Lc74, hQ74, l74, y74, z74⟩, st74⟩ := Jvm.LawKit.callS X71 hx (y := (⟨"com/example/archivolt/archivolt/core/uri/PathSegment", "hexValue", "(C)I"⟩ : MethodName)) hown (mvT hZ (hw _ (List.mem_of_getElem? (i := 35) rfl))) (mvT hZ (hw _ (List.mem_of_getElem? (i := 36) rfl))) (mvT hZ (hw _ (List.mem_of_getElem? (i := 37) rfl))) (mvT hZ (hw _ (List.mem_of_getElem? (i := 38) rfl))) (by decide) (backOf (W := 0) (rm_hex l Z a0 hw [] cc h63 n0 Zs63) hZ (hw _ (List.mem_of_getElem? (i := 38) rfl)) (hw _ (List.mem_of_getElem? (i := 37) rfl)) (by decide) (by decide)) (g := (mkF m 56 #[.val (.int p1), .val (.int p2), .val (.ref au), .val (.ref al), .val (.int cc), .val (.int (p2 &&& (15 : Int32))), .val (.int (1 : Int32)), .unset, .unset] [(.int cc)])) rfl (by rw [hml]; rfl) (argsL := [(.int cc)]) (rest := []) (lenOf pd_5 rfl) rfl (by show 2 * 0 + _ ≤ _; exact Nat.le_of_eq rfl) (hb hby at_56) (fun _ _ => ⟨rfl, hh71, (by decide : 4 + 0 ≤ _), (by decide : 136 + 0 ≤ _)⟩)
  dsimp only [Pt.U, Pt.locs, Pt.cells, Pt.slots] at X74 l74 y74 z74 st74 hQ74
  rw [l74, y74, z74] at X74
  obtain ⟨rfl, N74q, hh74⟩ := hQ74
  have N74 := Fr.app N71 N74q
  have R75 : ∀ tg, Steps p.tables e below (T74.setTop (mkF m 63 #[.val (.int p1), .val (.int p2), .val (.ref au), .val (.ref al), .val (.int cc), .val (.int (p2 &&& (15 : Int32))), .val (.int (1 : Int32)), .val (.int (own_hex cc)), .unset] [(.int (own_hex cc))])) tg → Steps p.tables e below (s₁.setTop (mkF m 0 #[.val (.int p1), .val (.int p2), .unset, .unset, .unset, .unset, .unset, .unset, .unset] [])) tg := by
    intro tg kt
    refine R73 _ ?_
    refine st74 _ ?_
    show Steps p.tables e below (T74.setTop (mkF m 59 #[.val (.int p1), .val (.int p2), .val (.ref au), .val (.ref al), .val (.int cc), .val (.int (p2 &&& (15 : Int32))), .val (.int (1 : Int32)), .unset, .unset] [(.int (own_hex cc))])) _
    refine XS.istore X74.here hx rfl (hb hby at_59) rfl (l' := #[.val (.int p1), .val (.int p2), .val (.ref au), .val (.ref al), .val (.int cc), .val (.int (p2 &&& (15 : Int32))), .val (.int (1 : Int32)), .val (.int (own_hex cc)), .unset]) rfl ?_
    show Steps p.tables e below (T74.setTop (mkF m 61 #[.val (.int p1), .val (.int p2), .val (.ref au), .val (.ref al), .val (.int cc), .val (.int (p2 &&& (15 : Int32))), .val (.int (1 : Int32)), .val (.int (own_hex cc)), .unset] [])) _
    refine XS.iload X74.here hx rfl (hb hby at_61) rfl ?_
    exact kt
  clear R73 st74
  rcases own_any cc with hm | ⟨rn, r15, rl, rk, ro⟩
  · have R76 : ∀ tg, Steps p.tables e below (T74.setTop (mkF m 139 #[.val (.int p1), .val (.int p2), .val (.ref au), .val (.ref al), .val (.int cc), .val (.int (p2 &&& (15 : Int32))), .val (.int (1 : Int32)), .val (.int (own_hex cc)), .val (.int (1 : Int32))] [(.int (1 : Int32))])) tg → Steps p.tables e below (s₁.setTop (mkF m 0 #[.val (.int p1), .val (.int p2), .unset, .unset, .unset, .unset, .unset, .unset, .unset] [])) tg := by
      intro tg kt
      refine R75 _ ?_
      show Steps p.tables e below (T74.setTop (mkF m 63 #[.val (.int p1), .val (.int p2), .val (.ref au), .val (.ref al), .val (.int cc), .val (.int (p2 &&& (15 : Int32))), .val (.int (1 : Int32)), .val (.int (own_hex cc)), .unset] [(.int (own_hex cc))])) _
      refine XS.ifNo X74.here hx rfl (hb hby at_63) rfl ((if0 _ _).trans (tlt (own_lt0 hm : (own_hex cc) < (0 : Int32))).2.1) ?_
      show Steps p.tables e below (T74.setTop (mkF m 66 #[.val (.int p1), .val (.int p2), .val (.ref au), .val (.ref al), .val (.int cc), .val (.int (p2 &&& (15 : Int32))), .val (.int (1 : Int32)), .val (.int (own_hex cc)), .unset] [])) _
      refine XS.iload X74.here hx rfl (hb hby at_66) rfl ?_
      show Steps p.tables e below (T74.setTop (mkF m 68 #[.val (.int p1), .val (.int p2), .val (.ref au), .val (.ref al), .val (.int cc), .val (.int (p2 &&& (15 : Int32))), .val (.int (1 : Int32)), .val (.int (own_hex cc)), .unset] [(.int (own_hex cc))])) _
      refine XS.iconst X74.here hx rfl (hb hby at_68) ?_
      show Steps p.tables e below (T74.setTop (mkF m 69 #[.val (.int p1), .val (.int p2), .val (.ref au), .val (.ref al), .val (.int cc), .val (.int (p2 &&& (15 : Int32))), .val (.int (1 : Int32)), .val (.int (own_hex cc)), .unset] [(.int (-1 : Int32)), (.int (own_hex cc))])) _
      refine XS.icmpNo X74.here hx rfl (hb hby at_69) rfl (teq (hm : (own_hex cc) = (-1 : Int32))).2 ?_
      show Steps p.tables e below (T74.setTop (mkF m 72 #[.val (.int p1), .val (.int p2), .val (.ref au), .val (.ref al), .val (.int cc), .val (.int (p2 &&& (15 : Int32))), .val (.int (1 : Int32)), .val (.int (own_hex cc)), .unset] [])) _
      refine XS.iconst X74.here hx rfl (hb hby at_72) ?_
      show Steps p.tables e below (T74.setTop (mkF m 73 #[.val (.int p1), .val (.int p2), .val (.ref au), .val (.ref al), .val (.int cc), .val (.int (p2 &&& (15 : Int32))), .val (.int (1 : Int32)), .val (.int (own_hex cc)), .unset] [(.int (1 : Int32))])) _
      refine XS.goto X74.here hx rfl (pc0 := 73) (pc' := 77) rfl (hb hby at_73) (by decide) (by decide) ?_
      show Steps p.tables e below (T74.setTop (mkF m 77 #[.val (.int p1), .val (.int p2), .val (.ref au), .val (.ref al), .val (.int cc), .val (.int (p2 &&& (15 : Int32))), .val (.int (1 : Int32)), .val (.int (own_hex cc)), .unset] [(.int (1 : Int32))])) _
      refine XS.istore X74.here hx rfl (hb hby at_77) rfl (l' := #[.val (.int p1), .val (.int p2), .val (.ref au), .val (.ref al), .val (.int cc), .val (.int (p2 &&& (15 : Int32))), .val (.int (1 : Int32)), .val (.int (own_hex cc)), .val (.int (1 : Int32))]) rfl ?_
      show Steps p.tables e below (T74.setTop (mkF m 79 #[.val (.int p1), .val (.int p2), .val (.ref au), .val (.ref al), .val (.int cc), .val (.int (p2 &&& (15 : Int32))), .val (.int (1 : Int32)), .val (.int (own_hex cc)), .val (.int (1 : Int32))] [])) _
      refine XS.goto X74.here hx rfl (pc0 := 79) (pc' := 124) rfl (hb hby at_79) (by decide) (by decide) ?_
      show Steps p.tables e below (T74.setTop (mkF m 124 #[.val (.int p1), .val (.int p2), .val (.ref au), .val (.ref al), .val (.int cc), .val (.int (p2 &&& (15 : Int32))), .val (.int (1 : Int32)), .val (.int (own_hex cc)), .val (.int (1 : Int32))] [])) _
      refine XS.iload X74.here hx rfl (hb hby at_124) rfl ?_
      show Steps p.tables e below (T74.setTop (mkF m 126 #[.val (.int p1), .val (.int p2), .val (.ref au), .val (.ref al), .val (.int cc), .val (.int (p2 &&& (15 : Int32))), .val (.int (1 : Int32)), .val (.int (own_hex cc)), .val (.int (1 : Int32))] [(.int (1 : Int32))])) _
      refine XS.ifNo X74.here hx rfl (hb hby at_126) rfl ((if0 _ _).trans (feq (by decide : ¬ ((1 : Int32) = (0 : Int32)))).1) ?_
      show Steps p.tables e below (T74.setTop (mkF m 129 #[.val (.int p1), .val (.int p2), .val (.ref au), .val (.ref al), .val (.int cc), .val (.int (p2 &&& (15 : Int32))), .val (.int (1 : Int32)), .val (.int (own_hex cc)), .val (.int (1 : Int32))] [])) _
      refine XS.iload X74.here hx rfl (hb hby at_129) rfl ?_
      show Steps p.tables e below (T74.setTop (mkF m 131 #[.val (.int p1), .val (.int p2), .val (.ref au), .val (.ref al), .val (.int cc), .val (.int (p2 &&& (15 : Int32))), .val (.int (1 : Int32)), .val (.int (own_hex cc)), .val (.int (1 : Int32))] [(.int (1 : Int32))])) _
      refine XS.ifNo X74.here hx rfl (hb hby at_131) rfl ((if0 _ _).trans (feq (by decide : ¬ ((1 : Int32) = (0 : Int32)))).1) ?_
      show Steps p.tables e below (T74.setTop (mkF m 134 #[.val (.int p1), .val (.int p2), .val (.ref au), .val (.ref al), .val (.int cc), .val (.int (p2 &&& (15 : Int32))), .val (.int (1 : Int32)), .val (.int (own_hex cc)), .val (.int (1 : Int32))] [])) _
      refine XS.iconst X74.here hx rfl (hb hby at_134) ?_
      show Steps p.tables e below (T74.setTop (mkF m 135 #[.val (.int p1), .val (.int p2), .val (.ref au), .val (.ref al), .val (.int cc), .val (.int (p2 &&& (15 : Int32))), .val (.int (1 : Int32)), .val (.int (own_hex cc)), .val (.int (1 : Int32))] [(.int (1 : Int32))])) _
      refine XS.goto X74.here hx rfl (pc0 := 135) (pc' := 139) rfl (hb hby at_135) (by decide) (by decide) ?_
      exact kt
    clear R75
    obtain ⟨fs, hr, hrun, hended, hR⟩ := Stand.leaveW (s := s) (vm₁ := T63.vm) X74 S63 (by rw [hh74]; exact hk63) (v := some (.int (1 : Int32))) (fun h => by rw [Bd.returns] at h; cases h)
    refine ⟨_, _, pre0 _ (R76 _ ?_), hrun, hended, _, _, rfl, ?_, hR.1, hR.2.1, hR.2.2.1, hR.2.2.2.mono (by decide) (by decide)⟩
    · exact retN X74 hx (t := .boolean) Bd.returns (by simp) (hb hby at_139) hr
    · show Q_rm_law Z p1 p2 cs vf h0 n0 _ T74.heap _
      rw [hh74]
      exact ⟨rfl, N74⟩
  · have R77 : ∀ tg, Steps p.tables e below (T74.setTop (mkF m 100 #[.val (.int p1), .val (.int p2), .val (.ref au), .val (.ref al), .val (.int cc), .val (.int (p2 &&& (15 : Int32))), .val (.int (1 : Int32)), .val (.int (own_hex cc)), .unset] [(.int (own_hex cc)), (.ref au), (.int cc)])) tg → Steps p.tables e below (s₁.setTop (mkF m 0 #[.val (.int p1), .val (.int p2), .unset, .unset, .unset, .unset, .unset, .unset, .unset] [])) tg := by
      intro tg kt
      refine R75 _ ?_
      show Steps p.tables e below (T74.setTop (mkF m 63 #[.val (.int p1), .val (.int p2), .val (.ref au), .val (.ref al), .val (.int cc), .val (.int (p2 &&& (15 : Int32))), .val (.int (1 : Int32)), .val (.int (own_hex cc)), .unset] [(.int (own_hex cc))])) _
      refine XS.ifYes X74.here hx rfl (pc0 := 63) (pc' := 82) rfl (hb hby at_63) rfl ((if0 _ _).trans (flt (rn : ¬ ((own_hex cc) < (0 : Int32)))).2.1) (by decide) (by decide) ?_
      show Steps p.tables e below (T74.setTop (mkF m 82 #[.val (.int p1), .val (.int p2), .val (.ref au), .val (.ref al), .val (.int cc), .val (.int (p2 &&& (15 : Int32))), .val (.int (1 : Int32)), .val (.int (own_hex cc)), .unset] [])) _
      refine XS.iload X74.here hx rfl (hb hby at_82) rfl ?_
      show Steps p.tables e below (T74.setTop (mkF m 84 #[.val (.int p1), .val (.int p2), .val (.ref au), .val (.ref al), .val (.int cc), .val (.int (p2 &&& (15 : Int32))), .val (.int (1 : Int32)), .val (.int (own_hex cc)), .unset] [(.int (own_hex cc))])) _
      refine XS.bipush X74.here hx rfl (hb hby at_84) ?_
      show Steps p.tables e below (T74.setTop (mkF m 86 #[.val (.int p1), .val (.int p2), .val (.ref au), .val (.ref al), .val (.int cc), .val (.int (p2 &&& (15 : Int32))), .val (.int (1 : Int32)), .val (.int (own_hex cc)), .unset] [(.int (15 : Int32)), (.int (own_hex cc))])) _
      refine XS.icmpYes X74.here hx rfl (pc0 := 86) (pc' := 95) rfl (hb hby at_86) rfl (flt (r15 : ¬ ((15 : Int32) < (own_hex cc)))).2.2.2 (by decide) (by decide) ?_
      show Steps p.tables e below (T74.setTop (mkF m 95 #[.val (.int p1), .val (.int p2), .val (.ref au), .val (.ref al), .val (.int cc), .val (.int (p2 &&& (15 : Int32))), .val (.int (1 : Int32)), .val (.int (own_hex cc)), .unset] [])) _
      refine XS.iload X74.here hx rfl (hb hby at_95) rfl ?_
      show Steps p.tables e below (T74.setTop (mkF m 97 #[.val (.int p1), .val (.int p2), .val (.ref au), .val (.ref al), .val (.int cc), .val (.int (p2 &&& (15 : Int32))), .val (.int (1 : Int32)), .val (.int (own_hex cc)), .unset] [(.int cc)])) _
      refine XS.aloadN X74.here hx rfl (hb hby at_97) rfl rfl ?_
      show Steps p.tables e below (T74.setTop (mkF m 98 #[.val (.int p1), .val (.int p2), .val (.ref au), .val (.ref al), .val (.int cc), .val (.int (p2 &&& (15 : Int32))), .val (.int (1 : Int32)), .val (.int (own_hex cc)), .unset] [(.ref au), (.int cc)])) _
      refine XS.iload X74.here hx rfl (hb hby at_98) rfl ?_
      exact kt
    clear R75
    obtain ⟨cq78, kq78, q78a, q78b, q78c⟩ := isOf hZ hh74 E_au_63
    obtain ⟨_, _, ⟨T78, L78, k78, n78⟩, -, X78, ⟨Lc78, hQ78, l78, y78, z78⟩, st78⟩ := X74.virtualBack hx (y := (⟨"java/lang/String", "charAt", "(I)C"⟩ : MethodName)) (z := (⟨"java/lang/String", "charAt", "(I)C"⟩ : MethodName)) hown (mvT hZ (hw _ (List.mem_of_getElem? (i := 10) rfl))) (mvT hZ (hw _ (List.mem_of_getElem? (i := 11) rfl))) (notFace_of_selects (args := #[]) (mvT hZ (hw _ (List.mem_of_getElem? (i := 13) rfl)))) (mvT hZ (hw _ (List.mem_of_getElem? (i := 13) rfl))) (mvT hZ (hw _ (List.mem_of_getElem? (i := 12) rfl))) (by decide) (backOf (W := 1) (rm_cha l Z a0 hw [] au (own_hex cc) bu cs 16 (fun j => own_LU.getD j 0) ((own_hex cc)).toNatClampNeg vf h63 n0 Zs63 SC OL_63 hcs SF hvf Fc_au_63 Fv_au_63 E_au_63 VA_au_63 rn rl rfl rk) hZ (hw _ (List.mem_of_getElem? (i := 14) rfl)) (hw _ (List.mem_of_getElem? (i := 1) rfl)) (by decide) (by decide)) q78a q78c (g := (mkF m 100 #[.val (.int p1), .val (.int p2), .val (.ref au), .val (.ref al), .val (.int cc), .val (.int (p2 &&& (15 : Int32))), .val (.int (1 : Int32)), .val (.int (own_hex cc)), .unset] [(.int (own_hex cc)), (.ref au), (.int cc)])) rfl (by rw [hml]; rfl) (Steps.refl _) (argsL := [(.int (own_hex cc))]) (rest := [(.int cc)]) (lenOf pd_4 rfl) rfl (by show 2 * 0 + _ ≤ _; exact Nat.le_of_eq rfl) (hb hby at_100) (fun _ _ => ⟨rfl, hh74, (by decide : 4 + 0 ≤ _), (by decide : 136 + 0 ≤ _)⟩)
    dsimp only [Pt.U, Pt.locs, Pt.cells, Pt.slots] at X78 l78 y78 z78 st78 hQ78
    rw [l78, y78, z78] at X78
    obtain ⟨rfl, N78q, hh78⟩ := hQ78
    have N78 := Fr.app N74 N78q
    have R79 : ∀ tg, Steps p.tables e below (T78.setTop (mkF m 103 #[.val (.int p1), .val (.int p2), .val (.ref au), .val (.ref al), .val (.int cc), .val (.int (p2 &&& (15 : Int32))), .val (.int (1 : Int32)), .val (.int (own_hex cc)), .unset] [(.int (own_up (own_hex cc))), (.int cc)])) tg → Steps p.tables e below (s₁.setTop (mkF m 0 #[.val (.int p1), .val (.int p2), .unset, .unset, .unset, .unset, .unset, .unset, .unset] [])) tg := by
      intro tg kt
      refine R77 _ ?_
      refine st78.trans ?_
      exact kt
    clear R77 st78
    by_cases hu : cc = (own_up (own_hex cc))
    · have R80 : ∀ tg, Steps p.tables e below (T78.setTop (mkF m 139 #[.val (.int p1), .val (.int p2), .val (.ref au), .val (.ref al), .val (.int cc), .val (.int (p2 &&& (15 : Int32))), .val (.int (1 : Int32)), .val (.int (own_hex cc)), .val (.int (1 : Int32))] [(.int (1 : Int32))])) tg → Steps p.tables e below (s₁.setTop (mkF m 0 #[.val (.int p1), .val (.int p2), .unset, .unset, .unset, .unset, .unset, .unset, .unset] [])) tg := by
        intro tg kt
        refine R79 _ ?_
        show Steps p.tables e below (T78.setTop (mkF m 103 #[.val (.int p1), .val (.int p2), .val (.ref au), .val (.ref al), .val (.int cc), .val (.int (p2 &&& (15 : Int32))), .val (.int (1 : Int32)), .val (.int (own_hex cc)), .unset] [(.int (own_up (own_hex cc))), (.int cc)])) _
        refine XS.icmpYes X78.here hx rfl (pc0 := 103) (pc' := 117) rfl (hb hby at_103) rfl (teq (hu : cc = (own_up (own_hex cc)))).1 (by decide) (by decide) ?_
        show Steps p.tables e below (T78.setTop (mkF m 117 #[.val (.int p1), .val (.int p2), .val (.ref au), .val (.ref al), .val (.int cc), .val (.int (p2 &&& (15 : Int32))), .val (.int (1 : Int32)), .val (.int (own_hex cc)), .unset] [])) _
        refine XS.iconst X78.here hx rfl (hb hby at_117) ?_
        show Steps p.tables e below (T78.setTop (mkF m 118 #[.val (.int p1), .val (.int p2), .val (.ref au), .val (.ref al), .val (.int cc), .val (.int (p2 &&& (15 : Int32))), .val (.int (1 : Int32)), .val (.int (own_hex cc)), .unset] [(.int (1 : Int32))])) _
        refine XS.goto X78.here hx rfl (pc0 := 118) (pc' := 122) rfl (hb hby at_118) (by decide) (by decide) ?_
        show Steps p.tables e below (T78.setTop (mkF m 122 #[.val (.int p1), .val (.int p2), .val (.ref au), .val (.ref al), .val (.int cc), .val (.int (p2 &&& (15 : Int32))), .val (.int (1 : Int32)), .val (.int (own_hex cc)), .unset] [(.int (1 : Int32))])) _
        refine XS.istore X78.here hx rfl (hb hby at_122) rfl (l' := #[.val (.int p1), .val (.int p2), .val (.ref au), .val (.ref al), .val (.int cc), .val (.int (p2 &&& (15 : Int32))), .val (.int (1 : Int32)), .val (.int (own_hex cc)), .val (.int (1 : Int32))]) rfl ?_
        show Steps p.tables e below (T78.setTop (mkF m 124 #[.val (.int p1), .val (.int p2), .val (.ref au), .val (.ref al), .val (.int cc), .val (.int (p2 &&& (15 : Int32))), .val (.int (1 : Int32)), .val (.int (own_hex cc)), .val (.int (1 : Int32))] [])) _
        refine XS.iload X78.here hx rfl (hb hby at_124) rfl ?_
        show Steps p.tables e below (T78.setTop (mkF m 126 #[.val (.int p1), .val (.int p2), .val (.ref au), .val (.ref al), .val (.int cc), .val (.int (p2 &&& (15 : Int32))), .val (.int (1 : Int32)), .val (.int (own_hex cc)), .val (.int (1 : Int32))] [(.int (1 : Int32))])) _
        refine XS.ifNo X78.here hx rfl (hb hby at_126) rfl ((if0 _ _).trans (feq (by decide : ¬ ((1 : Int32) = (0 : Int32)))).1) ?_
        show Steps p.tables e below (T78.setTop (mkF m 129 #[.val (.int p1), .val (.int p2), .val (.ref au), .val (.ref al), .val (.int cc), .val (.int (p2 &&& (15 : Int32))), .val (.int (1 : Int32)), .val (.int (own_hex cc)), .val (.int (1 : Int32))] [])) _
        refine XS.iload X78.here hx rfl (hb hby at_129) rfl ?_
        show Steps p.tables e below (T78.setTop (mkF m 131 #[.val (.int p1), .val (.int p2), .val (.ref au), .val (.ref al), .val (.int cc), .val (.int (p2 &&& (15 : Int32))), .val (.int (1 : Int32)), .val (.int (own_hex cc)), .val (.int (1 : Int32))] [(.int (1 : Int32))])) _
        refine XS.ifNo X78.here hx rfl (hb hby at_131) rfl ((if0 _ _).trans (feq (by decide : ¬ ((1 : Int32) = (0 : Int32)))).1) ?_
        show Steps p.tables e below (T78.setTop (mkF m 134 #[.val (.int p1), .val (.int p2), .val (.ref au), .val (.ref al), .val (.int cc), .val (.int (p2 &&& (15 : Int32))), .val (.int (1 : Int32)), .val (.int (own_hex cc)), .val (.int (1 : Int32))] [])) _
        refine XS.iconst X78.here hx rfl (hb hby at_134) ?_
        show Steps p.tables e below (T78.setTop (mkF m 135 #[.val (.int p1), .val (.int p2), .val (.ref au), .val (.ref al), .val (.int cc), .val (.int (p2 &&& (15 : Int32))), .val (.int (1 : Int32)), .val (.int (own_hex cc)), .val (.int (1 : Int32))] [(.int (1 : Int32))])) _
        refine XS.goto X78.here hx rfl (pc0 := 135) (pc' := 139) rfl (hb hby at_135) (by decide) (by decide) ?_
        exact kt
      clear R79
      obtain ⟨fs, hr, hrun, hended, hR⟩ := Stand.leaveW (s := s) (vm₁ := T63.vm) X78 S63 (by rw [hh78]; exact hk63) (v := some (.int (1 : Int32))) (fun h => by rw [Bd.returns] at h; cases h)
      refine ⟨_, _, pre0 _ (R80 _ ?_), hrun, hended, _, _, rfl, ?_, hR.1, hR.2.1, hR.2.2.1, hR.2.2.2.mono (by decide) (by decide)⟩
      · exact retN X78 hx (t := .boolean) Bd.returns (by simp) (hb hby at_139) hr
      · show Q_rm_law Z p1 p2 cs vf h0 n0 _ T78.heap _
        rw [hh78]
        exact ⟨rfl, N78⟩
    · have R81 : ∀ tg, Steps p.tables e below (T78.setTop (mkF m 111 #[.val (.int p1), .val (.int p2), .val (.ref au), .val (.ref al), .val (.int cc), .val (.int (p2 &&& (15 : Int32))), .val (.int (1 : Int32)), .val (.int (own_hex cc)), .unset] [(.int (own_hex cc)), (.ref al), (.int cc)])) tg → Steps p.tables e below (s₁.setTop (mkF m 0 #[.val (.int p1), .val (.int p2), .unset, .unset, .unset, .unset, .unset, .unset, .unset] [])) tg := by
        intro tg kt
        refine R79 _ ?_
        show Steps p.tables e below (T78.setTop (mkF m 103 #[.val (.int p1), .val (.int p2), .val (.ref au), .val (.ref al), .val (.int cc), .val (.int (p2 &&& (15 : Int32))), .val (.int (1 : Int32)), .val (.int (own_hex cc)), .unset] [(.int (own_up (own_hex cc))), (.int cc)])) _
        refine XS.icmpNo X78.here hx rfl (hb hby at_103) rfl (feq (hu : ¬ (cc = (own_up (own_hex cc))))).1 ?_
        show Steps p.tables e below (T78.setTop (mkF m 106 #[.val (.int p1), .val (.int p2), .val (.ref au), .val (.ref al), .val (.int cc), .val (.int (p2 &&& (15 : Int32))), .val (.int (1 : Int32)), .val (.int (own_hex cc)), .unset] [])) _
        refine XS.iload X78.here hx rfl (hb hby at_106) rfl ?_
        show Steps p.tables e below (T78.setTop (mkF m 108 #[.val (.int p1), .val (.int p2), .val (.ref au), .val (.ref al), .val (.int cc), .val (.int (p2 &&& (15 : Int32))), .val (.int (1 : Int32)), .val (.int (own_hex cc)), .unset] [(.int cc)])) _
        refine XS.aloadN X78.here hx rfl (hb hby at_108) rfl rfl ?_
        show Steps p.tables e below (T78.setTop (mkF m 109 #[.val (.int p1), .val (.int p2), .val (.ref au), .val (.ref al), .val (.int cc), .val (.int (p2 &&& (15 : Int32))), .val (.int (1 : Int32)), .val (.int (own_hex cc)), .unset] [(.ref al), (.int cc)])) _
        refine XS.iload X78.here hx rfl (hb hby at_109) rfl ?_
        exact kt
      clear R79
      obtain ⟨cq82, kq82, q82a, q82b, q82c⟩ := isOf hZ hh78 Ea_al
      obtain ⟨_, _, ⟨T82, L82, k82, n82⟩, -, X82, ⟨Lc82, hQ82, l82, y82, z82⟩, st82⟩ := X78.virtualBack hx (y := (⟨"java/lang/String", "charAt", "(I)C"⟩ : MethodName)) (z := (⟨"java/lang/String", "charAt", "(I)C"⟩ : MethodName)) hown (mvT hZ (hw _ (List.mem_of_getElem? (i := 10) rfl))) (mvT hZ (hw _ (List.mem_of_getElem? (i := 11) rfl))) (notFace_of_selects (args := #[]) (mvT hZ (hw _ (List.mem_of_getElem? (i := 13) rfl)))) (mvT hZ (hw _ (List.mem_of_getElem? (i := 13) rfl))) (mvT hZ (hw _ (List.mem_of_getElem? (i := 12) rfl))) (by decide) (backOf (W := 1) (rm_cha l Z a0 hw [] al (own_hex cc) bl cs 16 (fun j => own_LL.getD j 0) ((own_hex cc)).toNatClampNeg vf h63 n0 Zs63 SC OL_63 hcs SF hvf Fc_al Fv_al Ea_al Va_al rn rl rfl rk) hZ (hw _ (List.mem_of_getElem? (i := 14) rfl)) (hw _ (List.mem_of_getElem? (i := 1) rfl)) (by decide) (by decide)) q82a q82c (g := (mkF m 111 #[.val (.int p1), .val (.int p2), .val (.ref au), .val (.ref al), .val (.int cc), .val (.int (p2 &&& (15 : Int32))), .val (.int (1 : Int32)), .val (.int (own_hex cc)), .unset] [(.int (own_hex cc)), (.ref al), (.int cc)])) rfl (by rw [hml]; rfl) (Steps.refl _) (argsL := [(.int (own_hex cc))]) (rest := [(.int cc)]) (lenOf pd_4 rfl) rfl (by show 2 * 0 + _ ≤ _; exact Nat.le_of_eq rfl) (hb hby at_111) (fun _ _ => ⟨rfl, hh78, (by decide : 4 + 0 ≤ _), (by decide : 136 + 0 ≤ _)⟩)
      dsimp only [Pt.U, Pt.locs, Pt.cells, Pt.slots] at X82 l82 y82 z82 st82 hQ82
      rw [l82, y82, z82] at X82
      obtain ⟨rfl, N82q, hh82⟩ := hQ82
      have N82 := Fr.app N78 N82q
      have R83 : ∀ tg, Steps p.tables e below (T82.setTop (mkF m 139 #[.val (.int p1), .val (.int p2), .val (.ref au), .val (.ref al), .val (.int cc), .val (.int (p2 &&& (15 : Int32))), .val (.int (1 : Int32)), .val (.int (own_hex cc)), .val (.int (1 : Int32))] [(.int (1 : Int32))])) tg → Steps p.tables e below (s₁.setTop (mkF m 0 #[.val (.int p1), .val (.int p2), .unset, .unset, .unset, .unset, .unset, .unset, .unset] [])) tg := by
        intro tg kt
        refine R81 _ ?_
        refine st82.trans ?_
        show Steps p.tables e below (T82.setTop (mkF m 114 #[.val (.int p1), .val (.int p2), .val (.ref au), .val (.ref al), .val (.int cc), .val (.int (p2 &&& (15 : Int32))), .val (.int (1 : Int32)), .val (.int (own_hex cc)), .unset] [(.int (own_lo (own_hex cc))), (.int cc)])) _
        refine XS.icmpNo X82.here hx rfl (hb hby at_114) rfl (teq (ro.resolve_left hu : cc = (own_lo (own_hex cc)))).2 ?_
        show Steps p.tables e below (T82.setTop (mkF m 117 #[.val (.int p1), .val (.int p2), .val (.ref au), .val (.ref al), .val (.int cc), .val (.int (p2 &&& (15 : Int32))), .val (.int (1 : Int32)), .val (.int (own_hex cc)), .unset] [])) _
        refine XS.iconst X82.here hx rfl (hb hby at_117) ?_
        show Steps p.tables e below (T82.setTop (mkF m 118 #[.val (.int p1), .val (.int p2), .val (.ref au), .val (.ref al), .val (.int cc), .val (.int (p2 &&& (15 : Int32))), .val (.int (1 : Int32)), .val (.int (own_hex cc)), .unset] [(.int (1 : Int32))])) _
        refine XS.goto X82.here hx rfl (pc0 := 118) (pc' := 122) rfl (hb hby at_118) (by decide) (by decide) ?_
        show Steps p.tables e below (T82.setTop (mkF m 122 #[.val (.int p1), .val (.int p2), .val (.ref au), .val (.ref al), .val (.int cc), .val (.int (p2 &&& (15 : Int32))), .val (.int (1 : Int32)), .val (.int (own_hex cc)), .unset] [(.int (1 : Int32))])) _
        refine XS.istore X82.here hx rfl (hb hby at_122) rfl (l' := #[.val (.int p1), .val (.int p2), .val (.ref au), .val (.ref al), .val (.int cc), .val (.int (p2 &&& (15 : Int32))), .val (.int (1 : Int32)), .val (.int (own_hex cc)), .val (.int (1 : Int32))]) rfl ?_
        show Steps p.tables e below (T82.setTop (mkF m 124 #[.val (.int p1), .val (.int p2), .val (.ref au), .val (.ref al), .val (.int cc), .val (.int (p2 &&& (15 : Int32))), .val (.int (1 : Int32)), .val (.int (own_hex cc)), .val (.int (1 : Int32))] [])) _
        refine XS.iload X82.here hx rfl (hb hby at_124) rfl ?_
        show Steps p.tables e below (T82.setTop (mkF m 126 #[.val (.int p1), .val (.int p2), .val (.ref au), .val (.ref al), .val (.int cc), .val (.int (p2 &&& (15 : Int32))), .val (.int (1 : Int32)), .val (.int (own_hex cc)), .val (.int (1 : Int32))] [(.int (1 : Int32))])) _
        refine XS.ifNo X82.here hx rfl (hb hby at_126) rfl ((if0 _ _).trans (feq (by decide : ¬ ((1 : Int32) = (0 : Int32)))).1) ?_
        show Steps p.tables e below (T82.setTop (mkF m 129 #[.val (.int p1), .val (.int p2), .val (.ref au), .val (.ref al), .val (.int cc), .val (.int (p2 &&& (15 : Int32))), .val (.int (1 : Int32)), .val (.int (own_hex cc)), .val (.int (1 : Int32))] [])) _
        refine XS.iload X82.here hx rfl (hb hby at_129) rfl ?_
        show Steps p.tables e below (T82.setTop (mkF m 131 #[.val (.int p1), .val (.int p2), .val (.ref au), .val (.ref al), .val (.int cc), .val (.int (p2 &&& (15 : Int32))), .val (.int (1 : Int32)), .val (.int (own_hex cc)), .val (.int (1 : Int32))] [(.int (1 : Int32))])) _
        refine XS.ifNo X82.here hx rfl (hb hby at_131) rfl ((if0 _ _).trans (feq (by decide : ¬ ((1 : Int32) = (0 : Int32)))).1) ?_
        show Steps p.tables e below (T82.setTop (mkF m 134 #[.val (.int p1), .val (.int p2), .val (.ref au), .val (.ref al), .val (.int cc), .val (.int (p2 &&& (15 : Int32))), .val (.int (1 : Int32)), .val (.int (own_hex cc)), .val (.int (1 : Int32))] [])) _
        refine XS.iconst X82.here hx rfl (hb hby at_134) ?_
        show Steps p.tables e below (T82.setTop (mkF m 135 #[.val (.int p1), .val (.int p2), .val (.ref au), .val (.ref al), .val (.int cc), .val (.int (p2 &&& (15 : Int32))), .val (.int (1 : Int32)), .val (.int (own_hex cc)), .val (.int (1 : Int32))] [(.int (1 : Int32))])) _
        refine XS.goto X82.here hx rfl (pc0 := 135) (pc' := 139) rfl (hb hby at_135) (by decide) (by decide) ?_
        exact kt
      clear R81 st82
      obtain ⟨fs, hr, hrun, hended, hR⟩ := Stand.leaveW (s := s) (vm₁ := T63.vm) X82 S63 (by rw [hh82]; exact hk63) (v := some (.int (1 : Int32))) (fun h => by rw [Bd.returns] at h; cases h)
      refine ⟨_, _, pre0 _ (R83 _ ?_), hrun, hended, _, _, rfl, ?_, hR.1, hR.2.1, hR.2.2.1, hR.2.2.2.mono (by decide) (by decide)⟩
      · exact retN X82 hx (t := .boolean) Bd.returns (by simp) (hb hby at_139) hr
      · show Q_rm_law Z p1 p2 cs vf h0 n0 _ T82.heap _
        rw [hh82]
        exact ⟨rfl, N82⟩
set_option maxRecDepth 65536 in
set_option maxHeartbeats 40000000 in
theorem comes_1 {Post : Tables → Env → Array Value → State → Outcome → State → Prop} (hpost : ∀ tb e args s v u, (limb_1_1.after args s (.returned v) u = true ∧ limb_1_2.after args s (.returned v) u = true ∧ True) → FramedW s (.returned v) u (Jvm.fieldLocs frame_1_writes args s ++ Jvm.arrayLocs frame_1_arrays args s ++ Jvm.staticLocs frame_1_statics s) 8 2112 → Post tb e args s (.returned v) u) :
    ArmFor flags0 classFile x code maxLocals ret World_1 tables_1 room_1 Calls_1 rest_1 Pre_1 Post := by
  intro l hfl _ _ p e ha hc hk s m args below hf hA hF happ hP
  obtain ⟨hcalls, hrest, hpre⟩ := hP
  obtain ⟨-, -, -, hnamed, -, -, -, hat⟩ := (Spec.applies_iff hf).mp happ
  obtain ⟨hg, hn⟩ := and_e (Cond.before_iff.mp (show (Jvm.Cond.and given_1 narrow_1).before args s = true from hpre))
  obtain ⟨gc, gr0⟩ := and_e hg
  obtain ⟨ga0, gr1⟩ := and_e gr0
  obtain ⟨w0, w1, rfl⟩ : ∃ w0 w1 : Value, args = #[w0, w1] := by
    have hs : args.size = 2 := by simpa [Cond.value, given_1] using gc
    obtain ⟨L⟩ := args
    match L, hs with
    | [w0, w1], _ => exact ⟨w0, w1, rfl⟩
  have hw := fun d (hd : d ∈ tables_1) => atoms_spec (ws := Jvm.Cond.code x code maxLocals ret :: tables_1) hat d (List.mem_cons_of_mem _ hd)
  have hfit : Fit s := fun {y c} hc i hi => by
    obtain ⟨ha, rfl⟩ := Array.getElem?_eq_some_iff.mp hc
    have q := List.all_eq_true.mp ((Array.all_eq_true_iff_forall_mem.mp hF) _ (Array.getElem_mem ha)) i (List.mem_range.mpr hi)
    simpa [Array.getElem?_eq_getElem hi] using q
  obtain ⟨hsets, hown0⟩ := atoms_of _ (rest_1_c_eq ▸ (show rest_1_c.before _ s = true from hrest))
  have hr0 := Cond.before_iff.mp hown0
  obtain ⟨i0, ei0⟩ := is_v ga0
  obtain rfl : w0 = (.int i0) := Option.some.inj ei0
  obtain ⟨i1, ei1⟩ := is_v gr1
  obtain rfl : w1 = (.int i1) := Option.some.inj ei1
  obtain ⟨cs, ecs⟩ := is_v (Cond.before_iff.mp (hsets _ (List.mem_of_getElem? (i := 1) rfl)))
  have SC := Sta.start ecs (Or.inl (hsets _ (List.mem_of_getElem? (i := 0) rfl)))
  have hcs : ¬ (cs = (0 : Int32)) := gotF (Cond.eq_ints ecs (Term.int_eval (0))) (not_v (Cond.before_iff.mp (hsets _ (List.mem_of_getElem? (i := 2) rfl))))
  obtain ⟨vf, evf, hvf⟩ := isR_v (Cond.before_iff.mp (hsets _ (List.mem_of_getElem? (i := 8) rfl)))
  have SF := Sta.start evf (Or.inl (hsets _ (List.mem_of_getElem? (i := 7) rfl)))
  obtain ⟨n, o, h1, h2, h3, _, L, rfl, ⟨rfl, N⟩, hq⟩ := rm_law l s _ hw tables_1 i0 i1 cs vf s.heap s.heap.size (Nat.le_refl _) SC (Old.start s) hcs SF hvf (hcalls.1 _ (List.mem_of_getElem? (i := 0) rfl)) (hcalls.1 _ (List.mem_of_getElem? (i := 1) rfl)) (hsets _ (List.mem_of_getElem? (i := 2) rfl)) p e ha hc hk s m _ below hf ((Spec.applies_iff_loose hf).mp happ).1 ⟨rfl, State.Warmed39.refl s, rfl, IB.start⟩ trivial
  refine ⟨n, _, h1, h2, h3, hpost _ _ _ _ _ _ ⟨Cond.after_iff.mpr rfl, Cond.after_iff.mpr (eq_i res_at (Term.int_eval (1)) rfl), trivial⟩ ⟨hq.1, hq.2.1, hq.2.2.1, (hq.2.2.2.sift fun y hy => Or.inr (N y hy)).mono (by decide) (by decide)⟩⟩
theorem main_1_1 : Claimed_1_1 := comes_1 fun _ _ _ _ _ _ h hF => ⟨h.1, hF⟩
theorem main_1_2 : Claimed_1_2 := comes_1 fun _ _ _ _ _ _ h hF => ⟨h.2.1, hF⟩
end Jvm.Pilot.@@N@@
namespace Jvm.Pilot.@@N@@
open Jvm Jvm.ClassFile Sem Op Lib Jvm.Free Jvm.Stand Jvm.Pilot.@@N@@.Jvm.D
/-! MADE BY PROGRAM (witnessworld.py) out of the Statement's table words and the real class files: 17 classes; the members and pool entries that the words name. The judged class is class 1, her method 1. -/
namespace start1
open Jvm.ClassFile
def u (s : String) : CpInfo := .utf8 (stringToUtf16 s)
/-- a pool by its gaps: so many unusable entries, then the entry; so many at the end -/
def gap : Nat → List CpInfo → List CpInfo
  | 0, r => r
  | n + 1, r => .unusable :: gap n r
def poolList (es : List (Nat × CpInfo)) (last : Nat) : List CpInfo := es.foldr (fun e r => gap e.1 (e.2 :: r)) (gap last [])
def pool (es : List (Nat × CpInfo)) (last : Nat) : Array CpInfo := ⟨poolList es last⟩
def fileOf (pool : Array CpInfo) (this : Nat) (attrs : Array Attribute := #[]) (ms : Array MethodInfo := #[]) (fl : Nat := 33) (sup : Nat := 0) (ifs : Array Nat := #[]) (fds : Array FieldInfo := #[]) : ClassFile where
  minorVersion := 0
  majorVersion := 65
  constantPool := pool
  accessFlags := fl
  thisClass := this
  superClass := sup
  interfaces := ifs
  fields := fds
  methods := ms
  attributes := attrs
def plain (name : String) (sup : Option ClassId) : Class where
  name := name
  kind := .ordinary
  loader := none
  accessFlags := 33
  super := sup
  interfaces := #[]
  cf := none
  fields := #[]
  methods := #[]
  instanceTypes := #[]
  staticTypes := #[]
  resolved := #[]
  callSites := []
  init := .initialized
  statics := none
  mirror := none

def pool0 : Array CpInfo := pool [(5, u "<init>"), (0, u "()V"), (1, .class_ 10), (1, u "java/lang/Object")] 113

def k0m0 : Method := { name := "<init>", desc := "()V", sig := { parameters := [], returnType := none }, accessFlags := 1, code := none }
/-- java/lang/Object -/
def k0 : Class := { plain "java/lang/Object" none with
  accessFlags := 33
  interfaces := #[]
  cf := some (fileOf pool0 8 #[] #[{ accessFlags := 1, nameIndex := 5, descriptorIndex := 6, attributes := #[] }] 33 0 #[] #[])
  fields := #[]
  methods := #[k0m0]
  instanceTypes := #[]
  staticTypes := #[]
  resolved := Array.replicate 124 none
  statics := none }

def pool1 : Array CpInfo := pool [(2, .class_ 4), (1, u "java/lang/Object"), (0, u "<init>"), (0, u "()V"), (0, .string 8), (0, u "0123456789ABCDEF"), (0, .string 10), (0, u "0123456789abcdef"), (0, .integer 65535), (0, .methodref 13 14), (0, .class_ 15), (0, .nameAndType 16 17), (0, u "java/lang/String"), (0, u "charAt"), (0, u "(I)C"), (0, .methodref 19 20), (0, .class_ 21), (0, .nameAndType 22 23), (0, u "com/example/archivolt/archivolt/core/uri/PathSegment"), (0, u "hexValue"), (0, u "(C)I"), (0, .class_ 25), (0, u "com/example/archivolt/archivolt/core/uri/PathSegmentHexValuePinLaw"), (2, u "law"), (0, u "(II)Z")] 3

def k1m0 : Method := { name := "<init>", desc := "()V", sig := { parameters := [], returnType := none }, accessFlags := 1, code := none }
def k1c1 : Code := { maxStack := 3, maxLocals := 9, code := code, exceptionTable := #[], attributes := #[] }
def k1m1 : Method := { name := "law", desc := "(II)Z", sig := { parameters := [.int, .int], returnType := some .boolean }, accessFlags := 9, code := some k1c1 }
/-- com/example/archivolt/archivolt/core/uri/PathSegmentHexValuePinLaw -/
def k1 : Class := { plain "com/example/archivolt/archivolt/core/uri/PathSegmentHexValuePinLaw" (some 0) with
  accessFlags := 49
  interfaces := #[]
  cf := some (fileOf pool1 24 #[] #[{ accessFlags := 1, nameIndex := 5, descriptorIndex := 6, attributes := #[] }, { accessFlags := 9, nameIndex := 28, descriptorIndex := 29, attributes := #[] }] 49 2 #[] #[])
  fields := #[]
  methods := #[k1m0, k1m1]
  instanceTypes := #[]
  staticTypes := #[]
  resolved := Array.replicate 33 none
  statics := none }

def pool2 : Array CpInfo := pool [(1, .class_ 2), (0, u "java/io/Serializable"), (0, .class_ 4), (0, u "java/lang/Object")] 2

/-- java/io/Serializable -/
def k2 : Class := { plain "java/io/Serializable" (some 0) with
  accessFlags := 1537
  interfaces := #[]
  cf := some (fileOf pool2 1 #[] #[] 1537 3 #[] #[])
  fields := #[]
  methods := #[]
  instanceTypes := #[]
  staticTypes := #[]
  resolved := Array.replicate 7 none
  statics := none }

def pool3 : Array CpInfo := pool [(1, .class_ 2), (0, u "java/lang/Comparable"), (0, .class_ 4), (0, u "java/lang/Object")] 7

/-- java/lang/Comparable -/
def k3 : Class := { plain "java/lang/Comparable" (some 0) with
  accessFlags := 1537
  interfaces := #[]
  cf := some (fileOf pool3 1 #[] #[] 1537 3 #[] #[])
  fields := #[]
  methods := #[]
  instanceTypes := #[]
  staticTypes := #[]
  resolved := Array.replicate 12 none
  statics := none }

def pool4 : Array CpInfo := pool [(2, .class_ 4), (1, u "java/lang/CharSequence"), (42, .class_ 48), (0, u "java/lang/CharSequence$1CodePointIterator"), (10, .class_ 60), (0, u "java/lang/CharSequence$1CharIterator"), (5, .class_ 67), (0, u "java/lang/Object")] 63

/-- java/lang/CharSequence -/
def k4 : Class := { plain "java/lang/CharSequence" (some 0) with
  accessFlags := 1537
  interfaces := #[]
  cf := some (fileOf pool4 2 #[.nestMembers #[47, 59]] #[] 1537 66 #[] #[])
  fields := #[]
  methods := #[]
  instanceTypes := #[]
  staticTypes := #[]
  resolved := Array.replicate 131 none
  statics := none }

def pool5 : Array CpInfo := pool [(1, .class_ 2), (0, u "java/lang/constant/Constable"), (0, .class_ 4), (0, u "java/lang/Object")] 6

/-- java/lang/constant/Constable -/
def k5 : Class := { plain "java/lang/constant/Constable" (some 0) with
  accessFlags := 1537
  interfaces := #[]
  cf := some (fileOf pool5 1 #[] #[] 1537 3 #[] #[])
  fields := #[]
  methods := #[]
  instanceTypes := #[]
  staticTypes := #[]
  resolved := Array.replicate 11 none
  statics := none }

def pool6 : Array CpInfo := pool [(1, .class_ 2), (0, u "java/lang/constant/ConstantDesc"), (0, .class_ 4), (0, u "java/lang/Object")] 32

/-- java/lang/constant/ConstantDesc -/
def k6 : Class := { plain "java/lang/constant/ConstantDesc" (some 0) with
  accessFlags := 1537
  interfaces := #[]
  cf := some (fileOf pool6 1 #[] #[] 1537 3 #[] #[])
  fields := #[]
  methods := #[]
  instanceTypes := #[]
  staticTypes := #[]
  resolved := Array.replicate 37 none
  statics := none }

def pool7 : Array CpInfo := pool [(2, .class_ 4), (1, u "java/lang/Object"), (0, u "<init>"), (0, u "()V"), (2, .fieldref 10 11), (0, .class_ 12), (0, .nameAndType 13 14), (0, u "java/lang/String"), (0, u "value"), (0, u "[B"), (0, .fieldref 10 16), (0, .nameAndType 17 18), (0, u "coder"), (0, u "B"), (2, u "hash"), (0, u "I"), (2, u "hashIsZero"), (0, u "Z"), (11, .fieldref 10 39), (0, .nameAndType 40 26), (0, u "COMPACT_STRINGS"), (66, .class_ 109), (1, u "java/lang/StringLatin1"), (32, u "()Z"), (220, u "([BI)C"), (27, u "(II)V"), (35, u "(I)C"), (64, .methodref 10 493), (0, .nameAndType 494 142), (0, u "isLatin1"), (0, .methodref 107 496), (0, .nameAndType 497 363), (0, u "charAt"), (3, u "checkIndex"), (73, .class_ 576), (0, u "java/lang/CharSequence"), (22, u "CASE_INSENSITIVE_ORDER"), (0, u "Ljava/util/Comparator;"), (452, .fieldref 1054 1055), (0, .class_ 1056), (0, .nameAndType 1057 1058), (0, u "jdk/internal/util/Preconditions"), (0, u "SIOOBE_FORMATTER"), (0, u "Ljava/util/function/BiFunction;"), (0, .methodref 1054 1060), (0, .nameAndType 501 1061), (0, u "(IILjava/util/function/BiFunction;)I"), (39, u "serialPersistentFields"), (0, u "[Ljava/io/ObjectStreamField;"), (0, .class_ 1104), (0, u "java/lang/String$CaseInsensitiveComparator"), (1, .class_ 1107), (0, u "java/io/Serializable"), (0, .class_ 1109), (0, u "java/lang/Comparable"), (0, .class_ 1111), (0, u "java/lang/constant/Constable"), (0, .class_ 1113), (0, u "java/lang/constant/ConstantDesc"), (2, u "serialVersionUID"), (0, u "J"), (3, u "REPL"), (0, u "C"), (2, u "LATIN1"), (1, u "UTF16")] 323

def k7m0 : Method := { name := "<init>", desc := "()V", sig := { parameters := [], returnType := none }, accessFlags := 1, code := none }
def k7c1 : Code := { maxStack := 2, maxLocals := 2, code := jdk_42_method_56_code, exceptionTable := #[], attributes := #[] }
def k7m1 : Method := { name := "charAt", desc := "(I)C", sig := { parameters := [.int], returnType := some .char }, accessFlags := 1, code := some k7c1 }
def k7c2 : Code := { maxStack := 1, maxLocals := 1, code := jdk_42_method_154_code, exceptionTable := #[], attributes := #[] }
def k7m2 : Method := { name := "isLatin1", desc := "()Z", sig := { parameters := [], returnType := some .boolean }, accessFlags := 0, code := some k7c2 }
def k7c3 : Code := { maxStack := 3, maxLocals := 2, code := jdk_42_method_155_code, exceptionTable := #[], attributes := #[] }
def k7m3 : Method := { name := "checkIndex", desc := "(II)V", sig := { parameters := [.int, .int], returnType := none }, accessFlags := 8, code := some k7c3 }
/-- java/lang/String -/
def k7 : Class := { plain "java/lang/String" (some 0) with
  accessFlags := 49
  interfaces := #[2, 3, 4, 5, 6]
  cf := some (fileOf pool7 10 #[.nestMembers #[1103]] #[{ accessFlags := 1, nameIndex := 5, descriptorIndex := 6, attributes := #[] }, { accessFlags := 1, nameIndex := 497, descriptorIndex := 427, attributes := #[] }, { accessFlags := 0, nameIndex := 494, descriptorIndex := 142, attributes := #[] }, { accessFlags := 8, nameIndex := 501, descriptorIndex := 391, attributes := #[] }] 49 2 #[1106, 1108, 575, 1110, 1112] #[{ accessFlags := 18, nameIndex := 13, descriptorIndex := 14, attributes := #[] }, { accessFlags := 18, nameIndex := 17, descriptorIndex := 18, attributes := #[] }, { accessFlags := 2, nameIndex := 21, descriptorIndex := 22, attributes := #[] }, { accessFlags := 2, nameIndex := 25, descriptorIndex := 26, attributes := #[] }, { accessFlags := 26, nameIndex := 1116, descriptorIndex := 1117, attributes := #[] }, { accessFlags := 24, nameIndex := 40, descriptorIndex := 26, attributes := #[] }, { accessFlags := 26, nameIndex := 1101, descriptorIndex := 1102, attributes := #[] }, { accessFlags := 26, nameIndex := 1121, descriptorIndex := 1122, attributes := #[] }, { accessFlags := 25, nameIndex := 599, descriptorIndex := 600, attributes := #[] }, { accessFlags := 24, nameIndex := 1125, descriptorIndex := 18, attributes := #[] }, { accessFlags := 24, nameIndex := 1127, descriptorIndex := 18, attributes := #[] }])
  fields := #[{ name := "value", type := (.array .byte), accessFlags := 18, slot := 0, constantValue := 0 }, { name := "coder", type := .byte, accessFlags := 18, slot := 1, constantValue := 0 }, { name := "hash", type := .int, accessFlags := 2, slot := 2, constantValue := 0 }, { name := "hashIsZero", type := .boolean, accessFlags := 2, slot := 3, constantValue := 0 }, { name := "serialVersionUID", type := .long, accessFlags := 26, slot := 0, constantValue := 0 }, { name := "COMPACT_STRINGS", type := .boolean, accessFlags := 24, slot := 1, constantValue := 0 }, { name := "serialPersistentFields", type := (.array (.object "java/io/ObjectStreamField")), accessFlags := 26, slot := 2, constantValue := 0 }, { name := "REPL", type := .char, accessFlags := 26, slot := 3, constantValue := 0 }, { name := "CASE_INSENSITIVE_ORDER", type := (.object "java/util/Comparator"), accessFlags := 25, slot := 4, constantValue := 0 }, { name := "LATIN1", type := .byte, accessFlags := 24, slot := 5, constantValue := 0 }, { name := "UTF16", type := .byte, accessFlags := 24, slot := 6, constantValue := 0 }]
  methods := #[k7m0, k7m1, k7m2, k7m3]
  instanceTypes := #[(.array .byte), .byte, .int, .boolean]
  staticTypes := #[.long, .boolean, (.array (.object "java/io/ObjectStreamField")), .char, (.object "java/util/Comparator"), .byte, .byte]
  resolved := Array.replicate 1451 none
  statics := some 0 }

def pool8 : Array CpInfo := pool [(1, .class_ 2), (0, u "java/lang/String"), (1, .class_ 6), (1, u "java/lang/Object"), (0, u "<init>"), (0, u "()V"), (0, .methodref 1 10), (0, .nameAndType 11 12), (0, u "checkIndex"), (0, u "(II)V"), (1, .class_ 16), (1, u "java/lang/StringLatin1"), (36, u "([BI)C"), (67, u "$assertionsDisabled"), (0, u "Z"), (98, .class_ 223), (1, u "java/lang/StringLatin1$LinesSpliterator"), (28, u "charAt"), (137, .class_ 391), (0, u "java/lang/StringLatin1$CharsSpliterator")] 3

def k8m0 : Method := { name := "<init>", desc := "()V", sig := { parameters := [], returnType := none }, accessFlags := 0, code := none }
def k8c1 : Code := { maxStack := 2, maxLocals := 2, code := jdk_43_method_2_code, exceptionTable := #[], attributes := #[] }
def k8m1 : Method := { name := "charAt", desc := "([BI)C", sig := { parameters := [(.array .byte), .int], returnType := some .char }, accessFlags := 9, code := some k8c1 }
/-- java/lang/StringLatin1 -/
def k8 : Class := { plain "java/lang/StringLatin1" (some 0) with
  accessFlags := 48
  interfaces := #[]
  cf := some (fileOf pool8 14 #[.nestMembers #[390, 221]] #[{ accessFlags := 0, nameIndex := 7, descriptorIndex := 8, attributes := #[] }, { accessFlags := 9, nameIndex := 252, descriptorIndex := 53, attributes := #[] }] 48 4 #[] #[{ accessFlags := 4120, nameIndex := 121, descriptorIndex := 122, attributes := #[] }])
  fields := #[{ name := "$assertionsDisabled", type := .boolean, accessFlags := 4120, slot := 0, constantValue := 0 }]
  methods := #[k8m0, k8m1]
  instanceTypes := #[]
  staticTypes := #[.boolean]
  resolved := Array.replicate 395 none
  statics := none }

def pool9 : Array CpInfo := pool [(2, .class_ 4), (1, u "java/lang/Object"), (0, u "<init>"), (0, u "()V"), (17, .class_ 26), (1, u "jdk/internal/util/Preconditions"), (6, u "checkIndex"), (21, .class_ 56), (0, u "jdk/internal/util/Preconditions$4"), (57, .class_ 115), (0, u "jdk/internal/util/Preconditions$1"), (7, u "SIOOBE_FORMATTER"), (0, u "Ljava/util/function/BiFunction;"), (0, .class_ 126), (0, u "jdk/internal/util/Preconditions$2"), (3, u "AIOOBE_FORMATTER"), (0, .class_ 132), (0, u "jdk/internal/util/Preconditions$3"), (3, u "IOOBE_FORMATTER"), (41, u "(IILjava/util/function/BiFunction;)I")] 15

def k9m0 : Method := { name := "<init>", desc := "()V", sig := { parameters := [], returnType := none }, accessFlags := 1, code := none }
def k9c1 : Code := { maxStack := 3, maxLocals := 3, code := jdk_41_method_11_code, exceptionTable := #[], attributes := #[] }
def k9m1 : Method := { name := "checkIndex", desc := "(IILjava/util/function/BiFunction;)I", sig := { parameters := [.int, .int, (.object "java/util/function/BiFunction")], returnType := some .int }, accessFlags := 9, code := some k9c1 }
/-- jdk/internal/util/Preconditions -/
def k9 : Class := { plain "jdk/internal/util/Preconditions" (some 0) with
  accessFlags := 33
  interfaces := #[]
  cf := some (fileOf pool9 24 #[.nestMembers #[55, 131, 125, 114]] #[{ accessFlags := 1, nameIndex := 5, descriptorIndex := 6, attributes := #[] }, { accessFlags := 9, nameIndex := 33, descriptorIndex := 178, attributes := #[] }] 33 2 #[] #[{ accessFlags := 25, nameIndex := 123, descriptorIndex := 124, attributes := #[] }, { accessFlags := 25, nameIndex := 130, descriptorIndex := 124, attributes := #[] }, { accessFlags := 25, nameIndex := 136, descriptorIndex := 124, attributes := #[] }])
  fields := #[{ name := "SIOOBE_FORMATTER", type := (.object "java/util/function/BiFunction"), accessFlags := 25, slot := 0, constantValue := 0 }, { name := "AIOOBE_FORMATTER", type := (.object "java/util/function/BiFunction"), accessFlags := 25, slot := 1, constantValue := 0 }, { name := "IOOBE_FORMATTER", type := (.object "java/util/function/BiFunction"), accessFlags := 25, slot := 2, constantValue := 0 }]
  methods := #[k9m0, k9m1]
  instanceTypes := #[]
  staticTypes := #[(.object "java/util/function/BiFunction"), (.object "java/util/function/BiFunction"), (.object "java/util/function/BiFunction")]
  resolved := Array.replicate 194 none
  statics := some 1 }

def pool10 : Array CpInfo := pool [(2, .class_ 4), (1, u "java/lang/Object"), (0, u "<init>"), (0, u "()V"), (5, .class_ 14), (1, u "com/example/archivolt/archivolt/core/uri/PathSegment"), (88, u "hexValue"), (0, u "(C)I"), (75, u "HEX"), (0, u "[C")] 41

def k10m0 : Method := { name := "<init>", desc := "()V", sig := { parameters := [], returnType := none }, accessFlags := 2, code := none }
def k10c1 : Code := { maxStack := 2, maxLocals := 1, code := prog_17_method_8_code, exceptionTable := #[], attributes := #[] }
def k10m1 : Method := { name := "hexValue", desc := "(C)I", sig := { parameters := [.char], returnType := some .int }, accessFlags := 8, code := some k10c1 }
/-- com/example/archivolt/archivolt/core/uri/PathSegment -/
def k10 : Class := { plain "com/example/archivolt/archivolt/core/uri/PathSegment" (some 0) with
  accessFlags := 49
  interfaces := #[]
  cf := some (fileOf pool10 12 #[] #[{ accessFlags := 2, nameIndex := 5, descriptorIndex := 6, attributes := #[] }, { accessFlags := 8, nameIndex := 103, descriptorIndex := 104, attributes := #[] }] 49 2 #[] #[{ accessFlags := 26, nameIndex := 180, descriptorIndex := 181, attributes := #[] }])
  fields := #[{ name := "HEX", type := (.array .char), accessFlags := 26, slot := 0, constantValue := 0 }]
  methods := #[k10m0, k10m1]
  instanceTypes := #[]
  staticTypes := #[(.array .char)]
  resolved := Array.replicate 223 none
  statics := none }

def pool11 : Array CpInfo := pool [(9, u "<init>"), (6, .class_ 18), (1, u "java/lang/Object"), (0, u "()V"), (1, .class_ 23), (1, u "jdk/internal/util/ArraysSupport"), (0, u "LOG2_ARRAY_LONG_INDEX_SCALE"), (0, u "I"), (2, u "U"), (0, u "Ljdk/internal/misc/Unsafe;"), (8, u "BIG_ENDIAN"), (0, u "Z"), (8, u "LOG2_BYTE_BIT_SIZE"), (4, u "LOG2_ARRAY_INT_INDEX_SCALE"), (54, u "JLA"), (0, u "Ljdk/internal/access/JavaLangAccess;"), (11, u "LOG2_ARRAY_BOOLEAN_INDEX_SCALE"), (9, u "LOG2_ARRAY_BYTE_INDEX_SCALE"), (5, u "LOG2_ARRAY_CHAR_INDEX_SCALE"), (5, u "LOG2_ARRAY_SHORT_INDEX_SCALE"), (18, u "LOG2_ARRAY_FLOAT_INDEX_SCALE"), (24, u "LOG2_ARRAY_DOUBLE_INDEX_SCALE"), (89, u "T_BOOLEAN"), (2, u "T_CHAR"), (1, u "T_FLOAT"), (1, u "T_DOUBLE"), (1, u "T_BYTE"), (1, u "T_SHORT"), (1, u "T_INT"), (1, u "T_LONG"), (1, u "SOFT_MAX_ARRAY_LENGTH")] 83

def k11m0 : Method := { name := "<init>", desc := "()V", sig := { parameters := [], returnType := none }, accessFlags := 2, code := none }
/-- jdk/internal/util/ArraysSupport -/
def k11 : Class := { plain "jdk/internal/util/ArraysSupport" (some 0) with
  accessFlags := 33
  interfaces := #[]
  cf := some (fileOf pool11 21 #[] #[{ accessFlags := 2, nameIndex := 9, descriptorIndex := 19, attributes := #[] }] 33 16 #[] #[{ accessFlags := 24, nameIndex := 28, descriptorIndex := 29, attributes := #[] }, { accessFlags := 26, nameIndex := 38, descriptorIndex := 39, attributes := #[] }, { accessFlags := 25, nameIndex := 121, descriptorIndex := 25, attributes := #[] }, { accessFlags := 25, nameIndex := 131, descriptorIndex := 25, attributes := #[] }, { accessFlags := 25, nameIndex := 137, descriptorIndex := 25, attributes := #[] }, { accessFlags := 25, nameIndex := 143, descriptorIndex := 25, attributes := #[] }, { accessFlags := 25, nameIndex := 53, descriptorIndex := 25, attributes := #[] }, { accessFlags := 25, nameIndex := 24, descriptorIndex := 25, attributes := #[] }, { accessFlags := 25, nameIndex := 162, descriptorIndex := 25, attributes := #[] }, { accessFlags := 25, nameIndex := 187, descriptorIndex := 25, attributes := #[] }, { accessFlags := 26, nameIndex := 48, descriptorIndex := 25, attributes := #[] }, { accessFlags := 25, nameIndex := 277, descriptorIndex := 25, attributes := #[] }, { accessFlags := 25, nameIndex := 280, descriptorIndex := 25, attributes := #[] }, { accessFlags := 25, nameIndex := 282, descriptorIndex := 25, attributes := #[] }, { accessFlags := 25, nameIndex := 284, descriptorIndex := 25, attributes := #[] }, { accessFlags := 25, nameIndex := 286, descriptorIndex := 25, attributes := #[] }, { accessFlags := 25, nameIndex := 288, descriptorIndex := 25, attributes := #[] }, { accessFlags := 25, nameIndex := 290, descriptorIndex := 25, attributes := #[] }, { accessFlags := 25, nameIndex := 292, descriptorIndex := 25, attributes := #[] }, { accessFlags := 26, nameIndex := 108, descriptorIndex := 109, attributes := #[] }, { accessFlags := 25, nameIndex := 294, descriptorIndex := 25, attributes := #[] }])
  fields := #[{ name := "U", type := (.object "jdk/internal/misc/Unsafe"), accessFlags := 24, slot := 0, constantValue := 0 }, { name := "BIG_ENDIAN", type := .boolean, accessFlags := 26, slot := 1, constantValue := 0 }, { name := "LOG2_ARRAY_BOOLEAN_INDEX_SCALE", type := .int, accessFlags := 25, slot := 2, constantValue := 0 }, { name := "LOG2_ARRAY_BYTE_INDEX_SCALE", type := .int, accessFlags := 25, slot := 3, constantValue := 0 }, { name := "LOG2_ARRAY_CHAR_INDEX_SCALE", type := .int, accessFlags := 25, slot := 4, constantValue := 0 }, { name := "LOG2_ARRAY_SHORT_INDEX_SCALE", type := .int, accessFlags := 25, slot := 5, constantValue := 0 }, { name := "LOG2_ARRAY_INT_INDEX_SCALE", type := .int, accessFlags := 25, slot := 6, constantValue := 0 }, { name := "LOG2_ARRAY_LONG_INDEX_SCALE", type := .int, accessFlags := 25, slot := 7, constantValue := 0 }, { name := "LOG2_ARRAY_FLOAT_INDEX_SCALE", type := .int, accessFlags := 25, slot := 8, constantValue := 0 }, { name := "LOG2_ARRAY_DOUBLE_INDEX_SCALE", type := .int, accessFlags := 25, slot := 9, constantValue := 0 }, { name := "LOG2_BYTE_BIT_SIZE", type := .int, accessFlags := 26, slot := 10, constantValue := 0 }, { name := "T_BOOLEAN", type := .int, accessFlags := 25, slot := 11, constantValue := 0 }, { name := "T_CHAR", type := .int, accessFlags := 25, slot := 12, constantValue := 0 }, { name := "T_FLOAT", type := .int, accessFlags := 25, slot := 13, constantValue := 0 }, { name := "T_DOUBLE", type := .int, accessFlags := 25, slot := 14, constantValue := 0 }, { name := "T_BYTE", type := .int, accessFlags := 25, slot := 15, constantValue := 0 }, { name := "T_SHORT", type := .int, accessFlags := 25, slot := 16, constantValue := 0 }, { name := "T_INT", type := .int, accessFlags := 25, slot := 17, constantValue := 0 }, { name := "T_LONG", type := .int, accessFlags := 25, slot := 18, constantValue := 0 }, { name := "JLA", type := (.object "jdk/internal/access/JavaLangAccess"), accessFlags := 26, slot := 19, constantValue := 0 }, { name := "SOFT_MAX_ARRAY_LENGTH", type := .int, accessFlags := 25, slot := 20, constantValue := 0 }]
  methods := #[k11m0]
  instanceTypes := #[]
  staticTypes := #[(.object "jdk/internal/misc/Unsafe"), .boolean, .int, .int, .int, .int, .int, .int, .int, .int, .int, .int, .int, .int, .int, .int, .int, .int, .int, (.object "jdk/internal/access/JavaLangAccess"), .int]
  resolved := Array.replicate 378 none
  statics := none }

def pool12 : Array CpInfo := pool [(1, u "java/lang/Cloneable"), (0, .class_ 1), (0, u "java/lang/Object"), (0, .class_ 3)] 3

/-- java/lang/Cloneable -/
def k12 : Class := { plain "java/lang/Cloneable" (some 0) with
  accessFlags := 1537
  interfaces := #[]
  cf := some (fileOf pool12 2 #[] #[] 1537 4 #[] #[])
  fields := #[]
  methods := #[]
  instanceTypes := #[]
  staticTypes := #[]
  resolved := Array.replicate 8 none
  statics := none }

/-- the primitive byte -/
def k13 : Class := { plain "byte" none with kind := .primitive 'B', accessFlags := 0x411 }
/-- [B -/
def k14 : Class := { plain "[B" (some 0) with kind := .array 13 .byte, interfaces := #[12, 2], accessFlags := 1041 }

/-- the primitive int -/
def k15 : Class := { plain "int" none with kind := .primitive 'I', accessFlags := 0x411 }
/-- [I -/
def k16 : Class := { plain "[I" (some 0) with kind := .array 15 .int, interfaces := #[12, 2], accessFlags := 1041 }

def heap : Heap := #[{ cls := 7, slots := #[.long 0, .int 1, .null, .int 0, .null, .int 0, .int 0], vm := .statics 7 },
  { cls := 9, slots := #[.null, .null, .null], vm := .statics 9 }]
def classes : Array Class := #[k0, k1, k2, k3, k4, k5, k6, k7, k8, k9, k10, k11, k12, k13, k14, k15, k16]
def interned : List (Array UInt16 × Addr) := []
def slotsUsed : Nat := 10
def theMethod : MethodId := ⟨1, 1⟩
def args0 : Array Value := #[.int 65, .int 3]
def aboutOver (below : List Frame) : State where
  vm := { classes := classes, interned := interned.toArray }
  heap := heap
  slotsUsed := slotsUsed
  threads := #[{ frames := .invoking theMethod args0 :: below }]
def below0 : List Frame := [.native { method := ⟨0, 0⟩, args := #[] }]
def about1 : State := aboutOver below0
def p0 : Program := .bare "" "" ""
def e0 : Env := launch0.env 0 0 0
theorem w_frames : about1.frames = Frame.invoking theMethod args0 :: below0 := rfl
set_option maxRecDepth 65536 in
theorem w_args : argsFit about1.vm theMethod args0 = true := by decide +kernel
set_option maxRecDepth 65536 in
theorem w_heap : heapFits about1 = true := by decide +kernel
set_option maxRecDepth 65536 in
theorem w_runnable : about1.curStatus? = some .runnable := by decide +kernel
set_option maxRecDepth 65536 in
theorem w_alone : about1.alone = true := by decide +kernel
set_option maxRecDepth 65536 in
theorem w_named : about1.methodNamed? x = some theMethod := by decide +kernel
set_option maxRecDepth 65536 in
theorem w_hears : about1.hears theMethod below0 = true := by decide +kernel
set_option maxRecDepth 65536 in
theorem w_ripe : about1.ripe theMethod args0 below0 = true := by decide +kernel
theorem w_running : about1.status = .running := rfl
set_option maxRecDepth 65536 in
theorem w_room : about1.hasRoom e0.platform room_1 = true :=
  launch0.hasRoom_least _ room_1 (by decide +kernel) (by decide +kernel) (by decide +kernel) (by decide +kernel) (by decide +kernel) (by decide +kernel)
theorem allAtoms_all (ts : List Jvm.Cond) (a : Array Jvm.Value) (st : Jvm.State) : (allAtoms ts).before a st = ts.all (fun c => c.before a st) := by
  induction ts with
  | nil => rfl
  | cons c t ih =>
    show (Jvm.Cond.and c (allAtoms t)).before a st = _
    rw [Jvm.Cond.before_and, ih, List.all_cons]
def words1 : List Jvm.Cond := Jvm.Cond.code x code maxLocals ret :: tables_1
/-- a 'code' word, met by the world's own term for the bytes: nothing is compared byte by byte -/
theorem code_word {y : MethodName} {bytes : ByteArray} {mx : Nat} {rt : Option FieldType} {a : Array Value} {s : State} {m : MethodId} {meth : Method} {c : Code} (h1 : s.methodNamed? y = some m) (h2 : s.vm.method? m = some meth) (h3 : meth.code = some c) (h4 : c.code = bytes)
    (h5 : (c.maxLocals == mx && c.exceptionTable.isEmpty && decide (c.maxStack ≤ mostOperands) && decide (meth.sig.returnType = rt) && !meth.locks && decide (parseMethodDescriptor y.desc = some meth.sig)) = true) : (Jvm.Cond.code y bytes mx rt).before a s = true := by
  simp only [Bool.and_eq_true, beq_iff_eq, Bool.not_eq_true', decide_eq_true_eq] at h5
  obtain ⟨⟨⟨⟨⟨g1, g2⟩, g3⟩, g4⟩, g5⟩, g6⟩ := h5
  simp [Cond.before, Cond.holds, Cond.value, h1, h2, h3, h4, g1, g2, g3, g4, g5, g6]
def isCode : Jvm.Cond → Bool
  | .code _ _ _ _ => true
  | _ => false
theorem all_split {L : List Jvm.Cond} {P : Jvm.Cond → Bool} (h1 : L.all (fun c => isCode c || P c) = true) (h2 : ∀ c ∈ L.filter isCode, P c = true) : L.all P = true := by
  refine List.all_eq_true.mpr fun c hc => ?_
  have h := List.all_eq_true.mp h1 c hc
  rcases Bool.eq_false_or_eq_true (isCode c) with hi | hi
  · exact h2 c (List.mem_filter.mpr ⟨hc, hi⟩)
  · simpa [hi] using h
set_option maxRecDepth 65536 in
theorem w_c0 : (Jvm.Cond.code x code maxLocals ret).before args0 about1 = true := code_word (m := ⟨1, 1⟩) (meth := k1m1) (c := k1c1) (by decide +kernel) rfl rfl rfl (by decide +kernel)
set_option maxRecDepth 65536 in
theorem w_c1 : (Jvm.Cond.code ({ cls := "java/lang/String", name := "charAt", desc := "(I)C" } : Jvm.MethodName) jdk_42_method_56_code (2 : Nat) (Option.some Jvm.ClassFile.FieldType.char)).before args0 about1 = true := code_word (m := ⟨7, 1⟩) (meth := k7m1) (c := k7c1) (by decide +kernel) rfl rfl rfl (by decide +kernel)
set_option maxRecDepth 65536 in
theorem w_c2 : (Jvm.Cond.code ({ cls := "java/lang/String", name := "isLatin1", desc := "()Z" } : Jvm.MethodName) jdk_42_method_154_code (1 : Nat) (Option.some Jvm.ClassFile.FieldType.boolean)).before args0 about1 = true := code_word (m := ⟨7, 2⟩) (meth := k7m2) (c := k7c2) (by decide +kernel) rfl rfl rfl (by decide +kernel)
set_option maxRecDepth 65536 in
theorem w_c3 : (Jvm.Cond.code ({ cls := "java/lang/StringLatin1", name := "charAt", desc := "([BI)C" } : Jvm.MethodName) jdk_43_method_2_code (2 : Nat) (Option.some Jvm.ClassFile.FieldType.char)).before args0 about1 = true := code_word (m := ⟨8, 1⟩) (meth := k8m1) (c := k8c1) (by decide +kernel) rfl rfl rfl (by decide +kernel)
set_option maxRecDepth 65536 in
theorem w_c4 : (Jvm.Cond.code ({ cls := "java/lang/String", name := "checkIndex", desc := "(II)V" } : Jvm.MethodName) jdk_42_method_155_code (2 : Nat) (Option.none : Option Jvm.ClassFile.FieldType)).before args0 about1 = true := code_word (m := ⟨7, 3⟩) (meth := k7m3) (c := k7c3) (by decide +kernel) rfl rfl rfl (by decide +kernel)
set_option maxRecDepth 65536 in
theorem w_c5 : (Jvm.Cond.code ({ cls := "jdk/internal/util/Preconditions", name := "checkIndex", desc := "(IILjava/util/function/BiFunction;)I" } : Jvm.MethodName) jdk_41_method_11_code (3 : Nat) (Option.some Jvm.ClassFile.FieldType.int)).before args0 about1 = true := code_word (m := ⟨9, 1⟩) (meth := k9m1) (c := k9c1) (by decide +kernel) rfl rfl rfl (by decide +kernel)
set_option maxRecDepth 65536 in
theorem w_c6 : (Jvm.Cond.code ({ cls := "com/example/archivolt/archivolt/core/uri/PathSegment", name := "hexValue", desc := "(C)I" } : Jvm.MethodName) prog_17_method_8_code (1 : Nat) (Option.some Jvm.ClassFile.FieldType.int)).before args0 about1 = true := code_word (m := ⟨10, 1⟩) (meth := k10m1) (c := k10c1) (by decide +kernel) rfl rfl rfl (by decide +kernel)
def codes1 : List Jvm.Cond := [Jvm.Cond.code x code maxLocals ret, Jvm.Cond.code ({ cls := "java/lang/String", name := "charAt", desc := "(I)C" } : Jvm.MethodName) jdk_42_method_56_code (2 : Nat) (Option.some Jvm.ClassFile.FieldType.char), Jvm.Cond.code ({ cls := "java/lang/String", name := "isLatin1", desc := "()Z" } : Jvm.MethodName) jdk_42_method_154_code (1 : Nat) (Option.some Jvm.ClassFile.FieldType.boolean), Jvm.Cond.code ({ cls := "java/lang/StringLatin1", name := "charAt", desc := "([BI)C" } : Jvm.MethodName) jdk_43_method_2_code (2 : Nat) (Option.some Jvm.ClassFile.FieldType.char), Jvm.Cond.code ({ cls := "java/lang/String", name := "checkIndex", desc := "(II)V" } : Jvm.MethodName) jdk_42_method_155_code (2 : Nat) (Option.none : Option Jvm.ClassFile.FieldType), Jvm.Cond.code ({ cls := "jdk/internal/util/Preconditions", name := "checkIndex", desc := "(IILjava/util/function/BiFunction;)I" } : Jvm.MethodName) jdk_41_method_11_code (3 : Nat) (Option.some Jvm.ClassFile.FieldType.int), Jvm.Cond.code ({ cls := "com/example/archivolt/archivolt/core/uri/PathSegment", name := "hexValue", desc := "(C)I" } : Jvm.MethodName) prog_17_method_8_code (1 : Nat) (Option.some Jvm.ClassFile.FieldType.int)]
set_option maxRecDepth 65536 in
theorem codes_eq : words1.filter isCode = codes1 := rfl
theorem w_codes : ∀ c ∈ words1.filter isCode, c.before args0 about1 = true := by
  rw [codes_eq]
  intro c hc
  simp only [codes1, List.mem_cons, List.not_mem_nil, or_false] at hc
  rcases hc with rfl | rfl | rfl | rfl | rfl | rfl | rfl
  · exact w_c0
  · exact w_c1
  · exact w_c2
  · exact w_c3
  · exact w_c4
  · exact w_c5
  · exact w_c6
set_option maxRecDepth 65536 in
theorem w_t1 : (words1.take 24).all (fun c => isCode c || c.before args0 about1) = true := by decide +kernel
set_option maxRecDepth 65536 in
theorem w_t2 : (words1.drop 24).all (fun c => isCode c || c.before args0 about1) = true := by decide +kernel
theorem w_tables : (allAtoms (Jvm.Cond.code x code maxLocals ret :: tables_1)).before args0 about1 = true := by
  rw [allAtoms_all]
  show words1.all (fun c => c.before args0 about1) = true
  refine all_split ?_ w_codes
  rw [← List.take_append_drop 24 words1, List.all_append, w_t1, w_t2]
  rfl
set_option maxRecDepth 65536 in
theorem w_rest : rest_1_c.before args0 about1 = true := by decide +kernel
set_option maxRecDepth 65536 in
theorem w_case : (Jvm.Cond.and given_1 narrow_1).before args0 about1 = true := by decide +kernel
set_option maxRecDepth 65536 in
theorem w_consts : constsHeld consts_1 about1 := Jvm.Lit.constsHeldB_iff.mp (by decide +kernel)
theorem w_applies : (headSpec (Jvm.Cond.code x code maxLocals ret :: tables_1) room_1).applies x e0.platform about1 = true :=
  (Spec.applies_iff w_frames).mpr ⟨w_running, w_runnable, w_alone, w_named, w_hears, w_ripe, w_room, w_tables⟩
theorem atStart : AtStart classFile x code maxLocals ret World_1 tables_1 room_1 Calls_1 rest_1 Pre_1 launch0 p0 e0 about1 theMethod args0 below0 :=
  ⟨lists_1, trivial, launch0.admits_env _ _ _, launch0.least_env, fairChoices_fair.cas, fairChoices_fair.clock, w_frames, w_args, w_heap, w_applies, ⟨w_consts, trivial⟩, w_rest, w_case⟩
end start1
theorem witness_1 : WitnessClaimed_1 := ⟨start1.p0, start1.e0, start1.about1, start1.theMethod, start1.args0, start1.below0, start1.atStart⟩
end Jvm.Pilot.@@N@@
