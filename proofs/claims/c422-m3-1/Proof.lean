import JvmDerived
import JvmDerived.Pilot.@@N@@Statement
import JvmDerived.Pilot.@@N@@Code
set_option linter.unusedVariables false
set_option linter.unusedSimpArgs false
namespace Jvm.RoadKit
open Sem ClassFile Op Lib Jvm.Stand Jvm.Free Jvm.LawKit
section New
variable {p : Program} {l : Launch} {e : Env} {R : Room} {s : State} {m : MethodId} {args : Array Value} {below : List Frame} {meth : Method} {c : Code} {T : State} {locs : List Loc} {cells slots : Nat}
theorem retI (X : Stand p l e R s m args below meth c T locs cells slots) (hx : p.tables.exec = Jvm.exec) {pc : Nat} {Ls : Array Slot} {z : Int32} {rest : List Value} (hret : meth.sig.returnType = some .int) (hd : decode c.code pc = .ok (.ireturn, 1)) {fs : List Frame}
    (hl : ∀ (f : JFrame) (acts : List Action), f.method = m → f.locked = none → f.entered = [] → (doReturn e (T.setTop f) acts (some (.int z))).1 = T.setFrames fs) : Steps p.tables e below (T.setTop (mkF m pc Ls (.int z :: rest))) (T.setFrames fs) := by
  have hm' : T.vm.method? m = some meth := X.method'
  have hn : narrow .int (.int z) = .int z := rfl
  show Steps p.tables e below (T.setTop { method := m, pc := pc, locals := Ls, stack := _ :: rest, locked := none }) _
  jvm_step X.here [X.here.top, hx, hd, hm', hret, hn]
  first | (intro acts; rw [hl _ acts rfl rfl rfl]) | rw [hl _ _ rfl rfl rfl]
  exact Steps.refl _
end New
end Jvm.RoadKit
namespace Jvm.Pilot.@@N@@
open Jvm Jvm.ClassFile Sem Op Lib Jvm.Free Jvm.Stand Jvm.LawKit Jvm.RoadKit Bundle Jvm.Pilot.@@N@@.Jvm.D
theorem own_fe {args : Array Value} {first s : State} {o : Option Outcome} {idx : List Nat} {t : Term} {k : Int32} (h : (Jvm.Cond.eq t (Term.int k)).value args first o s idx = some true) : t.eval args first o idx s = some (.int k) := by
  obtain ⟨x, y, e1, e2, k1, k2⟩ := cmp_v (Or.inl h)
  have e3 : y = .int k := (Option.some.inj ((Term.int_eval k).symm.trans e2)).symm
  subst e3
  obtain ⟨z, rfl⟩ := k2
  simp [Jvm.Cond.value, e1, Term.int_eval] at h
  rw [e1, h]
theorem own_ne {args : Array Value} {s : State} {t u : Term} {a b : Addr} {C n d : String} {i j : Int32} (ta : t.eval args s none [] s = some (.ref a)) (tb : u.eval args s none [] s = some (.ref b)) (h1 : (Jvm.Cond.eq (Term.field t C n d) (Term.int i)).value args s none s [] = some true) (h2 : (Jvm.Cond.eq (Term.field u C n d) (Term.int j)).value args s none s [] = some true) (hne : i ≠ j) : ¬ (a = b) := fun e => by
  subst e
  have q1 := own_fe h1
  have q2 := own_fe h2
  rw [fld_at ta] at q1
  rw [fld_at tb] at q2
  have q3 := q1.symm.trans q2
  simp at q3
  exact hne q3
theorem pn_0 : plainName "com/example/archivolt/archivolt/core/ro/CopyType" = true := by first | (simp [plainName, overriddenIn]; done) | decide +kernel
theorem d1_0 : decode prog_7_method_5_code 0 = .ok (.aload_n 0, 1) := by decide +kernel
theorem d1_1 : decode prog_7_method_5_code 1 = .ok (.getstatic 3, 3) := by decide +kernel
theorem d1_4 : decode prog_7_method_5_code 4 = .ok (.if_acmp .eq 7, 3) := by decide +kernel
theorem d1_11 : decode prog_7_method_5_code 11 = .ok (.iconst 0, 1) := by decide +kernel
theorem d1_12 : decode prog_7_method_5_code 12 = .ok (.ireturn, 1) := by decide +kernel
theorem d1_7 : decode prog_7_method_5_code 7 = .ok (.iconst 1, 1) := by decide +kernel
theorem d1_8 : decode prog_7_method_5_code 8 = .ok (.goto 4, 3) := by decide +kernel
theorem ef_rm_fr (m : MethodId) (a1 : Addr) : entryFrame m #[(.ref a1)] 1 = mkF m 0 #[.val (.ref a1)] [] := by first | (simp [entryFrame, mkF, argsToLocals, Value.category]; done) | rfl
def Q_rm_fr (Z : State) (a1 : Addr) (aL : Addr) (h0 : Heap) (n0 : Nat) (v : Option Value) (h : Heap) (L : List Loc) : Prop := v = some (.int (if a1 = aL then (0 : Int32) else 1)) ∧ Fr n0 L ∧ h = h0
set_option maxRecDepth 65536 in
set_option maxHeartbeats 40000000 in
theorem rm_fr (l : Launch) (Z : State) (a0 : Array Value) (hw : ∀ d ∈ tables_1, d.before a0 Z = true) (ws : List Jvm.Cond) (a1 : Addr) (aL : Addr) (h0 : Heap) (n0 : Nat) (Z0 : n0 ≤ h0.size) (SL : Sta Z h0 "com/example/archivolt/archivolt/core/ro/CopyType" "LIVE" "Lcom/example/archivolt/archivolt/core/ro/CopyType;" (.ref aL)) :
    MetFree l (⟨"com/example/archivolt/archivolt/core/ro/CopyType", "isFrozen", "()Z"⟩ : MethodName) (head1 (Jvm.Cond.code (⟨"com/example/archivolt/archivolt/core/ro/CopyType", "isFrozen", "()Z"⟩ : MethodName) prog_7_method_5_code 1 (some .boolean) :: ws) ({ frames := 0, cells := 0, slots := 0, locals := 0 } : Room)) (fun a U => a = #[(.ref a1)] ∧ Z.Warmed39 U.vm ∧ U.heap = h0) (fun _ _ _ _ _ => True) (fun _ U o U' => ∃ v L, o = .returned v ∧ Q_rm_fr Z a1 aL h0 n0 v U'.heap L ∧ FrameEnd U o U' L ({ frames := 0, cells := 0, slots := 0, locals := 0 } : Room).cells ({ frames := 0, cells := 0, slots := 0, locals := 0 } : Room).slots) := by
  refine MetFree.of_bodySF (plainFor_of_name pn_0) hisR ?_
  intro p e s m args below meth c s₁ Bd hml0 hP hK
  obtain ⟨rfl, hZ, hh⟩ := hP
  have hx := Bd.exec
  have hby := Bd.bytes
  have hml : c.maxLocals = 1 := hml0
  have hown : s.vm.findClass "com/example/archivolt/archivolt/core/ro/CopyType" = some m.cls := findClass_of_methodNamed Bd.named
  have hnm := (name_of_methodNamed Bd.named Bd.method).1
  have X0 : Stand p l e ({ frames := 0, cells := 0, slots := 0, locals := 0 } : Room) s m #[(.ref a1)] below meth c s₁ [] 0 0 := Stand.of_body Bd
  have e0 : s₁.heap = h0 := by rw [← hh, Bd.state]; rfl
  have N0 := Fr.nil n0
  have pre0 : ∀ t, Steps p.tables e below (s₁.setTop (mkF m 0 #[.val (.ref a1)] [])) t → Steps p.tables e below (s₁.setTop (entryFrame m #[(.ref a1)] 1)) t := fun t k => castTop (ef_rm_fr m a1) k
  have pre00 : ∀ t, Steps p.tables e below (s₁.setTop (mkF m 0 #[.val (.ref a1)] [])) t → Steps p.tables e below (s₁.setTop (mkF m 0 #[.val (.ref a1)] [])) t := fun _ k => k
  have R1 : ∀ t, Steps p.tables e below (s₁.setTop (mkF m 1 #[.val (.ref a1)] [(.ref a1)])) t → Steps p.tables e below (s₁.setTop (mkF m 0 #[.val (.ref a1)] [])) t := by
    intro t kt
    refine pre00 _ ?_
    show Steps p.tables e below (s₁.setTop (mkF m 0 #[.val (.ref a1)] [])) _
    refine XS.aloadN X0.here hx rfl (hb hby d1_0) rfl rfl ?_
    exact kt
  obtain ⟨T2, X2, e2, st2⟩ := getS2 X0 hx hZ hown (host := "") (Or.inl (hw _ (List.mem_of_getElem? (i := 9) rfl))) Via.refl e0 SL (g := (mkF m 1 #[.val (.ref a1)] [(.ref a1)])) rfl (hb hby d1_1)
  have R3 : ∀ t, Steps p.tables e below (T2.setTop (mkF m 4 #[.val (.ref a1)] [(.ref aL), (.ref a1)])) t → Steps p.tables e below (s₁.setTop (mkF m 0 #[.val (.ref a1)] [])) t := by
    intro t kt
    refine R1 _ ?_
    refine st2 _ ?_
    exact kt
  by_cases hq : a1 = aL
  · have R4 : ∀ t, Steps p.tables e below (T2.setTop (mkF m 12 #[.val (.ref a1)] [(.int (0 : Int32))])) t → Steps p.tables e below (s₁.setTop (mkF m 0 #[.val (.ref a1)] [])) t := by
      intro t kt
      refine R3 _ ?_
      show Steps p.tables e below (T2.setTop (mkF m 4 #[.val (.ref a1)] [(.ref aL), (.ref a1)])) _
      refine Jvm.RoadKit.acmp (g := (mkF m 4 #[.val (.ref a1)] [(.ref aL), (.ref a1)])) X2 hx rfl rfl rfl (pc0 := 4) (pc' := 11) (same := true) rfl (hb hby d1_4) rfl (decide_eq_true (congrArg Value.ref hq)) (by decide) (by decide) ?_
      show Steps p.tables e below (T2.setTop (mkF m 11 #[.val (.ref a1)] [])) _
      refine XS.iconst X2.here hx rfl (hb hby d1_11) ?_
      exact kt
    obtain ⟨fs, hr, hrun, hended, hW, hsame⟩ := X2.leave (v := some (.int (0 : Int32))) (fun h => by rw [Bd.returns] at h; cases h)
    refine ⟨_, _, pre0 _ (R4 _ ?_), hrun, hended, _, _, rfl, ?_, ⟨_, rfl⟩, hW, hsame.mono (by decide) (by decide)⟩
    · exact retN X2 hx (t := .boolean) Bd.returns (by simp) (hb hby d1_12) hr
    · show Q_rm_fr Z a1 aL h0 n0 _ T2.heap _
      rw [e2]
      exact ⟨by simp [hq], N0, rfl⟩
  · have R5 : ∀ t, Steps p.tables e below (T2.setTop (mkF m 12 #[.val (.ref a1)] [(.int (1 : Int32))])) t → Steps p.tables e below (s₁.setTop (mkF m 0 #[.val (.ref a1)] [])) t := by
      intro t kt
      refine R3 _ ?_
      show Steps p.tables e below (T2.setTop (mkF m 4 #[.val (.ref a1)] [(.ref aL), (.ref a1)])) _
      refine Jvm.RoadKit.acmp (g := (mkF m 4 #[.val (.ref a1)] [(.ref aL), (.ref a1)])) X2 hx rfl rfl rfl (pc0 := 4) (pc' := 7) (same := false) rfl (hb hby d1_4) rfl (decide_eq_false fun q => hq (Value.ref.inj q)) (by decide) (by decide) ?_
      show Steps p.tables e below (T2.setTop (mkF m 7 #[.val (.ref a1)] [])) _
      refine XS.iconst X2.here hx rfl (hb hby d1_7) ?_
      show Steps p.tables e below (T2.setTop (mkF m 8 #[.val (.ref a1)] [(.int (1 : Int32))])) _
      refine XS.goto X2.here hx rfl (pc0 := 8) (pc' := 12) rfl (hb hby d1_8) (by decide) (by decide) ?_
      exact kt
    obtain ⟨fs, hr, hrun, hended, hW, hsame⟩ := X2.leave (v := some (.int (1 : Int32))) (fun h => by rw [Bd.returns] at h; cases h)
    refine ⟨_, _, pre0 _ (R5 _ ?_), hrun, hended, _, _, rfl, ?_, ⟨_, rfl⟩, hW, hsame.mono (by decide) (by decide)⟩
    · exact retN X2 hx (t := .boolean) Bd.returns (by simp) (hb hby d1_12) hr
    · show Q_rm_fr Z a1 aL h0 n0 _ T2.heap _
      rw [e2]
      exact ⟨by simp [hq], N0, rfl⟩
theorem pn_1 : plainName "com/example/archivolt/archivolt/core/ro/CopyTypeIsFrozenPinLaw" = true := by first | (simp [plainName, overriddenIn]; done) | decide +kernel
theorem pd_0 : parseMethodDescriptor "()Z" = some ⟨[], some .boolean⟩ := by decide +kernel
theorem ef_rm_law (m : MethodId) (p1 : Int32) : entryFrame m #[(.int p1)] maxLocals = mkF m 0 #[.val (.int p1), .unset, .unset, .unset] [] := by first | (simp [entryFrame, mkF, argsToLocals, Value.category, maxLocals]; done) | rfl
def Q_rm_law (Z : State) (p1 : Int32) (aL : Addr) (aA : Addr) (aS : Addr) (h0 : Heap) (n0 : Nat) (v : Option Value) (h : Heap) (L : List Loc) : Prop := v = some (.int (1 : Int32)) ∧ Fr n0 L
set_option maxRecDepth 65536 in
set_option maxHeartbeats 40000000 in
theorem rm_law (l : Launch) (Z : State) (a0 : Array Value) (hw : ∀ d ∈ tables_1, d.before a0 Z = true) (ws : List Jvm.Cond) (p1 : Int32) (aL : Addr) (aA : Addr) (aS : Addr) (h0 : Heap) (n0 : Nat) (Z0 : n0 ≤ h0.size) (SL : Sta Z h0 "com/example/archivolt/archivolt/core/ro/CopyType" "LIVE" "Lcom/example/archivolt/archivolt/core/ro/CopyType;" (.ref aL)) (SA : Sta Z h0 "com/example/archivolt/archivolt/core/ro/CopyType" "ARCHIVE" "Lcom/example/archivolt/archivolt/core/ro/CopyType;" (.ref aA)) (SS : Sta Z h0 "com/example/archivolt/archivolt/core/ro/CopyType" "SNAPSHOT" "Lcom/example/archivolt/archivolt/core/ro/CopyType;" (.ref aS)) (EL : Exa Z h0 aL "com/example/archivolt/archivolt/core/ro/CopyType") (EA : Exa Z h0 aA "com/example/archivolt/archivolt/core/ro/CopyType") (ES : Exa Z h0 aS "com/example/archivolt/archivolt/core/ro/CopyType") (nA : ¬ (aA = aL)) (nS : ¬ (aS = aL)) :
    MetFree l x (head1 (Jvm.Cond.code x code maxLocals ret :: ws) room_1) (fun a U => a = #[(.int p1)] ∧ Z.Warmed39 U.vm ∧ U.heap = h0) (fun _ _ _ _ _ => True) (fun _ U o U' => ∃ v L, o = .returned v ∧ Q_rm_law Z p1 aL aA aS h0 n0 v U'.heap L ∧ FrameEnd U o U' L room_1.cells room_1.slots) := by
  refine MetFree.of_bodySF (plainFor_of_name pn_1) hisR ?_
  intro p e s m args below meth c s₁ Bd hml0 hP hK
  obtain ⟨rfl, hZ, hh⟩ := hP
  have hx := Bd.exec
  have hby := Bd.bytes
  have hml : c.maxLocals = 4 := hml0
  have hown : s.vm.findClass "com/example/archivolt/archivolt/core/ro/CopyTypeIsFrozenPinLaw" = some m.cls := findClass_of_methodNamed Bd.named
  have hnm := (name_of_methodNamed Bd.named Bd.method).1
  have X0 : Stand p l e room_1 s m #[(.int p1)] below meth c s₁ [] 0 0 := Stand.of_body Bd
  have e0 : s₁.heap = h0 := by rw [← hh, Bd.state]; rfl
  have N0 := Fr.nil n0
  have pre0 : ∀ t, Steps p.tables e below (s₁.setTop (mkF m 0 #[.val (.int p1), .unset, .unset, .unset] [])) t → Steps p.tables e below (s₁.setTop (entryFrame m #[(.int p1)] maxLocals)) t := fun t k => castTop (ef_rm_law m p1) k
  have pre00 : ∀ t, Steps p.tables e below (s₁.setTop (mkF m 0 #[.val (.int p1), .unset, .unset, .unset] [])) t → Steps p.tables e below (s₁.setTop (mkF m 0 #[.val (.int p1), .unset, .unset, .unset] [])) t := fun _ k => k
  have R6 : ∀ t, Steps p.tables e below (s₁.setTop (mkF m 6 #[.val (.int p1), .unset, .unset, .unset] [(.int ((p1 &&& (2147483647 : Int32)) - ((p1 &&& (2147483647 : Int32)) / (3 : Int32)) * (3 : Int32)))])) t → Steps p.tables e below (s₁.setTop (mkF m 0 #[.val (.int p1), .unset, .unset, .unset] [])) t := by
    intro t kt
    refine pre00 _ ?_
    show Steps p.tables e below (s₁.setTop (mkF m 0 #[.val (.int p1), .unset, .unset, .unset] [])) _
    refine XS.iloadN X0.here hx rfl (hb hby at_0) rfl ?_
    show Steps p.tables e below (s₁.setTop (mkF m 1 #[.val (.int p1), .unset, .unset, .unset] [(.int p1)])) _
    refine X0.ldcInt hx hown (mvT hZ (hw _ (List.mem_of_getElem? (i := 0) rfl))) (g := (mkF m 1 #[.val (.int p1), .unset, .unset, .unset] [(.int p1)])) rfl (hb hby at_1) _ ?_
    show Steps p.tables e below (s₁.setTop (mkF m 3 #[.val (.int p1), .unset, .unset, .unset] [(.int (2147483647 : Int32)), (.int p1)])) _
    refine XS.iand X0.here hx rfl (hb hby at_3) rfl ?_
    show Steps p.tables e below (s₁.setTop (mkF m 4 #[.val (.int p1), .unset, .unset, .unset] [(.int (p1 &&& (2147483647 : Int32)))])) _
    refine XS.iconst X0.here hx rfl (hb hby at_4) ?_
    show Steps p.tables e below (s₁.setTop (mkF m 5 #[.val (.int p1), .unset, .unset, .unset] [(.int (3 : Int32)), (.int (p1 &&& (2147483647 : Int32)))])) _
    refine XS.irem X0.here hx rfl (hb hby at_5) rfl (by decide) ?_
    exact kt
  obtain ⟨i1, hi1⟩ : ∃ z : Int32, z = ((p1 &&& (2147483647 : Int32)) - ((p1 &&& (2147483647 : Int32)) / (3 : Int32)) * (3 : Int32)) := ⟨_, rfl⟩
  have R7 : ∀ t, Steps p.tables e below (s₁.setTop (mkF m 6 #[.val (.int p1), .unset, .unset, .unset] [(.int i1)])) t → Steps p.tables e below (s₁.setTop (mkF m 0 #[.val (.int p1), .unset, .unset, .unset] [])) t := by rw [hi1]; exact R6
  have R8 : ∀ t, Steps p.tables e below (s₁.setTop (mkF m 8 #[.val (.int p1), .val (.int i1), .unset, .unset] [(.int i1)])) t → Steps p.tables e below (s₁.setTop (mkF m 0 #[.val (.int p1), .unset, .unset, .unset] [])) t := by
    intro t kt
    refine R7 _ ?_
    show Steps p.tables e below (s₁.setTop (mkF m 6 #[.val (.int p1), .unset, .unset, .unset] [(.int i1)])) _
    refine XS.istoreN X0.here hx rfl (hb hby at_6) rfl (l' := #[.val (.int p1), .val (.int i1), .unset, .unset]) rfl ?_
    show Steps p.tables e below (s₁.setTop (mkF m 7 #[.val (.int p1), .val (.int i1), .unset, .unset] [])) _
    refine XS.iloadN X0.here hx rfl (hb hby at_7) rfl ?_
    exact kt
  by_cases hc8 : i1 = (0 : Int32)
  · have R9 : ∀ t, Steps p.tables e below (s₁.setTop (mkF m 11 #[.val (.int p1), .val (.int i1), .unset, .unset] [])) t → Steps p.tables e below (s₁.setTop (mkF m 0 #[.val (.int p1), .unset, .unset, .unset] [])) t := by
      intro t kt
      refine R8 _ ?_
      show Steps p.tables e below (s₁.setTop (mkF m 8 #[.val (.int p1), .val (.int i1), .unset, .unset] [(.int i1)])) _
      refine XS.ifNo X0.here hx rfl (hb hby at_8) rfl ((if0 _ _).trans (teq (hc8 : i1 = (0 : Int32))).2) ?_
      exact kt
    obtain ⟨T10, X10, e10, st10⟩ := getS2 X0 hx hZ hown (host := "") (Or.inl (hw _ (List.mem_of_getElem? (i := 1) rfl))) Via.refl e0 SL (g := (mkF m 11 #[.val (.int p1), .val (.int i1), .unset, .unset] [])) rfl (hb hby at_11)
    have R11 : ∀ t, Steps p.tables e below (T10.setTop (mkF m 41 #[.val (.int p1), .val (.int i1), .val (.ref aL), .val (.int (0 : Int32))] [(.ref aL)])) t → Steps p.tables e below (s₁.setTop (mkF m 0 #[.val (.int p1), .unset, .unset, .unset] [])) t := by
      intro t kt
      refine R9 _ ?_
      refine st10 _ ?_
      show Steps p.tables e below (T10.setTop (mkF m 14 #[.val (.int p1), .val (.int i1), .unset, .unset] [(.ref aL)])) _
      refine XS.astoreN X10.here hx rfl (hb hby at_14) rfl rfl (l' := #[.val (.int p1), .val (.int i1), .val (.ref aL), .unset]) rfl ?_
      show Steps p.tables e below (T10.setTop (mkF m 15 #[.val (.int p1), .val (.int i1), .val (.ref aL), .unset] [])) _
      refine XS.iconst X10.here hx rfl (hb hby at_15) ?_
      show Steps p.tables e below (T10.setTop (mkF m 16 #[.val (.int p1), .val (.int i1), .val (.ref aL), .unset] [(.int (0 : Int32))])) _
      refine XS.istoreN X10.here hx rfl (hb hby at_16) rfl (l' := #[.val (.int p1), .val (.int i1), .val (.ref aL), .val (.int (0 : Int32))]) rfl ?_
      show Steps p.tables e below (T10.setTop (mkF m 17 #[.val (.int p1), .val (.int i1), .val (.ref aL), .val (.int (0 : Int32))] [])) _
      refine XS.goto X10.here hx rfl (pc0 := 17) (pc' := 40) rfl (hb hby at_17) (by decide) (by decide) ?_
      show Steps p.tables e below (T10.setTop (mkF m 40 #[.val (.int p1), .val (.int i1), .val (.ref aL), .val (.int (0 : Int32))] [])) _
      refine XS.aloadN X10.here hx rfl (hb hby at_40) rfl rfl ?_
      exact kt
    obtain ⟨cq12, kq12, q12a, q12b, q12c⟩ := isOf hZ e10 EL
    obtain ⟨_, _, ⟨T12, L12, k12, n12⟩, -, X12, ⟨Lc12, hQ12, l12, y12, z12⟩, st12⟩ := X10.virtualBack hx (y := (⟨"com/example/archivolt/archivolt/core/ro/CopyType", "isFrozen", "()Z"⟩ : MethodName)) (z := (⟨"com/example/archivolt/archivolt/core/ro/CopyType", "isFrozen", "()Z"⟩ : MethodName)) hown (mvT hZ (hw _ (List.mem_of_getElem? (i := 4) rfl))) (mvT hZ (hw _ (List.mem_of_getElem? (i := 5) rfl))) (notFace_of_selects (args := #[]) (mvT hZ (hw _ (List.mem_of_getElem? (i := 7) rfl)))) (mvT hZ (hw _ (List.mem_of_getElem? (i := 7) rfl))) (mvT hZ (hw _ (List.mem_of_getElem? (i := 6) rfl))) (by decide) (backOf (W := 0) (rm_fr l Z a0 hw [] aL aL h0 n0 Z0 SL) hZ (hw _ (List.mem_of_getElem? (i := 8) rfl)) (hw _ (List.mem_of_getElem? (i := 2) rfl)) (by decide) (by decide)) q12a q12c (g := (mkF m 41 #[.val (.int p1), .val (.int i1), .val (.ref aL), .val (.int (0 : Int32))] [(.ref aL)])) rfl (by rw [hml]; rfl) (Steps.refl _) (argsL := []) (rest := []) (lenOf pd_0 rfl) rfl (by show 2 * 0 + _ ≤ _; exact Nat.le_of_eq rfl) (hb hby at_41) (fun _ _ => ⟨rfl, e10, (by decide : 0 + 0 ≤ _), (by decide : 0 + 0 ≤ _)⟩)
    dsimp only [Pt.U, Pt.locs, Pt.cells, Pt.slots] at X12 l12 y12 z12 st12 hQ12
    subst l12 y12 z12
    obtain ⟨rfl, N12q, hh12⟩ := hQ12
    have N12 := Fr.app N0 N12q
    have R13 : ∀ t, Steps p.tables e below (T12.setTop (mkF m 53 #[.val (.int p1), .val (.int i1), .val (.ref aL), .val (.int (0 : Int32))] [(.int (1 : Int32))])) t → Steps p.tables e below (s₁.setTop (mkF m 0 #[.val (.int p1), .unset, .unset, .unset] [])) t := by
      intro t kt
      refine R11 _ ?_
      refine st12.trans ?_
      show Steps p.tables e below (T12.setTop (mkF m 44 #[.val (.int p1), .val (.int i1), .val (.ref aL), .val (.int (0 : Int32))] [(.int (if aL = aL then (0 : Int32) else 1))])) _
      refine XS.iloadN X12.here hx rfl (hb hby at_44) rfl ?_
      show Steps p.tables e below (T12.setTop (mkF m 45 #[.val (.int p1), .val (.int i1), .val (.ref aL), .val (.int (0 : Int32))] [(.int (0 : Int32)), (.int (if aL = aL then (0 : Int32) else 1))])) _
      refine XS.icmpNo X12.here hx rfl (hb hby at_45) rfl (teq (by simp : (if aL = aL then (0 : Int32) else 1) = (0 : Int32))).2 ?_
      show Steps p.tables e below (T12.setTop (mkF m 48 #[.val (.int p1), .val (.int i1), .val (.ref aL), .val (.int (0 : Int32))] [])) _
      refine XS.iconst X12.here hx rfl (hb hby at_48) ?_
      show Steps p.tables e below (T12.setTop (mkF m 49 #[.val (.int p1), .val (.int i1), .val (.ref aL), .val (.int (0 : Int32))] [(.int (1 : Int32))])) _
      refine XS.goto X12.here hx rfl (pc0 := 49) (pc' := 53) rfl (hb hby at_49) (by decide) (by decide) ?_
      exact kt
    obtain ⟨fs, hr, hrun, hended, hW, hsame⟩ := X12.leave (v := some (.int (1 : Int32))) (fun h => by rw [Bd.returns] at h; cases h)
    refine ⟨_, _, pre0 _ (R13 _ ?_), hrun, hended, _, _, rfl, ?_, ⟨_, rfl⟩, hW, hsame.mono (by decide) (by decide)⟩
    · exact retN X12 hx (t := .boolean) Bd.returns (by simp) (hb hby at_53) hr
    · show Q_rm_law Z p1 aL aA aS h0 n0 _ T12.heap _
      rw [hh12]
      exact ⟨rfl, N12⟩
  · have R14 : ∀ t, Steps p.tables e below (s₁.setTop (mkF m 22 #[.val (.int p1), .val (.int i1), .unset, .unset] [(.int (1 : Int32)), (.int i1)])) t → Steps p.tables e below (s₁.setTop (mkF m 0 #[.val (.int p1), .unset, .unset, .unset] [])) t := by
      intro t kt
      refine R8 _ ?_
      show Steps p.tables e below (s₁.setTop (mkF m 8 #[.val (.int p1), .val (.int i1), .unset, .unset] [(.int i1)])) _
      refine XS.ifYes X0.here hx rfl (pc0 := 8) (pc' := 20) rfl (hb hby at_8) rfl ((if0 _ _).trans (feq (hc8 : ¬ (i1 = (0 : Int32)))).2) (by decide) (by decide) ?_
      show Steps p.tables e below (s₁.setTop (mkF m 20 #[.val (.int p1), .val (.int i1), .unset, .unset] [])) _
      refine XS.iloadN X0.here hx rfl (hb hby at_20) rfl ?_
      show Steps p.tables e below (s₁.setTop (mkF m 21 #[.val (.int p1), .val (.int i1), .unset, .unset] [(.int i1)])) _
      refine XS.iconst X0.here hx rfl (hb hby at_21) ?_
      exact kt
    by_cases hc22 : i1 = (1 : Int32)
    · have R15 : ∀ t, Steps p.tables e below (s₁.setTop (mkF m 25 #[.val (.int p1), .val (.int i1), .unset, .unset] [])) t → Steps p.tables e below (s₁.setTop (mkF m 0 #[.val (.int p1), .unset, .unset, .unset] [])) t := by
        intro t kt
        refine R14 _ ?_
        show Steps p.tables e below (s₁.setTop (mkF m 22 #[.val (.int p1), .val (.int i1), .unset, .unset] [(.int (1 : Int32)), (.int i1)])) _
        refine XS.icmpNo X0.here hx rfl (hb hby at_22) rfl (teq (hc22 : i1 = (1 : Int32))).2 ?_
        exact kt
      obtain ⟨T16, X16, e16, st16⟩ := getS2 X0 hx hZ hown (host := "") (Or.inl (hw _ (List.mem_of_getElem? (i := 12) rfl))) Via.refl e0 SS (g := (mkF m 25 #[.val (.int p1), .val (.int i1), .unset, .unset] [])) rfl (hb hby at_25)
      have R17 : ∀ t, Steps p.tables e below (T16.setTop (mkF m 41 #[.val (.int p1), .val (.int i1), .val (.ref aS), .val (.int (1 : Int32))] [(.ref aS)])) t → Steps p.tables e below (s₁.setTop (mkF m 0 #[.val (.int p1), .unset, .unset, .unset] [])) t := by
        intro t kt
        refine R15 _ ?_
        refine st16 _ ?_
        show Steps p.tables e below (T16.setTop (mkF m 28 #[.val (.int p1), .val (.int i1), .unset, .unset] [(.ref aS)])) _
        refine XS.astoreN X16.here hx rfl (hb hby at_28) rfl rfl (l' := #[.val (.int p1), .val (.int i1), .val (.ref aS), .unset]) rfl ?_
        show Steps p.tables e below (T16.setTop (mkF m 29 #[.val (.int p1), .val (.int i1), .val (.ref aS), .unset] [])) _
        refine XS.iconst X16.here hx rfl (hb hby at_29) ?_
        show Steps p.tables e below (T16.setTop (mkF m 30 #[.val (.int p1), .val (.int i1), .val (.ref aS), .unset] [(.int (1 : Int32))])) _
        refine XS.istoreN X16.here hx rfl (hb hby at_30) rfl (l' := #[.val (.int p1), .val (.int i1), .val (.ref aS), .val (.int (1 : Int32))]) rfl ?_
        show Steps p.tables e below (T16.setTop (mkF m 31 #[.val (.int p1), .val (.int i1), .val (.ref aS), .val (.int (1 : Int32))] [])) _
        refine XS.goto X16.here hx rfl (pc0 := 31) (pc' := 40) rfl (hb hby at_31) (by decide) (by decide) ?_
        show Steps p.tables e below (T16.setTop (mkF m 40 #[.val (.int p1), .val (.int i1), .val (.ref aS), .val (.int (1 : Int32))] [])) _
        refine XS.aloadN X16.here hx rfl (hb hby at_40) rfl rfl ?_
        exact kt
      obtain ⟨cq18, kq18, q18a, q18b, q18c⟩ := isOf hZ e16 ES
      obtain ⟨_, _, ⟨T18, L18, k18, n18⟩, -, X18, ⟨Lc18, hQ18, l18, y18, z18⟩, st18⟩ := X16.virtualBack hx (y := (⟨"com/example/archivolt/archivolt/core/ro/CopyType", "isFrozen", "()Z"⟩ : MethodName)) (z := (⟨"com/example/archivolt/archivolt/core/ro/CopyType", "isFrozen", "()Z"⟩ : MethodName)) hown (mvT hZ (hw _ (List.mem_of_getElem? (i := 4) rfl))) (mvT hZ (hw _ (List.mem_of_getElem? (i := 5) rfl))) (notFace_of_selects (args := #[]) (mvT hZ (hw _ (List.mem_of_getElem? (i := 7) rfl)))) (mvT hZ (hw _ (List.mem_of_getElem? (i := 7) rfl))) (mvT hZ (hw _ (List.mem_of_getElem? (i := 6) rfl))) (by decide) (backOf (W := 0) (rm_fr l Z a0 hw [] aS aL h0 n0 Z0 SL) hZ (hw _ (List.mem_of_getElem? (i := 8) rfl)) (hw _ (List.mem_of_getElem? (i := 2) rfl)) (by decide) (by decide)) q18a q18c (g := (mkF m 41 #[.val (.int p1), .val (.int i1), .val (.ref aS), .val (.int (1 : Int32))] [(.ref aS)])) rfl (by rw [hml]; rfl) (Steps.refl _) (argsL := []) (rest := []) (lenOf pd_0 rfl) rfl (by show 2 * 0 + _ ≤ _; exact Nat.le_of_eq rfl) (hb hby at_41) (fun _ _ => ⟨rfl, e16, (by decide : 0 + 0 ≤ _), (by decide : 0 + 0 ≤ _)⟩)
      dsimp only [Pt.U, Pt.locs, Pt.cells, Pt.slots] at X18 l18 y18 z18 st18 hQ18
      subst l18 y18 z18
      obtain ⟨rfl, N18q, hh18⟩ := hQ18
      have N18 := Fr.app N0 N18q
      have R19 : ∀ t, Steps p.tables e below (T18.setTop (mkF m 53 #[.val (.int p1), .val (.int i1), .val (.ref aS), .val (.int (1 : Int32))] [(.int (1 : Int32))])) t → Steps p.tables e below (s₁.setTop (mkF m 0 #[.val (.int p1), .unset, .unset, .unset] [])) t := by
        intro t kt
        refine R17 _ ?_
        refine st18.trans ?_
        show Steps p.tables e below (T18.setTop (mkF m 44 #[.val (.int p1), .val (.int i1), .val (.ref aS), .val (.int (1 : Int32))] [(.int (if aS = aL then (0 : Int32) else 1))])) _
        refine XS.iloadN X18.here hx rfl (hb hby at_44) rfl ?_
        show Steps p.tables e below (T18.setTop (mkF m 45 #[.val (.int p1), .val (.int i1), .val (.ref aS), .val (.int (1 : Int32))] [(.int (1 : Int32)), (.int (if aS = aL then (0 : Int32) else 1))])) _
        refine XS.icmpNo X18.here hx rfl (hb hby at_45) rfl (teq (by simp [nS] : (if aS = aL then (0 : Int32) else 1) = (1 : Int32))).2 ?_
        show Steps p.tables e below (T18.setTop (mkF m 48 #[.val (.int p1), .val (.int i1), .val (.ref aS), .val (.int (1 : Int32))] [])) _
        refine XS.iconst X18.here hx rfl (hb hby at_48) ?_
        show Steps p.tables e below (T18.setTop (mkF m 49 #[.val (.int p1), .val (.int i1), .val (.ref aS), .val (.int (1 : Int32))] [(.int (1 : Int32))])) _
        refine XS.goto X18.here hx rfl (pc0 := 49) (pc' := 53) rfl (hb hby at_49) (by decide) (by decide) ?_
        exact kt
      obtain ⟨fs, hr, hrun, hended, hW, hsame⟩ := X18.leave (v := some (.int (1 : Int32))) (fun h => by rw [Bd.returns] at h; cases h)
      refine ⟨_, _, pre0 _ (R19 _ ?_), hrun, hended, _, _, rfl, ?_, ⟨_, rfl⟩, hW, hsame.mono (by decide) (by decide)⟩
      · exact retN X18 hx (t := .boolean) Bd.returns (by simp) (hb hby at_53) hr
      · show Q_rm_law Z p1 aL aA aS h0 n0 _ T18.heap _
        rw [hh18]
        exact ⟨rfl, N18⟩
    · have R20 : ∀ t, Steps p.tables e below (s₁.setTop (mkF m 34 #[.val (.int p1), .val (.int i1), .unset, .unset] [])) t → Steps p.tables e below (s₁.setTop (mkF m 0 #[.val (.int p1), .unset, .unset, .unset] [])) t := by
        intro t kt
        refine R14 _ ?_
        show Steps p.tables e below (s₁.setTop (mkF m 22 #[.val (.int p1), .val (.int i1), .unset, .unset] [(.int (1 : Int32)), (.int i1)])) _
        refine XS.icmpYes X0.here hx rfl (pc0 := 22) (pc' := 34) rfl (hb hby at_22) rfl (feq (hc22 : ¬ (i1 = (1 : Int32)))).2 (by decide) (by decide) ?_
        exact kt
      obtain ⟨T21, X21, e21, st21⟩ := getS2 X0 hx hZ hown (host := "") (Or.inl (hw _ (List.mem_of_getElem? (i := 10) rfl))) Via.refl e0 SA (g := (mkF m 34 #[.val (.int p1), .val (.int i1), .unset, .unset] [])) rfl (hb hby at_34)
      have R22 : ∀ t, Steps p.tables e below (T21.setTop (mkF m 41 #[.val (.int p1), .val (.int i1), .val (.ref aA), .val (.int (1 : Int32))] [(.ref aA)])) t → Steps p.tables e below (s₁.setTop (mkF m 0 #[.val (.int p1), .unset, .unset, .unset] [])) t := by
        intro t kt
        refine R20 _ ?_
        refine st21 _ ?_
        show Steps p.tables e below (T21.setTop (mkF m 37 #[.val (.int p1), .val (.int i1), .unset, .unset] [(.ref aA)])) _
        refine XS.astoreN X21.here hx rfl (hb hby at_37) rfl rfl (l' := #[.val (.int p1), .val (.int i1), .val (.ref aA), .unset]) rfl ?_
        show Steps p.tables e below (T21.setTop (mkF m 38 #[.val (.int p1), .val (.int i1), .val (.ref aA), .unset] [])) _
        refine XS.iconst X21.here hx rfl (hb hby at_38) ?_
        show Steps p.tables e below (T21.setTop (mkF m 39 #[.val (.int p1), .val (.int i1), .val (.ref aA), .unset] [(.int (1 : Int32))])) _
        refine XS.istoreN X21.here hx rfl (hb hby at_39) rfl (l' := #[.val (.int p1), .val (.int i1), .val (.ref aA), .val (.int (1 : Int32))]) rfl ?_
        show Steps p.tables e below (T21.setTop (mkF m 40 #[.val (.int p1), .val (.int i1), .val (.ref aA), .val (.int (1 : Int32))] [])) _
        refine XS.aloadN X21.here hx rfl (hb hby at_40) rfl rfl ?_
        exact kt
      obtain ⟨cq23, kq23, q23a, q23b, q23c⟩ := isOf hZ e21 EA
      obtain ⟨_, _, ⟨T23, L23, k23, n23⟩, -, X23, ⟨Lc23, hQ23, l23, y23, z23⟩, st23⟩ := X21.virtualBack hx (y := (⟨"com/example/archivolt/archivolt/core/ro/CopyType", "isFrozen", "()Z"⟩ : MethodName)) (z := (⟨"com/example/archivolt/archivolt/core/ro/CopyType", "isFrozen", "()Z"⟩ : MethodName)) hown (mvT hZ (hw _ (List.mem_of_getElem? (i := 4) rfl))) (mvT hZ (hw _ (List.mem_of_getElem? (i := 5) rfl))) (notFace_of_selects (args := #[]) (mvT hZ (hw _ (List.mem_of_getElem? (i := 7) rfl)))) (mvT hZ (hw _ (List.mem_of_getElem? (i := 7) rfl))) (mvT hZ (hw _ (List.mem_of_getElem? (i := 6) rfl))) (by decide) (backOf (W := 0) (rm_fr l Z a0 hw [] aA aL h0 n0 Z0 SL) hZ (hw _ (List.mem_of_getElem? (i := 8) rfl)) (hw _ (List.mem_of_getElem? (i := 2) rfl)) (by decide) (by decide)) q23a q23c (g := (mkF m 41 #[.val (.int p1), .val (.int i1), .val (.ref aA), .val (.int (1 : Int32))] [(.ref aA)])) rfl (by rw [hml]; rfl) (Steps.refl _) (argsL := []) (rest := []) (lenOf pd_0 rfl) rfl (by show 2 * 0 + _ ≤ _; exact Nat.le_of_eq rfl) (hb hby at_41) (fun _ _ => ⟨rfl, e21, (by decide : 0 + 0 ≤ _), (by decide : 0 + 0 ≤ _)⟩)
      dsimp only [Pt.U, Pt.locs, Pt.cells, Pt.slots] at X23 l23 y23 z23 st23 hQ23
      subst l23 y23 z23
      obtain ⟨rfl, N23q, hh23⟩ := hQ23
      have N23 := Fr.app N0 N23q
      have R24 : ∀ t, Steps p.tables e below (T23.setTop (mkF m 53 #[.val (.int p1), .val (.int i1), .val (.ref aA), .val (.int (1 : Int32))] [(.int (1 : Int32))])) t → Steps p.tables e below (s₁.setTop (mkF m 0 #[.val (.int p1), .unset, .unset, .unset] [])) t := by
        intro t kt
        refine R22 _ ?_
        refine st23.trans ?_
        show Steps p.tables e below (T23.setTop (mkF m 44 #[.val (.int p1), .val (.int i1), .val (.ref aA), .val (.int (1 : Int32))] [(.int (if aA = aL then (0 : Int32) else 1))])) _
        refine XS.iloadN X23.here hx rfl (hb hby at_44) rfl ?_
        show Steps p.tables e below (T23.setTop (mkF m 45 #[.val (.int p1), .val (.int i1), .val (.ref aA), .val (.int (1 : Int32))] [(.int (1 : Int32)), (.int (if aA = aL then (0 : Int32) else 1))])) _
        refine XS.icmpNo X23.here hx rfl (hb hby at_45) rfl (teq (by simp [nA] : (if aA = aL then (0 : Int32) else 1) = (1 : Int32))).2 ?_
        show Steps p.tables e below (T23.setTop (mkF m 48 #[.val (.int p1), .val (.int i1), .val (.ref aA), .val (.int (1 : Int32))] [])) _
        refine XS.iconst X23.here hx rfl (hb hby at_48) ?_
        show Steps p.tables e below (T23.setTop (mkF m 49 #[.val (.int p1), .val (.int i1), .val (.ref aA), .val (.int (1 : Int32))] [(.int (1 : Int32))])) _
        refine XS.goto X23.here hx rfl (pc0 := 49) (pc' := 53) rfl (hb hby at_49) (by decide) (by decide) ?_
        exact kt
      obtain ⟨fs, hr, hrun, hended, hW, hsame⟩ := X23.leave (v := some (.int (1 : Int32))) (fun h => by rw [Bd.returns] at h; cases h)
      refine ⟨_, _, pre0 _ (R24 _ ?_), hrun, hended, _, _, rfl, ?_, ⟨_, rfl⟩, hW, hsame.mono (by decide) (by decide)⟩
      · exact retN X23 hx (t := .boolean) Bd.returns (by simp) (hb hby at_53) hr
      · show Q_rm_law Z p1 aL aA aS h0 n0 _ T23.heap _
        rw [hh23]
        exact ⟨rfl, N23⟩
set_option maxRecDepth 65536 in
set_option maxHeartbeats 40000000 in
theorem comes_1 {Post : Tables → Env → Array Value → State → Outcome → State → Prop} (hpost : ∀ tb e args s v u, (limb_1_1.after args s (.returned v) u = true ∧ limb_1_2.after args s (.returned v) u = true ∧ True) → FrameEnd s (.returned v) u (Jvm.fieldLocs frame_1_writes args s ++ Jvm.arrayLocs frame_1_arrays args s ++ Jvm.staticLocs frame_1_statics s) 0 0 → Post tb e args s (.returned v) u) :
    ArmFor flags0 classFile x code maxLocals ret World_1 tables_1 room_1 Calls_1 rest_1 Pre_1 Post := by
  intro l hfl _ _ p e ha hc hk s m args below hf hA hF happ hP
  obtain ⟨hcalls, hrest, hpre⟩ := hP
  obtain ⟨-, -, -, hnamed, -, -, -, hat⟩ := (Spec.applies_iff hf).mp happ
  obtain ⟨hg, hn⟩ := and_e (Cond.before_iff.mp (show (Jvm.Cond.and given_1 narrow_1).before args s = true from hpre))
  obtain ⟨gc, gr0⟩ := and_e hg
  obtain ⟨w0, rfl⟩ : ∃ w0 : Value, args = #[w0] := by
    have hs : args.size = 1 := by simpa [Cond.value, given_1] using gc
    obtain ⟨L⟩ := args
    match L, hs with
    | [w0], _ => exact ⟨w0, rfl⟩
  have hw := fun d (hd : d ∈ tables_1) => atoms_spec (ws := Jvm.Cond.code x code maxLocals ret :: tables_1) hat d (List.mem_cons_of_mem _ hd)
  have hfit : Fit s := fun {y c} hc i hi => by
    obtain ⟨ha, rfl⟩ := Array.getElem?_eq_some_iff.mp hc
    have q := List.all_eq_true.mp ((Array.all_eq_true_iff_forall_mem.mp hF) _ (Array.getElem_mem ha)) i (List.mem_range.mpr hi)
    simpa [Array.getElem?_eq_getElem hi] using q
  obtain ⟨i0, ei0⟩ := is_v gr0
  obtain rfl : w0 = (.int i0) := Option.some.inj ei0
  obtain ⟨x1, y1⟩ := and_e (show (Jvm.Cond.and _ _).value _ s none s [] = some true from hn)
  obtain ⟨x2, y2⟩ := and_e y1
  obtain ⟨x3, y3⟩ := and_e y2
  obtain ⟨x4, y4⟩ := and_e y3
  obtain ⟨x5, x6⟩ := and_e y4
  obtain ⟨aL, vL⟩ := exa_v x1
  obtain ⟨aA, vA⟩ := exa_v x2
  obtain ⟨aS, vS⟩ := exa_v x5
  have SL := Sta.start vL (Or.inr ⟨(hw _ (List.mem_of_getElem? (i := 2) rfl)), (hw _ (List.mem_of_getElem? (i := 3) rfl))⟩)
  have SA := Sta.start vA (Or.inr ⟨(hw _ (List.mem_of_getElem? (i := 2) rfl)), (hw _ (List.mem_of_getElem? (i := 11) rfl))⟩)
  have SS := Sta.start vS (Or.inr ⟨(hw _ (List.mem_of_getElem? (i := 2) rfl)), (hw _ (List.mem_of_getElem? (i := 13) rfl))⟩)
  have nA := own_ne vA vL x3 x4 (by decide)
  have nS := own_ne vS vL x6 x4 (by decide)
  obtain ⟨n, o, h1, h2, h3, _, L, rfl, ⟨rfl, N⟩, hq⟩ := rm_law l s _ hw tables_1 i0 aL aA aS s.heap s.heap.size (Nat.le_refl _) SL SA SS (Exa.start vL x1) (Exa.start vA x2) (Exa.start vS x5) nA nS p e ha hc hk s m _ below hf ((Spec.applies_iff_loose hf).mp happ).1 ⟨rfl, State.Warmed39.refl s, rfl⟩ trivial
  refine ⟨n, _, h1, h2, h3, hpost _ _ _ _ _ _ ⟨Cond.after_iff.mpr rfl, Cond.after_iff.mpr (eq_i res_at (Term.int_eval (1)) rfl), trivial⟩ ⟨hq.1, hq.2.1, (hq.2.2.sift fun y hy => Or.inr (N y hy)).mono (by decide) (by decide)⟩⟩
theorem main_1_1 : Claimed_1_1 := comes_1 fun _ _ _ _ _ _ h hF => ⟨h.1, hF⟩
theorem main_1_2 : Claimed_1_2 := comes_1 fun _ _ _ _ _ _ h hF => ⟨h.2.1, hF⟩
end Jvm.Pilot.@@N@@
namespace Jvm.Pilot.@@N@@
open Jvm Jvm.ClassFile Sem Op Lib Jvm.Free Jvm.Stand Jvm.Pilot.@@N@@.Jvm.D
/-! MADE BY PROGRAM (witnessworld.py) out of the Statement's table words and the real class files: 12 classes; the members and pool entries that the words name. The judged class is class 1, her method 1. -/
namespace start1
open Jvm.ClassFile
def u (s : String) : CpInfo := .utf8 (stringToUtf16 s)
/-- a pool by its gaps: so many unusable entries, then the entry; so many at the end -/
def gap : Nat → List CpInfo → List CpInfo
  | 0, r => r
  | n + 1, r => .unusable :: gap n r
def poolList (es : List (Nat × CpInfo)) (last : Nat) : List CpInfo := es.foldr (fun e r => gap e.1 (e.2 :: r)) (gap last [])
def pool (es : List (Nat × CpInfo)) (last : Nat) : Array CpInfo := ⟨poolList es last⟩
def fileOf (pool : Array CpInfo) (this : Nat) (attrs : Array Attribute := #[]) (ms : Array MethodInfo := #[]) (fl : Nat := 33) (sup : Nat := 0) (ifs : Array Nat := #[]) (fds : Array FieldInfo := #[]) : ClassFile where
  minorVersion := 0
  majorVersion := 65
  constantPool := pool
  accessFlags := fl
  thisClass := this
  superClass := sup
  interfaces := ifs
  fields := fds
  methods := ms
  attributes := attrs
def plain (name : String) (sup : Option ClassId) : Class where
  name := name
  kind := .ordinary
  loader := none
  accessFlags := 33
  super := sup
  interfaces := #[]
  cf := none
  fields := #[]
  methods := #[]
  instanceTypes := #[]
  staticTypes := #[]
  resolved := #[]
  callSites := []
  init := .initialized
  statics := none
  mirror := none

def pool0 : Array CpInfo := pool [(5, u "<init>"), (0, u "()V"), (1, .class_ 10), (1, u "java/lang/Object")] 113

def k0m0 : Method := { name := "<init>", desc := "()V", sig := { parameters := [], returnType := none }, accessFlags := 1, code := none }
/-- java/lang/Object -/
def k0 : Class := { plain "java/lang/Object" none with
  accessFlags := 33
  interfaces := #[]
  cf := some (fileOf pool0 8 #[] #[{ accessFlags := 1, nameIndex := 5, descriptorIndex := 6, attributes := #[] }] 33 0 #[] #[])
  fields := #[]
  methods := #[k0m0]
  instanceTypes := #[]
  staticTypes := #[]
  resolved := Array.replicate 124 none
  statics := none }

def pool1 : Array CpInfo := pool [(2, .class_ 4), (1, u "java/lang/Object"), (0, u "<init>"), (0, u "()V"), (0, .integer 2147483647), (0, .fieldref 9 10), (0, .class_ 11), (0, .nameAndType 12 13), (0, u "com/example/archivolt/archivolt/core/ro/CopyType"), (0, u "LIVE"), (0, u "Lcom/example/archivolt/archivolt/core/ro/CopyType;"), (0, .fieldref 9 15), (0, .nameAndType 16 13), (0, u "SNAPSHOT"), (0, .fieldref 9 18), (0, .nameAndType 19 13), (0, u "ARCHIVE"), (0, .methodref 9 21), (0, .nameAndType 22 23), (0, u "isFrozen"), (0, u "()Z"), (0, .class_ 25), (0, u "com/example/archivolt/archivolt/core/ro/CopyTypeIsFrozenPinLaw"), (2, u "law"), (0, u "(I)Z")] 3

def k1m0 : Method := { name := "<init>", desc := "()V", sig := { parameters := [], returnType := none }, accessFlags := 2, code := none }
def k1c1 : Code := { maxStack := 2, maxLocals := 4, code := code, exceptionTable := #[], attributes := #[] }
def k1m1 : Method := { name := "law", desc := "(I)Z", sig := { parameters := [.int], returnType := some .boolean }, accessFlags := 9, code := some k1c1 }
/-- com/example/archivolt/archivolt/core/ro/CopyTypeIsFrozenPinLaw -/
def k1 : Class := { plain "com/example/archivolt/archivolt/core/ro/CopyTypeIsFrozenPinLaw" (some 0) with
  accessFlags := 49
  interfaces := #[]
  cf := some (fileOf pool1 24 #[] #[{ accessFlags := 2, nameIndex := 5, descriptorIndex := 6, attributes := #[] }, { accessFlags := 9, nameIndex := 28, descriptorIndex := 29, attributes := #[] }] 49 2 #[] #[])
  fields := #[]
  methods := #[k1m0, k1m1]
  instanceTypes := #[]
  staticTypes := #[]
  resolved := Array.replicate 33 none
  statics := none }

def pool2 : Array CpInfo := pool [(1, .class_ 2), (0, u "java/lang/constant/Constable"), (0, .class_ 4), (0, u "java/lang/Object")] 6

/-- java/lang/constant/Constable -/
def k2 : Class := { plain "java/lang/constant/Constable" (some 0) with
  accessFlags := 1537
  interfaces := #[]
  cf := some (fileOf pool2 1 #[] #[] 1537 3 #[] #[])
  fields := #[]
  methods := #[]
  instanceTypes := #[]
  staticTypes := #[]
  resolved := Array.replicate 11 none
  statics := none }

def pool3 : Array CpInfo := pool [(1, .class_ 2), (0, u "java/lang/Comparable"), (0, .class_ 4), (0, u "java/lang/Object")] 7

/-- java/lang/Comparable -/
def k3 : Class := { plain "java/lang/Comparable" (some 0) with
  accessFlags := 1537
  interfaces := #[]
  cf := some (fileOf pool3 1 #[] #[] 1537 3 #[] #[])
  fields := #[]
  methods := #[]
  instanceTypes := #[]
  staticTypes := #[]
  resolved := Array.replicate 12 none
  statics := none }

def pool4 : Array CpInfo := pool [(1, .class_ 2), (0, u "java/io/Serializable"), (0, .class_ 4), (0, u "java/lang/Object")] 2

/-- java/io/Serializable -/
def k4 : Class := { plain "java/io/Serializable" (some 0) with
  accessFlags := 1537
  interfaces := #[]
  cf := some (fileOf pool4 1 #[] #[] 1537 3 #[] #[])
  fields := #[]
  methods := #[]
  instanceTypes := #[]
  staticTypes := #[]
  resolved := Array.replicate 7 none
  statics := none }

def pool5 : Array CpInfo := pool [(2, .class_ 4), (1, u "java/lang/Enum"), (0, u "name"), (0, u "Ljava/lang/String;"), (2, u "ordinal"), (0, u "I"), (1, .class_ 14), (1, u "java/lang/Object"), (4, u "hash"), (86, .class_ 108), (1, u "java/lang/Enum$EnumDesc"), (2, .class_ 112), (0, u "java/lang/constant/Constable"), (0, .class_ 114), (0, u "java/lang/Comparable"), (0, .class_ 116), (0, u "java/io/Serializable")] 87

/-- java/lang/Enum -/
def k5 : Class := { plain "java/lang/Enum" (some 0) with
  accessFlags := 1057
  interfaces := #[2, 3, 4]
  cf := some (fileOf pool5 2 #[.nestMembers #[106]] #[] 1057 12 #[111, 113, 115] #[{ accessFlags := 18, nameIndex := 5, descriptorIndex := 6, attributes := #[] }, { accessFlags := 18, nameIndex := 9, descriptorIndex := 10, attributes := #[] }, { accessFlags := 2, nameIndex := 19, descriptorIndex := 10, attributes := #[] }])
  fields := #[{ name := "name", type := (.object "java/lang/String"), accessFlags := 18, slot := 0, constantValue := 0 }, { name := "ordinal", type := .int, accessFlags := 18, slot := 1, constantValue := 0 }, { name := "hash", type := .int, accessFlags := 2, slot := 2, constantValue := 0 }]
  methods := #[]
  instanceTypes := #[(.object "java/lang/String"), .int, .int]
  staticTypes := #[]
  resolved := Array.replicate 204 none
  statics := none }

def pool6 : Array CpInfo := pool [(1, .class_ 2), (0, u "com/example/archivolt/archivolt/core/ro/CopyType"), (0, .fieldref 1 4), (0, .nameAndType 5 6), (0, u "LIVE"), (0, u "Lcom/example/archivolt/archivolt/core/ro/CopyType;"), (2, u "SNAPSHOT"), (2, u "ARCHIVE"), (2, u "$VALUES"), (0, u "[Lcom/example/archivolt/archivolt/core/ro/CopyType;"), (6, .class_ 25), (1, u "java/lang/Enum"), (54, u "isFrozen"), (0, u "()Z")] 19

def k6c0 : Code := { maxStack := 2, maxLocals := 1, code := prog_7_method_5_code, exceptionTable := #[], attributes := #[] }
def k6m0 : Method := { name := "isFrozen", desc := "()Z", sig := { parameters := [], returnType := some .boolean }, accessFlags := 1, code := some k6c0 }
/-- com/example/archivolt/archivolt/core/ro/CopyType -/
def k6 : Class := { plain "com/example/archivolt/archivolt/core/ro/CopyType" (some 5) with
  accessFlags := 16433
  interfaces := #[]
  cf := some (fileOf pool6 1 #[] #[{ accessFlags := 1, nameIndex := 80, descriptorIndex := 81, attributes := #[] }] 16433 23 #[] #[{ accessFlags := 16409, nameIndex := 5, descriptorIndex := 6, attributes := #[] }, { accessFlags := 16409, nameIndex := 9, descriptorIndex := 6, attributes := #[] }, { accessFlags := 16409, nameIndex := 12, descriptorIndex := 6, attributes := #[] }, { accessFlags := 4122, nameIndex := 15, descriptorIndex := 16, attributes := #[] }])
  fields := #[{ name := "LIVE", type := (.object "com/example/archivolt/archivolt/core/ro/CopyType"), accessFlags := 16409, slot := 0, constantValue := 0 }, { name := "SNAPSHOT", type := (.object "com/example/archivolt/archivolt/core/ro/CopyType"), accessFlags := 16409, slot := 1, constantValue := 0 }, { name := "ARCHIVE", type := (.object "com/example/archivolt/archivolt/core/ro/CopyType"), accessFlags := 16409, slot := 2, constantValue := 0 }, { name := "$VALUES", type := (.array (.object "com/example/archivolt/archivolt/core/ro/CopyType")), accessFlags := 4122, slot := 3, constantValue := 0 }]
  methods := #[k6m0]
  instanceTypes := #[(.object "java/lang/String"), .int, .int]
  staticTypes := #[(.object "com/example/archivolt/archivolt/core/ro/CopyType"), (.object "com/example/archivolt/archivolt/core/ro/CopyType"), (.object "com/example/archivolt/archivolt/core/ro/CopyType"), (.array (.object "com/example/archivolt/archivolt/core/ro/CopyType"))]
  resolved := Array.replicate 101 none
  statics := some 0 }

def pool7 : Array CpInfo := pool [(1, u "java/lang/Cloneable"), (0, .class_ 1), (0, u "java/lang/Object"), (0, .class_ 3)] 3

/-- java/lang/Cloneable -/
def k7 : Class := { plain "java/lang/Cloneable" (some 0) with
  accessFlags := 1537
  interfaces := #[]
  cf := some (fileOf pool7 2 #[] #[] 1537 4 #[] #[])
  fields := #[]
  methods := #[]
  instanceTypes := #[]
  staticTypes := #[]
  resolved := Array.replicate 8 none
  statics := none }

/-- the primitive byte -/
def k8 : Class := { plain "byte" none with kind := .primitive 'B', accessFlags := 0x411 }
/-- [B -/
def k9 : Class := { plain "[B" (some 0) with kind := .array 8 .byte, interfaces := #[7, 4], accessFlags := 1041 }

/-- the primitive int -/
def k10 : Class := { plain "int" none with kind := .primitive 'I', accessFlags := 0x411 }
/-- [I -/
def k11 : Class := { plain "[I" (some 0) with kind := .array 10 .int, interfaces := #[7, 4], accessFlags := 1041 }

def heap : Heap := #[{ cls := 6, slots := #[.ref 1, .ref 2, .ref 3, .null], vm := .statics 6 },
  { cls := 6, slots := #[.null, .int 0, .int 0], vm := .none },
  { cls := 6, slots := #[.null, .int 1, .int 0], vm := .none },
  { cls := 6, slots := #[.null, .int 2, .int 0], vm := .none }]
def classes : Array Class := #[k0, k1, k2, k3, k4, k5, k6, k7, k8, k9, k10, k11]
def interned : List (Array UInt16 × Addr) := []
def slotsUsed : Nat := 13
def theMethod : MethodId := ⟨1, 1⟩
def args0 : Array Value := #[.int 5]
def aboutOver (below : List Frame) : State where
  vm := { classes := classes, interned := interned.toArray }
  heap := heap
  slotsUsed := slotsUsed
  threads := #[{ frames := .invoking theMethod args0 :: below }]
def below0 : List Frame := [.native { method := ⟨0, 0⟩, args := #[] }]
def about1 : State := aboutOver below0
def p0 : Program := .bare "" "" ""
def e0 : Env := launch0.env 0 0 0
theorem w_frames : about1.frames = Frame.invoking theMethod args0 :: below0 := rfl
set_option maxRecDepth 65536 in
theorem w_args : argsFit about1.vm theMethod args0 = true := by decide +kernel
set_option maxRecDepth 65536 in
theorem w_heap : heapFits about1 = true := by decide +kernel
set_option maxRecDepth 65536 in
theorem w_runnable : about1.curStatus? = some .runnable := by decide +kernel
set_option maxRecDepth 65536 in
theorem w_alone : about1.alone = true := by decide +kernel
set_option maxRecDepth 65536 in
theorem w_named : about1.methodNamed? x = some theMethod := by decide +kernel
set_option maxRecDepth 65536 in
theorem w_hears : about1.hears theMethod below0 = true := by decide +kernel
set_option maxRecDepth 65536 in
theorem w_ripe : about1.ripe theMethod args0 below0 = true := by decide +kernel
theorem w_running : about1.status = .running := rfl
set_option maxRecDepth 65536 in
theorem w_room : about1.hasRoom e0.platform room_1 = true :=
  launch0.hasRoom_least _ room_1 (by decide +kernel) (by decide +kernel) (by decide +kernel) (by decide +kernel) (by decide +kernel) (by decide +kernel)
theorem allAtoms_all (ts : List Jvm.Cond) (a : Array Jvm.Value) (st : Jvm.State) : (allAtoms ts).before a st = ts.all (fun c => c.before a st) := by
  induction ts with
  | nil => rfl
  | cons c t ih =>
    show (Jvm.Cond.and c (allAtoms t)).before a st = _
    rw [Jvm.Cond.before_and, ih, List.all_cons]
def words1 : List Jvm.Cond := Jvm.Cond.code x code maxLocals ret :: tables_1
/-- a 'code' word, met by the world's own term for the bytes: nothing is compared byte by byte -/
theorem code_word {y : MethodName} {bytes : ByteArray} {mx : Nat} {rt : Option FieldType} {a : Array Value} {s : State} {m : MethodId} {meth : Method} {c : Code} (h1 : s.methodNamed? y = some m) (h2 : s.vm.method? m = some meth) (h3 : meth.code = some c) (h4 : c.code = bytes)
    (h5 : (c.maxLocals == mx && c.exceptionTable.isEmpty && decide (c.maxStack ≤ mostOperands) && decide (meth.sig.returnType = rt) && !meth.locks && decide (parseMethodDescriptor y.desc = some meth.sig)) = true) : (Jvm.Cond.code y bytes mx rt).before a s = true := by
  simp only [Bool.and_eq_true, beq_iff_eq, Bool.not_eq_true', decide_eq_true_eq] at h5
  obtain ⟨⟨⟨⟨⟨g1, g2⟩, g3⟩, g4⟩, g5⟩, g6⟩ := h5
  simp [Cond.before, Cond.holds, Cond.value, h1, h2, h3, h4, g1, g2, g3, g4, g5, g6]
def isCode : Jvm.Cond → Bool
  | .code _ _ _ _ => true
  | _ => false
theorem all_split {L : List Jvm.Cond} {P : Jvm.Cond → Bool} (h1 : L.all (fun c => isCode c || P c) = true) (h2 : ∀ c ∈ L.filter isCode, P c = true) : L.all P = true := by
  refine List.all_eq_true.mpr fun c hc => ?_
  have h := List.all_eq_true.mp h1 c hc
  rcases Bool.eq_false_or_eq_true (isCode c) with hi | hi
  · exact h2 c (List.mem_filter.mpr ⟨hc, hi⟩)
  · simpa [hi] using h
set_option maxRecDepth 65536 in
theorem w_c0 : (Jvm.Cond.code x code maxLocals ret).before args0 about1 = true := code_word (m := ⟨1, 1⟩) (meth := k1m1) (c := k1c1) (by decide +kernel) rfl rfl rfl (by decide +kernel)
set_option maxRecDepth 65536 in
theorem w_c1 : (Jvm.Cond.code ({ cls := "com/example/archivolt/archivolt/core/ro/CopyType", name := "isFrozen", desc := "()Z" } : Jvm.MethodName) prog_7_method_5_code (1 : Nat) (Option.some Jvm.ClassFile.FieldType.boolean)).before args0 about1 = true := code_word (m := ⟨6, 0⟩) (meth := k6m0) (c := k6c0) (by decide +kernel) rfl rfl rfl (by decide +kernel)
def codes1 : List Jvm.Cond := [Jvm.Cond.code x code maxLocals ret, Jvm.Cond.code ({ cls := "com/example/archivolt/archivolt/core/ro/CopyType", name := "isFrozen", desc := "()Z" } : Jvm.MethodName) prog_7_method_5_code (1 : Nat) (Option.some Jvm.ClassFile.FieldType.boolean)]
set_option maxRecDepth 65536 in
theorem codes_eq : words1.filter isCode = codes1 := rfl
theorem w_codes : ∀ c ∈ words1.filter isCode, c.before args0 about1 = true := by
  rw [codes_eq]
  intro c hc
  simp only [codes1, List.mem_cons, List.not_mem_nil, or_false] at hc
  rcases hc with rfl | rfl
  · exact w_c0
  · exact w_c1
set_option maxRecDepth 65536 in
theorem w_t1 : words1.all (fun c => isCode c || c.before args0 about1) = true := by decide +kernel
theorem w_tables : (allAtoms (Jvm.Cond.code x code maxLocals ret :: tables_1)).before args0 about1 = true := by
  rw [allAtoms_all]
  show words1.all (fun c => c.before args0 about1) = true
  refine all_split ?_ w_codes
  rw [w_t1]
set_option maxRecDepth 65536 in
theorem w_case : (Jvm.Cond.and given_1 narrow_1).before args0 about1 = true := by decide +kernel
theorem w_applies : (headSpec (Jvm.Cond.code x code maxLocals ret :: tables_1) room_1).applies x e0.platform about1 = true :=
  (Spec.applies_iff w_frames).mpr ⟨w_running, w_runnable, w_alone, w_named, w_hears, w_ripe, w_room, w_tables⟩
theorem atStart : AtStart classFile x code maxLocals ret World_1 tables_1 room_1 Calls_1 rest_1 Pre_1 launch0 p0 e0 about1 theMethod args0 below0 :=
  ⟨lists_1, trivial, launch0.admits_env _ _ _, launch0.least_env, fairChoices_fair.cas, fairChoices_fair.clock, w_frames, w_args, w_heap, w_applies, trivial, trivial, w_case⟩
end start1
theorem witness_1 : WitnessClaimed_1 := ⟨start1.p0, start1.e0, start1.about1, start1.theMethod, start1.args0, start1.below0, start1.atStart⟩
end Jvm.Pilot.@@N@@
