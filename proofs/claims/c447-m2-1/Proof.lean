import JvmDerived
import JvmDerived.Pilot.@@N@@Statement
import JvmDerived.Pilot.@@N@@Code
set_option linter.unusedVariables false
set_option linter.unusedSimpArgs false
namespace Jvm.RoadKit
open Sem ClassFile Op Lib Jvm.Stand Jvm.Free Jvm.LawKit
section New
variable {p : Program} {l : Launch} {e : Env} {R : Room} {s : State} {m : MethodId} {args : Array Value} {below : List Frame} {meth : Method} {c : Code} {T : State} {locs : List Loc} {cells slots : Nat}
theorem retI (X : Stand p l e R s m args below meth c T locs cells slots) (hx : p.tables.exec = Jvm.exec) {pc : Nat} {Ls : Array Slot} {z : Int32} {rest : List Value} (hret : meth.sig.returnType = some .int) (hd : decode c.code pc = .ok (.ireturn, 1)) {fs : List Frame}
    (hl : ∀ (f : JFrame) (acts : List Action), f.method = m → f.locked = none → f.entered = [] → (doReturn e (T.setTop f) acts (some (.int z))).1 = T.setFrames fs) : Steps p.tables e below (T.setTop (mkF m pc Ls (.int z :: rest))) (T.setFrames fs) := by
  have hm' : T.vm.method? m = some meth := X.method'
  have hn : narrow .int (.int z) = .int z := rfl
  show Steps p.tables e below (T.setTop { method := m, pc := pc, locals := Ls, stack := _ :: rest, locked := none }) _
  jvm_step X.here [X.here.top, hx, hd, hm', hret, hn]
  first | (intro acts; rw [hl _ acts rfl rfl rfl]) | rw [hl _ _ rfl rfl rfl]
  exact Steps.refl _
end New
end Jvm.RoadKit
namespace Jvm.Pilot.@@N@@
open Jvm Jvm.ClassFile Sem Op Lib Jvm.Free Jvm.Stand Jvm.LawKit Jvm.RoadKit Bundle Jvm.Pilot.@@N@@.Jvm.D
abbrev vI (x : Int32) : Slot := .val (.int x)
abbrev vJ (x : Int64) : Slot := .val (.long x)
abbrev vR (x : Addr) : Slot := .val (.ref x)
def AV (Z : State) (h : Heap) (a : Addr) (ty : FieldType) (n : Nat) (f : Nat → Value) : Prop := ∃ c : Cell, Arr Z h a c ty ∧ c.slots.size = n ∧ ∀ j, j < n → c.slots[j]? = some (f j) ∧ fits ty (f j) = true
def own_upd (f : Nat → Value) (k : Nat) (v : Value) : Nat → Value := fun j => if j = k then v else f j
section AVs
variable {Z : State} {h h' : Heap} {a b : Addr} {ty : FieldType} {n : Nat} {f : Nat → Value} {v : Value} {sl : Nat}
theorem AV.lt (A : AV Z h a ty n f) : a < h.size := by obtain ⟨c, A, -⟩ := A; exact A.lt
theorem AV.ext (A : AV Z h a ty n f) (E : Ext h h') : AV Z h' a ty n f := by obtain ⟨c, A, r⟩ := A; exact ⟨c, A.ext E, r⟩
theorem AV.other (A : AV Z h b ty n f) (W : Wr h h' a sl v) (q : b ≠ a) : AV Z h' b ty n f := by obtain ⟨c, A, r⟩ := A; exact ⟨c, A.other W q, r⟩
theorem AV.keep {ws : List Addr} (A : AV Z h a ty n f) (K : Keep h h' ws) (q : a ∉ ws) : AV Z h' a ty n f := by obtain ⟨c, A, r⟩ := A; exact ⟨c, ⟨K.2.1 a c A.1 q, A.2⟩, r⟩
theorem AV.new {k : ClassId} {z : Int32} (A : Arr Z h a (newA k ty z) ty) (hz : z.toNatClampNeg = n) (hf : fits ty (defaultValue ty) = true) : AV Z h a ty n (fun _ => defaultValue ty) := ⟨_, A, by rw [sz_new]; exact hz, fun j hj => ⟨by simp [newA, hz, hj], hf⟩⟩
theorem AV.set (A : AV Z h a ty n f) (W : Wr h h' a sl v) (hv : fits ty v = true) : AV Z h' a ty n (own_upd f sl v) := by
  obtain ⟨c, A, S, H⟩ := A
  refine ⟨_, A.same W, by rw [sz_set]; exact S, fun j hj => ?_⟩
  by_cases e : j = sl
  · subst e
    exact ⟨by simp [Cell.setSlot, own_upd, S, hj], by simp [own_upd, hv]⟩
  · have e2 : (c.setSlot sl v).slots[j]? = c.slots[j]? := Array.getElem?_setIfInBounds_ne (Ne.symm e)
    exact ⟨by rw [e2, own_upd, if_neg e]; exact (H j hj).1, by rw [own_upd, if_neg e]; exact (H j hj).2⟩
theorem AV.at (A : AV Z h a ty n f) {j : Int32} {k : Nat} (h0 : ¬ j < 0) (hj : j.toNatClampNeg = k) (hk : k < n) : ∃ c : Cell, Arr Z h a c ty ∧ ¬ (j < 0 ∨ c.slots.size ≤ j.toNatClampNeg) ∧ c.slots[j.toNatClampNeg]? = some (f k) := by
  obtain ⟨c, A, S, H⟩ := A
  exact ⟨c, A, fun q => q.elim h0 (fun r => by omega), by rw [hj]; exact (H k hk).1⟩
theorem AV.len (A : AV Z h a ty n f) : ∃ c : Cell, Arr Z h a c ty ∧ c.slots.size.toInt32 = n.toInt32 := by
  obtain ⟨c, A, S, H⟩ := A
  exact ⟨c, A, by rw [S]⟩
theorem AV.congr (A : AV Z h a ty n f) {g : Nat → Value} (e : ∀ j, j < n → f j = g j) : AV Z h a ty n g := by
  obtain ⟨c, A, S, H⟩ := A
  exact ⟨c, A, S, fun j hj => by rw [← e j hj]; exact H j hj⟩
theorem AV.fit (A : AV Z h a ty n f) {j : Nat} (hj : j < n) : fits ty (f j) = true := by
  obtain ⟨c, A, S, H⟩ := A
  exact (H j hj).2
end AVs
theorem own_notin1 {a b : Addr} (h : a ≠ b) : a ∉ [b] := fun q => h (List.mem_singleton.mp q)
theorem own_notin2 {a b c : Addr} (h : a ≠ b) (h2 : a ≠ c) : a ∉ [b, c] := fun q => by
  rcases List.mem_cons.mp q with r | r
  · exact h r
  · exact own_notin1 h2 r
theorem own_notin0 {a : Addr} : a ∉ ([] : List Addr) := nofun
theorem own_trans0 {ws : List Addr} {n : Nat} : ∀ x ∈ ([] : List Addr), x ∈ ws ∨ n ≤ x := nofun
theorem own_trans1 {ws : List Addr} {n : Nat} {a : Addr} (h : a ∈ ws ∨ n ≤ a) : ∀ x ∈ [a], x ∈ ws ∨ n ≤ x := fun x q => by cases List.mem_singleton.mp q; exact h
theorem own_trans2 {ws : List Addr} {n : Nat} {a b : Addr} (h : a ∈ ws ∨ n ≤ a) (h2 : b ∈ ws ∨ n ≤ b) : ∀ x ∈ [a, b], x ∈ ws ∨ n ≤ x := fun x q => by
  rcases List.mem_cons.mp q with r | r
  · cases r; exact h
  · cases List.mem_singleton.mp r; exact h2
def own_set {α : Type} (f : Nat → α) (k : Nat) (v : α) : Nat → α := fun j => if j = k then v else f j
section AVt
variable {Z : State} {h h' : Heap} {a : Addr} {n sl : Nat}
theorem AV.setI {g : Nat → Int32} {v : Int32} (A : AV Z h a .int n (fun j => .int (g j))) (W : Wr h h' a sl (.int v)) : AV Z h' a .int n (fun j => .int (own_set g sl v j)) := (A.set W rfl).congr (fun j _ => by simp only [own_upd, own_set]; split <;> rfl)
theorem AV.setJ {g : Nat → Int64} {v : Int64} (A : AV Z h a .long n (fun j => .long (g j))) (W : Wr h h' a sl (.long v)) : AV Z h' a .long n (fun j => .long (own_set g sl v j)) := (A.set W rfl).congr (fun j _ => by simp only [own_upd, own_set]; split <;> rfl)
end AVt
theorem own_notin3 {a b c d : Addr} (h : a ≠ b) (h2 : a ≠ c) (h3 : a ≠ d) : a ∉ [b, c, d] := fun q => by
  rcases List.mem_cons.mp q with r | r
  · exact h r
  · exact own_notin2 h2 h3 r
theorem own_trans3 {ws : List Addr} {n : Nat} {a b c : Addr} (h : a ∈ ws ∨ n ≤ a) (h2 : b ∈ ws ∨ n ≤ b) (h3 : c ∈ ws ∨ n ≤ c) : ∀ x ∈ [a, b, c], x ∈ ws ∨ n ≤ x := fun x q => by
  rcases List.mem_cons.mp q with r | r
  · cases r; exact h
  · exact own_trans2 h2 h3 x r
theorem own_ge0 {n : Nat} : ∀ x ∈ ([] : List Addr), n ≤ x := nofun
theorem own_ge1 {n : Nat} {a : Addr} (h : n ≤ a) : ∀ x ∈ [a], n ≤ x := fun x q => by cases List.mem_singleton.mp q; exact h
theorem own_ge2 {n : Nat} {a b : Addr} (h : n ≤ a) (h2 : n ≤ b) : ∀ x ∈ [a, b], n ≤ x := fun x q => by
  rcases List.mem_cons.mp q with r | r
  · cases r; exact h
  · cases List.mem_singleton.mp r; exact h2
theorem own_ib (L : List Int32) (j : Nat) : (L.map Value.int).getD j (.int (0 : Int32)) = .int (L.getD j 0) := by
  simp only [List.getD, List.getElem?_map]
  cases L[j]? <;> rfl
theorem own_avl {Z : State} {h : Heap} {b : Addr} {k : ClassId} {z : Int32} {L : List Int32} {n : Nat} (A : Arv Z h b k .byte z (L.map Value.int) (.int (0 : Int32))) (hn : z.toNatClampNeg = n) : AV Z h b .byte n (fun j => .int (L.getD j 0)) := by
  obtain ⟨c, A, -, S, -, H, G⟩ := A
  have e : c.slots.size = n := S.trans hn
  exact ⟨c, A, e, fun j hj => ⟨by rw [H j (by rw [e]; exact hj), own_ib], by have := G j (by rw [e]; exact hj); rwa [own_ib] at this⟩⟩
theorem own_nrc (x : Int32) : nar .char (x.toUInt32.toUInt16.toUInt32.toInt32) = x.toUInt32.toUInt16.toUInt32.toInt32 := Value.int.inj (show Value.int (nar .char _) = .int _ from Jvm.Free.XT.narrow_c x)
def own_ch (x : Int32) : Int32 := (x &&& (255 : Int32)).toUInt32.toUInt16.toUInt32.toInt32
theorem own_chn (x : Int32) : nar .char (own_ch x) = own_ch x := own_nrc _
theorem own_ibw {Z s : State} {vm1 : Vm} (hI : IB Z s.vm []) (hW : s.WarmedH vm1) : IB Z vm1 [] := by
  obtain ⟨m, e, q⟩ := hI
  exact ⟨m, hW.interned_eq.trans e, q⟩
theorem own_backI {p : Program} {l : Launch} {e : Env} {R : Room} {s : State} {args : Array Value} {below : List Frame} {Z : State} {a0 : Array Value} {h : Heap} {y : MethodName} {bytes : ByteArray} {maxL : Nat} {ret : Option FieldType} {rm : Room} {len W : Nat} {as' : Array Value} {Q : Option Value → Heap → List Loc → Prop}
    (hM : MetFree l y (head1 [Cond.code y bytes maxL ret] rm) (fun a U => a = as' ∧ Z.Warmed39 U.vm ∧ U.heap = h ∧ IB Z U.vm []) (fun _ _ _ _ _ => True) (fun _ U o U' => ∃ v L, o = .returned v ∧ Q v U'.heap L ∧ ReturnedEndW U o U' L rm.cells rm.slots))
    (hZ : Z.Warmed39 s.vm) (hI : IB Z s.vm []) (wc : (Cond.code y bytes maxL ret).before a0 Z = true) (wz : (Cond.initialized y.cls).before a0 Z = true) (hf : rm.frames + 1 ≤ R.frames) (hl : W + (maxL + 11) + rm.locals ≤ R.locals) :
    BackS l R p e below s args y len W (fun A a => a = as' ∧ A.U.heap = h ∧ A.cells + rm.cells ≤ R.cells ∧ A.slots + rm.slots ≤ R.slots)
      (fun A _ v B => ∃ L, Q v B.U.heap L ∧ B.locs = A.locs ++ L ∧ B.cells = A.cells + rm.cells ∧ B.slots = A.slots + rm.slots) :=
  BackS.of_freeW (bytes := bytes) (maxL := maxL) (ret := ret) (E := fun _ _ o t L k n => k = rm.cells ∧ n = rm.slots ∧ ∃ v, o = .returned v ∧ Q v t.heap L) hM hf hl
    (fun m meth c A a Y hp => have hU : Z.Warmed39 A.U.vm := wtrans hZ Y.warmed
      ⟨by show (Cond.and _ .tt).before a A.U = true; rw [Cond.before_and, mv hU wc]; rfl, mv hU wc, mv hU wz, hp.2.2.1, hp.2.2.2⟩)
    (fun m meth c A a g mk Y hp => ⟨hp.1, wtrans hZ Y.warmed, hp.2.1, own_ibw hI Y.warmed⟩) (fun _ _ _ _ _ _ _ _ _ => trivial)
    (fun _ _ _ _ ⟨v, L, h1, h2, h3⟩ => ⟨L, _, _, h3, rfl, rfl, v, h1, h2⟩)
    (fun m meth c A a g mk v t L k n Y hp _ _ ⟨e1, e2, v', e3, e4⟩ => by cases e3; subst e1 e2; exact ⟨L, e4, rfl, rfl, rfl⟩)
def own_bv (c : Int32) : Int32 := c.toInt8.toInt32
theorem own_nar (x : Int32) : nar .byte (x.toInt8.toInt32) = x.toInt8.toInt32 := by
  have := Jvm.Free.XT.narrow_b x
  simp only [nar]
  simpa using this
def own_min (a b : Int32) : Int32 := if b < a then b else a
def own_max (a b : Int32) : Int32 := if a < b then b else a
def own_draw (p : Int32) : Int32 := if (p &&& (3 : Int32)) = (0 : Int32) then (94 : Int32) else own_ch ((p.toUInt32 >>> ((2 : Int32) &&& 31).toUInt32).toInt32)
theorem own_mask (x : Int32) : ¬ own_ch x < 0 ∧ ¬ (255 : Int32) < own_ch x := by
  rw [own_ch, i2c_mask]
  have := c_and x (255 : Int32) (by decide)
  have z : (0 : Int32).toInt = 0 := rfl
  have f : (255 : Int32).toInt = 255 := rfl
  rw [Int32.lt_iff_toInt_lt, Int32.lt_iff_toInt_lt]
  omega
theorem own_dr (p : Int32) : ¬ own_draw p < 0 ∧ ¬ (255 : Int32) < own_draw p := by
  rw [own_draw]
  split
  · decide
  · exact own_mask _
theorem own_256 : ∀ k : Fin 256, own_ch (own_bv (Int32.ofNat k.1)) = Int32.ofNat k.1 ∧ (own_bv (Int32.ofNat k.1) = (94 : Int32) ↔ Int32.ofNat k.1 = (94 : Int32)) ∧ nar .char (Int32.ofNat k.1) = Int32.ofNat k.1 := by decide +kernel
theorem own_c8 (c : Int32) (h0 : ¬ c < 0) (h : ¬ (255 : Int32) < c) : own_ch (own_bv c) = c ∧ (own_bv c = (94 : Int32) ↔ c = (94 : Int32)) ∧ nar .char c = c := by
  rw [Int32.lt_iff_toInt_lt] at h h0
  have z : (0 : Int32).toInt = 0 := rfl
  have f : (255 : Int32).toInt = 255 := rfl
  have e : Int32.ofNat c.toInt.toNat = c := by rw [← Int32.toInt_inj, Int32.toInt_ofNat_of_lt (by omega)]; omega
  have := own_256 ⟨c.toInt.toNat, by omega⟩
  simp only [e] at this
  exact this
def own_ix : Nat → (Nat → Int32) → Int32
  | 0, _ => (-1 : Int32)
  | 1, g => if g 0 = (94 : Int32) then (0 : Int32) else (-1 : Int32)
  | 2, g => if g 0 = (94 : Int32) then (0 : Int32) else if g 1 = (94 : Int32) then (1 : Int32) else (-1 : Int32)
  | 3, g => if g 0 = (94 : Int32) then (0 : Int32) else if g 1 = (94 : Int32) then (1 : Int32) else if g 2 = (94 : Int32) then (2 : Int32) else (-1 : Int32)
  | 4, g => if g 0 = (94 : Int32) then (0 : Int32) else if g 1 = (94 : Int32) then (1 : Int32) else if g 2 = (94 : Int32) then (2 : Int32) else if g 3 = (94 : Int32) then (3 : Int32) else (-1 : Int32)
  | _, _ => (-1 : Int32)
theorem own_ix0 (g : Nat → Int32) : own_ix 0 g = (-1 : Int32) := rfl
theorem own_ix1 (g : Nat → Int32) : own_ix 1 g = if g 0 = (94 : Int32) then (0 : Int32) else (-1 : Int32) := rfl
theorem own_ix2 (g : Nat → Int32) : own_ix 2 g = if g 0 = (94 : Int32) then (0 : Int32) else if g 1 = (94 : Int32) then (1 : Int32) else (-1 : Int32) := rfl
theorem own_ix3 (g : Nat → Int32) : own_ix 3 g = if g 0 = (94 : Int32) then (0 : Int32) else if g 1 = (94 : Int32) then (1 : Int32) else if g 2 = (94 : Int32) then (2 : Int32) else (-1 : Int32) := rfl
theorem own_ix4 (g : Nat → Int32) : own_ix 4 g = if g 0 = (94 : Int32) then (0 : Int32) else if g 1 = (94 : Int32) then (1 : Int32) else if g 2 = (94 : Int32) then (2 : Int32) else if g 3 = (94 : Int32) then (3 : Int32) else (-1 : Int32) := rfl
theorem own_st1 (g : Nat → Int32) (f : Nat → Value) : ∀ j, j < 1 → (own_upd f 0 (.int (nar .byte ((g 0).toInt8.toInt32)))) j = (fun j => Value.int (own_bv (g j))) j := by
  intro j hj
  have c : j = 0 := by omega
  rcases c with rfl <;> simp [own_upd, own_nar, own_bv]
theorem own_st2 (g : Nat → Int32) (f : Nat → Value) : ∀ j, j < 2 → (own_upd (own_upd f 0 (.int (nar .byte ((g 0).toInt8.toInt32)))) 1 (.int (nar .byte ((g 1).toInt8.toInt32)))) j = (fun j => Value.int (own_bv (g j))) j := by
  intro j hj
  have c : j = 0 ∨ j = 1 := by omega
  rcases c with rfl | rfl <;> simp [own_upd, own_nar, own_bv]
theorem own_st3 (g : Nat → Int32) (f : Nat → Value) : ∀ j, j < 3 → (own_upd (own_upd (own_upd f 0 (.int (nar .byte ((g 0).toInt8.toInt32)))) 1 (.int (nar .byte ((g 1).toInt8.toInt32)))) 2 (.int (nar .byte ((g 2).toInt8.toInt32)))) j = (fun j => Value.int (own_bv (g j))) j := by
  intro j hj
  have c : j = 0 ∨ j = 1 ∨ j = 2 := by omega
  rcases c with rfl | rfl | rfl <;> simp [own_upd, own_nar, own_bv]
theorem own_st4 (g : Nat → Int32) (f : Nat → Value) : ∀ j, j < 4 → (own_upd (own_upd (own_upd (own_upd f 0 (.int (nar .byte ((g 0).toInt8.toInt32)))) 1 (.int (nar .byte ((g 1).toInt8.toInt32)))) 2 (.int (nar .byte ((g 2).toInt8.toInt32)))) 3 (.int (nar .byte ((g 3).toInt8.toInt32)))) j = (fun j => Value.int (own_bv (g j))) j := by
  intro j hj
  have c : j = 0 ∨ j = 1 ∨ j = 2 ∨ j = 3 := by omega
  rcases c with rfl | rfl | rfl | rfl <;> simp [own_upd, own_nar, own_bv]
def own_G (c0 c1 c2 c3 : Int32) : Nat → Int32 := fun j => if j = 0 then c0 else if j = 1 then c1 else if j = 2 then c2 else c3
theorem own_sc1 (c0 c1 c2 c3 : Int32) (f : Nat → Value) (n0 : nar .char c0 = c0) : ∀ j, j < 1 → (own_upd f 0 (.int (nar .char c0))) j = (fun j => Value.int (own_G c0 c1 c2 c3 j)) j := by
  intro j hj
  have c : j = 0 := by omega
  rcases c with rfl <;> simp [own_upd, own_G, n0]
theorem own_sc2 (c0 c1 c2 c3 : Int32) (f : Nat → Value) (n0 : nar .char c0 = c0) (n1 : nar .char c1 = c1) : ∀ j, j < 2 → (own_upd (own_upd f 0 (.int (nar .char c0))) 1 (.int (nar .char c1))) j = (fun j => Value.int (own_G c0 c1 c2 c3 j)) j := by
  intro j hj
  have c : j = 0 ∨ j = 1 := by omega
  rcases c with rfl | rfl <;> simp [own_upd, own_G, n0, n1]
theorem own_sc3 (c0 c1 c2 c3 : Int32) (f : Nat → Value) (n0 : nar .char c0 = c0) (n1 : nar .char c1 = c1) (n2 : nar .char c2 = c2) : ∀ j, j < 3 → (own_upd (own_upd (own_upd f 0 (.int (nar .char c0))) 1 (.int (nar .char c1))) 2 (.int (nar .char c2))) j = (fun j => Value.int (own_G c0 c1 c2 c3 j)) j := by
  intro j hj
  have c : j = 0 ∨ j = 1 ∨ j = 2 := by omega
  rcases c with rfl | rfl | rfl <;> simp [own_upd, own_G, n0, n1, n2]
theorem own_sc4 (c0 c1 c2 c3 : Int32) (f : Nat → Value) (n0 : nar .char c0 = c0) (n1 : nar .char c1 = c1) (n2 : nar .char c2 = c2) (n3 : nar .char c3 = c3) : ∀ j, j < 4 → (own_upd (own_upd (own_upd (own_upd f 0 (.int (nar .char c0))) 1 (.int (nar .char c1))) 2 (.int (nar .char c2))) 3 (.int (nar .char c3))) j = (fun j => Value.int (own_G c0 c1 c2 c3 j)) j := by
  intro j hj
  have c : j = 0 ∨ j = 1 ∨ j = 2 ∨ j = 3 := by omega
  rcases c with rfl | rfl | rfl | rfl <;> simp [own_upd, own_G, n0, n1, n2, n3]
theorem own_Gle (c0 c1 c2 c3 : Int32) (h0 : ¬ (255 : Int32) < c0) (h1 : ¬ (255 : Int32) < c1) (h2 : ¬ (255 : Int32) < c2) (h3 : ¬ (255 : Int32) < c3) : ∀ j, ¬ (255 : Int32) < own_G c0 c1 c2 c3 j := by
  intro j
  rw [own_G]
  split
  · exact h0
  · split
    · exact h1
    · split
      · exact h2
      · exact h3
theorem own_sh0 (x : Int32) : x >>> ((0 : Int32) &&& 31) = x := by
  have : ((0 : Int32) &&& 31) = 0 := by decide
  rw [this]
  simp
theorem own_sub0 (x : Int32) : x - (0 : Int32) = x := by simp
theorem own_0add (x : Int32) : (0 : Int32) + x = x := by simp
theorem own_sd (x : Int32) : (((((x - x).toUInt32 >>> ((31 : Int32) &&& 31).toUInt32).toInt32).toInt8.toInt32)) = (0 : Int32) := by rw [Int32.sub_self]; decide
theorem own_mns (x : Int32) : own_min x x = x := by rw [own_min]; split <;> rfl
theorem own_nb {p : Int32} (h : p = (0 : Int32) ∨ p = (1 : Int32)) : narrow .boolean (.int p) = .int p ∧ fits .boolean (.int p) = true := by
  rcases h with rfl | rfl <;> exact ⟨rfl, rfl⟩
theorem own_nn {n : Nat} (h : n = 1 ∨ n = 2 ∨ n = 3 ∨ n = 4) : ¬ (n : Nat).toInt32 < 0 ∧ (n : Nat).toInt32.toNatClampNeg = n ∧ n ≤ 4 ∧ (0 : Int32) < (n : Nat).toInt32 ∧ ¬ ((n : Nat).toInt32 = (0 : Int32)) := by
  rcases h with rfl | rfl | rfl | rfl <;> decide
theorem own_kn : ∀ n k : Fin 5, 0 < k.1 → k.1 < n.1 → ¬ (k.1 : Nat).toInt32 < 0 ∧ (k.1 : Nat).toInt32.toNatClampNeg = k.1 ∧ ¬ ((k.1 : Nat).toInt32 = (n.1 : Nat).toInt32) ∧ ¬ ((k.1 : Nat).toInt32 = (0 : Int32)) ∧ ¬ ((n.1 : Nat).toInt32 < (k.1 : Nat).toInt32) ∧ own_min (n.1 : Nat).toInt32 (k.1 : Nat).toInt32 = (k.1 : Nat).toInt32 ∧ ¬ ((k.1 : Nat).toInt32 < (0 : Int32)) ∧ (n.1 : Nat).toInt32.toNatClampNeg = n.1 ∧ ¬ (n.1 : Nat).toInt32 < 0 := by decide +kernel
theorem own_kf {n k : Nat} (hn : n ≤ 4) (h0 : 0 < k) (h : k < n) : ¬ (k : Nat).toInt32 < 0 ∧ (k : Nat).toInt32.toNatClampNeg = k ∧ ¬ ((k : Nat).toInt32 = (n : Nat).toInt32) ∧ ¬ ((k : Nat).toInt32 = (0 : Int32)) ∧ ¬ ((n : Nat).toInt32 < (k : Nat).toInt32) ∧ own_min (n : Nat).toInt32 (k : Nat).toInt32 = (k : Nat).toInt32 ∧ ¬ ((k : Nat).toInt32 < (0 : Int32)) ∧ (n : Nat).toInt32.toNatClampNeg = n ∧ ¬ (n : Nat).toInt32 < 0 := own_kn ⟨n, by omega⟩ ⟨k, by omega⟩ h0 h
theorem own_pos {n : Nat} (h : n = 1 ∨ n = 2 ∨ n = 3 ∨ n = 4) : ¬ ((0 : Int32) = (n : Nat).toInt32) ∧ ¬ ((n : Nat).toInt32 < (0 : Int32)) := by rcases h with rfl | rfl | rfl | rfl <;> decide
theorem own_fldne {Z : State} {h : Heap} {a b : Addr} {K f d : String} {v w : Value} (F : Fld Z h a K f d v) (G : Fld Z h b K f d w) (q : v ≠ w) : a ≠ b := fun e => by
  subst e
  obtain ⟨c1, cf1, k1, i1, f1, a1, a2, a3, a4, a5, a6, a7⟩ := F
  obtain ⟨c2, cf2, k2, i2, f2, b1, b2, b3, b4, b5, b6, b7⟩ := G
  cases a1.symm.trans b1
  cases a2.symm.trans b2
  exact q (Option.some.inj (a7.symm.trans b7))
theorem own_arv {Z : State} {h : Heap} {a : Addr} {n : Nat} {g : Nat → Int32} {z : Int32} (A : AV Z h a .byte n (fun j => .int (g j))) (hz : z.toNatClampNeg = n) (h0 : ¬ z < 0) : ∃ k, Arv Z h a k .byte z ((List.range n).map (fun j => Value.int (g j))) (.int 0) := by
  obtain ⟨c, A, S, H⟩ := A
  refine ⟨c.cls, c, A, rfl, by rw [S, hz], h0, fun i hi => ?_, fun i hi => ?_⟩
  · rw [S] at hi
    rw [(H i hi).1]; simp [List.getD, hi]
  · rw [S] at hi
    have := (H i hi).2
    simpa [List.getD, hi] using this
theorem own_cp {Z : State} {h : Heap} {b : Addr} {kk : ClassId} {n k : Nat} {g g' : Nat → Int32} {zk s0 d0 : Int32} (hz : zk.toNatClampNeg = k) (hs : s0.toNatClampNeg = 0) (hd : d0.toNatClampNeg = 0) (hkn : k ≤ n)
    (A : Arv Z h b kk .byte zk (((List.range k).map (fun j => Value.int (g' j))).take d0.toNatClampNeg ++ ((List.range zk.toNatClampNeg).map fun i => ((List.range n).map (fun j => Value.int (g j))).getD (s0.toNatClampNeg + i) (.int 0)) ++ ((List.range k).map (fun j => Value.int (g' j))).drop (d0.toNatClampNeg + zk.toNatClampNeg)) (.int 0)) : AV Z h b .byte k (fun j => .int (g j)) := by
  obtain ⟨c, A, -, S, -, H, G⟩ := A
  have e : c.slots.size = k := S.trans hz
  rw [hz, hs, hd] at H G
  have v : ∀ j, j < k → (((List.range k).map (fun j => Value.int (g' j))).take 0 ++ ((List.range k).map fun i => ((List.range n).map (fun j => Value.int (g j))).getD (0 + i) (.int 0)) ++ ((List.range k).map (fun j => Value.int (g' j))).drop (0 + k)).getD j (.int 0) = .int (g j) := by
    intro j hj
    have hj2 : j < n := by omega
    simp [List.getD, hj, hj2]
  exact ⟨c, A, e, fun j hj => ⟨by rw [H j (by rw [e]; exact hj), v j hj], by have := G j (by rw [e]; exact hj); rwa [v j hj] at this⟩⟩
def own_k1 (t n c v o : Int32) : Int32 := if t < n then (if c = (94 : Int32) then v else o) else o
theorem own_hit {t n c v o : Int32} (h : t < n) (hc : c = (94 : Int32)) : own_k1 t n c v o = v := by rw [own_k1, if_pos h, if_pos hc]
theorem own_miss {t n c v o : Int32} (hc : ¬ c = (94 : Int32)) : own_k1 t n c v o = o := by rw [own_k1]; split <;> simp [hc]
theorem own_out {t n c v o : Int32} (h : ¬ t < n) : own_k1 t n c v o = o := by rw [own_k1, if_neg h]
theorem own_irem (x y : Int32) : x - (x / y) * y = x % y := by
  have b1 := Int32.le_toInt (x % y)
  have b2 := Int32.toInt_lt (x % y)
  rw [Int32.toInt_mod] at b1 b2
  rw [← Int32.toInt_inj, Int32.toInt_mod]
  have k := Int.tmod_def x.toInt y.toInt
  have m : (x - (x / y) * y).toInt = (x.toInt - x.toInt.tdiv y.toInt * y.toInt).bmod (2 ^ 32) := by
    simp only [Int32.toInt_sub, Int32.toInt_mul, Int32.toInt_div, Int.bmod_mul_bmod, Int.sub_bmod_bmod]
  rw [m, show x.toInt - x.toInt.tdiv y.toInt * y.toInt = x.toInt.tmod y.toInt by rw [k, Int.mul_comm]]
  exact Int.bmod_eq_of_le (by omega) (by omega)
theorem own_irem5 (q : Int32) (h0 : ¬ q < 0) : (q - (q / (5 : Int32)) * (5 : Int32)) = 0 ∨ (q - (q / (5 : Int32)) * (5 : Int32)) = 1 ∨ (q - (q / (5 : Int32)) * (5 : Int32)) = 2 ∨ (q - (q / (5 : Int32)) * (5 : Int32)) = 3 ∨ (q - (q / (5 : Int32)) * (5 : Int32)) = 4 := by
  have z : (0 : Int32).toInt = 0 := rfl
  rw [Int32.lt_iff_toInt_lt, z] at h0
  have r := (c_irem q (5 : Int32) 5 rfl).1 (by omega)
  rw [own_irem]
  have e1 : (1 : Int32).toInt = 1 := rfl
  have e2 : (2 : Int32).toInt = 2 := rfl
  have e3 : (3 : Int32).toInt = 3 := rfl
  have e4 : (4 : Int32).toInt = 4 := rfl
  simp only [← Int32.toInt_inj, r, z, e1, e2, e3, e4]
  omega
theorem own_le8 {n k : Nat} {zn zk : Int32} (hk : zk.toNatClampNeg = k) (hn : zn.toNatClampNeg = n) (h : k < n) : (0 : Int32).toNatClampNeg + zk.toNatClampNeg ≤ zn.toNatClampNeg := by
  have z : (0 : Int32).toNatClampNeg = 0 := rfl
  omega
theorem own_le9 {k : Nat} {zk : Int32} (hk : zk.toNatClampNeg = k) : (0 : Int32).toNatClampNeg + zk.toNatClampNeg ≤ zk.toNatClampNeg := by
  have z : (0 : Int32).toNatClampNeg = 0 := rfl
  omega
theorem own_le10 {k : Nat} {zk : Int32} {f : Nat → Value} (hk : zk.toNatClampNeg = k) : (0 : Int32).toNatClampNeg + zk.toNatClampNeg ≤ ((List.range k).map f).length := by
  have z : (0 : Int32).toNatClampNeg = 0 := rfl
  simp
  omega
def own_bad (q : Int32) : Int32 := if q < (0 : Int32) then (1 : Int32) else (0 : Int32)
theorem own_bad01 (q : Int32) : own_bad q = (0 : Int32) ∨ own_bad q = (1 : Int32) := by rw [own_bad]; split <;> simp
theorem own_m7 (q : Int32) : ¬ (q &&& (2147483647 : Int32)) < 0 := by
  have := c_and q (2147483647 : Int32) (by decide)
  have z : (0 : Int32).toInt = 0 := rfl
  rw [Int32.lt_iff_toInt_lt]
  omega
theorem own_ixk_1_0 (g : Nat → Int32) (h0 : g 0 = (94 : Int32)) : own_ix 1 g = (0 : Int32) := by rw [own_ix1, if_pos h0]
theorem own_ixk_1_1 (g : Nat → Int32) (h0 : ¬ g 0 = (94 : Int32)) : own_ix 1 g = (-1 : Int32) := by rw [own_ix1, if_neg h0]
theorem own_ixk_2_0 (g : Nat → Int32) (h0 : g 0 = (94 : Int32)) : own_ix 2 g = (0 : Int32) := by rw [own_ix2, if_pos h0]
theorem own_ixk_2_1 (g : Nat → Int32) (h0 : ¬ g 0 = (94 : Int32)) (h1 : g 1 = (94 : Int32)) : own_ix 2 g = (1 : Int32) := by rw [own_ix2, if_neg h0, if_pos h1]
theorem own_ixk_2_2 (g : Nat → Int32) (h0 : ¬ g 0 = (94 : Int32)) (h1 : ¬ g 1 = (94 : Int32)) : own_ix 2 g = (-1 : Int32) := by rw [own_ix2, if_neg h0, if_neg h1]
theorem own_ixk_3_0 (g : Nat → Int32) (h0 : g 0 = (94 : Int32)) : own_ix 3 g = (0 : Int32) := by rw [own_ix3, if_pos h0]
theorem own_ixk_3_1 (g : Nat → Int32) (h0 : ¬ g 0 = (94 : Int32)) (h1 : g 1 = (94 : Int32)) : own_ix 3 g = (1 : Int32) := by rw [own_ix3, if_neg h0, if_pos h1]
theorem own_ixk_3_2 (g : Nat → Int32) (h0 : ¬ g 0 = (94 : Int32)) (h1 : ¬ g 1 = (94 : Int32)) (h2 : g 2 = (94 : Int32)) : own_ix 3 g = (2 : Int32) := by rw [own_ix3, if_neg h0, if_neg h1, if_pos h2]
theorem own_ixk_3_3 (g : Nat → Int32) (h0 : ¬ g 0 = (94 : Int32)) (h1 : ¬ g 1 = (94 : Int32)) (h2 : ¬ g 2 = (94 : Int32)) : own_ix 3 g = (-1 : Int32) := by rw [own_ix3, if_neg h0, if_neg h1, if_neg h2]
theorem own_ixk_4_0 (g : Nat → Int32) (h0 : g 0 = (94 : Int32)) : own_ix 4 g = (0 : Int32) := by rw [own_ix4, if_pos h0]
theorem own_ixk_4_1 (g : Nat → Int32) (h0 : ¬ g 0 = (94 : Int32)) (h1 : g 1 = (94 : Int32)) : own_ix 4 g = (1 : Int32) := by rw [own_ix4, if_neg h0, if_pos h1]
theorem own_ixk_4_2 (g : Nat → Int32) (h0 : ¬ g 0 = (94 : Int32)) (h1 : ¬ g 1 = (94 : Int32)) (h2 : g 2 = (94 : Int32)) : own_ix 4 g = (2 : Int32) := by rw [own_ix4, if_neg h0, if_neg h1, if_pos h2]
theorem own_ixk_4_3 (g : Nat → Int32) (h0 : ¬ g 0 = (94 : Int32)) (h1 : ¬ g 1 = (94 : Int32)) (h2 : ¬ g 2 = (94 : Int32)) (h3 : g 3 = (94 : Int32)) : own_ix 4 g = (3 : Int32) := by rw [own_ix4, if_neg h0, if_neg h1, if_neg h2, if_pos h3]
theorem own_ixk_4_4 (g : Nat → Int32) (h0 : ¬ g 0 = (94 : Int32)) (h1 : ¬ g 1 = (94 : Int32)) (h2 : ¬ g 2 = (94 : Int32)) (h3 : ¬ g 3 = (94 : Int32)) : own_ix 4 g = (-1 : Int32) := by rw [own_ix4, if_neg h0, if_neg h1, if_neg h2, if_neg h3]
theorem pn_0 : plainName "java/lang/String" = true := by first | (simp [plainName, overriddenIn]; done) | decide +kernel
theorem d13_0 : decode jdk_42_method_154_code 0 = .ok (.getstatic 38, 3) := by decide +kernel
theorem d13_3 : decode jdk_42_method_154_code 3 = .ok (.ifCond .eq 14, 3) := by decide +kernel
theorem d13_6 : decode jdk_42_method_154_code 6 = .ok (.aload_n 0, 1) := by decide +kernel
theorem d13_7 : decode jdk_42_method_154_code 7 = .ok (.getfield 15, 3) := by decide +kernel
theorem d13_10 : decode jdk_42_method_154_code 10 = .ok (.ifCond .ne 7, 3) := by decide +kernel
theorem d13_13 : decode jdk_42_method_154_code 13 = .ok (.iconst 1, 1) := by decide +kernel
theorem d13_14 : decode jdk_42_method_154_code 14 = .ok (.goto 4, 3) := by decide +kernel
theorem d13_18 : decode jdk_42_method_154_code 18 = .ok (.ireturn, 1) := by decide +kernel
theorem ef_rm_lat (m : MethodId) (a1 : Addr) : entryFrame m #[(.ref a1)] 1 = mkF m 0 #[vR a1] [] := by first | (simp [entryFrame, mkF, argsToLocals, Value.category]; done) | rfl
def Q_rm_lat (Z : State) (a1 : Addr) (cs : Int32) (h0 : Heap) (n0 : Nat) (v : Option Value) (h : Heap) (L : List Loc) : Prop := v = some (.int (1 : Int32)) ∧ Fr n0 L ∧ h = h0
set_option maxRecDepth 65536 in
set_option maxHeartbeats 40000000 in
theorem rm_lat (l : Launch) (Z : State) (a0 : Array Value) (hw : ∀ d ∈ tables_1, d.before a0 Z = true) (ws : List Jvm.Cond) (a1 : Addr) (cs : Int32) (h0 : Heap) (n0 : Nat) (Z0 : n0 ≤ h0.size) (SC : Sta Z Z.heap "java/lang/String" "COMPACT_STRINGS" "Z" (.int cs)) (OL : Old Z n0 h0) (hcs : ¬ (cs = (0 : Int32))) (Fc : Fld Z h0 a1 "java/lang/String" "coder" "B" (.int (0 : Int32))) :
    MetFree l (⟨"java/lang/String", "isLatin1", "()Z"⟩ : MethodName) (head1 (Jvm.Cond.code (⟨"java/lang/String", "isLatin1", "()Z"⟩ : MethodName) jdk_42_method_154_code 1 (some .boolean) :: ws) ({ frames := 0, cells := 0, slots := 0, locals := 0 } : Room)) (fun a U => a = #[(.ref a1)] ∧ Z.Warmed39 U.vm ∧ U.heap = h0) (fun _ _ _ _ _ => True) (fun _ U oC U' => ∃ v L, oC = .returned v ∧ Q_rm_lat Z a1 cs h0 n0 v U'.heap L ∧ FrameEnd U oC U' L ({ frames := 0, cells := 0, slots := 0, locals := 0 } : Room).cells ({ frames := 0, cells := 0, slots := 0, locals := 0 } : Room).slots) := by
  refine MetFree.of_bodySF (plainFor_of_name pn_0) hisR ?_
  intro p e s m args below meth c s₁ Bd hml0 hP hK
  obtain ⟨rfl, hZ, hh⟩ := hP
  have hx := Bd.exec
  have hby := Bd.bytes
  have hml : c.maxLocals = 1 := hml0
  have hown : s.vm.findClass "java/lang/String" = some m.cls := findClass_of_methodNamed Bd.named
  have hnm := (name_of_methodNamed Bd.named Bd.method).1
  have X0 : Stand p l e ({ frames := 0, cells := 0, slots := 0, locals := 0 } : Room) s m #[(.ref a1)] below meth c s₁ [] 0 0 := Stand.of_body Bd
  have e0 : s₁.heap = h0 := by rw [← hh, Bd.state]; rfl
  have N0 := Fr.nil n0
  have pre0 : ∀ tg, Steps p.tables e below (s₁.setTop (mkF m 0 #[vR a1] [])) tg → Steps p.tables e below (s₁.setTop (entryFrame m #[(.ref a1)] 1)) tg := fun t k => castTop (ef_rm_lat m a1) k
  have pre00 : ∀ tg, Steps p.tables e below (s₁.setTop (mkF m 0 #[vR a1] [])) tg → Steps p.tables e below (s₁.setTop (mkF m 0 #[vR a1] [])) tg := fun _ k => k
  obtain ⟨T1, X1, e1, st1⟩ := getS2 X0 hx hZ hown (host := "") (Or.inl (hw _ (List.mem_of_getElem? (i := 19) rfl))) Via.refl e0 (SC.ext OL.2) (g := (mkF m 0 #[vR a1] [])) rfl (hb hby d13_0)
  have R2 : ∀ tg, Steps p.tables e below (T1.setTop (mkF m 7 #[vR a1] [(.ref a1)])) tg → Steps p.tables e below (s₁.setTop (mkF m 0 #[vR a1] [])) tg := by
    intro tg kt
    refine pre00 _ ?_
    refine st1 _ ?_
    show Steps p.tables e below (T1.setTop (mkF m 3 #[vR a1] [(.int cs)])) _
    refine XS.ifNo X1.here hx rfl (hb hby d13_3) rfl ((if0 _ _).trans (feq (hcs : ¬ (cs = (0 : Int32)))).1) ?_
    refine XS.aloadN X1.here hx rfl (hb hby d13_6) rfl rfl ?_
    exact kt
  clear st1
  obtain ⟨T3, X3, e3, st3⟩ := getF X1 hx hZ hown (host := "") (Or.inl (hw _ (List.mem_of_getElem? (i := 31) rfl))) Via.refl e1 Fc (g := (mkF m 7 #[vR a1] [(.ref a1)])) rfl rfl (hb hby d13_7)
  have R4 : ∀ tg, Steps p.tables e below (T3.setTop (mkF m 18 #[vR a1] [(.int (1 : Int32))])) tg → Steps p.tables e below (s₁.setTop (mkF m 0 #[vR a1] [])) tg := by
    intro tg kt
    refine R2 _ ?_
    refine st3 _ ?_
    show Steps p.tables e below (T3.setTop (mkF m 10 #[vR a1] [(.int (0 : Int32))])) _
    refine XS.ifNo X3.here hx rfl (hb hby d13_10) rfl ((if0 _ _).trans (teq (rfl : (0 : Int32) = (0 : Int32))).2) ?_
    refine XS.iconst X3.here hx rfl (hb hby d13_13) ?_
    show Steps p.tables e below (T3.setTop (mkF m 14 #[vR a1] [(.int (1 : Int32))])) _
    refine XS.goto X3.here hx rfl (pc0 := 14) (pc' := 18) rfl (hb hby d13_14) (by decide) (by decide) ?_
    exact kt
  clear R2 st3
  obtain ⟨fs, hr, hrun, hended, hW, hsame⟩ := X3.leave (v := some (.int (1 : Int32))) (fun h => by rw [Bd.returns] at h; cases h)
  refine ⟨_, _, pre0 _ (R4 _ ?_), hrun, hended, _, _, rfl, ?_, ⟨_, rfl⟩, hW, hsame.mono (by decide) (by decide)⟩
  · exact retN X3 hx (t := .boolean) Bd.returns (by simp) (hb hby d13_18) hr
  · show Q_rm_lat Z a1 cs h0 n0 _ T3.heap _
    rw [e3]
    exact ⟨rfl, N0, rfl⟩
theorem pn_1 : plainName "jdk/internal/util/Preconditions" = true := by first | (simp [plainName, overriddenIn]; done) | decide +kernel
theorem d32_0 : decode jdk_41_method_11_code 0 = .ok (.iload_n 0, 1) := by decide +kernel
theorem d32_1 : decode jdk_41_method_11_code 1 = .ok (.ifCond .lt 8, 3) := by decide +kernel
theorem d32_4 : decode jdk_41_method_11_code 4 = .ok (.iload_n 0, 1) := by decide +kernel
theorem d32_5 : decode jdk_41_method_11_code 5 = .ok (.iload_n 1, 1) := by decide +kernel
theorem d32_6 : decode jdk_41_method_11_code 6 = .ok (.if_icmp .lt 10, 3) := by decide +kernel
theorem d32_16 : decode jdk_41_method_11_code 16 = .ok (.iload_n 0, 1) := by decide +kernel
theorem d32_17 : decode jdk_41_method_11_code 17 = .ok (.ireturn, 1) := by decide +kernel
theorem ef_rm_pcN (m : MethodId) (p1 : Int32) (p2 : Int32) : entryFrame m #[(.int p1), (.int p2), .null] 3 = mkF m 0 #[vI p1, vI p2, .val .null] [] := by first | (simp [entryFrame, mkF, argsToLocals, Value.category]; done) | rfl
def Q_rm_pcN (Z : State) (p1 : Int32) (p2 : Int32) (h0 : Heap) (n0 : Nat) (v : Option Value) (h : Heap) (L : List Loc) : Prop := v = some (.int p1) ∧ Fr n0 L ∧ h = h0
set_option maxRecDepth 65536 in
set_option maxHeartbeats 40000000 in
theorem rm_pcN (l : Launch) (Z : State) (a0 : Array Value) (hw : ∀ d ∈ tables_1, d.before a0 Z = true) (ws : List Jvm.Cond) (p1 : Int32) (p2 : Int32) (h0 : Heap) (n0 : Nat) (Z0 : n0 ≤ h0.size) (hp : ¬ p1 < (0 : Int32)) (hq : p1 < p2) :
    MetFree l (⟨"jdk/internal/util/Preconditions", "checkIndex", "(IILjava/util/function/BiFunction;)I"⟩ : MethodName) (head1 (Jvm.Cond.code (⟨"jdk/internal/util/Preconditions", "checkIndex", "(IILjava/util/function/BiFunction;)I"⟩ : MethodName) jdk_41_method_11_code 3 (some .int) :: ws) ({ frames := 0, cells := 0, slots := 0, locals := 0 } : Room)) (fun a U => a = #[(.int p1), (.int p2), .null] ∧ Z.Warmed39 U.vm ∧ U.heap = h0) (fun _ _ _ _ _ => True) (fun _ U oC U' => ∃ v L, oC = .returned v ∧ Q_rm_pcN Z p1 p2 h0 n0 v U'.heap L ∧ FrameEnd U oC U' L ({ frames := 0, cells := 0, slots := 0, locals := 0 } : Room).cells ({ frames := 0, cells := 0, slots := 0, locals := 0 } : Room).slots) := by
  refine MetFree.of_bodySF (plainFor_of_name pn_1) hisR ?_
  intro p e s m args below meth c s₁ Bd hml0 hP hK
  obtain ⟨rfl, hZ, hh⟩ := hP
  have hx := Bd.exec
  have hby := Bd.bytes
  have hml : c.maxLocals = 3 := hml0
  have hown : s.vm.findClass "jdk/internal/util/Preconditions" = some m.cls := findClass_of_methodNamed Bd.named
  have hnm := (name_of_methodNamed Bd.named Bd.method).1
  have X0 : Stand p l e ({ frames := 0, cells := 0, slots := 0, locals := 0 } : Room) s m #[(.int p1), (.int p2), .null] below meth c s₁ [] 0 0 := Stand.of_body Bd
  have e0 : s₁.heap = h0 := by rw [← hh, Bd.state]; rfl
  have N0 := Fr.nil n0
  have pre0 : ∀ tg, Steps p.tables e below (s₁.setTop (mkF m 0 #[vI p1, vI p2, .val .null] [])) tg → Steps p.tables e below (s₁.setTop (entryFrame m #[(.int p1), (.int p2), .null] 3)) tg := fun t k => castTop (ef_rm_pcN m p1 p2) k
  have pre00 : ∀ tg, Steps p.tables e below (s₁.setTop (mkF m 0 #[vI p1, vI p2, .val .null] [])) tg → Steps p.tables e below (s₁.setTop (mkF m 0 #[vI p1, vI p2, .val .null] [])) tg := fun _ k => k
  have R5 : ∀ tg, Steps p.tables e below (s₁.setTop (mkF m 17 #[vI p1, vI p2, .val .null] [(.int p1)])) tg → Steps p.tables e below (s₁.setTop (mkF m 0 #[vI p1, vI p2, .val .null] [])) tg := by
    intro tg kt
    refine pre00 _ ?_
    show Steps p.tables e below (s₁.setTop (mkF m 0 #[vI p1, vI p2, .val .null] [])) _
    refine XS.iloadN X0.here hx rfl (hb hby d32_0) rfl ?_
    show Steps p.tables e below (s₁.setTop (mkF m 1 #[vI p1, vI p2, .val .null] [(.int p1)])) _
    refine XS.ifNo X0.here hx rfl (hb hby d32_1) rfl ((if0 _ _).trans (flt (hp : ¬ (p1 < (0 : Int32)))).1) ?_
    refine XS.iloadN X0.here hx rfl (hb hby d32_4) rfl ?_
    refine XS.iloadN X0.here hx rfl (hb hby d32_5) rfl ?_
    show Steps p.tables e below (s₁.setTop (mkF m 6 #[vI p1, vI p2, .val .null] [(.int p2), (.int p1)])) _
    refine XS.icmpYes X0.here hx rfl (pc0 := 6) (pc' := 16) rfl (hb hby d32_6) rfl (tlt (hq : p1 < p2)).1 (by decide) (by decide) ?_
    refine XS.iloadN X0.here hx rfl (hb hby d32_16) rfl ?_
    exact kt
  obtain ⟨fs, hr, hrun, hended, hW, hsame⟩ := X0.leave (v := some (.int p1)) (fun h => by rw [Bd.returns] at h; cases h)
  refine ⟨_, _, pre0 _ (R5 _ ?_), hrun, hended, _, _, rfl, ?_, ⟨_, rfl⟩, hW, hsame.mono (by decide) (by decide)⟩
  · exact retI X0 hx Bd.returns (hb hby d32_17) hr
  · show Q_rm_pcN Z p1 p2 h0 n0 _ s₁.heap _
    rw [e0]
    exact ⟨rfl, N0, rfl⟩
theorem ef_rm_pcR (m : MethodId) (p1 : Int32) (p2 : Int32) (af : Addr) : entryFrame m #[(.int p1), (.int p2), (.ref af)] 3 = mkF m 0 #[vI p1, vI p2, vR af] [] := by first | (simp [entryFrame, mkF, argsToLocals, Value.category]; done) | rfl
def Q_rm_pcR (Z : State) (p1 : Int32) (p2 : Int32) (af : Addr) (h0 : Heap) (n0 : Nat) (v : Option Value) (h : Heap) (L : List Loc) : Prop := v = some (.int p1) ∧ Fr n0 L ∧ h = h0
set_option maxRecDepth 65536 in
set_option maxHeartbeats 40000000 in
theorem rm_pcR (l : Launch) (Z : State) (a0 : Array Value) (hw : ∀ d ∈ tables_1, d.before a0 Z = true) (ws : List Jvm.Cond) (p1 : Int32) (p2 : Int32) (af : Addr) (h0 : Heap) (n0 : Nat) (Z0 : n0 ≤ h0.size) (hp : ¬ p1 < (0 : Int32)) (hq : p1 < p2) :
    MetFree l (⟨"jdk/internal/util/Preconditions", "checkIndex", "(IILjava/util/function/BiFunction;)I"⟩ : MethodName) (head1 (Jvm.Cond.code (⟨"jdk/internal/util/Preconditions", "checkIndex", "(IILjava/util/function/BiFunction;)I"⟩ : MethodName) jdk_41_method_11_code 3 (some .int) :: ws) ({ frames := 0, cells := 0, slots := 0, locals := 0 } : Room)) (fun a U => a = #[(.int p1), (.int p2), (.ref af)] ∧ Z.Warmed39 U.vm ∧ U.heap = h0) (fun _ _ _ _ _ => True) (fun _ U oC U' => ∃ v L, oC = .returned v ∧ Q_rm_pcR Z p1 p2 af h0 n0 v U'.heap L ∧ FrameEnd U oC U' L ({ frames := 0, cells := 0, slots := 0, locals := 0 } : Room).cells ({ frames := 0, cells := 0, slots := 0, locals := 0 } : Room).slots) := by
  refine MetFree.of_bodySF (plainFor_of_name pn_1) hisR ?_
  intro p e s m args below meth c s₁ Bd hml0 hP hK
  obtain ⟨rfl, hZ, hh⟩ := hP
  have hx := Bd.exec
  have hby := Bd.bytes
  have hml : c.maxLocals = 3 := hml0
  have hown : s.vm.findClass "jdk/internal/util/Preconditions" = some m.cls := findClass_of_methodNamed Bd.named
  have hnm := (name_of_methodNamed Bd.named Bd.method).1
  have X0 : Stand p l e ({ frames := 0, cells := 0, slots := 0, locals := 0 } : Room) s m #[(.int p1), (.int p2), (.ref af)] below meth c s₁ [] 0 0 := Stand.of_body Bd
  have e0 : s₁.heap = h0 := by rw [← hh, Bd.state]; rfl
  have N0 := Fr.nil n0
  have pre0 : ∀ tg, Steps p.tables e below (s₁.setTop (mkF m 0 #[vI p1, vI p2, vR af] [])) tg → Steps p.tables e below (s₁.setTop (entryFrame m #[(.int p1), (.int p2), (.ref af)] 3)) tg := fun t k => castTop (ef_rm_pcR m p1 p2 af) k
  have pre00 : ∀ tg, Steps p.tables e below (s₁.setTop (mkF m 0 #[vI p1, vI p2, vR af] [])) tg → Steps p.tables e below (s₁.setTop (mkF m 0 #[vI p1, vI p2, vR af] [])) tg := fun _ k => k
  have R6 : ∀ tg, Steps p.tables e below (s₁.setTop (mkF m 17 #[vI p1, vI p2, vR af] [(.int p1)])) tg → Steps p.tables e below (s₁.setTop (mkF m 0 #[vI p1, vI p2, vR af] [])) tg := by
    intro tg kt
    refine pre00 _ ?_
    show Steps p.tables e below (s₁.setTop (mkF m 0 #[vI p1, vI p2, vR af] [])) _
    refine XS.iloadN X0.here hx rfl (hb hby d32_0) rfl ?_
    show Steps p.tables e below (s₁.setTop (mkF m 1 #[vI p1, vI p2, vR af] [(.int p1)])) _
    refine XS.ifNo X0.here hx rfl (hb hby d32_1) rfl ((if0 _ _).trans (flt (hp : ¬ (p1 < (0 : Int32)))).1) ?_
    refine XS.iloadN X0.here hx rfl (hb hby d32_4) rfl ?_
    refine XS.iloadN X0.here hx rfl (hb hby d32_5) rfl ?_
    show Steps p.tables e below (s₁.setTop (mkF m 6 #[vI p1, vI p2, vR af] [(.int p2), (.int p1)])) _
    refine XS.icmpYes X0.here hx rfl (pc0 := 6) (pc' := 16) rfl (hb hby d32_6) rfl (tlt (hq : p1 < p2)).1 (by decide) (by decide) ?_
    refine XS.iloadN X0.here hx rfl (hb hby d32_16) rfl ?_
    exact kt
  obtain ⟨fs, hr, hrun, hended, hW, hsame⟩ := X0.leave (v := some (.int p1)) (fun h => by rw [Bd.returns] at h; cases h)
  refine ⟨_, _, pre0 _ (R6 _ ?_), hrun, hended, _, _, rfl, ?_, ⟨_, rfl⟩, hW, hsame.mono (by decide) (by decide)⟩
  · exact retI X0 hx Bd.returns (hb hby d32_17) hr
  · show Q_rm_pcR Z p1 p2 af h0 n0 _ s₁.heap _
    rw [e0]
    exact ⟨rfl, N0, rfl⟩
theorem d31_0 : decode jdk_42_method_155_code 0 = .ok (.iload_n 0, 1) := by decide +kernel
theorem d31_1 : decode jdk_42_method_155_code 1 = .ok (.iload_n 1, 1) := by decide +kernel
theorem d31_2 : decode jdk_42_method_155_code 2 = .ok (.getstatic 1053, 3) := by decide +kernel
theorem pd_0 : parseMethodDescriptor "(IILjava/util/function/BiFunction;)I" = some ⟨[.int, .int, (.object "java/util/function/BiFunction")], some .int⟩ := by decide +kernel
theorem d31_5 : decode jdk_42_method_155_code 5 = .ok (.invokestatic 1059, 3) := by decide +kernel
theorem d31_8 : decode jdk_42_method_155_code 8 = .ok (.pop, 1) := by decide +kernel
theorem d31_9 : decode jdk_42_method_155_code 9 = .ok (.return_, 1) := by decide +kernel
theorem ef_rm_ck (m : MethodId) (p1 : Int32) (p2 : Int32) : entryFrame m #[(.int p1), (.int p2)] 2 = mkF m 0 #[vI p1, vI p2] [] := by first | (simp [entryFrame, mkF, argsToLocals, Value.category]; done) | rfl
def Q_rm_ck (Z : State) (p1 : Int32) (p2 : Int32) (vf : Value) (h0 : Heap) (n0 : Nat) (v : Option Value) (h : Heap) (L : List Loc) : Prop := v = none ∧ Fr n0 L ∧ h = h0
set_option maxRecDepth 65536 in
set_option maxHeartbeats 40000000 in
theorem rm_ck (l : Launch) (Z : State) (a0 : Array Value) (hw : ∀ d ∈ tables_1, d.before a0 Z = true) (ws : List Jvm.Cond) (p1 : Int32) (p2 : Int32) (vf : Value) (h0 : Heap) (n0 : Nat) (Z0 : n0 ≤ h0.size) (SF : Sta Z Z.heap "jdk/internal/util/Preconditions" "SIOOBE_FORMATTER" "Ljava/util/function/BiFunction;" vf) (OL : Old Z n0 h0) (hvf : vf.isRef = true) (hp : ¬ p1 < (0 : Int32)) (hq : p1 < p2) :
    MetFree l (⟨"java/lang/String", "checkIndex", "(II)V"⟩ : MethodName) (head1 (Jvm.Cond.code (⟨"java/lang/String", "checkIndex", "(II)V"⟩ : MethodName) jdk_42_method_155_code 2 none :: ws) ({ frames := 1, cells := 0, slots := 0, locals := 14 } : Room)) (fun a U => a = #[(.int p1), (.int p2)] ∧ Z.Warmed39 U.vm ∧ U.heap = h0) (fun _ _ _ _ _ => True) (fun _ U oC U' => ∃ v L, oC = .returned v ∧ Q_rm_ck Z p1 p2 vf h0 n0 v U'.heap L ∧ FrameEnd U oC U' L ({ frames := 1, cells := 0, slots := 0, locals := 14 } : Room).cells ({ frames := 1, cells := 0, slots := 0, locals := 14 } : Room).slots) := by
  refine MetFree.of_bodySF (plainFor_of_name pn_0) hisR ?_
  intro p e s m args below meth c s₁ Bd hml0 hP hK
  obtain ⟨rfl, hZ, hh⟩ := hP
  have hx := Bd.exec
  have hby := Bd.bytes
  have hml : c.maxLocals = 2 := hml0
  have hown : s.vm.findClass "java/lang/String" = some m.cls := findClass_of_methodNamed Bd.named
  have hnm := (name_of_methodNamed Bd.named Bd.method).1
  have X0 : Stand p l e ({ frames := 1, cells := 0, slots := 0, locals := 14 } : Room) s m #[(.int p1), (.int p2)] below meth c s₁ [] 0 0 := Stand.of_body Bd
  have e0 : s₁.heap = h0 := by rw [← hh, Bd.state]; rfl
  have N0 := Fr.nil n0
  have pre0 : ∀ tg, Steps p.tables e below (s₁.setTop (mkF m 0 #[vI p1, vI p2] [])) tg → Steps p.tables e below (s₁.setTop (entryFrame m #[(.int p1), (.int p2)] 2)) tg := fun t k => castTop (ef_rm_ck m p1 p2) k
  have pre00 : ∀ tg, Steps p.tables e below (s₁.setTop (mkF m 0 #[vI p1, vI p2] [])) tg → Steps p.tables e below (s₁.setTop (mkF m 0 #[vI p1, vI p2] [])) tg := fun _ k => k
  rcases ref_cases hvf with rfl | ⟨af, rfl⟩
  · have R7 : ∀ tg, Steps p.tables e below (s₁.setTop (mkF m 2 #[vI p1, vI p2] [(.int p2), (.int p1)])) tg → Steps p.tables e below (s₁.setTop (mkF m 0 #[vI p1, vI p2] [])) tg := by
      intro tg kt
      refine pre00 _ ?_
      show Steps p.tables e below (s₁.setTop (mkF m 0 #[vI p1, vI p2] [])) _
      refine XS.iloadN X0.here hx rfl (hb hby d31_0) rfl ?_
      refine XS.iloadN X0.here hx rfl (hb hby d31_1) rfl ?_
      exact kt
    obtain ⟨T8, X8, e8, st8⟩ := getS2 X0 hx hZ hown (host := "") (Or.inl (hw _ (List.mem_of_getElem? (i := 108) rfl))) Via.refl e0 (SF.ext OL.2) (g := (mkF m 2 #[vI p1, vI p2] [(.int p2), (.int p1)])) rfl (hb hby d31_2)
    have R9 : ∀ tg, Steps p.tables e below (T8.setTop (mkF m 5 #[vI p1, vI p2] [.null, (.int p2), (.int p1)])) tg → Steps p.tables e below (s₁.setTop (mkF m 0 #[vI p1, vI p2] [])) tg := by
      intro tg kt
      refine R7 _ ?_
      refine st8 _ ?_
      exact kt
    clear R7 st8
    obtain ⟨_, _, ⟨T10, L10, k10, n10⟩, -, X10, ⟨Lc10, hQ10, l10, y10, z10⟩, st10⟩ := Jvm.LawKit.callS X8 hx (y := (⟨"jdk/internal/util/Preconditions", "checkIndex", "(IILjava/util/function/BiFunction;)I"⟩ : MethodName)) hown (mvT hZ (hw _ (List.mem_of_getElem? (i := 150) rfl))) (mvT hZ (hw _ (List.mem_of_getElem? (i := 151) rfl))) (mvT hZ (hw _ (List.mem_of_getElem? (i := 109) rfl))) (mvT hZ (hw _ (List.mem_of_getElem? (i := 152) rfl))) (by decide) (backOf (W := 0) (rm_pcN l Z a0 hw [] p1 p2 h0 n0 Z0 hp hq) hZ (hw _ (List.mem_of_getElem? (i := 152) rfl)) (hw _ (List.mem_of_getElem? (i := 109) rfl)) (by decide) (by decide)) (g := (mkF m 5 #[vI p1, vI p2] [.null, (.int p2), (.int p1)])) rfl (by rw [hml]; rfl) (argsL := [(.int p1), (.int p2), .null]) (rest := []) (lenOf pd_0 rfl) rfl (by show 2 * 0 + _ ≤ _; exact Nat.le_of_eq rfl) (hb hby d31_5) (fun _ _ => ⟨rfl, e8, (by decide : 0 + 0 ≤ _), (by decide : 0 + 0 ≤ _)⟩)
    dsimp only [Pt.U, Pt.locs, Pt.cells, Pt.slots] at X10 l10 y10 z10 st10 hQ10
    rw [l10, y10, z10] at X10
    obtain ⟨rfl, N10q, hh10⟩ := hQ10
    have N10 := Fr.app N0 N10q
    have R11 : ∀ tg, Steps p.tables e below (T10.setTop (mkF m 9 #[vI p1, vI p2] [])) tg → Steps p.tables e below (s₁.setTop (mkF m 0 #[vI p1, vI p2] [])) tg := by
      intro tg kt
      refine R9 _ ?_
      refine st10 _ ?_
      show Steps p.tables e below (T10.setTop (mkF m 8 #[vI p1, vI p2] [(.int p1)])) _
      refine XS.pop X10.here hx rfl (hb hby d31_8) rfl rfl ?_
      exact kt
    clear R9 st10
    obtain ⟨fs, hr, hrun, hended, hW, hsame⟩ := X10.leave (v := none) (fun _ => rfl)
    refine ⟨_, _, pre0 _ (R11 _ ?_), hrun, hended, _, _, rfl, ?_, ⟨_, rfl⟩, hW, hsame.mono (by decide) (by decide)⟩
    · exact X10.returnOut hx Bd.returns (hb hby d31_9) hr
    · show Q_rm_ck Z p1 p2 .null h0 n0 _ T10.heap _
      rw [hh10]
      exact ⟨rfl, N10, rfl⟩
  · have R12 : ∀ tg, Steps p.tables e below (s₁.setTop (mkF m 2 #[vI p1, vI p2] [(.int p2), (.int p1)])) tg → Steps p.tables e below (s₁.setTop (mkF m 0 #[vI p1, vI p2] [])) tg := by
      intro tg kt
      refine pre00 _ ?_
      show Steps p.tables e below (s₁.setTop (mkF m 0 #[vI p1, vI p2] [])) _
      refine XS.iloadN X0.here hx rfl (hb hby d31_0) rfl ?_
      refine XS.iloadN X0.here hx rfl (hb hby d31_1) rfl ?_
      exact kt
    obtain ⟨T13, X13, e13, st13⟩ := getS2 X0 hx hZ hown (host := "") (Or.inl (hw _ (List.mem_of_getElem? (i := 108) rfl))) Via.refl e0 (SF.ext OL.2) (g := (mkF m 2 #[vI p1, vI p2] [(.int p2), (.int p1)])) rfl (hb hby d31_2)
    have R14 : ∀ tg, Steps p.tables e below (T13.setTop (mkF m 5 #[vI p1, vI p2] [(.ref af), (.int p2), (.int p1)])) tg → Steps p.tables e below (s₁.setTop (mkF m 0 #[vI p1, vI p2] [])) tg := by
      intro tg kt
      refine R12 _ ?_
      refine st13 _ ?_
      exact kt
    clear R12 st13
    obtain ⟨_, _, ⟨T15, L15, k15, n15⟩, -, X15, ⟨Lc15, hQ15, l15, y15, z15⟩, st15⟩ := Jvm.LawKit.callS X13 hx (y := (⟨"jdk/internal/util/Preconditions", "checkIndex", "(IILjava/util/function/BiFunction;)I"⟩ : MethodName)) hown (mvT hZ (hw _ (List.mem_of_getElem? (i := 150) rfl))) (mvT hZ (hw _ (List.mem_of_getElem? (i := 151) rfl))) (mvT hZ (hw _ (List.mem_of_getElem? (i := 109) rfl))) (mvT hZ (hw _ (List.mem_of_getElem? (i := 152) rfl))) (by decide) (backOf (W := 0) (rm_pcR l Z a0 hw [] p1 p2 af h0 n0 Z0 hp hq) hZ (hw _ (List.mem_of_getElem? (i := 152) rfl)) (hw _ (List.mem_of_getElem? (i := 109) rfl)) (by decide) (by decide)) (g := (mkF m 5 #[vI p1, vI p2] [(.ref af), (.int p2), (.int p1)])) rfl (by rw [hml]; rfl) (argsL := [(.int p1), (.int p2), (.ref af)]) (rest := []) (lenOf pd_0 rfl) rfl (by show 2 * 0 + _ ≤ _; exact Nat.le_of_eq rfl) (hb hby d31_5) (fun _ _ => ⟨rfl, e13, (by decide : 0 + 0 ≤ _), (by decide : 0 + 0 ≤ _)⟩)
    dsimp only [Pt.U, Pt.locs, Pt.cells, Pt.slots] at X15 l15 y15 z15 st15 hQ15
    rw [l15, y15, z15] at X15
    obtain ⟨rfl, N15q, hh15⟩ := hQ15
    have N15 := Fr.app N0 N15q
    have R16 : ∀ tg, Steps p.tables e below (T15.setTop (mkF m 9 #[vI p1, vI p2] [])) tg → Steps p.tables e below (s₁.setTop (mkF m 0 #[vI p1, vI p2] [])) tg := by
      intro tg kt
      refine R14 _ ?_
      refine st15 _ ?_
      show Steps p.tables e below (T15.setTop (mkF m 8 #[vI p1, vI p2] [(.int p1)])) _
      refine XS.pop X15.here hx rfl (hb hby d31_8) rfl rfl ?_
      exact kt
    clear R14 st15
    obtain ⟨fs, hr, hrun, hended, hW, hsame⟩ := X15.leave (v := none) (fun _ => rfl)
    refine ⟨_, _, pre0 _ (R16 _ ?_), hrun, hended, _, _, rfl, ?_, ⟨_, rfl⟩, hW, hsame.mono (by decide) (by decide)⟩
    · exact X15.returnOut hx Bd.returns (hb hby d31_9) hr
    · show Q_rm_ck Z p1 p2 (.ref af) h0 n0 _ T15.heap _
      rw [hh15]
      exact ⟨rfl, N15, rfl⟩
theorem pn_2 : plainName "java/lang/StringLatin1" = true := by first | (simp [plainName, overriddenIn]; done) | decide +kernel
theorem d30_0 : decode jdk_43_method_2_code 0 = .ok (.iload_n 1, 1) := by decide +kernel
theorem d30_1 : decode jdk_43_method_2_code 1 = .ok (.aload_n 0, 1) := by decide +kernel
theorem d30_2 : decode jdk_43_method_2_code 2 = .ok (.arraylength, 1) := by decide +kernel
theorem pd_1 : parseMethodDescriptor "(II)V" = some ⟨[.int, .int], none⟩ := by decide +kernel
theorem d30_3 : decode jdk_43_method_2_code 3 = .ok (.invokestatic 9, 3) := by decide +kernel
theorem d30_6 : decode jdk_43_method_2_code 6 = .ok (.aload_n 0, 1) := by decide +kernel
theorem d30_7 : decode jdk_43_method_2_code 7 = .ok (.iload_n 1, 1) := by decide +kernel
theorem d30_8 : decode jdk_43_method_2_code 8 = .ok (.baload, 1) := by decide +kernel
theorem d30_9 : decode jdk_43_method_2_code 9 = .ok (.sipush 255, 3) := by decide +kernel
theorem d30_12 : decode jdk_43_method_2_code 12 = .ok (.iand, 1) := by decide +kernel
theorem d30_13 : decode jdk_43_method_2_code 13 = .ok (.i2c, 1) := by decide +kernel
theorem d30_14 : decode jdk_43_method_2_code 14 = .ok (.ireturn, 1) := by decide +kernel
theorem ef_rm_lch (m : MethodId) (a1 : Addr) (p2 : Int32) : entryFrame m #[(.ref a1), (.int p2)] 2 = mkF m 0 #[vR a1, vI p2] [] := by first | (simp [entryFrame, mkF, argsToLocals, Value.category]; done) | rfl
def Q_rm_lch (Z : State) (a1 : Addr) (p2 : Int32) (n : Nat) (g : Nat → Int32) (k : Nat) (vf : Value) (h0 : Heap) (n0 : Nat) (v : Option Value) (h : Heap) (L : List Loc) : Prop := v = some (.int (own_ch (g k))) ∧ Fr n0 L ∧ h = h0
set_option maxRecDepth 65536 in
set_option maxHeartbeats 40000000 in
theorem rm_lch (l : Launch) (Z : State) (a0 : Array Value) (hw : ∀ d ∈ tables_1, d.before a0 Z = true) (ws : List Jvm.Cond) (a1 : Addr) (p2 : Int32) (n : Nat) (g : Nat → Int32) (k : Nat) (vf : Value) (h0 : Heap) (n0 : Nat) (Z0 : n0 ≤ h0.size) (SF : Sta Z Z.heap "jdk/internal/util/Preconditions" "SIOOBE_FORMATTER" "Ljava/util/function/BiFunction;" vf) (OL : Old Z n0 h0) (hvf : vf.isRef = true) (VA : AV Z h0 a1 .byte n (fun j => .int (g j))) (hp : ¬ p2 < (0 : Int32)) (hq : p2 < (n : Nat).toInt32) (hj : p2.toNatClampNeg = k) (hk : k < n) :
    MetFree l (⟨"java/lang/StringLatin1", "charAt", "([BI)C"⟩ : MethodName) (head1 (Jvm.Cond.code (⟨"java/lang/StringLatin1", "charAt", "([BI)C"⟩ : MethodName) jdk_43_method_2_code 2 (some .char) :: ws) ({ frames := 2, cells := 0, slots := 0, locals := 27 } : Room)) (fun a U => a = #[(.ref a1), (.int p2)] ∧ Z.Warmed39 U.vm ∧ U.heap = h0) (fun _ _ _ _ _ => True) (fun _ U oC U' => ∃ v L, oC = .returned v ∧ Q_rm_lch Z a1 p2 n g k vf h0 n0 v U'.heap L ∧ FrameEnd U oC U' L ({ frames := 2, cells := 0, slots := 0, locals := 27 } : Room).cells ({ frames := 2, cells := 0, slots := 0, locals := 27 } : Room).slots) := by
  refine MetFree.of_bodySF (plainFor_of_name pn_2) hisR ?_
  intro p e s m args below meth c s₁ Bd hml0 hP hK
  obtain ⟨rfl, hZ, hh⟩ := hP
  have hx := Bd.exec
  have hby := Bd.bytes
  have hml : c.maxLocals = 2 := hml0
  have hown : s.vm.findClass "java/lang/StringLatin1" = some m.cls := findClass_of_methodNamed Bd.named
  have hnm := (name_of_methodNamed Bd.named Bd.method).1
  have X0 : Stand p l e ({ frames := 2, cells := 0, slots := 0, locals := 27 } : Room) s m #[(.ref a1), (.int p2)] below meth c s₁ [] 0 0 := Stand.of_body Bd
  have e0 : s₁.heap = h0 := by rw [← hh, Bd.state]; rfl
  have N0 := Fr.nil n0
  have pre0 : ∀ tg, Steps p.tables e below (s₁.setTop (mkF m 0 #[vR a1, vI p2] [])) tg → Steps p.tables e below (s₁.setTop (entryFrame m #[(.ref a1), (.int p2)] 2)) tg := fun t k => castTop (ef_rm_lch m a1 p2) k
  have pre00 : ∀ tg, Steps p.tables e below (s₁.setTop (mkF m 0 #[vR a1, vI p2] [])) tg → Steps p.tables e below (s₁.setTop (mkF m 0 #[vR a1, vI p2] [])) tg := fun _ k => k
  have R17 : ∀ tg, Steps p.tables e below (s₁.setTop (mkF m 2 #[vR a1, vI p2] [(.ref a1), (.int p2)])) tg → Steps p.tables e below (s₁.setTop (mkF m 0 #[vR a1, vI p2] [])) tg := by
    intro tg kt
    refine pre00 _ ?_
    show Steps p.tables e below (s₁.setTop (mkF m 0 #[vR a1, vI p2] [])) _
    refine XS.iloadN X0.here hx rfl (hb hby d30_0) rfl ?_
    refine XS.aloadN X0.here hx rfl (hb hby d30_1) rfl rfl ?_
    exact kt
  obtain ⟨cl18, Ar18, ln18⟩ := VA.len
  have R19 : ∀ tg, Steps p.tables e below (s₁.setTop (mkF m 3 #[vR a1, vI p2] [(.int (n : Nat).toInt32), (.int p2)])) tg → Steps p.tables e below (s₁.setTop (mkF m 0 #[vR a1, vI p2] [])) tg := by
    intro tg kt
    refine R17 _ ?_
    show Steps p.tables e below (s₁.setTop (mkF m 2 #[vR a1, vI p2] [(.ref a1), (.int p2)])) _
    refine X0.arraylength hx (by rw [e0]; exact Ar18.1) (State.isArrayOf_alike hZ.alike Ar18.2.1) (g := (mkF m 2 #[vR a1, vI p2] [(.ref a1), (.int p2)])) rfl rfl (hb hby d30_2) _ ?_
    rw [ln18]
    exact kt
  clear R17
  obtain ⟨_, _, ⟨T20, L20, k20, n20⟩, -, X20, ⟨Lc20, hQ20, l20, y20, z20⟩, st20⟩ := Jvm.LawKit.callS X0 hx (y := (⟨"java/lang/String", "checkIndex", "(II)V"⟩ : MethodName)) hown (mvT hZ (hw _ (List.mem_of_getElem? (i := 147) rfl))) (mvT hZ (hw _ (List.mem_of_getElem? (i := 148) rfl))) (mvT hZ (hw _ (List.mem_of_getElem? (i := 8) rfl))) (mvT hZ (hw _ (List.mem_of_getElem? (i := 149) rfl))) (by decide) (backOf (W := 0) (rm_ck l Z a0 hw [] p2 (n : Nat).toInt32 vf h0 n0 Z0 SF OL hvf hp hq) hZ (hw _ (List.mem_of_getElem? (i := 149) rfl)) (hw _ (List.mem_of_getElem? (i := 8) rfl)) (by decide) (by decide)) (g := (mkF m 3 #[vR a1, vI p2] [(.int (n : Nat).toInt32), (.int p2)])) rfl (by rw [hml]; rfl) (argsL := [(.int p2), (.int (n : Nat).toInt32)]) (rest := []) (lenOf pd_1 rfl) rfl (by show 2 * 0 + _ ≤ _; exact Nat.le_of_eq rfl) (hb hby d30_3) (fun _ _ => ⟨rfl, e0, (by decide : 0 + 0 ≤ _), (by decide : 0 + 0 ≤ _)⟩)
  dsimp only [Pt.U, Pt.locs, Pt.cells, Pt.slots] at X20 l20 y20 z20 st20 hQ20
  rw [l20, y20, z20] at X20
  obtain ⟨rfl, N20q, hh20⟩ := hQ20
  have N20 := Fr.app N0 N20q
  have R21 : ∀ tg, Steps p.tables e below (T20.setTop (mkF m 8 #[vR a1, vI p2] [(.int p2), (.ref a1)])) tg → Steps p.tables e below (s₁.setTop (mkF m 0 #[vR a1, vI p2] [])) tg := by
    intro tg kt
    refine R19 _ ?_
    refine st20 _ ?_
    refine XS.aloadN X20.here hx rfl (hb hby d30_6) rfl rfl ?_
    refine XS.iloadN X20.here hx rfl (hb hby d30_7) rfl ?_
    exact kt
  clear R19 st20
  obtain ⟨cl22, Ar22, hin22, hat22⟩ := VA.at (j := p2) (k := k) hp hj hk
  have R23 : ∀ tg, Steps p.tables e below (T20.setTop (mkF m 14 #[vR a1, vI p2] [(.int (((g k) &&& (255 : Int32)).toUInt32.toUInt16.toUInt32.toInt32))])) tg → Steps p.tables e below (s₁.setTop (mkF m 0 #[vR a1, vI p2] [])) tg := by
    intro tg kt
    refine R21 _ ?_
    show Steps p.tables e below (T20.setTop (mkF m 8 #[vR a1, vI p2] [(.int p2), (.ref a1)])) _
    refine X20.baloadBytes hx (j := p2) (v := (.int (g k))) (by rw [hh20]; exact Ar22.1) (State.isArrayOf_alike hZ.alike Ar22.2.1) Ar22.2.2 hin22 hat22 (g := (mkF m 8 #[vR a1, vI p2] [(.int p2), (.ref a1)])) rfl rfl (hb hby d30_8) _ ?_
    refine XS.sipush X20.here hx rfl (hb hby d30_9) ?_
    show Steps p.tables e below (T20.setTop (mkF m 12 #[vR a1, vI p2] [(.int (255 : Int32)), (.int (g k))])) _
    refine XS.iand X20.here hx rfl (hb hby d30_12) rfl ?_
    show Steps p.tables e below (T20.setTop (mkF m 13 #[vR a1, vI p2] [(.int ((g k) &&& (255 : Int32)))])) _
    refine XS.i2c X20.here hx rfl (hb hby d30_13) rfl ?_
    exact kt
  clear R21
  have R24 : ∀ tg, Steps p.tables e below (T20.setTop (mkF m 14 #[vR a1, vI p2] [(.int (own_ch (g k)))])) tg → Steps p.tables e below (s₁.setTop (mkF m 0 #[vR a1, vI p2] [])) tg := R23
  obtain ⟨fs, hr, hrun, hended, hW, hsame⟩ := X20.leave (v := some (.int (own_ch (g k)))) (fun h => by rw [Bd.returns] at h; cases h)
  refine ⟨_, _, pre0 _ (R24 _ ?_), hrun, hended, _, _, rfl, ?_, ⟨_, rfl⟩, hW, hsame.mono (by decide) (by decide)⟩
  · exact retN X20 hx (t := .char) Bd.returns (by simp) (hb hby d30_14) (fun f acts q1 q2 q3 => (congrArg (fun q => (doReturn e (T20.setTop f) acts (some (.int q))).1) (own_chn _)).trans (hr f acts q1 q2 q3))
  · show Q_rm_lch Z a1 p2 n g k vf h0 n0 _ T20.heap _
    rw [hh20]
    exact ⟨rfl, N20, rfl⟩
theorem d29_0 : decode jdk_42_method_56_code 0 = .ok (.aload_n 0, 1) := by decide +kernel
theorem pd_2 : parseMethodDescriptor "()Z" = some ⟨[], some .boolean⟩ := by decide +kernel
theorem d29_1 : decode jdk_42_method_56_code 1 = .ok (.invokevirtual 492, 3) := by decide +kernel
theorem d29_4 : decode jdk_42_method_56_code 4 = .ok (.ifCond .eq 12, 3) := by decide +kernel
theorem d29_7 : decode jdk_42_method_56_code 7 = .ok (.aload_n 0, 1) := by decide +kernel
theorem d29_8 : decode jdk_42_method_56_code 8 = .ok (.getfield 9, 3) := by decide +kernel
theorem d29_11 : decode jdk_42_method_56_code 11 = .ok (.iload_n 1, 1) := by decide +kernel
theorem pd_3 : parseMethodDescriptor "([BI)C" = some ⟨[(.array .byte), .int], some .char⟩ := by decide +kernel
theorem d29_12 : decode jdk_42_method_56_code 12 = .ok (.invokestatic 495, 3) := by decide +kernel
theorem d29_15 : decode jdk_42_method_56_code 15 = .ok (.ireturn, 1) := by decide +kernel
theorem ef_rm_cha (m : MethodId) (a1 : Addr) (p2 : Int32) : entryFrame m #[(.ref a1), (.int p2)] 2 = mkF m 0 #[vR a1, vI p2] [] := by first | (simp [entryFrame, mkF, argsToLocals, Value.category]; done) | rfl
def Q_rm_cha (Z : State) (a1 : Addr) (p2 : Int32) (tb : Addr) (cs : Int32) (n : Nat) (g : Nat → Int32) (k : Nat) (vf : Value) (h0 : Heap) (n0 : Nat) (v : Option Value) (h : Heap) (L : List Loc) : Prop := v = some (.int (own_ch (g k))) ∧ Fr n0 L ∧ h = h0
set_option maxRecDepth 65536 in
set_option maxHeartbeats 40000000 in
theorem rm_cha (l : Launch) (Z : State) (a0 : Array Value) (hw : ∀ d ∈ tables_1, d.before a0 Z = true) (ws : List Jvm.Cond) (a1 : Addr) (p2 : Int32) (tb : Addr) (cs : Int32) (n : Nat) (g : Nat → Int32) (k : Nat) (vf : Value) (h0 : Heap) (n0 : Nat) (Z0 : n0 ≤ h0.size) (SC : Sta Z Z.heap "java/lang/String" "COMPACT_STRINGS" "Z" (.int cs)) (OL : Old Z n0 h0) (hcs : ¬ (cs = (0 : Int32))) (SF : Sta Z Z.heap "jdk/internal/util/Preconditions" "SIOOBE_FORMATTER" "Ljava/util/function/BiFunction;" vf) (hvf : vf.isRef = true) (Fc : Fld Z h0 a1 "java/lang/String" "coder" "B" (.int (0 : Int32))) (Fv : Fld Z h0 a1 "java/lang/String" "value" "[B" (.ref tb)) (E1 : Exa Z h0 a1 "java/lang/String") (VA : AV Z h0 tb .byte n (fun j => .int (g j))) (hp : ¬ p2 < (0 : Int32)) (hq : p2 < (n : Nat).toInt32) (hj : p2.toNatClampNeg = k) (hk : k < n) :
    MetFree l (⟨"java/lang/String", "charAt", "(I)C"⟩ : MethodName) (head1 (Jvm.Cond.code (⟨"java/lang/String", "charAt", "(I)C"⟩ : MethodName) jdk_42_method_56_code 2 (some .char) :: ws) ({ frames := 3, cells := 0, slots := 0, locals := 40 } : Room)) (fun a U => a = #[(.ref a1), (.int p2)] ∧ Z.Warmed39 U.vm ∧ U.heap = h0) (fun _ _ _ _ _ => True) (fun _ U oC U' => ∃ v L, oC = .returned v ∧ Q_rm_cha Z a1 p2 tb cs n g k vf h0 n0 v U'.heap L ∧ FrameEnd U oC U' L ({ frames := 3, cells := 0, slots := 0, locals := 40 } : Room).cells ({ frames := 3, cells := 0, slots := 0, locals := 40 } : Room).slots) := by
  refine MetFree.of_bodySF (plainFor_of_name pn_0) hisR ?_
  intro p e s m args below meth c s₁ Bd hml0 hP hK
  obtain ⟨rfl, hZ, hh⟩ := hP
  have hx := Bd.exec
  have hby := Bd.bytes
  have hml : c.maxLocals = 2 := hml0
  have hown : s.vm.findClass "java/lang/String" = some m.cls := findClass_of_methodNamed Bd.named
  have hnm := (name_of_methodNamed Bd.named Bd.method).1
  have X0 : Stand p l e ({ frames := 3, cells := 0, slots := 0, locals := 40 } : Room) s m #[(.ref a1), (.int p2)] below meth c s₁ [] 0 0 := Stand.of_body Bd
  have e0 : s₁.heap = h0 := by rw [← hh, Bd.state]; rfl
  have N0 := Fr.nil n0
  have pre0 : ∀ tg, Steps p.tables e below (s₁.setTop (mkF m 0 #[vR a1, vI p2] [])) tg → Steps p.tables e below (s₁.setTop (entryFrame m #[(.ref a1), (.int p2)] 2)) tg := fun t k => castTop (ef_rm_cha m a1 p2) k
  have pre00 : ∀ tg, Steps p.tables e below (s₁.setTop (mkF m 0 #[vR a1, vI p2] [])) tg → Steps p.tables e below (s₁.setTop (mkF m 0 #[vR a1, vI p2] [])) tg := fun _ k => k
  have R25 : ∀ tg, Steps p.tables e below (s₁.setTop (mkF m 1 #[vR a1, vI p2] [(.ref a1)])) tg → Steps p.tables e below (s₁.setTop (mkF m 0 #[vR a1, vI p2] [])) tg := by
    intro tg kt
    refine pre00 _ ?_
    show Steps p.tables e below (s₁.setTop (mkF m 0 #[vR a1, vI p2] [])) _
    refine XS.aloadN X0.here hx rfl (hb hby d29_0) rfl rfl ?_
    exact kt
  obtain ⟨cq26, kq26, q26a, q26b, q26c⟩ := isOf hZ e0 E1
  obtain ⟨_, _, ⟨T26, L26, k26, n26⟩, -, X26, ⟨Lc26, hQ26, l26, y26, z26⟩, st26⟩ := X0.virtualBack hx (y := (⟨"java/lang/String", "isLatin1", "()Z"⟩ : MethodName)) (z := (⟨"java/lang/String", "isLatin1", "()Z"⟩ : MethodName)) hown (mvT hZ (hw _ (List.mem_of_getElem? (i := 68) rfl))) (mvT hZ (hw _ (List.mem_of_getElem? (i := 69) rfl))) (notFace_of_selects (args := #[]) (mvT hZ (hw _ (List.mem_of_getElem? (i := 71) rfl)))) (mvT hZ (hw _ (List.mem_of_getElem? (i := 71) rfl))) (mvT hZ (hw _ (List.mem_of_getElem? (i := 70) rfl))) (by decide) (backOf (W := 0) (rm_lat l Z a0 hw [] a1 cs h0 n0 Z0 SC OL hcs Fc) hZ (hw _ (List.mem_of_getElem? (i := 72) rfl)) (hw _ (List.mem_of_getElem? (i := 8) rfl)) (by decide) (by decide)) q26a q26c (g := (mkF m 1 #[vR a1, vI p2] [(.ref a1)])) rfl (by rw [hml]; rfl) (Steps.refl _) (argsL := []) (rest := []) (lenOf pd_2 rfl) rfl (by show 2 * 0 + _ ≤ _; exact Nat.le_of_eq rfl) (hb hby d29_1) (fun _ _ => ⟨rfl, e0, (by decide : 0 + 0 ≤ _), (by decide : 0 + 0 ≤ _)⟩)
  dsimp only [Pt.U, Pt.locs, Pt.cells, Pt.slots] at X26 l26 y26 z26 st26 hQ26
  rw [l26, y26, z26] at X26
  obtain ⟨rfl, N26q, hh26⟩ := hQ26
  have N26 := Fr.app N0 N26q
  have R27 : ∀ tg, Steps p.tables e below (T26.setTop (mkF m 8 #[vR a1, vI p2] [(.ref a1)])) tg → Steps p.tables e below (s₁.setTop (mkF m 0 #[vR a1, vI p2] [])) tg := by
    intro tg kt
    refine R25 _ ?_
    refine st26.trans ?_
    show Steps p.tables e below (T26.setTop (mkF m 4 #[vR a1, vI p2] [(.int (1 : Int32))])) _
    refine XS.ifNo X26.here hx rfl (hb hby d29_4) rfl ((if0 _ _).trans (feq (by decide : ¬ ((1 : Int32) = (0 : Int32)))).1) ?_
    refine XS.aloadN X26.here hx rfl (hb hby d29_7) rfl rfl ?_
    exact kt
  clear R25 st26
  obtain ⟨T28, X28, e28, st28⟩ := getF X26 hx hZ hown (host := "") (Or.inl (hw _ (List.mem_of_getElem? (i := 33) rfl))) Via.refl hh26 Fv (g := (mkF m 8 #[vR a1, vI p2] [(.ref a1)])) rfl rfl (hb hby d29_8)
  have R29 : ∀ tg, Steps p.tables e below (T28.setTop (mkF m 12 #[vR a1, vI p2] [(.int p2), (.ref tb)])) tg → Steps p.tables e below (s₁.setTop (mkF m 0 #[vR a1, vI p2] [])) tg := by
    intro tg kt
    refine R27 _ ?_
    refine st28 _ ?_
    refine XS.iloadN X28.here hx rfl (hb hby d29_11) rfl ?_
    exact kt
  clear R27 st28
  obtain ⟨_, _, ⟨T30, L30, k30, n30⟩, -, X30, ⟨Lc30, hQ30, l30, y30, z30⟩, st30⟩ := Jvm.LawKit.callS X28 hx (y := (⟨"java/lang/StringLatin1", "charAt", "([BI)C"⟩ : MethodName)) hown (mvT hZ (hw _ (List.mem_of_getElem? (i := 144) rfl))) (mvT hZ (hw _ (List.mem_of_getElem? (i := 145) rfl))) (mvT hZ (hw _ (List.mem_of_getElem? (i := 85) rfl))) (mvT hZ (hw _ (List.mem_of_getElem? (i := 146) rfl))) (by decide) (backOf (W := 0) (rm_lch l Z a0 hw [] tb p2 n g k vf h0 n0 Z0 SF OL hvf VA hp hq hj hk) hZ (hw _ (List.mem_of_getElem? (i := 146) rfl)) (hw _ (List.mem_of_getElem? (i := 85) rfl)) (by decide) (by decide)) (g := (mkF m 12 #[vR a1, vI p2] [(.int p2), (.ref tb)])) rfl (by rw [hml]; rfl) (argsL := [(.ref tb), (.int p2)]) (rest := []) (lenOf pd_3 rfl) rfl (by show 2 * 0 + _ ≤ _; exact Nat.le_of_eq rfl) (hb hby d29_12) (fun _ _ => ⟨rfl, e28, (by decide : 0 + 0 ≤ _), (by decide : 0 + 0 ≤ _)⟩)
  dsimp only [Pt.U, Pt.locs, Pt.cells, Pt.slots] at X30 l30 y30 z30 st30 hQ30
  rw [l30, y30, z30] at X30
  obtain ⟨rfl, N30q, hh30⟩ := hQ30
  have N30 := Fr.app N26 N30q
  have R31 : ∀ tg, Steps p.tables e below (T30.setTop (mkF m 15 #[vR a1, vI p2] [(.int (own_ch (g k)))])) tg → Steps p.tables e below (s₁.setTop (mkF m 0 #[vR a1, vI p2] [])) tg := by
    intro tg kt
    refine R29 _ ?_
    refine st30 _ ?_
    exact kt
  clear R29 st30
  obtain ⟨fs, hr, hrun, hended, hW, hsame⟩ := X30.leave (v := some (.int (own_ch (g k)))) (fun h => by rw [Bd.returns] at h; cases h)
  refine ⟨_, _, pre0 _ (R31 _ ?_), hrun, hended, _, _, rfl, ?_, ⟨_, rfl⟩, hW, hsame.mono (by decide) (by decide)⟩
  · exact retN X30 hx (t := .char) Bd.returns (by simp) (hb hby d29_15) (fun f acts q1 q2 q3 => (congrArg (fun q => (doReturn e (T30.setTop f) acts (some (.int q))).1) (own_chn _)).trans (hr f acts q1 q2 q3))
  · show Q_rm_cha Z a1 p2 tb cs n g k vf h0 n0 _ T30.heap _
    rw [hh30]
    exact ⟨rfl, N30, rfl⟩
theorem pn_3 : plainName "com/example/travessia/travessia/isis/IsisFieldLeadingTextPinLaw" = true := by first | (simp [plainName, overriddenIn]; done) | decide +kernel
theorem d1_0 : decode method_2_code 0 = .ok (.iload_n 0, 1) := by decide +kernel
theorem d1_1 : decode method_2_code 1 = .ok (.iconst 3, 1) := by decide +kernel
theorem d1_2 : decode method_2_code 2 = .ok (.iand, 1) := by decide +kernel
theorem d1_3 : decode method_2_code 3 = .ok (.ifCond .ne 8, 3) := by decide +kernel
theorem d1_6 : decode method_2_code 6 = .ok (.bipush 94, 2) := by decide +kernel
theorem d1_8 : decode method_2_code 8 = .ok (.goto 11, 3) := by decide +kernel
theorem d1_19 : decode method_2_code 19 = .ok (.ireturn, 1) := by decide +kernel
theorem d1_11 : decode method_2_code 11 = .ok (.iload_n 0, 1) := by decide +kernel
theorem d1_12 : decode method_2_code 12 = .ok (.iconst 2, 1) := by decide +kernel
theorem d1_13 : decode method_2_code 13 = .ok (.iushr, 1) := by decide +kernel
theorem d1_14 : decode method_2_code 14 = .ok (.sipush 255, 3) := by decide +kernel
theorem d1_17 : decode method_2_code 17 = .ok (.iand, 1) := by decide +kernel
theorem d1_18 : decode method_2_code 18 = .ok (.i2c, 1) := by decide +kernel
theorem ef_rm_draw (m : MethodId) (p1 : Int32) : entryFrame m #[(.int p1)] 1 = mkF m 0 #[vI p1] [] := by first | (simp [entryFrame, mkF, argsToLocals, Value.category]; done) | rfl
def Q_rm_draw (Z : State) (p1 : Int32) (h0 : Heap) (n0 : Nat) (v : Option Value) (h : Heap) (L : List Loc) : Prop := v = some (.int (own_draw p1)) ∧ Fr n0 L ∧ h = h0
set_option maxRecDepth 65536 in
set_option maxHeartbeats 40000000 in
theorem rm_draw (l : Launch) (Z : State) (a0 : Array Value) (hw : ∀ d ∈ tables_1, d.before a0 Z = true) (ws : List Jvm.Cond) (p1 : Int32) (h0 : Heap) (n0 : Nat) (Z0 : n0 ≤ h0.size) :
    MetFree l (⟨"com/example/travessia/travessia/isis/IsisFieldLeadingTextPinLaw", "draw", "(I)C"⟩ : MethodName) (head1 (Jvm.Cond.code (⟨"com/example/travessia/travessia/isis/IsisFieldLeadingTextPinLaw", "draw", "(I)C"⟩ : MethodName) method_2_code 1 (some .char) :: ws) ({ frames := 0, cells := 0, slots := 0, locals := 0 } : Room)) (fun a U => a = #[(.int p1)] ∧ Z.Warmed39 U.vm ∧ U.heap = h0) (fun _ _ _ _ _ => True) (fun _ U oC U' => ∃ v L, oC = .returned v ∧ Q_rm_draw Z p1 h0 n0 v U'.heap L ∧ FrameEnd U oC U' L ({ frames := 0, cells := 0, slots := 0, locals := 0 } : Room).cells ({ frames := 0, cells := 0, slots := 0, locals := 0 } : Room).slots) := by
  refine MetFree.of_bodySF (plainFor_of_name pn_3) hisR ?_
  intro p e s m args below meth c s₁ Bd hml0 hP hK
  obtain ⟨rfl, hZ, hh⟩ := hP
  have hx := Bd.exec
  have hby := Bd.bytes
  have hml : c.maxLocals = 1 := hml0
  have hown : s.vm.findClass "com/example/travessia/travessia/isis/IsisFieldLeadingTextPinLaw" = some m.cls := findClass_of_methodNamed Bd.named
  have hnm := (name_of_methodNamed Bd.named Bd.method).1
  have X0 : Stand p l e ({ frames := 0, cells := 0, slots := 0, locals := 0 } : Room) s m #[(.int p1)] below meth c s₁ [] 0 0 := Stand.of_body Bd
  have e0 : s₁.heap = h0 := by rw [← hh, Bd.state]; rfl
  have N0 := Fr.nil n0
  have pre0 : ∀ tg, Steps p.tables e below (s₁.setTop (mkF m 0 #[vI p1] [])) tg → Steps p.tables e below (s₁.setTop (entryFrame m #[(.int p1)] 1)) tg := fun t k => castTop (ef_rm_draw m p1) k
  have pre00 : ∀ tg, Steps p.tables e below (s₁.setTop (mkF m 0 #[vI p1] [])) tg → Steps p.tables e below (s₁.setTop (mkF m 0 #[vI p1] [])) tg := fun _ k => k
  have R32 : ∀ tg, Steps p.tables e below (s₁.setTop (mkF m 3 #[vI p1] [(.int (p1 &&& (3 : Int32)))])) tg → Steps p.tables e below (s₁.setTop (mkF m 0 #[vI p1] [])) tg := by
    intro tg kt
    refine pre00 _ ?_
    show Steps p.tables e below (s₁.setTop (mkF m 0 #[vI p1] [])) _
    refine XS.iloadN X0.here hx rfl (hb hby d1_0) rfl ?_
    refine XS.iconst X0.here hx rfl (hb hby d1_1) ?_
    show Steps p.tables e below (s₁.setTop (mkF m 2 #[vI p1] [(.int (3 : Int32)), (.int p1)])) _
    refine XS.iand X0.here hx rfl (hb hby d1_2) rfl ?_
    exact kt
  by_cases hc : (p1 &&& (3 : Int32)) = (0 : Int32)
  · have R33 : ∀ tg, Steps p.tables e below (s₁.setTop (mkF m 19 #[vI p1] [(.int (94 : Int32))])) tg → Steps p.tables e below (s₁.setTop (mkF m 0 #[vI p1] [])) tg := by
      intro tg kt
      refine R32 _ ?_
      show Steps p.tables e below (s₁.setTop (mkF m 3 #[vI p1] [(.int (p1 &&& (3 : Int32)))])) _
      refine XS.ifNo X0.here hx rfl (hb hby d1_3) rfl ((if0 _ _).trans (teq (hc : (p1 &&& (3 : Int32)) = (0 : Int32))).2) ?_
      refine XS.bipush X0.here hx rfl (hb hby d1_6) ?_
      show Steps p.tables e below (s₁.setTop (mkF m 8 #[vI p1] [(.int (94 : Int32))])) _
      refine XS.goto X0.here hx rfl (pc0 := 8) (pc' := 19) rfl (hb hby d1_8) (by decide) (by decide) ?_
      exact kt
    clear R32
    obtain ⟨fs, hr, hrun, hended, hW, hsame⟩ := X0.leave (v := some (.int (94 : Int32))) (fun h => by rw [Bd.returns] at h; cases h)
    refine ⟨_, _, pre0 _ (R33 _ ?_), hrun, hended, _, _, rfl, ?_, ⟨_, rfl⟩, hW, hsame.mono (by decide) (by decide)⟩
    · exact retN X0 hx (t := .char) Bd.returns (by simp) (hb hby d1_19) hr
    · show Q_rm_draw Z p1 h0 n0 _ s₁.heap _
      rw [e0]
      exact ⟨by rw [own_draw, if_pos hc], N0, rfl⟩
  · have R34 : ∀ tg, Steps p.tables e below (s₁.setTop (mkF m 19 #[vI p1] [(.int ((((p1.toUInt32 >>> ((2 : Int32) &&& 31).toUInt32).toInt32) &&& (255 : Int32)).toUInt32.toUInt16.toUInt32.toInt32))])) tg → Steps p.tables e below (s₁.setTop (mkF m 0 #[vI p1] [])) tg := by
      intro tg kt
      refine R32 _ ?_
      show Steps p.tables e below (s₁.setTop (mkF m 3 #[vI p1] [(.int (p1 &&& (3 : Int32)))])) _
      refine XS.ifYes X0.here hx rfl (pc0 := 3) (pc' := 11) rfl (hb hby d1_3) rfl ((if0 _ _).trans (feq (hc : ¬ ((p1 &&& (3 : Int32)) = (0 : Int32)))).2) (by decide) (by decide) ?_
      refine XS.iloadN X0.here hx rfl (hb hby d1_11) rfl ?_
      refine XS.iconst X0.here hx rfl (hb hby d1_12) ?_
      show Steps p.tables e below (s₁.setTop (mkF m 13 #[vI p1] [(.int (2 : Int32)), (.int p1)])) _
      refine XS.iushr X0.here hx rfl (hb hby d1_13) rfl ?_
      refine XS.sipush X0.here hx rfl (hb hby d1_14) ?_
      show Steps p.tables e below (s₁.setTop (mkF m 17 #[vI p1] [(.int (255 : Int32)), (.int ((p1.toUInt32 >>> ((2 : Int32) &&& 31).toUInt32).toInt32))])) _
      refine XS.iand X0.here hx rfl (hb hby d1_17) rfl ?_
      show Steps p.tables e below (s₁.setTop (mkF m 18 #[vI p1] [(.int (((p1.toUInt32 >>> ((2 : Int32) &&& 31).toUInt32).toInt32) &&& (255 : Int32)))])) _
      refine XS.i2c X0.here hx rfl (hb hby d1_18) rfl ?_
      exact kt
    clear R32
    have R35 : ∀ tg, Steps p.tables e below (s₁.setTop (mkF m 19 #[vI p1] [(.int (own_ch ((p1.toUInt32 >>> ((2 : Int32) &&& 31).toUInt32).toInt32)))])) tg → Steps p.tables e below (s₁.setTop (mkF m 0 #[vI p1] [])) tg := R34
    obtain ⟨fs, hr, hrun, hended, hW, hsame⟩ := X0.leave (v := some (.int (own_ch ((p1.toUInt32 >>> ((2 : Int32) &&& 31).toUInt32).toInt32)))) (fun h => by rw [Bd.returns] at h; cases h)
    refine ⟨_, _, pre0 _ (R35 _ ?_), hrun, hended, _, _, rfl, ?_, ⟨_, rfl⟩, hW, hsame.mono (by decide) (by decide)⟩
    · exact retN X0 hx (t := .char) Bd.returns (by simp) (hb hby d1_19) (fun f acts q1 q2 q3 => (congrArg (fun q => (doReturn e (s₁.setTop f) acts (some (.int q))).1) (own_chn _)).trans (hr f acts q1 q2 q3))
    · show Q_rm_draw Z p1 h0 n0 _ s₁.heap _
      rw [e0]
      exact ⟨by rw [own_draw, if_neg hc], N0, rfl⟩
theorem d19_0 : decode jdk_29_method_69_code 0 = .ok (.iload_n 0, 1) := by decide +kernel
theorem d19_1 : decode jdk_29_method_69_code 1 = .ok (.iload_n 1, 1) := by decide +kernel
theorem d19_2 : decode jdk_29_method_69_code 2 = .ok (.if_icmp .gt 7, 3) := by decide +kernel
theorem d19_9 : decode jdk_29_method_69_code 9 = .ok (.iload_n 1, 1) := by decide +kernel
theorem d19_10 : decode jdk_29_method_69_code 10 = .ok (.ireturn, 1) := by decide +kernel
theorem d19_5 : decode jdk_29_method_69_code 5 = .ok (.iload_n 0, 1) := by decide +kernel
theorem d19_6 : decode jdk_29_method_69_code 6 = .ok (.goto 4, 3) := by decide +kernel
theorem ef_rm_min (m : MethodId) (p1 : Int32) (p2 : Int32) : entryFrame m #[(.int p1), (.int p2)] 2 = mkF m 0 #[vI p1, vI p2] [] := by first | (simp [entryFrame, mkF, argsToLocals, Value.category]; done) | rfl
def Q_rm_min (Z : State) (p1 : Int32) (p2 : Int32) (h0 : Heap) (n0 : Nat) (v : Option Value) (h : Heap) (L : List Loc) : Prop := v = some (.int (own_min p1 p2)) ∧ Fr n0 L ∧ h = h0
set_option maxRecDepth 65536 in
set_option maxHeartbeats 40000000 in
theorem rm_min (l : Launch) (Z : State) (a0 : Array Value) (hw : ∀ d ∈ tables_1, d.before a0 Z = true) (ws : List Jvm.Cond) (p1 : Int32) (p2 : Int32) (h0 : Heap) (n0 : Nat) (Z0 : n0 ≤ h0.size) :
    MetFree l (⟨"java/lang/Math", "min", "(II)I"⟩ : MethodName) (head1 (Jvm.Cond.code (⟨"java/lang/Math", "min", "(II)I"⟩ : MethodName) jdk_29_method_69_code 2 (some .int) :: ws) ({ frames := 0, cells := 0, slots := 0, locals := 0 } : Room)) (fun a U => a = #[(.int p1), (.int p2)] ∧ Z.Warmed39 U.vm ∧ U.heap = h0) (fun _ _ _ _ _ => True) (fun _ U oC U' => ∃ v L, oC = .returned v ∧ Q_rm_min Z p1 p2 h0 n0 v U'.heap L ∧ FrameEnd U oC U' L ({ frames := 0, cells := 0, slots := 0, locals := 0 } : Room).cells ({ frames := 0, cells := 0, slots := 0, locals := 0 } : Room).slots) := by
  refine MetFree.of_bodySF (Jvm.Free.JP.mathPlain rfl (by decide +kernel)) hisR ?_
  intro p e s m args below meth c s₁ Bd hml0 hP hK
  obtain ⟨rfl, hZ, hh⟩ := hP
  have hx := Bd.exec
  have hby := Bd.bytes
  have hml : c.maxLocals = 2 := hml0
  have hown : s.vm.findClass "java/lang/Math" = some m.cls := findClass_of_methodNamed Bd.named
  have hnm := (name_of_methodNamed Bd.named Bd.method).1
  have X0 : Stand p l e ({ frames := 0, cells := 0, slots := 0, locals := 0 } : Room) s m #[(.int p1), (.int p2)] below meth c s₁ [] 0 0 := Stand.of_body Bd
  have e0 : s₁.heap = h0 := by rw [← hh, Bd.state]; rfl
  have N0 := Fr.nil n0
  have pre0 : ∀ tg, Steps p.tables e below (s₁.setTop (mkF m 0 #[vI p1, vI p2] [])) tg → Steps p.tables e below (s₁.setTop (entryFrame m #[(.int p1), (.int p2)] 2)) tg := fun t k => castTop (ef_rm_min m p1 p2) k
  have pre00 : ∀ tg, Steps p.tables e below (s₁.setTop (mkF m 0 #[vI p1, vI p2] [])) tg → Steps p.tables e below (s₁.setTop (mkF m 0 #[vI p1, vI p2] [])) tg := fun _ k => k
  have R36 : ∀ tg, Steps p.tables e below (s₁.setTop (mkF m 2 #[vI p1, vI p2] [(.int p2), (.int p1)])) tg → Steps p.tables e below (s₁.setTop (mkF m 0 #[vI p1, vI p2] [])) tg := by
    intro tg kt
    refine pre00 _ ?_
    show Steps p.tables e below (s₁.setTop (mkF m 0 #[vI p1, vI p2] [])) _
    refine XS.iloadN X0.here hx rfl (hb hby d19_0) rfl ?_
    refine XS.iloadN X0.here hx rfl (hb hby d19_1) rfl ?_
    exact kt
  by_cases hc : p2 < p1
  · have R37 : ∀ tg, Steps p.tables e below (s₁.setTop (mkF m 10 #[vI p1, vI p2] [(.int p2)])) tg → Steps p.tables e below (s₁.setTop (mkF m 0 #[vI p1, vI p2] [])) tg := by
      intro tg kt
      refine R36 _ ?_
      show Steps p.tables e below (s₁.setTop (mkF m 2 #[vI p1, vI p2] [(.int p2), (.int p1)])) _
      refine XS.icmpYes X0.here hx rfl (pc0 := 2) (pc' := 9) rfl (hb hby d19_2) rfl (tlt (hc : p2 < p1)).2.2.1 (by decide) (by decide) ?_
      refine XS.iloadN X0.here hx rfl (hb hby d19_9) rfl ?_
      exact kt
    clear R36
    obtain ⟨fs, hr, hrun, hended, hW, hsame⟩ := X0.leave (v := some (.int p2)) (fun h => by rw [Bd.returns] at h; cases h)
    refine ⟨_, _, pre0 _ (R37 _ ?_), hrun, hended, _, _, rfl, ?_, ⟨_, rfl⟩, hW, hsame.mono (by decide) (by decide)⟩
    · exact retI X0 hx Bd.returns (hb hby d19_10) hr
    · show Q_rm_min Z p1 p2 h0 n0 _ s₁.heap _
      rw [e0]
      exact ⟨by simp [own_min, hc], N0, rfl⟩
  · have R38 : ∀ tg, Steps p.tables e below (s₁.setTop (mkF m 10 #[vI p1, vI p2] [(.int p1)])) tg → Steps p.tables e below (s₁.setTop (mkF m 0 #[vI p1, vI p2] [])) tg := by
      intro tg kt
      refine R36 _ ?_
      show Steps p.tables e below (s₁.setTop (mkF m 2 #[vI p1, vI p2] [(.int p2), (.int p1)])) _
      refine XS.icmpNo X0.here hx rfl (hb hby d19_2) rfl (flt (hc : ¬ (p2 < p1))).2.2.1 ?_
      refine XS.iloadN X0.here hx rfl (hb hby d19_5) rfl ?_
      show Steps p.tables e below (s₁.setTop (mkF m 6 #[vI p1, vI p2] [(.int p1)])) _
      refine XS.goto X0.here hx rfl (pc0 := 6) (pc' := 10) rfl (hb hby d19_6) (by decide) (by decide) ?_
      exact kt
    clear R36
    obtain ⟨fs, hr, hrun, hended, hW, hsame⟩ := X0.leave (v := some (.int p1)) (fun h => by rw [Bd.returns] at h; cases h)
    refine ⟨_, _, pre0 _ (R38 _ ?_), hrun, hended, _, _, rfl, ?_, ⟨_, rfl⟩, hW, hsame.mono (by decide) (by decide)⟩
    · exact retI X0 hx Bd.returns (hb hby d19_10) hr
    · show Q_rm_min Z p1 p2 h0 n0 _ s₁.heap _
      rw [e0]
      exact ⟨by simp [own_min, hc], N0, rfl⟩
theorem d18_0 : decode jdk_29_method_65_code 0 = .ok (.iload_n 0, 1) := by decide +kernel
theorem d18_1 : decode jdk_29_method_65_code 1 = .ok (.iload_n 1, 1) := by decide +kernel
theorem d18_2 : decode jdk_29_method_65_code 2 = .ok (.if_icmp .lt 7, 3) := by decide +kernel
theorem d18_9 : decode jdk_29_method_65_code 9 = .ok (.iload_n 1, 1) := by decide +kernel
theorem d18_10 : decode jdk_29_method_65_code 10 = .ok (.ireturn, 1) := by decide +kernel
theorem d18_5 : decode jdk_29_method_65_code 5 = .ok (.iload_n 0, 1) := by decide +kernel
theorem d18_6 : decode jdk_29_method_65_code 6 = .ok (.goto 4, 3) := by decide +kernel
theorem ef_rm_max (m : MethodId) (p1 : Int32) (p2 : Int32) : entryFrame m #[(.int p1), (.int p2)] 2 = mkF m 0 #[vI p1, vI p2] [] := by first | (simp [entryFrame, mkF, argsToLocals, Value.category]; done) | rfl
def Q_rm_max (Z : State) (p1 : Int32) (p2 : Int32) (h0 : Heap) (n0 : Nat) (v : Option Value) (h : Heap) (L : List Loc) : Prop := v = some (.int (own_max p1 p2)) ∧ Fr n0 L ∧ h = h0
set_option maxRecDepth 65536 in
set_option maxHeartbeats 40000000 in
theorem rm_max (l : Launch) (Z : State) (a0 : Array Value) (hw : ∀ d ∈ tables_1, d.before a0 Z = true) (ws : List Jvm.Cond) (p1 : Int32) (p2 : Int32) (h0 : Heap) (n0 : Nat) (Z0 : n0 ≤ h0.size) :
    MetFree l (⟨"java/lang/Math", "max", "(II)I"⟩ : MethodName) (head1 (Jvm.Cond.code (⟨"java/lang/Math", "max", "(II)I"⟩ : MethodName) jdk_29_method_65_code 2 (some .int) :: ws) ({ frames := 0, cells := 0, slots := 0, locals := 0 } : Room)) (fun a U => a = #[(.int p1), (.int p2)] ∧ Z.Warmed39 U.vm ∧ U.heap = h0) (fun _ _ _ _ _ => True) (fun _ U oC U' => ∃ v L, oC = .returned v ∧ Q_rm_max Z p1 p2 h0 n0 v U'.heap L ∧ FrameEnd U oC U' L ({ frames := 0, cells := 0, slots := 0, locals := 0 } : Room).cells ({ frames := 0, cells := 0, slots := 0, locals := 0 } : Room).slots) := by
  refine MetFree.of_bodySF (Jvm.Free.JP.mathPlain rfl (by decide +kernel)) hisR ?_
  intro p e s m args below meth c s₁ Bd hml0 hP hK
  obtain ⟨rfl, hZ, hh⟩ := hP
  have hx := Bd.exec
  have hby := Bd.bytes
  have hml : c.maxLocals = 2 := hml0
  have hown : s.vm.findClass "java/lang/Math" = some m.cls := findClass_of_methodNamed Bd.named
  have hnm := (name_of_methodNamed Bd.named Bd.method).1
  have X0 : Stand p l e ({ frames := 0, cells := 0, slots := 0, locals := 0 } : Room) s m #[(.int p1), (.int p2)] below meth c s₁ [] 0 0 := Stand.of_body Bd
  have e0 : s₁.heap = h0 := by rw [← hh, Bd.state]; rfl
  have N0 := Fr.nil n0
  have pre0 : ∀ tg, Steps p.tables e below (s₁.setTop (mkF m 0 #[vI p1, vI p2] [])) tg → Steps p.tables e below (s₁.setTop (entryFrame m #[(.int p1), (.int p2)] 2)) tg := fun t k => castTop (ef_rm_max m p1 p2) k
  have pre00 : ∀ tg, Steps p.tables e below (s₁.setTop (mkF m 0 #[vI p1, vI p2] [])) tg → Steps p.tables e below (s₁.setTop (mkF m 0 #[vI p1, vI p2] [])) tg := fun _ k => k
  have R39 : ∀ tg, Steps p.tables e below (s₁.setTop (mkF m 2 #[vI p1, vI p2] [(.int p2), (.int p1)])) tg → Steps p.tables e below (s₁.setTop (mkF m 0 #[vI p1, vI p2] [])) tg := by
    intro tg kt
    refine pre00 _ ?_
    show Steps p.tables e below (s₁.setTop (mkF m 0 #[vI p1, vI p2] [])) _
    refine XS.iloadN X0.here hx rfl (hb hby d18_0) rfl ?_
    refine XS.iloadN X0.here hx rfl (hb hby d18_1) rfl ?_
    exact kt
  by_cases hc : p1 < p2
  · have R40 : ∀ tg, Steps p.tables e below (s₁.setTop (mkF m 10 #[vI p1, vI p2] [(.int p2)])) tg → Steps p.tables e below (s₁.setTop (mkF m 0 #[vI p1, vI p2] [])) tg := by
      intro tg kt
      refine R39 _ ?_
      show Steps p.tables e below (s₁.setTop (mkF m 2 #[vI p1, vI p2] [(.int p2), (.int p1)])) _
      refine XS.icmpYes X0.here hx rfl (pc0 := 2) (pc' := 9) rfl (hb hby d18_2) rfl (tlt (hc : p1 < p2)).1 (by decide) (by decide) ?_
      refine XS.iloadN X0.here hx rfl (hb hby d18_9) rfl ?_
      exact kt
    clear R39
    obtain ⟨fs, hr, hrun, hended, hW, hsame⟩ := X0.leave (v := some (.int p2)) (fun h => by rw [Bd.returns] at h; cases h)
    refine ⟨_, _, pre0 _ (R40 _ ?_), hrun, hended, _, _, rfl, ?_, ⟨_, rfl⟩, hW, hsame.mono (by decide) (by decide)⟩
    · exact retI X0 hx Bd.returns (hb hby d18_10) hr
    · show Q_rm_max Z p1 p2 h0 n0 _ s₁.heap _
      rw [e0]
      exact ⟨by simp [own_max, hc], N0, rfl⟩
  · have R41 : ∀ tg, Steps p.tables e below (s₁.setTop (mkF m 10 #[vI p1, vI p2] [(.int p1)])) tg → Steps p.tables e below (s₁.setTop (mkF m 0 #[vI p1, vI p2] [])) tg := by
      intro tg kt
      refine R39 _ ?_
      show Steps p.tables e below (s₁.setTop (mkF m 2 #[vI p1, vI p2] [(.int p2), (.int p1)])) _
      refine XS.icmpNo X0.here hx rfl (hb hby d18_2) rfl (flt (hc : ¬ (p1 < p2))).1 ?_
      refine XS.iloadN X0.here hx rfl (hb hby d18_5) rfl ?_
      show Steps p.tables e below (s₁.setTop (mkF m 6 #[vI p1, vI p2] [(.int p1)])) _
      refine XS.goto X0.here hx rfl (pc0 := 6) (pc' := 10) rfl (hb hby d18_6) (by decide) (by decide) ?_
      exact kt
    clear R39
    obtain ⟨fs, hr, hrun, hended, hW, hsame⟩ := X0.leave (v := some (.int p1)) (fun h => by rw [Bd.returns] at h; cases h)
    refine ⟨_, _, pre0 _ (R41 _ ?_), hrun, hended, _, _, rfl, ?_, ⟨_, rfl⟩, hW, hsame.mono (by decide) (by decide)⟩
    · exact retI X0 hx Bd.returns (hb hby d18_10) hr
    · show Q_rm_max Z p1 p2 h0 n0 _ s₁.heap _
      rw [e0]
      exact ⟨by simp [own_max, hc], N0, rfl⟩
theorem pn_4 : plainName "java/lang/StringUTF16" = true := by first | (simp [plainName, overriddenIn]; done) | decide +kernel
theorem d6_0 : decode jdk_52_method_21_code 0 = .ok (.iconst 0, 1) := by decide +kernel
theorem d6_1 : decode jdk_52_method_21_code 1 = .ok (.istore 5, 2) := by decide +kernel
theorem d6_3 : decode jdk_52_method_21_code 3 = .ok (.iload 5, 2) := by decide +kernel
theorem d6_5 : decode jdk_52_method_21_code 5 = .ok (.iload 4, 2) := by decide +kernel
theorem d6_7 : decode jdk_52_method_21_code 7 = .ok (.if_icmp .ge 37, 3) := by decide +kernel
theorem d6_10 : decode jdk_52_method_21_code 10 = .ok (.aload_n 0, 1) := by decide +kernel
theorem d6_11 : decode jdk_52_method_21_code 11 = .ok (.iload_n 1, 1) := by decide +kernel
theorem d6_12 : decode jdk_52_method_21_code 12 = .ok (.caload, 1) := by decide +kernel
theorem d6_13 : decode jdk_52_method_21_code 13 = .ok (.istore 6, 2) := by decide +kernel
theorem d6_15 : decode jdk_52_method_21_code 15 = .ok (.iload 6, 2) := by decide +kernel
theorem d6_17 : decode jdk_52_method_21_code 17 = .ok (.sipush 255, 3) := by decide +kernel
theorem d6_20 : decode jdk_52_method_21_code 20 = .ok (.if_icmp .le 6, 3) := by decide +kernel
theorem d6_26 : decode jdk_52_method_21_code 26 = .ok (.aload_n 2, 1) := by decide +kernel
theorem d6_27 : decode jdk_52_method_21_code 27 = .ok (.iload_n 3, 1) := by decide +kernel
theorem d6_28 : decode jdk_52_method_21_code 28 = .ok (.iload 6, 2) := by decide +kernel
theorem d6_30 : decode jdk_52_method_21_code 30 = .ok (.i2b, 1) := by decide +kernel
theorem d6_31 : decode jdk_52_method_21_code 31 = .ok (.bastore, 1) := by decide +kernel
theorem d6_32 : decode jdk_52_method_21_code 32 = .ok (.iinc 1 1, 3) := by decide +kernel
theorem d6_35 : decode jdk_52_method_21_code 35 = .ok (.iinc 3 1, 3) := by decide +kernel
theorem d6_38 : decode jdk_52_method_21_code 38 = .ok (.iinc 5 1, 3) := by decide +kernel
theorem d6_41 : decode jdk_52_method_21_code 41 = .ok (.goto (-38), 3) := by decide +kernel
theorem d6_44 : decode jdk_52_method_21_code 44 = .ok (.iload 4, 2) := by decide +kernel
theorem d6_46 : decode jdk_52_method_21_code 46 = .ok (.ireturn, 1) := by decide +kernel
theorem ef_rm_cm5 (m : MethodId) (a1 : Addr) (p2 : Int32) (a3 : Addr) (p4 : Int32) (p5 : Int32) : entryFrame m #[(.ref a1), (.int p2), (.ref a3), (.int p4), (.int p5)] 7 = mkF m 0 #[vR a1, vI p2, vR a3, vI p4, vI p5, .unset, .unset] [] := by first | (simp [entryFrame, mkF, argsToLocals, Value.category]; done) | rfl
def Q_rm_cm5 (Z : State) (a1 : Addr) (p2 : Int32) (a3 : Addr) (p4 : Int32) (p5 : Int32) (n : Nat) (g : Nat → Int32) (h0 : Heap) (n0 : Nat) (v : Option Value) (h : Heap) (L : List Loc) : Prop := v = some (.int p5) ∧ Fr n0 L ∧ Keep h0 h [a3] ∧ AV Z h a3 .byte n (fun j => .int ((fun j => own_bv (g j)) j))
set_option maxRecDepth 65536 in
set_option maxHeartbeats 40000000 in
theorem rm_cm5 (l : Launch) (Z : State) (a0 : Array Value) (hw : ∀ d ∈ tables_1, d.before a0 Z = true) (ws : List Jvm.Cond) (a1 : Addr) (p2 : Int32) (a3 : Addr) (p4 : Int32) (p5 : Int32) (n : Nat) (g : Nat → Int32) (h0 : Heap) (n0 : Nat) (Z0 : n0 ≤ h0.size) (hn : n = 1 ∨ n = 2 ∨ n = 3 ∨ n = 4) (VC : AV Z h0 a1 .char n (fun j => .int (g j))) (VB : AV Z h0 a3 .byte n (fun _ => defaultValue .byte)) (hp2 : p2 = (0 : Int32)) (hp4 : p4 = (0 : Int32)) (hp5 : p5 = (n : Nat).toInt32) (hle : ∀ j, ¬ (255 : Int32) < g j) (gb : n0 ≤ a3) (ne13 : a1 ≠ a3) :
    MetFree l (⟨"java/lang/StringUTF16", "compress", "([CI[BII)I"⟩ : MethodName) (head1 (Jvm.Cond.code (⟨"java/lang/StringUTF16", "compress", "([CI[BII)I"⟩ : MethodName) jdk_52_method_21_code 7 (some .int) :: ws) ({ frames := 0, cells := 0, slots := 0, locals := 0 } : Room)) (fun a U => a = #[(.ref a1), (.int p2), (.ref a3), (.int p4), (.int p5)] ∧ Z.Warmed39 U.vm ∧ U.heap = h0) (fun _ _ _ _ _ => True) (fun _ U oC U' => ∃ v L, oC = .returned v ∧ Q_rm_cm5 Z a1 p2 a3 p4 p5 n g h0 n0 v U'.heap L ∧ FrameEnd U oC U' L ({ frames := 0, cells := 0, slots := 0, locals := 0 } : Room).cells ({ frames := 0, cells := 0, slots := 0, locals := 0 } : Room).slots) := by
  refine MetFree.of_bodySF (plainFor_of_name pn_4) hisR ?_
  intro p e s m args below meth c s₁ Bd hml0 hP hK
  obtain ⟨rfl, hZ, hh⟩ := hP
  have hx := Bd.exec
  have hby := Bd.bytes
  have hml : c.maxLocals = 7 := hml0
  have hown : s.vm.findClass "java/lang/StringUTF16" = some m.cls := findClass_of_methodNamed Bd.named
  have hnm := (name_of_methodNamed Bd.named Bd.method).1
  have X0 : Stand p l e ({ frames := 0, cells := 0, slots := 0, locals := 0 } : Room) s m #[(.ref a1), (.int p2), (.ref a3), (.int p4), (.int p5)] below meth c s₁ [] 0 0 := Stand.of_body Bd
  have e0 : s₁.heap = h0 := by rw [← hh, Bd.state]; rfl
  have N0 := Fr.nil n0
  have pre0 : ∀ tg, Steps p.tables e below (s₁.setTop (mkF m 0 #[vR a1, vI p2, vR a3, vI p4, vI p5, .unset, .unset] [])) tg → Steps p.tables e below (s₁.setTop (entryFrame m #[(.ref a1), (.int p2), (.ref a3), (.int p4), (.int p5)] 7)) tg := fun t k => castTop (ef_rm_cm5 m a1 p2 a3 p4 p5) k
  have pre00 : ∀ tg, Steps p.tables e below (s₁.setTop (mkF m 0 #[vR a1, vI p2, vR a3, vI p4, vI p5, .unset, .unset] [])) tg → Steps p.tables e below (s₁.setTop (mkF m 0 #[vR a1, vI p2, vR a3, vI p4, vI p5, .unset, .unset] [])) tg := fun _ k => k
  rcases hn with hn | hn | hn | hn
  · rw [hn] at VC VB hp5
    have hp5 : p5 = (1 : Int32) := hp5
    have R42 : ∀ tg, Steps p.tables e below (s₁.setTop (mkF m 0 #[vR a1, vI (0 : Int32), vR a3, vI (0 : Int32), vI (1 : Int32), .unset, .unset] [])) tg → Steps p.tables e below (s₁.setTop (mkF m 0 #[vR a1, vI p2, vR a3, vI p4, vI p5, .unset, .unset] [])) tg := by intro tg kt; refine pre00 tg ?_; rw [hp2, hp4, hp5]; exact kt
    have R43 : ∀ tg, Steps p.tables e below (s₁.setTop (mkF m 12 #[vR a1, vI (0 : Int32), vR a3, vI (0 : Int32), vI (1 : Int32), vI (0 : Int32), .unset] [(.int (0 : Int32)), (.ref a1)])) tg → Steps p.tables e below (s₁.setTop (mkF m 0 #[vR a1, vI p2, vR a3, vI p4, vI p5, .unset, .unset] [])) tg := by
      intro tg kt
      refine R42 _ ?_
      show Steps p.tables e below (s₁.setTop (mkF m 0 #[vR a1, vI (0 : Int32), vR a3, vI (0 : Int32), vI (1 : Int32), .unset, .unset] [])) _
      refine XS.iconst X0.here hx rfl (hb hby d6_0) ?_
      show Steps p.tables e below (s₁.setTop (mkF m 1 #[vR a1, vI (0 : Int32), vR a3, vI (0 : Int32), vI (1 : Int32), .unset, .unset] [(.int (0 : Int32))])) _
      refine XS.istore X0.here hx rfl (hb hby d6_1) rfl (l' := #[vR a1, vI (0 : Int32), vR a3, vI (0 : Int32), vI (1 : Int32), vI (0 : Int32), .unset]) rfl ?_
      refine XS.iload X0.here hx rfl (hb hby d6_3) rfl ?_
      refine XS.iload X0.here hx rfl (hb hby d6_5) rfl ?_
      show Steps p.tables e below (s₁.setTop (mkF m 7 #[vR a1, vI (0 : Int32), vR a3, vI (0 : Int32), vI (1 : Int32), vI (0 : Int32), .unset] [(.int (1 : Int32)), (.int (0 : Int32))])) _
      refine XS.icmpNo X0.here hx rfl (hb hby d6_7) rfl (tlt (by decide : (0 : Int32) < (1 : Int32))).2.1 ?_
      refine XS.aloadN X0.here hx rfl (hb hby d6_10) rfl rfl ?_
      refine XS.iloadN X0.here hx rfl (hb hby d6_11) rfl ?_
      exact kt
    clear R42
    obtain ⟨cl44, Ar44, hin44, hat44⟩ := VC.at (j := (0 : Int32)) (k := 0) (by decide) rfl (by decide)
    have R45 : ∀ tg, Steps p.tables e below (s₁.setTop (mkF m 31 #[vR a1, vI (0 : Int32), vR a3, vI (0 : Int32), vI (1 : Int32), vI (0 : Int32), vI (g 0)] [(.int ((g 0).toInt8.toInt32)), (.int (0 : Int32)), (.ref a3)])) tg → Steps p.tables e below (s₁.setTop (mkF m 0 #[vR a1, vI p2, vR a3, vI p4, vI p5, .unset, .unset] [])) tg := by
      intro tg kt
      refine R43 _ ?_
      show Steps p.tables e below (s₁.setTop (mkF m 12 #[vR a1, vI (0 : Int32), vR a3, vI (0 : Int32), vI (1 : Int32), vI (0 : Int32), .unset] [(.int (0 : Int32)), (.ref a1)])) _
      refine X0.caload hx (j := (0 : Int32)) (v := (.int (g 0))) (by rw [e0]; exact Ar44.1) (State.isArrayOf_alike hZ.alike Ar44.2.1) Ar44.2.2 hin44 hat44 (g := (mkF m 12 #[vR a1, vI (0 : Int32), vR a3, vI (0 : Int32), vI (1 : Int32), vI (0 : Int32), .unset] [(.int (0 : Int32)), (.ref a1)])) rfl rfl (hb hby d6_12) _ ?_
      show Steps p.tables e below (s₁.setTop (mkF m 13 #[vR a1, vI (0 : Int32), vR a3, vI (0 : Int32), vI (1 : Int32), vI (0 : Int32), .unset] [(.int (g 0))])) _
      refine XS.istore X0.here hx rfl (hb hby d6_13) rfl (l' := #[vR a1, vI (0 : Int32), vR a3, vI (0 : Int32), vI (1 : Int32), vI (0 : Int32), vI (g 0)]) rfl ?_
      refine XS.iload X0.here hx rfl (hb hby d6_15) rfl ?_
      refine XS.sipush X0.here hx rfl (hb hby d6_17) ?_
      show Steps p.tables e below (s₁.setTop (mkF m 20 #[vR a1, vI (0 : Int32), vR a3, vI (0 : Int32), vI (1 : Int32), vI (0 : Int32), vI (g 0)] [(.int (255 : Int32)), (.int (g 0))])) _
      refine XS.icmpYes X0.here hx rfl (pc0 := 20) (pc' := 26) rfl (hb hby d6_20) rfl (flt (hle 0 : ¬ ((255 : Int32) < (g 0)))).2.2.2 (by decide) (by decide) ?_
      refine XS.aloadN X0.here hx rfl (hb hby d6_26) rfl rfl ?_
      refine XS.iloadN X0.here hx rfl (hb hby d6_27) rfl ?_
      show Steps p.tables e below (s₁.setTop (mkF m 28 #[vR a1, vI (0 : Int32), vR a3, vI (0 : Int32), vI (1 : Int32), vI (0 : Int32), vI (g 0)] [(.int (0 : Int32)), (.ref a3)])) _
      refine XS.iload X0.here hx rfl (hb hby d6_28) rfl ?_
      show Steps p.tables e below (s₁.setTop (mkF m 30 #[vR a1, vI (0 : Int32), vR a3, vI (0 : Int32), vI (1 : Int32), vI (0 : Int32), vI (g 0)] [(.int (g 0)), (.int (0 : Int32)), (.ref a3)])) _
      refine XS.i2b X0.here hx rfl (hb hby d6_30) rfl ?_
      exact kt
    clear R43
    obtain ⟨cl46, Ar46, hin46, -⟩ := VB.at (j := (0 : Int32)) (k := 0) (by decide) rfl (by decide)
    obtain ⟨T47, h47, X47, e47, W47, st47⟩ := stB X0 hx hZ e0 Ar46 (j := (0 : Int32)) hin46 (g := (mkF m 31 #[vR a1, vI (0 : Int32), vR a3, vI (0 : Int32), vI (1 : Int32), vI (0 : Int32), vI (g 0)] [(.int ((g 0).toInt8.toInt32)), (.int (0 : Int32)), (.ref a3)])) rfl rfl (hb hby d6_31)
    have N47 := Fr.snoc X47 N0 gb
    rw [show ((0 : Int32) : Int32).toNatClampNeg = 0 from rfl] at W47
    have VB_47 := VB.set W47 (fits_nar_byte _)
    have VC_47 := VC.other W47 ne13
    have Zs47 : n0 ≤ h47.size := Nat.le_trans Z0 (Keep.of_wr W47).1
    have Kw47 : Keep h0 h47 [a3] := Keep.wr (Keep.refl h0 [a3]) W47 (Or.inl (List.mem_of_getElem? (i := 0) rfl))
    have R48 : ∀ tg, Steps p.tables e below (T47.setTop (mkF m 3 #[vR a1, vI ((0 : Int32) + (1 : Int32)), vR a3, vI ((0 : Int32) + (1 : Int32)), vI (1 : Int32), vI ((0 : Int32) + (1 : Int32)), vI (g 0)] [])) tg → Steps p.tables e below (s₁.setTop (mkF m 0 #[vR a1, vI p2, vR a3, vI p4, vI p5, .unset, .unset] [])) tg := by
      intro tg kt
      refine R45 _ ?_
      refine st47 _ ?_
      show Steps p.tables e below (T47.setTop (mkF m 32 #[vR a1, vI (0 : Int32), vR a3, vI (0 : Int32), vI (1 : Int32), vI (0 : Int32), vI (g 0)] [])) _
      refine XS.iinc X47.here hx rfl (hb hby d6_32) rfl (l' := #[vR a1, vI ((0 : Int32) + (1 : Int32)), vR a3, vI (0 : Int32), vI (1 : Int32), vI (0 : Int32), vI (g 0)]) rfl ?_
      show Steps p.tables e below (T47.setTop (mkF m 35 #[vR a1, vI ((0 : Int32) + (1 : Int32)), vR a3, vI (0 : Int32), vI (1 : Int32), vI (0 : Int32), vI (g 0)] [])) _
      refine XS.iinc X47.here hx rfl (hb hby d6_35) rfl (l' := #[vR a1, vI ((0 : Int32) + (1 : Int32)), vR a3, vI ((0 : Int32) + (1 : Int32)), vI (1 : Int32), vI (0 : Int32), vI (g 0)]) rfl ?_
      show Steps p.tables e below (T47.setTop (mkF m 38 #[vR a1, vI ((0 : Int32) + (1 : Int32)), vR a3, vI ((0 : Int32) + (1 : Int32)), vI (1 : Int32), vI (0 : Int32), vI (g 0)] [])) _
      refine XS.iinc X47.here hx rfl (hb hby d6_38) rfl (l' := #[vR a1, vI ((0 : Int32) + (1 : Int32)), vR a3, vI ((0 : Int32) + (1 : Int32)), vI (1 : Int32), vI ((0 : Int32) + (1 : Int32)), vI (g 0)]) rfl ?_
      show Steps p.tables e below (T47.setTop (mkF m 41 #[vR a1, vI ((0 : Int32) + (1 : Int32)), vR a3, vI ((0 : Int32) + (1 : Int32)), vI (1 : Int32), vI ((0 : Int32) + (1 : Int32)), vI (g 0)] [])) _
      refine XS.goto X47.here hx rfl (pc0 := 41) (pc' := 3) rfl (hb hby d6_41) (by decide) (by decide) ?_
      exact kt
    clear R45 st47
    have R49 : ∀ tg, Steps p.tables e below (T47.setTop (mkF m 3 #[vR a1, vI (1 : Int32), vR a3, vI (1 : Int32), vI (1 : Int32), vI (1 : Int32), vI (g 0)] [])) tg → Steps p.tables e below (s₁.setTop (mkF m 0 #[vR a1, vI p2, vR a3, vI p4, vI p5, .unset, .unset] [])) tg := R48
    have R50 : ∀ tg, Steps p.tables e below (T47.setTop (mkF m 46 #[vR a1, vI (1 : Int32), vR a3, vI (1 : Int32), vI (1 : Int32), vI (1 : Int32), vI (g 0)] [(.int (1 : Int32))])) tg → Steps p.tables e below (s₁.setTop (mkF m 0 #[vR a1, vI p2, vR a3, vI p4, vI p5, .unset, .unset] [])) tg := by
      intro tg kt
      refine R49 _ ?_
      show Steps p.tables e below (T47.setTop (mkF m 3 #[vR a1, vI (1 : Int32), vR a3, vI (1 : Int32), vI (1 : Int32), vI (1 : Int32), vI (g 0)] [])) _
      refine XS.iload X47.here hx rfl (hb hby d6_3) rfl ?_
      refine XS.iload X47.here hx rfl (hb hby d6_5) rfl ?_
      show Steps p.tables e below (T47.setTop (mkF m 7 #[vR a1, vI (1 : Int32), vR a3, vI (1 : Int32), vI (1 : Int32), vI (1 : Int32), vI (g 0)] [(.int (1 : Int32)), (.int (1 : Int32))])) _
      refine XS.icmpYes X47.here hx rfl (pc0 := 7) (pc' := 44) rfl (hb hby d6_7) rfl (flt (by decide : ¬ ((1 : Int32) < (1 : Int32)))).2.1 (by decide) (by decide) ?_
      refine XS.iload X47.here hx rfl (hb hby d6_44) rfl ?_
      exact kt
    clear R49
    have VBz : AV Z h47 a3 .byte 1 (fun j => .int ((fun j => own_bv (g j)) j)) := AV.congr VB_47 (own_st1 g _)
    obtain ⟨fs, hr, hrun, hended, hW, hsame⟩ := X47.leave (v := some (.int (1 : Int32))) (fun h => by rw [Bd.returns] at h; cases h)
    refine ⟨_, _, pre0 _ (R50 _ ?_), hrun, hended, _, _, rfl, ?_, ⟨_, rfl⟩, hW, hsame.mono (by decide) (by decide)⟩
    · exact retI X47 hx Bd.returns (hb hby d6_46) hr
    · show Q_rm_cm5 Z a1 p2 a3 p4 p5 n g h0 n0 _ T47.heap _
      rw [e47]
      exact ⟨by rw [hp5], N47, Kw47, by rw [hn]; exact VBz⟩
  · rw [hn] at VC VB hp5
    have hp5 : p5 = (2 : Int32) := hp5
    have R51 : ∀ tg, Steps p.tables e below (s₁.setTop (mkF m 0 #[vR a1, vI (0 : Int32), vR a3, vI (0 : Int32), vI (2 : Int32), .unset, .unset] [])) tg → Steps p.tables e below (s₁.setTop (mkF m 0 #[vR a1, vI p2, vR a3, vI p4, vI p5, .unset, .unset] [])) tg := by intro tg kt; refine pre00 tg ?_; rw [hp2, hp4, hp5]; exact kt
    have R52 : ∀ tg, Steps p.tables e below (s₁.setTop (mkF m 12 #[vR a1, vI (0 : Int32), vR a3, vI (0 : Int32), vI (2 : Int32), vI (0 : Int32), .unset] [(.int (0 : Int32)), (.ref a1)])) tg → Steps p.tables e below (s₁.setTop (mkF m 0 #[vR a1, vI p2, vR a3, vI p4, vI p5, .unset, .unset] [])) tg := by
      intro tg kt
      refine R51 _ ?_
      show Steps p.tables e below (s₁.setTop (mkF m 0 #[vR a1, vI (0 : Int32), vR a3, vI (0 : Int32), vI (2 : Int32), .unset, .unset] [])) _
      refine XS.iconst X0.here hx rfl (hb hby d6_0) ?_
      show Steps p.tables e below (s₁.setTop (mkF m 1 #[vR a1, vI (0 : Int32), vR a3, vI (0 : Int32), vI (2 : Int32), .unset, .unset] [(.int (0 : Int32))])) _
      refine XS.istore X0.here hx rfl (hb hby d6_1) rfl (l' := #[vR a1, vI (0 : Int32), vR a3, vI (0 : Int32), vI (2 : Int32), vI (0 : Int32), .unset]) rfl ?_
      refine XS.iload X0.here hx rfl (hb hby d6_3) rfl ?_
      refine XS.iload X0.here hx rfl (hb hby d6_5) rfl ?_
      show Steps p.tables e below (s₁.setTop (mkF m 7 #[vR a1, vI (0 : Int32), vR a3, vI (0 : Int32), vI (2 : Int32), vI (0 : Int32), .unset] [(.int (2 : Int32)), (.int (0 : Int32))])) _
      refine XS.icmpNo X0.here hx rfl (hb hby d6_7) rfl (tlt (by decide : (0 : Int32) < (2 : Int32))).2.1 ?_
      refine XS.aloadN X0.here hx rfl (hb hby d6_10) rfl rfl ?_
      refine XS.iloadN X0.here hx rfl (hb hby d6_11) rfl ?_
      exact kt
    clear R51
    obtain ⟨cl53, Ar53, hin53, hat53⟩ := VC.at (j := (0 : Int32)) (k := 0) (by decide) rfl (by decide)
    have R54 : ∀ tg, Steps p.tables e below (s₁.setTop (mkF m 31 #[vR a1, vI (0 : Int32), vR a3, vI (0 : Int32), vI (2 : Int32), vI (0 : Int32), vI (g 0)] [(.int ((g 0).toInt8.toInt32)), (.int (0 : Int32)), (.ref a3)])) tg → Steps p.tables e below (s₁.setTop (mkF m 0 #[vR a1, vI p2, vR a3, vI p4, vI p5, .unset, .unset] [])) tg := by
      intro tg kt
      refine R52 _ ?_
      show Steps p.tables e below (s₁.setTop (mkF m 12 #[vR a1, vI (0 : Int32), vR a3, vI (0 : Int32), vI (2 : Int32), vI (0 : Int32), .unset] [(.int (0 : Int32)), (.ref a1)])) _
      refine X0.caload hx (j := (0 : Int32)) (v := (.int (g 0))) (by rw [e0]; exact Ar53.1) (State.isArrayOf_alike hZ.alike Ar53.2.1) Ar53.2.2 hin53 hat53 (g := (mkF m 12 #[vR a1, vI (0 : Int32), vR a3, vI (0 : Int32), vI (2 : Int32), vI (0 : Int32), .unset] [(.int (0 : Int32)), (.ref a1)])) rfl rfl (hb hby d6_12) _ ?_
      show Steps p.tables e below (s₁.setTop (mkF m 13 #[vR a1, vI (0 : Int32), vR a3, vI (0 : Int32), vI (2 : Int32), vI (0 : Int32), .unset] [(.int (g 0))])) _
      refine XS.istore X0.here hx rfl (hb hby d6_13) rfl (l' := #[vR a1, vI (0 : Int32), vR a3, vI (0 : Int32), vI (2 : Int32), vI (0 : Int32), vI (g 0)]) rfl ?_
      refine XS.iload X0.here hx rfl (hb hby d6_15) rfl ?_
      refine XS.sipush X0.here hx rfl (hb hby d6_17) ?_
      show Steps p.tables e below (s₁.setTop (mkF m 20 #[vR a1, vI (0 : Int32), vR a3, vI (0 : Int32), vI (2 : Int32), vI (0 : Int32), vI (g 0)] [(.int (255 : Int32)), (.int (g 0))])) _
      refine XS.icmpYes X0.here hx rfl (pc0 := 20) (pc' := 26) rfl (hb hby d6_20) rfl (flt (hle 0 : ¬ ((255 : Int32) < (g 0)))).2.2.2 (by decide) (by decide) ?_
      refine XS.aloadN X0.here hx rfl (hb hby d6_26) rfl rfl ?_
      refine XS.iloadN X0.here hx rfl (hb hby d6_27) rfl ?_
      show Steps p.tables e below (s₁.setTop (mkF m 28 #[vR a1, vI (0 : Int32), vR a3, vI (0 : Int32), vI (2 : Int32), vI (0 : Int32), vI (g 0)] [(.int (0 : Int32)), (.ref a3)])) _
      refine XS.iload X0.here hx rfl (hb hby d6_28) rfl ?_
      show Steps p.tables e below (s₁.setTop (mkF m 30 #[vR a1, vI (0 : Int32), vR a3, vI (0 : Int32), vI (2 : Int32), vI (0 : Int32), vI (g 0)] [(.int (g 0)), (.int (0 : Int32)), (.ref a3)])) _
      refine XS.i2b X0.here hx rfl (hb hby d6_30) rfl ?_
      exact kt
    clear R52
    obtain ⟨cl55, Ar55, hin55, -⟩ := VB.at (j := (0 : Int32)) (k := 0) (by decide) rfl (by decide)
    obtain ⟨T56, h56, X56, e56, W56, st56⟩ := stB X0 hx hZ e0 Ar55 (j := (0 : Int32)) hin55 (g := (mkF m 31 #[vR a1, vI (0 : Int32), vR a3, vI (0 : Int32), vI (2 : Int32), vI (0 : Int32), vI (g 0)] [(.int ((g 0).toInt8.toInt32)), (.int (0 : Int32)), (.ref a3)])) rfl rfl (hb hby d6_31)
    have N56 := Fr.snoc X56 N0 gb
    rw [show ((0 : Int32) : Int32).toNatClampNeg = 0 from rfl] at W56
    have VB_56 := VB.set W56 (fits_nar_byte _)
    have VC_56 := VC.other W56 ne13
    have Zs56 : n0 ≤ h56.size := Nat.le_trans Z0 (Keep.of_wr W56).1
    have Kw56 : Keep h0 h56 [a3] := Keep.wr (Keep.refl h0 [a3]) W56 (Or.inl (List.mem_of_getElem? (i := 0) rfl))
    have R57 : ∀ tg, Steps p.tables e below (T56.setTop (mkF m 3 #[vR a1, vI ((0 : Int32) + (1 : Int32)), vR a3, vI ((0 : Int32) + (1 : Int32)), vI (2 : Int32), vI ((0 : Int32) + (1 : Int32)), vI (g 0)] [])) tg → Steps p.tables e below (s₁.setTop (mkF m 0 #[vR a1, vI p2, vR a3, vI p4, vI p5, .unset, .unset] [])) tg := by
      intro tg kt
      refine R54 _ ?_
      refine st56 _ ?_
      show Steps p.tables e below (T56.setTop (mkF m 32 #[vR a1, vI (0 : Int32), vR a3, vI (0 : Int32), vI (2 : Int32), vI (0 : Int32), vI (g 0)] [])) _
      refine XS.iinc X56.here hx rfl (hb hby d6_32) rfl (l' := #[vR a1, vI ((0 : Int32) + (1 : Int32)), vR a3, vI (0 : Int32), vI (2 : Int32), vI (0 : Int32), vI (g 0)]) rfl ?_
      show Steps p.tables e below (T56.setTop (mkF m 35 #[vR a1, vI ((0 : Int32) + (1 : Int32)), vR a3, vI (0 : Int32), vI (2 : Int32), vI (0 : Int32), vI (g 0)] [])) _
      refine XS.iinc X56.here hx rfl (hb hby d6_35) rfl (l' := #[vR a1, vI ((0 : Int32) + (1 : Int32)), vR a3, vI ((0 : Int32) + (1 : Int32)), vI (2 : Int32), vI (0 : Int32), vI (g 0)]) rfl ?_
      show Steps p.tables e below (T56.setTop (mkF m 38 #[vR a1, vI ((0 : Int32) + (1 : Int32)), vR a3, vI ((0 : Int32) + (1 : Int32)), vI (2 : Int32), vI (0 : Int32), vI (g 0)] [])) _
      refine XS.iinc X56.here hx rfl (hb hby d6_38) rfl (l' := #[vR a1, vI ((0 : Int32) + (1 : Int32)), vR a3, vI ((0 : Int32) + (1 : Int32)), vI (2 : Int32), vI ((0 : Int32) + (1 : Int32)), vI (g 0)]) rfl ?_
      show Steps p.tables e below (T56.setTop (mkF m 41 #[vR a1, vI ((0 : Int32) + (1 : Int32)), vR a3, vI ((0 : Int32) + (1 : Int32)), vI (2 : Int32), vI ((0 : Int32) + (1 : Int32)), vI (g 0)] [])) _
      refine XS.goto X56.here hx rfl (pc0 := 41) (pc' := 3) rfl (hb hby d6_41) (by decide) (by decide) ?_
      exact kt
    clear R54 st56
    have R58 : ∀ tg, Steps p.tables e below (T56.setTop (mkF m 3 #[vR a1, vI (1 : Int32), vR a3, vI (1 : Int32), vI (2 : Int32), vI (1 : Int32), vI (g 0)] [])) tg → Steps p.tables e below (s₁.setTop (mkF m 0 #[vR a1, vI p2, vR a3, vI p4, vI p5, .unset, .unset] [])) tg := R57
    have R59 : ∀ tg, Steps p.tables e below (T56.setTop (mkF m 12 #[vR a1, vI (1 : Int32), vR a3, vI (1 : Int32), vI (2 : Int32), vI (1 : Int32), vI (g 0)] [(.int (1 : Int32)), (.ref a1)])) tg → Steps p.tables e below (s₁.setTop (mkF m 0 #[vR a1, vI p2, vR a3, vI p4, vI p5, .unset, .unset] [])) tg := by
      intro tg kt
      refine R58 _ ?_
      show Steps p.tables e below (T56.setTop (mkF m 3 #[vR a1, vI (1 : Int32), vR a3, vI (1 : Int32), vI (2 : Int32), vI (1 : Int32), vI (g 0)] [])) _
      refine XS.iload X56.here hx rfl (hb hby d6_3) rfl ?_
      refine XS.iload X56.here hx rfl (hb hby d6_5) rfl ?_
      show Steps p.tables e below (T56.setTop (mkF m 7 #[vR a1, vI (1 : Int32), vR a3, vI (1 : Int32), vI (2 : Int32), vI (1 : Int32), vI (g 0)] [(.int (2 : Int32)), (.int (1 : Int32))])) _
      refine XS.icmpNo X56.here hx rfl (hb hby d6_7) rfl (tlt (by decide : (1 : Int32) < (2 : Int32))).2.1 ?_
      refine XS.aloadN X56.here hx rfl (hb hby d6_10) rfl rfl ?_
      refine XS.iloadN X56.here hx rfl (hb hby d6_11) rfl ?_
      exact kt
    clear R58
    obtain ⟨cl60, Ar60, hin60, hat60⟩ := VC_56.at (j := (1 : Int32)) (k := 1) (by decide) rfl (by decide)
    have R61 : ∀ tg, Steps p.tables e below (T56.setTop (mkF m 31 #[vR a1, vI (1 : Int32), vR a3, vI (1 : Int32), vI (2 : Int32), vI (1 : Int32), vI (g 1)] [(.int ((g 1).toInt8.toInt32)), (.int (1 : Int32)), (.ref a3)])) tg → Steps p.tables e below (s₁.setTop (mkF m 0 #[vR a1, vI p2, vR a3, vI p4, vI p5, .unset, .unset] [])) tg := by
      intro tg kt
      refine R59 _ ?_
      show Steps p.tables e below (T56.setTop (mkF m 12 #[vR a1, vI (1 : Int32), vR a3, vI (1 : Int32), vI (2 : Int32), vI (1 : Int32), vI (g 0)] [(.int (1 : Int32)), (.ref a1)])) _
      refine X56.caload hx (j := (1 : Int32)) (v := (.int (g 1))) (by rw [e56]; exact Ar60.1) (State.isArrayOf_alike hZ.alike Ar60.2.1) Ar60.2.2 hin60 hat60 (g := (mkF m 12 #[vR a1, vI (1 : Int32), vR a3, vI (1 : Int32), vI (2 : Int32), vI (1 : Int32), vI (g 0)] [(.int (1 : Int32)), (.ref a1)])) rfl rfl (hb hby d6_12) _ ?_
      show Steps p.tables e below (T56.setTop (mkF m 13 #[vR a1, vI (1 : Int32), vR a3, vI (1 : Int32), vI (2 : Int32), vI (1 : Int32), vI (g 0)] [(.int (g 1))])) _
      refine XS.istore X56.here hx rfl (hb hby d6_13) rfl (l' := #[vR a1, vI (1 : Int32), vR a3, vI (1 : Int32), vI (2 : Int32), vI (1 : Int32), vI (g 1)]) rfl ?_
      refine XS.iload X56.here hx rfl (hb hby d6_15) rfl ?_
      refine XS.sipush X56.here hx rfl (hb hby d6_17) ?_
      show Steps p.tables e below (T56.setTop (mkF m 20 #[vR a1, vI (1 : Int32), vR a3, vI (1 : Int32), vI (2 : Int32), vI (1 : Int32), vI (g 1)] [(.int (255 : Int32)), (.int (g 1))])) _
      refine XS.icmpYes X56.here hx rfl (pc0 := 20) (pc' := 26) rfl (hb hby d6_20) rfl (flt (hle 1 : ¬ ((255 : Int32) < (g 1)))).2.2.2 (by decide) (by decide) ?_
      refine XS.aloadN X56.here hx rfl (hb hby d6_26) rfl rfl ?_
      refine XS.iloadN X56.here hx rfl (hb hby d6_27) rfl ?_
      show Steps p.tables e below (T56.setTop (mkF m 28 #[vR a1, vI (1 : Int32), vR a3, vI (1 : Int32), vI (2 : Int32), vI (1 : Int32), vI (g 1)] [(.int (1 : Int32)), (.ref a3)])) _
      refine XS.iload X56.here hx rfl (hb hby d6_28) rfl ?_
      show Steps p.tables e below (T56.setTop (mkF m 30 #[vR a1, vI (1 : Int32), vR a3, vI (1 : Int32), vI (2 : Int32), vI (1 : Int32), vI (g 1)] [(.int (g 1)), (.int (1 : Int32)), (.ref a3)])) _
      refine XS.i2b X56.here hx rfl (hb hby d6_30) rfl ?_
      exact kt
    clear R59
    obtain ⟨cl62, Ar62, hin62, -⟩ := VB_56.at (j := (1 : Int32)) (k := 1) (by decide) rfl (by decide)
    obtain ⟨T63, h63, X63, e63, W63, st63⟩ := stB X56 hx hZ e56 Ar62 (j := (1 : Int32)) hin62 (g := (mkF m 31 #[vR a1, vI (1 : Int32), vR a3, vI (1 : Int32), vI (2 : Int32), vI (1 : Int32), vI (g 1)] [(.int ((g 1).toInt8.toInt32)), (.int (1 : Int32)), (.ref a3)])) rfl rfl (hb hby d6_31)
    have N63 := Fr.snoc X63 N56 gb
    rw [show ((1 : Int32) : Int32).toNatClampNeg = 1 from rfl] at W63
    have VB_63 := VB_56.set W63 (fits_nar_byte _)
    have VC_63 := VC_56.other W63 ne13
    clear VC_56
    have Zs63 : n0 ≤ h63.size := Nat.le_trans Zs56 (Keep.of_wr W63).1
    have Kw63 : Keep h0 h63 [a3] := Keep.wr Kw56 W63 (Or.inl (List.mem_of_getElem? (i := 0) rfl))
    have R64 : ∀ tg, Steps p.tables e below (T63.setTop (mkF m 3 #[vR a1, vI ((1 : Int32) + (1 : Int32)), vR a3, vI ((1 : Int32) + (1 : Int32)), vI (2 : Int32), vI ((1 : Int32) + (1 : Int32)), vI (g 1)] [])) tg → Steps p.tables e below (s₁.setTop (mkF m 0 #[vR a1, vI p2, vR a3, vI p4, vI p5, .unset, .unset] [])) tg := by
      intro tg kt
      refine R61 _ ?_
      refine st63 _ ?_
      show Steps p.tables e below (T63.setTop (mkF m 32 #[vR a1, vI (1 : Int32), vR a3, vI (1 : Int32), vI (2 : Int32), vI (1 : Int32), vI (g 1)] [])) _
      refine XS.iinc X63.here hx rfl (hb hby d6_32) rfl (l' := #[vR a1, vI ((1 : Int32) + (1 : Int32)), vR a3, vI (1 : Int32), vI (2 : Int32), vI (1 : Int32), vI (g 1)]) rfl ?_
      show Steps p.tables e below (T63.setTop (mkF m 35 #[vR a1, vI ((1 : Int32) + (1 : Int32)), vR a3, vI (1 : Int32), vI (2 : Int32), vI (1 : Int32), vI (g 1)] [])) _
      refine XS.iinc X63.here hx rfl (hb hby d6_35) rfl (l' := #[vR a1, vI ((1 : Int32) + (1 : Int32)), vR a3, vI ((1 : Int32) + (1 : Int32)), vI (2 : Int32), vI (1 : Int32), vI (g 1)]) rfl ?_
      show Steps p.tables e below (T63.setTop (mkF m 38 #[vR a1, vI ((1 : Int32) + (1 : Int32)), vR a3, vI ((1 : Int32) + (1 : Int32)), vI (2 : Int32), vI (1 : Int32), vI (g 1)] [])) _
      refine XS.iinc X63.here hx rfl (hb hby d6_38) rfl (l' := #[vR a1, vI ((1 : Int32) + (1 : Int32)), vR a3, vI ((1 : Int32) + (1 : Int32)), vI (2 : Int32), vI ((1 : Int32) + (1 : Int32)), vI (g 1)]) rfl ?_
      show Steps p.tables e below (T63.setTop (mkF m 41 #[vR a1, vI ((1 : Int32) + (1 : Int32)), vR a3, vI ((1 : Int32) + (1 : Int32)), vI (2 : Int32), vI ((1 : Int32) + (1 : Int32)), vI (g 1)] [])) _
      refine XS.goto X63.here hx rfl (pc0 := 41) (pc' := 3) rfl (hb hby d6_41) (by decide) (by decide) ?_
      exact kt
    clear R61 st63
    have R65 : ∀ tg, Steps p.tables e below (T63.setTop (mkF m 3 #[vR a1, vI (2 : Int32), vR a3, vI (2 : Int32), vI (2 : Int32), vI (2 : Int32), vI (g 1)] [])) tg → Steps p.tables e below (s₁.setTop (mkF m 0 #[vR a1, vI p2, vR a3, vI p4, vI p5, .unset, .unset] [])) tg := R64
    have R66 : ∀ tg, Steps p.tables e below (T63.setTop (mkF m 46 #[vR a1, vI (2 : Int32), vR a3, vI (2 : Int32), vI (2 : Int32), vI (2 : Int32), vI (g 1)] [(.int (2 : Int32))])) tg → Steps p.tables e below (s₁.setTop (mkF m 0 #[vR a1, vI p2, vR a3, vI p4, vI p5, .unset, .unset] [])) tg := by
      intro tg kt
      refine R65 _ ?_
      show Steps p.tables e below (T63.setTop (mkF m 3 #[vR a1, vI (2 : Int32), vR a3, vI (2 : Int32), vI (2 : Int32), vI (2 : Int32), vI (g 1)] [])) _
      refine XS.iload X63.here hx rfl (hb hby d6_3) rfl ?_
      refine XS.iload X63.here hx rfl (hb hby d6_5) rfl ?_
      show Steps p.tables e below (T63.setTop (mkF m 7 #[vR a1, vI (2 : Int32), vR a3, vI (2 : Int32), vI (2 : Int32), vI (2 : Int32), vI (g 1)] [(.int (2 : Int32)), (.int (2 : Int32))])) _
      refine XS.icmpYes X63.here hx rfl (pc0 := 7) (pc' := 44) rfl (hb hby d6_7) rfl (flt (by decide : ¬ ((2 : Int32) < (2 : Int32)))).2.1 (by decide) (by decide) ?_
      refine XS.iload X63.here hx rfl (hb hby d6_44) rfl ?_
      exact kt
    clear R65
    have VBz : AV Z h63 a3 .byte 2 (fun j => .int ((fun j => own_bv (g j)) j)) := AV.congr VB_63 (own_st2 g _)
    obtain ⟨fs, hr, hrun, hended, hW, hsame⟩ := X63.leave (v := some (.int (2 : Int32))) (fun h => by rw [Bd.returns] at h; cases h)
    refine ⟨_, _, pre0 _ (R66 _ ?_), hrun, hended, _, _, rfl, ?_, ⟨_, rfl⟩, hW, hsame.mono (by decide) (by decide)⟩
    · exact retI X63 hx Bd.returns (hb hby d6_46) hr
    · show Q_rm_cm5 Z a1 p2 a3 p4 p5 n g h0 n0 _ T63.heap _
      rw [e63]
      exact ⟨by rw [hp5], N63, Kw63, by rw [hn]; exact VBz⟩
  · rw [hn] at VC VB hp5
    have hp5 : p5 = (3 : Int32) := hp5
    have R67 : ∀ tg, Steps p.tables e below (s₁.setTop (mkF m 0 #[vR a1, vI (0 : Int32), vR a3, vI (0 : Int32), vI (3 : Int32), .unset, .unset] [])) tg → Steps p.tables e below (s₁.setTop (mkF m 0 #[vR a1, vI p2, vR a3, vI p4, vI p5, .unset, .unset] [])) tg := by intro tg kt; refine pre00 tg ?_; rw [hp2, hp4, hp5]; exact kt
    have R68 : ∀ tg, Steps p.tables e below (s₁.setTop (mkF m 12 #[vR a1, vI (0 : Int32), vR a3, vI (0 : Int32), vI (3 : Int32), vI (0 : Int32), .unset] [(.int (0 : Int32)), (.ref a1)])) tg → Steps p.tables e below (s₁.setTop (mkF m 0 #[vR a1, vI p2, vR a3, vI p4, vI p5, .unset, .unset] [])) tg := by
      intro tg kt
      refine R67 _ ?_
      show Steps p.tables e below (s₁.setTop (mkF m 0 #[vR a1, vI (0 : Int32), vR a3, vI (0 : Int32), vI (3 : Int32), .unset, .unset] [])) _
      refine XS.iconst X0.here hx rfl (hb hby d6_0) ?_
      show Steps p.tables e below (s₁.setTop (mkF m 1 #[vR a1, vI (0 : Int32), vR a3, vI (0 : Int32), vI (3 : Int32), .unset, .unset] [(.int (0 : Int32))])) _
      refine XS.istore X0.here hx rfl (hb hby d6_1) rfl (l' := #[vR a1, vI (0 : Int32), vR a3, vI (0 : Int32), vI (3 : Int32), vI (0 : Int32), .unset]) rfl ?_
      refine XS.iload X0.here hx rfl (hb hby d6_3) rfl ?_
      refine XS.iload X0.here hx rfl (hb hby d6_5) rfl ?_
      show Steps p.tables e below (s₁.setTop (mkF m 7 #[vR a1, vI (0 : Int32), vR a3, vI (0 : Int32), vI (3 : Int32), vI (0 : Int32), .unset] [(.int (3 : Int32)), (.int (0 : Int32))])) _
      refine XS.icmpNo X0.here hx rfl (hb hby d6_7) rfl (tlt (by decide : (0 : Int32) < (3 : Int32))).2.1 ?_
      refine XS.aloadN X0.here hx rfl (hb hby d6_10) rfl rfl ?_
      refine XS.iloadN X0.here hx rfl (hb hby d6_11) rfl ?_
      exact kt
    clear R67
    obtain ⟨cl69, Ar69, hin69, hat69⟩ := VC.at (j := (0 : Int32)) (k := 0) (by decide) rfl (by decide)
    have R70 : ∀ tg, Steps p.tables e below (s₁.setTop (mkF m 31 #[vR a1, vI (0 : Int32), vR a3, vI (0 : Int32), vI (3 : Int32), vI (0 : Int32), vI (g 0)] [(.int ((g 0).toInt8.toInt32)), (.int (0 : Int32)), (.ref a3)])) tg → Steps p.tables e below (s₁.setTop (mkF m 0 #[vR a1, vI p2, vR a3, vI p4, vI p5, .unset, .unset] [])) tg := by
      intro tg kt
      refine R68 _ ?_
      show Steps p.tables e below (s₁.setTop (mkF m 12 #[vR a1, vI (0 : Int32), vR a3, vI (0 : Int32), vI (3 : Int32), vI (0 : Int32), .unset] [(.int (0 : Int32)), (.ref a1)])) _
      refine X0.caload hx (j := (0 : Int32)) (v := (.int (g 0))) (by rw [e0]; exact Ar69.1) (State.isArrayOf_alike hZ.alike Ar69.2.1) Ar69.2.2 hin69 hat69 (g := (mkF m 12 #[vR a1, vI (0 : Int32), vR a3, vI (0 : Int32), vI (3 : Int32), vI (0 : Int32), .unset] [(.int (0 : Int32)), (.ref a1)])) rfl rfl (hb hby d6_12) _ ?_
      show Steps p.tables e below (s₁.setTop (mkF m 13 #[vR a1, vI (0 : Int32), vR a3, vI (0 : Int32), vI (3 : Int32), vI (0 : Int32), .unset] [(.int (g 0))])) _
      refine XS.istore X0.here hx rfl (hb hby d6_13) rfl (l' := #[vR a1, vI (0 : Int32), vR a3, vI (0 : Int32), vI (3 : Int32), vI (0 : Int32), vI (g 0)]) rfl ?_
      refine XS.iload X0.here hx rfl (hb hby d6_15) rfl ?_
      refine XS.sipush X0.here hx rfl (hb hby d6_17) ?_
      show Steps p.tables e below (s₁.setTop (mkF m 20 #[vR a1, vI (0 : Int32), vR a3, vI (0 : Int32), vI (3 : Int32), vI (0 : Int32), vI (g 0)] [(.int (255 : Int32)), (.int (g 0))])) _
      refine XS.icmpYes X0.here hx rfl (pc0 := 20) (pc' := 26) rfl (hb hby d6_20) rfl (flt (hle 0 : ¬ ((255 : Int32) < (g 0)))).2.2.2 (by decide) (by decide) ?_
      refine XS.aloadN X0.here hx rfl (hb hby d6_26) rfl rfl ?_
      refine XS.iloadN X0.here hx rfl (hb hby d6_27) rfl ?_
      show Steps p.tables e below (s₁.setTop (mkF m 28 #[vR a1, vI (0 : Int32), vR a3, vI (0 : Int32), vI (3 : Int32), vI (0 : Int32), vI (g 0)] [(.int (0 : Int32)), (.ref a3)])) _
      refine XS.iload X0.here hx rfl (hb hby d6_28) rfl ?_
      show Steps p.tables e below (s₁.setTop (mkF m 30 #[vR a1, vI (0 : Int32), vR a3, vI (0 : Int32), vI (3 : Int32), vI (0 : Int32), vI (g 0)] [(.int (g 0)), (.int (0 : Int32)), (.ref a3)])) _
      refine XS.i2b X0.here hx rfl (hb hby d6_30) rfl ?_
      exact kt
    clear R68
    obtain ⟨cl71, Ar71, hin71, -⟩ := VB.at (j := (0 : Int32)) (k := 0) (by decide) rfl (by decide)
    obtain ⟨T72, h72, X72, e72, W72, st72⟩ := stB X0 hx hZ e0 Ar71 (j := (0 : Int32)) hin71 (g := (mkF m 31 #[vR a1, vI (0 : Int32), vR a3, vI (0 : Int32), vI (3 : Int32), vI (0 : Int32), vI (g 0)] [(.int ((g 0).toInt8.toInt32)), (.int (0 : Int32)), (.ref a3)])) rfl rfl (hb hby d6_31)
    have N72 := Fr.snoc X72 N0 gb
    rw [show ((0 : Int32) : Int32).toNatClampNeg = 0 from rfl] at W72
    have VB_72 := VB.set W72 (fits_nar_byte _)
    have VC_72 := VC.other W72 ne13
    have Zs72 : n0 ≤ h72.size := Nat.le_trans Z0 (Keep.of_wr W72).1
    have Kw72 : Keep h0 h72 [a3] := Keep.wr (Keep.refl h0 [a3]) W72 (Or.inl (List.mem_of_getElem? (i := 0) rfl))
    have R73 : ∀ tg, Steps p.tables e below (T72.setTop (mkF m 3 #[vR a1, vI ((0 : Int32) + (1 : Int32)), vR a3, vI ((0 : Int32) + (1 : Int32)), vI (3 : Int32), vI ((0 : Int32) + (1 : Int32)), vI (g 0)] [])) tg → Steps p.tables e below (s₁.setTop (mkF m 0 #[vR a1, vI p2, vR a3, vI p4, vI p5, .unset, .unset] [])) tg := by
      intro tg kt
      refine R70 _ ?_
      refine st72 _ ?_
      show Steps p.tables e below (T72.setTop (mkF m 32 #[vR a1, vI (0 : Int32), vR a3, vI (0 : Int32), vI (3 : Int32), vI (0 : Int32), vI (g 0)] [])) _
      refine XS.iinc X72.here hx rfl (hb hby d6_32) rfl (l' := #[vR a1, vI ((0 : Int32) + (1 : Int32)), vR a3, vI (0 : Int32), vI (3 : Int32), vI (0 : Int32), vI (g 0)]) rfl ?_
      show Steps p.tables e below (T72.setTop (mkF m 35 #[vR a1, vI ((0 : Int32) + (1 : Int32)), vR a3, vI (0 : Int32), vI (3 : Int32), vI (0 : Int32), vI (g 0)] [])) _
      refine XS.iinc X72.here hx rfl (hb hby d6_35) rfl (l' := #[vR a1, vI ((0 : Int32) + (1 : Int32)), vR a3, vI ((0 : Int32) + (1 : Int32)), vI (3 : Int32), vI (0 : Int32), vI (g 0)]) rfl ?_
      show Steps p.tables e below (T72.setTop (mkF m 38 #[vR a1, vI ((0 : Int32) + (1 : Int32)), vR a3, vI ((0 : Int32) + (1 : Int32)), vI (3 : Int32), vI (0 : Int32), vI (g 0)] [])) _
      refine XS.iinc X72.here hx rfl (hb hby d6_38) rfl (l' := #[vR a1, vI ((0 : Int32) + (1 : Int32)), vR a3, vI ((0 : Int32) + (1 : Int32)), vI (3 : Int32), vI ((0 : Int32) + (1 : Int32)), vI (g 0)]) rfl ?_
      show Steps p.tables e below (T72.setTop (mkF m 41 #[vR a1, vI ((0 : Int32) + (1 : Int32)), vR a3, vI ((0 : Int32) + (1 : Int32)), vI (3 : Int32), vI ((0 : Int32) + (1 : Int32)), vI (g 0)] [])) _
      refine XS.goto X72.here hx rfl (pc0 := 41) (pc' := 3) rfl (hb hby d6_41) (by decide) (by decide) ?_
      exact kt
    clear R70 st72
    have R74 : ∀ tg, Steps p.tables e below (T72.setTop (mkF m 3 #[vR a1, vI (1 : Int32), vR a3, vI (1 : Int32), vI (3 : Int32), vI (1 : Int32), vI (g 0)] [])) tg → Steps p.tables e below (s₁.setTop (mkF m 0 #[vR a1, vI p2, vR a3, vI p4, vI p5, .unset, .unset] [])) tg := R73
    have R75 : ∀ tg, Steps p.tables e below (T72.setTop (mkF m 12 #[vR a1, vI (1 : Int32), vR a3, vI (1 : Int32), vI (3 : Int32), vI (1 : Int32), vI (g 0)] [(.int (1 : Int32)), (.ref a1)])) tg → Steps p.tables e below (s₁.setTop (mkF m 0 #[vR a1, vI p2, vR a3, vI p4, vI p5, .unset, .unset] [])) tg := by
      intro tg kt
      refine R74 _ ?_
      show Steps p.tables e below (T72.setTop (mkF m 3 #[vR a1, vI (1 : Int32), vR a3, vI (1 : Int32), vI (3 : Int32), vI (1 : Int32), vI (g 0)] [])) _
      refine XS.iload X72.here hx rfl (hb hby d6_3) rfl ?_
      refine XS.iload X72.here hx rfl (hb hby d6_5) rfl ?_
      show Steps p.tables e below (T72.setTop (mkF m 7 #[vR a1, vI (1 : Int32), vR a3, vI (1 : Int32), vI (3 : Int32), vI (1 : Int32), vI (g 0)] [(.int (3 : Int32)), (.int (1 : Int32))])) _
      refine XS.icmpNo X72.here hx rfl (hb hby d6_7) rfl (tlt (by decide : (1 : Int32) < (3 : Int32))).2.1 ?_
      refine XS.aloadN X72.here hx rfl (hb hby d6_10) rfl rfl ?_
      refine XS.iloadN X72.here hx rfl (hb hby d6_11) rfl ?_
      exact kt
    clear R74
    obtain ⟨cl76, Ar76, hin76, hat76⟩ := VC_72.at (j := (1 : Int32)) (k := 1) (by decide) rfl (by decide)
    have R77 : ∀ tg, Steps p.tables e below (T72.setTop (mkF m 31 #[vR a1, vI (1 : Int32), vR a3, vI (1 : Int32), vI (3 : Int32), vI (1 : Int32), vI (g 1)] [(.int ((g 1).toInt8.toInt32)), (.int (1 : Int32)), (.ref a3)])) tg → Steps p.tables e below (s₁.setTop (mkF m 0 #[vR a1, vI p2, vR a3, vI p4, vI p5, .unset, .unset] [])) tg := by
      intro tg kt
      refine R75 _ ?_
      show Steps p.tables e below (T72.setTop (mkF m 12 #[vR a1, vI (1 : Int32), vR a3, vI (1 : Int32), vI (3 : Int32), vI (1 : Int32), vI (g 0)] [(.int (1 : Int32)), (.ref a1)])) _
      refine X72.caload hx (j := (1 : Int32)) (v := (.int (g 1))) (by rw [e72]; exact Ar76.1) (State.isArrayOf_alike hZ.alike Ar76.2.1) Ar76.2.2 hin76 hat76 (g := (mkF m 12 #[vR a1, vI (1 : Int32), vR a3, vI (1 : Int32), vI (3 : Int32), vI (1 : Int32), vI (g 0)] [(.int (1 : Int32)), (.ref a1)])) rfl rfl (hb hby d6_12) _ ?_
      show Steps p.tables e below (T72.setTop (mkF m 13 #[vR a1, vI (1 : Int32), vR a3, vI (1 : Int32), vI (3 : Int32), vI (1 : Int32), vI (g 0)] [(.int (g 1))])) _
      refine XS.istore X72.here hx rfl (hb hby d6_13) rfl (l' := #[vR a1, vI (1 : Int32), vR a3, vI (1 : Int32), vI (3 : Int32), vI (1 : Int32), vI (g 1)]) rfl ?_
      refine XS.iload X72.here hx rfl (hb hby d6_15) rfl ?_
      refine XS.sipush X72.here hx rfl (hb hby d6_17) ?_
      show Steps p.tables e below (T72.setTop (mkF m 20 #[vR a1, vI (1 : Int32), vR a3, vI (1 : Int32), vI (3 : Int32), vI (1 : Int32), vI (g 1)] [(.int (255 : Int32)), (.int (g 1))])) _
      refine XS.icmpYes X72.here hx rfl (pc0 := 20) (pc' := 26) rfl (hb hby d6_20) rfl (flt (hle 1 : ¬ ((255 : Int32) < (g 1)))).2.2.2 (by decide) (by decide) ?_
      refine XS.aloadN X72.here hx rfl (hb hby d6_26) rfl rfl ?_
      refine XS.iloadN X72.here hx rfl (hb hby d6_27) rfl ?_
      show Steps p.tables e below (T72.setTop (mkF m 28 #[vR a1, vI (1 : Int32), vR a3, vI (1 : Int32), vI (3 : Int32), vI (1 : Int32), vI (g 1)] [(.int (1 : Int32)), (.ref a3)])) _
      refine XS.iload X72.here hx rfl (hb hby d6_28) rfl ?_
      show Steps p.tables e below (T72.setTop (mkF m 30 #[vR a1, vI (1 : Int32), vR a3, vI (1 : Int32), vI (3 : Int32), vI (1 : Int32), vI (g 1)] [(.int (g 1)), (.int (1 : Int32)), (.ref a3)])) _
      refine XS.i2b X72.here hx rfl (hb hby d6_30) rfl ?_
      exact kt
    clear R75
    obtain ⟨cl78, Ar78, hin78, -⟩ := VB_72.at (j := (1 : Int32)) (k := 1) (by decide) rfl (by decide)
    obtain ⟨T79, h79, X79, e79, W79, st79⟩ := stB X72 hx hZ e72 Ar78 (j := (1 : Int32)) hin78 (g := (mkF m 31 #[vR a1, vI (1 : Int32), vR a3, vI (1 : Int32), vI (3 : Int32), vI (1 : Int32), vI (g 1)] [(.int ((g 1).toInt8.toInt32)), (.int (1 : Int32)), (.ref a3)])) rfl rfl (hb hby d6_31)
    have N79 := Fr.snoc X79 N72 gb
    rw [show ((1 : Int32) : Int32).toNatClampNeg = 1 from rfl] at W79
    have VB_79 := VB_72.set W79 (fits_nar_byte _)
    have VC_79 := VC_72.other W79 ne13
    clear VC_72
    have Zs79 : n0 ≤ h79.size := Nat.le_trans Zs72 (Keep.of_wr W79).1
    have Kw79 : Keep h0 h79 [a3] := Keep.wr Kw72 W79 (Or.inl (List.mem_of_getElem? (i := 0) rfl))
    have R80 : ∀ tg, Steps p.tables e below (T79.setTop (mkF m 3 #[vR a1, vI ((1 : Int32) + (1 : Int32)), vR a3, vI ((1 : Int32) + (1 : Int32)), vI (3 : Int32), vI ((1 : Int32) + (1 : Int32)), vI (g 1)] [])) tg → Steps p.tables e below (s₁.setTop (mkF m 0 #[vR a1, vI p2, vR a3, vI p4, vI p5, .unset, .unset] [])) tg := by
      intro tg kt
      refine R77 _ ?_
      refine st79 _ ?_
      show Steps p.tables e below (T79.setTop (mkF m 32 #[vR a1, vI (1 : Int32), vR a3, vI (1 : Int32), vI (3 : Int32), vI (1 : Int32), vI (g 1)] [])) _
      refine XS.iinc X79.here hx rfl (hb hby d6_32) rfl (l' := #[vR a1, vI ((1 : Int32) + (1 : Int32)), vR a3, vI (1 : Int32), vI (3 : Int32), vI (1 : Int32), vI (g 1)]) rfl ?_
      show Steps p.tables e below (T79.setTop (mkF m 35 #[vR a1, vI ((1 : Int32) + (1 : Int32)), vR a3, vI (1 : Int32), vI (3 : Int32), vI (1 : Int32), vI (g 1)] [])) _
      refine XS.iinc X79.here hx rfl (hb hby d6_35) rfl (l' := #[vR a1, vI ((1 : Int32) + (1 : Int32)), vR a3, vI ((1 : Int32) + (1 : Int32)), vI (3 : Int32), vI (1 : Int32), vI (g 1)]) rfl ?_
      show Steps p.tables e below (T79.setTop (mkF m 38 #[vR a1, vI ((1 : Int32) + (1 : Int32)), vR a3, vI ((1 : Int32) + (1 : Int32)), vI (3 : Int32), vI (1 : Int32), vI (g 1)] [])) _
      refine XS.iinc X79.here hx rfl (hb hby d6_38) rfl (l' := #[vR a1, vI ((1 : Int32) + (1 : Int32)), vR a3, vI ((1 : Int32) + (1 : Int32)), vI (3 : Int32), vI ((1 : Int32) + (1 : Int32)), vI (g 1)]) rfl ?_
      show Steps p.tables e below (T79.setTop (mkF m 41 #[vR a1, vI ((1 : Int32) + (1 : Int32)), vR a3, vI ((1 : Int32) + (1 : Int32)), vI (3 : Int32), vI ((1 : Int32) + (1 : Int32)), vI (g 1)] [])) _
      refine XS.goto X79.here hx rfl (pc0 := 41) (pc' := 3) rfl (hb hby d6_41) (by decide) (by decide) ?_
      exact kt
    clear R77 st79
    have R81 : ∀ tg, Steps p.tables e below (T79.setTop (mkF m 3 #[vR a1, vI (2 : Int32), vR a3, vI (2 : Int32), vI (3 : Int32), vI (2 : Int32), vI (g 1)] [])) tg → Steps p.tables e below (s₁.setTop (mkF m 0 #[vR a1, vI p2, vR a3, vI p4, vI p5, .unset, .unset] [])) tg := R80
    have R82 : ∀ tg, Steps p.tables e below (T79.setTop (mkF m 12 #[vR a1, vI (2 : Int32), vR a3, vI (2 : Int32), vI (3 : Int32), vI (2 : Int32), vI (g 1)] [(.int (2 : Int32)), (.ref a1)])) tg → Steps p.tables e below (s₁.setTop (mkF m 0 #[vR a1, vI p2, vR a3, vI p4, vI p5, .unset, .unset] [])) tg := by
      intro tg kt
      refine R81 _ ?_
      show Steps p.tables e below (T79.setTop (mkF m 3 #[vR a1, vI (2 : Int32), vR a3, vI (2 : Int32), vI (3 : Int32), vI (2 : Int32), vI (g 1)] [])) _
      refine XS.iload X79.here hx rfl (hb hby d6_3) rfl ?_
      refine XS.iload X79.here hx rfl (hb hby d6_5) rfl ?_
      show Steps p.tables e below (T79.setTop (mkF m 7 #[vR a1, vI (2 : Int32), vR a3, vI (2 : Int32), vI (3 : Int32), vI (2 : Int32), vI (g 1)] [(.int (3 : Int32)), (.int (2 : Int32))])) _
      refine XS.icmpNo X79.here hx rfl (hb hby d6_7) rfl (tlt (by decide : (2 : Int32) < (3 : Int32))).2.1 ?_
      refine XS.aloadN X79.here hx rfl (hb hby d6_10) rfl rfl ?_
      refine XS.iloadN X79.here hx rfl (hb hby d6_11) rfl ?_
      exact kt
    clear R81
    obtain ⟨cl83, Ar83, hin83, hat83⟩ := VC_79.at (j := (2 : Int32)) (k := 2) (by decide) rfl (by decide)
    have R84 : ∀ tg, Steps p.tables e below (T79.setTop (mkF m 31 #[vR a1, vI (2 : Int32), vR a3, vI (2 : Int32), vI (3 : Int32), vI (2 : Int32), vI (g 2)] [(.int ((g 2).toInt8.toInt32)), (.int (2 : Int32)), (.ref a3)])) tg → Steps p.tables e below (s₁.setTop (mkF m 0 #[vR a1, vI p2, vR a3, vI p4, vI p5, .unset, .unset] [])) tg := by
      intro tg kt
      refine R82 _ ?_
      show Steps p.tables e below (T79.setTop (mkF m 12 #[vR a1, vI (2 : Int32), vR a3, vI (2 : Int32), vI (3 : Int32), vI (2 : Int32), vI (g 1)] [(.int (2 : Int32)), (.ref a1)])) _
      refine X79.caload hx (j := (2 : Int32)) (v := (.int (g 2))) (by rw [e79]; exact Ar83.1) (State.isArrayOf_alike hZ.alike Ar83.2.1) Ar83.2.2 hin83 hat83 (g := (mkF m 12 #[vR a1, vI (2 : Int32), vR a3, vI (2 : Int32), vI (3 : Int32), vI (2 : Int32), vI (g 1)] [(.int (2 : Int32)), (.ref a1)])) rfl rfl (hb hby d6_12) _ ?_
      show Steps p.tables e below (T79.setTop (mkF m 13 #[vR a1, vI (2 : Int32), vR a3, vI (2 : Int32), vI (3 : Int32), vI (2 : Int32), vI (g 1)] [(.int (g 2))])) _
      refine XS.istore X79.here hx rfl (hb hby d6_13) rfl (l' := #[vR a1, vI (2 : Int32), vR a3, vI (2 : Int32), vI (3 : Int32), vI (2 : Int32), vI (g 2)]) rfl ?_
      refine XS.iload X79.here hx rfl (hb hby d6_15) rfl ?_
      refine XS.sipush X79.here hx rfl (hb hby d6_17) ?_
      show Steps p.tables e below (T79.setTop (mkF m 20 #[vR a1, vI (2 : Int32), vR a3, vI (2 : Int32), vI (3 : Int32), vI (2 : Int32), vI (g 2)] [(.int (255 : Int32)), (.int (g 2))])) _
      refine XS.icmpYes X79.here hx rfl (pc0 := 20) (pc' := 26) rfl (hb hby d6_20) rfl (flt (hle 2 : ¬ ((255 : Int32) < (g 2)))).2.2.2 (by decide) (by decide) ?_
      refine XS.aloadN X79.here hx rfl (hb hby d6_26) rfl rfl ?_
      refine XS.iloadN X79.here hx rfl (hb hby d6_27) rfl ?_
      show Steps p.tables e below (T79.setTop (mkF m 28 #[vR a1, vI (2 : Int32), vR a3, vI (2 : Int32), vI (3 : Int32), vI (2 : Int32), vI (g 2)] [(.int (2 : Int32)), (.ref a3)])) _
      refine XS.iload X79.here hx rfl (hb hby d6_28) rfl ?_
      show Steps p.tables e below (T79.setTop (mkF m 30 #[vR a1, vI (2 : Int32), vR a3, vI (2 : Int32), vI (3 : Int32), vI (2 : Int32), vI (g 2)] [(.int (g 2)), (.int (2 : Int32)), (.ref a3)])) _
      refine XS.i2b X79.here hx rfl (hb hby d6_30) rfl ?_
      exact kt
    clear R82
    obtain ⟨cl85, Ar85, hin85, -⟩ := VB_79.at (j := (2 : Int32)) (k := 2) (by decide) rfl (by decide)
    obtain ⟨T86, h86, X86, e86, W86, st86⟩ := stB X79 hx hZ e79 Ar85 (j := (2 : Int32)) hin85 (g := (mkF m 31 #[vR a1, vI (2 : Int32), vR a3, vI (2 : Int32), vI (3 : Int32), vI (2 : Int32), vI (g 2)] [(.int ((g 2).toInt8.toInt32)), (.int (2 : Int32)), (.ref a3)])) rfl rfl (hb hby d6_31)
    have N86 := Fr.snoc X86 N79 gb
    rw [show ((2 : Int32) : Int32).toNatClampNeg = 2 from rfl] at W86
    have VB_86 := VB_79.set W86 (fits_nar_byte _)
    have VC_86 := VC_79.other W86 ne13
    clear VC_79
    have Zs86 : n0 ≤ h86.size := Nat.le_trans Zs79 (Keep.of_wr W86).1
    have Kw86 : Keep h0 h86 [a3] := Keep.wr Kw79 W86 (Or.inl (List.mem_of_getElem? (i := 0) rfl))
    have R87 : ∀ tg, Steps p.tables e below (T86.setTop (mkF m 3 #[vR a1, vI ((2 : Int32) + (1 : Int32)), vR a3, vI ((2 : Int32) + (1 : Int32)), vI (3 : Int32), vI ((2 : Int32) + (1 : Int32)), vI (g 2)] [])) tg → Steps p.tables e below (s₁.setTop (mkF m 0 #[vR a1, vI p2, vR a3, vI p4, vI p5, .unset, .unset] [])) tg := by
      intro tg kt
      refine R84 _ ?_
      refine st86 _ ?_
      show Steps p.tables e below (T86.setTop (mkF m 32 #[vR a1, vI (2 : Int32), vR a3, vI (2 : Int32), vI (3 : Int32), vI (2 : Int32), vI (g 2)] [])) _
      refine XS.iinc X86.here hx rfl (hb hby d6_32) rfl (l' := #[vR a1, vI ((2 : Int32) + (1 : Int32)), vR a3, vI (2 : Int32), vI (3 : Int32), vI (2 : Int32), vI (g 2)]) rfl ?_
      show Steps p.tables e below (T86.setTop (mkF m 35 #[vR a1, vI ((2 : Int32) + (1 : Int32)), vR a3, vI (2 : Int32), vI (3 : Int32), vI (2 : Int32), vI (g 2)] [])) _
      refine XS.iinc X86.here hx rfl (hb hby d6_35) rfl (l' := #[vR a1, vI ((2 : Int32) + (1 : Int32)), vR a3, vI ((2 : Int32) + (1 : Int32)), vI (3 : Int32), vI (2 : Int32), vI (g 2)]) rfl ?_
      show Steps p.tables e below (T86.setTop (mkF m 38 #[vR a1, vI ((2 : Int32) + (1 : Int32)), vR a3, vI ((2 : Int32) + (1 : Int32)), vI (3 : Int32), vI (2 : Int32), vI (g 2)] [])) _
      refine XS.iinc X86.here hx rfl (hb hby d6_38) rfl (l' := #[vR a1, vI ((2 : Int32) + (1 : Int32)), vR a3, vI ((2 : Int32) + (1 : Int32)), vI (3 : Int32), vI ((2 : Int32) + (1 : Int32)), vI (g 2)]) rfl ?_
      show Steps p.tables e below (T86.setTop (mkF m 41 #[vR a1, vI ((2 : Int32) + (1 : Int32)), vR a3, vI ((2 : Int32) + (1 : Int32)), vI (3 : Int32), vI ((2 : Int32) + (1 : Int32)), vI (g 2)] [])) _
      refine XS.goto X86.here hx rfl (pc0 := 41) (pc' := 3) rfl (hb hby d6_41) (by decide) (by decide) ?_
      exact kt
    clear R84 st86
    have R88 : ∀ tg, Steps p.tables e below (T86.setTop (mkF m 3 #[vR a1, vI (3 : Int32), vR a3, vI (3 : Int32), vI (3 : Int32), vI (3 : Int32), vI (g 2)] [])) tg → Steps p.tables e below (s₁.setTop (mkF m 0 #[vR a1, vI p2, vR a3, vI p4, vI p5, .unset, .unset] [])) tg := R87
    have R89 : ∀ tg, Steps p.tables e below (T86.setTop (mkF m 46 #[vR a1, vI (3 : Int32), vR a3, vI (3 : Int32), vI (3 : Int32), vI (3 : Int32), vI (g 2)] [(.int (3 : Int32))])) tg → Steps p.tables e below (s₁.setTop (mkF m 0 #[vR a1, vI p2, vR a3, vI p4, vI p5, .unset, .unset] [])) tg := by
      intro tg kt
      refine R88 _ ?_
      show Steps p.tables e below (T86.setTop (mkF m 3 #[vR a1, vI (3 : Int32), vR a3, vI (3 : Int32), vI (3 : Int32), vI (3 : Int32), vI (g 2)] [])) _
      refine XS.iload X86.here hx rfl (hb hby d6_3) rfl ?_
      refine XS.iload X86.here hx rfl (hb hby d6_5) rfl ?_
      show Steps p.tables e below (T86.setTop (mkF m 7 #[vR a1, vI (3 : Int32), vR a3, vI (3 : Int32), vI (3 : Int32), vI (3 : Int32), vI (g 2)] [(.int (3 : Int32)), (.int (3 : Int32))])) _
      refine XS.icmpYes X86.here hx rfl (pc0 := 7) (pc' := 44) rfl (hb hby d6_7) rfl (flt (by decide : ¬ ((3 : Int32) < (3 : Int32)))).2.1 (by decide) (by decide) ?_
      refine XS.iload X86.here hx rfl (hb hby d6_44) rfl ?_
      exact kt
    clear R88
    have VBz : AV Z h86 a3 .byte 3 (fun j => .int ((fun j => own_bv (g j)) j)) := AV.congr VB_86 (own_st3 g _)
    obtain ⟨fs, hr, hrun, hended, hW, hsame⟩ := X86.leave (v := some (.int (3 : Int32))) (fun h => by rw [Bd.returns] at h; cases h)
    refine ⟨_, _, pre0 _ (R89 _ ?_), hrun, hended, _, _, rfl, ?_, ⟨_, rfl⟩, hW, hsame.mono (by decide) (by decide)⟩
    · exact retI X86 hx Bd.returns (hb hby d6_46) hr
    · show Q_rm_cm5 Z a1 p2 a3 p4 p5 n g h0 n0 _ T86.heap _
      rw [e86]
      exact ⟨by rw [hp5], N86, Kw86, by rw [hn]; exact VBz⟩
  · rw [hn] at VC VB hp5
    have hp5 : p5 = (4 : Int32) := hp5
    have R90 : ∀ tg, Steps p.tables e below (s₁.setTop (mkF m 0 #[vR a1, vI (0 : Int32), vR a3, vI (0 : Int32), vI (4 : Int32), .unset, .unset] [])) tg → Steps p.tables e below (s₁.setTop (mkF m 0 #[vR a1, vI p2, vR a3, vI p4, vI p5, .unset, .unset] [])) tg := by intro tg kt; refine pre00 tg ?_; rw [hp2, hp4, hp5]; exact kt
    have R91 : ∀ tg, Steps p.tables e below (s₁.setTop (mkF m 12 #[vR a1, vI (0 : Int32), vR a3, vI (0 : Int32), vI (4 : Int32), vI (0 : Int32), .unset] [(.int (0 : Int32)), (.ref a1)])) tg → Steps p.tables e below (s₁.setTop (mkF m 0 #[vR a1, vI p2, vR a3, vI p4, vI p5, .unset, .unset] [])) tg := by
      intro tg kt
      refine R90 _ ?_
      show Steps p.tables e below (s₁.setTop (mkF m 0 #[vR a1, vI (0 : Int32), vR a3, vI (0 : Int32), vI (4 : Int32), .unset, .unset] [])) _
      refine XS.iconst X0.here hx rfl (hb hby d6_0) ?_
      show Steps p.tables e below (s₁.setTop (mkF m 1 #[vR a1, vI (0 : Int32), vR a3, vI (0 : Int32), vI (4 : Int32), .unset, .unset] [(.int (0 : Int32))])) _
      refine XS.istore X0.here hx rfl (hb hby d6_1) rfl (l' := #[vR a1, vI (0 : Int32), vR a3, vI (0 : Int32), vI (4 : Int32), vI (0 : Int32), .unset]) rfl ?_
      refine XS.iload X0.here hx rfl (hb hby d6_3) rfl ?_
      refine XS.iload X0.here hx rfl (hb hby d6_5) rfl ?_
      show Steps p.tables e below (s₁.setTop (mkF m 7 #[vR a1, vI (0 : Int32), vR a3, vI (0 : Int32), vI (4 : Int32), vI (0 : Int32), .unset] [(.int (4 : Int32)), (.int (0 : Int32))])) _
      refine XS.icmpNo X0.here hx rfl (hb hby d6_7) rfl (tlt (by decide : (0 : Int32) < (4 : Int32))).2.1 ?_
      refine XS.aloadN X0.here hx rfl (hb hby d6_10) rfl rfl ?_
      refine XS.iloadN X0.here hx rfl (hb hby d6_11) rfl ?_
      exact kt
    clear R90
    obtain ⟨cl92, Ar92, hin92, hat92⟩ := VC.at (j := (0 : Int32)) (k := 0) (by decide) rfl (by decide)
    have R93 : ∀ tg, Steps p.tables e below (s₁.setTop (mkF m 31 #[vR a1, vI (0 : Int32), vR a3, vI (0 : Int32), vI (4 : Int32), vI (0 : Int32), vI (g 0)] [(.int ((g 0).toInt8.toInt32)), (.int (0 : Int32)), (.ref a3)])) tg → Steps p.tables e below (s₁.setTop (mkF m 0 #[vR a1, vI p2, vR a3, vI p4, vI p5, .unset, .unset] [])) tg := by
      intro tg kt
      refine R91 _ ?_
      show Steps p.tables e below (s₁.setTop (mkF m 12 #[vR a1, vI (0 : Int32), vR a3, vI (0 : Int32), vI (4 : Int32), vI (0 : Int32), .unset] [(.int (0 : Int32)), (.ref a1)])) _
      refine X0.caload hx (j := (0 : Int32)) (v := (.int (g 0))) (by rw [e0]; exact Ar92.1) (State.isArrayOf_alike hZ.alike Ar92.2.1) Ar92.2.2 hin92 hat92 (g := (mkF m 12 #[vR a1, vI (0 : Int32), vR a3, vI (0 : Int32), vI (4 : Int32), vI (0 : Int32), .unset] [(.int (0 : Int32)), (.ref a1)])) rfl rfl (hb hby d6_12) _ ?_
      show Steps p.tables e below (s₁.setTop (mkF m 13 #[vR a1, vI (0 : Int32), vR a3, vI (0 : Int32), vI (4 : Int32), vI (0 : Int32), .unset] [(.int (g 0))])) _
      refine XS.istore X0.here hx rfl (hb hby d6_13) rfl (l' := #[vR a1, vI (0 : Int32), vR a3, vI (0 : Int32), vI (4 : Int32), vI (0 : Int32), vI (g 0)]) rfl ?_
      refine XS.iload X0.here hx rfl (hb hby d6_15) rfl ?_
      refine XS.sipush X0.here hx rfl (hb hby d6_17) ?_
      show Steps p.tables e below (s₁.setTop (mkF m 20 #[vR a1, vI (0 : Int32), vR a3, vI (0 : Int32), vI (4 : Int32), vI (0 : Int32), vI (g 0)] [(.int (255 : Int32)), (.int (g 0))])) _
      refine XS.icmpYes X0.here hx rfl (pc0 := 20) (pc' := 26) rfl (hb hby d6_20) rfl (flt (hle 0 : ¬ ((255 : Int32) < (g 0)))).2.2.2 (by decide) (by decide) ?_
      refine XS.aloadN X0.here hx rfl (hb hby d6_26) rfl rfl ?_
      refine XS.iloadN X0.here hx rfl (hb hby d6_27) rfl ?_
      show Steps p.tables e below (s₁.setTop (mkF m 28 #[vR a1, vI (0 : Int32), vR a3, vI (0 : Int32), vI (4 : Int32), vI (0 : Int32), vI (g 0)] [(.int (0 : Int32)), (.ref a3)])) _
      refine XS.iload X0.here hx rfl (hb hby d6_28) rfl ?_
      show Steps p.tables e below (s₁.setTop (mkF m 30 #[vR a1, vI (0 : Int32), vR a3, vI (0 : Int32), vI (4 : Int32), vI (0 : Int32), vI (g 0)] [(.int (g 0)), (.int (0 : Int32)), (.ref a3)])) _
      refine XS.i2b X0.here hx rfl (hb hby d6_30) rfl ?_
      exact kt
    clear R91
    obtain ⟨cl94, Ar94, hin94, -⟩ := VB.at (j := (0 : Int32)) (k := 0) (by decide) rfl (by decide)
    obtain ⟨T95, h95, X95, e95, W95, st95⟩ := stB X0 hx hZ e0 Ar94 (j := (0 : Int32)) hin94 (g := (mkF m 31 #[vR a1, vI (0 : Int32), vR a3, vI (0 : Int32), vI (4 : Int32), vI (0 : Int32), vI (g 0)] [(.int ((g 0).toInt8.toInt32)), (.int (0 : Int32)), (.ref a3)])) rfl rfl (hb hby d6_31)
    have N95 := Fr.snoc X95 N0 gb
    rw [show ((0 : Int32) : Int32).toNatClampNeg = 0 from rfl] at W95
    have VB_95 := VB.set W95 (fits_nar_byte _)
    have VC_95 := VC.other W95 ne13
    have Zs95 : n0 ≤ h95.size := Nat.le_trans Z0 (Keep.of_wr W95).1
    have Kw95 : Keep h0 h95 [a3] := Keep.wr (Keep.refl h0 [a3]) W95 (Or.inl (List.mem_of_getElem? (i := 0) rfl))
    have R96 : ∀ tg, Steps p.tables e below (T95.setTop (mkF m 3 #[vR a1, vI ((0 : Int32) + (1 : Int32)), vR a3, vI ((0 : Int32) + (1 : Int32)), vI (4 : Int32), vI ((0 : Int32) + (1 : Int32)), vI (g 0)] [])) tg → Steps p.tables e below (s₁.setTop (mkF m 0 #[vR a1, vI p2, vR a3, vI p4, vI p5, .unset, .unset] [])) tg := by
      intro tg kt
      refine R93 _ ?_
      refine st95 _ ?_
      show Steps p.tables e below (T95.setTop (mkF m 32 #[vR a1, vI (0 : Int32), vR a3, vI (0 : Int32), vI (4 : Int32), vI (0 : Int32), vI (g 0)] [])) _
      refine XS.iinc X95.here hx rfl (hb hby d6_32) rfl (l' := #[vR a1, vI ((0 : Int32) + (1 : Int32)), vR a3, vI (0 : Int32), vI (4 : Int32), vI (0 : Int32), vI (g 0)]) rfl ?_
      show Steps p.tables e below (T95.setTop (mkF m 35 #[vR a1, vI ((0 : Int32) + (1 : Int32)), vR a3, vI (0 : Int32), vI (4 : Int32), vI (0 : Int32), vI (g 0)] [])) _
      refine XS.iinc X95.here hx rfl (hb hby d6_35) rfl (l' := #[vR a1, vI ((0 : Int32) + (1 : Int32)), vR a3, vI ((0 : Int32) + (1 : Int32)), vI (4 : Int32), vI (0 : Int32), vI (g 0)]) rfl ?_
      show Steps p.tables e below (T95.setTop (mkF m 38 #[vR a1, vI ((0 : Int32) + (1 : Int32)), vR a3, vI ((0 : Int32) + (1 : Int32)), vI (4 : Int32), vI (0 : Int32), vI (g 0)] [])) _
      refine XS.iinc X95.here hx rfl (hb hby d6_38) rfl (l' := #[vR a1, vI ((0 : Int32) + (1 : Int32)), vR a3, vI ((0 : Int32) + (1 : Int32)), vI (4 : Int32), vI ((0 : Int32) + (1 : Int32)), vI (g 0)]) rfl ?_
      show Steps p.tables e below (T95.setTop (mkF m 41 #[vR a1, vI ((0 : Int32) + (1 : Int32)), vR a3, vI ((0 : Int32) + (1 : Int32)), vI (4 : Int32), vI ((0 : Int32) + (1 : Int32)), vI (g 0)] [])) _
      refine XS.goto X95.here hx rfl (pc0 := 41) (pc' := 3) rfl (hb hby d6_41) (by decide) (by decide) ?_
      exact kt
    clear R93 st95
    have R97 : ∀ tg, Steps p.tables e below (T95.setTop (mkF m 3 #[vR a1, vI (1 : Int32), vR a3, vI (1 : Int32), vI (4 : Int32), vI (1 : Int32), vI (g 0)] [])) tg → Steps p.tables e below (s₁.setTop (mkF m 0 #[vR a1, vI p2, vR a3, vI p4, vI p5, .unset, .unset] [])) tg := R96
    have R98 : ∀ tg, Steps p.tables e below (T95.setTop (mkF m 12 #[vR a1, vI (1 : Int32), vR a3, vI (1 : Int32), vI (4 : Int32), vI (1 : Int32), vI (g 0)] [(.int (1 : Int32)), (.ref a1)])) tg → Steps p.tables e below (s₁.setTop (mkF m 0 #[vR a1, vI p2, vR a3, vI p4, vI p5, .unset, .unset] [])) tg := by
      intro tg kt
      refine R97 _ ?_
      show Steps p.tables e below (T95.setTop (mkF m 3 #[vR a1, vI (1 : Int32), vR a3, vI (1 : Int32), vI (4 : Int32), vI (1 : Int32), vI (g 0)] [])) _
      refine XS.iload X95.here hx rfl (hb hby d6_3) rfl ?_
      refine XS.iload X95.here hx rfl (hb hby d6_5) rfl ?_
      show Steps p.tables e below (T95.setTop (mkF m 7 #[vR a1, vI (1 : Int32), vR a3, vI (1 : Int32), vI (4 : Int32), vI (1 : Int32), vI (g 0)] [(.int (4 : Int32)), (.int (1 : Int32))])) _
      refine XS.icmpNo X95.here hx rfl (hb hby d6_7) rfl (tlt (by decide : (1 : Int32) < (4 : Int32))).2.1 ?_
      refine XS.aloadN X95.here hx rfl (hb hby d6_10) rfl rfl ?_
      refine XS.iloadN X95.here hx rfl (hb hby d6_11) rfl ?_
      exact kt
    clear R97
    obtain ⟨cl99, Ar99, hin99, hat99⟩ := VC_95.at (j := (1 : Int32)) (k := 1) (by decide) rfl (by decide)
    have R100 : ∀ tg, Steps p.tables e below (T95.setTop (mkF m 31 #[vR a1, vI (1 : Int32), vR a3, vI (1 : Int32), vI (4 : Int32), vI (1 : Int32), vI (g 1)] [(.int ((g 1).toInt8.toInt32)), (.int (1 : Int32)), (.ref a3)])) tg → Steps p.tables e below (s₁.setTop (mkF m 0 #[vR a1, vI p2, vR a3, vI p4, vI p5, .unset, .unset] [])) tg := by
      intro tg kt
      refine R98 _ ?_
      show Steps p.tables e below (T95.setTop (mkF m 12 #[vR a1, vI (1 : Int32), vR a3, vI (1 : Int32), vI (4 : Int32), vI (1 : Int32), vI (g 0)] [(.int (1 : Int32)), (.ref a1)])) _
      refine X95.caload hx (j := (1 : Int32)) (v := (.int (g 1))) (by rw [e95]; exact Ar99.1) (State.isArrayOf_alike hZ.alike Ar99.2.1) Ar99.2.2 hin99 hat99 (g := (mkF m 12 #[vR a1, vI (1 : Int32), vR a3, vI (1 : Int32), vI (4 : Int32), vI (1 : Int32), vI (g 0)] [(.int (1 : Int32)), (.ref a1)])) rfl rfl (hb hby d6_12) _ ?_
      show Steps p.tables e below (T95.setTop (mkF m 13 #[vR a1, vI (1 : Int32), vR a3, vI (1 : Int32), vI (4 : Int32), vI (1 : Int32), vI (g 0)] [(.int (g 1))])) _
      refine XS.istore X95.here hx rfl (hb hby d6_13) rfl (l' := #[vR a1, vI (1 : Int32), vR a3, vI (1 : Int32), vI (4 : Int32), vI (1 : Int32), vI (g 1)]) rfl ?_
      refine XS.iload X95.here hx rfl (hb hby d6_15) rfl ?_
      refine XS.sipush X95.here hx rfl (hb hby d6_17) ?_
      show Steps p.tables e below (T95.setTop (mkF m 20 #[vR a1, vI (1 : Int32), vR a3, vI (1 : Int32), vI (4 : Int32), vI (1 : Int32), vI (g 1)] [(.int (255 : Int32)), (.int (g 1))])) _
      refine XS.icmpYes X95.here hx rfl (pc0 := 20) (pc' := 26) rfl (hb hby d6_20) rfl (flt (hle 1 : ¬ ((255 : Int32) < (g 1)))).2.2.2 (by decide) (by decide) ?_
      refine XS.aloadN X95.here hx rfl (hb hby d6_26) rfl rfl ?_
      refine XS.iloadN X95.here hx rfl (hb hby d6_27) rfl ?_
      show Steps p.tables e below (T95.setTop (mkF m 28 #[vR a1, vI (1 : Int32), vR a3, vI (1 : Int32), vI (4 : Int32), vI (1 : Int32), vI (g 1)] [(.int (1 : Int32)), (.ref a3)])) _
      refine XS.iload X95.here hx rfl (hb hby d6_28) rfl ?_
      show Steps p.tables e below (T95.setTop (mkF m 30 #[vR a1, vI (1 : Int32), vR a3, vI (1 : Int32), vI (4 : Int32), vI (1 : Int32), vI (g 1)] [(.int (g 1)), (.int (1 : Int32)), (.ref a3)])) _
      refine XS.i2b X95.here hx rfl (hb hby d6_30) rfl ?_
      exact kt
    clear R98
    obtain ⟨cl101, Ar101, hin101, -⟩ := VB_95.at (j := (1 : Int32)) (k := 1) (by decide) rfl (by decide)
    obtain ⟨T102, h102, X102, e102, W102, st102⟩ := stB X95 hx hZ e95 Ar101 (j := (1 : Int32)) hin101 (g := (mkF m 31 #[vR a1, vI (1 : Int32), vR a3, vI (1 : Int32), vI (4 : Int32), vI (1 : Int32), vI (g 1)] [(.int ((g 1).toInt8.toInt32)), (.int (1 : Int32)), (.ref a3)])) rfl rfl (hb hby d6_31)
    have N102 := Fr.snoc X102 N95 gb
    rw [show ((1 : Int32) : Int32).toNatClampNeg = 1 from rfl] at W102
    have VB_102 := VB_95.set W102 (fits_nar_byte _)
    have VC_102 := VC_95.other W102 ne13
    clear VC_95
    have Zs102 : n0 ≤ h102.size := Nat.le_trans Zs95 (Keep.of_wr W102).1
    have Kw102 : Keep h0 h102 [a3] := Keep.wr Kw95 W102 (Or.inl (List.mem_of_getElem? (i := 0) rfl))
    have R103 : ∀ tg, Steps p.tables e below (T102.setTop (mkF m 3 #[vR a1, vI ((1 : Int32) + (1 : Int32)), vR a3, vI ((1 : Int32) + (1 : Int32)), vI (4 : Int32), vI ((1 : Int32) + (1 : Int32)), vI (g 1)] [])) tg → Steps p.tables e below (s₁.setTop (mkF m 0 #[vR a1, vI p2, vR a3, vI p4, vI p5, .unset, .unset] [])) tg := by
      intro tg kt
      refine R100 _ ?_
      refine st102 _ ?_
      show Steps p.tables e below (T102.setTop (mkF m 32 #[vR a1, vI (1 : Int32), vR a3, vI (1 : Int32), vI (4 : Int32), vI (1 : Int32), vI (g 1)] [])) _
      refine XS.iinc X102.here hx rfl (hb hby d6_32) rfl (l' := #[vR a1, vI ((1 : Int32) + (1 : Int32)), vR a3, vI (1 : Int32), vI (4 : Int32), vI (1 : Int32), vI (g 1)]) rfl ?_
      show Steps p.tables e below (T102.setTop (mkF m 35 #[vR a1, vI ((1 : Int32) + (1 : Int32)), vR a3, vI (1 : Int32), vI (4 : Int32), vI (1 : Int32), vI (g 1)] [])) _
      refine XS.iinc X102.here hx rfl (hb hby d6_35) rfl (l' := #[vR a1, vI ((1 : Int32) + (1 : Int32)), vR a3, vI ((1 : Int32) + (1 : Int32)), vI (4 : Int32), vI (1 : Int32), vI (g 1)]) rfl ?_
      show Steps p.tables e below (T102.setTop (mkF m 38 #[vR a1, vI ((1 : Int32) + (1 : Int32)), vR a3, vI ((1 : Int32) + (1 : Int32)), vI (4 : Int32), vI (1 : Int32), vI (g 1)] [])) _
      refine XS.iinc X102.here hx rfl (hb hby d6_38) rfl (l' := #[vR a1, vI ((1 : Int32) + (1 : Int32)), vR a3, vI ((1 : Int32) + (1 : Int32)), vI (4 : Int32), vI ((1 : Int32) + (1 : Int32)), vI (g 1)]) rfl ?_
      show Steps p.tables e below (T102.setTop (mkF m 41 #[vR a1, vI ((1 : Int32) + (1 : Int32)), vR a3, vI ((1 : Int32) + (1 : Int32)), vI (4 : Int32), vI ((1 : Int32) + (1 : Int32)), vI (g 1)] [])) _
      refine XS.goto X102.here hx rfl (pc0 := 41) (pc' := 3) rfl (hb hby d6_41) (by decide) (by decide) ?_
      exact kt
    clear R100 st102
    have R104 : ∀ tg, Steps p.tables e below (T102.setTop (mkF m 3 #[vR a1, vI (2 : Int32), vR a3, vI (2 : Int32), vI (4 : Int32), vI (2 : Int32), vI (g 1)] [])) tg → Steps p.tables e below (s₁.setTop (mkF m 0 #[vR a1, vI p2, vR a3, vI p4, vI p5, .unset, .unset] [])) tg := R103
    have R105 : ∀ tg, Steps p.tables e below (T102.setTop (mkF m 12 #[vR a1, vI (2 : Int32), vR a3, vI (2 : Int32), vI (4 : Int32), vI (2 : Int32), vI (g 1)] [(.int (2 : Int32)), (.ref a1)])) tg → Steps p.tables e below (s₁.setTop (mkF m 0 #[vR a1, vI p2, vR a3, vI p4, vI p5, .unset, .unset] [])) tg := by
      intro tg kt
      refine R104 _ ?_
      show Steps p.tables e below (T102.setTop (mkF m 3 #[vR a1, vI (2 : Int32), vR a3, vI (2 : Int32), vI (4 : Int32), vI (2 : Int32), vI (g 1)] [])) _
      refine XS.iload X102.here hx rfl (hb hby d6_3) rfl ?_
      refine XS.iload X102.here hx rfl (hb hby d6_5) rfl ?_
      show Steps p.tables e below (T102.setTop (mkF m 7 #[vR a1, vI (2 : Int32), vR a3, vI (2 : Int32), vI (4 : Int32), vI (2 : Int32), vI (g 1)] [(.int (4 : Int32)), (.int (2 : Int32))])) _
      refine XS.icmpNo X102.here hx rfl (hb hby d6_7) rfl (tlt (by decide : (2 : Int32) < (4 : Int32))).2.1 ?_
      refine XS.aloadN X102.here hx rfl (hb hby d6_10) rfl rfl ?_
      refine XS.iloadN X102.here hx rfl (hb hby d6_11) rfl ?_
      exact kt
    clear R104
    obtain ⟨cl106, Ar106, hin106, hat106⟩ := VC_102.at (j := (2 : Int32)) (k := 2) (by decide) rfl (by decide)
    have R107 : ∀ tg, Steps p.tables e below (T102.setTop (mkF m 31 #[vR a1, vI (2 : Int32), vR a3, vI (2 : Int32), vI (4 : Int32), vI (2 : Int32), vI (g 2)] [(.int ((g 2).toInt8.toInt32)), (.int (2 : Int32)), (.ref a3)])) tg → Steps p.tables e below (s₁.setTop (mkF m 0 #[vR a1, vI p2, vR a3, vI p4, vI p5, .unset, .unset] [])) tg := by
      intro tg kt
      refine R105 _ ?_
      show Steps p.tables e below (T102.setTop (mkF m 12 #[vR a1, vI (2 : Int32), vR a3, vI (2 : Int32), vI (4 : Int32), vI (2 : Int32), vI (g 1)] [(.int (2 : Int32)), (.ref a1)])) _
      refine X102.caload hx (j := (2 : Int32)) (v := (.int (g 2))) (by rw [e102]; exact Ar106.1) (State.isArrayOf_alike hZ.alike Ar106.2.1) Ar106.2.2 hin106 hat106 (g := (mkF m 12 #[vR a1, vI (2 : Int32), vR a3, vI (2 : Int32), vI (4 : Int32), vI (2 : Int32), vI (g 1)] [(.int (2 : Int32)), (.ref a1)])) rfl rfl (hb hby d6_12) _ ?_
      show Steps p.tables e below (T102.setTop (mkF m 13 #[vR a1, vI (2 : Int32), vR a3, vI (2 : Int32), vI (4 : Int32), vI (2 : Int32), vI (g 1)] [(.int (g 2))])) _
      refine XS.istore X102.here hx rfl (hb hby d6_13) rfl (l' := #[vR a1, vI (2 : Int32), vR a3, vI (2 : Int32), vI (4 : Int32), vI (2 : Int32), vI (g 2)]) rfl ?_
      refine XS.iload X102.here hx rfl (hb hby d6_15) rfl ?_
      refine XS.sipush X102.here hx rfl (hb hby d6_17) ?_
      show Steps p.tables e below (T102.setTop (mkF m 20 #[vR a1, vI (2 : Int32), vR a3, vI (2 : Int32), vI (4 : Int32), vI (2 : Int32), vI (g 2)] [(.int (255 : Int32)), (.int (g 2))])) _
      refine XS.icmpYes X102.here hx rfl (pc0 := 20) (pc' := 26) rfl (hb hby d6_20) rfl (flt (hle 2 : ¬ ((255 : Int32) < (g 2)))).2.2.2 (by decide) (by decide) ?_
      refine XS.aloadN X102.here hx rfl (hb hby d6_26) rfl rfl ?_
      refine XS.iloadN X102.here hx rfl (hb hby d6_27) rfl ?_
      show Steps p.tables e below (T102.setTop (mkF m 28 #[vR a1, vI (2 : Int32), vR a3, vI (2 : Int32), vI (4 : Int32), vI (2 : Int32), vI (g 2)] [(.int (2 : Int32)), (.ref a3)])) _
      refine XS.iload X102.here hx rfl (hb hby d6_28) rfl ?_
      show Steps p.tables e below (T102.setTop (mkF m 30 #[vR a1, vI (2 : Int32), vR a3, vI (2 : Int32), vI (4 : Int32), vI (2 : Int32), vI (g 2)] [(.int (g 2)), (.int (2 : Int32)), (.ref a3)])) _
      refine XS.i2b X102.here hx rfl (hb hby d6_30) rfl ?_
      exact kt
    clear R105
    obtain ⟨cl108, Ar108, hin108, -⟩ := VB_102.at (j := (2 : Int32)) (k := 2) (by decide) rfl (by decide)
    obtain ⟨T109, h109, X109, e109, W109, st109⟩ := stB X102 hx hZ e102 Ar108 (j := (2 : Int32)) hin108 (g := (mkF m 31 #[vR a1, vI (2 : Int32), vR a3, vI (2 : Int32), vI (4 : Int32), vI (2 : Int32), vI (g 2)] [(.int ((g 2).toInt8.toInt32)), (.int (2 : Int32)), (.ref a3)])) rfl rfl (hb hby d6_31)
    have N109 := Fr.snoc X109 N102 gb
    rw [show ((2 : Int32) : Int32).toNatClampNeg = 2 from rfl] at W109
    have VB_109 := VB_102.set W109 (fits_nar_byte _)
    have VC_109 := VC_102.other W109 ne13
    clear VC_102
    have Zs109 : n0 ≤ h109.size := Nat.le_trans Zs102 (Keep.of_wr W109).1
    have Kw109 : Keep h0 h109 [a3] := Keep.wr Kw102 W109 (Or.inl (List.mem_of_getElem? (i := 0) rfl))
    have R110 : ∀ tg, Steps p.tables e below (T109.setTop (mkF m 3 #[vR a1, vI ((2 : Int32) + (1 : Int32)), vR a3, vI ((2 : Int32) + (1 : Int32)), vI (4 : Int32), vI ((2 : Int32) + (1 : Int32)), vI (g 2)] [])) tg → Steps p.tables e below (s₁.setTop (mkF m 0 #[vR a1, vI p2, vR a3, vI p4, vI p5, .unset, .unset] [])) tg := by
      intro tg kt
      refine R107 _ ?_
      refine st109 _ ?_
      show Steps p.tables e below (T109.setTop (mkF m 32 #[vR a1, vI (2 : Int32), vR a3, vI (2 : Int32), vI (4 : Int32), vI (2 : Int32), vI (g 2)] [])) _
      refine XS.iinc X109.here hx rfl (hb hby d6_32) rfl (l' := #[vR a1, vI ((2 : Int32) + (1 : Int32)), vR a3, vI (2 : Int32), vI (4 : Int32), vI (2 : Int32), vI (g 2)]) rfl ?_
      show Steps p.tables e below (T109.setTop (mkF m 35 #[vR a1, vI ((2 : Int32) + (1 : Int32)), vR a3, vI (2 : Int32), vI (4 : Int32), vI (2 : Int32), vI (g 2)] [])) _
      refine XS.iinc X109.here hx rfl (hb hby d6_35) rfl (l' := #[vR a1, vI ((2 : Int32) + (1 : Int32)), vR a3, vI ((2 : Int32) + (1 : Int32)), vI (4 : Int32), vI (2 : Int32), vI (g 2)]) rfl ?_
      show Steps p.tables e below (T109.setTop (mkF m 38 #[vR a1, vI ((2 : Int32) + (1 : Int32)), vR a3, vI ((2 : Int32) + (1 : Int32)), vI (4 : Int32), vI (2 : Int32), vI (g 2)] [])) _
      refine XS.iinc X109.here hx rfl (hb hby d6_38) rfl (l' := #[vR a1, vI ((2 : Int32) + (1 : Int32)), vR a3, vI ((2 : Int32) + (1 : Int32)), vI (4 : Int32), vI ((2 : Int32) + (1 : Int32)), vI (g 2)]) rfl ?_
      show Steps p.tables e below (T109.setTop (mkF m 41 #[vR a1, vI ((2 : Int32) + (1 : Int32)), vR a3, vI ((2 : Int32) + (1 : Int32)), vI (4 : Int32), vI ((2 : Int32) + (1 : Int32)), vI (g 2)] [])) _
      refine XS.goto X109.here hx rfl (pc0 := 41) (pc' := 3) rfl (hb hby d6_41) (by decide) (by decide) ?_
      exact kt
    clear R107 st109
    have R111 : ∀ tg, Steps p.tables e below (T109.setTop (mkF m 3 #[vR a1, vI (3 : Int32), vR a3, vI (3 : Int32), vI (4 : Int32), vI (3 : Int32), vI (g 2)] [])) tg → Steps p.tables e below (s₁.setTop (mkF m 0 #[vR a1, vI p2, vR a3, vI p4, vI p5, .unset, .unset] [])) tg := R110
    have R112 : ∀ tg, Steps p.tables e below (T109.setTop (mkF m 12 #[vR a1, vI (3 : Int32), vR a3, vI (3 : Int32), vI (4 : Int32), vI (3 : Int32), vI (g 2)] [(.int (3 : Int32)), (.ref a1)])) tg → Steps p.tables e below (s₁.setTop (mkF m 0 #[vR a1, vI p2, vR a3, vI p4, vI p5, .unset, .unset] [])) tg := by
      intro tg kt
      refine R111 _ ?_
      show Steps p.tables e below (T109.setTop (mkF m 3 #[vR a1, vI (3 : Int32), vR a3, vI (3 : Int32), vI (4 : Int32), vI (3 : Int32), vI (g 2)] [])) _
      refine XS.iload X109.here hx rfl (hb hby d6_3) rfl ?_
      refine XS.iload X109.here hx rfl (hb hby d6_5) rfl ?_
      show Steps p.tables e below (T109.setTop (mkF m 7 #[vR a1, vI (3 : Int32), vR a3, vI (3 : Int32), vI (4 : Int32), vI (3 : Int32), vI (g 2)] [(.int (4 : Int32)), (.int (3 : Int32))])) _
      refine XS.icmpNo X109.here hx rfl (hb hby d6_7) rfl (tlt (by decide : (3 : Int32) < (4 : Int32))).2.1 ?_
      refine XS.aloadN X109.here hx rfl (hb hby d6_10) rfl rfl ?_
      refine XS.iloadN X109.here hx rfl (hb hby d6_11) rfl ?_
      exact kt
    clear R111
    obtain ⟨cl113, Ar113, hin113, hat113⟩ := VC_109.at (j := (3 : Int32)) (k := 3) (by decide) rfl (by decide)
    have R114 : ∀ tg, Steps p.tables e below (T109.setTop (mkF m 31 #[vR a1, vI (3 : Int32), vR a3, vI (3 : Int32), vI (4 : Int32), vI (3 : Int32), vI (g 3)] [(.int ((g 3).toInt8.toInt32)), (.int (3 : Int32)), (.ref a3)])) tg → Steps p.tables e below (s₁.setTop (mkF m 0 #[vR a1, vI p2, vR a3, vI p4, vI p5, .unset, .unset] [])) tg := by
      intro tg kt
      refine R112 _ ?_
      show Steps p.tables e below (T109.setTop (mkF m 12 #[vR a1, vI (3 : Int32), vR a3, vI (3 : Int32), vI (4 : Int32), vI (3 : Int32), vI (g 2)] [(.int (3 : Int32)), (.ref a1)])) _
      refine X109.caload hx (j := (3 : Int32)) (v := (.int (g 3))) (by rw [e109]; exact Ar113.1) (State.isArrayOf_alike hZ.alike Ar113.2.1) Ar113.2.2 hin113 hat113 (g := (mkF m 12 #[vR a1, vI (3 : Int32), vR a3, vI (3 : Int32), vI (4 : Int32), vI (3 : Int32), vI (g 2)] [(.int (3 : Int32)), (.ref a1)])) rfl rfl (hb hby d6_12) _ ?_
      show Steps p.tables e below (T109.setTop (mkF m 13 #[vR a1, vI (3 : Int32), vR a3, vI (3 : Int32), vI (4 : Int32), vI (3 : Int32), vI (g 2)] [(.int (g 3))])) _
      refine XS.istore X109.here hx rfl (hb hby d6_13) rfl (l' := #[vR a1, vI (3 : Int32), vR a3, vI (3 : Int32), vI (4 : Int32), vI (3 : Int32), vI (g 3)]) rfl ?_
      refine XS.iload X109.here hx rfl (hb hby d6_15) rfl ?_
      refine XS.sipush X109.here hx rfl (hb hby d6_17) ?_
      show Steps p.tables e below (T109.setTop (mkF m 20 #[vR a1, vI (3 : Int32), vR a3, vI (3 : Int32), vI (4 : Int32), vI (3 : Int32), vI (g 3)] [(.int (255 : Int32)), (.int (g 3))])) _
      refine XS.icmpYes X109.here hx rfl (pc0 := 20) (pc' := 26) rfl (hb hby d6_20) rfl (flt (hle 3 : ¬ ((255 : Int32) < (g 3)))).2.2.2 (by decide) (by decide) ?_
      refine XS.aloadN X109.here hx rfl (hb hby d6_26) rfl rfl ?_
      refine XS.iloadN X109.here hx rfl (hb hby d6_27) rfl ?_
      show Steps p.tables e below (T109.setTop (mkF m 28 #[vR a1, vI (3 : Int32), vR a3, vI (3 : Int32), vI (4 : Int32), vI (3 : Int32), vI (g 3)] [(.int (3 : Int32)), (.ref a3)])) _
      refine XS.iload X109.here hx rfl (hb hby d6_28) rfl ?_
      show Steps p.tables e below (T109.setTop (mkF m 30 #[vR a1, vI (3 : Int32), vR a3, vI (3 : Int32), vI (4 : Int32), vI (3 : Int32), vI (g 3)] [(.int (g 3)), (.int (3 : Int32)), (.ref a3)])) _
      refine XS.i2b X109.here hx rfl (hb hby d6_30) rfl ?_
      exact kt
    clear R112
    obtain ⟨cl115, Ar115, hin115, -⟩ := VB_109.at (j := (3 : Int32)) (k := 3) (by decide) rfl (by decide)
    obtain ⟨T116, h116, X116, e116, W116, st116⟩ := stB X109 hx hZ e109 Ar115 (j := (3 : Int32)) hin115 (g := (mkF m 31 #[vR a1, vI (3 : Int32), vR a3, vI (3 : Int32), vI (4 : Int32), vI (3 : Int32), vI (g 3)] [(.int ((g 3).toInt8.toInt32)), (.int (3 : Int32)), (.ref a3)])) rfl rfl (hb hby d6_31)
    have N116 := Fr.snoc X116 N109 gb
    rw [show ((3 : Int32) : Int32).toNatClampNeg = 3 from rfl] at W116
    have VB_116 := VB_109.set W116 (fits_nar_byte _)
    have VC_116 := VC_109.other W116 ne13
    clear VC_109
    have Zs116 : n0 ≤ h116.size := Nat.le_trans Zs109 (Keep.of_wr W116).1
    have Kw116 : Keep h0 h116 [a3] := Keep.wr Kw109 W116 (Or.inl (List.mem_of_getElem? (i := 0) rfl))
    have R117 : ∀ tg, Steps p.tables e below (T116.setTop (mkF m 3 #[vR a1, vI ((3 : Int32) + (1 : Int32)), vR a3, vI ((3 : Int32) + (1 : Int32)), vI (4 : Int32), vI ((3 : Int32) + (1 : Int32)), vI (g 3)] [])) tg → Steps p.tables e below (s₁.setTop (mkF m 0 #[vR a1, vI p2, vR a3, vI p4, vI p5, .unset, .unset] [])) tg := by
      intro tg kt
      refine R114 _ ?_
      refine st116 _ ?_
      show Steps p.tables e below (T116.setTop (mkF m 32 #[vR a1, vI (3 : Int32), vR a3, vI (3 : Int32), vI (4 : Int32), vI (3 : Int32), vI (g 3)] [])) _
      refine XS.iinc X116.here hx rfl (hb hby d6_32) rfl (l' := #[vR a1, vI ((3 : Int32) + (1 : Int32)), vR a3, vI (3 : Int32), vI (4 : Int32), vI (3 : Int32), vI (g 3)]) rfl ?_
      show Steps p.tables e below (T116.setTop (mkF m 35 #[vR a1, vI ((3 : Int32) + (1 : Int32)), vR a3, vI (3 : Int32), vI (4 : Int32), vI (3 : Int32), vI (g 3)] [])) _
      refine XS.iinc X116.here hx rfl (hb hby d6_35) rfl (l' := #[vR a1, vI ((3 : Int32) + (1 : Int32)), vR a3, vI ((3 : Int32) + (1 : Int32)), vI (4 : Int32), vI (3 : Int32), vI (g 3)]) rfl ?_
      show Steps p.tables e below (T116.setTop (mkF m 38 #[vR a1, vI ((3 : Int32) + (1 : Int32)), vR a3, vI ((3 : Int32) + (1 : Int32)), vI (4 : Int32), vI (3 : Int32), vI (g 3)] [])) _
      refine XS.iinc X116.here hx rfl (hb hby d6_38) rfl (l' := #[vR a1, vI ((3 : Int32) + (1 : Int32)), vR a3, vI ((3 : Int32) + (1 : Int32)), vI (4 : Int32), vI ((3 : Int32) + (1 : Int32)), vI (g 3)]) rfl ?_
      show Steps p.tables e below (T116.setTop (mkF m 41 #[vR a1, vI ((3 : Int32) + (1 : Int32)), vR a3, vI ((3 : Int32) + (1 : Int32)), vI (4 : Int32), vI ((3 : Int32) + (1 : Int32)), vI (g 3)] [])) _
      refine XS.goto X116.here hx rfl (pc0 := 41) (pc' := 3) rfl (hb hby d6_41) (by decide) (by decide) ?_
      exact kt
    clear R114 st116
    have R118 : ∀ tg, Steps p.tables e below (T116.setTop (mkF m 3 #[vR a1, vI (4 : Int32), vR a3, vI (4 : Int32), vI (4 : Int32), vI (4 : Int32), vI (g 3)] [])) tg → Steps p.tables e below (s₁.setTop (mkF m 0 #[vR a1, vI p2, vR a3, vI p4, vI p5, .unset, .unset] [])) tg := R117
    have R119 : ∀ tg, Steps p.tables e below (T116.setTop (mkF m 46 #[vR a1, vI (4 : Int32), vR a3, vI (4 : Int32), vI (4 : Int32), vI (4 : Int32), vI (g 3)] [(.int (4 : Int32))])) tg → Steps p.tables e below (s₁.setTop (mkF m 0 #[vR a1, vI p2, vR a3, vI p4, vI p5, .unset, .unset] [])) tg := by
      intro tg kt
      refine R118 _ ?_
      show Steps p.tables e below (T116.setTop (mkF m 3 #[vR a1, vI (4 : Int32), vR a3, vI (4 : Int32), vI (4 : Int32), vI (4 : Int32), vI (g 3)] [])) _
      refine XS.iload X116.here hx rfl (hb hby d6_3) rfl ?_
      refine XS.iload X116.here hx rfl (hb hby d6_5) rfl ?_
      show Steps p.tables e below (T116.setTop (mkF m 7 #[vR a1, vI (4 : Int32), vR a3, vI (4 : Int32), vI (4 : Int32), vI (4 : Int32), vI (g 3)] [(.int (4 : Int32)), (.int (4 : Int32))])) _
      refine XS.icmpYes X116.here hx rfl (pc0 := 7) (pc' := 44) rfl (hb hby d6_7) rfl (flt (by decide : ¬ ((4 : Int32) < (4 : Int32)))).2.1 (by decide) (by decide) ?_
      refine XS.iload X116.here hx rfl (hb hby d6_44) rfl ?_
      exact kt
    clear R118
    have VBz : AV Z h116 a3 .byte 4 (fun j => .int ((fun j => own_bv (g j)) j)) := AV.congr VB_116 (own_st4 g _)
    obtain ⟨fs, hr, hrun, hended, hW, hsame⟩ := X116.leave (v := some (.int (4 : Int32))) (fun h => by rw [Bd.returns] at h; cases h)
    refine ⟨_, _, pre0 _ (R119 _ ?_), hrun, hended, _, _, rfl, ?_, ⟨_, rfl⟩, hW, hsame.mono (by decide) (by decide)⟩
    · exact retI X116 hx Bd.returns (hb hby d6_46) hr
    · show Q_rm_cm5 Z a1 p2 a3 p4 p5 n g h0 n0 _ T116.heap _
      rw [e116]
      exact ⟨by rw [hp5], N116, Kw116, by rw [hn]; exact VBz⟩
theorem d5_0 : decode jdk_52_method_16_code 0 = .ok (.iload_n 2, 1) := by decide +kernel
theorem d5_1 : decode jdk_52_method_16_code 1 = .ok (.newarray .byte, 2) := by decide +kernel
theorem d5_3 : decode jdk_52_method_16_code 3 = .ok (.astore_n 3, 1) := by decide +kernel
theorem d5_4 : decode jdk_52_method_16_code 4 = .ok (.aload_n 0, 1) := by decide +kernel
theorem d5_5 : decode jdk_52_method_16_code 5 = .ok (.iload_n 1, 1) := by decide +kernel
theorem d5_6 : decode jdk_52_method_16_code 6 = .ok (.aload_n 3, 1) := by decide +kernel
theorem d5_7 : decode jdk_52_method_16_code 7 = .ok (.iconst 0, 1) := by decide +kernel
theorem d5_8 : decode jdk_52_method_16_code 8 = .ok (.iload_n 2, 1) := by decide +kernel
theorem pd_4 : parseMethodDescriptor "([CI[BII)I" = some ⟨[(.array .char), .int, (.array .byte), .int, .int], some .int⟩ := by decide +kernel
theorem d5_9 : decode jdk_52_method_16_code 9 = .ok (.invokestatic 115, 3) := by decide +kernel
theorem d5_12 : decode jdk_52_method_16_code 12 = .ok (.istore 4, 2) := by decide +kernel
theorem d5_14 : decode jdk_52_method_16_code 14 = .ok (.iload 4, 2) := by decide +kernel
theorem d5_16 : decode jdk_52_method_16_code 16 = .ok (.iload_n 2, 1) := by decide +kernel
theorem d5_17 : decode jdk_52_method_16_code 17 = .ok (.if_icmp .eq 40, 3) := by decide +kernel
theorem d5_57 : decode jdk_52_method_16_code 57 = .ok (.aload_n 3, 1) := by decide +kernel
theorem d5_58 : decode jdk_52_method_16_code 58 = .ok (.areturn, 1) := by decide +kernel
theorem ef_rm_cm3 (m : MethodId) (a1 : Addr) (p2 : Int32) (p3 : Int32) : entryFrame m #[(.ref a1), (.int p2), (.int p3)] 6 = mkF m 0 #[vR a1, vI p2, vI p3, .unset, .unset, .unset] [] := by first | (simp [entryFrame, mkF, argsToLocals, Value.category]; done) | rfl
def Q_rm_cm3 (Z : State) (a1 : Addr) (p2 : Int32) (p3 : Int32) (n : Nat) (g : Nat → Int32) (h0 : Heap) (n0 : Nat) (v : Option Value) (h : Heap) (L : List Loc) : Prop := ∃ t : Addr, v = some (.ref t) ∧ Fr n0 L ∧ h0.size ≤ t ∧ Keep h0 h [] ∧ AV Z h t .byte n (fun j => .int ((fun j => own_bv (g j)) j))
set_option maxRecDepth 65536 in
set_option maxHeartbeats 40000000 in
theorem rm_cm3 (l : Launch) (Z : State) (a0 : Array Value) (hw : ∀ d ∈ tables_1, d.before a0 Z = true) (ws : List Jvm.Cond) (a1 : Addr) (p2 : Int32) (p3 : Int32) (n : Nat) (g : Nat → Int32) (h0 : Heap) (n0 : Nat) (Z0 : n0 ≤ h0.size) (hn : n = 1 ∨ n = 2 ∨ n = 3 ∨ n = 4) (VC : AV Z h0 a1 .char n (fun j => .int (g j))) (hp2 : p2 = (0 : Int32)) (hp3 : p3 = (n : Nat).toInt32) (hle : ∀ j, ¬ (255 : Int32) < g j) :
    MetFree l (⟨"java/lang/StringUTF16", "compress", "([CII)[B"⟩ : MethodName) (head1 (Jvm.Cond.code (⟨"java/lang/StringUTF16", "compress", "([CII)[B"⟩ : MethodName) jdk_52_method_16_code 6 (some (.array .byte)) :: ws) ({ frames := 1, cells := 1, slots := 4, locals := 18 } : Room)) (fun a U => a = #[(.ref a1), (.int p2), (.int p3)] ∧ Z.Warmed39 U.vm ∧ U.heap = h0) (fun _ _ _ _ _ => True) (fun _ U oC U' => ∃ v L, oC = .returned v ∧ Q_rm_cm3 Z a1 p2 p3 n g h0 n0 v U'.heap L ∧ FrameEnd U oC U' L ({ frames := 1, cells := 1, slots := 4, locals := 18 } : Room).cells ({ frames := 1, cells := 1, slots := 4, locals := 18 } : Room).slots) := by
  refine MetFree.of_bodySF (plainFor_of_name pn_4) hisR ?_
  intro p e s m args below meth c s₁ Bd hml0 hP hK
  obtain ⟨rfl, hZ, hh⟩ := hP
  have hx := Bd.exec
  have hby := Bd.bytes
  have hml : c.maxLocals = 6 := hml0
  have hown : s.vm.findClass "java/lang/StringUTF16" = some m.cls := findClass_of_methodNamed Bd.named
  have hnm := (name_of_methodNamed Bd.named Bd.method).1
  have X0 : Stand p l e ({ frames := 1, cells := 1, slots := 4, locals := 18 } : Room) s m #[(.ref a1), (.int p2), (.int p3)] below meth c s₁ [] 0 0 := Stand.of_body Bd
  have e0 : s₁.heap = h0 := by rw [← hh, Bd.state]; rfl
  have N0 := Fr.nil n0
  have pre0 : ∀ tg, Steps p.tables e below (s₁.setTop (mkF m 0 #[vR a1, vI p2, vI p3, .unset, .unset, .unset] [])) tg → Steps p.tables e below (s₁.setTop (entryFrame m #[(.ref a1), (.int p2), (.int p3)] 6)) tg := fun t k => castTop (ef_rm_cm3 m a1 p2 p3) k
  have pre00 : ∀ tg, Steps p.tables e below (s₁.setTop (mkF m 0 #[vR a1, vI p2, vI p3, .unset, .unset, .unset] [])) tg → Steps p.tables e below (s₁.setTop (mkF m 0 #[vR a1, vI p2, vI p3, .unset, .unset, .unset] [])) tg := fun _ k => k
  obtain ⟨nn0, nnk, nn4, npos, nz⟩ := own_nn hn
  have R120 : ∀ tg, Steps p.tables e below (s₁.setTop (mkF m 0 #[vR a1, vI (0 : Int32), vI (n : Nat).toInt32, .unset, .unset, .unset] [])) tg → Steps p.tables e below (s₁.setTop (mkF m 0 #[vR a1, vI p2, vI p3, .unset, .unset, .unset] [])) tg := by intro tg kt; refine pre00 tg ?_; rw [hp2, hp3]; exact kt
  have R121 : ∀ tg, Steps p.tables e below (s₁.setTop (mkF m 1 #[vR a1, vI (0 : Int32), vI (n : Nat).toInt32, .unset, .unset, .unset] [(.int (n : Nat).toInt32)])) tg → Steps p.tables e below (s₁.setTop (mkF m 0 #[vR a1, vI p2, vI p3, .unset, .unset, .unset] [])) tg := by
    intro tg kt
    refine R120 _ ?_
    show Steps p.tables e below (s₁.setTop (mkF m 0 #[vR a1, vI (0 : Int32), vI (n : Nat).toInt32, .unset, .unset, .unset] [])) _
    refine XS.iloadN X0.here hx rfl (hb hby d5_0) rfl ?_
    exact kt
  clear R120
  obtain ⟨T122, h122, k122, X122, e122, E122, A122, st122⟩ := newP X0 hx hZ (hw _ (List.mem_of_getElem? (i := 24) rfl)) e0 (g := (mkF m 1 #[vR a1, vI (0 : Int32), vI (n : Nat).toInt32, .unset, .unset, .unset] [(.int (n : Nat).toInt32)])) rfl (hb hby d5_1) rfl nn0 (cap := 4) (by rw [nnk]; exact nn4) (by decide) (by decide) (by decide)
  obtain ⟨t, g122⟩ : ∃ z, z = h0.size := ⟨_, rfl⟩
  rw [← g122] at A122 st122
  have g_t : n0 ≤ t := Nat.le_trans Z0 (Nat.le_of_eq g122.symm)
  have sz_t : h0.size ≤ t := Nat.le_trans (Keep.refl h0 []).1 (Nat.le_of_eq g122.symm)
  have ne_a1_t : a1 ≠ t := Nat.ne_of_lt (Nat.lt_of_lt_of_le VC.lt (Nat.le_of_eq g122.symm))
  have VC_122 := VC.ext E122
  have Zs122 : n0 ≤ h122.size := Nat.le_trans Z0 E122.1
  have Ke122 : Keep h0 h122 [] := Keep.ext (Keep.refl h0 []) E122
  have VB : AV Z h122 t .byte n (fun _ => defaultValue .byte) := AV.new A122 nnk rfl
  have R123 : ∀ tg, Steps p.tables e below (T122.setTop (mkF m 9 #[vR a1, vI (0 : Int32), vI (n : Nat).toInt32, vR t, .unset, .unset] [(.int (n : Nat).toInt32), (.int (0 : Int32)), (.ref t), (.int (0 : Int32)), (.ref a1)])) tg → Steps p.tables e below (s₁.setTop (mkF m 0 #[vR a1, vI p2, vI p3, .unset, .unset, .unset] [])) tg := by
    intro tg kt
    refine R121 _ ?_
    refine st122 _ ?_
    show Steps p.tables e below (T122.setTop (mkF m 3 #[vR a1, vI (0 : Int32), vI (n : Nat).toInt32, .unset, .unset, .unset] [(.ref t)])) _
    refine XS.astoreN X122.here hx rfl (hb hby d5_3) rfl rfl (l' := #[vR a1, vI (0 : Int32), vI (n : Nat).toInt32, vR t, .unset, .unset]) rfl ?_
    refine XS.aloadN X122.here hx rfl (hb hby d5_4) rfl rfl ?_
    refine XS.iloadN X122.here hx rfl (hb hby d5_5) rfl ?_
    show Steps p.tables e below (T122.setTop (mkF m 6 #[vR a1, vI (0 : Int32), vI (n : Nat).toInt32, vR t, .unset, .unset] [(.int (0 : Int32)), (.ref a1)])) _
    refine XS.aloadN X122.here hx rfl (hb hby d5_6) rfl rfl ?_
    refine XS.iconst X122.here hx rfl (hb hby d5_7) ?_
    refine XS.iloadN X122.here hx rfl (hb hby d5_8) rfl ?_
    exact kt
  clear R121 st122
  obtain ⟨_, _, ⟨T124, L124, k124, n124⟩, -, X124, ⟨Lc124, hQ124, l124, y124, z124⟩, st124⟩ := Jvm.LawKit.callS X122 hx (y := (⟨"java/lang/StringUTF16", "compress", "([CI[BII)I"⟩ : MethodName)) hown (mvT hZ (hw _ (List.mem_of_getElem? (i := 25) rfl))) (mvT hZ (hw _ (List.mem_of_getElem? (i := 26) rfl))) (mvT hZ (hw _ (List.mem_of_getElem? (i := 22) rfl))) (mvT hZ (hw _ (List.mem_of_getElem? (i := 27) rfl))) (by decide) (backOf (W := 0) (rm_cm5 l Z a0 hw [] a1 (0 : Int32) t (0 : Int32) (n : Nat).toInt32 n g h122 n0 Zs122 hn VC_122 VB rfl rfl rfl hle g_t ne_a1_t) hZ (hw _ (List.mem_of_getElem? (i := 27) rfl)) (hw _ (List.mem_of_getElem? (i := 22) rfl)) (by decide) (by decide)) (g := (mkF m 9 #[vR a1, vI (0 : Int32), vI (n : Nat).toInt32, vR t, .unset, .unset] [(.int (n : Nat).toInt32), (.int (0 : Int32)), (.ref t), (.int (0 : Int32)), (.ref a1)])) rfl (by rw [hml]; rfl) (argsL := [(.ref a1), (.int (0 : Int32)), (.ref t), (.int (0 : Int32)), (.int (n : Nat).toInt32)]) (rest := []) (lenOf pd_4 rfl) rfl (by show 2 * 0 + _ ≤ _; exact Nat.le_of_eq rfl) (hb hby d5_9) (fun _ _ => ⟨rfl, e122, (by decide : 1 + 0 ≤ _), (by decide : 4 + 0 ≤ _)⟩)
  dsimp only [Pt.U, Pt.locs, Pt.cells, Pt.slots] at X124 l124 y124 z124 st124 hQ124
  rw [l124, y124, z124] at X124
  obtain ⟨rfl, N124q, K124, V124⟩ := hQ124
  have N124 := Fr.app N0 N124q
  have VC_125 := VC_122.keep K124 (own_notin1 ne_a1_t)
  clear VC_122
  have Zs125 : n0 ≤ T124.heap.size := Nat.le_trans Zs122 K124.1
  have Kk125 : Keep h0 T124.heap [] := Keep.trans Ke122 K124 (own_trans1 (Or.inr sz_t))
  have R126 : ∀ tg, Steps p.tables e below (T124.setTop (mkF m 58 #[vR a1, vI (0 : Int32), vI (n : Nat).toInt32, vR t, vI (n : Nat).toInt32, .unset] [(.ref t)])) tg → Steps p.tables e below (s₁.setTop (mkF m 0 #[vR a1, vI p2, vI p3, .unset, .unset, .unset] [])) tg := by
    intro tg kt
    refine R123 _ ?_
    refine st124 _ ?_
    show Steps p.tables e below (T124.setTop (mkF m 12 #[vR a1, vI (0 : Int32), vI (n : Nat).toInt32, vR t, .unset, .unset] [(.int (n : Nat).toInt32)])) _
    refine XS.istore X124.here hx rfl (hb hby d5_12) rfl (l' := #[vR a1, vI (0 : Int32), vI (n : Nat).toInt32, vR t, vI (n : Nat).toInt32, .unset]) rfl ?_
    refine XS.iload X124.here hx rfl (hb hby d5_14) rfl ?_
    refine XS.iloadN X124.here hx rfl (hb hby d5_16) rfl ?_
    show Steps p.tables e below (T124.setTop (mkF m 17 #[vR a1, vI (0 : Int32), vI (n : Nat).toInt32, vR t, vI (n : Nat).toInt32, .unset] [(.int (n : Nat).toInt32), (.int (n : Nat).toInt32)])) _
    refine XS.icmpYes X124.here hx rfl (pc0 := 17) (pc' := 57) rfl (hb hby d5_17) rfl (teq (rfl : (n : Nat).toInt32 = (n : Nat).toInt32)).1 (by decide) (by decide) ?_
    refine XS.aloadN X124.here hx rfl (hb hby d5_57) rfl rfl ?_
    exact kt
  clear R123 st124
  obtain ⟨fs, hr, hrun, hended, hW, hsame⟩ := X124.leave (v := some (.ref t)) (fun h => by rw [Bd.returns] at h; cases h)
  refine ⟨_, _, pre0 _ (R126 _ ?_), hrun, hended, _, _, rfl, ?_, ⟨_, rfl⟩, hW, hsame.mono (by decide) (by decide)⟩
  · show Steps p.tables e below (T124.setTop (mkF m 58 #[vR a1, vI (0 : Int32), vI (n : Nat).toInt32, vR t, vI (n : Nat).toInt32, .unset] [(.ref t)])) _
    jvm_step X124.here [X124.here.top, hx, (hb hby d5_58), X124.method', Bd.returns, Value.isRef, FieldType.isReference]
    first | (intro acts; rw [hr _ acts rfl rfl rfl]) | rw [hr _ _ rfl rfl rfl]
    exact Steps.refl _
  · show Q_rm_cm3 Z a1 p2 p3 n g h0 n0 _ T124.heap _
    exact ⟨t, rfl, N124, sz_t, Kk125, V124⟩
theorem d7_0 : decode jdk_52_method_15_code 0 = .ok (.iload_n 1, 1) := by decide +kernel
theorem d7_1 : decode jdk_52_method_15_code 1 = .ok (.aload_n 0, 1) := by decide +kernel
theorem d7_2 : decode jdk_52_method_15_code 2 = .ok (.arraylength, 1) := by decide +kernel
theorem d7_3 : decode jdk_52_method_15_code 3 = .ok (.isub, 1) := by decide +kernel
theorem d7_4 : decode jdk_52_method_15_code 4 = .ok (.bipush 31, 2) := by decide +kernel
theorem d7_6 : decode jdk_52_method_15_code 6 = .ok (.iushr, 1) := by decide +kernel
theorem d7_7 : decode jdk_52_method_15_code 7 = .ok (.i2b, 1) := by decide +kernel
theorem d7_8 : decode jdk_52_method_15_code 8 = .ok (.ireturn, 1) := by decide +kernel
theorem ef_rm_cfa (m : MethodId) (a1 : Addr) (p2 : Int32) : entryFrame m #[(.ref a1), (.int p2)] 2 = mkF m 0 #[vR a1, vI p2] [] := by first | (simp [entryFrame, mkF, argsToLocals, Value.category]; done) | rfl
def Q_rm_cfa (Z : State) (a1 : Addr) (p2 : Int32) (n : Nat) (g : Nat → Int32) (h0 : Heap) (n0 : Nat) (v : Option Value) (h : Heap) (L : List Loc) : Prop := v = some (.int (0 : Int32)) ∧ Fr n0 L ∧ h = h0
set_option maxRecDepth 65536 in
set_option maxHeartbeats 40000000 in
theorem rm_cfa (l : Launch) (Z : State) (a0 : Array Value) (hw : ∀ d ∈ tables_1, d.before a0 Z = true) (ws : List Jvm.Cond) (a1 : Addr) (p2 : Int32) (n : Nat) (g : Nat → Int32) (h0 : Heap) (n0 : Nat) (Z0 : n0 ≤ h0.size) (VA : AV Z h0 a1 .byte n (fun j => .int (g j))) (hp2 : p2 = (n : Nat).toInt32) :
    MetFree l (⟨"java/lang/StringUTF16", "coderFromArrayLen", "([BI)B"⟩ : MethodName) (head1 (Jvm.Cond.code (⟨"java/lang/StringUTF16", "coderFromArrayLen", "([BI)B"⟩ : MethodName) jdk_52_method_15_code 2 (some .byte) :: ws) ({ frames := 0, cells := 0, slots := 0, locals := 0 } : Room)) (fun a U => a = #[(.ref a1), (.int p2)] ∧ Z.Warmed39 U.vm ∧ U.heap = h0) (fun _ _ _ _ _ => True) (fun _ U oC U' => ∃ v L, oC = .returned v ∧ Q_rm_cfa Z a1 p2 n g h0 n0 v U'.heap L ∧ FrameEnd U oC U' L ({ frames := 0, cells := 0, slots := 0, locals := 0 } : Room).cells ({ frames := 0, cells := 0, slots := 0, locals := 0 } : Room).slots) := by
  refine MetFree.of_bodySF (plainFor_of_name pn_4) hisR ?_
  intro p e s m args below meth c s₁ Bd hml0 hP hK
  obtain ⟨rfl, hZ, hh⟩ := hP
  have hx := Bd.exec
  have hby := Bd.bytes
  have hml : c.maxLocals = 2 := hml0
  have hown : s.vm.findClass "java/lang/StringUTF16" = some m.cls := findClass_of_methodNamed Bd.named
  have hnm := (name_of_methodNamed Bd.named Bd.method).1
  have X0 : Stand p l e ({ frames := 0, cells := 0, slots := 0, locals := 0 } : Room) s m #[(.ref a1), (.int p2)] below meth c s₁ [] 0 0 := Stand.of_body Bd
  have e0 : s₁.heap = h0 := by rw [← hh, Bd.state]; rfl
  have N0 := Fr.nil n0
  have pre0 : ∀ tg, Steps p.tables e below (s₁.setTop (mkF m 0 #[vR a1, vI p2] [])) tg → Steps p.tables e below (s₁.setTop (entryFrame m #[(.ref a1), (.int p2)] 2)) tg := fun t k => castTop (ef_rm_cfa m a1 p2) k
  have pre00 : ∀ tg, Steps p.tables e below (s₁.setTop (mkF m 0 #[vR a1, vI p2] [])) tg → Steps p.tables e below (s₁.setTop (mkF m 0 #[vR a1, vI p2] [])) tg := fun _ k => k
  have R127 : ∀ tg, Steps p.tables e below (s₁.setTop (mkF m 0 #[vR a1, vI (n : Nat).toInt32] [])) tg → Steps p.tables e below (s₁.setTop (mkF m 0 #[vR a1, vI p2] [])) tg := by intro tg kt; refine pre00 tg ?_; rw [hp2]; exact kt
  have R128 : ∀ tg, Steps p.tables e below (s₁.setTop (mkF m 2 #[vR a1, vI (n : Nat).toInt32] [(.ref a1), (.int (n : Nat).toInt32)])) tg → Steps p.tables e below (s₁.setTop (mkF m 0 #[vR a1, vI p2] [])) tg := by
    intro tg kt
    refine R127 _ ?_
    show Steps p.tables e below (s₁.setTop (mkF m 0 #[vR a1, vI (n : Nat).toInt32] [])) _
    refine XS.iloadN X0.here hx rfl (hb hby d7_0) rfl ?_
    refine XS.aloadN X0.here hx rfl (hb hby d7_1) rfl rfl ?_
    exact kt
  clear R127
  obtain ⟨cl129, Ar129, ln129⟩ := VA.len
  have R130 : ∀ tg, Steps p.tables e below (s₁.setTop (mkF m 8 #[vR a1, vI (n : Nat).toInt32] [(.int (((((n : Nat).toInt32 - (n : Nat).toInt32).toUInt32 >>> ((31 : Int32) &&& 31).toUInt32).toInt32).toInt8.toInt32))])) tg → Steps p.tables e below (s₁.setTop (mkF m 0 #[vR a1, vI p2] [])) tg := by
    intro tg kt
    refine R128 _ ?_
    show Steps p.tables e below (s₁.setTop (mkF m 2 #[vR a1, vI (n : Nat).toInt32] [(.ref a1), (.int (n : Nat).toInt32)])) _
    refine X0.arraylength hx (by rw [e0]; exact Ar129.1) (State.isArrayOf_alike hZ.alike Ar129.2.1) (g := (mkF m 2 #[vR a1, vI (n : Nat).toInt32] [(.ref a1), (.int (n : Nat).toInt32)])) rfl rfl (hb hby d7_2) _ ?_
    rw [ln129]
    show Steps p.tables e below (s₁.setTop (mkF m 3 #[vR a1, vI (n : Nat).toInt32] [(.int (n : Nat).toInt32), (.int (n : Nat).toInt32)])) _
    refine XS.isub X0.here hx rfl (hb hby d7_3) rfl ?_
    refine XS.bipush X0.here hx rfl (hb hby d7_4) ?_
    show Steps p.tables e below (s₁.setTop (mkF m 6 #[vR a1, vI (n : Nat).toInt32] [(.int (31 : Int32)), (.int ((n : Nat).toInt32 - (n : Nat).toInt32))])) _
    refine XS.iushr X0.here hx rfl (hb hby d7_6) rfl ?_
    show Steps p.tables e below (s₁.setTop (mkF m 7 #[vR a1, vI (n : Nat).toInt32] [(.int ((((n : Nat).toInt32 - (n : Nat).toInt32).toUInt32 >>> ((31 : Int32) &&& 31).toUInt32).toInt32))])) _
    refine XS.i2b X0.here hx rfl (hb hby d7_7) rfl ?_
    exact kt
  clear R128
  have R131 : ∀ tg, Steps p.tables e below (s₁.setTop (mkF m 8 #[vR a1, vI (n : Nat).toInt32] [(.int (0 : Int32))])) tg → Steps p.tables e below (s₁.setTop (mkF m 0 #[vR a1, vI p2] [])) tg := by intro tg kt; refine R130 tg ?_; rw [own_sd]; exact kt
  obtain ⟨fs, hr, hrun, hended, hW, hsame⟩ := X0.leave (v := some (.int (0 : Int32))) (fun h => by rw [Bd.returns] at h; cases h)
  refine ⟨_, _, pre0 _ (R131 _ ?_), hrun, hended, _, _, rfl, ?_, ⟨_, rfl⟩, hW, hsame.mono (by decide) (by decide)⟩
  · exact retN X0 hx (t := .byte) Bd.returns (by simp) (hb hby d7_8) hr
  · show Q_rm_cfa Z a1 p2 n g h0 n0 _ s₁.heap _
    rw [e0]
    exact ⟨rfl, N0, rfl⟩
theorem d3_0 : decode jdk_42_method_149_code 0 = .ok (.aload_n 0, 1) := by decide +kernel
theorem d3_1 : decode jdk_42_method_149_code 1 = .ok (.invokespecial 1, 3) := by decide +kernel
theorem d3_4 : decode jdk_42_method_149_code 4 = .ok (.iload_n 3, 1) := by decide +kernel
theorem d3_5 : decode jdk_42_method_149_code 5 = .ok (.ifCond .ne 22, 3) := by decide +kernel
theorem d3_27 : decode jdk_42_method_149_code 27 = .ok (.getstatic 38, 3) := by decide +kernel
theorem d3_30 : decode jdk_42_method_149_code 30 = .ok (.ifCond .eq 28, 3) := by decide +kernel
theorem d3_33 : decode jdk_42_method_149_code 33 = .ok (.aload_n 1, 1) := by decide +kernel
theorem d3_34 : decode jdk_42_method_149_code 34 = .ok (.iload_n 2, 1) := by decide +kernel
theorem d3_35 : decode jdk_42_method_149_code 35 = .ok (.iload_n 3, 1) := by decide +kernel
theorem pd_5 : parseMethodDescriptor "([CII)[B" = some ⟨[(.array .char), .int, .int], some (.array .byte)⟩ := by decide +kernel
theorem d3_36 : decode jdk_42_method_149_code 36 = .ok (.invokestatic 177, 3) := by decide +kernel
theorem d3_39 : decode jdk_42_method_149_code 39 = .ok (.astore 5, 2) := by decide +kernel
theorem d3_41 : decode jdk_42_method_149_code 41 = .ok (.aload_n 0, 1) := by decide +kernel
theorem d3_42 : decode jdk_42_method_149_code 42 = .ok (.aload 5, 2) := by decide +kernel
theorem d3_44 : decode jdk_42_method_149_code 44 = .ok (.iload_n 3, 1) := by decide +kernel
theorem pd_6 : parseMethodDescriptor "([BI)B" = some ⟨[(.array .byte), .int], some .byte⟩ := by decide +kernel
theorem d3_45 : decode jdk_42_method_149_code 45 = .ok (.invokestatic 47, 3) := by decide +kernel
theorem d3_48 : decode jdk_42_method_149_code 48 = .ok (.putfield 15, 3) := by decide +kernel
theorem d3_51 : decode jdk_42_method_149_code 51 = .ok (.aload_n 0, 1) := by decide +kernel
theorem d3_52 : decode jdk_42_method_149_code 52 = .ok (.aload 5, 2) := by decide +kernel
theorem d3_54 : decode jdk_42_method_149_code 54 = .ok (.putfield 9, 3) := by decide +kernel
theorem d3_57 : decode jdk_42_method_149_code 57 = .ok (.return_, 1) := by decide +kernel
theorem ef_rm_in4 (m : MethodId) (a1 : Addr) (a2 : Addr) (p3 : Int32) (p4 : Int32) : entryFrame m #[(.ref a1), (.ref a2), (.int p3), (.int p4), .null] 6 = mkF m 0 #[vR a1, vR a2, vI p3, vI p4, .val .null, .unset] [] := by first | (simp [entryFrame, mkF, argsToLocals, Value.category]; done) | rfl
def Q_rm_in4 (Z : State) (a1 : Addr) (a2 : Addr) (p3 : Int32) (p4 : Int32) (n : Nat) (g : Nat → Int32) (cs : Int32) (h0 : Heap) (n0 : Nat) (v : Option Value) (h : Heap) (L : List Loc) : Prop := ∃ t : Addr, v = none ∧ Fr n0 L ∧ h0.size ≤ t ∧ Keep h0 h [a1] ∧ Exa Z h a1 "java/lang/String" ∧ Fld Z h a1 "java/lang/String" "coder" "B" (.int (0 : Int32)) ∧ Fld Z h a1 "java/lang/String" "value" "[B" (.ref t) ∧ AV Z h t .byte n (fun j => .int ((fun j => own_bv (g j)) j))
set_option maxRecDepth 65536 in
set_option maxHeartbeats 40000000 in
theorem rm_in4 (l : Launch) (Z : State) (a0 : Array Value) (hw : ∀ d ∈ tables_1, d.before a0 Z = true) (ws : List Jvm.Cond) (a1 : Addr) (a2 : Addr) (p3 : Int32) (p4 : Int32) (n : Nat) (g : Nat → Int32) (cs : Int32) (h0 : Heap) (n0 : Nat) (Z0 : n0 ≤ h0.size) (hn : n = 1 ∨ n = 2 ∨ n = 3 ∨ n = 4) (VC : AV Z h0 a2 .char n (fun j => .int (g j))) (hp3 : p3 = (0 : Int32)) (hp4 : p4 = (n : Nat).toInt32) (hle : ∀ j, ¬ (255 : Int32) < g j) (SC : Sta Z Z.heap "java/lang/String" "COMPACT_STRINGS" "Z" (.int cs)) (OL : Old Z n0 h0) (hcs : ¬ (cs = (0 : Int32))) (ne12 : a1 ≠ a2) (E1 : Exa Z h0 a1 "java/lang/String") (Fv : Fld Z h0 a1 "java/lang/String" "value" "[B" .null) (Fc : Fld Z h0 a1 "java/lang/String" "coder" "B" (.int (0 : Int32))) (ga : n0 ≤ a1) :
    MetFree l (⟨"java/lang/String", "<init>", "([CIILjava/lang/Void;)V"⟩ : MethodName) (head1 (Jvm.Cond.code (⟨"java/lang/String", "<init>", "([CIILjava/lang/Void;)V"⟩ : MethodName) jdk_42_method_149_code 6 none :: ws) ({ frames := 2, cells := 1, slots := 4, locals := 35 } : Room)) (fun a U => a = #[(.ref a1), (.ref a2), (.int p3), (.int p4), .null] ∧ Z.Warmed39 U.vm ∧ U.heap = h0) (fun _ _ _ _ _ => True) (fun _ U oC U' => ∃ v L, oC = .returned v ∧ Q_rm_in4 Z a1 a2 p3 p4 n g cs h0 n0 v U'.heap L ∧ FrameEnd U oC U' L ({ frames := 2, cells := 1, slots := 4, locals := 35 } : Room).cells ({ frames := 2, cells := 1, slots := 4, locals := 35 } : Room).slots) := by
  refine MetFree.of_bodySF (plainFor_of_name pn_0) hisR ?_
  intro p e s m args below meth c s₁ Bd hml0 hP hK
  obtain ⟨rfl, hZ, hh⟩ := hP
  have hx := Bd.exec
  have hby := Bd.bytes
  have hml : c.maxLocals = 6 := hml0
  have hown : s.vm.findClass "java/lang/String" = some m.cls := findClass_of_methodNamed Bd.named
  have hnm := (name_of_methodNamed Bd.named Bd.method).1
  have X0 : Stand p l e ({ frames := 2, cells := 1, slots := 4, locals := 35 } : Room) s m #[(.ref a1), (.ref a2), (.int p3), (.int p4), .null] below meth c s₁ [] 0 0 := Stand.of_body Bd
  have e0 : s₁.heap = h0 := by rw [← hh, Bd.state]; rfl
  have N0 := Fr.nil n0
  have pre0 : ∀ tg, Steps p.tables e below (s₁.setTop (mkF m 0 #[vR a1, vR a2, vI p3, vI p4, .val .null, .unset] [])) tg → Steps p.tables e below (s₁.setTop (entryFrame m #[(.ref a1), (.ref a2), (.int p3), (.int p4), .null] 6)) tg := fun t k => castTop (ef_rm_in4 m a1 a2 p3 p4) k
  have pre00 : ∀ tg, Steps p.tables e below (s₁.setTop (mkF m 0 #[vR a1, vR a2, vI p3, vI p4, .val .null, .unset] [])) tg → Steps p.tables e below (s₁.setTop (mkF m 0 #[vR a1, vR a2, vI p3, vI p4, .val .null, .unset] [])) tg := fun _ k => k
  obtain ⟨nn0, nnk, nn4, npos, nz⟩ := own_nn hn
  have R132 : ∀ tg, Steps p.tables e below (s₁.setTop (mkF m 0 #[vR a1, vR a2, vI (0 : Int32), vI (n : Nat).toInt32, .val .null, .unset] [])) tg → Steps p.tables e below (s₁.setTop (mkF m 0 #[vR a1, vR a2, vI p3, vI p4, .val .null, .unset] [])) tg := by intro tg kt; refine pre00 tg ?_; rw [hp3, hp4]; exact kt
  have R133 : ∀ tg, Steps p.tables e below (s₁.setTop (mkF m 1 #[vR a1, vR a2, vI (0 : Int32), vI (n : Nat).toInt32, .val .null, .unset] [(.ref a1)])) tg → Steps p.tables e below (s₁.setTop (mkF m 0 #[vR a1, vR a2, vI p3, vI p4, .val .null, .unset] [])) tg := by
    intro tg kt
    refine R132 _ ?_
    show Steps p.tables e below (s₁.setTop (mkF m 0 #[vR a1, vR a2, vI (0 : Int32), vI (n : Nat).toInt32, .val .null, .unset] [])) _
    refine XS.aloadN X0.here hx rfl (hb hby d3_0) rfl rfl ?_
    exact kt
  clear R132
  obtain ⟨T134, X134, e134, st134⟩ := initO X0 hx hZ hown (hw _ (List.mem_of_getElem? (i := 16) rfl)) (hw _ (List.mem_of_getElem? (i := 17) rfl)) (hw _ (List.mem_of_getElem? (i := 18) rfl)) e0 (g := (mkF m 1 #[vR a1, vR a2, vI (0 : Int32), vI (n : Nat).toInt32, .val .null, .unset] [(.ref a1)])) rfl (by rw [hml]; rfl) rfl (hb hby d3_1) (by decide) (W := 0) (by show 2 * 0 + _ ≤ _; exact Nat.le_of_eq rfl) (by decide)
  have R135 : ∀ tg, Steps p.tables e below (T134.setTop (mkF m 27 #[vR a1, vR a2, vI (0 : Int32), vI (n : Nat).toInt32, .val .null, .unset] [])) tg → Steps p.tables e below (s₁.setTop (mkF m 0 #[vR a1, vR a2, vI p3, vI p4, .val .null, .unset] [])) tg := by
    intro tg kt
    refine R133 _ ?_
    refine st134 _ ?_
    refine XS.iloadN X134.here hx rfl (hb hby d3_4) rfl ?_
    show Steps p.tables e below (T134.setTop (mkF m 5 #[vR a1, vR a2, vI (0 : Int32), vI (n : Nat).toInt32, .val .null, .unset] [(.int (n : Nat).toInt32)])) _
    refine XS.ifYes X134.here hx rfl (pc0 := 5) (pc' := 27) rfl (hb hby d3_5) rfl ((if0 _ _).trans (feq (nz : ¬ ((n : Nat).toInt32 = (0 : Int32)))).2) (by decide) (by decide) ?_
    exact kt
  clear R133 st134
  obtain ⟨T136, X136, e136, st136⟩ := getS2 X134 hx hZ hown (host := "") (Or.inl (hw _ (List.mem_of_getElem? (i := 19) rfl))) Via.refl e134 (SC.ext OL.2) (g := (mkF m 27 #[vR a1, vR a2, vI (0 : Int32), vI (n : Nat).toInt32, .val .null, .unset] [])) rfl (hb hby d3_27)
  have R137 : ∀ tg, Steps p.tables e below (T136.setTop (mkF m 36 #[vR a1, vR a2, vI (0 : Int32), vI (n : Nat).toInt32, .val .null, .unset] [(.int (n : Nat).toInt32), (.int (0 : Int32)), (.ref a2)])) tg → Steps p.tables e below (s₁.setTop (mkF m 0 #[vR a1, vR a2, vI p3, vI p4, .val .null, .unset] [])) tg := by
    intro tg kt
    refine R135 _ ?_
    refine st136 _ ?_
    show Steps p.tables e below (T136.setTop (mkF m 30 #[vR a1, vR a2, vI (0 : Int32), vI (n : Nat).toInt32, .val .null, .unset] [(.int cs)])) _
    refine XS.ifNo X136.here hx rfl (hb hby d3_30) rfl ((if0 _ _).trans (feq (hcs : ¬ (cs = (0 : Int32)))).1) ?_
    refine XS.aloadN X136.here hx rfl (hb hby d3_33) rfl rfl ?_
    refine XS.iloadN X136.here hx rfl (hb hby d3_34) rfl ?_
    show Steps p.tables e below (T136.setTop (mkF m 35 #[vR a1, vR a2, vI (0 : Int32), vI (n : Nat).toInt32, .val .null, .unset] [(.int (0 : Int32)), (.ref a2)])) _
    refine XS.iloadN X136.here hx rfl (hb hby d3_35) rfl ?_
    exact kt
  clear R135 st136
  obtain ⟨_, _, ⟨T138, L138, k138, n138⟩, -, X138, ⟨Lc138, hQ138, l138, y138, z138⟩, st138⟩ := Jvm.LawKit.callS X136 hx (y := (⟨"java/lang/StringUTF16", "compress", "([CII)[B"⟩ : MethodName)) hown (mvT hZ (hw _ (List.mem_of_getElem? (i := 20) rfl))) (mvT hZ (hw _ (List.mem_of_getElem? (i := 21) rfl))) (mvT hZ (hw _ (List.mem_of_getElem? (i := 22) rfl))) (mvT hZ (hw _ (List.mem_of_getElem? (i := 23) rfl))) (by decide) (backOf (W := 0) (rm_cm3 l Z a0 hw [] a2 (0 : Int32) (n : Nat).toInt32 n g h0 n0 Z0 hn VC rfl rfl hle) hZ (hw _ (List.mem_of_getElem? (i := 23) rfl)) (hw _ (List.mem_of_getElem? (i := 22) rfl)) (by decide) (by decide)) (g := (mkF m 36 #[vR a1, vR a2, vI (0 : Int32), vI (n : Nat).toInt32, .val .null, .unset] [(.int (n : Nat).toInt32), (.int (0 : Int32)), (.ref a2)])) rfl (by rw [hml]; rfl) (argsL := [(.ref a2), (.int (0 : Int32)), (.int (n : Nat).toInt32)]) (rest := []) (lenOf pd_5 rfl) rfl (by show 2 * 0 + _ ≤ _; exact Nat.le_of_eq rfl) (hb hby d3_36) (fun _ _ => ⟨rfl, e136, (by decide : 0 + 1 ≤ _), (by decide : 0 + 4 ≤ _)⟩)
  dsimp only [Pt.U, Pt.locs, Pt.cells, Pt.slots] at X138 l138 y138 z138 st138 hQ138
  rw [l138, y138, z138] at X138
  obtain ⟨t, rfl, N138q, szt, K138, VB⟩ := hQ138
  have N138 := Fr.app N0 N138q
  have g_t : n0 ≤ t := Nat.le_trans Z0 szt
  have ne_a1_t : a1 ≠ t := Nat.ne_of_lt (Nat.lt_of_lt_of_le E1.lt szt)
  have ne_a2_t : a2 ≠ t := Nat.ne_of_lt (Nat.lt_of_lt_of_le VC.lt szt)
  have szt0 : h0.size ≤ t := Nat.le_trans (Keep.refl h0 [a1]).1 szt
  have E_a1_139 := E1.keep K138
  have Fv_139 := Fv.keep K138 own_notin0
  have Fc_139 := Fc.keep K138 own_notin0
  have OL_139 := OL.keep K138 (own_ge0)
  have VC_139 := VC.keep K138 own_notin0
  have Zs139 : n0 ≤ T138.heap.size := Nat.le_trans Z0 K138.1
  have Kk139 : Keep h0 T138.heap [a1] := Keep.trans (Keep.refl h0 [a1]) K138 (own_trans0 )
  have R140 : ∀ tg, Steps p.tables e below (T138.setTop (mkF m 45 #[vR a1, vR a2, vI (0 : Int32), vI (n : Nat).toInt32, .val .null, vR t] [(.int (n : Nat).toInt32), (.ref t), (.ref a1)])) tg → Steps p.tables e below (s₁.setTop (mkF m 0 #[vR a1, vR a2, vI p3, vI p4, .val .null, .unset] [])) tg := by
    intro tg kt
    refine R137 _ ?_
    refine st138 _ ?_
    show Steps p.tables e below (T138.setTop (mkF m 39 #[vR a1, vR a2, vI (0 : Int32), vI (n : Nat).toInt32, .val .null, .unset] [(.ref t)])) _
    refine XS.astore X138.here hx rfl (hb hby d3_39) rfl rfl (l' := #[vR a1, vR a2, vI (0 : Int32), vI (n : Nat).toInt32, .val .null, vR t]) rfl ?_
    refine XS.aloadN X138.here hx rfl (hb hby d3_41) rfl rfl ?_
    refine XS.aload X138.here hx rfl (hb hby d3_42) rfl rfl ?_
    show Steps p.tables e below (T138.setTop (mkF m 44 #[vR a1, vR a2, vI (0 : Int32), vI (n : Nat).toInt32, .val .null, vR t] [(.ref t), (.ref a1)])) _
    refine XS.iloadN X138.here hx rfl (hb hby d3_44) rfl ?_
    exact kt
  clear R137 st138
  obtain ⟨_, _, ⟨T141, L141, k141, n141⟩, -, X141, ⟨Lc141, hQ141, l141, y141, z141⟩, st141⟩ := Jvm.LawKit.callS X138 hx (y := (⟨"java/lang/StringUTF16", "coderFromArrayLen", "([BI)B"⟩ : MethodName)) hown (mvT hZ (hw _ (List.mem_of_getElem? (i := 28) rfl))) (mvT hZ (hw _ (List.mem_of_getElem? (i := 29) rfl))) (mvT hZ (hw _ (List.mem_of_getElem? (i := 22) rfl))) (mvT hZ (hw _ (List.mem_of_getElem? (i := 30) rfl))) (by decide) (backOf (W := 1) (rm_cfa l Z a0 hw [] t (n : Nat).toInt32 n (fun j => own_bv (g j)) T138.heap n0 Zs139 VB rfl) hZ (hw _ (List.mem_of_getElem? (i := 30) rfl)) (hw _ (List.mem_of_getElem? (i := 22) rfl)) (by decide) (by decide)) (g := (mkF m 45 #[vR a1, vR a2, vI (0 : Int32), vI (n : Nat).toInt32, .val .null, vR t] [(.int (n : Nat).toInt32), (.ref t), (.ref a1)])) rfl (by rw [hml]; rfl) (argsL := [(.ref t), (.int (n : Nat).toInt32)]) (rest := [(.ref a1)]) (lenOf pd_6 rfl) rfl (by show 2 * 0 + _ ≤ _; exact Nat.le_of_eq rfl) (hb hby d3_45) (fun _ _ => ⟨rfl, rfl, (by decide : 1 + 0 ≤ _), (by decide : 4 + 0 ≤ _)⟩)
  dsimp only [Pt.U, Pt.locs, Pt.cells, Pt.slots] at X141 l141 y141 z141 st141 hQ141
  rw [l141, y141, z141] at X141
  obtain ⟨rfl, N141q, hh141⟩ := hQ141
  have N141 := Fr.app N138 N141q
  have R142 : ∀ tg, Steps p.tables e below (T141.setTop (mkF m 48 #[vR a1, vR a2, vI (0 : Int32), vI (n : Nat).toInt32, .val .null, vR t] [(.int (0 : Int32)), (.ref a1)])) tg → Steps p.tables e below (s₁.setTop (mkF m 0 #[vR a1, vR a2, vI p3, vI p4, .val .null, .unset] [])) tg := by
    intro tg kt
    refine R140 _ ?_
    refine st141 _ ?_
    exact kt
  clear R140 st141
  obtain ⟨T143, h143, X143, e143, W143, st143⟩ := putF X141 hx hZ hown (host := "") (Or.inl (hw _ (List.mem_of_getElem? (i := 31) rfl))) Via.refl hh141 Fc_139 E_a1_139 (Or.inr ⟨(hw _ (List.mem_of_getElem? (i := 32) rfl)), rfl, hnm⟩) (hw _ (List.mem_of_getElem? (i := 7) rfl)) (ty := .byte) (by decide) rfl rfl (g := (mkF m 48 #[vR a1, vR a2, vI (0 : Int32), vI (n : Nat).toInt32, .val .null, vR t] [(.int (0 : Int32)), (.ref a1)])) rfl rfl (hb hby d3_48)
  have N143 := Fr.snoc X143 N141 ga
  have Fc_143 := Fc_139.same W143
  have E_a1_143 := E_a1_139.wr W143
  have Fv_143 := Fv_139.other W143 (Or.inr (slot_ne (Or.inr (hw _ (List.mem_of_getElem? (i := 34) rfl))) (Or.inr (hw _ (List.mem_of_getElem? (i := 32) rfl))) (by decide) (t := (.array .byte)) (t' := .byte) (by decide) (by decide)))
  have OL_143 := OL_139.wr W143 ga
  have VC_143 := VC_139.other W143 (Ne.symm ne12)
  have VB_143 := VB.other W143 (Ne.symm ne_a1_t)
  clear E_a1_139 Fv_139 OL_139 VC_139
  have Zs143 : n0 ≤ h143.size := Nat.le_trans Zs139 (Keep.of_wr W143).1
  have Kw143 : Keep h0 h143 [a1] := Keep.wr Kk139 W143 (Or.inl (List.mem_of_getElem? (i := 0) rfl))
  have R144 : ∀ tg, Steps p.tables e below (T143.setTop (mkF m 54 #[vR a1, vR a2, vI (0 : Int32), vI (n : Nat).toInt32, .val .null, vR t] [(.ref t), (.ref a1)])) tg → Steps p.tables e below (s₁.setTop (mkF m 0 #[vR a1, vR a2, vI p3, vI p4, .val .null, .unset] [])) tg := by
    intro tg kt
    refine R142 _ ?_
    refine st143 _ ?_
    refine XS.aloadN X143.here hx rfl (hb hby d3_51) rfl rfl ?_
    refine XS.aload X143.here hx rfl (hb hby d3_52) rfl rfl ?_
    exact kt
  clear R142 st143
  obtain ⟨T145, h145, X145, e145, W145, st145⟩ := putF X143 hx hZ hown (host := "") (Or.inl (hw _ (List.mem_of_getElem? (i := 33) rfl))) Via.refl e143 Fv_143 E_a1_143 (Or.inr ⟨(hw _ (List.mem_of_getElem? (i := 34) rfl)), rfl, hnm⟩) (hw _ (List.mem_of_getElem? (i := 7) rfl)) (ty := (.array .byte)) (by decide) rfl rfl (g := (mkF m 54 #[vR a1, vR a2, vI (0 : Int32), vI (n : Nat).toInt32, .val .null, vR t] [(.ref t), (.ref a1)])) rfl rfl (hb hby d3_54)
  have N145 := Fr.snoc X145 N143 ga
  have Fv_145 := Fv_143.same W145
  have E_a1_145 := E_a1_143.wr W145
  have Fc_145 := Fc_143.other W145 (Or.inr (slot_ne (Or.inr (hw _ (List.mem_of_getElem? (i := 32) rfl))) (Or.inr (hw _ (List.mem_of_getElem? (i := 34) rfl))) (by decide) (t := .byte) (t' := (.array .byte)) (by decide) (by decide)))
  have OL_145 := OL_143.wr W145 ga
  have VC_145 := VC_143.other W145 (Ne.symm ne12)
  have VB_145 := VB_143.other W145 (Ne.symm ne_a1_t)
  clear E_a1_143 Fc_143 OL_143 VC_143 VB_143
  have Zs145 : n0 ≤ h145.size := Nat.le_trans Zs143 (Keep.of_wr W145).1
  have Kw145 : Keep h0 h145 [a1] := Keep.wr Kw143 W145 (Or.inl (List.mem_of_getElem? (i := 0) rfl))
  have R146 : ∀ tg, Steps p.tables e below (T145.setTop (mkF m 57 #[vR a1, vR a2, vI (0 : Int32), vI (n : Nat).toInt32, .val .null, vR t] [])) tg → Steps p.tables e below (s₁.setTop (mkF m 0 #[vR a1, vR a2, vI p3, vI p4, .val .null, .unset] [])) tg := by
    intro tg kt
    refine R144 _ ?_
    refine st145 _ ?_
    exact kt
  clear R144 st145
  obtain ⟨fs, hr, hrun, hended, hW, hsame⟩ := X145.leave (v := none) (fun _ => rfl)
  refine ⟨_, _, pre0 _ (R146 _ ?_), hrun, hended, _, _, rfl, ?_, ⟨_, rfl⟩, hW, hsame.mono (by decide) (by decide)⟩
  · exact X145.returnOut hx Bd.returns (hb hby d3_57) hr
  · show Q_rm_in4 Z a1 a2 p3 p4 n g cs h0 n0 _ T145.heap _
    rw [e145]
    exact ⟨t, rfl, N145, szt0, Kw145, E_a1_145, Fc_145, Fv_145, VB_145⟩
theorem d2_0 : decode jdk_42_method_3_code 0 = .ok (.aload_n 0, 1) := by decide +kernel
theorem d2_1 : decode jdk_42_method_3_code 1 = .ok (.aload_n 1, 1) := by decide +kernel
theorem d2_2 : decode jdk_42_method_3_code 2 = .ok (.iconst 0, 1) := by decide +kernel
theorem d2_3 : decode jdk_42_method_3_code 3 = .ok (.aload_n 1, 1) := by decide +kernel
theorem d2_4 : decode jdk_42_method_3_code 4 = .ok (.arraylength, 1) := by decide +kernel
theorem d2_5 : decode jdk_42_method_3_code 5 = .ok (.aconst_null, 1) := by decide +kernel
theorem pd_7 : parseMethodDescriptor "([CIILjava/lang/Void;)V" = some ⟨[(.array .char), .int, .int, (.object "java/lang/Void")], none⟩ := by decide +kernel
theorem d2_6 : decode jdk_42_method_3_code 6 = .ok (.invokespecial 27, 3) := by decide +kernel
theorem d2_9 : decode jdk_42_method_3_code 9 = .ok (.return_, 1) := by decide +kernel
theorem ef_rm_in1 (m : MethodId) (a1 : Addr) (a2 : Addr) : entryFrame m #[(.ref a1), (.ref a2)] 2 = mkF m 0 #[vR a1, vR a2] [] := by first | (simp [entryFrame, mkF, argsToLocals, Value.category]; done) | rfl
def Q_rm_in1 (Z : State) (a1 : Addr) (a2 : Addr) (n : Nat) (g : Nat → Int32) (cs : Int32) (h0 : Heap) (n0 : Nat) (v : Option Value) (h : Heap) (L : List Loc) : Prop := ∃ t : Addr, v = none ∧ Fr n0 L ∧ h0.size ≤ t ∧ Keep h0 h [a1] ∧ Exa Z h a1 "java/lang/String" ∧ Fld Z h a1 "java/lang/String" "coder" "B" (.int (0 : Int32)) ∧ Fld Z h a1 "java/lang/String" "value" "[B" (.ref t) ∧ AV Z h t .byte n (fun j => .int ((fun j => own_bv (g j)) j))
set_option maxRecDepth 65536 in
set_option maxHeartbeats 40000000 in
theorem rm_in1 (l : Launch) (Z : State) (a0 : Array Value) (hw : ∀ d ∈ tables_1, d.before a0 Z = true) (ws : List Jvm.Cond) (a1 : Addr) (a2 : Addr) (n : Nat) (g : Nat → Int32) (cs : Int32) (h0 : Heap) (n0 : Nat) (Z0 : n0 ≤ h0.size) (hn : n = 1 ∨ n = 2 ∨ n = 3 ∨ n = 4) (VC : AV Z h0 a2 .char n (fun j => .int (g j))) (hle : ∀ j, ¬ (255 : Int32) < g j) (SC : Sta Z Z.heap "java/lang/String" "COMPACT_STRINGS" "Z" (.int cs)) (OL : Old Z n0 h0) (hcs : ¬ (cs = (0 : Int32))) (ne12 : a1 ≠ a2) (E1 : Exa Z h0 a1 "java/lang/String") (Fv : Fld Z h0 a1 "java/lang/String" "value" "[B" .null) (Fc : Fld Z h0 a1 "java/lang/String" "coder" "B" (.int (0 : Int32))) (ga : n0 ≤ a1) :
    MetFree l (⟨"java/lang/String", "<init>", "([C)V"⟩ : MethodName) (head1 (Jvm.Cond.code (⟨"java/lang/String", "<init>", "([C)V"⟩ : MethodName) jdk_42_method_3_code 2 none :: ws) ({ frames := 3, cells := 1, slots := 4, locals := 52 } : Room)) (fun a U => a = #[(.ref a1), (.ref a2)] ∧ Z.Warmed39 U.vm ∧ U.heap = h0) (fun _ _ _ _ _ => True) (fun _ U oC U' => ∃ v L, oC = .returned v ∧ Q_rm_in1 Z a1 a2 n g cs h0 n0 v U'.heap L ∧ FrameEnd U oC U' L ({ frames := 3, cells := 1, slots := 4, locals := 52 } : Room).cells ({ frames := 3, cells := 1, slots := 4, locals := 52 } : Room).slots) := by
  refine MetFree.of_bodySF (plainFor_of_name pn_0) hisR ?_
  intro p e s m args below meth c s₁ Bd hml0 hP hK
  obtain ⟨rfl, hZ, hh⟩ := hP
  have hx := Bd.exec
  have hby := Bd.bytes
  have hml : c.maxLocals = 2 := hml0
  have hown : s.vm.findClass "java/lang/String" = some m.cls := findClass_of_methodNamed Bd.named
  have hnm := (name_of_methodNamed Bd.named Bd.method).1
  have X0 : Stand p l e ({ frames := 3, cells := 1, slots := 4, locals := 52 } : Room) s m #[(.ref a1), (.ref a2)] below meth c s₁ [] 0 0 := Stand.of_body Bd
  have e0 : s₁.heap = h0 := by rw [← hh, Bd.state]; rfl
  have N0 := Fr.nil n0
  have pre0 : ∀ tg, Steps p.tables e below (s₁.setTop (mkF m 0 #[vR a1, vR a2] [])) tg → Steps p.tables e below (s₁.setTop (entryFrame m #[(.ref a1), (.ref a2)] 2)) tg := fun t k => castTop (ef_rm_in1 m a1 a2) k
  have pre00 : ∀ tg, Steps p.tables e below (s₁.setTop (mkF m 0 #[vR a1, vR a2] [])) tg → Steps p.tables e below (s₁.setTop (mkF m 0 #[vR a1, vR a2] [])) tg := fun _ k => k
  have R147 : ∀ tg, Steps p.tables e below (s₁.setTop (mkF m 4 #[vR a1, vR a2] [(.ref a2), (.int (0 : Int32)), (.ref a2), (.ref a1)])) tg → Steps p.tables e below (s₁.setTop (mkF m 0 #[vR a1, vR a2] [])) tg := by
    intro tg kt
    refine pre00 _ ?_
    show Steps p.tables e below (s₁.setTop (mkF m 0 #[vR a1, vR a2] [])) _
    refine XS.aloadN X0.here hx rfl (hb hby d2_0) rfl rfl ?_
    refine XS.aloadN X0.here hx rfl (hb hby d2_1) rfl rfl ?_
    refine XS.iconst X0.here hx rfl (hb hby d2_2) ?_
    show Steps p.tables e below (s₁.setTop (mkF m 3 #[vR a1, vR a2] [(.int (0 : Int32)), (.ref a2), (.ref a1)])) _
    refine XS.aloadN X0.here hx rfl (hb hby d2_3) rfl rfl ?_
    exact kt
  obtain ⟨cl148, Ar148, ln148⟩ := VC.len
  have R149 : ∀ tg, Steps p.tables e below (s₁.setTop (mkF m 6 #[vR a1, vR a2] [.null, (.int (n : Nat).toInt32), (.int (0 : Int32)), (.ref a2), (.ref a1)])) tg → Steps p.tables e below (s₁.setTop (mkF m 0 #[vR a1, vR a2] [])) tg := by
    intro tg kt
    refine R147 _ ?_
    show Steps p.tables e below (s₁.setTop (mkF m 4 #[vR a1, vR a2] [(.ref a2), (.int (0 : Int32)), (.ref a2), (.ref a1)])) _
    refine X0.arraylength hx (by rw [e0]; exact Ar148.1) (State.isArrayOf_alike hZ.alike Ar148.2.1) (g := (mkF m 4 #[vR a1, vR a2] [(.ref a2), (.int (0 : Int32)), (.ref a2), (.ref a1)])) rfl rfl (hb hby d2_4) _ ?_
    rw [ln148]
    show Steps p.tables e below (s₁.setTop (mkF m 5 #[vR a1, vR a2] [(.int (n : Nat).toInt32), (.int (0 : Int32)), (.ref a2), (.ref a1)])) _
    refine XS.aconstNull X0.here hx rfl (hb hby d2_5) ?_
    exact kt
  clear R147
  obtain ⟨_, _, ⟨T150, L150, k150, n150⟩, -, X150, ⟨Lc150, hQ150, l150, y150, z150⟩, st150⟩ := X0.specialBack hx (y := (⟨"java/lang/String", "<init>", "([CIILjava/lang/Void;)V"⟩ : MethodName)) rfl hown (mvT hZ (hw _ (List.mem_of_getElem? (i := 12) rfl))) (mvT hZ (hw _ (List.mem_of_getElem? (i := 13) rfl))) (mvT hZ (hw _ (List.mem_of_getElem? (i := 15) rfl))) (by decide) (backOf (W := 0) (rm_in4 l Z a0 hw [] a1 a2 (0 : Int32) (n : Nat).toInt32 n g cs h0 n0 Z0 hn VC rfl rfl hle SC OL hcs ne12 E1 Fv Fc ga) hZ (hw _ (List.mem_of_getElem? (i := 15) rfl)) (hw _ (List.mem_of_getElem? (i := 8) rfl)) (by decide) (by decide)) (g := (mkF m 6 #[vR a1, vR a2] [.null, (.int (n : Nat).toInt32), (.int (0 : Int32)), (.ref a2), (.ref a1)])) rfl (by rw [hml]; rfl) (Steps.refl _) (a := a1) (argsL := [(.ref a2), (.int (0 : Int32)), (.int (n : Nat).toInt32), .null]) (rest := []) (lenOf pd_7 rfl) rfl (by show 2 * 0 + _ ≤ _; exact Nat.le_of_eq rfl) (hb hby d2_6) (fun _ _ => ⟨rfl, e0, (by decide : 0 + 1 ≤ _), (by decide : 0 + 4 ≤ _)⟩)
  dsimp only [Pt.U, Pt.locs, Pt.cells, Pt.slots] at X150 l150 y150 z150 st150 hQ150
  rw [l150, y150, z150] at X150
  obtain ⟨t, rfl, N150q, szt, K150, E2, Fc2, Fv2, V2⟩ := hQ150
  have N150 := Fr.app N0 N150q
  have R151 : ∀ tg, Steps p.tables e below (T150.setTop (mkF m 9 #[vR a1, vR a2] [])) tg → Steps p.tables e below (s₁.setTop (mkF m 0 #[vR a1, vR a2] [])) tg := by
    intro tg kt
    refine R149 _ ?_
    refine st150.trans ?_
    exact kt
  clear R149 st150
  obtain ⟨fs, hr, hrun, hended, hW, hsame⟩ := X150.leave (v := none) (fun _ => rfl)
  refine ⟨_, _, pre0 _ (R151 _ ?_), hrun, hended, _, _, rfl, ?_, ⟨_, rfl⟩, hW, hsame.mono (by decide) (by decide)⟩
  · exact X150.returnOut hx Bd.returns (hb hby d2_9) hr
  · show Q_rm_in1 Z a1 a2 n g cs h0 n0 _ T150.heap _
    exact ⟨t, rfl, N150, szt, K150, E2, Fc2, Fv2, V2⟩
theorem d3_8 : decode jdk_42_method_149_code 8 = .ok (.aload_n 0, 1) := by decide +kernel
theorem d3_9 : decode jdk_42_method_149_code 9 = .ok (.ldc 7, 2) := by decide +kernel
theorem d3_11 : decode jdk_42_method_149_code 11 = .ok (.getfield 9, 3) := by decide +kernel
theorem d3_14 : decode jdk_42_method_149_code 14 = .ok (.putfield 9, 3) := by decide +kernel
theorem d3_17 : decode jdk_42_method_149_code 17 = .ok (.aload_n 0, 1) := by decide +kernel
theorem d3_18 : decode jdk_42_method_149_code 18 = .ok (.ldc 7, 2) := by decide +kernel
theorem d3_20 : decode jdk_42_method_149_code 20 = .ok (.getfield 15, 3) := by decide +kernel
theorem d3_23 : decode jdk_42_method_149_code 23 = .ok (.putfield 15, 3) := by decide +kernel
theorem d3_26 : decode jdk_42_method_149_code 26 = .ok (.return_, 1) := by decide +kernel
theorem ef_rm_in4Z (m : MethodId) (a1 : Addr) (a2 : Addr) (p3 : Int32) (p4 : Int32) : entryFrame m #[(.ref a1), (.ref a2), (.int p3), (.int p4), .null] 6 = mkF m 0 #[vR a1, vR a2, vI p3, vI p4, .val .null, .unset] [] := by first | (simp [entryFrame, mkF, argsToLocals, Value.category]; done) | rfl
def Q_rm_in4Z (Z : State) (a1 : Addr) (a2 : Addr) (p3 : Int32) (p4 : Int32) (h0 : Heap) (n0 : Nat) (v : Option Value) (h : Heap) (L : List Loc) : Prop := ∃ t : Addr, v = none ∧ Fr n0 L ∧ Keep h0 h [a1] ∧ Exa Z h a1 "java/lang/String" ∧ Fld Z h a1 "java/lang/String" "coder" "B" (.int (0 : Int32)) ∧ Fld Z h a1 "java/lang/String" "value" "[B" (.ref t) ∧ AV Z h t .byte 0 (fun j => .int ((fun j => ([] : List Int32).getD j 0) j))
set_option maxRecDepth 65536 in
set_option maxHeartbeats 40000000 in
theorem rm_in4Z (l : Launch) (Z : State) (a0 : Array Value) (hw : ∀ d ∈ tables_1, d.before a0 Z = true) (ws : List Jvm.Cond) (a1 : Addr) (a2 : Addr) (p3 : Int32) (p4 : Int32) (h0 : Heap) (n0 : Nat) (Z0 : n0 ≤ h0.size) (hp4 : p4 = (0 : Int32)) (OL : Old Z n0 h0) (hc7 : Jvm.Lit.constHeld Z "java/lang/String" 7) (hcw : Jvm.Lit.compactW.before a0 Z = true) (E1 : Exa Z h0 a1 "java/lang/String") (Fv : Fld Z h0 a1 "java/lang/String" "value" "[B" .null) (Fc : Fld Z h0 a1 "java/lang/String" "coder" "B" (.int (0 : Int32))) (ga : n0 ≤ a1) :
    MetFree l (⟨"java/lang/String", "<init>", "([CIILjava/lang/Void;)V"⟩ : MethodName) (head1 (Jvm.Cond.code (⟨"java/lang/String", "<init>", "([CIILjava/lang/Void;)V"⟩ : MethodName) jdk_42_method_149_code 6 none :: ws) ({ frames := 1, cells := 2, slots := 4, locals := 12 } : Room)) (fun a U => a = #[(.ref a1), (.ref a2), (.int p3), (.int p4), .null] ∧ Z.Warmed39 U.vm ∧ U.heap = h0 ∧ IB Z U.vm []) (fun _ _ _ _ _ => True) (fun _ U oC U' => ∃ v L, oC = .returned v ∧ Q_rm_in4Z Z a1 a2 p3 p4 h0 n0 v U'.heap L ∧ ReturnedEndW U oC U' L ({ frames := 1, cells := 2, slots := 4, locals := 12 } : Room).cells ({ frames := 1, cells := 2, slots := 4, locals := 12 } : Room).slots) := by
  refine MetFree.of_bodySF (plainFor_of_name pn_0) hisR ?_
  intro p e s m args below meth c s₁ Bd hml0 hP hK
  obtain ⟨rfl, hZ, hh, hI⟩ := hP
  have hS0 : s.Since s.vm 0 := State.WarmedH.since (State.WarmedH.refl s) 0
  have hk0 : 0 ≤ h0.size := Nat.zero_le _
  have hkeep : ∀ (b : Addr) (cl : Cell), Z.heap[b]? = some cl → s.heap[b]? = some cl := by rw [hh]; exact OL.2.2
  have hx := Bd.exec
  have hby := Bd.bytes
  have hml : c.maxLocals = 6 := hml0
  have hown : s.vm.findClass "java/lang/String" = some m.cls := findClass_of_methodNamed Bd.named
  have hnm := (name_of_methodNamed Bd.named Bd.method).1
  have X0 : Stand p l e ({ frames := 1, cells := 2, slots := 4, locals := 12 } : Room) s m #[(.ref a1), (.ref a2), (.int p3), (.int p4), .null] below meth c s₁ [] 0 0 := Stand.of_body Bd
  have e0 : s₁.heap = h0 := by rw [← hh, Bd.state]; rfl
  have N0 := Fr.nil n0
  have pre0 : ∀ tg, Steps p.tables e below (s₁.setTop (mkF m 0 #[vR a1, vR a2, vI p3, vI p4, .val .null, .unset] [])) tg → Steps p.tables e below (s₁.setTop (entryFrame m #[(.ref a1), (.ref a2), (.int p3), (.int p4), .null] 6)) tg := fun t k => castTop (ef_rm_in4Z m a1 a2 p3 p4) k
  have pre00 : ∀ tg, Steps p.tables e below (s₁.setTop (mkF m 0 #[vR a1, vR a2, vI p3, vI p4, .val .null, .unset] [])) tg → Steps p.tables e below (s₁.setTop (mkF m 0 #[vR a1, vR a2, vI p3, vI p4, .val .null, .unset] [])) tg := fun _ k => k
  have wS : ∀ d ∈ Bundle.stringAtoms, d.before a0 Z = true := fun d hd => by
    simp only [Bundle.stringAtoms, List.mem_cons, List.not_mem_nil, or_false] at hd
    rcases hd with rfl | rfl | rfl | rfl | rfl | rfl | rfl
    · exact (hw _ (List.mem_of_getElem? (i := 8) rfl))
    · exact (hw _ (List.mem_of_getElem? (i := 7) rfl))
    · exact (hw _ (List.mem_of_getElem? (i := 24) rfl))
    · exact (hw _ (List.mem_of_getElem? (i := 34) rfl))
    · exact (hw _ (List.mem_of_getElem? (i := 32) rfl))
    · exact (hw _ (List.mem_of_getElem? (i := 117) rfl))
    · exact (hw _ (List.mem_of_getElem? (i := 118) rfl))
  have R152 : ∀ tg, Steps p.tables e below (s₁.setTop (mkF m 0 #[vR a1, vR a2, vI p3, vI (0 : Int32), .val .null, .unset] [])) tg → Steps p.tables e below (s₁.setTop (mkF m 0 #[vR a1, vR a2, vI p3, vI p4, .val .null, .unset] [])) tg := by intro tg kt; refine pre00 tg ?_; rw [hp4]; exact kt
  have R153 : ∀ tg, Steps p.tables e below (s₁.setTop (mkF m 1 #[vR a1, vR a2, vI p3, vI (0 : Int32), .val .null, .unset] [(.ref a1)])) tg → Steps p.tables e below (s₁.setTop (mkF m 0 #[vR a1, vR a2, vI p3, vI p4, .val .null, .unset] [])) tg := by
    intro tg kt
    refine R152 _ ?_
    show Steps p.tables e below (s₁.setTop (mkF m 0 #[vR a1, vR a2, vI p3, vI (0 : Int32), .val .null, .unset] [])) _
    refine XS.aloadN X0.here hx rfl (hb hby d3_0) rfl rfl ?_
    exact kt
  clear R152
  obtain ⟨T154, X154, e154, st154⟩ := initO X0 hx hZ hown (hw _ (List.mem_of_getElem? (i := 16) rfl)) (hw _ (List.mem_of_getElem? (i := 17) rfl)) (hw _ (List.mem_of_getElem? (i := 18) rfl)) e0 (g := (mkF m 1 #[vR a1, vR a2, vI p3, vI (0 : Int32), .val .null, .unset] [(.ref a1)])) rfl (by rw [hml]; rfl) rfl (hb hby d3_1) (by decide) (W := 0) (by show 2 * 0 + _ ≤ _; exact Nat.le_of_eq rfl) (by decide)
  have R155 : ∀ tg, Steps p.tables e below (T154.setTop (mkF m 9 #[vR a1, vR a2, vI p3, vI (0 : Int32), .val .null, .unset] [(.ref a1)])) tg → Steps p.tables e below (s₁.setTop (mkF m 0 #[vR a1, vR a2, vI p3, vI p4, .val .null, .unset] [])) tg := by
    intro tg kt
    refine R153 _ ?_
    refine st154 _ ?_
    refine XS.iloadN X154.here hx rfl (hb hby d3_4) rfl ?_
    show Steps p.tables e below (T154.setTop (mkF m 5 #[vR a1, vR a2, vI p3, vI (0 : Int32), .val .null, .unset] [(.int (0 : Int32))])) _
    refine XS.ifNo X154.here hx rfl (hb hby d3_5) rfl ((if0 _ _).trans (teq (rfl : (0 : Int32) = (0 : Int32))).2) ?_
    refine XS.aloadN X154.here hx rfl (hb hby d3_8) rfl rfl ?_
    exact kt
  clear R153 st154
  obtain ⟨le, T156, h156, k156, lb, kk156, X156, e156, E156, S156, hk156, hZ, hown, Ea_le, Fc_le, Fv_le, Vr_le, -, -, I156, Li156, st156⟩ := ldcSVL (s := s) (vm0 := s.vm) X154 hx hZ hown (hw _ (List.mem_of_getElem? (i := 153) rfl)) wS e154 hS0 hk0 (Fr.nil _) hkeep hI (by decide) hc7 hcw (vs := List.map Value.int []) (z := 0) (by constructor <;> decide +kernel) (by decide) (by decide) (g := (mkF m 9 #[vR a1, vR a2, vI p3, vI (0 : Int32), .val .null, .unset] [(.ref a1)])) rfl (hb hby d3_9) (n := 0) (by decide +kernel) (by decide) (by decide) (by decide)
  have E_a1_156 := E1.ext E156
  have Fv_156 := Fv.ext E156
  have Fc_156 := Fc.ext E156
  have OL_156 := OL.ext E156
  have Zs156 : n0 ≤ h156.size := Nat.le_trans Z0 E156.1
  have Ke156 : Keep h0 h156 [a1] := Keep.ext (Keep.refl h0 [a1]) E156
  have Va_le : AV Z h156 lb .byte 0 (fun j => .int ((fun j => ([] : List Int32).getD j 0) j)) := own_avl (n := 0) Vr_le rfl
  have ne_a1_le : a1 ≠ le := own_fldne Fv_156 Fv_le (by intro q; cases q)
  obtain ⟨cq0, cA0, -⟩ := id Va_le
  have ne_a1_lb : a1 ≠ lb := Exa.neArv E_a1_156 Vr_le (hw _ (List.mem_of_getElem? (i := 7) rfl))
  have R157 : ∀ tg, Steps p.tables e below (T156.setTop (mkF m 11 #[vR a1, vR a2, vI p3, vI (0 : Int32), .val .null, .unset] [(.ref le), (.ref a1)])) tg → Steps p.tables e below (s₁.setTop (mkF m 0 #[vR a1, vR a2, vI p3, vI p4, .val .null, .unset] [])) tg := by
    intro tg kt
    refine R155 _ ?_
    refine st156 _ ?_
    exact kt
  clear R155 st156
  obtain ⟨T158, X158, e158, st158⟩ := getF X156 hx hZ hown (host := "") (Or.inl (hw _ (List.mem_of_getElem? (i := 33) rfl))) Via.refl e156 Fv_le (g := (mkF m 11 #[vR a1, vR a2, vI p3, vI (0 : Int32), .val .null, .unset] [(.ref le), (.ref a1)])) rfl rfl (hb hby d3_11)
  have R159 : ∀ tg, Steps p.tables e below (T158.setTop (mkF m 14 #[vR a1, vR a2, vI p3, vI (0 : Int32), .val .null, .unset] [(.ref lb), (.ref a1)])) tg → Steps p.tables e below (s₁.setTop (mkF m 0 #[vR a1, vR a2, vI p3, vI p4, .val .null, .unset] [])) tg := by
    intro tg kt
    refine R157 _ ?_
    refine st158 _ ?_
    exact kt
  clear R157 st158
  obtain ⟨T160, h160, X160, e160, W160, st160⟩ := putF X158 hx hZ hown (host := "") (Or.inl (hw _ (List.mem_of_getElem? (i := 33) rfl))) Via.refl e158 Fv_156 E_a1_156 (Or.inr ⟨(hw _ (List.mem_of_getElem? (i := 34) rfl)), rfl, hnm⟩) (hw _ (List.mem_of_getElem? (i := 7) rfl)) (ty := (.array .byte)) (by decide) rfl rfl (g := (mkF m 14 #[vR a1, vR a2, vI p3, vI (0 : Int32), .val .null, .unset] [(.ref lb), (.ref a1)])) rfl rfl (hb hby d3_14)
  have N160 := Fr.snoc X160 N0 ga
  have Fv_160 := Fv_156.same W160
  have E_a1_160 := E_a1_156.wr W160
  have Fc_160 := Fc_156.other W160 (Or.inr (slot_ne (Or.inr (hw _ (List.mem_of_getElem? (i := 32) rfl))) (Or.inr (hw _ (List.mem_of_getElem? (i := 34) rfl))) (by decide) (t := .byte) (t' := (.array .byte)) (by decide) (by decide)))
  have OL_160 := OL_156.wr W160 ga
  have E_le_160 := Ea_le.wr W160
  have Fc_le_160 := Fc_le.other W160 (Or.inl (Ne.symm ne_a1_le))
  have Fv_le_160 := Fv_le.other W160 (Or.inl (Ne.symm ne_a1_le))
  have VA_le_160 := Va_le.other W160 (Ne.symm ne_a1_lb)
  clear E_a1_156 Fc_156 OL_156
  have Zs160 : n0 ≤ h160.size := Nat.le_trans Zs156 (Keep.of_wr W160).1
  have hk_160 := Nat.le_trans hk156 (Keep.of_wr W160).1
  have Kw160 : Keep h0 h160 [a1] := Keep.wr Ke156 W160 (Or.inl (List.mem_of_getElem? (i := 0) rfl))
  have R161 : ∀ tg, Steps p.tables e below (T160.setTop (mkF m 18 #[vR a1, vR a2, vI p3, vI (0 : Int32), .val .null, .unset] [(.ref a1)])) tg → Steps p.tables e below (s₁.setTop (mkF m 0 #[vR a1, vR a2, vI p3, vI p4, .val .null, .unset] [])) tg := by
    intro tg kt
    refine R159 _ ?_
    refine st160 _ ?_
    refine XS.aloadN X160.here hx rfl (hb hby d3_17) rfl rfl ?_
    exact kt
  clear R159 st160
  have st162 := ldcAgain (s := s) (vm0 := T156.vm) X160 hx hZ hown (hw _ (List.mem_of_getElem? (i := 153) rfl)) Li156 (g := (mkF m 18 #[vR a1, vR a2, vI p3, vI (0 : Int32), .val .null, .unset] [(.ref a1)])) rfl (hb hby d3_18)
  have R163 : ∀ tg, Steps p.tables e below (T160.setTop (mkF m 20 #[vR a1, vR a2, vI p3, vI (0 : Int32), .val .null, .unset] [(.ref le), (.ref a1)])) tg → Steps p.tables e below (s₁.setTop (mkF m 0 #[vR a1, vR a2, vI p3, vI p4, .val .null, .unset] [])) tg := by
    intro tg kt
    refine R161 _ ?_
    refine st162 _ ?_
    exact kt
  clear R161 st162
  obtain ⟨T164, X164, e164, st164⟩ := getF X160 hx hZ hown (host := "") (Or.inl (hw _ (List.mem_of_getElem? (i := 31) rfl))) Via.refl e160 Fc_le_160 (g := (mkF m 20 #[vR a1, vR a2, vI p3, vI (0 : Int32), .val .null, .unset] [(.ref le), (.ref a1)])) rfl rfl (hb hby d3_20)
  have R165 : ∀ tg, Steps p.tables e below (T164.setTop (mkF m 23 #[vR a1, vR a2, vI p3, vI (0 : Int32), .val .null, .unset] [(.int (0 : Int32)), (.ref a1)])) tg → Steps p.tables e below (s₁.setTop (mkF m 0 #[vR a1, vR a2, vI p3, vI p4, .val .null, .unset] [])) tg := by
    intro tg kt
    refine R163 _ ?_
    refine st164 _ ?_
    exact kt
  clear R163 st164
  obtain ⟨T166, h166, X166, e166, W166, st166⟩ := putF X164 hx hZ hown (host := "") (Or.inl (hw _ (List.mem_of_getElem? (i := 31) rfl))) Via.refl e164 Fc_160 E_a1_160 (Or.inr ⟨(hw _ (List.mem_of_getElem? (i := 32) rfl)), rfl, hnm⟩) (hw _ (List.mem_of_getElem? (i := 7) rfl)) (ty := .byte) (by decide) rfl rfl (g := (mkF m 23 #[vR a1, vR a2, vI p3, vI (0 : Int32), .val .null, .unset] [(.int (0 : Int32)), (.ref a1)])) rfl rfl (hb hby d3_23)
  have N166 := Fr.snoc X166 N160 ga
  have Fc_166 := Fc_160.same W166
  have E_a1_166 := E_a1_160.wr W166
  have Fv_166 := Fv_160.other W166 (Or.inr (slot_ne (Or.inr (hw _ (List.mem_of_getElem? (i := 34) rfl))) (Or.inr (hw _ (List.mem_of_getElem? (i := 32) rfl))) (by decide) (t := (.array .byte)) (t' := .byte) (by decide) (by decide)))
  have OL_166 := OL_160.wr W166 ga
  have E_le_166 := E_le_160.wr W166
  have Fc_le_166 := Fc_le_160.other W166 (Or.inl (Ne.symm ne_a1_le))
  have Fv_le_166 := Fv_le_160.other W166 (Or.inl (Ne.symm ne_a1_le))
  have VA_le_166 := VA_le_160.other W166 (Ne.symm ne_a1_lb)
  clear E_a1_160 Fv_160 OL_160 E_le_160 Fc_le_160 Fv_le_160 VA_le_160
  have Zs166 : n0 ≤ h166.size := Nat.le_trans Zs160 (Keep.of_wr W166).1
  have hk_166 := Nat.le_trans hk_160 (Keep.of_wr W166).1
  have Kw166 : Keep h0 h166 [a1] := Keep.wr Kw160 W166 (Or.inl (List.mem_of_getElem? (i := 0) rfl))
  have R167 : ∀ tg, Steps p.tables e below (T166.setTop (mkF m 26 #[vR a1, vR a2, vI p3, vI (0 : Int32), .val .null, .unset] [])) tg → Steps p.tables e below (s₁.setTop (mkF m 0 #[vR a1, vR a2, vI p3, vI p4, .val .null, .unset] [])) tg := by
    intro tg kt
    refine R165 _ ?_
    refine st166 _ ?_
    exact kt
  clear R165 st166
  obtain ⟨fs, hr, hrun, hended, hR⟩ := Stand.leaveW (s := s) (vm₁ := T156.vm) X166 S156 (by rw [e166]; exact hk_166) (v := none) (fun _ => rfl)
  refine ⟨_, _, pre0 _ (R167 _ ?_), hrun, hended, _, _, rfl, ?_, hR.1, hR.2.1, hR.2.2.1, hR.2.2.2.mono (by decide) (by decide)⟩
  · exact X166.returnOut hx Bd.returns (hb hby d3_26) hr
  · show Q_rm_in4Z Z a1 a2 p3 p4 h0 n0 _ T166.heap _
    rw [e166]
    exact ⟨lb, rfl, N166, Kw166, E_a1_166, Fc_166, Fv_166, VA_le_166⟩
theorem ef_rm_in1Z (m : MethodId) (a1 : Addr) (a2 : Addr) : entryFrame m #[(.ref a1), (.ref a2)] 2 = mkF m 0 #[vR a1, vR a2] [] := by first | (simp [entryFrame, mkF, argsToLocals, Value.category]; done) | rfl
def Q_rm_in1Z (Z : State) (a1 : Addr) (a2 : Addr) (g : Nat → Value) (h0 : Heap) (n0 : Nat) (v : Option Value) (h : Heap) (L : List Loc) : Prop := ∃ t : Addr, v = none ∧ Fr n0 L ∧ Keep h0 h [a1] ∧ Exa Z h a1 "java/lang/String" ∧ Fld Z h a1 "java/lang/String" "coder" "B" (.int (0 : Int32)) ∧ Fld Z h a1 "java/lang/String" "value" "[B" (.ref t) ∧ AV Z h t .byte 0 (fun j => .int ((fun j => ([] : List Int32).getD j 0) j))
set_option maxRecDepth 65536 in
set_option maxHeartbeats 40000000 in
theorem rm_in1Z (l : Launch) (Z : State) (a0 : Array Value) (hw : ∀ d ∈ tables_1, d.before a0 Z = true) (ws : List Jvm.Cond) (a1 : Addr) (a2 : Addr) (g : Nat → Value) (h0 : Heap) (n0 : Nat) (Z0 : n0 ≤ h0.size) (VC : AV Z h0 a2 .char 0 g) (OL : Old Z n0 h0) (hc7 : Jvm.Lit.constHeld Z "java/lang/String" 7) (hcw : Jvm.Lit.compactW.before a0 Z = true) (E1 : Exa Z h0 a1 "java/lang/String") (Fv : Fld Z h0 a1 "java/lang/String" "value" "[B" .null) (Fc : Fld Z h0 a1 "java/lang/String" "coder" "B" (.int (0 : Int32))) (ga : n0 ≤ a1) :
    MetFree l (⟨"java/lang/String", "<init>", "([C)V"⟩ : MethodName) (head1 (Jvm.Cond.code (⟨"java/lang/String", "<init>", "([C)V"⟩ : MethodName) jdk_42_method_3_code 2 none :: ws) ({ frames := 2, cells := 2, slots := 4, locals := 29 } : Room)) (fun a U => a = #[(.ref a1), (.ref a2)] ∧ Z.Warmed39 U.vm ∧ U.heap = h0 ∧ IB Z U.vm []) (fun _ _ _ _ _ => True) (fun _ U oC U' => ∃ v L, oC = .returned v ∧ Q_rm_in1Z Z a1 a2 g h0 n0 v U'.heap L ∧ ReturnedEndW U oC U' L ({ frames := 2, cells := 2, slots := 4, locals := 29 } : Room).cells ({ frames := 2, cells := 2, slots := 4, locals := 29 } : Room).slots) := by
  refine MetFree.of_bodySF (plainFor_of_name pn_0) hisR ?_
  intro p e s m args below meth c s₁ Bd hml0 hP hK
  obtain ⟨rfl, hZ, hh, hI⟩ := hP
  have hS0 : s.Since s.vm 0 := State.WarmedH.since (State.WarmedH.refl s) 0
  have hk0 : 0 ≤ h0.size := Nat.zero_le _
  have hkeep : ∀ (b : Addr) (cl : Cell), Z.heap[b]? = some cl → s.heap[b]? = some cl := by rw [hh]; exact OL.2.2
  have hx := Bd.exec
  have hby := Bd.bytes
  have hml : c.maxLocals = 2 := hml0
  have hown : s.vm.findClass "java/lang/String" = some m.cls := findClass_of_methodNamed Bd.named
  have hnm := (name_of_methodNamed Bd.named Bd.method).1
  have X0 : Stand p l e ({ frames := 2, cells := 2, slots := 4, locals := 29 } : Room) s m #[(.ref a1), (.ref a2)] below meth c s₁ [] 0 0 := Stand.of_body Bd
  have e0 : s₁.heap = h0 := by rw [← hh, Bd.state]; rfl
  have N0 := Fr.nil n0
  have pre0 : ∀ tg, Steps p.tables e below (s₁.setTop (mkF m 0 #[vR a1, vR a2] [])) tg → Steps p.tables e below (s₁.setTop (entryFrame m #[(.ref a1), (.ref a2)] 2)) tg := fun t k => castTop (ef_rm_in1Z m a1 a2) k
  have pre00 : ∀ tg, Steps p.tables e below (s₁.setTop (mkF m 0 #[vR a1, vR a2] [])) tg → Steps p.tables e below (s₁.setTop (mkF m 0 #[vR a1, vR a2] [])) tg := fun _ k => k
  have R168 : ∀ tg, Steps p.tables e below (s₁.setTop (mkF m 4 #[vR a1, vR a2] [(.ref a2), (.int (0 : Int32)), (.ref a2), (.ref a1)])) tg → Steps p.tables e below (s₁.setTop (mkF m 0 #[vR a1, vR a2] [])) tg := by
    intro tg kt
    refine pre00 _ ?_
    show Steps p.tables e below (s₁.setTop (mkF m 0 #[vR a1, vR a2] [])) _
    refine XS.aloadN X0.here hx rfl (hb hby d2_0) rfl rfl ?_
    refine XS.aloadN X0.here hx rfl (hb hby d2_1) rfl rfl ?_
    refine XS.iconst X0.here hx rfl (hb hby d2_2) ?_
    show Steps p.tables e below (s₁.setTop (mkF m 3 #[vR a1, vR a2] [(.int (0 : Int32)), (.ref a2), (.ref a1)])) _
    refine XS.aloadN X0.here hx rfl (hb hby d2_3) rfl rfl ?_
    exact kt
  obtain ⟨cl169, Ar169, ln169⟩ := VC.len
  have R170 : ∀ tg, Steps p.tables e below (s₁.setTop (mkF m 6 #[vR a1, vR a2] [.null, (.int (0 : Int32)), (.int (0 : Int32)), (.ref a2), (.ref a1)])) tg → Steps p.tables e below (s₁.setTop (mkF m 0 #[vR a1, vR a2] [])) tg := by
    intro tg kt
    refine R168 _ ?_
    show Steps p.tables e below (s₁.setTop (mkF m 4 #[vR a1, vR a2] [(.ref a2), (.int (0 : Int32)), (.ref a2), (.ref a1)])) _
    refine X0.arraylength hx (by rw [e0]; exact Ar169.1) (State.isArrayOf_alike hZ.alike Ar169.2.1) (g := (mkF m 4 #[vR a1, vR a2] [(.ref a2), (.int (0 : Int32)), (.ref a2), (.ref a1)])) rfl rfl (hb hby d2_4) _ ?_
    rw [ln169]
    show Steps p.tables e below (s₁.setTop (mkF m 5 #[vR a1, vR a2] [(.int (0 : Int32)), (.int (0 : Int32)), (.ref a2), (.ref a1)])) _
    refine XS.aconstNull X0.here hx rfl (hb hby d2_5) ?_
    exact kt
  clear R168
  obtain ⟨_, _, ⟨T171, L171, k171, n171⟩, -, X171, S171, gr171, ⟨Lc171, hQ171, l171, y171, z171⟩, st171⟩ := X0.specialBackS hx (y := (⟨"java/lang/String", "<init>", "([CIILjava/lang/Void;)V"⟩ : MethodName)) rfl hown (mvT hZ (hw _ (List.mem_of_getElem? (i := 12) rfl))) (mvT hZ (hw _ (List.mem_of_getElem? (i := 13) rfl))) (mvT hZ (hw _ (List.mem_of_getElem? (i := 15) rfl))) (by decide) (own_backI (W := 0) (rm_in4Z l Z a0 hw [] a1 a2 (0 : Int32) (0 : Int32) h0 n0 Z0 rfl OL hc7 hcw E1 Fv Fc ga) hZ hI (hw _ (List.mem_of_getElem? (i := 15) rfl)) (hw _ (List.mem_of_getElem? (i := 8) rfl)) (by decide) (by decide)) (g := (mkF m 6 #[vR a1, vR a2] [.null, (.int (0 : Int32)), (.int (0 : Int32)), (.ref a2), (.ref a1)])) rfl (by rw [hml]; rfl) (Steps.refl _) (a := a1) (argsL := [(.ref a2), (.int (0 : Int32)), (.int (0 : Int32)), .null]) (rest := []) (lenOf pd_7 rfl) rfl (by show 2 * 0 + _ ≤ _; exact Nat.le_of_eq rfl) (hb hby d2_6) (fun _ _ => ⟨rfl, e0, (by decide : 0 + 2 ≤ _), (by decide : 0 + 4 ≤ _)⟩)
  dsimp only [Pt.U, Pt.locs, Pt.cells, Pt.slots] at X171 S171 gr171 l171 y171 z171 st171 hQ171
  rw [l171, y171, z171] at X171
  have hZ : Z.Warmed39 (s.setVm T171.vm).vm := State.Warmed39.trans hZ S171.1
  have hown : (s.setVm T171.vm).vm.findClass "java/lang/String" = some m.cls := (S171.1.alike.findClass _ _).trans hown
  obtain ⟨t, rfl, N171q, K171, E2, Fc2, Fv2, V2⟩ := hQ171
  have N171 := Fr.app N0 N171q
  have R172 : ∀ tg, Steps p.tables e below (T171.setTop (mkF m 9 #[vR a1, vR a2] [])) tg → Steps p.tables e below (s₁.setTop (mkF m 0 #[vR a1, vR a2] [])) tg := by
    intro tg kt
    refine R170 _ ?_
    refine st171.trans ?_
    exact kt
  clear R170 st171
  obtain ⟨fs, hr, hrun, hended, hR⟩ := Stand.leaveW (s := s) (vm₁ := T171.vm) X171 S171 (Nat.le_refl T171.heap.size) (v := none) (fun _ => rfl)
  refine ⟨_, _, pre0 _ (R172 _ ?_), hrun, hended, _, _, rfl, ?_, hR.1, hR.2.1, hR.2.2.1, hR.2.2.2.mono (by decide) (by decide)⟩
  · exact X171.returnOut hx Bd.returns (hb hby d2_9) hr
  · show Q_rm_in1Z Z a1 a2 g h0 n0 _ T171.heap _
    exact ⟨t, rfl, N171, K171, E2, Fc2, Fv2, V2⟩
theorem pn_5 : plainName "java/lang/Record" = true := by first | (simp [plainName, overriddenIn]; done) | decide +kernel
theorem d9_0 : decode jdk_30_method_1_code 0 = .ok (.aload_n 0, 1) := by decide +kernel
theorem d9_1 : decode jdk_30_method_1_code 1 = .ok (.invokespecial 1, 3) := by decide +kernel
theorem d9_4 : decode jdk_30_method_1_code 4 = .ok (.return_, 1) := by decide +kernel
theorem ef_rm_rec (m : MethodId) (a1 : Addr) : entryFrame m #[(.ref a1)] 1 = mkF m 0 #[vR a1] [] := by first | (simp [entryFrame, mkF, argsToLocals, Value.category]; done) | rfl
def Q_rm_rec (Z : State) (a1 : Addr) (h0 : Heap) (n0 : Nat) (v : Option Value) (h : Heap) (L : List Loc) : Prop := v = none ∧ Fr n0 L ∧ h = h0
set_option maxRecDepth 65536 in
set_option maxHeartbeats 40000000 in
theorem rm_rec (l : Launch) (Z : State) (a0 : Array Value) (hw : ∀ d ∈ tables_1, d.before a0 Z = true) (ws : List Jvm.Cond) (a1 : Addr) (h0 : Heap) (n0 : Nat) (Z0 : n0 ≤ h0.size) :
    MetFree l (⟨"java/lang/Record", "<init>", "()V"⟩ : MethodName) (head1 (Jvm.Cond.code (⟨"java/lang/Record", "<init>", "()V"⟩ : MethodName) jdk_30_method_1_code 1 none :: ws) ({ frames := 1, cells := 0, slots := 0, locals := 12 } : Room)) (fun a U => a = #[(.ref a1)] ∧ Z.Warmed39 U.vm ∧ U.heap = h0) (fun _ _ _ _ _ => True) (fun _ U oC U' => ∃ v L, oC = .returned v ∧ Q_rm_rec Z a1 h0 n0 v U'.heap L ∧ FrameEnd U oC U' L ({ frames := 1, cells := 0, slots := 0, locals := 12 } : Room).cells ({ frames := 1, cells := 0, slots := 0, locals := 12 } : Room).slots) := by
  refine MetFree.of_bodySF (plainFor_of_name pn_5) hisR ?_
  intro p e s m args below meth c s₁ Bd hml0 hP hK
  obtain ⟨rfl, hZ, hh⟩ := hP
  have hx := Bd.exec
  have hby := Bd.bytes
  have hml : c.maxLocals = 1 := hml0
  have hown : s.vm.findClass "java/lang/Record" = some m.cls := findClass_of_methodNamed Bd.named
  have hnm := (name_of_methodNamed Bd.named Bd.method).1
  have X0 : Stand p l e ({ frames := 1, cells := 0, slots := 0, locals := 12 } : Room) s m #[(.ref a1)] below meth c s₁ [] 0 0 := Stand.of_body Bd
  have e0 : s₁.heap = h0 := by rw [← hh, Bd.state]; rfl
  have N0 := Fr.nil n0
  have pre0 : ∀ tg, Steps p.tables e below (s₁.setTop (mkF m 0 #[vR a1] [])) tg → Steps p.tables e below (s₁.setTop (entryFrame m #[(.ref a1)] 1)) tg := fun t k => castTop (ef_rm_rec m a1) k
  have pre00 : ∀ tg, Steps p.tables e below (s₁.setTop (mkF m 0 #[vR a1] [])) tg → Steps p.tables e below (s₁.setTop (mkF m 0 #[vR a1] [])) tg := fun _ k => k
  have R173 : ∀ tg, Steps p.tables e below (s₁.setTop (mkF m 1 #[vR a1] [(.ref a1)])) tg → Steps p.tables e below (s₁.setTop (mkF m 0 #[vR a1] [])) tg := by
    intro tg kt
    refine pre00 _ ?_
    show Steps p.tables e below (s₁.setTop (mkF m 0 #[vR a1] [])) _
    refine XS.aloadN X0.here hx rfl (hb hby d9_0) rfl rfl ?_
    exact kt
  obtain ⟨T174, X174, e174, st174⟩ := initO X0 hx hZ hown (hw _ (List.mem_of_getElem? (i := 46) rfl)) (hw _ (List.mem_of_getElem? (i := 17) rfl)) (hw _ (List.mem_of_getElem? (i := 18) rfl)) e0 (g := (mkF m 1 #[vR a1] [(.ref a1)])) rfl (by rw [hml]; rfl) rfl (hb hby d9_1) (by decide) (W := 0) (by show 2 * 0 + _ ≤ _; exact Nat.le_of_eq rfl) (by decide)
  have R175 : ∀ tg, Steps p.tables e below (T174.setTop (mkF m 4 #[vR a1] [])) tg → Steps p.tables e below (s₁.setTop (mkF m 0 #[vR a1] [])) tg := by
    intro tg kt
    refine R173 _ ?_
    refine st174 _ ?_
    exact kt
  clear R173 st174
  obtain ⟨fs, hr, hrun, hended, hW, hsame⟩ := X174.leave (v := none) (fun _ => rfl)
  refine ⟨_, _, pre0 _ (R175 _ ?_), hrun, hended, _, _, rfl, ?_, ⟨_, rfl⟩, hW, hsame.mono (by decide) (by decide)⟩
  · exact X174.returnOut hx Bd.returns (hb hby d9_4) hr
  · show Q_rm_rec Z a1 h0 n0 _ T174.heap _
    rw [e174]
    exact ⟨rfl, N0, rfl⟩
theorem pn_6 : plainName "com/example/travessia/travessia/isis/IsisField" = true := by first | (simp [plainName, overriddenIn]; done) | decide +kernel
theorem d8_0 : decode prog_8_method_2_code 0 = .ok (.aload_n 0, 1) := by decide +kernel
theorem pd_8 : parseMethodDescriptor "()V" = some ⟨[], none⟩ := by decide +kernel
theorem d8_1 : decode prog_8_method_2_code 1 = .ok (.invokespecial 1, 3) := by decide +kernel
theorem d8_4 : decode prog_8_method_2_code 4 = .ok (.aload_n 0, 1) := by decide +kernel
theorem d8_5 : decode prog_8_method_2_code 5 = .ok (.iload_n 1, 1) := by decide +kernel
theorem d8_6 : decode prog_8_method_2_code 6 = .ok (.putfield 7, 3) := by decide +kernel
theorem d8_9 : decode prog_8_method_2_code 9 = .ok (.aload_n 0, 1) := by decide +kernel
theorem d8_10 : decode prog_8_method_2_code 10 = .ok (.aload_n 2, 1) := by decide +kernel
theorem d8_11 : decode prog_8_method_2_code 11 = .ok (.putfield 13, 3) := by decide +kernel
theorem d8_14 : decode prog_8_method_2_code 14 = .ok (.aload_n 0, 1) := by decide +kernel
theorem d8_15 : decode prog_8_method_2_code 15 = .ok (.iload_n 3, 1) := by decide +kernel
theorem d8_16 : decode prog_8_method_2_code 16 = .ok (.putfield 17, 3) := by decide +kernel
theorem d8_19 : decode prog_8_method_2_code 19 = .ok (.return_, 1) := by decide +kernel
theorem ef_rm_isi (m : MethodId) (a1 : Addr) (p2 : Int32) (a3 : Addr) (p4 : Int32) : entryFrame m #[(.ref a1), (.int p2), (.ref a3), (.int p4)] 4 = mkF m 0 #[vR a1, vI p2, vR a3, vI p4] [] := by first | (simp [entryFrame, mkF, argsToLocals, Value.category]; done) | rfl
def Q_rm_isi (Z : State) (a1 : Addr) (p2 : Int32) (a3 : Addr) (p4 : Int32) (h0 : Heap) (n0 : Nat) (v : Option Value) (h : Heap) (L : List Loc) : Prop := v = none ∧ Fr n0 L ∧ Keep h0 h [a1] ∧ Exa Z h a1 "com/example/travessia/travessia/isis/IsisField" ∧ Fld Z h a1 "com/example/travessia/travessia/isis/IsisField" "data" "Ljava/lang/String;" (.ref a3)
set_option maxRecDepth 65536 in
set_option maxHeartbeats 40000000 in
theorem rm_isi (l : Launch) (Z : State) (a0 : Array Value) (hw : ∀ d ∈ tables_1, d.before a0 Z = true) (ws : List Jvm.Cond) (a1 : Addr) (p2 : Int32) (a3 : Addr) (p4 : Int32) (h0 : Heap) (n0 : Nat) (Z0 : n0 ≤ h0.size) (E1 : Exa Z h0 a1 "com/example/travessia/travessia/isis/IsisField") (Ft : Fld Z h0 a1 "com/example/travessia/travessia/isis/IsisField" "tag" "I" (.int (0 : Int32))) (Fd : Fld Z h0 a1 "com/example/travessia/travessia/isis/IsisField" "data" "Ljava/lang/String;" .null) (Fb : Fld Z h0 a1 "com/example/travessia/travessia/isis/IsisField" "badEncoding" "Z" (.int (0 : Int32))) (ga : n0 ≤ a1) (hp4 : p4 = (0 : Int32) ∨ p4 = (1 : Int32)) :
    MetFree l (⟨"com/example/travessia/travessia/isis/IsisField", "<init>", "(ILjava/lang/String;Z)V"⟩ : MethodName) (head1 (Jvm.Cond.code (⟨"com/example/travessia/travessia/isis/IsisField", "<init>", "(ILjava/lang/String;Z)V"⟩ : MethodName) prog_8_method_2_code 4 none :: ws) ({ frames := 2, cells := 0, slots := 0, locals := 24 } : Room)) (fun a U => a = #[(.ref a1), (.int p2), (.ref a3), (.int p4)] ∧ Z.Warmed39 U.vm ∧ U.heap = h0) (fun _ _ _ _ _ => True) (fun _ U oC U' => ∃ v L, oC = .returned v ∧ Q_rm_isi Z a1 p2 a3 p4 h0 n0 v U'.heap L ∧ FrameEnd U oC U' L ({ frames := 2, cells := 0, slots := 0, locals := 24 } : Room).cells ({ frames := 2, cells := 0, slots := 0, locals := 24 } : Room).slots) := by
  refine MetFree.of_bodySF (plainFor_of_name pn_6) hisR ?_
  intro p e s m args below meth c s₁ Bd hml0 hP hK
  obtain ⟨rfl, hZ, hh⟩ := hP
  have hx := Bd.exec
  have hby := Bd.bytes
  have hml : c.maxLocals = 4 := hml0
  have hown : s.vm.findClass "com/example/travessia/travessia/isis/IsisField" = some m.cls := findClass_of_methodNamed Bd.named
  have hnm := (name_of_methodNamed Bd.named Bd.method).1
  have X0 : Stand p l e ({ frames := 2, cells := 0, slots := 0, locals := 24 } : Room) s m #[(.ref a1), (.int p2), (.ref a3), (.int p4)] below meth c s₁ [] 0 0 := Stand.of_body Bd
  have e0 : s₁.heap = h0 := by rw [← hh, Bd.state]; rfl
  have N0 := Fr.nil n0
  have pre0 : ∀ tg, Steps p.tables e below (s₁.setTop (mkF m 0 #[vR a1, vI p2, vR a3, vI p4] [])) tg → Steps p.tables e below (s₁.setTop (entryFrame m #[(.ref a1), (.int p2), (.ref a3), (.int p4)] 4)) tg := fun t k => castTop (ef_rm_isi m a1 p2 a3 p4) k
  have pre00 : ∀ tg, Steps p.tables e below (s₁.setTop (mkF m 0 #[vR a1, vI p2, vR a3, vI p4] [])) tg → Steps p.tables e below (s₁.setTop (mkF m 0 #[vR a1, vI p2, vR a3, vI p4] [])) tg := fun _ k => k
  have R176 : ∀ tg, Steps p.tables e below (s₁.setTop (mkF m 1 #[vR a1, vI p2, vR a3, vI p4] [(.ref a1)])) tg → Steps p.tables e below (s₁.setTop (mkF m 0 #[vR a1, vI p2, vR a3, vI p4] [])) tg := by
    intro tg kt
    refine pre00 _ ?_
    show Steps p.tables e below (s₁.setTop (mkF m 0 #[vR a1, vI p2, vR a3, vI p4] [])) _
    refine XS.aloadN X0.here hx rfl (hb hby d8_0) rfl rfl ?_
    exact kt
  obtain ⟨_, _, ⟨T177, L177, k177, n177⟩, -, X177, ⟨Lc177, hQ177, l177, y177, z177⟩, st177⟩ := X0.specialBack hx (y := (⟨"java/lang/Record", "<init>", "()V"⟩ : MethodName)) rfl hown (mvT hZ (hw _ (List.mem_of_getElem? (i := 41) rfl))) (mvT hZ (hw _ (List.mem_of_getElem? (i := 42) rfl))) (mvT hZ (hw _ (List.mem_of_getElem? (i := 45) rfl))) (by decide) (backOf (W := 0) (rm_rec l Z a0 hw [] a1 h0 n0 Z0) hZ (hw _ (List.mem_of_getElem? (i := 45) rfl)) (hw _ (List.mem_of_getElem? (i := 44) rfl)) (by decide) (by decide)) (g := (mkF m 1 #[vR a1, vI p2, vR a3, vI p4] [(.ref a1)])) rfl (by rw [hml]; rfl) (Steps.refl _) (a := a1) (argsL := []) (rest := []) (lenOf pd_8 rfl) rfl (by show 2 * 0 + _ ≤ _; exact Nat.le_of_eq rfl) (hb hby d8_1) (fun _ _ => ⟨rfl, e0, (by decide : 0 + 0 ≤ _), (by decide : 0 + 0 ≤ _)⟩)
  dsimp only [Pt.U, Pt.locs, Pt.cells, Pt.slots] at X177 l177 y177 z177 st177 hQ177
  rw [l177, y177, z177] at X177
  obtain ⟨rfl, N177q, hh177⟩ := hQ177
  have N177 := Fr.app N0 N177q
  have R178 : ∀ tg, Steps p.tables e below (T177.setTop (mkF m 6 #[vR a1, vI p2, vR a3, vI p4] [(.int p2), (.ref a1)])) tg → Steps p.tables e below (s₁.setTop (mkF m 0 #[vR a1, vI p2, vR a3, vI p4] [])) tg := by
    intro tg kt
    refine R176 _ ?_
    refine st177.trans ?_
    refine XS.aloadN X177.here hx rfl (hb hby d8_4) rfl rfl ?_
    refine XS.iloadN X177.here hx rfl (hb hby d8_5) rfl ?_
    exact kt
  clear R176 st177
  obtain ⟨T179, h179, X179, e179, W179, st179⟩ := putF X177 hx hZ hown (host := "") (Or.inl (hw _ (List.mem_of_getElem? (i := 47) rfl))) Via.refl hh177 Ft E1 (Or.inr ⟨(hw _ (List.mem_of_getElem? (i := 48) rfl)), rfl, hnm⟩) (hw _ (List.mem_of_getElem? (i := 36) rfl)) (ty := .int) (by decide) rfl rfl (g := (mkF m 6 #[vR a1, vI p2, vR a3, vI p4] [(.int p2), (.ref a1)])) rfl rfl (hb hby d8_6)
  have N179 := Fr.snoc X179 N177 ga
  have Ft_179 := Ft.same W179
  have E_a1_179 := E1.wr W179
  have Fd_179 := Fd.other W179 (Or.inr (slot_ne (Or.inr (hw _ (List.mem_of_getElem? (i := 50) rfl))) (Or.inr (hw _ (List.mem_of_getElem? (i := 48) rfl))) (by decide) (t := (.object "java/lang/String")) (t' := .int) (by decide) (by decide)))
  have Fb_179 := Fb.other W179 (Or.inr (slot_ne (Or.inr (hw _ (List.mem_of_getElem? (i := 52) rfl))) (Or.inr (hw _ (List.mem_of_getElem? (i := 48) rfl))) (by decide) (t := .boolean) (t' := .int) (by decide) (by decide)))
  have Zs179 : n0 ≤ h179.size := Nat.le_trans Z0 (Keep.of_wr W179).1
  have Kw179 : Keep h0 h179 [a1] := Keep.wr (Keep.refl h0 [a1]) W179 (Or.inl (List.mem_of_getElem? (i := 0) rfl))
  have R180 : ∀ tg, Steps p.tables e below (T179.setTop (mkF m 11 #[vR a1, vI p2, vR a3, vI p4] [(.ref a3), (.ref a1)])) tg → Steps p.tables e below (s₁.setTop (mkF m 0 #[vR a1, vI p2, vR a3, vI p4] [])) tg := by
    intro tg kt
    refine R178 _ ?_
    refine st179 _ ?_
    show Steps p.tables e below (T179.setTop (mkF m 9 #[vR a1, vI p2, vR a3, vI p4] [])) _
    refine XS.aloadN X179.here hx rfl (hb hby d8_9) rfl rfl ?_
    refine XS.aloadN X179.here hx rfl (hb hby d8_10) rfl rfl ?_
    exact kt
  clear R178 st179
  obtain ⟨T181, h181, X181, e181, W181, st181⟩ := putF X179 hx hZ hown (host := "") (Or.inl (hw _ (List.mem_of_getElem? (i := 49) rfl))) Via.refl e179 Fd_179 E_a1_179 (Or.inr ⟨(hw _ (List.mem_of_getElem? (i := 50) rfl)), rfl, hnm⟩) (hw _ (List.mem_of_getElem? (i := 36) rfl)) (ty := (.object "java/lang/String")) (by decide) rfl rfl (g := (mkF m 11 #[vR a1, vI p2, vR a3, vI p4] [(.ref a3), (.ref a1)])) rfl rfl (hb hby d8_11)
  have N181 := Fr.snoc X181 N179 ga
  have Fd_181 := Fd_179.same W181
  have E_a1_181 := E_a1_179.wr W181
  have Ft_181 := Ft_179.other W181 (Or.inr (slot_ne (Or.inr (hw _ (List.mem_of_getElem? (i := 48) rfl))) (Or.inr (hw _ (List.mem_of_getElem? (i := 50) rfl))) (by decide) (t := .int) (t' := (.object "java/lang/String")) (by decide) (by decide)))
  have Fb_181 := Fb_179.other W181 (Or.inr (slot_ne (Or.inr (hw _ (List.mem_of_getElem? (i := 52) rfl))) (Or.inr (hw _ (List.mem_of_getElem? (i := 50) rfl))) (by decide) (t := .boolean) (t' := (.object "java/lang/String")) (by decide) (by decide)))
  clear E_a1_179 Ft_179 Fb_179
  have Zs181 : n0 ≤ h181.size := Nat.le_trans Zs179 (Keep.of_wr W181).1
  have Kw181 : Keep h0 h181 [a1] := Keep.wr Kw179 W181 (Or.inl (List.mem_of_getElem? (i := 0) rfl))
  have R182 : ∀ tg, Steps p.tables e below (T181.setTop (mkF m 16 #[vR a1, vI p2, vR a3, vI p4] [(.int p4), (.ref a1)])) tg → Steps p.tables e below (s₁.setTop (mkF m 0 #[vR a1, vI p2, vR a3, vI p4] [])) tg := by
    intro tg kt
    refine R180 _ ?_
    refine st181 _ ?_
    refine XS.aloadN X181.here hx rfl (hb hby d8_14) rfl rfl ?_
    show Steps p.tables e below (T181.setTop (mkF m 15 #[vR a1, vI p2, vR a3, vI p4] [(.ref a1)])) _
    refine XS.iloadN X181.here hx rfl (hb hby d8_15) rfl ?_
    exact kt
  clear R180 st181
  obtain ⟨T183, h183, X183, e183, W183, st183⟩ := putF X181 hx hZ hown (host := "") (Or.inl (hw _ (List.mem_of_getElem? (i := 51) rfl))) Via.refl e181 Fb_181 E_a1_181 (Or.inr ⟨(hw _ (List.mem_of_getElem? (i := 52) rfl)), rfl, hnm⟩) (hw _ (List.mem_of_getElem? (i := 36) rfl)) (ty := .boolean) (by decide) (own_nb hp4).1 (own_nb hp4).2 (g := (mkF m 16 #[vR a1, vI p2, vR a3, vI p4] [(.int p4), (.ref a1)])) rfl rfl (hb hby d8_16)
  have N183 := Fr.snoc X183 N181 ga
  have Fb_183 := Fb_181.same W183
  have E_a1_183 := E_a1_181.wr W183
  have Ft_183 := Ft_181.other W183 (Or.inr (slot_ne (Or.inr (hw _ (List.mem_of_getElem? (i := 48) rfl))) (Or.inr (hw _ (List.mem_of_getElem? (i := 52) rfl))) (by decide) (t := .int) (t' := .boolean) (by decide) (by decide)))
  have Fd_183 := Fd_181.other W183 (Or.inr (slot_ne (Or.inr (hw _ (List.mem_of_getElem? (i := 50) rfl))) (Or.inr (hw _ (List.mem_of_getElem? (i := 52) rfl))) (by decide) (t := (.object "java/lang/String")) (t' := .boolean) (by decide) (by decide)))
  clear E_a1_181 Ft_181 Fd_181
  have Zs183 : n0 ≤ h183.size := Nat.le_trans Zs181 (Keep.of_wr W183).1
  have Kw183 : Keep h0 h183 [a1] := Keep.wr Kw181 W183 (Or.inl (List.mem_of_getElem? (i := 0) rfl))
  have R184 : ∀ tg, Steps p.tables e below (T183.setTop (mkF m 19 #[vR a1, vI p2, vR a3, vI p4] [])) tg → Steps p.tables e below (s₁.setTop (mkF m 0 #[vR a1, vI p2, vR a3, vI p4] [])) tg := by
    intro tg kt
    refine R182 _ ?_
    refine st183 _ ?_
    exact kt
  clear R182 st183
  obtain ⟨fs, hr, hrun, hended, hW, hsame⟩ := X183.leave (v := none) (fun _ => rfl)
  refine ⟨_, _, pre0 _ (R184 _ ?_), hrun, hended, _, _, rfl, ?_, ⟨_, rfl⟩, hW, hsame.mono (by decide) (by decide)⟩
  · exact X183.returnOut hx Bd.returns (hb hby d8_19) hr
  · show Q_rm_isi Z a1 p2 a3 p4 h0 n0 _ T183.heap _
    rw [e183]
    exact ⟨rfl, N183, Kw183, E_a1_183, Fd_183⟩
theorem d15_0 : decode jdk_42_method_152_code 0 = .ok (.getstatic 38, 3) := by decide +kernel
theorem d15_3 : decode jdk_42_method_152_code 3 = .ok (.ifCond .eq 10, 3) := by decide +kernel
theorem d15_6 : decode jdk_42_method_152_code 6 = .ok (.aload_n 0, 1) := by decide +kernel
theorem d15_7 : decode jdk_42_method_152_code 7 = .ok (.getfield 15, 3) := by decide +kernel
theorem d15_10 : decode jdk_42_method_152_code 10 = .ok (.goto 4, 3) := by decide +kernel
theorem d15_14 : decode jdk_42_method_152_code 14 = .ok (.ireturn, 1) := by decide +kernel
theorem ef_rm_cod (m : MethodId) (a1 : Addr) : entryFrame m #[(.ref a1)] 1 = mkF m 0 #[vR a1] [] := by first | (simp [entryFrame, mkF, argsToLocals, Value.category]; done) | rfl
def Q_rm_cod (Z : State) (a1 : Addr) (cs : Int32) (h0 : Heap) (n0 : Nat) (v : Option Value) (h : Heap) (L : List Loc) : Prop := v = some (.int (0 : Int32)) ∧ Fr n0 L ∧ h = h0
set_option maxRecDepth 65536 in
set_option maxHeartbeats 40000000 in
theorem rm_cod (l : Launch) (Z : State) (a0 : Array Value) (hw : ∀ d ∈ tables_1, d.before a0 Z = true) (ws : List Jvm.Cond) (a1 : Addr) (cs : Int32) (h0 : Heap) (n0 : Nat) (Z0 : n0 ≤ h0.size) (SC : Sta Z Z.heap "java/lang/String" "COMPACT_STRINGS" "Z" (.int cs)) (OL : Old Z n0 h0) (hcs : ¬ (cs = (0 : Int32))) (Fc : Fld Z h0 a1 "java/lang/String" "coder" "B" (.int (0 : Int32))) :
    MetFree l (⟨"java/lang/String", "coder", "()B"⟩ : MethodName) (head1 (Jvm.Cond.code (⟨"java/lang/String", "coder", "()B"⟩ : MethodName) jdk_42_method_152_code 1 (some .byte) :: ws) ({ frames := 0, cells := 0, slots := 0, locals := 0 } : Room)) (fun a U => a = #[(.ref a1)] ∧ Z.Warmed39 U.vm ∧ U.heap = h0) (fun _ _ _ _ _ => True) (fun _ U oC U' => ∃ v L, oC = .returned v ∧ Q_rm_cod Z a1 cs h0 n0 v U'.heap L ∧ FrameEnd U oC U' L ({ frames := 0, cells := 0, slots := 0, locals := 0 } : Room).cells ({ frames := 0, cells := 0, slots := 0, locals := 0 } : Room).slots) := by
  refine MetFree.of_bodySF (plainFor_of_name pn_0) hisR ?_
  intro p e s m args below meth c s₁ Bd hml0 hP hK
  obtain ⟨rfl, hZ, hh⟩ := hP
  have hx := Bd.exec
  have hby := Bd.bytes
  have hml : c.maxLocals = 1 := hml0
  have hown : s.vm.findClass "java/lang/String" = some m.cls := findClass_of_methodNamed Bd.named
  have hnm := (name_of_methodNamed Bd.named Bd.method).1
  have X0 : Stand p l e ({ frames := 0, cells := 0, slots := 0, locals := 0 } : Room) s m #[(.ref a1)] below meth c s₁ [] 0 0 := Stand.of_body Bd
  have e0 : s₁.heap = h0 := by rw [← hh, Bd.state]; rfl
  have N0 := Fr.nil n0
  have pre0 : ∀ tg, Steps p.tables e below (s₁.setTop (mkF m 0 #[vR a1] [])) tg → Steps p.tables e below (s₁.setTop (entryFrame m #[(.ref a1)] 1)) tg := fun t k => castTop (ef_rm_cod m a1) k
  have pre00 : ∀ tg, Steps p.tables e below (s₁.setTop (mkF m 0 #[vR a1] [])) tg → Steps p.tables e below (s₁.setTop (mkF m 0 #[vR a1] [])) tg := fun _ k => k
  obtain ⟨T185, X185, e185, st185⟩ := getS2 X0 hx hZ hown (host := "") (Or.inl (hw _ (List.mem_of_getElem? (i := 19) rfl))) Via.refl e0 (SC.ext OL.2) (g := (mkF m 0 #[vR a1] [])) rfl (hb hby d15_0)
  have R186 : ∀ tg, Steps p.tables e below (T185.setTop (mkF m 7 #[vR a1] [(.ref a1)])) tg → Steps p.tables e below (s₁.setTop (mkF m 0 #[vR a1] [])) tg := by
    intro tg kt
    refine pre00 _ ?_
    refine st185 _ ?_
    show Steps p.tables e below (T185.setTop (mkF m 3 #[vR a1] [(.int cs)])) _
    refine XS.ifNo X185.here hx rfl (hb hby d15_3) rfl ((if0 _ _).trans (feq (hcs : ¬ (cs = (0 : Int32)))).1) ?_
    refine XS.aloadN X185.here hx rfl (hb hby d15_6) rfl rfl ?_
    exact kt
  clear st185
  obtain ⟨T187, X187, e187, st187⟩ := getF X185 hx hZ hown (host := "") (Or.inl (hw _ (List.mem_of_getElem? (i := 31) rfl))) Via.refl e185 Fc (g := (mkF m 7 #[vR a1] [(.ref a1)])) rfl rfl (hb hby d15_7)
  have R188 : ∀ tg, Steps p.tables e below (T187.setTop (mkF m 14 #[vR a1] [(.int (0 : Int32))])) tg → Steps p.tables e below (s₁.setTop (mkF m 0 #[vR a1] [])) tg := by
    intro tg kt
    refine R186 _ ?_
    refine st187 _ ?_
    show Steps p.tables e below (T187.setTop (mkF m 10 #[vR a1] [(.int (0 : Int32))])) _
    refine XS.goto X187.here hx rfl (pc0 := 10) (pc' := 14) rfl (hb hby d15_10) (by decide) (by decide) ?_
    exact kt
  clear R186 st187
  obtain ⟨fs, hr, hrun, hended, hW, hsame⟩ := X187.leave (v := some (.int (0 : Int32))) (fun h => by rw [Bd.returns] at h; cases h)
  refine ⟨_, _, pre0 _ (R188 _ ?_), hrun, hended, _, _, rfl, ?_, ⟨_, rfl⟩, hW, hsame.mono (by decide) (by decide)⟩
  · exact retN X187 hx (t := .byte) Bd.returns (by simp) (hb hby d15_14) hr
  · show Q_rm_cod Z a1 cs h0 n0 _ T187.heap _
    rw [e187]
    exact ⟨rfl, N0, rfl⟩
theorem d14_0 : decode jdk_42_method_54_code 0 = .ok (.aload_n 0, 1) := by decide +kernel
theorem d14_1 : decode jdk_42_method_54_code 1 = .ok (.getfield 9, 3) := by decide +kernel
theorem d14_4 : decode jdk_42_method_54_code 4 = .ok (.arraylength, 1) := by decide +kernel
theorem d14_5 : decode jdk_42_method_54_code 5 = .ok (.aload_n 0, 1) := by decide +kernel
theorem pd_9 : parseMethodDescriptor "()B" = some ⟨[], some .byte⟩ := by decide +kernel
theorem d14_6 : decode jdk_42_method_54_code 6 = .ok (.invokevirtual 335, 3) := by decide +kernel
theorem d14_9 : decode jdk_42_method_54_code 9 = .ok (.ishr, 1) := by decide +kernel
theorem d14_10 : decode jdk_42_method_54_code 10 = .ok (.ireturn, 1) := by decide +kernel
theorem ef_rm_len (m : MethodId) (a1 : Addr) : entryFrame m #[(.ref a1)] 1 = mkF m 0 #[vR a1] [] := by first | (simp [entryFrame, mkF, argsToLocals, Value.category]; done) | rfl
def Q_rm_len (Z : State) (a1 : Addr) (tb : Addr) (n : Nat) (g : Nat → Int32) (cs : Int32) (h0 : Heap) (n0 : Nat) (v : Option Value) (h : Heap) (L : List Loc) : Prop := v = some (.int (n : Nat).toInt32) ∧ Fr n0 L ∧ h = h0
set_option maxRecDepth 65536 in
set_option maxHeartbeats 40000000 in
theorem rm_len (l : Launch) (Z : State) (a0 : Array Value) (hw : ∀ d ∈ tables_1, d.before a0 Z = true) (ws : List Jvm.Cond) (a1 : Addr) (tb : Addr) (n : Nat) (g : Nat → Int32) (cs : Int32) (h0 : Heap) (n0 : Nat) (Z0 : n0 ≤ h0.size) (SC : Sta Z Z.heap "java/lang/String" "COMPACT_STRINGS" "Z" (.int cs)) (OL : Old Z n0 h0) (hcs : ¬ (cs = (0 : Int32))) (E1 : Exa Z h0 a1 "java/lang/String") (Fc : Fld Z h0 a1 "java/lang/String" "coder" "B" (.int (0 : Int32))) (Fv : Fld Z h0 a1 "java/lang/String" "value" "[B" (.ref tb)) (VA : AV Z h0 tb .byte n (fun j => .int (g j))) :
    MetFree l (⟨"java/lang/String", "length", "()I"⟩ : MethodName) (head1 (Jvm.Cond.code (⟨"java/lang/String", "length", "()I"⟩ : MethodName) jdk_42_method_54_code 1 (some .int) :: ws) ({ frames := 1, cells := 0, slots := 0, locals := 13 } : Room)) (fun a U => a = #[(.ref a1)] ∧ Z.Warmed39 U.vm ∧ U.heap = h0) (fun _ _ _ _ _ => True) (fun _ U oC U' => ∃ v L, oC = .returned v ∧ Q_rm_len Z a1 tb n g cs h0 n0 v U'.heap L ∧ FrameEnd U oC U' L ({ frames := 1, cells := 0, slots := 0, locals := 13 } : Room).cells ({ frames := 1, cells := 0, slots := 0, locals := 13 } : Room).slots) := by
  refine MetFree.of_bodySF (plainFor_of_name pn_0) hisR ?_
  intro p e s m args below meth c s₁ Bd hml0 hP hK
  obtain ⟨rfl, hZ, hh⟩ := hP
  have hx := Bd.exec
  have hby := Bd.bytes
  have hml : c.maxLocals = 1 := hml0
  have hown : s.vm.findClass "java/lang/String" = some m.cls := findClass_of_methodNamed Bd.named
  have hnm := (name_of_methodNamed Bd.named Bd.method).1
  have X0 : Stand p l e ({ frames := 1, cells := 0, slots := 0, locals := 13 } : Room) s m #[(.ref a1)] below meth c s₁ [] 0 0 := Stand.of_body Bd
  have e0 : s₁.heap = h0 := by rw [← hh, Bd.state]; rfl
  have N0 := Fr.nil n0
  have pre0 : ∀ tg, Steps p.tables e below (s₁.setTop (mkF m 0 #[vR a1] [])) tg → Steps p.tables e below (s₁.setTop (entryFrame m #[(.ref a1)] 1)) tg := fun t k => castTop (ef_rm_len m a1) k
  have pre00 : ∀ tg, Steps p.tables e below (s₁.setTop (mkF m 0 #[vR a1] [])) tg → Steps p.tables e below (s₁.setTop (mkF m 0 #[vR a1] [])) tg := fun _ k => k
  have R189 : ∀ tg, Steps p.tables e below (s₁.setTop (mkF m 1 #[vR a1] [(.ref a1)])) tg → Steps p.tables e below (s₁.setTop (mkF m 0 #[vR a1] [])) tg := by
    intro tg kt
    refine pre00 _ ?_
    show Steps p.tables e below (s₁.setTop (mkF m 0 #[vR a1] [])) _
    refine XS.aloadN X0.here hx rfl (hb hby d14_0) rfl rfl ?_
    exact kt
  obtain ⟨T190, X190, e190, st190⟩ := getF X0 hx hZ hown (host := "") (Or.inl (hw _ (List.mem_of_getElem? (i := 33) rfl))) Via.refl e0 Fv (g := (mkF m 1 #[vR a1] [(.ref a1)])) rfl rfl (hb hby d14_1)
  have R191 : ∀ tg, Steps p.tables e below (T190.setTop (mkF m 4 #[vR a1] [(.ref tb)])) tg → Steps p.tables e below (s₁.setTop (mkF m 0 #[vR a1] [])) tg := by
    intro tg kt
    refine R189 _ ?_
    refine st190 _ ?_
    exact kt
  clear R189 st190
  obtain ⟨cl192, Ar192, ln192⟩ := VA.len
  have R193 : ∀ tg, Steps p.tables e below (T190.setTop (mkF m 6 #[vR a1] [(.ref a1), (.int (n : Nat).toInt32)])) tg → Steps p.tables e below (s₁.setTop (mkF m 0 #[vR a1] [])) tg := by
    intro tg kt
    refine R191 _ ?_
    show Steps p.tables e below (T190.setTop (mkF m 4 #[vR a1] [(.ref tb)])) _
    refine X190.arraylength hx (by rw [e190]; exact Ar192.1) (State.isArrayOf_alike hZ.alike Ar192.2.1) (g := (mkF m 4 #[vR a1] [(.ref tb)])) rfl rfl (hb hby d14_4) _ ?_
    rw [ln192]
    show Steps p.tables e below (T190.setTop (mkF m 5 #[vR a1] [(.int (n : Nat).toInt32)])) _
    refine XS.aloadN X190.here hx rfl (hb hby d14_5) rfl rfl ?_
    exact kt
  clear R191
  obtain ⟨cq194, kq194, q194a, q194b, q194c⟩ := isOf hZ e190 E1
  obtain ⟨_, _, ⟨T194, L194, k194, n194⟩, -, X194, ⟨Lc194, hQ194, l194, y194, z194⟩, st194⟩ := X190.virtualBack hx (y := (⟨"java/lang/String", "coder", "()B"⟩ : MethodName)) (z := (⟨"java/lang/String", "coder", "()B"⟩ : MethodName)) hown (mvT hZ (hw _ (List.mem_of_getElem? (i := 78) rfl))) (mvT hZ (hw _ (List.mem_of_getElem? (i := 79) rfl))) (notFace_of_selects (args := #[]) (mvT hZ (hw _ (List.mem_of_getElem? (i := 81) rfl)))) (mvT hZ (hw _ (List.mem_of_getElem? (i := 81) rfl))) (mvT hZ (hw _ (List.mem_of_getElem? (i := 80) rfl))) (by decide) (backOf (W := 1) (rm_cod l Z a0 hw [] a1 cs h0 n0 Z0 SC OL hcs Fc) hZ (hw _ (List.mem_of_getElem? (i := 82) rfl)) (hw _ (List.mem_of_getElem? (i := 8) rfl)) (by decide) (by decide)) q194a q194c (g := (mkF m 6 #[vR a1] [(.ref a1), (.int (n : Nat).toInt32)])) rfl (by rw [hml]; rfl) (Steps.refl _) (argsL := []) (rest := [(.int (n : Nat).toInt32)]) (lenOf pd_9 rfl) rfl (by show 2 * 0 + _ ≤ _; exact Nat.le_of_eq rfl) (hb hby d14_6) (fun _ _ => ⟨rfl, e190, (by decide : 0 + 0 ≤ _), (by decide : 0 + 0 ≤ _)⟩)
  dsimp only [Pt.U, Pt.locs, Pt.cells, Pt.slots] at X194 l194 y194 z194 st194 hQ194
  rw [l194, y194, z194] at X194
  obtain ⟨rfl, N194q, hh194⟩ := hQ194
  have N194 := Fr.app N0 N194q
  have R195 : ∀ tg, Steps p.tables e below (T194.setTop (mkF m 10 #[vR a1] [(.int ((n : Nat).toInt32 >>> ((0 : Int32) &&& 31)))])) tg → Steps p.tables e below (s₁.setTop (mkF m 0 #[vR a1] [])) tg := by
    intro tg kt
    refine R193 _ ?_
    refine st194.trans ?_
    show Steps p.tables e below (T194.setTop (mkF m 9 #[vR a1] [(.int (0 : Int32)), (.int (n : Nat).toInt32)])) _
    refine XS.ishr X194.here hx rfl (hb hby d14_9) rfl ?_
    exact kt
  clear R193 st194
  have R196 : ∀ tg, Steps p.tables e below (T194.setTop (mkF m 10 #[vR a1] [(.int (n : Nat).toInt32)])) tg → Steps p.tables e below (s₁.setTop (mkF m 0 #[vR a1] [])) tg := by intro tg kt; refine R195 tg ?_; rw [own_sh0]; exact kt
  obtain ⟨fs, hr, hrun, hended, hW, hsame⟩ := X194.leave (v := some (.int (n : Nat).toInt32)) (fun h => by rw [Bd.returns] at h; cases h)
  refine ⟨_, _, pre0 _ (R196 _ ?_), hrun, hended, _, _, rfl, ?_, ⟨_, rfl⟩, hW, hsame.mono (by decide) (by decide)⟩
  · exact retI X194 hx Bd.returns (hb hby d14_10) hr
  · show Q_rm_len Z a1 tb n g cs h0 n0 _ T194.heap _
    rw [hh194]
    exact ⟨rfl, N194, rfl⟩
theorem d17_0 : decode jdk_43_method_4_code 0 = .ok (.iload_n 0, 1) := by decide +kernel
theorem d17_1 : decode jdk_43_method_4_code 1 = .ok (.ifCond .lt 14, 3) := by decide +kernel
theorem d17_4 : decode jdk_43_method_4_code 4 = .ok (.iload_n 0, 1) := by decide +kernel
theorem d17_5 : decode jdk_43_method_4_code 5 = .ok (.sipush 255, 3) := by decide +kernel
theorem d17_8 : decode jdk_43_method_4_code 8 = .ok (.if_icmp .gt 7, 3) := by decide +kernel
theorem d17_11 : decode jdk_43_method_4_code 11 = .ok (.iconst 1, 1) := by decide +kernel
theorem d17_12 : decode jdk_43_method_4_code 12 = .ok (.goto 4, 3) := by decide +kernel
theorem d17_16 : decode jdk_43_method_4_code 16 = .ok (.ireturn, 1) := by decide +kernel
theorem ef_rm_can (m : MethodId) (p1 : Int32) : entryFrame m #[(.int p1)] 1 = mkF m 0 #[vI p1] [] := by first | (simp [entryFrame, mkF, argsToLocals, Value.category]; done) | rfl
def Q_rm_can (Z : State) (p1 : Int32) (h0 : Heap) (n0 : Nat) (v : Option Value) (h : Heap) (L : List Loc) : Prop := v = some (.int (1 : Int32)) ∧ Fr n0 L ∧ h = h0
set_option maxRecDepth 65536 in
set_option maxHeartbeats 40000000 in
theorem rm_can (l : Launch) (Z : State) (a0 : Array Value) (hw : ∀ d ∈ tables_1, d.before a0 Z = true) (ws : List Jvm.Cond) (p1 : Int32) (h0 : Heap) (n0 : Nat) (Z0 : n0 ≤ h0.size) (hp : p1 = (94 : Int32)) :
    MetFree l (⟨"java/lang/StringLatin1", "canEncode", "(I)Z"⟩ : MethodName) (head1 (Jvm.Cond.code (⟨"java/lang/StringLatin1", "canEncode", "(I)Z"⟩ : MethodName) jdk_43_method_4_code 1 (some .boolean) :: ws) ({ frames := 0, cells := 0, slots := 0, locals := 0 } : Room)) (fun a U => a = #[(.int p1)] ∧ Z.Warmed39 U.vm ∧ U.heap = h0) (fun _ _ _ _ _ => True) (fun _ U oC U' => ∃ v L, oC = .returned v ∧ Q_rm_can Z p1 h0 n0 v U'.heap L ∧ FrameEnd U oC U' L ({ frames := 0, cells := 0, slots := 0, locals := 0 } : Room).cells ({ frames := 0, cells := 0, slots := 0, locals := 0 } : Room).slots) := by
  refine MetFree.of_bodySF (plainFor_of_name pn_2) hisR ?_
  intro p e s m args below meth c s₁ Bd hml0 hP hK
  obtain ⟨rfl, hZ, hh⟩ := hP
  have hx := Bd.exec
  have hby := Bd.bytes
  have hml : c.maxLocals = 1 := hml0
  have hown : s.vm.findClass "java/lang/StringLatin1" = some m.cls := findClass_of_methodNamed Bd.named
  have hnm := (name_of_methodNamed Bd.named Bd.method).1
  have X0 : Stand p l e ({ frames := 0, cells := 0, slots := 0, locals := 0 } : Room) s m #[(.int p1)] below meth c s₁ [] 0 0 := Stand.of_body Bd
  have e0 : s₁.heap = h0 := by rw [← hh, Bd.state]; rfl
  have N0 := Fr.nil n0
  have pre0 : ∀ tg, Steps p.tables e below (s₁.setTop (mkF m 0 #[vI p1] [])) tg → Steps p.tables e below (s₁.setTop (entryFrame m #[(.int p1)] 1)) tg := fun t k => castTop (ef_rm_can m p1) k
  have pre00 : ∀ tg, Steps p.tables e below (s₁.setTop (mkF m 0 #[vI p1] [])) tg → Steps p.tables e below (s₁.setTop (mkF m 0 #[vI p1] [])) tg := fun _ k => k
  have R197 : ∀ tg, Steps p.tables e below (s₁.setTop (mkF m 0 #[vI (94 : Int32)] [])) tg → Steps p.tables e below (s₁.setTop (mkF m 0 #[vI p1] [])) tg := by intro tg kt; refine pre00 tg ?_; rw [hp]; exact kt
  have R198 : ∀ tg, Steps p.tables e below (s₁.setTop (mkF m 16 #[vI (94 : Int32)] [(.int (1 : Int32))])) tg → Steps p.tables e below (s₁.setTop (mkF m 0 #[vI p1] [])) tg := by
    intro tg kt
    refine R197 _ ?_
    show Steps p.tables e below (s₁.setTop (mkF m 0 #[vI (94 : Int32)] [])) _
    refine XS.iloadN X0.here hx rfl (hb hby d17_0) rfl ?_
    show Steps p.tables e below (s₁.setTop (mkF m 1 #[vI (94 : Int32)] [(.int (94 : Int32))])) _
    refine XS.ifNo X0.here hx rfl (hb hby d17_1) rfl ((if0 _ _).trans (flt (by decide : ¬ ((94 : Int32) < (0 : Int32)))).1) ?_
    refine XS.iloadN X0.here hx rfl (hb hby d17_4) rfl ?_
    refine XS.sipush X0.here hx rfl (hb hby d17_5) ?_
    show Steps p.tables e below (s₁.setTop (mkF m 8 #[vI (94 : Int32)] [(.int (255 : Int32)), (.int (94 : Int32))])) _
    refine XS.icmpNo X0.here hx rfl (hb hby d17_8) rfl (flt (by decide : ¬ ((255 : Int32) < (94 : Int32)))).2.2.1 ?_
    refine XS.iconst X0.here hx rfl (hb hby d17_11) ?_
    show Steps p.tables e below (s₁.setTop (mkF m 12 #[vI (94 : Int32)] [(.int (1 : Int32))])) _
    refine XS.goto X0.here hx rfl (pc0 := 12) (pc' := 16) rfl (hb hby d17_12) (by decide) (by decide) ?_
    exact kt
  clear R197
  obtain ⟨fs, hr, hrun, hended, hW, hsame⟩ := X0.leave (v := some (.int (1 : Int32))) (fun h => by rw [Bd.returns] at h; cases h)
  refine ⟨_, _, pre0 _ (R198 _ ?_), hrun, hended, _, _, rfl, ?_, ⟨_, rfl⟩, hW, hsame.mono (by decide) (by decide)⟩
  · exact retN X0 hx (t := .boolean) Bd.returns (by simp) (hb hby d17_16) hr
  · show Q_rm_can Z p1 h0 n0 _ s₁.heap _
    rw [e0]
    exact ⟨rfl, N0, rfl⟩
theorem d20_0 : decode jdk_43_method_23_code 0 = .ok (.iload_n 1, 1) := by decide +kernel
theorem d20_1 : decode jdk_43_method_23_code 1 = .ok (.i2b, 1) := by decide +kernel
theorem d20_2 : decode jdk_43_method_23_code 2 = .ok (.istore 4, 2) := by decide +kernel
theorem d20_4 : decode jdk_43_method_23_code 4 = .ok (.iload_n 2, 1) := by decide +kernel
theorem d20_5 : decode jdk_43_method_23_code 5 = .ok (.istore 5, 2) := by decide +kernel
theorem d20_7 : decode jdk_43_method_23_code 7 = .ok (.iload 5, 2) := by decide +kernel
theorem d20_9 : decode jdk_43_method_23_code 9 = .ok (.iload_n 3, 1) := by decide +kernel
theorem d20_10 : decode jdk_43_method_23_code 10 = .ok (.if_icmp .ge 21, 3) := by decide +kernel
theorem d20_13 : decode jdk_43_method_23_code 13 = .ok (.aload_n 0, 1) := by decide +kernel
theorem d20_14 : decode jdk_43_method_23_code 14 = .ok (.iload 5, 2) := by decide +kernel
theorem d20_16 : decode jdk_43_method_23_code 16 = .ok (.baload, 1) := by decide +kernel
theorem d20_17 : decode jdk_43_method_23_code 17 = .ok (.iload 4, 2) := by decide +kernel
theorem d20_19 : decode jdk_43_method_23_code 19 = .ok (.if_icmp .ne 6, 3) := by decide +kernel
theorem d20_22 : decode jdk_43_method_23_code 22 = .ok (.iload 5, 2) := by decide +kernel
theorem d20_24 : decode jdk_43_method_23_code 24 = .ok (.ireturn, 1) := by decide +kernel
theorem d20_25 : decode jdk_43_method_23_code 25 = .ok (.iinc 5 1, 3) := by decide +kernel
theorem d20_28 : decode jdk_43_method_23_code 28 = .ok (.goto (-21), 3) := by decide +kernel
theorem d20_31 : decode jdk_43_method_23_code 31 = .ok (.iconst (-1), 1) := by decide +kernel
theorem d20_32 : decode jdk_43_method_23_code 32 = .ok (.ireturn, 1) := by decide +kernel
theorem ef_rm_ioc (m : MethodId) (a1 : Addr) (p2 : Int32) (p3 : Int32) (p4 : Int32) : entryFrame m #[(.ref a1), (.int p2), (.int p3), (.int p4)] 6 = mkF m 0 #[vR a1, vI p2, vI p3, vI p4, .unset, .unset] [] := by first | (simp [entryFrame, mkF, argsToLocals, Value.category]; done) | rfl
def Q_rm_ioc (Z : State) (a1 : Addr) (p2 : Int32) (p3 : Int32) (p4 : Int32) (n : Nat) (g : Nat → Int32) (h0 : Heap) (n0 : Nat) (v : Option Value) (h : Heap) (L : List Loc) : Prop := v = some (.int (own_ix n g)) ∧ Fr n0 L ∧ h = h0
set_option maxRecDepth 65536 in
set_option maxHeartbeats 40000000 in
theorem rm_ioc (l : Launch) (Z : State) (a0 : Array Value) (hw : ∀ d ∈ tables_1, d.before a0 Z = true) (ws : List Jvm.Cond) (a1 : Addr) (p2 : Int32) (p3 : Int32) (p4 : Int32) (n : Nat) (g : Nat → Int32) (h0 : Heap) (n0 : Nat) (Z0 : n0 ≤ h0.size) (hn : n = 1 ∨ n = 2 ∨ n = 3 ∨ n = 4) (VA : AV Z h0 a1 .byte n (fun j => .int (g j))) (hp2 : p2 = (94 : Int32)) (hp3 : p3 = (0 : Int32)) (hp4 : p4 = (n : Nat).toInt32) :
    MetFree l (⟨"java/lang/StringLatin1", "indexOfChar", "([BIII)I"⟩ : MethodName) (head1 (Jvm.Cond.code (⟨"java/lang/StringLatin1", "indexOfChar", "([BIII)I"⟩ : MethodName) jdk_43_method_23_code 6 (some .int) :: ws) ({ frames := 0, cells := 0, slots := 0, locals := 0 } : Room)) (fun a U => a = #[(.ref a1), (.int p2), (.int p3), (.int p4)] ∧ Z.Warmed39 U.vm ∧ U.heap = h0) (fun _ _ _ _ _ => True) (fun _ U oC U' => ∃ v L, oC = .returned v ∧ Q_rm_ioc Z a1 p2 p3 p4 n g h0 n0 v U'.heap L ∧ FrameEnd U oC U' L ({ frames := 0, cells := 0, slots := 0, locals := 0 } : Room).cells ({ frames := 0, cells := 0, slots := 0, locals := 0 } : Room).slots) := by
  refine MetFree.of_bodySF (plainFor_of_name pn_2) hisR ?_
  intro p e s m args below meth c s₁ Bd hml0 hP hK
  obtain ⟨rfl, hZ, hh⟩ := hP
  have hx := Bd.exec
  have hby := Bd.bytes
  have hml : c.maxLocals = 6 := hml0
  have hown : s.vm.findClass "java/lang/StringLatin1" = some m.cls := findClass_of_methodNamed Bd.named
  have hnm := (name_of_methodNamed Bd.named Bd.method).1
  have X0 : Stand p l e ({ frames := 0, cells := 0, slots := 0, locals := 0 } : Room) s m #[(.ref a1), (.int p2), (.int p3), (.int p4)] below meth c s₁ [] 0 0 := Stand.of_body Bd
  have e0 : s₁.heap = h0 := by rw [← hh, Bd.state]; rfl
  have N0 := Fr.nil n0
  have pre0 : ∀ tg, Steps p.tables e below (s₁.setTop (mkF m 0 #[vR a1, vI p2, vI p3, vI p4, .unset, .unset] [])) tg → Steps p.tables e below (s₁.setTop (entryFrame m #[(.ref a1), (.int p2), (.int p3), (.int p4)] 6)) tg := fun t k => castTop (ef_rm_ioc m a1 p2 p3 p4) k
  have pre00 : ∀ tg, Steps p.tables e below (s₁.setTop (mkF m 0 #[vR a1, vI p2, vI p3, vI p4, .unset, .unset] [])) tg → Steps p.tables e below (s₁.setTop (mkF m 0 #[vR a1, vI p2, vI p3, vI p4, .unset, .unset] [])) tg := fun _ k => k
  rcases hn with hn | hn | hn | hn
  · rw [hn] at VA hp4
    have hp4 : p4 = (1 : Int32) := hp4
    have R199 : ∀ tg, Steps p.tables e below (s₁.setTop (mkF m 0 #[vR a1, vI (94 : Int32), vI (0 : Int32), vI (1 : Int32), .unset, .unset] [])) tg → Steps p.tables e below (s₁.setTop (mkF m 0 #[vR a1, vI p2, vI p3, vI p4, .unset, .unset] [])) tg := by intro tg kt; refine pre00 tg ?_; rw [hp2, hp3, hp4]; exact kt
    have R200 : ∀ tg, Steps p.tables e below (s₁.setTop (mkF m 4 #[vR a1, vI (94 : Int32), vI (0 : Int32), vI (1 : Int32), vI ((94 : Int32).toInt8.toInt32), .unset] [])) tg → Steps p.tables e below (s₁.setTop (mkF m 0 #[vR a1, vI p2, vI p3, vI p4, .unset, .unset] [])) tg := by
      intro tg kt
      refine R199 _ ?_
      show Steps p.tables e below (s₁.setTop (mkF m 0 #[vR a1, vI (94 : Int32), vI (0 : Int32), vI (1 : Int32), .unset, .unset] [])) _
      refine XS.iloadN X0.here hx rfl (hb hby d20_0) rfl ?_
      show Steps p.tables e below (s₁.setTop (mkF m 1 #[vR a1, vI (94 : Int32), vI (0 : Int32), vI (1 : Int32), .unset, .unset] [(.int (94 : Int32))])) _
      refine XS.i2b X0.here hx rfl (hb hby d20_1) rfl ?_
      show Steps p.tables e below (s₁.setTop (mkF m 2 #[vR a1, vI (94 : Int32), vI (0 : Int32), vI (1 : Int32), .unset, .unset] [(.int ((94 : Int32).toInt8.toInt32))])) _
      refine XS.istore X0.here hx rfl (hb hby d20_2) rfl (l' := #[vR a1, vI (94 : Int32), vI (0 : Int32), vI (1 : Int32), vI ((94 : Int32).toInt8.toInt32), .unset]) rfl ?_
      exact kt
    clear R199
    have R201 : ∀ tg, Steps p.tables e below (s₁.setTop (mkF m 4 #[vR a1, vI (94 : Int32), vI (0 : Int32), vI (1 : Int32), vI (94 : Int32), .unset] [])) tg → Steps p.tables e below (s₁.setTop (mkF m 0 #[vR a1, vI p2, vI p3, vI p4, .unset, .unset] [])) tg := R200
    have R202 : ∀ tg, Steps p.tables e below (s₁.setTop (mkF m 16 #[vR a1, vI (94 : Int32), vI (0 : Int32), vI (1 : Int32), vI (94 : Int32), vI (0 : Int32)] [(.int (0 : Int32)), (.ref a1)])) tg → Steps p.tables e below (s₁.setTop (mkF m 0 #[vR a1, vI p2, vI p3, vI p4, .unset, .unset] [])) tg := by
      intro tg kt
      refine R201 _ ?_
      show Steps p.tables e below (s₁.setTop (mkF m 4 #[vR a1, vI (94 : Int32), vI (0 : Int32), vI (1 : Int32), vI (94 : Int32), .unset] [])) _
      refine XS.iloadN X0.here hx rfl (hb hby d20_4) rfl ?_
      show Steps p.tables e below (s₁.setTop (mkF m 5 #[vR a1, vI (94 : Int32), vI (0 : Int32), vI (1 : Int32), vI (94 : Int32), .unset] [(.int (0 : Int32))])) _
      refine XS.istore X0.here hx rfl (hb hby d20_5) rfl (l' := #[vR a1, vI (94 : Int32), vI (0 : Int32), vI (1 : Int32), vI (94 : Int32), vI (0 : Int32)]) rfl ?_
      refine XS.iload X0.here hx rfl (hb hby d20_7) rfl ?_
      refine XS.iloadN X0.here hx rfl (hb hby d20_9) rfl ?_
      show Steps p.tables e below (s₁.setTop (mkF m 10 #[vR a1, vI (94 : Int32), vI (0 : Int32), vI (1 : Int32), vI (94 : Int32), vI (0 : Int32)] [(.int (1 : Int32)), (.int (0 : Int32))])) _
      refine XS.icmpNo X0.here hx rfl (hb hby d20_10) rfl (tlt (by decide : (0 : Int32) < (1 : Int32))).2.1 ?_
      refine XS.aloadN X0.here hx rfl (hb hby d20_13) rfl rfl ?_
      refine XS.iload X0.here hx rfl (hb hby d20_14) rfl ?_
      exact kt
    clear R201
    obtain ⟨cl203, Ar203, hin203, hat203⟩ := VA.at (j := (0 : Int32)) (k := 0) (by decide) rfl (by decide)
    have R204 : ∀ tg, Steps p.tables e below (s₁.setTop (mkF m 19 #[vR a1, vI (94 : Int32), vI (0 : Int32), vI (1 : Int32), vI (94 : Int32), vI (0 : Int32)] [(.int (94 : Int32)), (.int (g 0))])) tg → Steps p.tables e below (s₁.setTop (mkF m 0 #[vR a1, vI p2, vI p3, vI p4, .unset, .unset] [])) tg := by
      intro tg kt
      refine R202 _ ?_
      show Steps p.tables e below (s₁.setTop (mkF m 16 #[vR a1, vI (94 : Int32), vI (0 : Int32), vI (1 : Int32), vI (94 : Int32), vI (0 : Int32)] [(.int (0 : Int32)), (.ref a1)])) _
      refine X0.baloadBytes hx (j := (0 : Int32)) (v := (.int (g 0))) (by rw [e0]; exact Ar203.1) (State.isArrayOf_alike hZ.alike Ar203.2.1) Ar203.2.2 hin203 hat203 (g := (mkF m 16 #[vR a1, vI (94 : Int32), vI (0 : Int32), vI (1 : Int32), vI (94 : Int32), vI (0 : Int32)] [(.int (0 : Int32)), (.ref a1)])) rfl rfl (hb hby d20_16) _ ?_
      refine XS.iload X0.here hx rfl (hb hby d20_17) rfl ?_
      exact kt
    clear R202
    by_cases hv0 : (g 0) = (94 : Int32)
    · have R205 : ∀ tg, Steps p.tables e below (s₁.setTop (mkF m 24 #[vR a1, vI (94 : Int32), vI (0 : Int32), vI (1 : Int32), vI (94 : Int32), vI (0 : Int32)] [(.int (0 : Int32))])) tg → Steps p.tables e below (s₁.setTop (mkF m 0 #[vR a1, vI p2, vI p3, vI p4, .unset, .unset] [])) tg := by
        intro tg kt
        refine R204 _ ?_
        show Steps p.tables e below (s₁.setTop (mkF m 19 #[vR a1, vI (94 : Int32), vI (0 : Int32), vI (1 : Int32), vI (94 : Int32), vI (0 : Int32)] [(.int (94 : Int32)), (.int (g 0))])) _
        refine XS.icmpNo X0.here hx rfl (hb hby d20_19) rfl (teq (hv0 : (g 0) = (94 : Int32))).2 ?_
        refine XS.iload X0.here hx rfl (hb hby d20_22) rfl ?_
        exact kt
      clear R204
      obtain ⟨fs, hr, hrun, hended, hW, hsame⟩ := X0.leave (v := some (.int (0 : Int32))) (fun h => by rw [Bd.returns] at h; cases h)
      refine ⟨_, _, pre0 _ (R205 _ ?_), hrun, hended, _, _, rfl, ?_, ⟨_, rfl⟩, hW, hsame.mono (by decide) (by decide)⟩
      · exact retI X0 hx Bd.returns (hb hby d20_24) hr
      · show Q_rm_ioc Z a1 p2 p3 p4 n g h0 n0 _ s₁.heap _
        rw [e0]
        exact ⟨by rw [hn, own_ix1, if_pos hv0], N0, rfl⟩
    · have R206 : ∀ tg, Steps p.tables e below (s₁.setTop (mkF m 7 #[vR a1, vI (94 : Int32), vI (0 : Int32), vI (1 : Int32), vI (94 : Int32), vI ((0 : Int32) + (1 : Int32))] [])) tg → Steps p.tables e below (s₁.setTop (mkF m 0 #[vR a1, vI p2, vI p3, vI p4, .unset, .unset] [])) tg := by
        intro tg kt
        refine R204 _ ?_
        show Steps p.tables e below (s₁.setTop (mkF m 19 #[vR a1, vI (94 : Int32), vI (0 : Int32), vI (1 : Int32), vI (94 : Int32), vI (0 : Int32)] [(.int (94 : Int32)), (.int (g 0))])) _
        refine XS.icmpYes X0.here hx rfl (pc0 := 19) (pc' := 25) rfl (hb hby d20_19) rfl (feq (hv0 : ¬ ((g 0) = (94 : Int32)))).2 (by decide) (by decide) ?_
        show Steps p.tables e below (s₁.setTop (mkF m 25 #[vR a1, vI (94 : Int32), vI (0 : Int32), vI (1 : Int32), vI (94 : Int32), vI (0 : Int32)] [])) _
        refine XS.iinc X0.here hx rfl (hb hby d20_25) rfl (l' := #[vR a1, vI (94 : Int32), vI (0 : Int32), vI (1 : Int32), vI (94 : Int32), vI ((0 : Int32) + (1 : Int32))]) rfl ?_
        show Steps p.tables e below (s₁.setTop (mkF m 28 #[vR a1, vI (94 : Int32), vI (0 : Int32), vI (1 : Int32), vI (94 : Int32), vI ((0 : Int32) + (1 : Int32))] [])) _
        refine XS.goto X0.here hx rfl (pc0 := 28) (pc' := 7) rfl (hb hby d20_28) (by decide) (by decide) ?_
        exact kt
      clear R204
      have R207 : ∀ tg, Steps p.tables e below (s₁.setTop (mkF m 7 #[vR a1, vI (94 : Int32), vI (0 : Int32), vI (1 : Int32), vI (94 : Int32), vI (1 : Int32)] [])) tg → Steps p.tables e below (s₁.setTop (mkF m 0 #[vR a1, vI p2, vI p3, vI p4, .unset, .unset] [])) tg := R206
      have R208 : ∀ tg, Steps p.tables e below (s₁.setTop (mkF m 32 #[vR a1, vI (94 : Int32), vI (0 : Int32), vI (1 : Int32), vI (94 : Int32), vI (1 : Int32)] [(.int (-1 : Int32))])) tg → Steps p.tables e below (s₁.setTop (mkF m 0 #[vR a1, vI p2, vI p3, vI p4, .unset, .unset] [])) tg := by
        intro tg kt
        refine R207 _ ?_
        show Steps p.tables e below (s₁.setTop (mkF m 7 #[vR a1, vI (94 : Int32), vI (0 : Int32), vI (1 : Int32), vI (94 : Int32), vI (1 : Int32)] [])) _
        refine XS.iload X0.here hx rfl (hb hby d20_7) rfl ?_
        refine XS.iloadN X0.here hx rfl (hb hby d20_9) rfl ?_
        show Steps p.tables e below (s₁.setTop (mkF m 10 #[vR a1, vI (94 : Int32), vI (0 : Int32), vI (1 : Int32), vI (94 : Int32), vI (1 : Int32)] [(.int (1 : Int32)), (.int (1 : Int32))])) _
        refine XS.icmpYes X0.here hx rfl (pc0 := 10) (pc' := 31) rfl (hb hby d20_10) rfl (flt (by decide : ¬ ((1 : Int32) < (1 : Int32)))).2.1 (by decide) (by decide) ?_
        refine XS.iconst X0.here hx rfl (hb hby d20_31) ?_
        exact kt
      clear R207
      obtain ⟨fs, hr, hrun, hended, hW, hsame⟩ := X0.leave (v := some (.int (-1 : Int32))) (fun h => by rw [Bd.returns] at h; cases h)
      refine ⟨_, _, pre0 _ (R208 _ ?_), hrun, hended, _, _, rfl, ?_, ⟨_, rfl⟩, hW, hsame.mono (by decide) (by decide)⟩
      · exact retI X0 hx Bd.returns (hb hby d20_32) hr
      · show Q_rm_ioc Z a1 p2 p3 p4 n g h0 n0 _ s₁.heap _
        rw [e0]
        exact ⟨by rw [hn, own_ix1, if_neg hv0], N0, rfl⟩
  · rw [hn] at VA hp4
    have hp4 : p4 = (2 : Int32) := hp4
    have R209 : ∀ tg, Steps p.tables e below (s₁.setTop (mkF m 0 #[vR a1, vI (94 : Int32), vI (0 : Int32), vI (2 : Int32), .unset, .unset] [])) tg → Steps p.tables e below (s₁.setTop (mkF m 0 #[vR a1, vI p2, vI p3, vI p4, .unset, .unset] [])) tg := by intro tg kt; refine pre00 tg ?_; rw [hp2, hp3, hp4]; exact kt
    have R210 : ∀ tg, Steps p.tables e below (s₁.setTop (mkF m 4 #[vR a1, vI (94 : Int32), vI (0 : Int32), vI (2 : Int32), vI ((94 : Int32).toInt8.toInt32), .unset] [])) tg → Steps p.tables e below (s₁.setTop (mkF m 0 #[vR a1, vI p2, vI p3, vI p4, .unset, .unset] [])) tg := by
      intro tg kt
      refine R209 _ ?_
      show Steps p.tables e below (s₁.setTop (mkF m 0 #[vR a1, vI (94 : Int32), vI (0 : Int32), vI (2 : Int32), .unset, .unset] [])) _
      refine XS.iloadN X0.here hx rfl (hb hby d20_0) rfl ?_
      show Steps p.tables e below (s₁.setTop (mkF m 1 #[vR a1, vI (94 : Int32), vI (0 : Int32), vI (2 : Int32), .unset, .unset] [(.int (94 : Int32))])) _
      refine XS.i2b X0.here hx rfl (hb hby d20_1) rfl ?_
      show Steps p.tables e below (s₁.setTop (mkF m 2 #[vR a1, vI (94 : Int32), vI (0 : Int32), vI (2 : Int32), .unset, .unset] [(.int ((94 : Int32).toInt8.toInt32))])) _
      refine XS.istore X0.here hx rfl (hb hby d20_2) rfl (l' := #[vR a1, vI (94 : Int32), vI (0 : Int32), vI (2 : Int32), vI ((94 : Int32).toInt8.toInt32), .unset]) rfl ?_
      exact kt
    clear R209
    have R211 : ∀ tg, Steps p.tables e below (s₁.setTop (mkF m 4 #[vR a1, vI (94 : Int32), vI (0 : Int32), vI (2 : Int32), vI (94 : Int32), .unset] [])) tg → Steps p.tables e below (s₁.setTop (mkF m 0 #[vR a1, vI p2, vI p3, vI p4, .unset, .unset] [])) tg := R210
    have R212 : ∀ tg, Steps p.tables e below (s₁.setTop (mkF m 16 #[vR a1, vI (94 : Int32), vI (0 : Int32), vI (2 : Int32), vI (94 : Int32), vI (0 : Int32)] [(.int (0 : Int32)), (.ref a1)])) tg → Steps p.tables e below (s₁.setTop (mkF m 0 #[vR a1, vI p2, vI p3, vI p4, .unset, .unset] [])) tg := by
      intro tg kt
      refine R211 _ ?_
      show Steps p.tables e below (s₁.setTop (mkF m 4 #[vR a1, vI (94 : Int32), vI (0 : Int32), vI (2 : Int32), vI (94 : Int32), .unset] [])) _
      refine XS.iloadN X0.here hx rfl (hb hby d20_4) rfl ?_
      show Steps p.tables e below (s₁.setTop (mkF m 5 #[vR a1, vI (94 : Int32), vI (0 : Int32), vI (2 : Int32), vI (94 : Int32), .unset] [(.int (0 : Int32))])) _
      refine XS.istore X0.here hx rfl (hb hby d20_5) rfl (l' := #[vR a1, vI (94 : Int32), vI (0 : Int32), vI (2 : Int32), vI (94 : Int32), vI (0 : Int32)]) rfl ?_
      refine XS.iload X0.here hx rfl (hb hby d20_7) rfl ?_
      refine XS.iloadN X0.here hx rfl (hb hby d20_9) rfl ?_
      show Steps p.tables e below (s₁.setTop (mkF m 10 #[vR a1, vI (94 : Int32), vI (0 : Int32), vI (2 : Int32), vI (94 : Int32), vI (0 : Int32)] [(.int (2 : Int32)), (.int (0 : Int32))])) _
      refine XS.icmpNo X0.here hx rfl (hb hby d20_10) rfl (tlt (by decide : (0 : Int32) < (2 : Int32))).2.1 ?_
      refine XS.aloadN X0.here hx rfl (hb hby d20_13) rfl rfl ?_
      refine XS.iload X0.here hx rfl (hb hby d20_14) rfl ?_
      exact kt
    clear R211
    obtain ⟨cl213, Ar213, hin213, hat213⟩ := VA.at (j := (0 : Int32)) (k := 0) (by decide) rfl (by decide)
    have R214 : ∀ tg, Steps p.tables e below (s₁.setTop (mkF m 19 #[vR a1, vI (94 : Int32), vI (0 : Int32), vI (2 : Int32), vI (94 : Int32), vI (0 : Int32)] [(.int (94 : Int32)), (.int (g 0))])) tg → Steps p.tables e below (s₁.setTop (mkF m 0 #[vR a1, vI p2, vI p3, vI p4, .unset, .unset] [])) tg := by
      intro tg kt
      refine R212 _ ?_
      show Steps p.tables e below (s₁.setTop (mkF m 16 #[vR a1, vI (94 : Int32), vI (0 : Int32), vI (2 : Int32), vI (94 : Int32), vI (0 : Int32)] [(.int (0 : Int32)), (.ref a1)])) _
      refine X0.baloadBytes hx (j := (0 : Int32)) (v := (.int (g 0))) (by rw [e0]; exact Ar213.1) (State.isArrayOf_alike hZ.alike Ar213.2.1) Ar213.2.2 hin213 hat213 (g := (mkF m 16 #[vR a1, vI (94 : Int32), vI (0 : Int32), vI (2 : Int32), vI (94 : Int32), vI (0 : Int32)] [(.int (0 : Int32)), (.ref a1)])) rfl rfl (hb hby d20_16) _ ?_
      refine XS.iload X0.here hx rfl (hb hby d20_17) rfl ?_
      exact kt
    clear R212
    by_cases hv0 : (g 0) = (94 : Int32)
    · have R215 : ∀ tg, Steps p.tables e below (s₁.setTop (mkF m 24 #[vR a1, vI (94 : Int32), vI (0 : Int32), vI (2 : Int32), vI (94 : Int32), vI (0 : Int32)] [(.int (0 : Int32))])) tg → Steps p.tables e below (s₁.setTop (mkF m 0 #[vR a1, vI p2, vI p3, vI p4, .unset, .unset] [])) tg := by
        intro tg kt
        refine R214 _ ?_
        show Steps p.tables e below (s₁.setTop (mkF m 19 #[vR a1, vI (94 : Int32), vI (0 : Int32), vI (2 : Int32), vI (94 : Int32), vI (0 : Int32)] [(.int (94 : Int32)), (.int (g 0))])) _
        refine XS.icmpNo X0.here hx rfl (hb hby d20_19) rfl (teq (hv0 : (g 0) = (94 : Int32))).2 ?_
        refine XS.iload X0.here hx rfl (hb hby d20_22) rfl ?_
        exact kt
      clear R214
      obtain ⟨fs, hr, hrun, hended, hW, hsame⟩ := X0.leave (v := some (.int (0 : Int32))) (fun h => by rw [Bd.returns] at h; cases h)
      refine ⟨_, _, pre0 _ (R215 _ ?_), hrun, hended, _, _, rfl, ?_, ⟨_, rfl⟩, hW, hsame.mono (by decide) (by decide)⟩
      · exact retI X0 hx Bd.returns (hb hby d20_24) hr
      · show Q_rm_ioc Z a1 p2 p3 p4 n g h0 n0 _ s₁.heap _
        rw [e0]
        exact ⟨by rw [hn, own_ix2, if_pos hv0], N0, rfl⟩
    · have R216 : ∀ tg, Steps p.tables e below (s₁.setTop (mkF m 7 #[vR a1, vI (94 : Int32), vI (0 : Int32), vI (2 : Int32), vI (94 : Int32), vI ((0 : Int32) + (1 : Int32))] [])) tg → Steps p.tables e below (s₁.setTop (mkF m 0 #[vR a1, vI p2, vI p3, vI p4, .unset, .unset] [])) tg := by
        intro tg kt
        refine R214 _ ?_
        show Steps p.tables e below (s₁.setTop (mkF m 19 #[vR a1, vI (94 : Int32), vI (0 : Int32), vI (2 : Int32), vI (94 : Int32), vI (0 : Int32)] [(.int (94 : Int32)), (.int (g 0))])) _
        refine XS.icmpYes X0.here hx rfl (pc0 := 19) (pc' := 25) rfl (hb hby d20_19) rfl (feq (hv0 : ¬ ((g 0) = (94 : Int32)))).2 (by decide) (by decide) ?_
        show Steps p.tables e below (s₁.setTop (mkF m 25 #[vR a1, vI (94 : Int32), vI (0 : Int32), vI (2 : Int32), vI (94 : Int32), vI (0 : Int32)] [])) _
        refine XS.iinc X0.here hx rfl (hb hby d20_25) rfl (l' := #[vR a1, vI (94 : Int32), vI (0 : Int32), vI (2 : Int32), vI (94 : Int32), vI ((0 : Int32) + (1 : Int32))]) rfl ?_
        show Steps p.tables e below (s₁.setTop (mkF m 28 #[vR a1, vI (94 : Int32), vI (0 : Int32), vI (2 : Int32), vI (94 : Int32), vI ((0 : Int32) + (1 : Int32))] [])) _
        refine XS.goto X0.here hx rfl (pc0 := 28) (pc' := 7) rfl (hb hby d20_28) (by decide) (by decide) ?_
        exact kt
      clear R214
      have R217 : ∀ tg, Steps p.tables e below (s₁.setTop (mkF m 7 #[vR a1, vI (94 : Int32), vI (0 : Int32), vI (2 : Int32), vI (94 : Int32), vI (1 : Int32)] [])) tg → Steps p.tables e below (s₁.setTop (mkF m 0 #[vR a1, vI p2, vI p3, vI p4, .unset, .unset] [])) tg := R216
      have R218 : ∀ tg, Steps p.tables e below (s₁.setTop (mkF m 16 #[vR a1, vI (94 : Int32), vI (0 : Int32), vI (2 : Int32), vI (94 : Int32), vI (1 : Int32)] [(.int (1 : Int32)), (.ref a1)])) tg → Steps p.tables e below (s₁.setTop (mkF m 0 #[vR a1, vI p2, vI p3, vI p4, .unset, .unset] [])) tg := by
        intro tg kt
        refine R217 _ ?_
        show Steps p.tables e below (s₁.setTop (mkF m 7 #[vR a1, vI (94 : Int32), vI (0 : Int32), vI (2 : Int32), vI (94 : Int32), vI (1 : Int32)] [])) _
        refine XS.iload X0.here hx rfl (hb hby d20_7) rfl ?_
        refine XS.iloadN X0.here hx rfl (hb hby d20_9) rfl ?_
        show Steps p.tables e below (s₁.setTop (mkF m 10 #[vR a1, vI (94 : Int32), vI (0 : Int32), vI (2 : Int32), vI (94 : Int32), vI (1 : Int32)] [(.int (2 : Int32)), (.int (1 : Int32))])) _
        refine XS.icmpNo X0.here hx rfl (hb hby d20_10) rfl (tlt (by decide : (1 : Int32) < (2 : Int32))).2.1 ?_
        refine XS.aloadN X0.here hx rfl (hb hby d20_13) rfl rfl ?_
        refine XS.iload X0.here hx rfl (hb hby d20_14) rfl ?_
        exact kt
      clear R217
      obtain ⟨cl219, Ar219, hin219, hat219⟩ := VA.at (j := (1 : Int32)) (k := 1) (by decide) rfl (by decide)
      have R220 : ∀ tg, Steps p.tables e below (s₁.setTop (mkF m 19 #[vR a1, vI (94 : Int32), vI (0 : Int32), vI (2 : Int32), vI (94 : Int32), vI (1 : Int32)] [(.int (94 : Int32)), (.int (g 1))])) tg → Steps p.tables e below (s₁.setTop (mkF m 0 #[vR a1, vI p2, vI p3, vI p4, .unset, .unset] [])) tg := by
        intro tg kt
        refine R218 _ ?_
        show Steps p.tables e below (s₁.setTop (mkF m 16 #[vR a1, vI (94 : Int32), vI (0 : Int32), vI (2 : Int32), vI (94 : Int32), vI (1 : Int32)] [(.int (1 : Int32)), (.ref a1)])) _
        refine X0.baloadBytes hx (j := (1 : Int32)) (v := (.int (g 1))) (by rw [e0]; exact Ar219.1) (State.isArrayOf_alike hZ.alike Ar219.2.1) Ar219.2.2 hin219 hat219 (g := (mkF m 16 #[vR a1, vI (94 : Int32), vI (0 : Int32), vI (2 : Int32), vI (94 : Int32), vI (1 : Int32)] [(.int (1 : Int32)), (.ref a1)])) rfl rfl (hb hby d20_16) _ ?_
        refine XS.iload X0.here hx rfl (hb hby d20_17) rfl ?_
        exact kt
      clear R218
      by_cases hv1 : (g 1) = (94 : Int32)
      · have R221 : ∀ tg, Steps p.tables e below (s₁.setTop (mkF m 24 #[vR a1, vI (94 : Int32), vI (0 : Int32), vI (2 : Int32), vI (94 : Int32), vI (1 : Int32)] [(.int (1 : Int32))])) tg → Steps p.tables e below (s₁.setTop (mkF m 0 #[vR a1, vI p2, vI p3, vI p4, .unset, .unset] [])) tg := by
          intro tg kt
          refine R220 _ ?_
          show Steps p.tables e below (s₁.setTop (mkF m 19 #[vR a1, vI (94 : Int32), vI (0 : Int32), vI (2 : Int32), vI (94 : Int32), vI (1 : Int32)] [(.int (94 : Int32)), (.int (g 1))])) _
          refine XS.icmpNo X0.here hx rfl (hb hby d20_19) rfl (teq (hv1 : (g 1) = (94 : Int32))).2 ?_
          refine XS.iload X0.here hx rfl (hb hby d20_22) rfl ?_
          exact kt
        clear R220
        obtain ⟨fs, hr, hrun, hended, hW, hsame⟩ := X0.leave (v := some (.int (1 : Int32))) (fun h => by rw [Bd.returns] at h; cases h)
        refine ⟨_, _, pre0 _ (R221 _ ?_), hrun, hended, _, _, rfl, ?_, ⟨_, rfl⟩, hW, hsame.mono (by decide) (by decide)⟩
        · exact retI X0 hx Bd.returns (hb hby d20_24) hr
        · show Q_rm_ioc Z a1 p2 p3 p4 n g h0 n0 _ s₁.heap _
          rw [e0]
          exact ⟨by rw [hn, own_ix2, if_neg hv0, if_pos hv1], N0, rfl⟩
      · have R222 : ∀ tg, Steps p.tables e below (s₁.setTop (mkF m 7 #[vR a1, vI (94 : Int32), vI (0 : Int32), vI (2 : Int32), vI (94 : Int32), vI ((1 : Int32) + (1 : Int32))] [])) tg → Steps p.tables e below (s₁.setTop (mkF m 0 #[vR a1, vI p2, vI p3, vI p4, .unset, .unset] [])) tg := by
          intro tg kt
          refine R220 _ ?_
          show Steps p.tables e below (s₁.setTop (mkF m 19 #[vR a1, vI (94 : Int32), vI (0 : Int32), vI (2 : Int32), vI (94 : Int32), vI (1 : Int32)] [(.int (94 : Int32)), (.int (g 1))])) _
          refine XS.icmpYes X0.here hx rfl (pc0 := 19) (pc' := 25) rfl (hb hby d20_19) rfl (feq (hv1 : ¬ ((g 1) = (94 : Int32)))).2 (by decide) (by decide) ?_
          show Steps p.tables e below (s₁.setTop (mkF m 25 #[vR a1, vI (94 : Int32), vI (0 : Int32), vI (2 : Int32), vI (94 : Int32), vI (1 : Int32)] [])) _
          refine XS.iinc X0.here hx rfl (hb hby d20_25) rfl (l' := #[vR a1, vI (94 : Int32), vI (0 : Int32), vI (2 : Int32), vI (94 : Int32), vI ((1 : Int32) + (1 : Int32))]) rfl ?_
          show Steps p.tables e below (s₁.setTop (mkF m 28 #[vR a1, vI (94 : Int32), vI (0 : Int32), vI (2 : Int32), vI (94 : Int32), vI ((1 : Int32) + (1 : Int32))] [])) _
          refine XS.goto X0.here hx rfl (pc0 := 28) (pc' := 7) rfl (hb hby d20_28) (by decide) (by decide) ?_
          exact kt
        clear R220
        have R223 : ∀ tg, Steps p.tables e below (s₁.setTop (mkF m 7 #[vR a1, vI (94 : Int32), vI (0 : Int32), vI (2 : Int32), vI (94 : Int32), vI (2 : Int32)] [])) tg → Steps p.tables e below (s₁.setTop (mkF m 0 #[vR a1, vI p2, vI p3, vI p4, .unset, .unset] [])) tg := R222
        have R224 : ∀ tg, Steps p.tables e below (s₁.setTop (mkF m 32 #[vR a1, vI (94 : Int32), vI (0 : Int32), vI (2 : Int32), vI (94 : Int32), vI (2 : Int32)] [(.int (-1 : Int32))])) tg → Steps p.tables e below (s₁.setTop (mkF m 0 #[vR a1, vI p2, vI p3, vI p4, .unset, .unset] [])) tg := by
          intro tg kt
          refine R223 _ ?_
          show Steps p.tables e below (s₁.setTop (mkF m 7 #[vR a1, vI (94 : Int32), vI (0 : Int32), vI (2 : Int32), vI (94 : Int32), vI (2 : Int32)] [])) _
          refine XS.iload X0.here hx rfl (hb hby d20_7) rfl ?_
          refine XS.iloadN X0.here hx rfl (hb hby d20_9) rfl ?_
          show Steps p.tables e below (s₁.setTop (mkF m 10 #[vR a1, vI (94 : Int32), vI (0 : Int32), vI (2 : Int32), vI (94 : Int32), vI (2 : Int32)] [(.int (2 : Int32)), (.int (2 : Int32))])) _
          refine XS.icmpYes X0.here hx rfl (pc0 := 10) (pc' := 31) rfl (hb hby d20_10) rfl (flt (by decide : ¬ ((2 : Int32) < (2 : Int32)))).2.1 (by decide) (by decide) ?_
          refine XS.iconst X0.here hx rfl (hb hby d20_31) ?_
          exact kt
        clear R223
        obtain ⟨fs, hr, hrun, hended, hW, hsame⟩ := X0.leave (v := some (.int (-1 : Int32))) (fun h => by rw [Bd.returns] at h; cases h)
        refine ⟨_, _, pre0 _ (R224 _ ?_), hrun, hended, _, _, rfl, ?_, ⟨_, rfl⟩, hW, hsame.mono (by decide) (by decide)⟩
        · exact retI X0 hx Bd.returns (hb hby d20_32) hr
        · show Q_rm_ioc Z a1 p2 p3 p4 n g h0 n0 _ s₁.heap _
          rw [e0]
          exact ⟨by rw [hn, own_ix2, if_neg hv0, if_neg hv1], N0, rfl⟩
  · rw [hn] at VA hp4
    have hp4 : p4 = (3 : Int32) := hp4
    have R225 : ∀ tg, Steps p.tables e below (s₁.setTop (mkF m 0 #[vR a1, vI (94 : Int32), vI (0 : Int32), vI (3 : Int32), .unset, .unset] [])) tg → Steps p.tables e below (s₁.setTop (mkF m 0 #[vR a1, vI p2, vI p3, vI p4, .unset, .unset] [])) tg := by intro tg kt; refine pre00 tg ?_; rw [hp2, hp3, hp4]; exact kt
    have R226 : ∀ tg, Steps p.tables e below (s₁.setTop (mkF m 4 #[vR a1, vI (94 : Int32), vI (0 : Int32), vI (3 : Int32), vI ((94 : Int32).toInt8.toInt32), .unset] [])) tg → Steps p.tables e below (s₁.setTop (mkF m 0 #[vR a1, vI p2, vI p3, vI p4, .unset, .unset] [])) tg := by
      intro tg kt
      refine R225 _ ?_
      show Steps p.tables e below (s₁.setTop (mkF m 0 #[vR a1, vI (94 : Int32), vI (0 : Int32), vI (3 : Int32), .unset, .unset] [])) _
      refine XS.iloadN X0.here hx rfl (hb hby d20_0) rfl ?_
      show Steps p.tables e below (s₁.setTop (mkF m 1 #[vR a1, vI (94 : Int32), vI (0 : Int32), vI (3 : Int32), .unset, .unset] [(.int (94 : Int32))])) _
      refine XS.i2b X0.here hx rfl (hb hby d20_1) rfl ?_
      show Steps p.tables e below (s₁.setTop (mkF m 2 #[vR a1, vI (94 : Int32), vI (0 : Int32), vI (3 : Int32), .unset, .unset] [(.int ((94 : Int32).toInt8.toInt32))])) _
      refine XS.istore X0.here hx rfl (hb hby d20_2) rfl (l' := #[vR a1, vI (94 : Int32), vI (0 : Int32), vI (3 : Int32), vI ((94 : Int32).toInt8.toInt32), .unset]) rfl ?_
      exact kt
    clear R225
    have R227 : ∀ tg, Steps p.tables e below (s₁.setTop (mkF m 4 #[vR a1, vI (94 : Int32), vI (0 : Int32), vI (3 : Int32), vI (94 : Int32), .unset] [])) tg → Steps p.tables e below (s₁.setTop (mkF m 0 #[vR a1, vI p2, vI p3, vI p4, .unset, .unset] [])) tg := R226
    have R228 : ∀ tg, Steps p.tables e below (s₁.setTop (mkF m 16 #[vR a1, vI (94 : Int32), vI (0 : Int32), vI (3 : Int32), vI (94 : Int32), vI (0 : Int32)] [(.int (0 : Int32)), (.ref a1)])) tg → Steps p.tables e below (s₁.setTop (mkF m 0 #[vR a1, vI p2, vI p3, vI p4, .unset, .unset] [])) tg := by
      intro tg kt
      refine R227 _ ?_
      show Steps p.tables e below (s₁.setTop (mkF m 4 #[vR a1, vI (94 : Int32), vI (0 : Int32), vI (3 : Int32), vI (94 : Int32), .unset] [])) _
      refine XS.iloadN X0.here hx rfl (hb hby d20_4) rfl ?_
      show Steps p.tables e below (s₁.setTop (mkF m 5 #[vR a1, vI (94 : Int32), vI (0 : Int32), vI (3 : Int32), vI (94 : Int32), .unset] [(.int (0 : Int32))])) _
      refine XS.istore X0.here hx rfl (hb hby d20_5) rfl (l' := #[vR a1, vI (94 : Int32), vI (0 : Int32), vI (3 : Int32), vI (94 : Int32), vI (0 : Int32)]) rfl ?_
      refine XS.iload X0.here hx rfl (hb hby d20_7) rfl ?_
      refine XS.iloadN X0.here hx rfl (hb hby d20_9) rfl ?_
      show Steps p.tables e below (s₁.setTop (mkF m 10 #[vR a1, vI (94 : Int32), vI (0 : Int32), vI (3 : Int32), vI (94 : Int32), vI (0 : Int32)] [(.int (3 : Int32)), (.int (0 : Int32))])) _
      refine XS.icmpNo X0.here hx rfl (hb hby d20_10) rfl (tlt (by decide : (0 : Int32) < (3 : Int32))).2.1 ?_
      refine XS.aloadN X0.here hx rfl (hb hby d20_13) rfl rfl ?_
      refine XS.iload X0.here hx rfl (hb hby d20_14) rfl ?_
      exact kt
    clear R227
    obtain ⟨cl229, Ar229, hin229, hat229⟩ := VA.at (j := (0 : Int32)) (k := 0) (by decide) rfl (by decide)
    have R230 : ∀ tg, Steps p.tables e below (s₁.setTop (mkF m 19 #[vR a1, vI (94 : Int32), vI (0 : Int32), vI (3 : Int32), vI (94 : Int32), vI (0 : Int32)] [(.int (94 : Int32)), (.int (g 0))])) tg → Steps p.tables e below (s₁.setTop (mkF m 0 #[vR a1, vI p2, vI p3, vI p4, .unset, .unset] [])) tg := by
      intro tg kt
      refine R228 _ ?_
      show Steps p.tables e below (s₁.setTop (mkF m 16 #[vR a1, vI (94 : Int32), vI (0 : Int32), vI (3 : Int32), vI (94 : Int32), vI (0 : Int32)] [(.int (0 : Int32)), (.ref a1)])) _
      refine X0.baloadBytes hx (j := (0 : Int32)) (v := (.int (g 0))) (by rw [e0]; exact Ar229.1) (State.isArrayOf_alike hZ.alike Ar229.2.1) Ar229.2.2 hin229 hat229 (g := (mkF m 16 #[vR a1, vI (94 : Int32), vI (0 : Int32), vI (3 : Int32), vI (94 : Int32), vI (0 : Int32)] [(.int (0 : Int32)), (.ref a1)])) rfl rfl (hb hby d20_16) _ ?_
      refine XS.iload X0.here hx rfl (hb hby d20_17) rfl ?_
      exact kt
    clear R228
    by_cases hv0 : (g 0) = (94 : Int32)
    · have R231 : ∀ tg, Steps p.tables e below (s₁.setTop (mkF m 24 #[vR a1, vI (94 : Int32), vI (0 : Int32), vI (3 : Int32), vI (94 : Int32), vI (0 : Int32)] [(.int (0 : Int32))])) tg → Steps p.tables e below (s₁.setTop (mkF m 0 #[vR a1, vI p2, vI p3, vI p4, .unset, .unset] [])) tg := by
        intro tg kt
        refine R230 _ ?_
        show Steps p.tables e below (s₁.setTop (mkF m 19 #[vR a1, vI (94 : Int32), vI (0 : Int32), vI (3 : Int32), vI (94 : Int32), vI (0 : Int32)] [(.int (94 : Int32)), (.int (g 0))])) _
        refine XS.icmpNo X0.here hx rfl (hb hby d20_19) rfl (teq (hv0 : (g 0) = (94 : Int32))).2 ?_
        refine XS.iload X0.here hx rfl (hb hby d20_22) rfl ?_
        exact kt
      clear R230
      obtain ⟨fs, hr, hrun, hended, hW, hsame⟩ := X0.leave (v := some (.int (0 : Int32))) (fun h => by rw [Bd.returns] at h; cases h)
      refine ⟨_, _, pre0 _ (R231 _ ?_), hrun, hended, _, _, rfl, ?_, ⟨_, rfl⟩, hW, hsame.mono (by decide) (by decide)⟩
      · exact retI X0 hx Bd.returns (hb hby d20_24) hr
      · show Q_rm_ioc Z a1 p2 p3 p4 n g h0 n0 _ s₁.heap _
        rw [e0]
        exact ⟨by rw [hn, own_ix3, if_pos hv0], N0, rfl⟩
    · have R232 : ∀ tg, Steps p.tables e below (s₁.setTop (mkF m 7 #[vR a1, vI (94 : Int32), vI (0 : Int32), vI (3 : Int32), vI (94 : Int32), vI ((0 : Int32) + (1 : Int32))] [])) tg → Steps p.tables e below (s₁.setTop (mkF m 0 #[vR a1, vI p2, vI p3, vI p4, .unset, .unset] [])) tg := by
        intro tg kt
        refine R230 _ ?_
        show Steps p.tables e below (s₁.setTop (mkF m 19 #[vR a1, vI (94 : Int32), vI (0 : Int32), vI (3 : Int32), vI (94 : Int32), vI (0 : Int32)] [(.int (94 : Int32)), (.int (g 0))])) _
        refine XS.icmpYes X0.here hx rfl (pc0 := 19) (pc' := 25) rfl (hb hby d20_19) rfl (feq (hv0 : ¬ ((g 0) = (94 : Int32)))).2 (by decide) (by decide) ?_
        show Steps p.tables e below (s₁.setTop (mkF m 25 #[vR a1, vI (94 : Int32), vI (0 : Int32), vI (3 : Int32), vI (94 : Int32), vI (0 : Int32)] [])) _
        refine XS.iinc X0.here hx rfl (hb hby d20_25) rfl (l' := #[vR a1, vI (94 : Int32), vI (0 : Int32), vI (3 : Int32), vI (94 : Int32), vI ((0 : Int32) + (1 : Int32))]) rfl ?_
        show Steps p.tables e below (s₁.setTop (mkF m 28 #[vR a1, vI (94 : Int32), vI (0 : Int32), vI (3 : Int32), vI (94 : Int32), vI ((0 : Int32) + (1 : Int32))] [])) _
        refine XS.goto X0.here hx rfl (pc0 := 28) (pc' := 7) rfl (hb hby d20_28) (by decide) (by decide) ?_
        exact kt
      clear R230
      have R233 : ∀ tg, Steps p.tables e below (s₁.setTop (mkF m 7 #[vR a1, vI (94 : Int32), vI (0 : Int32), vI (3 : Int32), vI (94 : Int32), vI (1 : Int32)] [])) tg → Steps p.tables e below (s₁.setTop (mkF m 0 #[vR a1, vI p2, vI p3, vI p4, .unset, .unset] [])) tg := R232
      have R234 : ∀ tg, Steps p.tables e below (s₁.setTop (mkF m 16 #[vR a1, vI (94 : Int32), vI (0 : Int32), vI (3 : Int32), vI (94 : Int32), vI (1 : Int32)] [(.int (1 : Int32)), (.ref a1)])) tg → Steps p.tables e below (s₁.setTop (mkF m 0 #[vR a1, vI p2, vI p3, vI p4, .unset, .unset] [])) tg := by
        intro tg kt
        refine R233 _ ?_
        show Steps p.tables e below (s₁.setTop (mkF m 7 #[vR a1, vI (94 : Int32), vI (0 : Int32), vI (3 : Int32), vI (94 : Int32), vI (1 : Int32)] [])) _
        refine XS.iload X0.here hx rfl (hb hby d20_7) rfl ?_
        refine XS.iloadN X0.here hx rfl (hb hby d20_9) rfl ?_
        show Steps p.tables e below (s₁.setTop (mkF m 10 #[vR a1, vI (94 : Int32), vI (0 : Int32), vI (3 : Int32), vI (94 : Int32), vI (1 : Int32)] [(.int (3 : Int32)), (.int (1 : Int32))])) _
        refine XS.icmpNo X0.here hx rfl (hb hby d20_10) rfl (tlt (by decide : (1 : Int32) < (3 : Int32))).2.1 ?_
        refine XS.aloadN X0.here hx rfl (hb hby d20_13) rfl rfl ?_
        refine XS.iload X0.here hx rfl (hb hby d20_14) rfl ?_
        exact kt
      clear R233
      obtain ⟨cl235, Ar235, hin235, hat235⟩ := VA.at (j := (1 : Int32)) (k := 1) (by decide) rfl (by decide)
      have R236 : ∀ tg, Steps p.tables e below (s₁.setTop (mkF m 19 #[vR a1, vI (94 : Int32), vI (0 : Int32), vI (3 : Int32), vI (94 : Int32), vI (1 : Int32)] [(.int (94 : Int32)), (.int (g 1))])) tg → Steps p.tables e below (s₁.setTop (mkF m 0 #[vR a1, vI p2, vI p3, vI p4, .unset, .unset] [])) tg := by
        intro tg kt
        refine R234 _ ?_
        show Steps p.tables e below (s₁.setTop (mkF m 16 #[vR a1, vI (94 : Int32), vI (0 : Int32), vI (3 : Int32), vI (94 : Int32), vI (1 : Int32)] [(.int (1 : Int32)), (.ref a1)])) _
        refine X0.baloadBytes hx (j := (1 : Int32)) (v := (.int (g 1))) (by rw [e0]; exact Ar235.1) (State.isArrayOf_alike hZ.alike Ar235.2.1) Ar235.2.2 hin235 hat235 (g := (mkF m 16 #[vR a1, vI (94 : Int32), vI (0 : Int32), vI (3 : Int32), vI (94 : Int32), vI (1 : Int32)] [(.int (1 : Int32)), (.ref a1)])) rfl rfl (hb hby d20_16) _ ?_
        refine XS.iload X0.here hx rfl (hb hby d20_17) rfl ?_
        exact kt
      clear R234
      by_cases hv1 : (g 1) = (94 : Int32)
      · have R237 : ∀ tg, Steps p.tables e below (s₁.setTop (mkF m 24 #[vR a1, vI (94 : Int32), vI (0 : Int32), vI (3 : Int32), vI (94 : Int32), vI (1 : Int32)] [(.int (1 : Int32))])) tg → Steps p.tables e below (s₁.setTop (mkF m 0 #[vR a1, vI p2, vI p3, vI p4, .unset, .unset] [])) tg := by
          intro tg kt
          refine R236 _ ?_
          show Steps p.tables e below (s₁.setTop (mkF m 19 #[vR a1, vI (94 : Int32), vI (0 : Int32), vI (3 : Int32), vI (94 : Int32), vI (1 : Int32)] [(.int (94 : Int32)), (.int (g 1))])) _
          refine XS.icmpNo X0.here hx rfl (hb hby d20_19) rfl (teq (hv1 : (g 1) = (94 : Int32))).2 ?_
          refine XS.iload X0.here hx rfl (hb hby d20_22) rfl ?_
          exact kt
        clear R236
        obtain ⟨fs, hr, hrun, hended, hW, hsame⟩ := X0.leave (v := some (.int (1 : Int32))) (fun h => by rw [Bd.returns] at h; cases h)
        refine ⟨_, _, pre0 _ (R237 _ ?_), hrun, hended, _, _, rfl, ?_, ⟨_, rfl⟩, hW, hsame.mono (by decide) (by decide)⟩
        · exact retI X0 hx Bd.returns (hb hby d20_24) hr
        · show Q_rm_ioc Z a1 p2 p3 p4 n g h0 n0 _ s₁.heap _
          rw [e0]
          exact ⟨by rw [hn, own_ix3, if_neg hv0, if_pos hv1], N0, rfl⟩
      · have R238 : ∀ tg, Steps p.tables e below (s₁.setTop (mkF m 7 #[vR a1, vI (94 : Int32), vI (0 : Int32), vI (3 : Int32), vI (94 : Int32), vI ((1 : Int32) + (1 : Int32))] [])) tg → Steps p.tables e below (s₁.setTop (mkF m 0 #[vR a1, vI p2, vI p3, vI p4, .unset, .unset] [])) tg := by
          intro tg kt
          refine R236 _ ?_
          show Steps p.tables e below (s₁.setTop (mkF m 19 #[vR a1, vI (94 : Int32), vI (0 : Int32), vI (3 : Int32), vI (94 : Int32), vI (1 : Int32)] [(.int (94 : Int32)), (.int (g 1))])) _
          refine XS.icmpYes X0.here hx rfl (pc0 := 19) (pc' := 25) rfl (hb hby d20_19) rfl (feq (hv1 : ¬ ((g 1) = (94 : Int32)))).2 (by decide) (by decide) ?_
          show Steps p.tables e below (s₁.setTop (mkF m 25 #[vR a1, vI (94 : Int32), vI (0 : Int32), vI (3 : Int32), vI (94 : Int32), vI (1 : Int32)] [])) _
          refine XS.iinc X0.here hx rfl (hb hby d20_25) rfl (l' := #[vR a1, vI (94 : Int32), vI (0 : Int32), vI (3 : Int32), vI (94 : Int32), vI ((1 : Int32) + (1 : Int32))]) rfl ?_
          show Steps p.tables e below (s₁.setTop (mkF m 28 #[vR a1, vI (94 : Int32), vI (0 : Int32), vI (3 : Int32), vI (94 : Int32), vI ((1 : Int32) + (1 : Int32))] [])) _
          refine XS.goto X0.here hx rfl (pc0 := 28) (pc' := 7) rfl (hb hby d20_28) (by decide) (by decide) ?_
          exact kt
        clear R236
        have R239 : ∀ tg, Steps p.tables e below (s₁.setTop (mkF m 7 #[vR a1, vI (94 : Int32), vI (0 : Int32), vI (3 : Int32), vI (94 : Int32), vI (2 : Int32)] [])) tg → Steps p.tables e below (s₁.setTop (mkF m 0 #[vR a1, vI p2, vI p3, vI p4, .unset, .unset] [])) tg := R238
        have R240 : ∀ tg, Steps p.tables e below (s₁.setTop (mkF m 16 #[vR a1, vI (94 : Int32), vI (0 : Int32), vI (3 : Int32), vI (94 : Int32), vI (2 : Int32)] [(.int (2 : Int32)), (.ref a1)])) tg → Steps p.tables e below (s₁.setTop (mkF m 0 #[vR a1, vI p2, vI p3, vI p4, .unset, .unset] [])) tg := by
          intro tg kt
          refine R239 _ ?_
          show Steps p.tables e below (s₁.setTop (mkF m 7 #[vR a1, vI (94 : Int32), vI (0 : Int32), vI (3 : Int32), vI (94 : Int32), vI (2 : Int32)] [])) _
          refine XS.iload X0.here hx rfl (hb hby d20_7) rfl ?_
          refine XS.iloadN X0.here hx rfl (hb hby d20_9) rfl ?_
          show Steps p.tables e below (s₁.setTop (mkF m 10 #[vR a1, vI (94 : Int32), vI (0 : Int32), vI (3 : Int32), vI (94 : Int32), vI (2 : Int32)] [(.int (3 : Int32)), (.int (2 : Int32))])) _
          refine XS.icmpNo X0.here hx rfl (hb hby d20_10) rfl (tlt (by decide : (2 : Int32) < (3 : Int32))).2.1 ?_
          refine XS.aloadN X0.here hx rfl (hb hby d20_13) rfl rfl ?_
          refine XS.iload X0.here hx rfl (hb hby d20_14) rfl ?_
          exact kt
        clear R239
        obtain ⟨cl241, Ar241, hin241, hat241⟩ := VA.at (j := (2 : Int32)) (k := 2) (by decide) rfl (by decide)
        have R242 : ∀ tg, Steps p.tables e below (s₁.setTop (mkF m 19 #[vR a1, vI (94 : Int32), vI (0 : Int32), vI (3 : Int32), vI (94 : Int32), vI (2 : Int32)] [(.int (94 : Int32)), (.int (g 2))])) tg → Steps p.tables e below (s₁.setTop (mkF m 0 #[vR a1, vI p2, vI p3, vI p4, .unset, .unset] [])) tg := by
          intro tg kt
          refine R240 _ ?_
          show Steps p.tables e below (s₁.setTop (mkF m 16 #[vR a1, vI (94 : Int32), vI (0 : Int32), vI (3 : Int32), vI (94 : Int32), vI (2 : Int32)] [(.int (2 : Int32)), (.ref a1)])) _
          refine X0.baloadBytes hx (j := (2 : Int32)) (v := (.int (g 2))) (by rw [e0]; exact Ar241.1) (State.isArrayOf_alike hZ.alike Ar241.2.1) Ar241.2.2 hin241 hat241 (g := (mkF m 16 #[vR a1, vI (94 : Int32), vI (0 : Int32), vI (3 : Int32), vI (94 : Int32), vI (2 : Int32)] [(.int (2 : Int32)), (.ref a1)])) rfl rfl (hb hby d20_16) _ ?_
          refine XS.iload X0.here hx rfl (hb hby d20_17) rfl ?_
          exact kt
        clear R240
        by_cases hv2 : (g 2) = (94 : Int32)
        · have R243 : ∀ tg, Steps p.tables e below (s₁.setTop (mkF m 24 #[vR a1, vI (94 : Int32), vI (0 : Int32), vI (3 : Int32), vI (94 : Int32), vI (2 : Int32)] [(.int (2 : Int32))])) tg → Steps p.tables e below (s₁.setTop (mkF m 0 #[vR a1, vI p2, vI p3, vI p4, .unset, .unset] [])) tg := by
            intro tg kt
            refine R242 _ ?_
            show Steps p.tables e below (s₁.setTop (mkF m 19 #[vR a1, vI (94 : Int32), vI (0 : Int32), vI (3 : Int32), vI (94 : Int32), vI (2 : Int32)] [(.int (94 : Int32)), (.int (g 2))])) _
            refine XS.icmpNo X0.here hx rfl (hb hby d20_19) rfl (teq (hv2 : (g 2) = (94 : Int32))).2 ?_
            refine XS.iload X0.here hx rfl (hb hby d20_22) rfl ?_
            exact kt
          clear R242
          obtain ⟨fs, hr, hrun, hended, hW, hsame⟩ := X0.leave (v := some (.int (2 : Int32))) (fun h => by rw [Bd.returns] at h; cases h)
          refine ⟨_, _, pre0 _ (R243 _ ?_), hrun, hended, _, _, rfl, ?_, ⟨_, rfl⟩, hW, hsame.mono (by decide) (by decide)⟩
          · exact retI X0 hx Bd.returns (hb hby d20_24) hr
          · show Q_rm_ioc Z a1 p2 p3 p4 n g h0 n0 _ s₁.heap _
            rw [e0]
            exact ⟨by rw [hn, own_ix3, if_neg hv0, if_neg hv1, if_pos hv2], N0, rfl⟩
        · have R244 : ∀ tg, Steps p.tables e below (s₁.setTop (mkF m 7 #[vR a1, vI (94 : Int32), vI (0 : Int32), vI (3 : Int32), vI (94 : Int32), vI ((2 : Int32) + (1 : Int32))] [])) tg → Steps p.tables e below (s₁.setTop (mkF m 0 #[vR a1, vI p2, vI p3, vI p4, .unset, .unset] [])) tg := by
            intro tg kt
            refine R242 _ ?_
            show Steps p.tables e below (s₁.setTop (mkF m 19 #[vR a1, vI (94 : Int32), vI (0 : Int32), vI (3 : Int32), vI (94 : Int32), vI (2 : Int32)] [(.int (94 : Int32)), (.int (g 2))])) _
            refine XS.icmpYes X0.here hx rfl (pc0 := 19) (pc' := 25) rfl (hb hby d20_19) rfl (feq (hv2 : ¬ ((g 2) = (94 : Int32)))).2 (by decide) (by decide) ?_
            show Steps p.tables e below (s₁.setTop (mkF m 25 #[vR a1, vI (94 : Int32), vI (0 : Int32), vI (3 : Int32), vI (94 : Int32), vI (2 : Int32)] [])) _
            refine XS.iinc X0.here hx rfl (hb hby d20_25) rfl (l' := #[vR a1, vI (94 : Int32), vI (0 : Int32), vI (3 : Int32), vI (94 : Int32), vI ((2 : Int32) + (1 : Int32))]) rfl ?_
            show Steps p.tables e below (s₁.setTop (mkF m 28 #[vR a1, vI (94 : Int32), vI (0 : Int32), vI (3 : Int32), vI (94 : Int32), vI ((2 : Int32) + (1 : Int32))] [])) _
            refine XS.goto X0.here hx rfl (pc0 := 28) (pc' := 7) rfl (hb hby d20_28) (by decide) (by decide) ?_
            exact kt
          clear R242
          have R245 : ∀ tg, Steps p.tables e below (s₁.setTop (mkF m 7 #[vR a1, vI (94 : Int32), vI (0 : Int32), vI (3 : Int32), vI (94 : Int32), vI (3 : Int32)] [])) tg → Steps p.tables e below (s₁.setTop (mkF m 0 #[vR a1, vI p2, vI p3, vI p4, .unset, .unset] [])) tg := R244
          have R246 : ∀ tg, Steps p.tables e below (s₁.setTop (mkF m 32 #[vR a1, vI (94 : Int32), vI (0 : Int32), vI (3 : Int32), vI (94 : Int32), vI (3 : Int32)] [(.int (-1 : Int32))])) tg → Steps p.tables e below (s₁.setTop (mkF m 0 #[vR a1, vI p2, vI p3, vI p4, .unset, .unset] [])) tg := by
            intro tg kt
            refine R245 _ ?_
            show Steps p.tables e below (s₁.setTop (mkF m 7 #[vR a1, vI (94 : Int32), vI (0 : Int32), vI (3 : Int32), vI (94 : Int32), vI (3 : Int32)] [])) _
            refine XS.iload X0.here hx rfl (hb hby d20_7) rfl ?_
            refine XS.iloadN X0.here hx rfl (hb hby d20_9) rfl ?_
            show Steps p.tables e below (s₁.setTop (mkF m 10 #[vR a1, vI (94 : Int32), vI (0 : Int32), vI (3 : Int32), vI (94 : Int32), vI (3 : Int32)] [(.int (3 : Int32)), (.int (3 : Int32))])) _
            refine XS.icmpYes X0.here hx rfl (pc0 := 10) (pc' := 31) rfl (hb hby d20_10) rfl (flt (by decide : ¬ ((3 : Int32) < (3 : Int32)))).2.1 (by decide) (by decide) ?_
            refine XS.iconst X0.here hx rfl (hb hby d20_31) ?_
            exact kt
          clear R245
          obtain ⟨fs, hr, hrun, hended, hW, hsame⟩ := X0.leave (v := some (.int (-1 : Int32))) (fun h => by rw [Bd.returns] at h; cases h)
          refine ⟨_, _, pre0 _ (R246 _ ?_), hrun, hended, _, _, rfl, ?_, ⟨_, rfl⟩, hW, hsame.mono (by decide) (by decide)⟩
          · exact retI X0 hx Bd.returns (hb hby d20_32) hr
          · show Q_rm_ioc Z a1 p2 p3 p4 n g h0 n0 _ s₁.heap _
            rw [e0]
            exact ⟨by rw [hn, own_ix3, if_neg hv0, if_neg hv1, if_neg hv2], N0, rfl⟩
  · rw [hn] at VA hp4
    have hp4 : p4 = (4 : Int32) := hp4
    have R247 : ∀ tg, Steps p.tables e below (s₁.setTop (mkF m 0 #[vR a1, vI (94 : Int32), vI (0 : Int32), vI (4 : Int32), .unset, .unset] [])) tg → Steps p.tables e below (s₁.setTop (mkF m 0 #[vR a1, vI p2, vI p3, vI p4, .unset, .unset] [])) tg := by intro tg kt; refine pre00 tg ?_; rw [hp2, hp3, hp4]; exact kt
    have R248 : ∀ tg, Steps p.tables e below (s₁.setTop (mkF m 4 #[vR a1, vI (94 : Int32), vI (0 : Int32), vI (4 : Int32), vI ((94 : Int32).toInt8.toInt32), .unset] [])) tg → Steps p.tables e below (s₁.setTop (mkF m 0 #[vR a1, vI p2, vI p3, vI p4, .unset, .unset] [])) tg := by
      intro tg kt
      refine R247 _ ?_
      show Steps p.tables e below (s₁.setTop (mkF m 0 #[vR a1, vI (94 : Int32), vI (0 : Int32), vI (4 : Int32), .unset, .unset] [])) _
      refine XS.iloadN X0.here hx rfl (hb hby d20_0) rfl ?_
      show Steps p.tables e below (s₁.setTop (mkF m 1 #[vR a1, vI (94 : Int32), vI (0 : Int32), vI (4 : Int32), .unset, .unset] [(.int (94 : Int32))])) _
      refine XS.i2b X0.here hx rfl (hb hby d20_1) rfl ?_
      show Steps p.tables e below (s₁.setTop (mkF m 2 #[vR a1, vI (94 : Int32), vI (0 : Int32), vI (4 : Int32), .unset, .unset] [(.int ((94 : Int32).toInt8.toInt32))])) _
      refine XS.istore X0.here hx rfl (hb hby d20_2) rfl (l' := #[vR a1, vI (94 : Int32), vI (0 : Int32), vI (4 : Int32), vI ((94 : Int32).toInt8.toInt32), .unset]) rfl ?_
      exact kt
    clear R247
    have R249 : ∀ tg, Steps p.tables e below (s₁.setTop (mkF m 4 #[vR a1, vI (94 : Int32), vI (0 : Int32), vI (4 : Int32), vI (94 : Int32), .unset] [])) tg → Steps p.tables e below (s₁.setTop (mkF m 0 #[vR a1, vI p2, vI p3, vI p4, .unset, .unset] [])) tg := R248
    have R250 : ∀ tg, Steps p.tables e below (s₁.setTop (mkF m 16 #[vR a1, vI (94 : Int32), vI (0 : Int32), vI (4 : Int32), vI (94 : Int32), vI (0 : Int32)] [(.int (0 : Int32)), (.ref a1)])) tg → Steps p.tables e below (s₁.setTop (mkF m 0 #[vR a1, vI p2, vI p3, vI p4, .unset, .unset] [])) tg := by
      intro tg kt
      refine R249 _ ?_
      show Steps p.tables e below (s₁.setTop (mkF m 4 #[vR a1, vI (94 : Int32), vI (0 : Int32), vI (4 : Int32), vI (94 : Int32), .unset] [])) _
      refine XS.iloadN X0.here hx rfl (hb hby d20_4) rfl ?_
      show Steps p.tables e below (s₁.setTop (mkF m 5 #[vR a1, vI (94 : Int32), vI (0 : Int32), vI (4 : Int32), vI (94 : Int32), .unset] [(.int (0 : Int32))])) _
      refine XS.istore X0.here hx rfl (hb hby d20_5) rfl (l' := #[vR a1, vI (94 : Int32), vI (0 : Int32), vI (4 : Int32), vI (94 : Int32), vI (0 : Int32)]) rfl ?_
      refine XS.iload X0.here hx rfl (hb hby d20_7) rfl ?_
      refine XS.iloadN X0.here hx rfl (hb hby d20_9) rfl ?_
      show Steps p.tables e below (s₁.setTop (mkF m 10 #[vR a1, vI (94 : Int32), vI (0 : Int32), vI (4 : Int32), vI (94 : Int32), vI (0 : Int32)] [(.int (4 : Int32)), (.int (0 : Int32))])) _
      refine XS.icmpNo X0.here hx rfl (hb hby d20_10) rfl (tlt (by decide : (0 : Int32) < (4 : Int32))).2.1 ?_
      refine XS.aloadN X0.here hx rfl (hb hby d20_13) rfl rfl ?_
      refine XS.iload X0.here hx rfl (hb hby d20_14) rfl ?_
      exact kt
    clear R249
    obtain ⟨cl251, Ar251, hin251, hat251⟩ := VA.at (j := (0 : Int32)) (k := 0) (by decide) rfl (by decide)
    have R252 : ∀ tg, Steps p.tables e below (s₁.setTop (mkF m 19 #[vR a1, vI (94 : Int32), vI (0 : Int32), vI (4 : Int32), vI (94 : Int32), vI (0 : Int32)] [(.int (94 : Int32)), (.int (g 0))])) tg → Steps p.tables e below (s₁.setTop (mkF m 0 #[vR a1, vI p2, vI p3, vI p4, .unset, .unset] [])) tg := by
      intro tg kt
      refine R250 _ ?_
      show Steps p.tables e below (s₁.setTop (mkF m 16 #[vR a1, vI (94 : Int32), vI (0 : Int32), vI (4 : Int32), vI (94 : Int32), vI (0 : Int32)] [(.int (0 : Int32)), (.ref a1)])) _
      refine X0.baloadBytes hx (j := (0 : Int32)) (v := (.int (g 0))) (by rw [e0]; exact Ar251.1) (State.isArrayOf_alike hZ.alike Ar251.2.1) Ar251.2.2 hin251 hat251 (g := (mkF m 16 #[vR a1, vI (94 : Int32), vI (0 : Int32), vI (4 : Int32), vI (94 : Int32), vI (0 : Int32)] [(.int (0 : Int32)), (.ref a1)])) rfl rfl (hb hby d20_16) _ ?_
      refine XS.iload X0.here hx rfl (hb hby d20_17) rfl ?_
      exact kt
    clear R250
    by_cases hv0 : (g 0) = (94 : Int32)
    · have R253 : ∀ tg, Steps p.tables e below (s₁.setTop (mkF m 24 #[vR a1, vI (94 : Int32), vI (0 : Int32), vI (4 : Int32), vI (94 : Int32), vI (0 : Int32)] [(.int (0 : Int32))])) tg → Steps p.tables e below (s₁.setTop (mkF m 0 #[vR a1, vI p2, vI p3, vI p4, .unset, .unset] [])) tg := by
        intro tg kt
        refine R252 _ ?_
        show Steps p.tables e below (s₁.setTop (mkF m 19 #[vR a1, vI (94 : Int32), vI (0 : Int32), vI (4 : Int32), vI (94 : Int32), vI (0 : Int32)] [(.int (94 : Int32)), (.int (g 0))])) _
        refine XS.icmpNo X0.here hx rfl (hb hby d20_19) rfl (teq (hv0 : (g 0) = (94 : Int32))).2 ?_
        refine XS.iload X0.here hx rfl (hb hby d20_22) rfl ?_
        exact kt
      clear R252
      obtain ⟨fs, hr, hrun, hended, hW, hsame⟩ := X0.leave (v := some (.int (0 : Int32))) (fun h => by rw [Bd.returns] at h; cases h)
      refine ⟨_, _, pre0 _ (R253 _ ?_), hrun, hended, _, _, rfl, ?_, ⟨_, rfl⟩, hW, hsame.mono (by decide) (by decide)⟩
      · exact retI X0 hx Bd.returns (hb hby d20_24) hr
      · show Q_rm_ioc Z a1 p2 p3 p4 n g h0 n0 _ s₁.heap _
        rw [e0]
        exact ⟨by rw [hn, own_ix4, if_pos hv0], N0, rfl⟩
    · have R254 : ∀ tg, Steps p.tables e below (s₁.setTop (mkF m 7 #[vR a1, vI (94 : Int32), vI (0 : Int32), vI (4 : Int32), vI (94 : Int32), vI ((0 : Int32) + (1 : Int32))] [])) tg → Steps p.tables e below (s₁.setTop (mkF m 0 #[vR a1, vI p2, vI p3, vI p4, .unset, .unset] [])) tg := by
        intro tg kt
        refine R252 _ ?_
        show Steps p.tables e below (s₁.setTop (mkF m 19 #[vR a1, vI (94 : Int32), vI (0 : Int32), vI (4 : Int32), vI (94 : Int32), vI (0 : Int32)] [(.int (94 : Int32)), (.int (g 0))])) _
        refine XS.icmpYes X0.here hx rfl (pc0 := 19) (pc' := 25) rfl (hb hby d20_19) rfl (feq (hv0 : ¬ ((g 0) = (94 : Int32)))).2 (by decide) (by decide) ?_
        show Steps p.tables e below (s₁.setTop (mkF m 25 #[vR a1, vI (94 : Int32), vI (0 : Int32), vI (4 : Int32), vI (94 : Int32), vI (0 : Int32)] [])) _
        refine XS.iinc X0.here hx rfl (hb hby d20_25) rfl (l' := #[vR a1, vI (94 : Int32), vI (0 : Int32), vI (4 : Int32), vI (94 : Int32), vI ((0 : Int32) + (1 : Int32))]) rfl ?_
        show Steps p.tables e below (s₁.setTop (mkF m 28 #[vR a1, vI (94 : Int32), vI (0 : Int32), vI (4 : Int32), vI (94 : Int32), vI ((0 : Int32) + (1 : Int32))] [])) _
        refine XS.goto X0.here hx rfl (pc0 := 28) (pc' := 7) rfl (hb hby d20_28) (by decide) (by decide) ?_
        exact kt
      clear R252
      have R255 : ∀ tg, Steps p.tables e below (s₁.setTop (mkF m 7 #[vR a1, vI (94 : Int32), vI (0 : Int32), vI (4 : Int32), vI (94 : Int32), vI (1 : Int32)] [])) tg → Steps p.tables e below (s₁.setTop (mkF m 0 #[vR a1, vI p2, vI p3, vI p4, .unset, .unset] [])) tg := R254
      have R256 : ∀ tg, Steps p.tables e below (s₁.setTop (mkF m 16 #[vR a1, vI (94 : Int32), vI (0 : Int32), vI (4 : Int32), vI (94 : Int32), vI (1 : Int32)] [(.int (1 : Int32)), (.ref a1)])) tg → Steps p.tables e below (s₁.setTop (mkF m 0 #[vR a1, vI p2, vI p3, vI p4, .unset, .unset] [])) tg := by
        intro tg kt
        refine R255 _ ?_
        show Steps p.tables e below (s₁.setTop (mkF m 7 #[vR a1, vI (94 : Int32), vI (0 : Int32), vI (4 : Int32), vI (94 : Int32), vI (1 : Int32)] [])) _
        refine XS.iload X0.here hx rfl (hb hby d20_7) rfl ?_
        refine XS.iloadN X0.here hx rfl (hb hby d20_9) rfl ?_
        show Steps p.tables e below (s₁.setTop (mkF m 10 #[vR a1, vI (94 : Int32), vI (0 : Int32), vI (4 : Int32), vI (94 : Int32), vI (1 : Int32)] [(.int (4 : Int32)), (.int (1 : Int32))])) _
        refine XS.icmpNo X0.here hx rfl (hb hby d20_10) rfl (tlt (by decide : (1 : Int32) < (4 : Int32))).2.1 ?_
        refine XS.aloadN X0.here hx rfl (hb hby d20_13) rfl rfl ?_
        refine XS.iload X0.here hx rfl (hb hby d20_14) rfl ?_
        exact kt
      clear R255
      obtain ⟨cl257, Ar257, hin257, hat257⟩ := VA.at (j := (1 : Int32)) (k := 1) (by decide) rfl (by decide)
      have R258 : ∀ tg, Steps p.tables e below (s₁.setTop (mkF m 19 #[vR a1, vI (94 : Int32), vI (0 : Int32), vI (4 : Int32), vI (94 : Int32), vI (1 : Int32)] [(.int (94 : Int32)), (.int (g 1))])) tg → Steps p.tables e below (s₁.setTop (mkF m 0 #[vR a1, vI p2, vI p3, vI p4, .unset, .unset] [])) tg := by
        intro tg kt
        refine R256 _ ?_
        show Steps p.tables e below (s₁.setTop (mkF m 16 #[vR a1, vI (94 : Int32), vI (0 : Int32), vI (4 : Int32), vI (94 : Int32), vI (1 : Int32)] [(.int (1 : Int32)), (.ref a1)])) _
        refine X0.baloadBytes hx (j := (1 : Int32)) (v := (.int (g 1))) (by rw [e0]; exact Ar257.1) (State.isArrayOf_alike hZ.alike Ar257.2.1) Ar257.2.2 hin257 hat257 (g := (mkF m 16 #[vR a1, vI (94 : Int32), vI (0 : Int32), vI (4 : Int32), vI (94 : Int32), vI (1 : Int32)] [(.int (1 : Int32)), (.ref a1)])) rfl rfl (hb hby d20_16) _ ?_
        refine XS.iload X0.here hx rfl (hb hby d20_17) rfl ?_
        exact kt
      clear R256
      by_cases hv1 : (g 1) = (94 : Int32)
      · have R259 : ∀ tg, Steps p.tables e below (s₁.setTop (mkF m 24 #[vR a1, vI (94 : Int32), vI (0 : Int32), vI (4 : Int32), vI (94 : Int32), vI (1 : Int32)] [(.int (1 : Int32))])) tg → Steps p.tables e below (s₁.setTop (mkF m 0 #[vR a1, vI p2, vI p3, vI p4, .unset, .unset] [])) tg := by
          intro tg kt
          refine R258 _ ?_
          show Steps p.tables e below (s₁.setTop (mkF m 19 #[vR a1, vI (94 : Int32), vI (0 : Int32), vI (4 : Int32), vI (94 : Int32), vI (1 : Int32)] [(.int (94 : Int32)), (.int (g 1))])) _
          refine XS.icmpNo X0.here hx rfl (hb hby d20_19) rfl (teq (hv1 : (g 1) = (94 : Int32))).2 ?_
          refine XS.iload X0.here hx rfl (hb hby d20_22) rfl ?_
          exact kt
        clear R258
        obtain ⟨fs, hr, hrun, hended, hW, hsame⟩ := X0.leave (v := some (.int (1 : Int32))) (fun h => by rw [Bd.returns] at h; cases h)
        refine ⟨_, _, pre0 _ (R259 _ ?_), hrun, hended, _, _, rfl, ?_, ⟨_, rfl⟩, hW, hsame.mono (by decide) (by decide)⟩
        · exact retI X0 hx Bd.returns (hb hby d20_24) hr
        · show Q_rm_ioc Z a1 p2 p3 p4 n g h0 n0 _ s₁.heap _
          rw [e0]
          exact ⟨by rw [hn, own_ix4, if_neg hv0, if_pos hv1], N0, rfl⟩
      · have R260 : ∀ tg, Steps p.tables e below (s₁.setTop (mkF m 7 #[vR a1, vI (94 : Int32), vI (0 : Int32), vI (4 : Int32), vI (94 : Int32), vI ((1 : Int32) + (1 : Int32))] [])) tg → Steps p.tables e below (s₁.setTop (mkF m 0 #[vR a1, vI p2, vI p3, vI p4, .unset, .unset] [])) tg := by
          intro tg kt
          refine R258 _ ?_
          show Steps p.tables e below (s₁.setTop (mkF m 19 #[vR a1, vI (94 : Int32), vI (0 : Int32), vI (4 : Int32), vI (94 : Int32), vI (1 : Int32)] [(.int (94 : Int32)), (.int (g 1))])) _
          refine XS.icmpYes X0.here hx rfl (pc0 := 19) (pc' := 25) rfl (hb hby d20_19) rfl (feq (hv1 : ¬ ((g 1) = (94 : Int32)))).2 (by decide) (by decide) ?_
          show Steps p.tables e below (s₁.setTop (mkF m 25 #[vR a1, vI (94 : Int32), vI (0 : Int32), vI (4 : Int32), vI (94 : Int32), vI (1 : Int32)] [])) _
          refine XS.iinc X0.here hx rfl (hb hby d20_25) rfl (l' := #[vR a1, vI (94 : Int32), vI (0 : Int32), vI (4 : Int32), vI (94 : Int32), vI ((1 : Int32) + (1 : Int32))]) rfl ?_
          show Steps p.tables e below (s₁.setTop (mkF m 28 #[vR a1, vI (94 : Int32), vI (0 : Int32), vI (4 : Int32), vI (94 : Int32), vI ((1 : Int32) + (1 : Int32))] [])) _
          refine XS.goto X0.here hx rfl (pc0 := 28) (pc' := 7) rfl (hb hby d20_28) (by decide) (by decide) ?_
          exact kt
        clear R258
        have R261 : ∀ tg, Steps p.tables e below (s₁.setTop (mkF m 7 #[vR a1, vI (94 : Int32), vI (0 : Int32), vI (4 : Int32), vI (94 : Int32), vI (2 : Int32)] [])) tg → Steps p.tables e below (s₁.setTop (mkF m 0 #[vR a1, vI p2, vI p3, vI p4, .unset, .unset] [])) tg := R260
        have R262 : ∀ tg, Steps p.tables e below (s₁.setTop (mkF m 16 #[vR a1, vI (94 : Int32), vI (0 : Int32), vI (4 : Int32), vI (94 : Int32), vI (2 : Int32)] [(.int (2 : Int32)), (.ref a1)])) tg → Steps p.tables e below (s₁.setTop (mkF m 0 #[vR a1, vI p2, vI p3, vI p4, .unset, .unset] [])) tg := by
          intro tg kt
          refine R261 _ ?_
          show Steps p.tables e below (s₁.setTop (mkF m 7 #[vR a1, vI (94 : Int32), vI (0 : Int32), vI (4 : Int32), vI (94 : Int32), vI (2 : Int32)] [])) _
          refine XS.iload X0.here hx rfl (hb hby d20_7) rfl ?_
          refine XS.iloadN X0.here hx rfl (hb hby d20_9) rfl ?_
          show Steps p.tables e below (s₁.setTop (mkF m 10 #[vR a1, vI (94 : Int32), vI (0 : Int32), vI (4 : Int32), vI (94 : Int32), vI (2 : Int32)] [(.int (4 : Int32)), (.int (2 : Int32))])) _
          refine XS.icmpNo X0.here hx rfl (hb hby d20_10) rfl (tlt (by decide : (2 : Int32) < (4 : Int32))).2.1 ?_
          refine XS.aloadN X0.here hx rfl (hb hby d20_13) rfl rfl ?_
          refine XS.iload X0.here hx rfl (hb hby d20_14) rfl ?_
          exact kt
        clear R261
        obtain ⟨cl263, Ar263, hin263, hat263⟩ := VA.at (j := (2 : Int32)) (k := 2) (by decide) rfl (by decide)
        have R264 : ∀ tg, Steps p.tables e below (s₁.setTop (mkF m 19 #[vR a1, vI (94 : Int32), vI (0 : Int32), vI (4 : Int32), vI (94 : Int32), vI (2 : Int32)] [(.int (94 : Int32)), (.int (g 2))])) tg → Steps p.tables e below (s₁.setTop (mkF m 0 #[vR a1, vI p2, vI p3, vI p4, .unset, .unset] [])) tg := by
          intro tg kt
          refine R262 _ ?_
          show Steps p.tables e below (s₁.setTop (mkF m 16 #[vR a1, vI (94 : Int32), vI (0 : Int32), vI (4 : Int32), vI (94 : Int32), vI (2 : Int32)] [(.int (2 : Int32)), (.ref a1)])) _
          refine X0.baloadBytes hx (j := (2 : Int32)) (v := (.int (g 2))) (by rw [e0]; exact Ar263.1) (State.isArrayOf_alike hZ.alike Ar263.2.1) Ar263.2.2 hin263 hat263 (g := (mkF m 16 #[vR a1, vI (94 : Int32), vI (0 : Int32), vI (4 : Int32), vI (94 : Int32), vI (2 : Int32)] [(.int (2 : Int32)), (.ref a1)])) rfl rfl (hb hby d20_16) _ ?_
          refine XS.iload X0.here hx rfl (hb hby d20_17) rfl ?_
          exact kt
        clear R262
        by_cases hv2 : (g 2) = (94 : Int32)
        · have R265 : ∀ tg, Steps p.tables e below (s₁.setTop (mkF m 24 #[vR a1, vI (94 : Int32), vI (0 : Int32), vI (4 : Int32), vI (94 : Int32), vI (2 : Int32)] [(.int (2 : Int32))])) tg → Steps p.tables e below (s₁.setTop (mkF m 0 #[vR a1, vI p2, vI p3, vI p4, .unset, .unset] [])) tg := by
            intro tg kt
            refine R264 _ ?_
            show Steps p.tables e below (s₁.setTop (mkF m 19 #[vR a1, vI (94 : Int32), vI (0 : Int32), vI (4 : Int32), vI (94 : Int32), vI (2 : Int32)] [(.int (94 : Int32)), (.int (g 2))])) _
            refine XS.icmpNo X0.here hx rfl (hb hby d20_19) rfl (teq (hv2 : (g 2) = (94 : Int32))).2 ?_
            refine XS.iload X0.here hx rfl (hb hby d20_22) rfl ?_
            exact kt
          clear R264
          obtain ⟨fs, hr, hrun, hended, hW, hsame⟩ := X0.leave (v := some (.int (2 : Int32))) (fun h => by rw [Bd.returns] at h; cases h)
          refine ⟨_, _, pre0 _ (R265 _ ?_), hrun, hended, _, _, rfl, ?_, ⟨_, rfl⟩, hW, hsame.mono (by decide) (by decide)⟩
          · exact retI X0 hx Bd.returns (hb hby d20_24) hr
          · show Q_rm_ioc Z a1 p2 p3 p4 n g h0 n0 _ s₁.heap _
            rw [e0]
            exact ⟨by rw [hn, own_ix4, if_neg hv0, if_neg hv1, if_pos hv2], N0, rfl⟩
        · have R266 : ∀ tg, Steps p.tables e below (s₁.setTop (mkF m 7 #[vR a1, vI (94 : Int32), vI (0 : Int32), vI (4 : Int32), vI (94 : Int32), vI ((2 : Int32) + (1 : Int32))] [])) tg → Steps p.tables e below (s₁.setTop (mkF m 0 #[vR a1, vI p2, vI p3, vI p4, .unset, .unset] [])) tg := by
            intro tg kt
            refine R264 _ ?_
            show Steps p.tables e below (s₁.setTop (mkF m 19 #[vR a1, vI (94 : Int32), vI (0 : Int32), vI (4 : Int32), vI (94 : Int32), vI (2 : Int32)] [(.int (94 : Int32)), (.int (g 2))])) _
            refine XS.icmpYes X0.here hx rfl (pc0 := 19) (pc' := 25) rfl (hb hby d20_19) rfl (feq (hv2 : ¬ ((g 2) = (94 : Int32)))).2 (by decide) (by decide) ?_
            show Steps p.tables e below (s₁.setTop (mkF m 25 #[vR a1, vI (94 : Int32), vI (0 : Int32), vI (4 : Int32), vI (94 : Int32), vI (2 : Int32)] [])) _
            refine XS.iinc X0.here hx rfl (hb hby d20_25) rfl (l' := #[vR a1, vI (94 : Int32), vI (0 : Int32), vI (4 : Int32), vI (94 : Int32), vI ((2 : Int32) + (1 : Int32))]) rfl ?_
            show Steps p.tables e below (s₁.setTop (mkF m 28 #[vR a1, vI (94 : Int32), vI (0 : Int32), vI (4 : Int32), vI (94 : Int32), vI ((2 : Int32) + (1 : Int32))] [])) _
            refine XS.goto X0.here hx rfl (pc0 := 28) (pc' := 7) rfl (hb hby d20_28) (by decide) (by decide) ?_
            exact kt
          clear R264
          have R267 : ∀ tg, Steps p.tables e below (s₁.setTop (mkF m 7 #[vR a1, vI (94 : Int32), vI (0 : Int32), vI (4 : Int32), vI (94 : Int32), vI (3 : Int32)] [])) tg → Steps p.tables e below (s₁.setTop (mkF m 0 #[vR a1, vI p2, vI p3, vI p4, .unset, .unset] [])) tg := R266
          have R268 : ∀ tg, Steps p.tables e below (s₁.setTop (mkF m 16 #[vR a1, vI (94 : Int32), vI (0 : Int32), vI (4 : Int32), vI (94 : Int32), vI (3 : Int32)] [(.int (3 : Int32)), (.ref a1)])) tg → Steps p.tables e below (s₁.setTop (mkF m 0 #[vR a1, vI p2, vI p3, vI p4, .unset, .unset] [])) tg := by
            intro tg kt
            refine R267 _ ?_
            show Steps p.tables e below (s₁.setTop (mkF m 7 #[vR a1, vI (94 : Int32), vI (0 : Int32), vI (4 : Int32), vI (94 : Int32), vI (3 : Int32)] [])) _
            refine XS.iload X0.here hx rfl (hb hby d20_7) rfl ?_
            refine XS.iloadN X0.here hx rfl (hb hby d20_9) rfl ?_
            show Steps p.tables e below (s₁.setTop (mkF m 10 #[vR a1, vI (94 : Int32), vI (0 : Int32), vI (4 : Int32), vI (94 : Int32), vI (3 : Int32)] [(.int (4 : Int32)), (.int (3 : Int32))])) _
            refine XS.icmpNo X0.here hx rfl (hb hby d20_10) rfl (tlt (by decide : (3 : Int32) < (4 : Int32))).2.1 ?_
            refine XS.aloadN X0.here hx rfl (hb hby d20_13) rfl rfl ?_
            refine XS.iload X0.here hx rfl (hb hby d20_14) rfl ?_
            exact kt
          clear R267
          obtain ⟨cl269, Ar269, hin269, hat269⟩ := VA.at (j := (3 : Int32)) (k := 3) (by decide) rfl (by decide)
          have R270 : ∀ tg, Steps p.tables e below (s₁.setTop (mkF m 19 #[vR a1, vI (94 : Int32), vI (0 : Int32), vI (4 : Int32), vI (94 : Int32), vI (3 : Int32)] [(.int (94 : Int32)), (.int (g 3))])) tg → Steps p.tables e below (s₁.setTop (mkF m 0 #[vR a1, vI p2, vI p3, vI p4, .unset, .unset] [])) tg := by
            intro tg kt
            refine R268 _ ?_
            show Steps p.tables e below (s₁.setTop (mkF m 16 #[vR a1, vI (94 : Int32), vI (0 : Int32), vI (4 : Int32), vI (94 : Int32), vI (3 : Int32)] [(.int (3 : Int32)), (.ref a1)])) _
            refine X0.baloadBytes hx (j := (3 : Int32)) (v := (.int (g 3))) (by rw [e0]; exact Ar269.1) (State.isArrayOf_alike hZ.alike Ar269.2.1) Ar269.2.2 hin269 hat269 (g := (mkF m 16 #[vR a1, vI (94 : Int32), vI (0 : Int32), vI (4 : Int32), vI (94 : Int32), vI (3 : Int32)] [(.int (3 : Int32)), (.ref a1)])) rfl rfl (hb hby d20_16) _ ?_
            refine XS.iload X0.here hx rfl (hb hby d20_17) rfl ?_
            exact kt
          clear R268
          by_cases hv3 : (g 3) = (94 : Int32)
          · have R271 : ∀ tg, Steps p.tables e below (s₁.setTop (mkF m 24 #[vR a1, vI (94 : Int32), vI (0 : Int32), vI (4 : Int32), vI (94 : Int32), vI (3 : Int32)] [(.int (3 : Int32))])) tg → Steps p.tables e below (s₁.setTop (mkF m 0 #[vR a1, vI p2, vI p3, vI p4, .unset, .unset] [])) tg := by
              intro tg kt
              refine R270 _ ?_
              show Steps p.tables e below (s₁.setTop (mkF m 19 #[vR a1, vI (94 : Int32), vI (0 : Int32), vI (4 : Int32), vI (94 : Int32), vI (3 : Int32)] [(.int (94 : Int32)), (.int (g 3))])) _
              refine XS.icmpNo X0.here hx rfl (hb hby d20_19) rfl (teq (hv3 : (g 3) = (94 : Int32))).2 ?_
              refine XS.iload X0.here hx rfl (hb hby d20_22) rfl ?_
              exact kt
            clear R270
            obtain ⟨fs, hr, hrun, hended, hW, hsame⟩ := X0.leave (v := some (.int (3 : Int32))) (fun h => by rw [Bd.returns] at h; cases h)
            refine ⟨_, _, pre0 _ (R271 _ ?_), hrun, hended, _, _, rfl, ?_, ⟨_, rfl⟩, hW, hsame.mono (by decide) (by decide)⟩
            · exact retI X0 hx Bd.returns (hb hby d20_24) hr
            · show Q_rm_ioc Z a1 p2 p3 p4 n g h0 n0 _ s₁.heap _
              rw [e0]
              exact ⟨by rw [hn, own_ix4, if_neg hv0, if_neg hv1, if_neg hv2, if_pos hv3], N0, rfl⟩
          · have R272 : ∀ tg, Steps p.tables e below (s₁.setTop (mkF m 7 #[vR a1, vI (94 : Int32), vI (0 : Int32), vI (4 : Int32), vI (94 : Int32), vI ((3 : Int32) + (1 : Int32))] [])) tg → Steps p.tables e below (s₁.setTop (mkF m 0 #[vR a1, vI p2, vI p3, vI p4, .unset, .unset] [])) tg := by
              intro tg kt
              refine R270 _ ?_
              show Steps p.tables e below (s₁.setTop (mkF m 19 #[vR a1, vI (94 : Int32), vI (0 : Int32), vI (4 : Int32), vI (94 : Int32), vI (3 : Int32)] [(.int (94 : Int32)), (.int (g 3))])) _
              refine XS.icmpYes X0.here hx rfl (pc0 := 19) (pc' := 25) rfl (hb hby d20_19) rfl (feq (hv3 : ¬ ((g 3) = (94 : Int32)))).2 (by decide) (by decide) ?_
              show Steps p.tables e below (s₁.setTop (mkF m 25 #[vR a1, vI (94 : Int32), vI (0 : Int32), vI (4 : Int32), vI (94 : Int32), vI (3 : Int32)] [])) _
              refine XS.iinc X0.here hx rfl (hb hby d20_25) rfl (l' := #[vR a1, vI (94 : Int32), vI (0 : Int32), vI (4 : Int32), vI (94 : Int32), vI ((3 : Int32) + (1 : Int32))]) rfl ?_
              show Steps p.tables e below (s₁.setTop (mkF m 28 #[vR a1, vI (94 : Int32), vI (0 : Int32), vI (4 : Int32), vI (94 : Int32), vI ((3 : Int32) + (1 : Int32))] [])) _
              refine XS.goto X0.here hx rfl (pc0 := 28) (pc' := 7) rfl (hb hby d20_28) (by decide) (by decide) ?_
              exact kt
            clear R270
            have R273 : ∀ tg, Steps p.tables e below (s₁.setTop (mkF m 7 #[vR a1, vI (94 : Int32), vI (0 : Int32), vI (4 : Int32), vI (94 : Int32), vI (4 : Int32)] [])) tg → Steps p.tables e below (s₁.setTop (mkF m 0 #[vR a1, vI p2, vI p3, vI p4, .unset, .unset] [])) tg := R272
            have R274 : ∀ tg, Steps p.tables e below (s₁.setTop (mkF m 32 #[vR a1, vI (94 : Int32), vI (0 : Int32), vI (4 : Int32), vI (94 : Int32), vI (4 : Int32)] [(.int (-1 : Int32))])) tg → Steps p.tables e below (s₁.setTop (mkF m 0 #[vR a1, vI p2, vI p3, vI p4, .unset, .unset] [])) tg := by
              intro tg kt
              refine R273 _ ?_
              show Steps p.tables e below (s₁.setTop (mkF m 7 #[vR a1, vI (94 : Int32), vI (0 : Int32), vI (4 : Int32), vI (94 : Int32), vI (4 : Int32)] [])) _
              refine XS.iload X0.here hx rfl (hb hby d20_7) rfl ?_
              refine XS.iloadN X0.here hx rfl (hb hby d20_9) rfl ?_
              show Steps p.tables e below (s₁.setTop (mkF m 10 #[vR a1, vI (94 : Int32), vI (0 : Int32), vI (4 : Int32), vI (94 : Int32), vI (4 : Int32)] [(.int (4 : Int32)), (.int (4 : Int32))])) _
              refine XS.icmpYes X0.here hx rfl (pc0 := 10) (pc' := 31) rfl (hb hby d20_10) rfl (flt (by decide : ¬ ((4 : Int32) < (4 : Int32)))).2.1 (by decide) (by decide) ?_
              refine XS.iconst X0.here hx rfl (hb hby d20_31) ?_
              exact kt
            clear R273
            obtain ⟨fs, hr, hrun, hended, hW, hsame⟩ := X0.leave (v := some (.int (-1 : Int32))) (fun h => by rw [Bd.returns] at h; cases h)
            refine ⟨_, _, pre0 _ (R274 _ ?_), hrun, hended, _, _, rfl, ?_, ⟨_, rfl⟩, hW, hsame.mono (by decide) (by decide)⟩
            · exact retI X0 hx Bd.returns (hb hby d20_32) hr
            · show Q_rm_ioc Z a1 p2 p3 p4 n g h0 n0 _ s₁.heap _
              rw [e0]
              exact ⟨by rw [hn, own_ix4, if_neg hv0, if_neg hv1, if_neg hv2, if_neg hv3], N0, rfl⟩
theorem d16_0 : decode jdk_43_method_22_code 0 = .ok (.iload_n 1, 1) := by decide +kernel
theorem pd_10 : parseMethodDescriptor "(I)Z" = some ⟨[.int], some .boolean⟩ := by decide +kernel
theorem d16_1 : decode jdk_43_method_22_code 1 = .ok (.invokestatic 88, 3) := by decide +kernel
theorem d16_4 : decode jdk_43_method_22_code 4 = .ok (.ifCond .ne 5, 3) := by decide +kernel
theorem d16_9 : decode jdk_43_method_22_code 9 = .ok (.iload_n 2, 1) := by decide +kernel
theorem d16_10 : decode jdk_43_method_22_code 10 = .ok (.iconst 0, 1) := by decide +kernel
theorem pd_11 : parseMethodDescriptor "(II)I" = some ⟨[.int, .int], some .int⟩ := by decide +kernel
theorem d16_11 : decode jdk_43_method_22_code 11 = .ok (.invokestatic 92, 3) := by decide +kernel
theorem d16_14 : decode jdk_43_method_22_code 14 = .ok (.istore_n 2, 1) := by decide +kernel
theorem d16_15 : decode jdk_43_method_22_code 15 = .ok (.iload_n 3, 1) := by decide +kernel
theorem d16_16 : decode jdk_43_method_22_code 16 = .ok (.aload_n 0, 1) := by decide +kernel
theorem d16_17 : decode jdk_43_method_22_code 17 = .ok (.arraylength, 1) := by decide +kernel
theorem d16_18 : decode jdk_43_method_22_code 18 = .ok (.invokestatic 38, 3) := by decide +kernel
theorem d16_21 : decode jdk_43_method_22_code 21 = .ok (.istore_n 3, 1) := by decide +kernel
theorem d16_22 : decode jdk_43_method_22_code 22 = .ok (.iload_n 2, 1) := by decide +kernel
theorem d16_23 : decode jdk_43_method_22_code 23 = .ok (.iload_n 3, 1) := by decide +kernel
theorem d16_24 : decode jdk_43_method_22_code 24 = .ok (.if_icmp .lt 5, 3) := by decide +kernel
theorem d16_27 : decode jdk_43_method_22_code 27 = .ok (.iconst (-1), 1) := by decide +kernel
theorem d16_28 : decode jdk_43_method_22_code 28 = .ok (.ireturn, 1) := by decide +kernel
theorem d16_29 : decode jdk_43_method_22_code 29 = .ok (.aload_n 0, 1) := by decide +kernel
theorem d16_30 : decode jdk_43_method_22_code 30 = .ok (.iload_n 1, 1) := by decide +kernel
theorem d16_31 : decode jdk_43_method_22_code 31 = .ok (.iload_n 2, 1) := by decide +kernel
theorem d16_32 : decode jdk_43_method_22_code 32 = .ok (.iload_n 3, 1) := by decide +kernel
theorem pd_12 : parseMethodDescriptor "([BIII)I" = some ⟨[(.array .byte), .int, .int, .int], some .int⟩ := by decide +kernel
theorem d16_33 : decode jdk_43_method_22_code 33 = .ok (.invokestatic 95, 3) := by decide +kernel
theorem d16_36 : decode jdk_43_method_22_code 36 = .ok (.ireturn, 1) := by decide +kernel
theorem ef_rm_lio (m : MethodId) (a1 : Addr) (p2 : Int32) (p3 : Int32) (p4 : Int32) : entryFrame m #[(.ref a1), (.int p2), (.int p3), (.int p4)] 4 = mkF m 0 #[vR a1, vI p2, vI p3, vI p4] [] := by first | (simp [entryFrame, mkF, argsToLocals, Value.category]; done) | rfl
def Q_rm_lio (Z : State) (a1 : Addr) (p2 : Int32) (p3 : Int32) (p4 : Int32) (n : Nat) (g : Nat → Int32) (h0 : Heap) (n0 : Nat) (v : Option Value) (h : Heap) (L : List Loc) : Prop := v = some (.int (own_ix n g)) ∧ Fr n0 L ∧ h = h0
set_option maxRecDepth 65536 in
set_option maxHeartbeats 40000000 in
theorem rm_lio (l : Launch) (Z : State) (a0 : Array Value) (hw : ∀ d ∈ tables_1, d.before a0 Z = true) (ws : List Jvm.Cond) (a1 : Addr) (p2 : Int32) (p3 : Int32) (p4 : Int32) (n : Nat) (g : Nat → Int32) (h0 : Heap) (n0 : Nat) (Z0 : n0 ≤ h0.size) (hn : n = 0 ∨ n = 1 ∨ n = 2 ∨ n = 3 ∨ n = 4) (VA : AV Z h0 a1 .byte n (fun j => .int (g j))) (hp2 : p2 = (94 : Int32)) (hp3 : p3 = (0 : Int32)) (hp4 : p4 = (n : Nat).toInt32) :
    MetFree l (⟨"java/lang/StringLatin1", "indexOf", "([BIII)I"⟩ : MethodName) (head1 (Jvm.Cond.code (⟨"java/lang/StringLatin1", "indexOf", "([BIII)I"⟩ : MethodName) jdk_43_method_22_code 4 (some .int) :: ws) ({ frames := 1, cells := 0, slots := 0, locals := 17 } : Room)) (fun a U => a = #[(.ref a1), (.int p2), (.int p3), (.int p4)] ∧ Z.Warmed39 U.vm ∧ U.heap = h0) (fun _ _ _ _ _ => True) (fun _ U oC U' => ∃ v L, oC = .returned v ∧ Q_rm_lio Z a1 p2 p3 p4 n g h0 n0 v U'.heap L ∧ FrameEnd U oC U' L ({ frames := 1, cells := 0, slots := 0, locals := 17 } : Room).cells ({ frames := 1, cells := 0, slots := 0, locals := 17 } : Room).slots) := by
  refine MetFree.of_bodySF (plainFor_of_name pn_2) hisR ?_
  intro p e s m args below meth c s₁ Bd hml0 hP hK
  obtain ⟨rfl, hZ, hh⟩ := hP
  have hx := Bd.exec
  have hby := Bd.bytes
  have hml : c.maxLocals = 4 := hml0
  have hown : s.vm.findClass "java/lang/StringLatin1" = some m.cls := findClass_of_methodNamed Bd.named
  have hnm := (name_of_methodNamed Bd.named Bd.method).1
  have X0 : Stand p l e ({ frames := 1, cells := 0, slots := 0, locals := 17 } : Room) s m #[(.ref a1), (.int p2), (.int p3), (.int p4)] below meth c s₁ [] 0 0 := Stand.of_body Bd
  have e0 : s₁.heap = h0 := by rw [← hh, Bd.state]; rfl
  have N0 := Fr.nil n0
  have pre0 : ∀ tg, Steps p.tables e below (s₁.setTop (mkF m 0 #[vR a1, vI p2, vI p3, vI p4] [])) tg → Steps p.tables e below (s₁.setTop (entryFrame m #[(.ref a1), (.int p2), (.int p3), (.int p4)] 4)) tg := fun t k => castTop (ef_rm_lio m a1 p2 p3 p4) k
  have pre00 : ∀ tg, Steps p.tables e below (s₁.setTop (mkF m 0 #[vR a1, vI p2, vI p3, vI p4] [])) tg → Steps p.tables e below (s₁.setTop (mkF m 0 #[vR a1, vI p2, vI p3, vI p4] [])) tg := fun _ k => k
  have R275 : ∀ tg, Steps p.tables e below (s₁.setTop (mkF m 0 #[vR a1, vI (94 : Int32), vI (0 : Int32), vI (n : Nat).toInt32] [])) tg → Steps p.tables e below (s₁.setTop (mkF m 0 #[vR a1, vI p2, vI p3, vI p4] [])) tg := by intro tg kt; refine pre00 tg ?_; rw [hp2, hp3, hp4]; exact kt
  have R276 : ∀ tg, Steps p.tables e below (s₁.setTop (mkF m 1 #[vR a1, vI (94 : Int32), vI (0 : Int32), vI (n : Nat).toInt32] [(.int (94 : Int32))])) tg → Steps p.tables e below (s₁.setTop (mkF m 0 #[vR a1, vI p2, vI p3, vI p4] [])) tg := by
    intro tg kt
    refine R275 _ ?_
    show Steps p.tables e below (s₁.setTop (mkF m 0 #[vR a1, vI (94 : Int32), vI (0 : Int32), vI (n : Nat).toInt32] [])) _
    refine XS.iloadN X0.here hx rfl (hb hby d16_0) rfl ?_
    exact kt
  clear R275
  obtain ⟨_, _, ⟨T277, L277, k277, n277⟩, -, X277, ⟨Lc277, hQ277, l277, y277, z277⟩, st277⟩ := Jvm.LawKit.callS X0 hx (y := (⟨"java/lang/StringLatin1", "canEncode", "(I)Z"⟩ : MethodName)) hown (mvT hZ (hw _ (List.mem_of_getElem? (i := 87) rfl))) (mvT hZ (hw _ (List.mem_of_getElem? (i := 88) rfl))) (mvT hZ (hw _ (List.mem_of_getElem? (i := 85) rfl))) (mvT hZ (hw _ (List.mem_of_getElem? (i := 89) rfl))) (by decide) (backOf (W := 0) (rm_can l Z a0 hw [] (94 : Int32) h0 n0 Z0 rfl) hZ (hw _ (List.mem_of_getElem? (i := 89) rfl)) (hw _ (List.mem_of_getElem? (i := 85) rfl)) (by decide) (by decide)) (g := (mkF m 1 #[vR a1, vI (94 : Int32), vI (0 : Int32), vI (n : Nat).toInt32] [(.int (94 : Int32))])) rfl (by rw [hml]; rfl) (argsL := [(.int (94 : Int32))]) (rest := []) (lenOf pd_10 rfl) rfl (by show 2 * 0 + _ ≤ _; exact Nat.le_of_eq rfl) (hb hby d16_1) (fun _ _ => ⟨rfl, e0, (by decide : 0 + 0 ≤ _), (by decide : 0 + 0 ≤ _)⟩)
  dsimp only [Pt.U, Pt.locs, Pt.cells, Pt.slots] at X277 l277 y277 z277 st277 hQ277
  rw [l277, y277, z277] at X277
  obtain ⟨rfl, N277q, hh277⟩ := hQ277
  have N277 := Fr.app N0 N277q
  have R278 : ∀ tg, Steps p.tables e below (T277.setTop (mkF m 11 #[vR a1, vI (94 : Int32), vI (0 : Int32), vI (n : Nat).toInt32] [(.int (0 : Int32)), (.int (0 : Int32))])) tg → Steps p.tables e below (s₁.setTop (mkF m 0 #[vR a1, vI p2, vI p3, vI p4] [])) tg := by
    intro tg kt
    refine R276 _ ?_
    refine st277 _ ?_
    show Steps p.tables e below (T277.setTop (mkF m 4 #[vR a1, vI (94 : Int32), vI (0 : Int32), vI (n : Nat).toInt32] [(.int (1 : Int32))])) _
    refine XS.ifYes X277.here hx rfl (pc0 := 4) (pc' := 9) rfl (hb hby d16_4) rfl ((if0 _ _).trans (feq (by decide : ¬ ((1 : Int32) = (0 : Int32)))).2) (by decide) (by decide) ?_
    refine XS.iloadN X277.here hx rfl (hb hby d16_9) rfl ?_
    refine XS.iconst X277.here hx rfl (hb hby d16_10) ?_
    exact kt
  clear R276 st277
  obtain ⟨_, _, ⟨T279, L279, k279, n279⟩, -, X279, ⟨Lc279, hQ279, l279, y279, z279⟩, st279⟩ := Jvm.LawKit.callS X277 hx (y := (⟨"java/lang/Math", "max", "(II)I"⟩ : MethodName)) hown (mvT hZ (hw _ (List.mem_of_getElem? (i := 90) rfl))) (mvT hZ (hw _ (List.mem_of_getElem? (i := 91) rfl))) (mvT hZ (hw _ (List.mem_of_getElem? (i := 92) rfl))) (mvT hZ (hw _ (List.mem_of_getElem? (i := 93) rfl))) (by decide) (backOf (W := 0) (rm_max l Z a0 hw [] (0 : Int32) (0 : Int32) h0 n0 Z0) hZ (hw _ (List.mem_of_getElem? (i := 93) rfl)) (hw _ (List.mem_of_getElem? (i := 92) rfl)) (by decide) (by decide)) (g := (mkF m 11 #[vR a1, vI (94 : Int32), vI (0 : Int32), vI (n : Nat).toInt32] [(.int (0 : Int32)), (.int (0 : Int32))])) rfl (by rw [hml]; rfl) (argsL := [(.int (0 : Int32)), (.int (0 : Int32))]) (rest := []) (lenOf pd_11 rfl) rfl (by show 2 * 0 + _ ≤ _; exact Nat.le_of_eq rfl) (hb hby d16_11) (fun _ _ => ⟨rfl, hh277, (by decide : 0 + 0 ≤ _), (by decide : 0 + 0 ≤ _)⟩)
  dsimp only [Pt.U, Pt.locs, Pt.cells, Pt.slots] at X279 l279 y279 z279 st279 hQ279
  rw [l279, y279, z279] at X279
  obtain ⟨rfl, N279q, hh279⟩ := hQ279
  have N279 := Fr.app N277 N279q
  have R280 : ∀ tg, Steps p.tables e below (T279.setTop (mkF m 14 #[vR a1, vI (94 : Int32), vI (0 : Int32), vI (n : Nat).toInt32] [(.int (own_max (0 : Int32) (0 : Int32)))])) tg → Steps p.tables e below (s₁.setTop (mkF m 0 #[vR a1, vI p2, vI p3, vI p4] [])) tg := by
    intro tg kt
    refine R278 _ ?_
    refine st279 _ ?_
    exact kt
  clear R278 st279
  have R281 : ∀ tg, Steps p.tables e below (T279.setTop (mkF m 14 #[vR a1, vI (94 : Int32), vI (0 : Int32), vI (n : Nat).toInt32] [(.int (0 : Int32))])) tg → Steps p.tables e below (s₁.setTop (mkF m 0 #[vR a1, vI p2, vI p3, vI p4] [])) tg := by intro tg kt; refine R280 tg ?_; rw [show own_max (0 : Int32) (0 : Int32) = (0 : Int32) from rfl]; exact kt
  have R282 : ∀ tg, Steps p.tables e below (T279.setTop (mkF m 17 #[vR a1, vI (94 : Int32), vI (0 : Int32), vI (n : Nat).toInt32] [(.ref a1), (.int (n : Nat).toInt32)])) tg → Steps p.tables e below (s₁.setTop (mkF m 0 #[vR a1, vI p2, vI p3, vI p4] [])) tg := by
    intro tg kt
    refine R281 _ ?_
    show Steps p.tables e below (T279.setTop (mkF m 14 #[vR a1, vI (94 : Int32), vI (0 : Int32), vI (n : Nat).toInt32] [(.int (0 : Int32))])) _
    refine XS.istoreN X279.here hx rfl (hb hby d16_14) rfl (l' := #[vR a1, vI (94 : Int32), vI (0 : Int32), vI (n : Nat).toInt32]) rfl ?_
    refine XS.iloadN X279.here hx rfl (hb hby d16_15) rfl ?_
    refine XS.aloadN X279.here hx rfl (hb hby d16_16) rfl rfl ?_
    exact kt
  clear R281
  obtain ⟨cl283, Ar283, ln283⟩ := VA.len
  have R284 : ∀ tg, Steps p.tables e below (T279.setTop (mkF m 18 #[vR a1, vI (94 : Int32), vI (0 : Int32), vI (n : Nat).toInt32] [(.int (n : Nat).toInt32), (.int (n : Nat).toInt32)])) tg → Steps p.tables e below (s₁.setTop (mkF m 0 #[vR a1, vI p2, vI p3, vI p4] [])) tg := by
    intro tg kt
    refine R282 _ ?_
    show Steps p.tables e below (T279.setTop (mkF m 17 #[vR a1, vI (94 : Int32), vI (0 : Int32), vI (n : Nat).toInt32] [(.ref a1), (.int (n : Nat).toInt32)])) _
    refine X279.arraylength hx (by rw [hh279]; exact Ar283.1) (State.isArrayOf_alike hZ.alike Ar283.2.1) (g := (mkF m 17 #[vR a1, vI (94 : Int32), vI (0 : Int32), vI (n : Nat).toInt32] [(.ref a1), (.int (n : Nat).toInt32)])) rfl rfl (hb hby d16_17) _ ?_
    rw [ln283]
    exact kt
  clear R282
  obtain ⟨_, _, ⟨T285, L285, k285, n285⟩, -, X285, ⟨Lc285, hQ285, l285, y285, z285⟩, st285⟩ := Jvm.LawKit.callS X279 hx (y := (⟨"java/lang/Math", "min", "(II)I"⟩ : MethodName)) hown (mvT hZ (hw _ (List.mem_of_getElem? (i := 94) rfl))) (mvT hZ (hw _ (List.mem_of_getElem? (i := 95) rfl))) (mvT hZ (hw _ (List.mem_of_getElem? (i := 92) rfl))) (mvT hZ (hw _ (List.mem_of_getElem? (i := 96) rfl))) (by decide) (backOf (W := 0) (rm_min l Z a0 hw [] (n : Nat).toInt32 (n : Nat).toInt32 h0 n0 Z0) hZ (hw _ (List.mem_of_getElem? (i := 96) rfl)) (hw _ (List.mem_of_getElem? (i := 92) rfl)) (by decide) (by decide)) (g := (mkF m 18 #[vR a1, vI (94 : Int32), vI (0 : Int32), vI (n : Nat).toInt32] [(.int (n : Nat).toInt32), (.int (n : Nat).toInt32)])) rfl (by rw [hml]; rfl) (argsL := [(.int (n : Nat).toInt32), (.int (n : Nat).toInt32)]) (rest := []) (lenOf pd_11 rfl) rfl (by show 2 * 0 + _ ≤ _; exact Nat.le_of_eq rfl) (hb hby d16_18) (fun _ _ => ⟨rfl, hh279, (by decide : 0 + 0 ≤ _), (by decide : 0 + 0 ≤ _)⟩)
  dsimp only [Pt.U, Pt.locs, Pt.cells, Pt.slots] at X285 l285 y285 z285 st285 hQ285
  rw [l285, y285, z285] at X285
  obtain ⟨rfl, N285q, hh285⟩ := hQ285
  have N285 := Fr.app N279 N285q
  have R286 : ∀ tg, Steps p.tables e below (T285.setTop (mkF m 21 #[vR a1, vI (94 : Int32), vI (0 : Int32), vI (n : Nat).toInt32] [(.int (own_min (n : Nat).toInt32 (n : Nat).toInt32))])) tg → Steps p.tables e below (s₁.setTop (mkF m 0 #[vR a1, vI p2, vI p3, vI p4] [])) tg := by
    intro tg kt
    refine R284 _ ?_
    refine st285 _ ?_
    exact kt
  clear R284 st285
  have R287 : ∀ tg, Steps p.tables e below (T285.setTop (mkF m 21 #[vR a1, vI (94 : Int32), vI (0 : Int32), vI (n : Nat).toInt32] [(.int (n : Nat).toInt32)])) tg → Steps p.tables e below (s₁.setTop (mkF m 0 #[vR a1, vI p2, vI p3, vI p4] [])) tg := by intro tg kt; refine R286 tg ?_; rw [own_mns]; exact kt
  have R288 : ∀ tg, Steps p.tables e below (T285.setTop (mkF m 24 #[vR a1, vI (94 : Int32), vI (0 : Int32), vI (n : Nat).toInt32] [(.int (n : Nat).toInt32), (.int (0 : Int32))])) tg → Steps p.tables e below (s₁.setTop (mkF m 0 #[vR a1, vI p2, vI p3, vI p4] [])) tg := by
    intro tg kt
    refine R287 _ ?_
    show Steps p.tables e below (T285.setTop (mkF m 21 #[vR a1, vI (94 : Int32), vI (0 : Int32), vI (n : Nat).toInt32] [(.int (n : Nat).toInt32)])) _
    refine XS.istoreN X285.here hx rfl (hb hby d16_21) rfl (l' := #[vR a1, vI (94 : Int32), vI (0 : Int32), vI (n : Nat).toInt32]) rfl ?_
    refine XS.iloadN X285.here hx rfl (hb hby d16_22) rfl ?_
    refine XS.iloadN X285.here hx rfl (hb hby d16_23) rfl ?_
    exact kt
  clear R287
  rcases hn with hz | hn
  · have R289 : ∀ tg, Steps p.tables e below (T285.setTop (mkF m 28 #[vR a1, vI (94 : Int32), vI (0 : Int32), vI (n : Nat).toInt32] [(.int (-1 : Int32))])) tg → Steps p.tables e below (s₁.setTop (mkF m 0 #[vR a1, vI p2, vI p3, vI p4] [])) tg := by
      intro tg kt
      refine R288 _ ?_
      show Steps p.tables e below (T285.setTop (mkF m 24 #[vR a1, vI (94 : Int32), vI (0 : Int32), vI (n : Nat).toInt32] [(.int (n : Nat).toInt32), (.int (0 : Int32))])) _
      refine XS.icmpNo X285.here hx rfl (hb hby d16_24) rfl (flt ((by rw [hz]; decide) : ¬ ((0 : Int32) < (n : Nat).toInt32))).1 ?_
      refine XS.iconst X285.here hx rfl (hb hby d16_27) ?_
      exact kt
    clear R288
    obtain ⟨fs, hr, hrun, hended, hW, hsame⟩ := X285.leave (v := some (.int (-1 : Int32))) (fun h => by rw [Bd.returns] at h; cases h)
    refine ⟨_, _, pre0 _ (R289 _ ?_), hrun, hended, _, _, rfl, ?_, ⟨_, rfl⟩, hW, hsame.mono (by decide) (by decide)⟩
    · exact retI X285 hx Bd.returns (hb hby d16_28) hr
    · show Q_rm_lio Z a1 p2 p3 p4 n g h0 n0 _ T285.heap _
      rw [hh285]
      exact ⟨by rw [hz, own_ix0], N285, rfl⟩
  · have R290 : ∀ tg, Steps p.tables e below (T285.setTop (mkF m 33 #[vR a1, vI (94 : Int32), vI (0 : Int32), vI (n : Nat).toInt32] [(.int (n : Nat).toInt32), (.int (0 : Int32)), (.int (94 : Int32)), (.ref a1)])) tg → Steps p.tables e below (s₁.setTop (mkF m 0 #[vR a1, vI p2, vI p3, vI p4] [])) tg := by
      intro tg kt
      refine R288 _ ?_
      show Steps p.tables e below (T285.setTop (mkF m 24 #[vR a1, vI (94 : Int32), vI (0 : Int32), vI (n : Nat).toInt32] [(.int (n : Nat).toInt32), (.int (0 : Int32))])) _
      refine XS.icmpYes X285.here hx rfl (pc0 := 24) (pc' := 29) rfl (hb hby d16_24) rfl (tlt ((own_nn hn).2.2.2.1 : (0 : Int32) < (n : Nat).toInt32)).1 (by decide) (by decide) ?_
      refine XS.aloadN X285.here hx rfl (hb hby d16_29) rfl rfl ?_
      refine XS.iloadN X285.here hx rfl (hb hby d16_30) rfl ?_
      show Steps p.tables e below (T285.setTop (mkF m 31 #[vR a1, vI (94 : Int32), vI (0 : Int32), vI (n : Nat).toInt32] [(.int (94 : Int32)), (.ref a1)])) _
      refine XS.iloadN X285.here hx rfl (hb hby d16_31) rfl ?_
      refine XS.iloadN X285.here hx rfl (hb hby d16_32) rfl ?_
      exact kt
    clear R288
    obtain ⟨_, _, ⟨T291, L291, k291, n291⟩, -, X291, ⟨Lc291, hQ291, l291, y291, z291⟩, st291⟩ := Jvm.LawKit.callS X285 hx (y := (⟨"java/lang/StringLatin1", "indexOfChar", "([BIII)I"⟩ : MethodName)) hown (mvT hZ (hw _ (List.mem_of_getElem? (i := 97) rfl))) (mvT hZ (hw _ (List.mem_of_getElem? (i := 98) rfl))) (mvT hZ (hw _ (List.mem_of_getElem? (i := 85) rfl))) (mvT hZ (hw _ (List.mem_of_getElem? (i := 99) rfl))) (by decide) (backOf (W := 0) (rm_ioc l Z a0 hw [] a1 (94 : Int32) (0 : Int32) (n : Nat).toInt32 n g h0 n0 Z0 hn VA rfl rfl rfl) hZ (hw _ (List.mem_of_getElem? (i := 99) rfl)) (hw _ (List.mem_of_getElem? (i := 85) rfl)) (by decide) (by decide)) (g := (mkF m 33 #[vR a1, vI (94 : Int32), vI (0 : Int32), vI (n : Nat).toInt32] [(.int (n : Nat).toInt32), (.int (0 : Int32)), (.int (94 : Int32)), (.ref a1)])) rfl (by rw [hml]; rfl) (argsL := [(.ref a1), (.int (94 : Int32)), (.int (0 : Int32)), (.int (n : Nat).toInt32)]) (rest := []) (lenOf pd_12 rfl) rfl (by show 2 * 0 + _ ≤ _; exact Nat.le_of_eq rfl) (hb hby d16_33) (fun _ _ => ⟨rfl, hh285, (by decide : 0 + 0 ≤ _), (by decide : 0 + 0 ≤ _)⟩)
    dsimp only [Pt.U, Pt.locs, Pt.cells, Pt.slots] at X291 l291 y291 z291 st291 hQ291
    rw [l291, y291, z291] at X291
    obtain ⟨rfl, N291q, hh291⟩ := hQ291
    have N291 := Fr.app N285 N291q
    have R292 : ∀ tg, Steps p.tables e below (T291.setTop (mkF m 36 #[vR a1, vI (94 : Int32), vI (0 : Int32), vI (n : Nat).toInt32] [(.int (own_ix n g))])) tg → Steps p.tables e below (s₁.setTop (mkF m 0 #[vR a1, vI p2, vI p3, vI p4] [])) tg := by
      intro tg kt
      refine R290 _ ?_
      refine st291 _ ?_
      exact kt
    clear R290 st291
    obtain ⟨fs, hr, hrun, hended, hW, hsame⟩ := X291.leave (v := some (.int (own_ix n g))) (fun h => by rw [Bd.returns] at h; cases h)
    refine ⟨_, _, pre0 _ (R292 _ ?_), hrun, hended, _, _, rfl, ?_, ⟨_, rfl⟩, hW, hsame.mono (by decide) (by decide)⟩
    · exact retI X291 hx Bd.returns (hb hby d16_36) hr
    · show Q_rm_lio Z a1 p2 p3 p4 n g h0 n0 _ T291.heap _
      rw [hh291]
      exact ⟨rfl, N291, rfl⟩
theorem d12_0 : decode jdk_42_method_80_code 0 = .ok (.aload_n 0, 1) := by decide +kernel
theorem d12_1 : decode jdk_42_method_80_code 1 = .ok (.invokevirtual 492, 3) := by decide +kernel
theorem d12_4 : decode jdk_42_method_80_code 4 = .ok (.ifCond .eq 19, 3) := by decide +kernel
theorem d12_7 : decode jdk_42_method_80_code 7 = .ok (.aload_n 0, 1) := by decide +kernel
theorem d12_8 : decode jdk_42_method_80_code 8 = .ok (.getfield 9, 3) := by decide +kernel
theorem d12_11 : decode jdk_42_method_80_code 11 = .ok (.iload_n 1, 1) := by decide +kernel
theorem d12_12 : decode jdk_42_method_80_code 12 = .ok (.iload_n 2, 1) := by decide +kernel
theorem d12_13 : decode jdk_42_method_80_code 13 = .ok (.aload_n 0, 1) := by decide +kernel
theorem pd_13 : parseMethodDescriptor "()I" = some ⟨[], some .int⟩ := by decide +kernel
theorem d12_14 : decode jdk_42_method_80_code 14 = .ok (.invokevirtual 505, 3) := by decide +kernel
theorem d12_17 : decode jdk_42_method_80_code 17 = .ok (.invokestatic 637, 3) := by decide +kernel
theorem d12_20 : decode jdk_42_method_80_code 20 = .ok (.goto 16, 3) := by decide +kernel
theorem d12_36 : decode jdk_42_method_80_code 36 = .ok (.ireturn, 1) := by decide +kernel
theorem ef_rm_io2 (m : MethodId) (a1 : Addr) (p2 : Int32) (p3 : Int32) : entryFrame m #[(.ref a1), (.int p2), (.int p3)] 3 = mkF m 0 #[vR a1, vI p2, vI p3] [] := by first | (simp [entryFrame, mkF, argsToLocals, Value.category]; done) | rfl
def Q_rm_io2 (Z : State) (a1 : Addr) (p2 : Int32) (p3 : Int32) (tb : Addr) (n : Nat) (g : Nat → Int32) (cs : Int32) (h0 : Heap) (n0 : Nat) (v : Option Value) (h : Heap) (L : List Loc) : Prop := v = some (.int (own_ix n g)) ∧ Fr n0 L ∧ h = h0
set_option maxRecDepth 65536 in
set_option maxHeartbeats 40000000 in
theorem rm_io2 (l : Launch) (Z : State) (a0 : Array Value) (hw : ∀ d ∈ tables_1, d.before a0 Z = true) (ws : List Jvm.Cond) (a1 : Addr) (p2 : Int32) (p3 : Int32) (tb : Addr) (n : Nat) (g : Nat → Int32) (cs : Int32) (h0 : Heap) (n0 : Nat) (Z0 : n0 ≤ h0.size) (hn : n = 0 ∨ n = 1 ∨ n = 2 ∨ n = 3 ∨ n = 4) (SC : Sta Z Z.heap "java/lang/String" "COMPACT_STRINGS" "Z" (.int cs)) (OL : Old Z n0 h0) (hcs : ¬ (cs = (0 : Int32))) (E1 : Exa Z h0 a1 "java/lang/String") (Fc : Fld Z h0 a1 "java/lang/String" "coder" "B" (.int (0 : Int32))) (Fv : Fld Z h0 a1 "java/lang/String" "value" "[B" (.ref tb)) (VA : AV Z h0 tb .byte n (fun j => .int (g j))) (hp2 : p2 = (94 : Int32)) (hp3 : p3 = (0 : Int32)) :
    MetFree l (⟨"java/lang/String", "indexOf", "(II)I"⟩ : MethodName) (head1 (Jvm.Cond.code (⟨"java/lang/String", "indexOf", "(II)I"⟩ : MethodName) jdk_42_method_80_code 3 (some .int) :: ws) ({ frames := 2, cells := 0, slots := 0, locals := 32 } : Room)) (fun a U => a = #[(.ref a1), (.int p2), (.int p3)] ∧ Z.Warmed39 U.vm ∧ U.heap = h0) (fun _ _ _ _ _ => True) (fun _ U oC U' => ∃ v L, oC = .returned v ∧ Q_rm_io2 Z a1 p2 p3 tb n g cs h0 n0 v U'.heap L ∧ FrameEnd U oC U' L ({ frames := 2, cells := 0, slots := 0, locals := 32 } : Room).cells ({ frames := 2, cells := 0, slots := 0, locals := 32 } : Room).slots) := by
  refine MetFree.of_bodySF (plainFor_of_name pn_0) hisR ?_
  intro p e s m args below meth c s₁ Bd hml0 hP hK
  obtain ⟨rfl, hZ, hh⟩ := hP
  have hx := Bd.exec
  have hby := Bd.bytes
  have hml : c.maxLocals = 3 := hml0
  have hown : s.vm.findClass "java/lang/String" = some m.cls := findClass_of_methodNamed Bd.named
  have hnm := (name_of_methodNamed Bd.named Bd.method).1
  have X0 : Stand p l e ({ frames := 2, cells := 0, slots := 0, locals := 32 } : Room) s m #[(.ref a1), (.int p2), (.int p3)] below meth c s₁ [] 0 0 := Stand.of_body Bd
  have e0 : s₁.heap = h0 := by rw [← hh, Bd.state]; rfl
  have N0 := Fr.nil n0
  have pre0 : ∀ tg, Steps p.tables e below (s₁.setTop (mkF m 0 #[vR a1, vI p2, vI p3] [])) tg → Steps p.tables e below (s₁.setTop (entryFrame m #[(.ref a1), (.int p2), (.int p3)] 3)) tg := fun t k => castTop (ef_rm_io2 m a1 p2 p3) k
  have pre00 : ∀ tg, Steps p.tables e below (s₁.setTop (mkF m 0 #[vR a1, vI p2, vI p3] [])) tg → Steps p.tables e below (s₁.setTop (mkF m 0 #[vR a1, vI p2, vI p3] [])) tg := fun _ k => k
  have R293 : ∀ tg, Steps p.tables e below (s₁.setTop (mkF m 1 #[vR a1, vI p2, vI p3] [(.ref a1)])) tg → Steps p.tables e below (s₁.setTop (mkF m 0 #[vR a1, vI p2, vI p3] [])) tg := by
    intro tg kt
    refine pre00 _ ?_
    show Steps p.tables e below (s₁.setTop (mkF m 0 #[vR a1, vI p2, vI p3] [])) _
    refine XS.aloadN X0.here hx rfl (hb hby d12_0) rfl rfl ?_
    exact kt
  obtain ⟨cq294, kq294, q294a, q294b, q294c⟩ := isOf hZ e0 E1
  obtain ⟨_, _, ⟨T294, L294, k294, n294⟩, -, X294, ⟨Lc294, hQ294, l294, y294, z294⟩, st294⟩ := X0.virtualBack hx (y := (⟨"java/lang/String", "isLatin1", "()Z"⟩ : MethodName)) (z := (⟨"java/lang/String", "isLatin1", "()Z"⟩ : MethodName)) hown (mvT hZ (hw _ (List.mem_of_getElem? (i := 68) rfl))) (mvT hZ (hw _ (List.mem_of_getElem? (i := 69) rfl))) (notFace_of_selects (args := #[]) (mvT hZ (hw _ (List.mem_of_getElem? (i := 71) rfl)))) (mvT hZ (hw _ (List.mem_of_getElem? (i := 71) rfl))) (mvT hZ (hw _ (List.mem_of_getElem? (i := 70) rfl))) (by decide) (backOf (W := 0) (rm_lat l Z a0 hw [] a1 cs h0 n0 Z0 SC OL hcs Fc) hZ (hw _ (List.mem_of_getElem? (i := 72) rfl)) (hw _ (List.mem_of_getElem? (i := 8) rfl)) (by decide) (by decide)) q294a q294c (g := (mkF m 1 #[vR a1, vI p2, vI p3] [(.ref a1)])) rfl (by rw [hml]; rfl) (Steps.refl _) (argsL := []) (rest := []) (lenOf pd_2 rfl) rfl (by show 2 * 0 + _ ≤ _; exact Nat.le_of_eq rfl) (hb hby d12_1) (fun _ _ => ⟨rfl, e0, (by decide : 0 + 0 ≤ _), (by decide : 0 + 0 ≤ _)⟩)
  dsimp only [Pt.U, Pt.locs, Pt.cells, Pt.slots] at X294 l294 y294 z294 st294 hQ294
  rw [l294, y294, z294] at X294
  obtain ⟨rfl, N294q, hh294⟩ := hQ294
  have N294 := Fr.app N0 N294q
  have R295 : ∀ tg, Steps p.tables e below (T294.setTop (mkF m 8 #[vR a1, vI p2, vI p3] [(.ref a1)])) tg → Steps p.tables e below (s₁.setTop (mkF m 0 #[vR a1, vI p2, vI p3] [])) tg := by
    intro tg kt
    refine R293 _ ?_
    refine st294.trans ?_
    show Steps p.tables e below (T294.setTop (mkF m 4 #[vR a1, vI p2, vI p3] [(.int (1 : Int32))])) _
    refine XS.ifNo X294.here hx rfl (hb hby d12_4) rfl ((if0 _ _).trans (feq (by decide : ¬ ((1 : Int32) = (0 : Int32)))).1) ?_
    refine XS.aloadN X294.here hx rfl (hb hby d12_7) rfl rfl ?_
    exact kt
  clear R293 st294
  obtain ⟨T296, X296, e296, st296⟩ := getF X294 hx hZ hown (host := "") (Or.inl (hw _ (List.mem_of_getElem? (i := 33) rfl))) Via.refl hh294 Fv (g := (mkF m 8 #[vR a1, vI p2, vI p3] [(.ref a1)])) rfl rfl (hb hby d12_8)
  have R297 : ∀ tg, Steps p.tables e below (T296.setTop (mkF m 14 #[vR a1, vI p2, vI p3] [(.ref a1), (.int p3), (.int p2), (.ref tb)])) tg → Steps p.tables e below (s₁.setTop (mkF m 0 #[vR a1, vI p2, vI p3] [])) tg := by
    intro tg kt
    refine R295 _ ?_
    refine st296 _ ?_
    refine XS.iloadN X296.here hx rfl (hb hby d12_11) rfl ?_
    show Steps p.tables e below (T296.setTop (mkF m 12 #[vR a1, vI p2, vI p3] [(.int p2), (.ref tb)])) _
    refine XS.iloadN X296.here hx rfl (hb hby d12_12) rfl ?_
    refine XS.aloadN X296.here hx rfl (hb hby d12_13) rfl rfl ?_
    exact kt
  clear R295 st296
  obtain ⟨cq298, kq298, q298a, q298b, q298c⟩ := isOf hZ e296 E1
  obtain ⟨_, _, ⟨T298, L298, k298, n298⟩, -, X298, ⟨Lc298, hQ298, l298, y298, z298⟩, st298⟩ := X296.virtualBack hx (y := (⟨"java/lang/String", "length", "()I"⟩ : MethodName)) (z := (⟨"java/lang/String", "length", "()I"⟩ : MethodName)) hown (mvT hZ (hw _ (List.mem_of_getElem? (i := 73) rfl))) (mvT hZ (hw _ (List.mem_of_getElem? (i := 74) rfl))) (notFace_of_selects (args := #[]) (mvT hZ (hw _ (List.mem_of_getElem? (i := 76) rfl)))) (mvT hZ (hw _ (List.mem_of_getElem? (i := 76) rfl))) (mvT hZ (hw _ (List.mem_of_getElem? (i := 75) rfl))) (by decide) (backOf (W := 3) (rm_len l Z a0 hw [] a1 tb n g cs h0 n0 Z0 SC OL hcs E1 Fc Fv VA) hZ (hw _ (List.mem_of_getElem? (i := 77) rfl)) (hw _ (List.mem_of_getElem? (i := 8) rfl)) (by decide) (by decide)) q298a q298c (g := (mkF m 14 #[vR a1, vI p2, vI p3] [(.ref a1), (.int p3), (.int p2), (.ref tb)])) rfl (by rw [hml]; rfl) (Steps.refl _) (argsL := []) (rest := [(.int p3), (.int p2), (.ref tb)]) (lenOf pd_13 rfl) rfl (by show 2 * 0 + _ ≤ _; exact Nat.le_of_eq rfl) (hb hby d12_14) (fun _ _ => ⟨rfl, e296, (by decide : 0 + 0 ≤ _), (by decide : 0 + 0 ≤ _)⟩)
  dsimp only [Pt.U, Pt.locs, Pt.cells, Pt.slots] at X298 l298 y298 z298 st298 hQ298
  rw [l298, y298, z298] at X298
  obtain ⟨rfl, N298q, hh298⟩ := hQ298
  have N298 := Fr.app N294 N298q
  have R299 : ∀ tg, Steps p.tables e below (T298.setTop (mkF m 17 #[vR a1, vI p2, vI p3] [(.int (n : Nat).toInt32), (.int p3), (.int p2), (.ref tb)])) tg → Steps p.tables e below (s₁.setTop (mkF m 0 #[vR a1, vI p2, vI p3] [])) tg := by
    intro tg kt
    refine R297 _ ?_
    refine st298.trans ?_
    exact kt
  clear R297 st298
  obtain ⟨_, _, ⟨T300, L300, k300, n300⟩, -, X300, ⟨Lc300, hQ300, l300, y300, z300⟩, st300⟩ := Jvm.LawKit.callS X298 hx (y := (⟨"java/lang/StringLatin1", "indexOf", "([BIII)I"⟩ : MethodName)) hown (mvT hZ (hw _ (List.mem_of_getElem? (i := 83) rfl))) (mvT hZ (hw _ (List.mem_of_getElem? (i := 84) rfl))) (mvT hZ (hw _ (List.mem_of_getElem? (i := 85) rfl))) (mvT hZ (hw _ (List.mem_of_getElem? (i := 86) rfl))) (by decide) (backOf (W := 0) (rm_lio l Z a0 hw [] tb p2 p3 (n : Nat).toInt32 n g h0 n0 Z0 hn VA hp2 hp3 rfl) hZ (hw _ (List.mem_of_getElem? (i := 86) rfl)) (hw _ (List.mem_of_getElem? (i := 85) rfl)) (by decide) (by decide)) (g := (mkF m 17 #[vR a1, vI p2, vI p3] [(.int (n : Nat).toInt32), (.int p3), (.int p2), (.ref tb)])) rfl (by rw [hml]; rfl) (argsL := [(.ref tb), (.int p2), (.int p3), (.int (n : Nat).toInt32)]) (rest := []) (lenOf pd_12 rfl) rfl (by show 2 * 0 + _ ≤ _; exact Nat.le_of_eq rfl) (hb hby d12_17) (fun _ _ => ⟨rfl, hh298, (by decide : 0 + 0 ≤ _), (by decide : 0 + 0 ≤ _)⟩)
  dsimp only [Pt.U, Pt.locs, Pt.cells, Pt.slots] at X300 l300 y300 z300 st300 hQ300
  rw [l300, y300, z300] at X300
  obtain ⟨rfl, N300q, hh300⟩ := hQ300
  have N300 := Fr.app N298 N300q
  have R301 : ∀ tg, Steps p.tables e below (T300.setTop (mkF m 36 #[vR a1, vI p2, vI p3] [(.int (own_ix n g))])) tg → Steps p.tables e below (s₁.setTop (mkF m 0 #[vR a1, vI p2, vI p3] [])) tg := by
    intro tg kt
    refine R299 _ ?_
    refine st300 _ ?_
    show Steps p.tables e below (T300.setTop (mkF m 20 #[vR a1, vI p2, vI p3] [(.int (own_ix n g))])) _
    refine XS.goto X300.here hx rfl (pc0 := 20) (pc' := 36) rfl (hb hby d12_20) (by decide) (by decide) ?_
    exact kt
  clear R299 st300
  obtain ⟨fs, hr, hrun, hended, hW, hsame⟩ := X300.leave (v := some (.int (own_ix n g))) (fun h => by rw [Bd.returns] at h; cases h)
  refine ⟨_, _, pre0 _ (R301 _ ?_), hrun, hended, _, _, rfl, ?_, ⟨_, rfl⟩, hW, hsame.mono (by decide) (by decide)⟩
  · exact retI X300 hx Bd.returns (hb hby d12_36) hr
  · show Q_rm_io2 Z a1 p2 p3 tb n g cs h0 n0 _ T300.heap _
    rw [hh300]
    exact ⟨rfl, N300, rfl⟩
theorem d11_0 : decode jdk_42_method_79_code 0 = .ok (.aload_n 0, 1) := by decide +kernel
theorem d11_1 : decode jdk_42_method_79_code 1 = .ok (.iload_n 1, 1) := by decide +kernel
theorem d11_2 : decode jdk_42_method_79_code 2 = .ok (.iconst 0, 1) := by decide +kernel
theorem d11_3 : decode jdk_42_method_79_code 3 = .ok (.invokevirtual 633, 3) := by decide +kernel
theorem d11_6 : decode jdk_42_method_79_code 6 = .ok (.ireturn, 1) := by decide +kernel
theorem ef_rm_io1 (m : MethodId) (a1 : Addr) (p2 : Int32) : entryFrame m #[(.ref a1), (.int p2)] 2 = mkF m 0 #[vR a1, vI p2] [] := by first | (simp [entryFrame, mkF, argsToLocals, Value.category]; done) | rfl
def Q_rm_io1 (Z : State) (a1 : Addr) (p2 : Int32) (tb : Addr) (n : Nat) (g : Nat → Int32) (cs : Int32) (h0 : Heap) (n0 : Nat) (v : Option Value) (h : Heap) (L : List Loc) : Prop := v = some (.int (own_ix n g)) ∧ Fr n0 L ∧ h = h0
set_option maxRecDepth 65536 in
set_option maxHeartbeats 40000000 in
theorem rm_io1 (l : Launch) (Z : State) (a0 : Array Value) (hw : ∀ d ∈ tables_1, d.before a0 Z = true) (ws : List Jvm.Cond) (a1 : Addr) (p2 : Int32) (tb : Addr) (n : Nat) (g : Nat → Int32) (cs : Int32) (h0 : Heap) (n0 : Nat) (Z0 : n0 ≤ h0.size) (hn : n = 0 ∨ n = 1 ∨ n = 2 ∨ n = 3 ∨ n = 4) (SC : Sta Z Z.heap "java/lang/String" "COMPACT_STRINGS" "Z" (.int cs)) (OL : Old Z n0 h0) (hcs : ¬ (cs = (0 : Int32))) (E1 : Exa Z h0 a1 "java/lang/String") (Fc : Fld Z h0 a1 "java/lang/String" "coder" "B" (.int (0 : Int32))) (Fv : Fld Z h0 a1 "java/lang/String" "value" "[B" (.ref tb)) (VA : AV Z h0 tb .byte n (fun j => .int (g j))) (hp2 : p2 = (94 : Int32)) :
    MetFree l (⟨"java/lang/String", "indexOf", "(I)I"⟩ : MethodName) (head1 (Jvm.Cond.code (⟨"java/lang/String", "indexOf", "(I)I"⟩ : MethodName) jdk_42_method_79_code 2 (some .int) :: ws) ({ frames := 3, cells := 0, slots := 0, locals := 46 } : Room)) (fun a U => a = #[(.ref a1), (.int p2)] ∧ Z.Warmed39 U.vm ∧ U.heap = h0) (fun _ _ _ _ _ => True) (fun _ U oC U' => ∃ v L, oC = .returned v ∧ Q_rm_io1 Z a1 p2 tb n g cs h0 n0 v U'.heap L ∧ FrameEnd U oC U' L ({ frames := 3, cells := 0, slots := 0, locals := 46 } : Room).cells ({ frames := 3, cells := 0, slots := 0, locals := 46 } : Room).slots) := by
  refine MetFree.of_bodySF (plainFor_of_name pn_0) hisR ?_
  intro p e s m args below meth c s₁ Bd hml0 hP hK
  obtain ⟨rfl, hZ, hh⟩ := hP
  have hx := Bd.exec
  have hby := Bd.bytes
  have hml : c.maxLocals = 2 := hml0
  have hown : s.vm.findClass "java/lang/String" = some m.cls := findClass_of_methodNamed Bd.named
  have hnm := (name_of_methodNamed Bd.named Bd.method).1
  have X0 : Stand p l e ({ frames := 3, cells := 0, slots := 0, locals := 46 } : Room) s m #[(.ref a1), (.int p2)] below meth c s₁ [] 0 0 := Stand.of_body Bd
  have e0 : s₁.heap = h0 := by rw [← hh, Bd.state]; rfl
  have N0 := Fr.nil n0
  have pre0 : ∀ tg, Steps p.tables e below (s₁.setTop (mkF m 0 #[vR a1, vI p2] [])) tg → Steps p.tables e below (s₁.setTop (entryFrame m #[(.ref a1), (.int p2)] 2)) tg := fun t k => castTop (ef_rm_io1 m a1 p2) k
  have pre00 : ∀ tg, Steps p.tables e below (s₁.setTop (mkF m 0 #[vR a1, vI p2] [])) tg → Steps p.tables e below (s₁.setTop (mkF m 0 #[vR a1, vI p2] [])) tg := fun _ k => k
  have R302 : ∀ tg, Steps p.tables e below (s₁.setTop (mkF m 3 #[vR a1, vI p2] [(.int (0 : Int32)), (.int p2), (.ref a1)])) tg → Steps p.tables e below (s₁.setTop (mkF m 0 #[vR a1, vI p2] [])) tg := by
    intro tg kt
    refine pre00 _ ?_
    show Steps p.tables e below (s₁.setTop (mkF m 0 #[vR a1, vI p2] [])) _
    refine XS.aloadN X0.here hx rfl (hb hby d11_0) rfl rfl ?_
    refine XS.iloadN X0.here hx rfl (hb hby d11_1) rfl ?_
    refine XS.iconst X0.here hx rfl (hb hby d11_2) ?_
    exact kt
  obtain ⟨cq303, kq303, q303a, q303b, q303c⟩ := isOf hZ e0 E1
  obtain ⟨_, _, ⟨T303, L303, k303, n303⟩, -, X303, ⟨Lc303, hQ303, l303, y303, z303⟩, st303⟩ := X0.virtualBack hx (y := (⟨"java/lang/String", "indexOf", "(II)I"⟩ : MethodName)) (z := (⟨"java/lang/String", "indexOf", "(II)I"⟩ : MethodName)) hown (mvT hZ (hw _ (List.mem_of_getElem? (i := 63) rfl))) (mvT hZ (hw _ (List.mem_of_getElem? (i := 64) rfl))) (notFace_of_selects (args := #[]) (mvT hZ (hw _ (List.mem_of_getElem? (i := 66) rfl)))) (mvT hZ (hw _ (List.mem_of_getElem? (i := 66) rfl))) (mvT hZ (hw _ (List.mem_of_getElem? (i := 65) rfl))) (by decide) (backOf (W := 0) (rm_io2 l Z a0 hw [] a1 p2 (0 : Int32) tb n g cs h0 n0 Z0 hn SC OL hcs E1 Fc Fv VA hp2 rfl) hZ (hw _ (List.mem_of_getElem? (i := 67) rfl)) (hw _ (List.mem_of_getElem? (i := 8) rfl)) (by decide) (by decide)) q303a q303c (g := (mkF m 3 #[vR a1, vI p2] [(.int (0 : Int32)), (.int p2), (.ref a1)])) rfl (by rw [hml]; rfl) (Steps.refl _) (argsL := [(.int p2), (.int (0 : Int32))]) (rest := []) (lenOf pd_11 rfl) rfl (by show 2 * 0 + _ ≤ _; exact Nat.le_of_eq rfl) (hb hby d11_3) (fun _ _ => ⟨rfl, e0, (by decide : 0 + 0 ≤ _), (by decide : 0 + 0 ≤ _)⟩)
  dsimp only [Pt.U, Pt.locs, Pt.cells, Pt.slots] at X303 l303 y303 z303 st303 hQ303
  rw [l303, y303, z303] at X303
  obtain ⟨rfl, N303q, hh303⟩ := hQ303
  have N303 := Fr.app N0 N303q
  have R304 : ∀ tg, Steps p.tables e below (T303.setTop (mkF m 6 #[vR a1, vI p2] [(.int (own_ix n g))])) tg → Steps p.tables e below (s₁.setTop (mkF m 0 #[vR a1, vI p2] [])) tg := by
    intro tg kt
    refine R302 _ ?_
    refine st303.trans ?_
    exact kt
  clear R302 st303
  obtain ⟨fs, hr, hrun, hended, hW, hsame⟩ := X303.leave (v := some (.int (own_ix n g))) (fun h => by rw [Bd.returns] at h; cases h)
  refine ⟨_, _, pre0 _ (R304 _ ?_), hrun, hended, _, _, rfl, ?_, ⟨_, rfl⟩, hW, hsame.mono (by decide) (by decide)⟩
  · exact retI X303 hx Bd.returns (hb hby d11_6) hr
  · show Q_rm_io1 Z a1 p2 tb n g cs h0 n0 _ T303.heap _
    rw [hh303]
    exact ⟨rfl, N303, rfl⟩
theorem d23_0 : decode jdk_41_method_12_code 0 = .ok (.iload_n 0, 1) := by decide +kernel
theorem d23_1 : decode jdk_41_method_12_code 1 = .ok (.ifCond .lt 13, 3) := by decide +kernel
theorem d23_4 : decode jdk_41_method_12_code 4 = .ok (.iload_n 0, 1) := by decide +kernel
theorem d23_5 : decode jdk_41_method_12_code 5 = .ok (.iload_n 1, 1) := by decide +kernel
theorem d23_6 : decode jdk_41_method_12_code 6 = .ok (.if_icmp .gt 8, 3) := by decide +kernel
theorem d23_9 : decode jdk_41_method_12_code 9 = .ok (.iload_n 1, 1) := by decide +kernel
theorem d23_10 : decode jdk_41_method_12_code 10 = .ok (.iload_n 2, 1) := by decide +kernel
theorem d23_11 : decode jdk_41_method_12_code 11 = .ok (.if_icmp .le 11, 3) := by decide +kernel
theorem d23_22 : decode jdk_41_method_12_code 22 = .ok (.iload_n 0, 1) := by decide +kernel
theorem d23_23 : decode jdk_41_method_12_code 23 = .ok (.ireturn, 1) := by decide +kernel
theorem ef_rm_ftN (m : MethodId) (p1 : Int32) (p2 : Int32) (p3 : Int32) : entryFrame m #[(.int p1), (.int p2), (.int p3), .null] 4 = mkF m 0 #[vI p1, vI p2, vI p3, .val .null] [] := by first | (simp [entryFrame, mkF, argsToLocals, Value.category]; done) | rfl
def Q_rm_ftN (Z : State) (p1 : Int32) (p2 : Int32) (p3 : Int32) (h0 : Heap) (n0 : Nat) (v : Option Value) (h : Heap) (L : List Loc) : Prop := v = some (.int p1) ∧ Fr n0 L ∧ h = h0
set_option maxRecDepth 65536 in
set_option maxHeartbeats 40000000 in
theorem rm_ftN (l : Launch) (Z : State) (a0 : Array Value) (hw : ∀ d ∈ tables_1, d.before a0 Z = true) (ws : List Jvm.Cond) (p1 : Int32) (p2 : Int32) (p3 : Int32) (h0 : Heap) (n0 : Nat) (Z0 : n0 ≤ h0.size) (h1 : ¬ p1 < (0 : Int32)) (h2 : ¬ p2 < p1) (h3 : ¬ p3 < p2) :
    MetFree l (⟨"jdk/internal/util/Preconditions", "checkFromToIndex", "(IIILjava/util/function/BiFunction;)I"⟩ : MethodName) (head1 (Jvm.Cond.code (⟨"jdk/internal/util/Preconditions", "checkFromToIndex", "(IIILjava/util/function/BiFunction;)I"⟩ : MethodName) jdk_41_method_12_code 4 (some .int) :: ws) ({ frames := 0, cells := 0, slots := 0, locals := 0 } : Room)) (fun a U => a = #[(.int p1), (.int p2), (.int p3), .null] ∧ Z.Warmed39 U.vm ∧ U.heap = h0) (fun _ _ _ _ _ => True) (fun _ U oC U' => ∃ v L, oC = .returned v ∧ Q_rm_ftN Z p1 p2 p3 h0 n0 v U'.heap L ∧ FrameEnd U oC U' L ({ frames := 0, cells := 0, slots := 0, locals := 0 } : Room).cells ({ frames := 0, cells := 0, slots := 0, locals := 0 } : Room).slots) := by
  refine MetFree.of_bodySF (plainFor_of_name pn_1) hisR ?_
  intro p e s m args below meth c s₁ Bd hml0 hP hK
  obtain ⟨rfl, hZ, hh⟩ := hP
  have hx := Bd.exec
  have hby := Bd.bytes
  have hml : c.maxLocals = 4 := hml0
  have hown : s.vm.findClass "jdk/internal/util/Preconditions" = some m.cls := findClass_of_methodNamed Bd.named
  have hnm := (name_of_methodNamed Bd.named Bd.method).1
  have X0 : Stand p l e ({ frames := 0, cells := 0, slots := 0, locals := 0 } : Room) s m #[(.int p1), (.int p2), (.int p3), .null] below meth c s₁ [] 0 0 := Stand.of_body Bd
  have e0 : s₁.heap = h0 := by rw [← hh, Bd.state]; rfl
  have N0 := Fr.nil n0
  have pre0 : ∀ tg, Steps p.tables e below (s₁.setTop (mkF m 0 #[vI p1, vI p2, vI p3, .val .null] [])) tg → Steps p.tables e below (s₁.setTop (entryFrame m #[(.int p1), (.int p2), (.int p3), .null] 4)) tg := fun t k => castTop (ef_rm_ftN m p1 p2 p3) k
  have pre00 : ∀ tg, Steps p.tables e below (s₁.setTop (mkF m 0 #[vI p1, vI p2, vI p3, .val .null] [])) tg → Steps p.tables e below (s₁.setTop (mkF m 0 #[vI p1, vI p2, vI p3, .val .null] [])) tg := fun _ k => k
  have R305 : ∀ tg, Steps p.tables e below (s₁.setTop (mkF m 23 #[vI p1, vI p2, vI p3, .val .null] [(.int p1)])) tg → Steps p.tables e below (s₁.setTop (mkF m 0 #[vI p1, vI p2, vI p3, .val .null] [])) tg := by
    intro tg kt
    refine pre00 _ ?_
    show Steps p.tables e below (s₁.setTop (mkF m 0 #[vI p1, vI p2, vI p3, .val .null] [])) _
    refine XS.iloadN X0.here hx rfl (hb hby d23_0) rfl ?_
    show Steps p.tables e below (s₁.setTop (mkF m 1 #[vI p1, vI p2, vI p3, .val .null] [(.int p1)])) _
    refine XS.ifNo X0.here hx rfl (hb hby d23_1) rfl ((if0 _ _).trans (flt (h1 : ¬ (p1 < (0 : Int32)))).1) ?_
    refine XS.iloadN X0.here hx rfl (hb hby d23_4) rfl ?_
    refine XS.iloadN X0.here hx rfl (hb hby d23_5) rfl ?_
    show Steps p.tables e below (s₁.setTop (mkF m 6 #[vI p1, vI p2, vI p3, .val .null] [(.int p2), (.int p1)])) _
    refine XS.icmpNo X0.here hx rfl (hb hby d23_6) rfl (flt (h2 : ¬ (p2 < p1))).2.2.1 ?_
    refine XS.iloadN X0.here hx rfl (hb hby d23_9) rfl ?_
    refine XS.iloadN X0.here hx rfl (hb hby d23_10) rfl ?_
    show Steps p.tables e below (s₁.setTop (mkF m 11 #[vI p1, vI p2, vI p3, .val .null] [(.int p3), (.int p2)])) _
    refine XS.icmpYes X0.here hx rfl (pc0 := 11) (pc' := 22) rfl (hb hby d23_11) rfl (flt (h3 : ¬ (p3 < p2))).2.2.2 (by decide) (by decide) ?_
    refine XS.iloadN X0.here hx rfl (hb hby d23_22) rfl ?_
    exact kt
  obtain ⟨fs, hr, hrun, hended, hW, hsame⟩ := X0.leave (v := some (.int p1)) (fun h => by rw [Bd.returns] at h; cases h)
  refine ⟨_, _, pre0 _ (R305 _ ?_), hrun, hended, _, _, rfl, ?_, ⟨_, rfl⟩, hW, hsame.mono (by decide) (by decide)⟩
  · exact retI X0 hx Bd.returns (hb hby d23_23) hr
  · show Q_rm_ftN Z p1 p2 p3 h0 n0 _ s₁.heap _
    rw [e0]
    exact ⟨rfl, N0, rfl⟩
theorem ef_rm_ftR (m : MethodId) (p1 : Int32) (p2 : Int32) (p3 : Int32) (af : Addr) : entryFrame m #[(.int p1), (.int p2), (.int p3), (.ref af)] 4 = mkF m 0 #[vI p1, vI p2, vI p3, vR af] [] := by first | (simp [entryFrame, mkF, argsToLocals, Value.category]; done) | rfl
def Q_rm_ftR (Z : State) (p1 : Int32) (p2 : Int32) (p3 : Int32) (af : Addr) (h0 : Heap) (n0 : Nat) (v : Option Value) (h : Heap) (L : List Loc) : Prop := v = some (.int p1) ∧ Fr n0 L ∧ h = h0
set_option maxRecDepth 65536 in
set_option maxHeartbeats 40000000 in
theorem rm_ftR (l : Launch) (Z : State) (a0 : Array Value) (hw : ∀ d ∈ tables_1, d.before a0 Z = true) (ws : List Jvm.Cond) (p1 : Int32) (p2 : Int32) (p3 : Int32) (af : Addr) (h0 : Heap) (n0 : Nat) (Z0 : n0 ≤ h0.size) (h1 : ¬ p1 < (0 : Int32)) (h2 : ¬ p2 < p1) (h3 : ¬ p3 < p2) :
    MetFree l (⟨"jdk/internal/util/Preconditions", "checkFromToIndex", "(IIILjava/util/function/BiFunction;)I"⟩ : MethodName) (head1 (Jvm.Cond.code (⟨"jdk/internal/util/Preconditions", "checkFromToIndex", "(IIILjava/util/function/BiFunction;)I"⟩ : MethodName) jdk_41_method_12_code 4 (some .int) :: ws) ({ frames := 0, cells := 0, slots := 0, locals := 0 } : Room)) (fun a U => a = #[(.int p1), (.int p2), (.int p3), (.ref af)] ∧ Z.Warmed39 U.vm ∧ U.heap = h0) (fun _ _ _ _ _ => True) (fun _ U oC U' => ∃ v L, oC = .returned v ∧ Q_rm_ftR Z p1 p2 p3 af h0 n0 v U'.heap L ∧ FrameEnd U oC U' L ({ frames := 0, cells := 0, slots := 0, locals := 0 } : Room).cells ({ frames := 0, cells := 0, slots := 0, locals := 0 } : Room).slots) := by
  refine MetFree.of_bodySF (plainFor_of_name pn_1) hisR ?_
  intro p e s m args below meth c s₁ Bd hml0 hP hK
  obtain ⟨rfl, hZ, hh⟩ := hP
  have hx := Bd.exec
  have hby := Bd.bytes
  have hml : c.maxLocals = 4 := hml0
  have hown : s.vm.findClass "jdk/internal/util/Preconditions" = some m.cls := findClass_of_methodNamed Bd.named
  have hnm := (name_of_methodNamed Bd.named Bd.method).1
  have X0 : Stand p l e ({ frames := 0, cells := 0, slots := 0, locals := 0 } : Room) s m #[(.int p1), (.int p2), (.int p3), (.ref af)] below meth c s₁ [] 0 0 := Stand.of_body Bd
  have e0 : s₁.heap = h0 := by rw [← hh, Bd.state]; rfl
  have N0 := Fr.nil n0
  have pre0 : ∀ tg, Steps p.tables e below (s₁.setTop (mkF m 0 #[vI p1, vI p2, vI p3, vR af] [])) tg → Steps p.tables e below (s₁.setTop (entryFrame m #[(.int p1), (.int p2), (.int p3), (.ref af)] 4)) tg := fun t k => castTop (ef_rm_ftR m p1 p2 p3 af) k
  have pre00 : ∀ tg, Steps p.tables e below (s₁.setTop (mkF m 0 #[vI p1, vI p2, vI p3, vR af] [])) tg → Steps p.tables e below (s₁.setTop (mkF m 0 #[vI p1, vI p2, vI p3, vR af] [])) tg := fun _ k => k
  have R306 : ∀ tg, Steps p.tables e below (s₁.setTop (mkF m 23 #[vI p1, vI p2, vI p3, vR af] [(.int p1)])) tg → Steps p.tables e below (s₁.setTop (mkF m 0 #[vI p1, vI p2, vI p3, vR af] [])) tg := by
    intro tg kt
    refine pre00 _ ?_
    show Steps p.tables e below (s₁.setTop (mkF m 0 #[vI p1, vI p2, vI p3, vR af] [])) _
    refine XS.iloadN X0.here hx rfl (hb hby d23_0) rfl ?_
    show Steps p.tables e below (s₁.setTop (mkF m 1 #[vI p1, vI p2, vI p3, vR af] [(.int p1)])) _
    refine XS.ifNo X0.here hx rfl (hb hby d23_1) rfl ((if0 _ _).trans (flt (h1 : ¬ (p1 < (0 : Int32)))).1) ?_
    refine XS.iloadN X0.here hx rfl (hb hby d23_4) rfl ?_
    refine XS.iloadN X0.here hx rfl (hb hby d23_5) rfl ?_
    show Steps p.tables e below (s₁.setTop (mkF m 6 #[vI p1, vI p2, vI p3, vR af] [(.int p2), (.int p1)])) _
    refine XS.icmpNo X0.here hx rfl (hb hby d23_6) rfl (flt (h2 : ¬ (p2 < p1))).2.2.1 ?_
    refine XS.iloadN X0.here hx rfl (hb hby d23_9) rfl ?_
    refine XS.iloadN X0.here hx rfl (hb hby d23_10) rfl ?_
    show Steps p.tables e below (s₁.setTop (mkF m 11 #[vI p1, vI p2, vI p3, vR af] [(.int p3), (.int p2)])) _
    refine XS.icmpYes X0.here hx rfl (pc0 := 11) (pc' := 22) rfl (hb hby d23_11) rfl (flt (h3 : ¬ (p3 < p2))).2.2.2 (by decide) (by decide) ?_
    refine XS.iloadN X0.here hx rfl (hb hby d23_22) rfl ?_
    exact kt
  obtain ⟨fs, hr, hrun, hended, hW, hsame⟩ := X0.leave (v := some (.int p1)) (fun h => by rw [Bd.returns] at h; cases h)
  refine ⟨_, _, pre0 _ (R306 _ ?_), hrun, hended, _, _, rfl, ?_, ⟨_, rfl⟩, hW, hsame.mono (by decide) (by decide)⟩
  · exact retI X0 hx Bd.returns (hb hby d23_23) hr
  · show Q_rm_ftR Z p1 p2 p3 af h0 n0 _ s₁.heap _
    rw [e0]
    exact ⟨rfl, N0, rfl⟩
theorem d22_0 : decode jdk_42_method_158_code 0 = .ok (.iload_n 0, 1) := by decide +kernel
theorem d22_1 : decode jdk_42_method_158_code 1 = .ok (.iload_n 1, 1) := by decide +kernel
theorem d22_2 : decode jdk_42_method_158_code 2 = .ok (.iload_n 2, 1) := by decide +kernel
theorem d22_3 : decode jdk_42_method_158_code 3 = .ok (.getstatic 1053, 3) := by decide +kernel
theorem pd_14 : parseMethodDescriptor "(IIILjava/util/function/BiFunction;)I" = some ⟨[.int, .int, .int, (.object "java/util/function/BiFunction")], some .int⟩ := by decide +kernel
theorem d22_6 : decode jdk_42_method_158_code 6 = .ok (.invokestatic 1062, 3) := by decide +kernel
theorem d22_9 : decode jdk_42_method_158_code 9 = .ok (.pop, 1) := by decide +kernel
theorem d22_10 : decode jdk_42_method_158_code 10 = .ok (.return_, 1) := by decide +kernel
theorem ef_rm_cbe (m : MethodId) (p1 : Int32) (p2 : Int32) (p3 : Int32) : entryFrame m #[(.int p1), (.int p2), (.int p3)] 3 = mkF m 0 #[vI p1, vI p2, vI p3] [] := by first | (simp [entryFrame, mkF, argsToLocals, Value.category]; done) | rfl
def Q_rm_cbe (Z : State) (p1 : Int32) (p2 : Int32) (p3 : Int32) (vf : Value) (h0 : Heap) (n0 : Nat) (v : Option Value) (h : Heap) (L : List Loc) : Prop := v = none ∧ Fr n0 L ∧ h = h0
set_option maxRecDepth 65536 in
set_option maxHeartbeats 40000000 in
theorem rm_cbe (l : Launch) (Z : State) (a0 : Array Value) (hw : ∀ d ∈ tables_1, d.before a0 Z = true) (ws : List Jvm.Cond) (p1 : Int32) (p2 : Int32) (p3 : Int32) (vf : Value) (h0 : Heap) (n0 : Nat) (Z0 : n0 ≤ h0.size) (SF : Sta Z Z.heap "jdk/internal/util/Preconditions" "SIOOBE_FORMATTER" "Ljava/util/function/BiFunction;" vf) (OL : Old Z n0 h0) (hvf : vf.isRef = true) (h1 : ¬ p1 < (0 : Int32)) (h2 : ¬ p2 < p1) (h3 : ¬ p3 < p2) :
    MetFree l (⟨"java/lang/String", "checkBoundsBeginEnd", "(III)V"⟩ : MethodName) (head1 (Jvm.Cond.code (⟨"java/lang/String", "checkBoundsBeginEnd", "(III)V"⟩ : MethodName) jdk_42_method_158_code 3 none :: ws) ({ frames := 1, cells := 0, slots := 0, locals := 15 } : Room)) (fun a U => a = #[(.int p1), (.int p2), (.int p3)] ∧ Z.Warmed39 U.vm ∧ U.heap = h0) (fun _ _ _ _ _ => True) (fun _ U oC U' => ∃ v L, oC = .returned v ∧ Q_rm_cbe Z p1 p2 p3 vf h0 n0 v U'.heap L ∧ FrameEnd U oC U' L ({ frames := 1, cells := 0, slots := 0, locals := 15 } : Room).cells ({ frames := 1, cells := 0, slots := 0, locals := 15 } : Room).slots) := by
  refine MetFree.of_bodySF (plainFor_of_name pn_0) hisR ?_
  intro p e s m args below meth c s₁ Bd hml0 hP hK
  obtain ⟨rfl, hZ, hh⟩ := hP
  have hx := Bd.exec
  have hby := Bd.bytes
  have hml : c.maxLocals = 3 := hml0
  have hown : s.vm.findClass "java/lang/String" = some m.cls := findClass_of_methodNamed Bd.named
  have hnm := (name_of_methodNamed Bd.named Bd.method).1
  have X0 : Stand p l e ({ frames := 1, cells := 0, slots := 0, locals := 15 } : Room) s m #[(.int p1), (.int p2), (.int p3)] below meth c s₁ [] 0 0 := Stand.of_body Bd
  have e0 : s₁.heap = h0 := by rw [← hh, Bd.state]; rfl
  have N0 := Fr.nil n0
  have pre0 : ∀ tg, Steps p.tables e below (s₁.setTop (mkF m 0 #[vI p1, vI p2, vI p3] [])) tg → Steps p.tables e below (s₁.setTop (entryFrame m #[(.int p1), (.int p2), (.int p3)] 3)) tg := fun t k => castTop (ef_rm_cbe m p1 p2 p3) k
  have pre00 : ∀ tg, Steps p.tables e below (s₁.setTop (mkF m 0 #[vI p1, vI p2, vI p3] [])) tg → Steps p.tables e below (s₁.setTop (mkF m 0 #[vI p1, vI p2, vI p3] [])) tg := fun _ k => k
  rcases ref_cases hvf with rfl | ⟨af, rfl⟩
  · have R307 : ∀ tg, Steps p.tables e below (s₁.setTop (mkF m 3 #[vI p1, vI p2, vI p3] [(.int p3), (.int p2), (.int p1)])) tg → Steps p.tables e below (s₁.setTop (mkF m 0 #[vI p1, vI p2, vI p3] [])) tg := by
      intro tg kt
      refine pre00 _ ?_
      show Steps p.tables e below (s₁.setTop (mkF m 0 #[vI p1, vI p2, vI p3] [])) _
      refine XS.iloadN X0.here hx rfl (hb hby d22_0) rfl ?_
      refine XS.iloadN X0.here hx rfl (hb hby d22_1) rfl ?_
      refine XS.iloadN X0.here hx rfl (hb hby d22_2) rfl ?_
      exact kt
    obtain ⟨T308, X308, e308, st308⟩ := getS2 X0 hx hZ hown (host := "") (Or.inl (hw _ (List.mem_of_getElem? (i := 108) rfl))) Via.refl e0 (SF.ext OL.2) (g := (mkF m 3 #[vI p1, vI p2, vI p3] [(.int p3), (.int p2), (.int p1)])) rfl (hb hby d22_3)
    have R309 : ∀ tg, Steps p.tables e below (T308.setTop (mkF m 6 #[vI p1, vI p2, vI p3] [.null, (.int p3), (.int p2), (.int p1)])) tg → Steps p.tables e below (s₁.setTop (mkF m 0 #[vI p1, vI p2, vI p3] [])) tg := by
      intro tg kt
      refine R307 _ ?_
      refine st308 _ ?_
      exact kt
    clear R307 st308
    obtain ⟨_, _, ⟨T310, L310, k310, n310⟩, -, X310, ⟨Lc310, hQ310, l310, y310, z310⟩, st310⟩ := Jvm.LawKit.callS X308 hx (y := (⟨"jdk/internal/util/Preconditions", "checkFromToIndex", "(IIILjava/util/function/BiFunction;)I"⟩ : MethodName)) hown (mvT hZ (hw _ (List.mem_of_getElem? (i := 110) rfl))) (mvT hZ (hw _ (List.mem_of_getElem? (i := 111) rfl))) (mvT hZ (hw _ (List.mem_of_getElem? (i := 109) rfl))) (mvT hZ (hw _ (List.mem_of_getElem? (i := 112) rfl))) (by decide) (backOf (W := 0) (rm_ftN l Z a0 hw [] p1 p2 p3 h0 n0 Z0 h1 h2 h3) hZ (hw _ (List.mem_of_getElem? (i := 112) rfl)) (hw _ (List.mem_of_getElem? (i := 109) rfl)) (by decide) (by decide)) (g := (mkF m 6 #[vI p1, vI p2, vI p3] [.null, (.int p3), (.int p2), (.int p1)])) rfl (by rw [hml]; rfl) (argsL := [(.int p1), (.int p2), (.int p3), .null]) (rest := []) (lenOf pd_14 rfl) rfl (by show 2 * 0 + _ ≤ _; exact Nat.le_of_eq rfl) (hb hby d22_6) (fun _ _ => ⟨rfl, e308, (by decide : 0 + 0 ≤ _), (by decide : 0 + 0 ≤ _)⟩)
    dsimp only [Pt.U, Pt.locs, Pt.cells, Pt.slots] at X310 l310 y310 z310 st310 hQ310
    rw [l310, y310, z310] at X310
    obtain ⟨rfl, N310q, hh310⟩ := hQ310
    have N310 := Fr.app N0 N310q
    have R311 : ∀ tg, Steps p.tables e below (T310.setTop (mkF m 10 #[vI p1, vI p2, vI p3] [])) tg → Steps p.tables e below (s₁.setTop (mkF m 0 #[vI p1, vI p2, vI p3] [])) tg := by
      intro tg kt
      refine R309 _ ?_
      refine st310 _ ?_
      show Steps p.tables e below (T310.setTop (mkF m 9 #[vI p1, vI p2, vI p3] [(.int p1)])) _
      refine XS.pop X310.here hx rfl (hb hby d22_9) rfl rfl ?_
      exact kt
    clear R309 st310
    obtain ⟨fs, hr, hrun, hended, hW, hsame⟩ := X310.leave (v := none) (fun _ => rfl)
    refine ⟨_, _, pre0 _ (R311 _ ?_), hrun, hended, _, _, rfl, ?_, ⟨_, rfl⟩, hW, hsame.mono (by decide) (by decide)⟩
    · exact X310.returnOut hx Bd.returns (hb hby d22_10) hr
    · show Q_rm_cbe Z p1 p2 p3 .null h0 n0 _ T310.heap _
      rw [hh310]
      exact ⟨rfl, N310, rfl⟩
  · have R312 : ∀ tg, Steps p.tables e below (s₁.setTop (mkF m 3 #[vI p1, vI p2, vI p3] [(.int p3), (.int p2), (.int p1)])) tg → Steps p.tables e below (s₁.setTop (mkF m 0 #[vI p1, vI p2, vI p3] [])) tg := by
      intro tg kt
      refine pre00 _ ?_
      show Steps p.tables e below (s₁.setTop (mkF m 0 #[vI p1, vI p2, vI p3] [])) _
      refine XS.iloadN X0.here hx rfl (hb hby d22_0) rfl ?_
      refine XS.iloadN X0.here hx rfl (hb hby d22_1) rfl ?_
      refine XS.iloadN X0.here hx rfl (hb hby d22_2) rfl ?_
      exact kt
    obtain ⟨T313, X313, e313, st313⟩ := getS2 X0 hx hZ hown (host := "") (Or.inl (hw _ (List.mem_of_getElem? (i := 108) rfl))) Via.refl e0 (SF.ext OL.2) (g := (mkF m 3 #[vI p1, vI p2, vI p3] [(.int p3), (.int p2), (.int p1)])) rfl (hb hby d22_3)
    have R314 : ∀ tg, Steps p.tables e below (T313.setTop (mkF m 6 #[vI p1, vI p2, vI p3] [(.ref af), (.int p3), (.int p2), (.int p1)])) tg → Steps p.tables e below (s₁.setTop (mkF m 0 #[vI p1, vI p2, vI p3] [])) tg := by
      intro tg kt
      refine R312 _ ?_
      refine st313 _ ?_
      exact kt
    clear R312 st313
    obtain ⟨_, _, ⟨T315, L315, k315, n315⟩, -, X315, ⟨Lc315, hQ315, l315, y315, z315⟩, st315⟩ := Jvm.LawKit.callS X313 hx (y := (⟨"jdk/internal/util/Preconditions", "checkFromToIndex", "(IIILjava/util/function/BiFunction;)I"⟩ : MethodName)) hown (mvT hZ (hw _ (List.mem_of_getElem? (i := 110) rfl))) (mvT hZ (hw _ (List.mem_of_getElem? (i := 111) rfl))) (mvT hZ (hw _ (List.mem_of_getElem? (i := 109) rfl))) (mvT hZ (hw _ (List.mem_of_getElem? (i := 112) rfl))) (by decide) (backOf (W := 0) (rm_ftR l Z a0 hw [] p1 p2 p3 af h0 n0 Z0 h1 h2 h3) hZ (hw _ (List.mem_of_getElem? (i := 112) rfl)) (hw _ (List.mem_of_getElem? (i := 109) rfl)) (by decide) (by decide)) (g := (mkF m 6 #[vI p1, vI p2, vI p3] [(.ref af), (.int p3), (.int p2), (.int p1)])) rfl (by rw [hml]; rfl) (argsL := [(.int p1), (.int p2), (.int p3), (.ref af)]) (rest := []) (lenOf pd_14 rfl) rfl (by show 2 * 0 + _ ≤ _; exact Nat.le_of_eq rfl) (hb hby d22_6) (fun _ _ => ⟨rfl, e313, (by decide : 0 + 0 ≤ _), (by decide : 0 + 0 ≤ _)⟩)
    dsimp only [Pt.U, Pt.locs, Pt.cells, Pt.slots] at X315 l315 y315 z315 st315 hQ315
    rw [l315, y315, z315] at X315
    obtain ⟨rfl, N315q, hh315⟩ := hQ315
    have N315 := Fr.app N0 N315q
    have R316 : ∀ tg, Steps p.tables e below (T315.setTop (mkF m 10 #[vI p1, vI p2, vI p3] [])) tg → Steps p.tables e below (s₁.setTop (mkF m 0 #[vI p1, vI p2, vI p3] [])) tg := by
      intro tg kt
      refine R314 _ ?_
      refine st315 _ ?_
      show Steps p.tables e below (T315.setTop (mkF m 9 #[vI p1, vI p2, vI p3] [(.int p1)])) _
      refine XS.pop X315.here hx rfl (hb hby d22_9) rfl rfl ?_
      exact kt
    clear R314 st315
    obtain ⟨fs, hr, hrun, hended, hW, hsame⟩ := X315.leave (v := none) (fun _ => rfl)
    refine ⟨_, _, pre0 _ (R316 _ ?_), hrun, hended, _, _, rfl, ?_, ⟨_, rfl⟩, hW, hsame.mono (by decide) (by decide)⟩
    · exact X315.returnOut hx Bd.returns (hb hby d22_10) hr
    · show Q_rm_cbe Z p1 p2 p3 (.ref af) h0 n0 _ T315.heap _
      rw [hh315]
      exact ⟨rfl, N315, rfl⟩
theorem pn_7 : plainName "java/util/Arrays" = true := by first | (simp [plainName, overriddenIn]; done) | decide +kernel
theorem d27_0 : decode jdk_65_method_131_code 0 = .ok (.iload_n 1, 1) := by decide +kernel
theorem d27_1 : decode jdk_65_method_131_code 1 = .ok (.iload_n 0, 1) := by decide +kernel
theorem d27_2 : decode jdk_65_method_131_code 2 = .ok (.if_icmp .ge 35, 3) := by decide +kernel
theorem d27_37 : decode jdk_65_method_131_code 37 = .ok (.return_, 1) := by decide +kernel
theorem ef_rm_ckl (m : MethodId) (p1 : Int32) (p2 : Int32) : entryFrame m #[(.int p1), (.int p2)] 2 = mkF m 0 #[vI p1, vI p2] [] := by first | (simp [entryFrame, mkF, argsToLocals, Value.category]; done) | rfl
def Q_rm_ckl (Z : State) (p1 : Int32) (p2 : Int32) (h0 : Heap) (n0 : Nat) (v : Option Value) (h : Heap) (L : List Loc) : Prop := v = none ∧ Fr n0 L ∧ h = h0
set_option maxRecDepth 65536 in
set_option maxHeartbeats 40000000 in
theorem rm_ckl (l : Launch) (Z : State) (a0 : Array Value) (hw : ∀ d ∈ tables_1, d.before a0 Z = true) (ws : List Jvm.Cond) (p1 : Int32) (p2 : Int32) (h0 : Heap) (n0 : Nat) (Z0 : n0 ≤ h0.size) (h1 : ¬ p2 < p1) :
    MetFree l (⟨"java/util/Arrays", "checkLength", "(II)V"⟩ : MethodName) (head1 (Jvm.Cond.code (⟨"java/util/Arrays", "checkLength", "(II)V"⟩ : MethodName) jdk_65_method_131_code 2 none :: ws) ({ frames := 0, cells := 0, slots := 0, locals := 0 } : Room)) (fun a U => a = #[(.int p1), (.int p2)] ∧ Z.Warmed39 U.vm ∧ U.heap = h0) (fun _ _ _ _ _ => True) (fun _ U oC U' => ∃ v L, oC = .returned v ∧ Q_rm_ckl Z p1 p2 h0 n0 v U'.heap L ∧ FrameEnd U oC U' L ({ frames := 0, cells := 0, slots := 0, locals := 0 } : Room).cells ({ frames := 0, cells := 0, slots := 0, locals := 0 } : Room).slots) := by
  refine MetFree.of_bodySF (plainFor_of_name pn_7) hisR ?_
  intro p e s m args below meth c s₁ Bd hml0 hP hK
  obtain ⟨rfl, hZ, hh⟩ := hP
  have hx := Bd.exec
  have hby := Bd.bytes
  have hml : c.maxLocals = 2 := hml0
  have hown : s.vm.findClass "java/util/Arrays" = some m.cls := findClass_of_methodNamed Bd.named
  have hnm := (name_of_methodNamed Bd.named Bd.method).1
  have X0 : Stand p l e ({ frames := 0, cells := 0, slots := 0, locals := 0 } : Room) s m #[(.int p1), (.int p2)] below meth c s₁ [] 0 0 := Stand.of_body Bd
  have e0 : s₁.heap = h0 := by rw [← hh, Bd.state]; rfl
  have N0 := Fr.nil n0
  have pre0 : ∀ tg, Steps p.tables e below (s₁.setTop (mkF m 0 #[vI p1, vI p2] [])) tg → Steps p.tables e below (s₁.setTop (entryFrame m #[(.int p1), (.int p2)] 2)) tg := fun t k => castTop (ef_rm_ckl m p1 p2) k
  have pre00 : ∀ tg, Steps p.tables e below (s₁.setTop (mkF m 0 #[vI p1, vI p2] [])) tg → Steps p.tables e below (s₁.setTop (mkF m 0 #[vI p1, vI p2] [])) tg := fun _ k => k
  have R317 : ∀ tg, Steps p.tables e below (s₁.setTop (mkF m 37 #[vI p1, vI p2] [])) tg → Steps p.tables e below (s₁.setTop (mkF m 0 #[vI p1, vI p2] [])) tg := by
    intro tg kt
    refine pre00 _ ?_
    show Steps p.tables e below (s₁.setTop (mkF m 0 #[vI p1, vI p2] [])) _
    refine XS.iloadN X0.here hx rfl (hb hby d27_0) rfl ?_
    refine XS.iloadN X0.here hx rfl (hb hby d27_1) rfl ?_
    show Steps p.tables e below (s₁.setTop (mkF m 2 #[vI p1, vI p2] [(.int p1), (.int p2)])) _
    refine XS.icmpYes X0.here hx rfl (pc0 := 2) (pc' := 37) rfl (hb hby d27_2) rfl (flt (h1 : ¬ (p2 < p1))).2.1 (by decide) (by decide) ?_
    exact kt
  obtain ⟨fs, hr, hrun, hended, hW, hsame⟩ := X0.leave (v := none) (fun _ => rfl)
  refine ⟨_, _, pre0 _ (R317 _ ?_), hrun, hended, _, _, rfl, ?_, ⟨_, rfl⟩, hW, hsame.mono (by decide) (by decide)⟩
  · exact X0.returnOut hx Bd.returns (hb hby d27_37) hr
  · show Q_rm_ckl Z p1 p2 h0 n0 _ s₁.heap _
    rw [e0]
    exact ⟨rfl, N0, rfl⟩
theorem d26_0 : decode jdk_65_method_133_code 0 = .ok (.iload_n 1, 1) := by decide +kernel
theorem d26_1 : decode jdk_65_method_133_code 1 = .ok (.iload_n 2, 1) := by decide +kernel
theorem d26_2 : decode jdk_65_method_133_code 2 = .ok (.invokestatic 343, 3) := by decide +kernel
theorem d26_5 : decode jdk_65_method_133_code 5 = .ok (.iload_n 2, 1) := by decide +kernel
theorem d26_6 : decode jdk_65_method_133_code 6 = .ok (.iload_n 1, 1) := by decide +kernel
theorem d26_7 : decode jdk_65_method_133_code 7 = .ok (.isub, 1) := by decide +kernel
theorem d26_8 : decode jdk_65_method_133_code 8 = .ok (.istore_n 3, 1) := by decide +kernel
theorem d26_9 : decode jdk_65_method_133_code 9 = .ok (.iload_n 3, 1) := by decide +kernel
theorem d26_10 : decode jdk_65_method_133_code 10 = .ok (.newarray .byte, 2) := by decide +kernel
theorem d26_12 : decode jdk_65_method_133_code 12 = .ok (.astore 4, 2) := by decide +kernel
theorem d26_14 : decode jdk_65_method_133_code 14 = .ok (.aload_n 0, 1) := by decide +kernel
theorem d26_15 : decode jdk_65_method_133_code 15 = .ok (.iload_n 1, 1) := by decide +kernel
theorem d26_16 : decode jdk_65_method_133_code 16 = .ok (.aload 4, 2) := by decide +kernel
theorem d26_18 : decode jdk_65_method_133_code 18 = .ok (.iconst 0, 1) := by decide +kernel
theorem d26_19 : decode jdk_65_method_133_code 19 = .ok (.aload_n 0, 1) := by decide +kernel
theorem d26_20 : decode jdk_65_method_133_code 20 = .ok (.arraylength, 1) := by decide +kernel
theorem d26_21 : decode jdk_65_method_133_code 21 = .ok (.iload_n 1, 1) := by decide +kernel
theorem d26_22 : decode jdk_65_method_133_code 22 = .ok (.isub, 1) := by decide +kernel
theorem d26_23 : decode jdk_65_method_133_code 23 = .ok (.iload_n 3, 1) := by decide +kernel
theorem d26_24 : decode jdk_65_method_133_code 24 = .ok (.invokestatic 304, 3) := by decide +kernel
theorem d26_27 : decode jdk_65_method_133_code 27 = .ok (.invokestatic 150, 3) := by decide +kernel
theorem d26_30 : decode jdk_65_method_133_code 30 = .ok (.aload 4, 2) := by decide +kernel
theorem d26_32 : decode jdk_65_method_133_code 32 = .ok (.areturn, 1) := by decide +kernel
theorem ef_rm_crb (m : MethodId) (a1 : Addr) (p2 : Int32) (p3 : Int32) : entryFrame m #[(.ref a1), (.int p2), (.int p3)] 5 = mkF m 0 #[vR a1, vI p2, vI p3, .unset, .unset] [] := by first | (simp [entryFrame, mkF, argsToLocals, Value.category]; done) | rfl
def Q_rm_crb (Z : State) (a1 : Addr) (p2 : Int32) (p3 : Int32) (k : Nat) (n : Nat) (g : Nat → Int32) (h0 : Heap) (n0 : Nat) (v : Option Value) (h : Heap) (L : List Loc) : Prop := ∃ t : Addr, v = some (.ref t) ∧ Fr n0 L ∧ h0.size ≤ t ∧ Keep h0 h [] ∧ AV Z h t .byte k (fun j => .int (g j))
set_option maxRecDepth 65536 in
set_option maxHeartbeats 40000000 in
theorem rm_crb (l : Launch) (Z : State) (a0 : Array Value) (hw : ∀ d ∈ tables_1, d.before a0 Z = true) (ws : List Jvm.Cond) (a1 : Addr) (p2 : Int32) (p3 : Int32) (k : Nat) (n : Nat) (g : Nat → Int32) (h0 : Heap) (n0 : Nat) (Z0 : n0 ≤ h0.size) (hn4 : n ≤ 4) (hk0 : 0 < k) (hkn : k < n) (VA : AV Z h0 a1 .byte n (fun j => .int (g j))) (hp2 : p2 = (0 : Int32)) (hp3 : p3 = (k : Nat).toInt32) :
    MetFree l (⟨"java/util/Arrays", "copyOfRangeByte", "([BII)[B"⟩ : MethodName) (head1 (Jvm.Cond.code (⟨"java/util/Arrays", "copyOfRangeByte", "([BII)[B"⟩ : MethodName) jdk_65_method_133_code 5 (some (.array .byte)) :: ws) ({ frames := 1, cells := 1, slots := 4, locals := 40 } : Room)) (fun a U => a = #[(.ref a1), (.int p2), (.int p3)] ∧ Z.Warmed39 U.vm ∧ U.heap = h0) (fun _ _ _ _ _ => True) (fun _ U oC U' => ∃ v L, oC = .returned v ∧ Q_rm_crb Z a1 p2 p3 k n g h0 n0 v U'.heap L ∧ FrameEnd U oC U' L ({ frames := 1, cells := 1, slots := 4, locals := 40 } : Room).cells ({ frames := 1, cells := 1, slots := 4, locals := 40 } : Room).slots) := by
  refine MetFree.of_bodySF (plainFor_of_name pn_7) hisR ?_
  intro p e s m args below meth c s₁ Bd hml0 hP hK
  obtain ⟨rfl, hZ, hh⟩ := hP
  have hx := Bd.exec
  have hby := Bd.bytes
  have hml : c.maxLocals = 5 := hml0
  have hown : s.vm.findClass "java/util/Arrays" = some m.cls := findClass_of_methodNamed Bd.named
  have hnm := (name_of_methodNamed Bd.named Bd.method).1
  have X0 : Stand p l e ({ frames := 1, cells := 1, slots := 4, locals := 40 } : Room) s m #[(.ref a1), (.int p2), (.int p3)] below meth c s₁ [] 0 0 := Stand.of_body Bd
  have e0 : s₁.heap = h0 := by rw [← hh, Bd.state]; rfl
  have N0 := Fr.nil n0
  have pre0 : ∀ tg, Steps p.tables e below (s₁.setTop (mkF m 0 #[vR a1, vI p2, vI p3, .unset, .unset] [])) tg → Steps p.tables e below (s₁.setTop (entryFrame m #[(.ref a1), (.int p2), (.int p3)] 5)) tg := fun t k => castTop (ef_rm_crb m a1 p2 p3) k
  have pre00 : ∀ tg, Steps p.tables e below (s₁.setTop (mkF m 0 #[vR a1, vI p2, vI p3, .unset, .unset] [])) tg → Steps p.tables e below (s₁.setTop (mkF m 0 #[vR a1, vI p2, vI p3, .unset, .unset] [])) tg := fun _ k => k
  obtain ⟨k1, k2, k3, k4, k5, k6, k7, k8, k9⟩ := own_kf hn4 hk0 hkn
  have R318 : ∀ tg, Steps p.tables e below (s₁.setTop (mkF m 0 #[vR a1, vI (0 : Int32), vI (k : Nat).toInt32, .unset, .unset] [])) tg → Steps p.tables e below (s₁.setTop (mkF m 0 #[vR a1, vI p2, vI p3, .unset, .unset] [])) tg := by intro tg kt; refine pre00 tg ?_; rw [hp2, hp3]; exact kt
  have R319 : ∀ tg, Steps p.tables e below (s₁.setTop (mkF m 2 #[vR a1, vI (0 : Int32), vI (k : Nat).toInt32, .unset, .unset] [(.int (k : Nat).toInt32), (.int (0 : Int32))])) tg → Steps p.tables e below (s₁.setTop (mkF m 0 #[vR a1, vI p2, vI p3, .unset, .unset] [])) tg := by
    intro tg kt
    refine R318 _ ?_
    show Steps p.tables e below (s₁.setTop (mkF m 0 #[vR a1, vI (0 : Int32), vI (k : Nat).toInt32, .unset, .unset] [])) _
    refine XS.iloadN X0.here hx rfl (hb hby d26_0) rfl ?_
    refine XS.iloadN X0.here hx rfl (hb hby d26_1) rfl ?_
    exact kt
  clear R318
  obtain ⟨_, _, ⟨T320, L320, k320, n320⟩, -, X320, ⟨Lc320, hQ320, l320, y320, z320⟩, st320⟩ := Jvm.LawKit.callS X0 hx (y := (⟨"java/util/Arrays", "checkLength", "(II)V"⟩ : MethodName)) hown (mvT hZ (hw _ (List.mem_of_getElem? (i := 128) rfl))) (mvT hZ (hw _ (List.mem_of_getElem? (i := 129) rfl))) (mvT hZ (hw _ (List.mem_of_getElem? (i := 123) rfl))) (mvT hZ (hw _ (List.mem_of_getElem? (i := 130) rfl))) (by decide) (backOf (W := 0) (rm_ckl l Z a0 hw [] (0 : Int32) (k : Nat).toInt32 h0 n0 Z0 k7) hZ (hw _ (List.mem_of_getElem? (i := 130) rfl)) (hw _ (List.mem_of_getElem? (i := 123) rfl)) (by decide) (by decide)) (g := (mkF m 2 #[vR a1, vI (0 : Int32), vI (k : Nat).toInt32, .unset, .unset] [(.int (k : Nat).toInt32), (.int (0 : Int32))])) rfl (by rw [hml]; rfl) (argsL := [(.int (0 : Int32)), (.int (k : Nat).toInt32)]) (rest := []) (lenOf pd_1 rfl) rfl (by show 2 * 0 + _ ≤ _; exact Nat.le_of_eq rfl) (hb hby d26_2) (fun _ _ => ⟨rfl, e0, (by decide : 0 + 0 ≤ _), (by decide : 0 + 0 ≤ _)⟩)
  dsimp only [Pt.U, Pt.locs, Pt.cells, Pt.slots] at X320 l320 y320 z320 st320 hQ320
  rw [l320, y320, z320] at X320
  obtain ⟨rfl, N320q, hh320⟩ := hQ320
  have N320 := Fr.app N0 N320q
  have R321 : ∀ tg, Steps p.tables e below (T320.setTop (mkF m 8 #[vR a1, vI (0 : Int32), vI (k : Nat).toInt32, .unset, .unset] [(.int ((k : Nat).toInt32 - (0 : Int32)))])) tg → Steps p.tables e below (s₁.setTop (mkF m 0 #[vR a1, vI p2, vI p3, .unset, .unset] [])) tg := by
    intro tg kt
    refine R319 _ ?_
    refine st320 _ ?_
    refine XS.iloadN X320.here hx rfl (hb hby d26_5) rfl ?_
    show Steps p.tables e below (T320.setTop (mkF m 6 #[vR a1, vI (0 : Int32), vI (k : Nat).toInt32, .unset, .unset] [(.int (k : Nat).toInt32)])) _
    refine XS.iloadN X320.here hx rfl (hb hby d26_6) rfl ?_
    show Steps p.tables e below (T320.setTop (mkF m 7 #[vR a1, vI (0 : Int32), vI (k : Nat).toInt32, .unset, .unset] [(.int (0 : Int32)), (.int (k : Nat).toInt32)])) _
    refine XS.isub X320.here hx rfl (hb hby d26_7) rfl ?_
    exact kt
  clear R319 st320
  have R322 : ∀ tg, Steps p.tables e below (T320.setTop (mkF m 8 #[vR a1, vI (0 : Int32), vI (k : Nat).toInt32, .unset, .unset] [(.int (k : Nat).toInt32)])) tg → Steps p.tables e below (s₁.setTop (mkF m 0 #[vR a1, vI p2, vI p3, .unset, .unset] [])) tg := by intro tg kt; refine R321 tg ?_; rw [own_sub0]; exact kt
  have R323 : ∀ tg, Steps p.tables e below (T320.setTop (mkF m 10 #[vR a1, vI (0 : Int32), vI (k : Nat).toInt32, vI (k : Nat).toInt32, .unset] [(.int (k : Nat).toInt32)])) tg → Steps p.tables e below (s₁.setTop (mkF m 0 #[vR a1, vI p2, vI p3, .unset, .unset] [])) tg := by
    intro tg kt
    refine R322 _ ?_
    show Steps p.tables e below (T320.setTop (mkF m 8 #[vR a1, vI (0 : Int32), vI (k : Nat).toInt32, .unset, .unset] [(.int (k : Nat).toInt32)])) _
    refine XS.istoreN X320.here hx rfl (hb hby d26_8) rfl (l' := #[vR a1, vI (0 : Int32), vI (k : Nat).toInt32, vI (k : Nat).toInt32, .unset]) rfl ?_
    refine XS.iloadN X320.here hx rfl (hb hby d26_9) rfl ?_
    exact kt
  clear R322
  obtain ⟨T324, h324, k324, X324, e324, E324, A324, st324⟩ := newP X320 hx hZ (hw _ (List.mem_of_getElem? (i := 24) rfl)) hh320 (g := (mkF m 10 #[vR a1, vI (0 : Int32), vI (k : Nat).toInt32, vI (k : Nat).toInt32, .unset] [(.int (k : Nat).toInt32)])) rfl (hb hby d26_10) rfl k1 (cap := 4) (by rw [k2]; exact Nat.le_trans (Nat.le_of_lt hkn) hn4) (by decide) (by decide) (by decide)
  obtain ⟨t, g324⟩ : ∃ z, z = h0.size := ⟨_, rfl⟩
  rw [← g324] at A324 st324
  have g_t : n0 ≤ t := Nat.le_trans Z0 (Nat.le_of_eq g324.symm)
  have sz_t : h0.size ≤ t := Nat.le_trans (Keep.refl h0 []).1 (Nat.le_of_eq g324.symm)
  have ne_a1_t : a1 ≠ t := Nat.ne_of_lt (Nat.lt_of_lt_of_le VA.lt (Nat.le_of_eq g324.symm))
  have VA_324 := VA.ext E324
  have Zs324 : n0 ≤ h324.size := Nat.le_trans Z0 E324.1
  have Ke324 : Keep h0 h324 [] := Keep.ext (Keep.refl h0 []) E324
  have VB : AV Z h324 t .byte k (fun _ => defaultValue .byte) := AV.new A324 k2 rfl
  have R325 : ∀ tg, Steps p.tables e below (T324.setTop (mkF m 20 #[vR a1, vI (0 : Int32), vI (k : Nat).toInt32, vI (k : Nat).toInt32, vR t] [(.ref a1), (.int (0 : Int32)), (.ref t), (.int (0 : Int32)), (.ref a1)])) tg → Steps p.tables e below (s₁.setTop (mkF m 0 #[vR a1, vI p2, vI p3, .unset, .unset] [])) tg := by
    intro tg kt
    refine R323 _ ?_
    refine st324 _ ?_
    show Steps p.tables e below (T324.setTop (mkF m 12 #[vR a1, vI (0 : Int32), vI (k : Nat).toInt32, vI (k : Nat).toInt32, .unset] [(.ref t)])) _
    refine XS.astore X324.here hx rfl (hb hby d26_12) rfl rfl (l' := #[vR a1, vI (0 : Int32), vI (k : Nat).toInt32, vI (k : Nat).toInt32, vR t]) rfl ?_
    refine XS.aloadN X324.here hx rfl (hb hby d26_14) rfl rfl ?_
    refine XS.iloadN X324.here hx rfl (hb hby d26_15) rfl ?_
    show Steps p.tables e below (T324.setTop (mkF m 16 #[vR a1, vI (0 : Int32), vI (k : Nat).toInt32, vI (k : Nat).toInt32, vR t] [(.int (0 : Int32)), (.ref a1)])) _
    refine XS.aload X324.here hx rfl (hb hby d26_16) rfl rfl ?_
    refine XS.iconst X324.here hx rfl (hb hby d26_18) ?_
    refine XS.aloadN X324.here hx rfl (hb hby d26_19) rfl rfl ?_
    exact kt
  clear R323 st324
  obtain ⟨cl326, Ar326, ln326⟩ := VA_324.len
  have R327 : ∀ tg, Steps p.tables e below (T324.setTop (mkF m 23 #[vR a1, vI (0 : Int32), vI (k : Nat).toInt32, vI (k : Nat).toInt32, vR t] [(.int ((n : Nat).toInt32 - (0 : Int32))), (.int (0 : Int32)), (.ref t), (.int (0 : Int32)), (.ref a1)])) tg → Steps p.tables e below (s₁.setTop (mkF m 0 #[vR a1, vI p2, vI p3, .unset, .unset] [])) tg := by
    intro tg kt
    refine R325 _ ?_
    show Steps p.tables e below (T324.setTop (mkF m 20 #[vR a1, vI (0 : Int32), vI (k : Nat).toInt32, vI (k : Nat).toInt32, vR t] [(.ref a1), (.int (0 : Int32)), (.ref t), (.int (0 : Int32)), (.ref a1)])) _
    refine X324.arraylength hx (by rw [e324]; exact Ar326.1) (State.isArrayOf_alike hZ.alike Ar326.2.1) (g := (mkF m 20 #[vR a1, vI (0 : Int32), vI (k : Nat).toInt32, vI (k : Nat).toInt32, vR t] [(.ref a1), (.int (0 : Int32)), (.ref t), (.int (0 : Int32)), (.ref a1)])) rfl rfl (hb hby d26_20) _ ?_
    rw [ln326]
    show Steps p.tables e below (T324.setTop (mkF m 21 #[vR a1, vI (0 : Int32), vI (k : Nat).toInt32, vI (k : Nat).toInt32, vR t] [(.int (n : Nat).toInt32), (.int (0 : Int32)), (.ref t), (.int (0 : Int32)), (.ref a1)])) _
    refine XS.iloadN X324.here hx rfl (hb hby d26_21) rfl ?_
    show Steps p.tables e below (T324.setTop (mkF m 22 #[vR a1, vI (0 : Int32), vI (k : Nat).toInt32, vI (k : Nat).toInt32, vR t] [(.int (0 : Int32)), (.int (n : Nat).toInt32), (.int (0 : Int32)), (.ref t), (.int (0 : Int32)), (.ref a1)])) _
    refine XS.isub X324.here hx rfl (hb hby d26_22) rfl ?_
    exact kt
  clear R325
  have R328 : ∀ tg, Steps p.tables e below (T324.setTop (mkF m 23 #[vR a1, vI (0 : Int32), vI (k : Nat).toInt32, vI (k : Nat).toInt32, vR t] [(.int (n : Nat).toInt32), (.int (0 : Int32)), (.ref t), (.int (0 : Int32)), (.ref a1)])) tg → Steps p.tables e below (s₁.setTop (mkF m 0 #[vR a1, vI p2, vI p3, .unset, .unset] [])) tg := by intro tg kt; refine R327 tg ?_; rw [own_sub0]; exact kt
  have R329 : ∀ tg, Steps p.tables e below (T324.setTop (mkF m 24 #[vR a1, vI (0 : Int32), vI (k : Nat).toInt32, vI (k : Nat).toInt32, vR t] [(.int (k : Nat).toInt32), (.int (n : Nat).toInt32), (.int (0 : Int32)), (.ref t), (.int (0 : Int32)), (.ref a1)])) tg → Steps p.tables e below (s₁.setTop (mkF m 0 #[vR a1, vI p2, vI p3, .unset, .unset] [])) tg := by
    intro tg kt
    refine R328 _ ?_
    show Steps p.tables e below (T324.setTop (mkF m 23 #[vR a1, vI (0 : Int32), vI (k : Nat).toInt32, vI (k : Nat).toInt32, vR t] [(.int (n : Nat).toInt32), (.int (0 : Int32)), (.ref t), (.int (0 : Int32)), (.ref a1)])) _
    refine XS.iloadN X324.here hx rfl (hb hby d26_23) rfl ?_
    exact kt
  clear R328
  obtain ⟨_, _, ⟨T330, L330, k330, n330⟩, -, X330, ⟨Lc330, hQ330, l330, y330, z330⟩, st330⟩ := Jvm.LawKit.callS X324 hx (y := (⟨"java/lang/Math", "min", "(II)I"⟩ : MethodName)) hown (mvT hZ (hw _ (List.mem_of_getElem? (i := 131) rfl))) (mvT hZ (hw _ (List.mem_of_getElem? (i := 95) rfl))) (mvT hZ (hw _ (List.mem_of_getElem? (i := 92) rfl))) (mvT hZ (hw _ (List.mem_of_getElem? (i := 96) rfl))) (by decide) (backOf (W := 4) (rm_min l Z a0 hw [] (n : Nat).toInt32 (k : Nat).toInt32 h324 n0 Zs324) hZ (hw _ (List.mem_of_getElem? (i := 96) rfl)) (hw _ (List.mem_of_getElem? (i := 92) rfl)) (by decide) (by decide)) (g := (mkF m 24 #[vR a1, vI (0 : Int32), vI (k : Nat).toInt32, vI (k : Nat).toInt32, vR t] [(.int (k : Nat).toInt32), (.int (n : Nat).toInt32), (.int (0 : Int32)), (.ref t), (.int (0 : Int32)), (.ref a1)])) rfl (by rw [hml]; rfl) (argsL := [(.int (n : Nat).toInt32), (.int (k : Nat).toInt32)]) (rest := [(.int (0 : Int32)), (.ref t), (.int (0 : Int32)), (.ref a1)]) (lenOf pd_11 rfl) rfl (by show 2 * 0 + _ ≤ _; exact Nat.le_of_eq rfl) (hb hby d26_24) (fun _ _ => ⟨rfl, e324, (by decide : 1 + 0 ≤ _), (by decide : 4 + 0 ≤ _)⟩)
  dsimp only [Pt.U, Pt.locs, Pt.cells, Pt.slots] at X330 l330 y330 z330 st330 hQ330
  rw [l330, y330, z330] at X330
  obtain ⟨rfl, N330q, hh330⟩ := hQ330
  have N330 := Fr.app N320 N330q
  have R331 : ∀ tg, Steps p.tables e below (T330.setTop (mkF m 27 #[vR a1, vI (0 : Int32), vI (k : Nat).toInt32, vI (k : Nat).toInt32, vR t] [(.int (own_min (n : Nat).toInt32 (k : Nat).toInt32)), (.int (0 : Int32)), (.ref t), (.int (0 : Int32)), (.ref a1)])) tg → Steps p.tables e below (s₁.setTop (mkF m 0 #[vR a1, vI p2, vI p3, .unset, .unset] [])) tg := by
    intro tg kt
    refine R329 _ ?_
    refine st330 _ ?_
    exact kt
  clear R329 st330
  have R332 : ∀ tg, Steps p.tables e below (T330.setTop (mkF m 27 #[vR a1, vI (0 : Int32), vI (k : Nat).toInt32, vI (k : Nat).toInt32, vR t] [(.int (k : Nat).toInt32), (.int (0 : Int32)), (.ref t), (.int (0 : Int32)), (.ref a1)])) tg → Steps p.tables e below (s₁.setTop (mkF m 0 #[vR a1, vI p2, vI p3, .unset, .unset] [])) tg := by intro tg kt; refine R331 tg ?_; rw [k6]; exact kt
  obtain ⟨ks333, As333⟩ := own_arv (z := (n : Nat).toInt32) VA_324 k8 k9
  obtain ⟨kd333, Ad333⟩ := own_arv (g := fun _ => (0 : Int32)) (z := (k : Nat).toInt32) VB k2 k1
  obtain ⟨T333, h333, L333, X333, e333, N333, K333, B333, st333⟩ := cpA X330 hx hZ hown (hw _ (List.mem_of_getElem? (i := 132) rfl)) (hw _ (List.mem_of_getElem? (i := 135) rfl)) (hw _ (List.mem_of_getElem? (i := 133) rfl)) (hw _ (List.mem_of_getElem? (i := 134) rfl)) hh330 As333 Ad333 (Or.inl ⟨rfl, rfl⟩) (sp := (0 : Int32)) (dp := (0 : Int32)) (nn := (k : Nat).toInt32) (by decide) (by decide) k1 (own_le8 k2 k8 hkn) (own_le9 k2) rfl (own_le10 k2) N330 g_t (g := (mkF m 27 #[vR a1, vI (0 : Int32), vI (k : Nat).toInt32, vI (k : Nat).toInt32, vR t] [(.int (k : Nat).toInt32), (.int (0 : Int32)), (.ref t), (.int (0 : Int32)), (.ref a1)])) rfl (by rw [hml]; rfl) (rest := []) rfl (hb hby d26_27) (by decide) (W := 0) (by show 2 * 0 + _ ≤ _; exact Nat.le_of_eq rfl) (by decide)
  have VA_334 := VA_324.keep K333 (own_notin1 ne_a1_t)
  clear VA_324
  have Zs334 : n0 ≤ h333.size := Nat.le_trans Zs324 K333.1
  have Kk334 : Keep h0 h333 [] := Keep.trans Ke324 K333 (own_trans1 (Or.inr sz_t))
  have VB_333 : AV Z h333 t .byte k (fun j => .int (g j)) := own_cp k2 rfl rfl (Nat.le_of_lt hkn) B333
  have R335 : ∀ tg, Steps p.tables e below (T333.setTop (mkF m 32 #[vR a1, vI (0 : Int32), vI (k : Nat).toInt32, vI (k : Nat).toInt32, vR t] [(.ref t)])) tg → Steps p.tables e below (s₁.setTop (mkF m 0 #[vR a1, vI p2, vI p3, .unset, .unset] [])) tg := by
    intro tg kt
    refine R332 _ ?_
    refine st333 _ ?_
    refine XS.aload X333.here hx rfl (hb hby d26_30) rfl rfl ?_
    exact kt
  clear R332 st333
  obtain ⟨fs, hr, hrun, hended, hW, hsame⟩ := X333.leave (v := some (.ref t)) (fun h => by rw [Bd.returns] at h; cases h)
  refine ⟨_, _, pre0 _ (R335 _ ?_), hrun, hended, _, _, rfl, ?_, ⟨_, rfl⟩, hW, hsame.mono (by decide) (by decide)⟩
  · show Steps p.tables e below (T333.setTop (mkF m 32 #[vR a1, vI (0 : Int32), vI (k : Nat).toInt32, vI (k : Nat).toInt32, vR t] [(.ref t)])) _
    jvm_step X333.here [X333.here.top, hx, (hb hby d26_32), X333.method', Bd.returns, Value.isRef, FieldType.isReference]
    first | (intro acts; rw [hr _ acts rfl rfl rfl]) | rw [hr _ _ rfl rfl rfl]
    exact Steps.refl _
  · show Q_rm_crb Z a1 p2 p3 k n g h0 n0 _ T333.heap _
    rw [e333]
    exact ⟨t, rfl, N333, sz_t, Kk334, VB_333⟩
theorem d25_0 : decode jdk_65_method_132_code 0 = .ok (.iload_n 1, 1) := by decide +kernel
theorem d25_1 : decode jdk_65_method_132_code 1 = .ok (.ifCond .ne 9, 3) := by decide +kernel
theorem d25_4 : decode jdk_65_method_132_code 4 = .ok (.iload_n 2, 1) := by decide +kernel
theorem d25_5 : decode jdk_65_method_132_code 5 = .ok (.aload_n 0, 1) := by decide +kernel
theorem d25_6 : decode jdk_65_method_132_code 6 = .ok (.arraylength, 1) := by decide +kernel
theorem d25_7 : decode jdk_65_method_132_code 7 = .ok (.if_icmp .eq 10, 3) := by decide +kernel
theorem d25_10 : decode jdk_65_method_132_code 10 = .ok (.aload_n 0, 1) := by decide +kernel
theorem d25_11 : decode jdk_65_method_132_code 11 = .ok (.iload_n 1, 1) := by decide +kernel
theorem d25_12 : decode jdk_65_method_132_code 12 = .ok (.iload_n 2, 1) := by decide +kernel
theorem pd_15 : parseMethodDescriptor "([BII)[B" = some ⟨[(.array .byte), .int, .int], some (.array .byte)⟩ := by decide +kernel
theorem d25_13 : decode jdk_65_method_132_code 13 = .ok (.invokestatic 339, 3) := by decide +kernel
theorem d25_16 : decode jdk_65_method_132_code 16 = .ok (.areturn, 1) := by decide +kernel
theorem ef_rm_cor (m : MethodId) (a1 : Addr) (p2 : Int32) (p3 : Int32) : entryFrame m #[(.ref a1), (.int p2), (.int p3)] 3 = mkF m 0 #[vR a1, vI p2, vI p3] [] := by first | (simp [entryFrame, mkF, argsToLocals, Value.category]; done) | rfl
def Q_rm_cor (Z : State) (a1 : Addr) (p2 : Int32) (p3 : Int32) (k : Nat) (n : Nat) (g : Nat → Int32) (h0 : Heap) (n0 : Nat) (v : Option Value) (h : Heap) (L : List Loc) : Prop := ∃ t : Addr, v = some (.ref t) ∧ Fr n0 L ∧ h0.size ≤ t ∧ Keep h0 h [] ∧ AV Z h t .byte k (fun j => .int (g j))
set_option maxRecDepth 65536 in
set_option maxHeartbeats 40000000 in
theorem rm_cor (l : Launch) (Z : State) (a0 : Array Value) (hw : ∀ d ∈ tables_1, d.before a0 Z = true) (ws : List Jvm.Cond) (a1 : Addr) (p2 : Int32) (p3 : Int32) (k : Nat) (n : Nat) (g : Nat → Int32) (h0 : Heap) (n0 : Nat) (Z0 : n0 ≤ h0.size) (hn4 : n ≤ 4) (hk0 : 0 < k) (hkn : k < n) (VA : AV Z h0 a1 .byte n (fun j => .int (g j))) (hp2 : p2 = (0 : Int32)) (hp3 : p3 = (k : Nat).toInt32) :
    MetFree l (⟨"java/util/Arrays", "copyOfRange", "([BII)[B"⟩ : MethodName) (head1 (Jvm.Cond.code (⟨"java/util/Arrays", "copyOfRange", "([BII)[B"⟩ : MethodName) jdk_65_method_132_code 3 (some (.array .byte)) :: ws) ({ frames := 2, cells := 1, slots := 4, locals := 56 } : Room)) (fun a U => a = #[(.ref a1), (.int p2), (.int p3)] ∧ Z.Warmed39 U.vm ∧ U.heap = h0) (fun _ _ _ _ _ => True) (fun _ U oC U' => ∃ v L, oC = .returned v ∧ Q_rm_cor Z a1 p2 p3 k n g h0 n0 v U'.heap L ∧ FrameEnd U oC U' L ({ frames := 2, cells := 1, slots := 4, locals := 56 } : Room).cells ({ frames := 2, cells := 1, slots := 4, locals := 56 } : Room).slots) := by
  refine MetFree.of_bodySF (plainFor_of_name pn_7) hisR ?_
  intro p e s m args below meth c s₁ Bd hml0 hP hK
  obtain ⟨rfl, hZ, hh⟩ := hP
  have hx := Bd.exec
  have hby := Bd.bytes
  have hml : c.maxLocals = 3 := hml0
  have hown : s.vm.findClass "java/util/Arrays" = some m.cls := findClass_of_methodNamed Bd.named
  have hnm := (name_of_methodNamed Bd.named Bd.method).1
  have X0 : Stand p l e ({ frames := 2, cells := 1, slots := 4, locals := 56 } : Room) s m #[(.ref a1), (.int p2), (.int p3)] below meth c s₁ [] 0 0 := Stand.of_body Bd
  have e0 : s₁.heap = h0 := by rw [← hh, Bd.state]; rfl
  have N0 := Fr.nil n0
  have pre0 : ∀ tg, Steps p.tables e below (s₁.setTop (mkF m 0 #[vR a1, vI p2, vI p3] [])) tg → Steps p.tables e below (s₁.setTop (entryFrame m #[(.ref a1), (.int p2), (.int p3)] 3)) tg := fun t k => castTop (ef_rm_cor m a1 p2 p3) k
  have pre00 : ∀ tg, Steps p.tables e below (s₁.setTop (mkF m 0 #[vR a1, vI p2, vI p3] [])) tg → Steps p.tables e below (s₁.setTop (mkF m 0 #[vR a1, vI p2, vI p3] [])) tg := fun _ k => k
  obtain ⟨k1, k2, k3, k4, k5, k6, k7, k8, k9⟩ := own_kf hn4 hk0 hkn
  have R336 : ∀ tg, Steps p.tables e below (s₁.setTop (mkF m 0 #[vR a1, vI (0 : Int32), vI (k : Nat).toInt32] [])) tg → Steps p.tables e below (s₁.setTop (mkF m 0 #[vR a1, vI p2, vI p3] [])) tg := by intro tg kt; refine pre00 tg ?_; rw [hp2, hp3]; exact kt
  have R337 : ∀ tg, Steps p.tables e below (s₁.setTop (mkF m 6 #[vR a1, vI (0 : Int32), vI (k : Nat).toInt32] [(.ref a1), (.int (k : Nat).toInt32)])) tg → Steps p.tables e below (s₁.setTop (mkF m 0 #[vR a1, vI p2, vI p3] [])) tg := by
    intro tg kt
    refine R336 _ ?_
    show Steps p.tables e below (s₁.setTop (mkF m 0 #[vR a1, vI (0 : Int32), vI (k : Nat).toInt32] [])) _
    refine XS.iloadN X0.here hx rfl (hb hby d25_0) rfl ?_
    show Steps p.tables e below (s₁.setTop (mkF m 1 #[vR a1, vI (0 : Int32), vI (k : Nat).toInt32] [(.int (0 : Int32))])) _
    refine XS.ifNo X0.here hx rfl (hb hby d25_1) rfl ((if0 _ _).trans (teq (rfl : (0 : Int32) = (0 : Int32))).2) ?_
    refine XS.iloadN X0.here hx rfl (hb hby d25_4) rfl ?_
    refine XS.aloadN X0.here hx rfl (hb hby d25_5) rfl rfl ?_
    exact kt
  clear R336
  obtain ⟨cl338, Ar338, ln338⟩ := VA.len
  have R339 : ∀ tg, Steps p.tables e below (s₁.setTop (mkF m 13 #[vR a1, vI (0 : Int32), vI (k : Nat).toInt32] [(.int (k : Nat).toInt32), (.int (0 : Int32)), (.ref a1)])) tg → Steps p.tables e below (s₁.setTop (mkF m 0 #[vR a1, vI p2, vI p3] [])) tg := by
    intro tg kt
    refine R337 _ ?_
    show Steps p.tables e below (s₁.setTop (mkF m 6 #[vR a1, vI (0 : Int32), vI (k : Nat).toInt32] [(.ref a1), (.int (k : Nat).toInt32)])) _
    refine X0.arraylength hx (by rw [e0]; exact Ar338.1) (State.isArrayOf_alike hZ.alike Ar338.2.1) (g := (mkF m 6 #[vR a1, vI (0 : Int32), vI (k : Nat).toInt32] [(.ref a1), (.int (k : Nat).toInt32)])) rfl rfl (hb hby d25_6) _ ?_
    rw [ln338]
    show Steps p.tables e below (s₁.setTop (mkF m 7 #[vR a1, vI (0 : Int32), vI (k : Nat).toInt32] [(.int (n : Nat).toInt32), (.int (k : Nat).toInt32)])) _
    refine XS.icmpNo X0.here hx rfl (hb hby d25_7) rfl (feq (k3 : ¬ ((k : Nat).toInt32 = (n : Nat).toInt32))).1 ?_
    refine XS.aloadN X0.here hx rfl (hb hby d25_10) rfl rfl ?_
    refine XS.iloadN X0.here hx rfl (hb hby d25_11) rfl ?_
    show Steps p.tables e below (s₁.setTop (mkF m 12 #[vR a1, vI (0 : Int32), vI (k : Nat).toInt32] [(.int (0 : Int32)), (.ref a1)])) _
    refine XS.iloadN X0.here hx rfl (hb hby d25_12) rfl ?_
    exact kt
  clear R337
  obtain ⟨_, _, ⟨T340, L340, k340, n340⟩, -, X340, ⟨Lc340, hQ340, l340, y340, z340⟩, st340⟩ := Jvm.LawKit.callS X0 hx (y := (⟨"java/util/Arrays", "copyOfRangeByte", "([BII)[B"⟩ : MethodName)) hown (mvT hZ (hw _ (List.mem_of_getElem? (i := 125) rfl))) (mvT hZ (hw _ (List.mem_of_getElem? (i := 126) rfl))) (mvT hZ (hw _ (List.mem_of_getElem? (i := 123) rfl))) (mvT hZ (hw _ (List.mem_of_getElem? (i := 127) rfl))) (by decide) (backOf (W := 0) (rm_crb l Z a0 hw [] a1 (0 : Int32) (k : Nat).toInt32 k n g h0 n0 Z0 hn4 hk0 hkn VA rfl rfl) hZ (hw _ (List.mem_of_getElem? (i := 127) rfl)) (hw _ (List.mem_of_getElem? (i := 123) rfl)) (by decide) (by decide)) (g := (mkF m 13 #[vR a1, vI (0 : Int32), vI (k : Nat).toInt32] [(.int (k : Nat).toInt32), (.int (0 : Int32)), (.ref a1)])) rfl (by rw [hml]; rfl) (argsL := [(.ref a1), (.int (0 : Int32)), (.int (k : Nat).toInt32)]) (rest := []) (lenOf pd_15 rfl) rfl (by show 2 * 0 + _ ≤ _; exact Nat.le_of_eq rfl) (hb hby d25_13) (fun _ _ => ⟨rfl, e0, (by decide : 0 + 1 ≤ _), (by decide : 0 + 4 ≤ _)⟩)
  dsimp only [Pt.U, Pt.locs, Pt.cells, Pt.slots] at X340 l340 y340 z340 st340 hQ340
  rw [l340, y340, z340] at X340
  obtain ⟨t, rfl, N340q, szt, K340, VB⟩ := hQ340
  have N340 := Fr.app N0 N340q
  have R341 : ∀ tg, Steps p.tables e below (T340.setTop (mkF m 16 #[vR a1, vI (0 : Int32), vI (k : Nat).toInt32] [(.ref t)])) tg → Steps p.tables e below (s₁.setTop (mkF m 0 #[vR a1, vI p2, vI p3] [])) tg := by
    intro tg kt
    refine R339 _ ?_
    refine st340 _ ?_
    exact kt
  clear R339 st340
  obtain ⟨fs, hr, hrun, hended, hW, hsame⟩ := X340.leave (v := some (.ref t)) (fun h => by rw [Bd.returns] at h; cases h)
  refine ⟨_, _, pre0 _ (R341 _ ?_), hrun, hended, _, _, rfl, ?_, ⟨_, rfl⟩, hW, hsame.mono (by decide) (by decide)⟩
  · show Steps p.tables e below (T340.setTop (mkF m 16 #[vR a1, vI (0 : Int32), vI (k : Nat).toInt32] [(.ref t)])) _
    jvm_step X340.here [X340.here.top, hx, (hb hby d25_16), X340.method', Bd.returns, Value.isRef, FieldType.isReference]
    first | (intro acts; rw [hr _ acts rfl rfl rfl]) | rw [hr _ _ rfl rfl rfl]
    exact Steps.refl _
  · show Q_rm_cor Z a1 p2 p3 k n g h0 n0 _ T340.heap _
    exact ⟨t, rfl, N340, szt, K340, VB⟩
theorem d28_0 : decode jdk_42_method_151_code 0 = .ok (.aload_n 0, 1) := by decide +kernel
theorem d28_1 : decode jdk_42_method_151_code 1 = .ok (.invokespecial 1, 3) := by decide +kernel
theorem d28_4 : decode jdk_42_method_151_code 4 = .ok (.aload_n 0, 1) := by decide +kernel
theorem d28_5 : decode jdk_42_method_151_code 5 = .ok (.aload_n 1, 1) := by decide +kernel
theorem d28_6 : decode jdk_42_method_151_code 6 = .ok (.putfield 9, 3) := by decide +kernel
theorem d28_9 : decode jdk_42_method_151_code 9 = .ok (.aload_n 0, 1) := by decide +kernel
theorem d28_10 : decode jdk_42_method_151_code 10 = .ok (.iload_n 2, 1) := by decide +kernel
theorem d28_11 : decode jdk_42_method_151_code 11 = .ok (.putfield 15, 3) := by decide +kernel
theorem d28_14 : decode jdk_42_method_151_code 14 = .ok (.return_, 1) := by decide +kernel
theorem ef_rm_sin (m : MethodId) (a1 : Addr) (a2 : Addr) (p3 : Int32) : entryFrame m #[(.ref a1), (.ref a2), (.int p3)] 3 = mkF m 0 #[vR a1, vR a2, vI p3] [] := by first | (simp [entryFrame, mkF, argsToLocals, Value.category]; done) | rfl
def Q_rm_sin (Z : State) (a1 : Addr) (a2 : Addr) (p3 : Int32) (h0 : Heap) (n0 : Nat) (v : Option Value) (h : Heap) (L : List Loc) : Prop := v = none ∧ Fr n0 L ∧ Keep h0 h [a1] ∧ Exa Z h a1 "java/lang/String" ∧ Fld Z h a1 "java/lang/String" "coder" "B" (.int (0 : Int32)) ∧ Fld Z h a1 "java/lang/String" "value" "[B" (.ref a2)
set_option maxRecDepth 65536 in
set_option maxHeartbeats 40000000 in
theorem rm_sin (l : Launch) (Z : State) (a0 : Array Value) (hw : ∀ d ∈ tables_1, d.before a0 Z = true) (ws : List Jvm.Cond) (a1 : Addr) (a2 : Addr) (p3 : Int32) (h0 : Heap) (n0 : Nat) (Z0 : n0 ≤ h0.size) (E1 : Exa Z h0 a1 "java/lang/String") (Fv : Fld Z h0 a1 "java/lang/String" "value" "[B" .null) (Fc : Fld Z h0 a1 "java/lang/String" "coder" "B" (.int (0 : Int32))) (ga : n0 ≤ a1) (hp : p3 = (0 : Int32)) :
    MetFree l (⟨"java/lang/String", "<init>", "([BB)V"⟩ : MethodName) (head1 (Jvm.Cond.code (⟨"java/lang/String", "<init>", "([BB)V"⟩ : MethodName) jdk_42_method_151_code 3 none :: ws) ({ frames := 1, cells := 0, slots := 0, locals := 12 } : Room)) (fun a U => a = #[(.ref a1), (.ref a2), (.int p3)] ∧ Z.Warmed39 U.vm ∧ U.heap = h0) (fun _ _ _ _ _ => True) (fun _ U oC U' => ∃ v L, oC = .returned v ∧ Q_rm_sin Z a1 a2 p3 h0 n0 v U'.heap L ∧ FrameEnd U oC U' L ({ frames := 1, cells := 0, slots := 0, locals := 12 } : Room).cells ({ frames := 1, cells := 0, slots := 0, locals := 12 } : Room).slots) := by
  refine MetFree.of_bodySF (plainFor_of_name pn_0) hisR ?_
  intro p e s m args below meth c s₁ Bd hml0 hP hK
  obtain ⟨rfl, hZ, hh⟩ := hP
  have hx := Bd.exec
  have hby := Bd.bytes
  have hml : c.maxLocals = 3 := hml0
  have hown : s.vm.findClass "java/lang/String" = some m.cls := findClass_of_methodNamed Bd.named
  have hnm := (name_of_methodNamed Bd.named Bd.method).1
  have X0 : Stand p l e ({ frames := 1, cells := 0, slots := 0, locals := 12 } : Room) s m #[(.ref a1), (.ref a2), (.int p3)] below meth c s₁ [] 0 0 := Stand.of_body Bd
  have e0 : s₁.heap = h0 := by rw [← hh, Bd.state]; rfl
  have N0 := Fr.nil n0
  have pre0 : ∀ tg, Steps p.tables e below (s₁.setTop (mkF m 0 #[vR a1, vR a2, vI p3] [])) tg → Steps p.tables e below (s₁.setTop (entryFrame m #[(.ref a1), (.ref a2), (.int p3)] 3)) tg := fun t k => castTop (ef_rm_sin m a1 a2 p3) k
  have pre00 : ∀ tg, Steps p.tables e below (s₁.setTop (mkF m 0 #[vR a1, vR a2, vI p3] [])) tg → Steps p.tables e below (s₁.setTop (mkF m 0 #[vR a1, vR a2, vI p3] [])) tg := fun _ k => k
  have R342 : ∀ tg, Steps p.tables e below (s₁.setTop (mkF m 1 #[vR a1, vR a2, vI p3] [(.ref a1)])) tg → Steps p.tables e below (s₁.setTop (mkF m 0 #[vR a1, vR a2, vI p3] [])) tg := by
    intro tg kt
    refine pre00 _ ?_
    show Steps p.tables e below (s₁.setTop (mkF m 0 #[vR a1, vR a2, vI p3] [])) _
    refine XS.aloadN X0.here hx rfl (hb hby d28_0) rfl rfl ?_
    exact kt
  obtain ⟨T343, X343, e343, st343⟩ := initO X0 hx hZ hown (hw _ (List.mem_of_getElem? (i := 16) rfl)) (hw _ (List.mem_of_getElem? (i := 17) rfl)) (hw _ (List.mem_of_getElem? (i := 18) rfl)) e0 (g := (mkF m 1 #[vR a1, vR a2, vI p3] [(.ref a1)])) rfl (by rw [hml]; rfl) rfl (hb hby d28_1) (by decide) (W := 0) (by show 2 * 0 + _ ≤ _; exact Nat.le_of_eq rfl) (by decide)
  have R344 : ∀ tg, Steps p.tables e below (T343.setTop (mkF m 6 #[vR a1, vR a2, vI p3] [(.ref a2), (.ref a1)])) tg → Steps p.tables e below (s₁.setTop (mkF m 0 #[vR a1, vR a2, vI p3] [])) tg := by
    intro tg kt
    refine R342 _ ?_
    refine st343 _ ?_
    refine XS.aloadN X343.here hx rfl (hb hby d28_4) rfl rfl ?_
    refine XS.aloadN X343.here hx rfl (hb hby d28_5) rfl rfl ?_
    exact kt
  clear R342 st343
  obtain ⟨T345, h345, X345, e345, W345, st345⟩ := putF X343 hx hZ hown (host := "") (Or.inl (hw _ (List.mem_of_getElem? (i := 33) rfl))) Via.refl e343 Fv E1 (Or.inr ⟨(hw _ (List.mem_of_getElem? (i := 34) rfl)), rfl, hnm⟩) (hw _ (List.mem_of_getElem? (i := 7) rfl)) (ty := (.array .byte)) (by decide) rfl rfl (g := (mkF m 6 #[vR a1, vR a2, vI p3] [(.ref a2), (.ref a1)])) rfl rfl (hb hby d28_6)
  have N345 := Fr.snoc X345 N0 ga
  have Fv_345 := Fv.same W345
  have E_a1_345 := E1.wr W345
  have Fc_345 := Fc.other W345 (Or.inr (slot_ne (Or.inr (hw _ (List.mem_of_getElem? (i := 32) rfl))) (Or.inr (hw _ (List.mem_of_getElem? (i := 34) rfl))) (by decide) (t := .byte) (t' := (.array .byte)) (by decide) (by decide)))
  have Zs345 : n0 ≤ h345.size := Nat.le_trans Z0 (Keep.of_wr W345).1
  have Kw345 : Keep h0 h345 [a1] := Keep.wr (Keep.refl h0 [a1]) W345 (Or.inl (List.mem_of_getElem? (i := 0) rfl))
  have R346 : ∀ tg, Steps p.tables e below (T345.setTop (mkF m 11 #[vR a1, vR a2, vI p3] [(.int p3), (.ref a1)])) tg → Steps p.tables e below (s₁.setTop (mkF m 0 #[vR a1, vR a2, vI p3] [])) tg := by
    intro tg kt
    refine R344 _ ?_
    refine st345 _ ?_
    show Steps p.tables e below (T345.setTop (mkF m 9 #[vR a1, vR a2, vI p3] [])) _
    refine XS.aloadN X345.here hx rfl (hb hby d28_9) rfl rfl ?_
    refine XS.iloadN X345.here hx rfl (hb hby d28_10) rfl ?_
    exact kt
  clear R344 st345
  obtain ⟨T347, h347, X347, e347, W347, st347⟩ := putF X345 hx hZ hown (host := "") (Or.inl (hw _ (List.mem_of_getElem? (i := 31) rfl))) Via.refl e345 Fc_345 E_a1_345 (Or.inr ⟨(hw _ (List.mem_of_getElem? (i := 32) rfl)), rfl, hnm⟩) (hw _ (List.mem_of_getElem? (i := 7) rfl)) (ty := .byte) (by decide) (by rw [hp]; rfl) (by rw [hp]; rfl) (g := (mkF m 11 #[vR a1, vR a2, vI p3] [(.int p3), (.ref a1)])) rfl rfl (hb hby d28_11)
  have N347 := Fr.snoc X347 N345 ga
  have Fc_347 := Fc_345.same W347
  have E_a1_347 := E_a1_345.wr W347
  have Fv_347 := Fv_345.other W347 (Or.inr (slot_ne (Or.inr (hw _ (List.mem_of_getElem? (i := 34) rfl))) (Or.inr (hw _ (List.mem_of_getElem? (i := 32) rfl))) (by decide) (t := (.array .byte)) (t' := .byte) (by decide) (by decide)))
  clear E_a1_345 Fv_345
  have Zs347 : n0 ≤ h347.size := Nat.le_trans Zs345 (Keep.of_wr W347).1
  have Kw347 : Keep h0 h347 [a1] := Keep.wr Kw345 W347 (Or.inl (List.mem_of_getElem? (i := 0) rfl))
  have R348 : ∀ tg, Steps p.tables e below (T347.setTop (mkF m 14 #[vR a1, vR a2, vI p3] [])) tg → Steps p.tables e below (s₁.setTop (mkF m 0 #[vR a1, vR a2, vI p3] [])) tg := by
    intro tg kt
    refine R346 _ ?_
    refine st347 _ ?_
    exact kt
  clear R346 st347
  obtain ⟨fs, hr, hrun, hended, hW, hsame⟩ := X347.leave (v := none) (fun _ => rfl)
  refine ⟨_, _, pre0 _ (R348 _ ?_), hrun, hended, _, _, rfl, ?_, ⟨_, rfl⟩, hW, hsame.mono (by decide) (by decide)⟩
  · exact X347.returnOut hx Bd.returns (hb hby d28_14) hr
  · show Q_rm_sin Z a1 a2 p3 h0 n0 _ T347.heap _
    rw [e347]
    exact ⟨rfl, N347, Kw347, E_a1_347, by have q := Fc_347; rw [hp] at q; exact q, Fv_347⟩
theorem d24_0 : decode jdk_43_method_47_code 0 = .ok (.iload_n 2, 1) := by decide +kernel
theorem d24_1 : decode jdk_43_method_47_code 1 = .ok (.ifCond .ne 6, 3) := by decide +kernel
theorem d24_7 : decode jdk_43_method_47_code 7 = .ok (.new 1, 3) := by decide +kernel
theorem d24_10 : decode jdk_43_method_47_code 10 = .ok (.dup, 1) := by decide +kernel
theorem d24_11 : decode jdk_43_method_47_code 11 = .ok (.aload_n 0, 1) := by decide +kernel
theorem d24_12 : decode jdk_43_method_47_code 12 = .ok (.iload_n 1, 1) := by decide +kernel
theorem d24_13 : decode jdk_43_method_47_code 13 = .ok (.iload_n 1, 1) := by decide +kernel
theorem d24_14 : decode jdk_43_method_47_code 14 = .ok (.iload_n 2, 1) := by decide +kernel
theorem d24_15 : decode jdk_43_method_47_code 15 = .ok (.iadd, 1) := by decide +kernel
theorem d24_16 : decode jdk_43_method_47_code 16 = .ok (.invokestatic 232, 3) := by decide +kernel
theorem d24_19 : decode jdk_43_method_47_code 19 = .ok (.iconst 0, 1) := by decide +kernel
theorem pd_16 : parseMethodDescriptor "([BB)V" = some ⟨[(.array .byte), .byte], none⟩ := by decide +kernel
theorem d24_20 : decode jdk_43_method_47_code 20 = .ok (.invokespecial 112, 3) := by decide +kernel
theorem d24_23 : decode jdk_43_method_47_code 23 = .ok (.areturn, 1) := by decide +kernel
theorem ef_rm_nsB (m : MethodId) (a1 : Addr) (p2 : Int32) (p3 : Int32) : entryFrame m #[(.ref a1), (.int p2), (.int p3)] 3 = mkF m 0 #[vR a1, vI p2, vI p3] [] := by first | (simp [entryFrame, mkF, argsToLocals, Value.category]; done) | rfl
def Q_rm_nsB (Z : State) (a1 : Addr) (p2 : Int32) (p3 : Int32) (k : Nat) (n : Nat) (g : Nat → Int32) (h0 : Heap) (n0 : Nat) (v : Option Value) (h : Heap) (L : List Loc) : Prop := ∃ a t : Addr, v = some (.ref a) ∧ Fr n0 L ∧ Keep h0 h [] ∧ Exa Z h a "java/lang/String" ∧ Fld Z h a "java/lang/String" "coder" "B" (.int (0 : Int32)) ∧ Fld Z h a "java/lang/String" "value" "[B" (.ref t) ∧ AV Z h t .byte k (fun j => .int (g j))
set_option maxRecDepth 65536 in
set_option maxHeartbeats 40000000 in
theorem rm_nsB (l : Launch) (Z : State) (a0 : Array Value) (hw : ∀ d ∈ tables_1, d.before a0 Z = true) (ws : List Jvm.Cond) (a1 : Addr) (p2 : Int32) (p3 : Int32) (k : Nat) (n : Nat) (g : Nat → Int32) (h0 : Heap) (n0 : Nat) (Z0 : n0 ≤ h0.size) (hn4 : n ≤ 4) (hk0 : 0 < k) (hkn : k < n) (VA : AV Z h0 a1 .byte n (fun j => .int (g j))) (hp2 : p2 = (0 : Int32)) (hp3 : p3 = (k : Nat).toInt32) :
    MetFree l (⟨"java/lang/StringLatin1", "newString", "([BII)Ljava/lang/String;"⟩ : MethodName) (head1 (Jvm.Cond.code (⟨"java/lang/StringLatin1", "newString", "([BII)Ljava/lang/String;"⟩ : MethodName) jdk_43_method_47_code 3 (some (.object "java/lang/String")) :: ws) ({ frames := 3, cells := 2, slots := 8, locals := 72 } : Room)) (fun a U => a = #[(.ref a1), (.int p2), (.int p3)] ∧ Z.Warmed39 U.vm ∧ U.heap = h0) (fun _ _ _ _ _ => True) (fun _ U oC U' => ∃ v L, oC = .returned v ∧ Q_rm_nsB Z a1 p2 p3 k n g h0 n0 v U'.heap L ∧ FrameEnd U oC U' L ({ frames := 3, cells := 2, slots := 8, locals := 72 } : Room).cells ({ frames := 3, cells := 2, slots := 8, locals := 72 } : Room).slots) := by
  refine MetFree.of_bodySF (plainFor_of_name pn_2) hisR ?_
  intro p e s m args below meth c s₁ Bd hml0 hP hK
  obtain ⟨rfl, hZ, hh⟩ := hP
  have hx := Bd.exec
  have hby := Bd.bytes
  have hml : c.maxLocals = 3 := hml0
  have hown : s.vm.findClass "java/lang/StringLatin1" = some m.cls := findClass_of_methodNamed Bd.named
  have hnm := (name_of_methodNamed Bd.named Bd.method).1
  have X0 : Stand p l e ({ frames := 3, cells := 2, slots := 8, locals := 72 } : Room) s m #[(.ref a1), (.int p2), (.int p3)] below meth c s₁ [] 0 0 := Stand.of_body Bd
  have e0 : s₁.heap = h0 := by rw [← hh, Bd.state]; rfl
  have N0 := Fr.nil n0
  have pre0 : ∀ tg, Steps p.tables e below (s₁.setTop (mkF m 0 #[vR a1, vI p2, vI p3] [])) tg → Steps p.tables e below (s₁.setTop (entryFrame m #[(.ref a1), (.int p2), (.int p3)] 3)) tg := fun t k => castTop (ef_rm_nsB m a1 p2 p3) k
  have pre00 : ∀ tg, Steps p.tables e below (s₁.setTop (mkF m 0 #[vR a1, vI p2, vI p3] [])) tg → Steps p.tables e below (s₁.setTop (mkF m 0 #[vR a1, vI p2, vI p3] [])) tg := fun _ k => k
  obtain ⟨k1, k2, k3, k4, k5, k6, k7, k8, k9⟩ := own_kf hn4 hk0 hkn
  have R349 : ∀ tg, Steps p.tables e below (s₁.setTop (mkF m 0 #[vR a1, vI (0 : Int32), vI (k : Nat).toInt32] [])) tg → Steps p.tables e below (s₁.setTop (mkF m 0 #[vR a1, vI p2, vI p3] [])) tg := by intro tg kt; refine pre00 tg ?_; rw [hp2, hp3]; exact kt
  have R350 : ∀ tg, Steps p.tables e below (s₁.setTop (mkF m 7 #[vR a1, vI (0 : Int32), vI (k : Nat).toInt32] [])) tg → Steps p.tables e below (s₁.setTop (mkF m 0 #[vR a1, vI p2, vI p3] [])) tg := by
    intro tg kt
    refine R349 _ ?_
    show Steps p.tables e below (s₁.setTop (mkF m 0 #[vR a1, vI (0 : Int32), vI (k : Nat).toInt32] [])) _
    refine XS.iloadN X0.here hx rfl (hb hby d24_0) rfl ?_
    show Steps p.tables e below (s₁.setTop (mkF m 1 #[vR a1, vI (0 : Int32), vI (k : Nat).toInt32] [(.int (k : Nat).toInt32)])) _
    refine XS.ifYes X0.here hx rfl (pc0 := 1) (pc' := 7) rfl (hb hby d24_1) rfl ((if0 _ _).trans (feq (k4 : ¬ ((k : Nat).toInt32 = (0 : Int32)))).2) (by decide) (by decide) ?_
    exact kt
  clear R349
  obtain ⟨T351, h351, X351, e351, E351, A351, D351, -, st351⟩ := newO X0 hx hZ hown (hw _ (List.mem_of_getElem? (i := 120) rfl)) (hw _ (List.mem_of_getElem? (i := 7) rfl)) (hw _ (List.mem_of_getElem? (i := 8) rfl)) e0 (g := (mkF m 7 #[vR a1, vI (0 : Int32), vI (k : Nat).toInt32] [])) rfl (hb hby d24_7) (by decide) (by decide)
  obtain ⟨ob, g351⟩ : ∃ z, z = h0.size := ⟨_, rfl⟩
  rw [← g351] at A351 D351 st351
  have E_ob := A351
  have g_ob : n0 ≤ ob := Nat.le_trans Z0 (Nat.le_of_eq g351.symm)
  have sz_ob : h0.size ≤ ob := Nat.le_trans (Keep.refl h0 []).1 (Nat.le_of_eq g351.symm)
  have ne_a1_ob : a1 ≠ ob := Nat.ne_of_lt (Nat.lt_of_lt_of_le VA.lt (Nat.le_of_eq g351.symm))
  have VA_351 := VA.ext E351
  have Zs351 : n0 ≤ h351.size := Nat.le_trans Z0 E351.1
  have Ke351 : Keep h0 h351 [] := Keep.ext (Keep.refl h0 []) E351
  have Fv : Fld Z h351 ob "java/lang/String" "value" "[B" .null := D351 (Or.inr (hw _ (List.mem_of_getElem? (i := 34) rfl))) (ty := (.array .byte)) (by decide)
  have Fc : Fld Z h351 ob "java/lang/String" "coder" "B" (.int (0 : Int32)) := D351 (Or.inr (hw _ (List.mem_of_getElem? (i := 32) rfl))) (ty := .byte) (by decide)
  have R352 : ∀ tg, Steps p.tables e below (T351.setTop (mkF m 16 #[vR a1, vI (0 : Int32), vI (k : Nat).toInt32] [(.int ((0 : Int32) + (k : Nat).toInt32)), (.int (0 : Int32)), (.ref a1), (.ref ob), (.ref ob)])) tg → Steps p.tables e below (s₁.setTop (mkF m 0 #[vR a1, vI p2, vI p3] [])) tg := by
    intro tg kt
    refine R350 _ ?_
    refine st351 _ ?_
    refine XS.dup X351.here hx rfl (hb hby d24_10) rfl rfl ?_
    refine XS.aloadN X351.here hx rfl (hb hby d24_11) rfl rfl ?_
    show Steps p.tables e below (T351.setTop (mkF m 12 #[vR a1, vI (0 : Int32), vI (k : Nat).toInt32] [(.ref a1), (.ref ob), (.ref ob)])) _
    refine XS.iloadN X351.here hx rfl (hb hby d24_12) rfl ?_
    refine XS.iloadN X351.here hx rfl (hb hby d24_13) rfl ?_
    refine XS.iloadN X351.here hx rfl (hb hby d24_14) rfl ?_
    show Steps p.tables e below (T351.setTop (mkF m 15 #[vR a1, vI (0 : Int32), vI (k : Nat).toInt32] [(.int (k : Nat).toInt32), (.int (0 : Int32)), (.int (0 : Int32)), (.ref a1), (.ref ob), (.ref ob)])) _
    refine XS.iadd X351.here hx rfl (hb hby d24_15) rfl ?_
    exact kt
  clear R350 st351
  have R353 : ∀ tg, Steps p.tables e below (T351.setTop (mkF m 16 #[vR a1, vI (0 : Int32), vI (k : Nat).toInt32] [(.int (k : Nat).toInt32), (.int (0 : Int32)), (.ref a1), (.ref ob), (.ref ob)])) tg → Steps p.tables e below (s₁.setTop (mkF m 0 #[vR a1, vI p2, vI p3] [])) tg := by intro tg kt; refine R352 tg ?_; rw [own_0add]; exact kt
  obtain ⟨_, _, ⟨T354, L354, k354, n354⟩, -, X354, ⟨Lc354, hQ354, l354, y354, z354⟩, st354⟩ := Jvm.LawKit.callS X351 hx (y := (⟨"java/util/Arrays", "copyOfRange", "([BII)[B"⟩ : MethodName)) hown (mvT hZ (hw _ (List.mem_of_getElem? (i := 121) rfl))) (mvT hZ (hw _ (List.mem_of_getElem? (i := 122) rfl))) (mvT hZ (hw _ (List.mem_of_getElem? (i := 123) rfl))) (mvT hZ (hw _ (List.mem_of_getElem? (i := 124) rfl))) (by decide) (backOf (W := 2) (rm_cor l Z a0 hw [] a1 (0 : Int32) (k : Nat).toInt32 k n g h351 n0 Zs351 hn4 hk0 hkn VA_351 rfl rfl) hZ (hw _ (List.mem_of_getElem? (i := 124) rfl)) (hw _ (List.mem_of_getElem? (i := 123) rfl)) (by decide) (by decide)) (g := (mkF m 16 #[vR a1, vI (0 : Int32), vI (k : Nat).toInt32] [(.int (k : Nat).toInt32), (.int (0 : Int32)), (.ref a1), (.ref ob), (.ref ob)])) rfl (by rw [hml]; rfl) (argsL := [(.ref a1), (.int (0 : Int32)), (.int (k : Nat).toInt32)]) (rest := [(.ref ob), (.ref ob)]) (lenOf pd_15 rfl) rfl (by show 2 * 0 + _ ≤ _; exact Nat.le_of_eq rfl) (hb hby d24_16) (fun _ _ => ⟨rfl, e351, (by decide : 1 + 1 ≤ _), (by decide : 4 + 4 ≤ _)⟩)
  dsimp only [Pt.U, Pt.locs, Pt.cells, Pt.slots] at X354 l354 y354 z354 st354 hQ354
  rw [l354, y354, z354] at X354
  obtain ⟨t, rfl, N354q, szt, K354, VB⟩ := hQ354
  have N354 := Fr.app N0 N354q
  have g_t : n0 ≤ t := Nat.le_trans Zs351 szt
  have ne_a1_t : a1 ≠ t := Nat.ne_of_lt (Nat.lt_of_lt_of_le VA_351.lt szt)
  have ne_ob_t : ob ≠ t := Nat.ne_of_lt (Nat.lt_of_lt_of_le Fv.lt szt)
  have VA_355 := VA_351.keep K354 own_notin0
  have Fv_355 := Fv.keep K354 own_notin0
  have Fc_355 := Fc.keep K354 own_notin0
  have E_ob_355 := E_ob.keep K354
  clear VA_351
  have Zs355 : n0 ≤ T354.heap.size := Nat.le_trans Zs351 K354.1
  have Kk355 : Keep h0 T354.heap [] := Keep.trans Ke351 K354 (own_trans0 )
  have R356 : ∀ tg, Steps p.tables e below (T354.setTop (mkF m 20 #[vR a1, vI (0 : Int32), vI (k : Nat).toInt32] [(.int (0 : Int32)), (.ref t), (.ref ob), (.ref ob)])) tg → Steps p.tables e below (s₁.setTop (mkF m 0 #[vR a1, vI p2, vI p3] [])) tg := by
    intro tg kt
    refine R353 _ ?_
    refine st354 _ ?_
    refine XS.iconst X354.here hx rfl (hb hby d24_19) ?_
    exact kt
  clear R353 st354
  obtain ⟨_, _, ⟨T357, L357, k357, n357⟩, -, X357, ⟨Lc357, hQ357, l357, y357, z357⟩, st357⟩ := X354.specialBack hx (y := (⟨"java/lang/String", "<init>", "([BB)V"⟩ : MethodName)) rfl hown (mvT hZ (hw _ (List.mem_of_getElem? (i := 136) rfl))) (mvT hZ (hw _ (List.mem_of_getElem? (i := 137) rfl))) (mvT hZ (hw _ (List.mem_of_getElem? (i := 138) rfl))) (by decide) (backOf (W := 1) (rm_sin l Z a0 hw [] ob t (0 : Int32) T354.heap n0 Zs355 E_ob_355 Fv_355 Fc_355 g_ob rfl) hZ (hw _ (List.mem_of_getElem? (i := 138) rfl)) (hw _ (List.mem_of_getElem? (i := 8) rfl)) (by decide) (by decide)) (g := (mkF m 20 #[vR a1, vI (0 : Int32), vI (k : Nat).toInt32] [(.int (0 : Int32)), (.ref t), (.ref ob), (.ref ob)])) rfl (by rw [hml]; rfl) (Steps.refl _) (a := ob) (argsL := [(.ref t), (.int (0 : Int32))]) (rest := [(.ref ob)]) (lenOf pd_16 rfl) rfl (by show 2 * 0 + _ ≤ _; exact Nat.le_of_eq rfl) (hb hby d24_20) (fun _ _ => ⟨rfl, rfl, (by decide : 2 + 0 ≤ _), (by decide : 8 + 0 ≤ _)⟩)
  dsimp only [Pt.U, Pt.locs, Pt.cells, Pt.slots] at X357 l357 y357 z357 st357 hQ357
  rw [l357, y357, z357] at X357
  obtain ⟨rfl, N357q, K357, Eo, Fco, Fvo⟩ := hQ357
  have N357 := Fr.app N354 N357q
  have VA_358 := VA_355.keep K357 (own_notin1 ne_a1_ob)
  have VB_358 := VB.keep K357 (own_notin1 (Ne.symm ne_ob_t))
  clear VA_355
  have Zs358 : n0 ≤ T357.heap.size := Nat.le_trans Zs355 K357.1
  have Kk358 : Keep h0 T357.heap [] := Keep.trans Kk355 K357 (own_trans1 (Or.inr sz_ob))
  have R359 : ∀ tg, Steps p.tables e below (T357.setTop (mkF m 23 #[vR a1, vI (0 : Int32), vI (k : Nat).toInt32] [(.ref ob)])) tg → Steps p.tables e below (s₁.setTop (mkF m 0 #[vR a1, vI p2, vI p3] [])) tg := by
    intro tg kt
    refine R356 _ ?_
    refine st357.trans ?_
    exact kt
  clear R356 st357
  obtain ⟨fs, hr, hrun, hended, hW, hsame⟩ := X357.leave (v := some (.ref ob)) (fun h => by rw [Bd.returns] at h; cases h)
  refine ⟨_, _, pre0 _ (R359 _ ?_), hrun, hended, _, _, rfl, ?_, ⟨_, rfl⟩, hW, hsame.mono (by decide) (by decide)⟩
  · show Steps p.tables e below (T357.setTop (mkF m 23 #[vR a1, vI (0 : Int32), vI (k : Nat).toInt32] [(.ref ob)])) _
    jvm_step X357.here [X357.here.top, hx, (hb hby d24_23), X357.method', Bd.returns, Value.isRef, FieldType.isReference]
    first | (intro acts; rw [hr _ acts rfl rfl rfl]) | rw [hr _ _ rfl rfl rfl]
    exact Steps.refl _
  · show Q_rm_nsB Z a1 p2 p3 k n g h0 n0 _ T357.heap _
    exact ⟨ob, t, rfl, N357, Kk358, Eo, Fco, Fvo, VB_358⟩
theorem d24_4 : decode jdk_43_method_47_code 4 = .ok (.ldc 151, 2) := by decide +kernel
theorem d24_6 : decode jdk_43_method_47_code 6 = .ok (.areturn, 1) := by decide +kernel
theorem ef_rm_nsC (m : MethodId) (a1 : Addr) (p2 : Int32) (p3 : Int32) : entryFrame m #[(.ref a1), (.int p2), (.int p3)] 3 = mkF m 0 #[vR a1, vI p2, vI p3] [] := by first | (simp [entryFrame, mkF, argsToLocals, Value.category]; done) | rfl
def Q_rm_nsC (Z : State) (a1 : Addr) (p2 : Int32) (p3 : Int32) (h0 : Heap) (n0 : Nat) (v : Option Value) (h : Heap) (L : List Loc) : Prop := ∃ a t : Addr, v = some (.ref a) ∧ Fr n0 L ∧ Keep h0 h [] ∧ Exa Z h a "java/lang/String" ∧ Fld Z h a "java/lang/String" "coder" "B" (.int (0 : Int32)) ∧ Fld Z h a "java/lang/String" "value" "[B" (.ref t) ∧ AV Z h t .byte 0 (fun j => .int ((fun j => ([] : List Int32).getD j 0) j))
set_option maxRecDepth 65536 in
set_option maxHeartbeats 40000000 in
theorem rm_nsC (l : Launch) (Z : State) (a0 : Array Value) (hw : ∀ d ∈ tables_1, d.before a0 Z = true) (ws : List Jvm.Cond) (a1 : Addr) (p2 : Int32) (p3 : Int32) (h0 : Heap) (n0 : Nat) (Z0 : n0 ≤ h0.size) (hp3 : p3 = (0 : Int32)) (OL : Old Z n0 h0) (hc151 : Jvm.Lit.constHeld Z "java/lang/StringLatin1" 151) (hcw : Jvm.Lit.compactW.before a0 Z = true) :
    MetFree l (⟨"java/lang/StringLatin1", "newString", "([BII)Ljava/lang/String;"⟩ : MethodName) (head1 (Jvm.Cond.code (⟨"java/lang/StringLatin1", "newString", "([BII)Ljava/lang/String;"⟩ : MethodName) jdk_43_method_47_code 3 (some (.object "java/lang/String")) :: ws) ({ frames := 0, cells := 2, slots := 4, locals := 0 } : Room)) (fun a U => a = #[(.ref a1), (.int p2), (.int p3)] ∧ Z.Warmed39 U.vm ∧ U.heap = h0 ∧ IB Z U.vm []) (fun _ _ _ _ _ => True) (fun _ U oC U' => ∃ v L, oC = .returned v ∧ Q_rm_nsC Z a1 p2 p3 h0 n0 v U'.heap L ∧ ReturnedEndW U oC U' L ({ frames := 0, cells := 2, slots := 4, locals := 0 } : Room).cells ({ frames := 0, cells := 2, slots := 4, locals := 0 } : Room).slots) := by
  refine MetFree.of_bodySF (plainFor_of_name pn_2) hisR ?_
  intro p e s m args below meth c s₁ Bd hml0 hP hK
  obtain ⟨rfl, hZ, hh, hI⟩ := hP
  have hS0 : s.Since s.vm 0 := State.WarmedH.since (State.WarmedH.refl s) 0
  have hk0 : 0 ≤ h0.size := Nat.zero_le _
  have hkeep : ∀ (b : Addr) (cl : Cell), Z.heap[b]? = some cl → s.heap[b]? = some cl := by rw [hh]; exact OL.2.2
  have hx := Bd.exec
  have hby := Bd.bytes
  have hml : c.maxLocals = 3 := hml0
  have hown : s.vm.findClass "java/lang/StringLatin1" = some m.cls := findClass_of_methodNamed Bd.named
  have hnm := (name_of_methodNamed Bd.named Bd.method).1
  have X0 : Stand p l e ({ frames := 0, cells := 2, slots := 4, locals := 0 } : Room) s m #[(.ref a1), (.int p2), (.int p3)] below meth c s₁ [] 0 0 := Stand.of_body Bd
  have e0 : s₁.heap = h0 := by rw [← hh, Bd.state]; rfl
  have N0 := Fr.nil n0
  have pre0 : ∀ tg, Steps p.tables e below (s₁.setTop (mkF m 0 #[vR a1, vI p2, vI p3] [])) tg → Steps p.tables e below (s₁.setTop (entryFrame m #[(.ref a1), (.int p2), (.int p3)] 3)) tg := fun t k => castTop (ef_rm_nsC m a1 p2 p3) k
  have pre00 : ∀ tg, Steps p.tables e below (s₁.setTop (mkF m 0 #[vR a1, vI p2, vI p3] [])) tg → Steps p.tables e below (s₁.setTop (mkF m 0 #[vR a1, vI p2, vI p3] [])) tg := fun _ k => k
  have wS : ∀ d ∈ Bundle.stringAtoms, d.before a0 Z = true := fun d hd => by
    simp only [Bundle.stringAtoms, List.mem_cons, List.not_mem_nil, or_false] at hd
    rcases hd with rfl | rfl | rfl | rfl | rfl | rfl | rfl
    · exact (hw _ (List.mem_of_getElem? (i := 8) rfl))
    · exact (hw _ (List.mem_of_getElem? (i := 7) rfl))
    · exact (hw _ (List.mem_of_getElem? (i := 24) rfl))
    · exact (hw _ (List.mem_of_getElem? (i := 34) rfl))
    · exact (hw _ (List.mem_of_getElem? (i := 32) rfl))
    · exact (hw _ (List.mem_of_getElem? (i := 117) rfl))
    · exact (hw _ (List.mem_of_getElem? (i := 118) rfl))
  have R360 : ∀ tg, Steps p.tables e below (s₁.setTop (mkF m 4 #[vR a1, vI p2, vI p3] [])) tg → Steps p.tables e below (s₁.setTop (mkF m 0 #[vR a1, vI p2, vI p3] [])) tg := by
    intro tg kt
    refine pre00 _ ?_
    show Steps p.tables e below (s₁.setTop (mkF m 0 #[vR a1, vI p2, vI p3] [])) _
    refine XS.iloadN X0.here hx rfl (hb hby d24_0) rfl ?_
    show Steps p.tables e below (s₁.setTop (mkF m 1 #[vR a1, vI p2, vI p3] [(.int p3)])) _
    refine XS.ifNo X0.here hx rfl (hb hby d24_1) rfl ((if0 _ _).trans (teq (hp3 : p3 = (0 : Int32))).2) ?_
    exact kt
  obtain ⟨le, T361, h361, k361, lb, kk361, X361, e361, E361, S361, hk361, hZ, hown, Ea_le, Fc_le, Fv_le, Vr_le, -, -, I361, Li361, st361⟩ := ldcSVL (s := s) (vm0 := s.vm) X0 hx hZ hown (hw _ (List.mem_of_getElem? (i := 116) rfl)) wS e0 hS0 hk0 (Fr.nil _) hkeep hI (by decide) hc151 hcw (vs := List.map Value.int []) (z := 0) (by constructor <;> decide +kernel) (by decide) (by decide) (g := (mkF m 4 #[vR a1, vI p2, vI p3] [])) rfl (hb hby d24_4) (n := 0) (by decide +kernel) (by decide) (by decide) (by decide)
  have Zs361 : n0 ≤ h361.size := Nat.le_trans Z0 E361.1
  have Ke361 : Keep h0 h361 [] := Keep.ext (Keep.refl h0 []) E361
  have Va_le : AV Z h361 lb .byte 0 (fun j => .int ((fun j => ([] : List Int32).getD j 0) j)) := own_avl (n := 0) Vr_le rfl
  have R362 : ∀ tg, Steps p.tables e below (T361.setTop (mkF m 6 #[vR a1, vI p2, vI p3] [(.ref le)])) tg → Steps p.tables e below (s₁.setTop (mkF m 0 #[vR a1, vI p2, vI p3] [])) tg := by
    intro tg kt
    refine R360 _ ?_
    refine st361 _ ?_
    exact kt
  clear R360 st361
  obtain ⟨fs, hr, hrun, hended, hR⟩ := Stand.leaveW (s := s) (vm₁ := T361.vm) X361 S361 (by rw [e361]; exact hk361) (v := some (.ref le)) (fun h => by rw [Bd.returns] at h; cases h)
  refine ⟨_, _, pre0 _ (R362 _ ?_), hrun, hended, _, _, rfl, ?_, hR.1, hR.2.1, hR.2.2.1, hR.2.2.2.mono (by decide) (by decide)⟩
  · show Steps p.tables e below (T361.setTop (mkF m 6 #[vR a1, vI p2, vI p3] [(.ref le)])) _
    jvm_step X361.here [X361.here.top, hx, (hb hby d24_6), X361.method', Bd.returns, Value.isRef, FieldType.isReference]
    first | (intro acts; rw [hr _ acts rfl rfl rfl]) | rw [hr _ _ rfl rfl rfl]
    exact Steps.refl _
  · show Q_rm_nsC Z a1 p2 p3 h0 n0 _ T361.heap _
    rw [e361]
    exact ⟨le, lb, rfl, N0, Ke361, Ea_le, Fc_le, Fv_le, Va_le⟩
theorem d21_0 : decode jdk_42_method_92_code 0 = .ok (.aload_n 0, 1) := by decide +kernel
theorem d21_1 : decode jdk_42_method_92_code 1 = .ok (.invokevirtual 505, 3) := by decide +kernel
theorem d21_4 : decode jdk_42_method_92_code 4 = .ok (.istore_n 3, 1) := by decide +kernel
theorem d21_5 : decode jdk_42_method_92_code 5 = .ok (.iload_n 1, 1) := by decide +kernel
theorem d21_6 : decode jdk_42_method_92_code 6 = .ok (.iload_n 2, 1) := by decide +kernel
theorem d21_7 : decode jdk_42_method_92_code 7 = .ok (.iload_n 3, 1) := by decide +kernel
theorem pd_17 : parseMethodDescriptor "(III)V" = some ⟨[.int, .int, .int], none⟩ := by decide +kernel
theorem d21_8 : decode jdk_42_method_92_code 8 = .ok (.invokestatic 521, 3) := by decide +kernel
theorem d21_11 : decode jdk_42_method_92_code 11 = .ok (.iload_n 1, 1) := by decide +kernel
theorem d21_12 : decode jdk_42_method_92_code 12 = .ok (.ifCond .ne 10, 3) := by decide +kernel
theorem d21_15 : decode jdk_42_method_92_code 15 = .ok (.iload_n 2, 1) := by decide +kernel
theorem d21_16 : decode jdk_42_method_92_code 16 = .ok (.iload_n 3, 1) := by decide +kernel
theorem d21_17 : decode jdk_42_method_92_code 17 = .ok (.if_icmp .ne 5, 3) := by decide +kernel
theorem d21_22 : decode jdk_42_method_92_code 22 = .ok (.iload_n 2, 1) := by decide +kernel
theorem d21_23 : decode jdk_42_method_92_code 23 = .ok (.iload_n 1, 1) := by decide +kernel
theorem d21_24 : decode jdk_42_method_92_code 24 = .ok (.isub, 1) := by decide +kernel
theorem d21_25 : decode jdk_42_method_92_code 25 = .ok (.istore 4, 2) := by decide +kernel
theorem d21_27 : decode jdk_42_method_92_code 27 = .ok (.aload_n 0, 1) := by decide +kernel
theorem d21_28 : decode jdk_42_method_92_code 28 = .ok (.invokevirtual 492, 3) := by decide +kernel
theorem d21_31 : decode jdk_42_method_92_code 31 = .ok (.ifCond .eq 16, 3) := by decide +kernel
theorem d21_34 : decode jdk_42_method_92_code 34 = .ok (.aload_n 0, 1) := by decide +kernel
theorem d21_35 : decode jdk_42_method_92_code 35 = .ok (.getfield 9, 3) := by decide +kernel
theorem d21_38 : decode jdk_42_method_92_code 38 = .ok (.iload_n 1, 1) := by decide +kernel
theorem d21_39 : decode jdk_42_method_92_code 39 = .ok (.iload 4, 2) := by decide +kernel
theorem pd_18 : parseMethodDescriptor "([BII)Ljava/lang/String;" = some ⟨[(.array .byte), .int, .int], some (.object "java/lang/String")⟩ := by decide +kernel
theorem d21_41 : decode jdk_42_method_92_code 41 = .ok (.invokestatic 685, 3) := by decide +kernel
theorem d21_44 : decode jdk_42_method_92_code 44 = .ok (.goto 13, 3) := by decide +kernel
theorem d21_57 : decode jdk_42_method_92_code 57 = .ok (.areturn, 1) := by decide +kernel
theorem ef_rm_suB (m : MethodId) (a1 : Addr) (p2 : Int32) (p3 : Int32) : entryFrame m #[(.ref a1), (.int p2), (.int p3)] 5 = mkF m 0 #[vR a1, vI p2, vI p3, .unset, .unset] [] := by first | (simp [entryFrame, mkF, argsToLocals, Value.category]; done) | rfl
def Q_rm_suB (Z : State) (a1 : Addr) (p2 : Int32) (p3 : Int32) (k : Nat) (n : Nat) (g : Nat → Int32) (tb : Addr) (cs : Int32) (vf : Value) (h0 : Heap) (n0 : Nat) (v : Option Value) (h : Heap) (L : List Loc) : Prop := ∃ a t : Addr, v = some (.ref a) ∧ Fr n0 L ∧ Keep h0 h [] ∧ Exa Z h a "java/lang/String" ∧ Fld Z h a "java/lang/String" "coder" "B" (.int (0 : Int32)) ∧ Fld Z h a "java/lang/String" "value" "[B" (.ref t) ∧ AV Z h t .byte k (fun j => .int (g j))
set_option maxRecDepth 65536 in
set_option maxHeartbeats 40000000 in
theorem rm_suB (l : Launch) (Z : State) (a0 : Array Value) (hw : ∀ d ∈ tables_1, d.before a0 Z = true) (ws : List Jvm.Cond) (a1 : Addr) (p2 : Int32) (p3 : Int32) (k : Nat) (n : Nat) (g : Nat → Int32) (tb : Addr) (cs : Int32) (vf : Value) (h0 : Heap) (n0 : Nat) (Z0 : n0 ≤ h0.size) (hn4 : n ≤ 4) (hk0 : 0 < k) (hkn : k < n) (SC : Sta Z Z.heap "java/lang/String" "COMPACT_STRINGS" "Z" (.int cs)) (OL : Old Z n0 h0) (hcs : ¬ (cs = (0 : Int32))) (SF : Sta Z Z.heap "jdk/internal/util/Preconditions" "SIOOBE_FORMATTER" "Ljava/util/function/BiFunction;" vf) (hvf : vf.isRef = true) (E1 : Exa Z h0 a1 "java/lang/String") (Fc : Fld Z h0 a1 "java/lang/String" "coder" "B" (.int (0 : Int32))) (Fv : Fld Z h0 a1 "java/lang/String" "value" "[B" (.ref tb)) (VA : AV Z h0 tb .byte n (fun j => .int (g j))) (hp2 : p2 = (0 : Int32)) (hp3 : p3 = (k : Nat).toInt32) :
    MetFree l (⟨"java/lang/String", "substring", "(II)Ljava/lang/String;"⟩ : MethodName) (head1 (Jvm.Cond.code (⟨"java/lang/String", "substring", "(II)Ljava/lang/String;"⟩ : MethodName) jdk_42_method_92_code 5 (some (.object "java/lang/String")) :: ws) ({ frames := 4, cells := 2, slots := 8, locals := 86 } : Room)) (fun a U => a = #[(.ref a1), (.int p2), (.int p3)] ∧ Z.Warmed39 U.vm ∧ U.heap = h0) (fun _ _ _ _ _ => True) (fun _ U oC U' => ∃ v L, oC = .returned v ∧ Q_rm_suB Z a1 p2 p3 k n g tb cs vf h0 n0 v U'.heap L ∧ FrameEnd U oC U' L ({ frames := 4, cells := 2, slots := 8, locals := 86 } : Room).cells ({ frames := 4, cells := 2, slots := 8, locals := 86 } : Room).slots) := by
  refine MetFree.of_bodySF (plainFor_of_name pn_0) hisR ?_
  intro p e s m args below meth c s₁ Bd hml0 hP hK
  obtain ⟨rfl, hZ, hh⟩ := hP
  have hx := Bd.exec
  have hby := Bd.bytes
  have hml : c.maxLocals = 5 := hml0
  have hown : s.vm.findClass "java/lang/String" = some m.cls := findClass_of_methodNamed Bd.named
  have hnm := (name_of_methodNamed Bd.named Bd.method).1
  have X0 : Stand p l e ({ frames := 4, cells := 2, slots := 8, locals := 86 } : Room) s m #[(.ref a1), (.int p2), (.int p3)] below meth c s₁ [] 0 0 := Stand.of_body Bd
  have e0 : s₁.heap = h0 := by rw [← hh, Bd.state]; rfl
  have N0 := Fr.nil n0
  have pre0 : ∀ tg, Steps p.tables e below (s₁.setTop (mkF m 0 #[vR a1, vI p2, vI p3, .unset, .unset] [])) tg → Steps p.tables e below (s₁.setTop (entryFrame m #[(.ref a1), (.int p2), (.int p3)] 5)) tg := fun t k => castTop (ef_rm_suB m a1 p2 p3) k
  have pre00 : ∀ tg, Steps p.tables e below (s₁.setTop (mkF m 0 #[vR a1, vI p2, vI p3, .unset, .unset] [])) tg → Steps p.tables e below (s₁.setTop (mkF m 0 #[vR a1, vI p2, vI p3, .unset, .unset] [])) tg := fun _ k => k
  obtain ⟨k1, k2, k3, k4, k5, k6, k7, k8, k9⟩ := own_kf hn4 hk0 hkn
  have R363 : ∀ tg, Steps p.tables e below (s₁.setTop (mkF m 0 #[vR a1, vI (0 : Int32), vI (k : Nat).toInt32, .unset, .unset] [])) tg → Steps p.tables e below (s₁.setTop (mkF m 0 #[vR a1, vI p2, vI p3, .unset, .unset] [])) tg := by intro tg kt; refine pre00 tg ?_; rw [hp2, hp3]; exact kt
  have R364 : ∀ tg, Steps p.tables e below (s₁.setTop (mkF m 1 #[vR a1, vI (0 : Int32), vI (k : Nat).toInt32, .unset, .unset] [(.ref a1)])) tg → Steps p.tables e below (s₁.setTop (mkF m 0 #[vR a1, vI p2, vI p3, .unset, .unset] [])) tg := by
    intro tg kt
    refine R363 _ ?_
    show Steps p.tables e below (s₁.setTop (mkF m 0 #[vR a1, vI (0 : Int32), vI (k : Nat).toInt32, .unset, .unset] [])) _
    refine XS.aloadN X0.here hx rfl (hb hby d21_0) rfl rfl ?_
    exact kt
  clear R363
  obtain ⟨cq365, kq365, q365a, q365b, q365c⟩ := isOf hZ e0 E1
  obtain ⟨_, _, ⟨T365, L365, k365, n365⟩, -, X365, ⟨Lc365, hQ365, l365, y365, z365⟩, st365⟩ := X0.virtualBack hx (y := (⟨"java/lang/String", "length", "()I"⟩ : MethodName)) (z := (⟨"java/lang/String", "length", "()I"⟩ : MethodName)) hown (mvT hZ (hw _ (List.mem_of_getElem? (i := 73) rfl))) (mvT hZ (hw _ (List.mem_of_getElem? (i := 74) rfl))) (notFace_of_selects (args := #[]) (mvT hZ (hw _ (List.mem_of_getElem? (i := 76) rfl)))) (mvT hZ (hw _ (List.mem_of_getElem? (i := 76) rfl))) (mvT hZ (hw _ (List.mem_of_getElem? (i := 75) rfl))) (by decide) (backOf (W := 0) (rm_len l Z a0 hw [] a1 tb n g cs h0 n0 Z0 SC OL hcs E1 Fc Fv VA) hZ (hw _ (List.mem_of_getElem? (i := 77) rfl)) (hw _ (List.mem_of_getElem? (i := 8) rfl)) (by decide) (by decide)) q365a q365c (g := (mkF m 1 #[vR a1, vI (0 : Int32), vI (k : Nat).toInt32, .unset, .unset] [(.ref a1)])) rfl (by rw [hml]; rfl) (Steps.refl _) (argsL := []) (rest := []) (lenOf pd_13 rfl) rfl (by show 2 * 0 + _ ≤ _; exact Nat.le_of_eq rfl) (hb hby d21_1) (fun _ _ => ⟨rfl, e0, (by decide : 0 + 0 ≤ _), (by decide : 0 + 0 ≤ _)⟩)
  dsimp only [Pt.U, Pt.locs, Pt.cells, Pt.slots] at X365 l365 y365 z365 st365 hQ365
  rw [l365, y365, z365] at X365
  obtain ⟨rfl, N365q, hh365⟩ := hQ365
  have N365 := Fr.app N0 N365q
  have R366 : ∀ tg, Steps p.tables e below (T365.setTop (mkF m 8 #[vR a1, vI (0 : Int32), vI (k : Nat).toInt32, vI (n : Nat).toInt32, .unset] [(.int (n : Nat).toInt32), (.int (k : Nat).toInt32), (.int (0 : Int32))])) tg → Steps p.tables e below (s₁.setTop (mkF m 0 #[vR a1, vI p2, vI p3, .unset, .unset] [])) tg := by
    intro tg kt
    refine R364 _ ?_
    refine st365.trans ?_
    show Steps p.tables e below (T365.setTop (mkF m 4 #[vR a1, vI (0 : Int32), vI (k : Nat).toInt32, .unset, .unset] [(.int (n : Nat).toInt32)])) _
    refine XS.istoreN X365.here hx rfl (hb hby d21_4) rfl (l' := #[vR a1, vI (0 : Int32), vI (k : Nat).toInt32, vI (n : Nat).toInt32, .unset]) rfl ?_
    refine XS.iloadN X365.here hx rfl (hb hby d21_5) rfl ?_
    refine XS.iloadN X365.here hx rfl (hb hby d21_6) rfl ?_
    show Steps p.tables e below (T365.setTop (mkF m 7 #[vR a1, vI (0 : Int32), vI (k : Nat).toInt32, vI (n : Nat).toInt32, .unset] [(.int (k : Nat).toInt32), (.int (0 : Int32))])) _
    refine XS.iloadN X365.here hx rfl (hb hby d21_7) rfl ?_
    exact kt
  clear R364 st365
  obtain ⟨_, _, ⟨T367, L367, k367, n367⟩, -, X367, ⟨Lc367, hQ367, l367, y367, z367⟩, st367⟩ := Jvm.LawKit.callS X365 hx (y := (⟨"java/lang/String", "checkBoundsBeginEnd", "(III)V"⟩ : MethodName)) hown (mvT hZ (hw _ (List.mem_of_getElem? (i := 105) rfl))) (mvT hZ (hw _ (List.mem_of_getElem? (i := 106) rfl))) (mvT hZ (hw _ (List.mem_of_getElem? (i := 8) rfl))) (mvT hZ (hw _ (List.mem_of_getElem? (i := 107) rfl))) (by decide) (backOf (W := 0) (rm_cbe l Z a0 hw [] (0 : Int32) (k : Nat).toInt32 (n : Nat).toInt32 vf h0 n0 Z0 SF OL hvf (by decide) k7 k5) hZ (hw _ (List.mem_of_getElem? (i := 107) rfl)) (hw _ (List.mem_of_getElem? (i := 8) rfl)) (by decide) (by decide)) (g := (mkF m 8 #[vR a1, vI (0 : Int32), vI (k : Nat).toInt32, vI (n : Nat).toInt32, .unset] [(.int (n : Nat).toInt32), (.int (k : Nat).toInt32), (.int (0 : Int32))])) rfl (by rw [hml]; rfl) (argsL := [(.int (0 : Int32)), (.int (k : Nat).toInt32), (.int (n : Nat).toInt32)]) (rest := []) (lenOf pd_17 rfl) rfl (by show 2 * 0 + _ ≤ _; exact Nat.le_of_eq rfl) (hb hby d21_8) (fun _ _ => ⟨rfl, hh365, (by decide : 0 + 0 ≤ _), (by decide : 0 + 0 ≤ _)⟩)
  dsimp only [Pt.U, Pt.locs, Pt.cells, Pt.slots] at X367 l367 y367 z367 st367 hQ367
  rw [l367, y367, z367] at X367
  obtain ⟨rfl, N367q, hh367⟩ := hQ367
  have N367 := Fr.app N365 N367q
  have R368 : ∀ tg, Steps p.tables e below (T367.setTop (mkF m 25 #[vR a1, vI (0 : Int32), vI (k : Nat).toInt32, vI (n : Nat).toInt32, .unset] [(.int ((k : Nat).toInt32 - (0 : Int32)))])) tg → Steps p.tables e below (s₁.setTop (mkF m 0 #[vR a1, vI p2, vI p3, .unset, .unset] [])) tg := by
    intro tg kt
    refine R366 _ ?_
    refine st367 _ ?_
    refine XS.iloadN X367.here hx rfl (hb hby d21_11) rfl ?_
    show Steps p.tables e below (T367.setTop (mkF m 12 #[vR a1, vI (0 : Int32), vI (k : Nat).toInt32, vI (n : Nat).toInt32, .unset] [(.int (0 : Int32))])) _
    refine XS.ifNo X367.here hx rfl (hb hby d21_12) rfl ((if0 _ _).trans (teq (rfl : (0 : Int32) = (0 : Int32))).2) ?_
    refine XS.iloadN X367.here hx rfl (hb hby d21_15) rfl ?_
    refine XS.iloadN X367.here hx rfl (hb hby d21_16) rfl ?_
    show Steps p.tables e below (T367.setTop (mkF m 17 #[vR a1, vI (0 : Int32), vI (k : Nat).toInt32, vI (n : Nat).toInt32, .unset] [(.int (n : Nat).toInt32), (.int (k : Nat).toInt32)])) _
    refine XS.icmpYes X367.here hx rfl (pc0 := 17) (pc' := 22) rfl (hb hby d21_17) rfl (feq (k3 : ¬ ((k : Nat).toInt32 = (n : Nat).toInt32))).2 (by decide) (by decide) ?_
    refine XS.iloadN X367.here hx rfl (hb hby d21_22) rfl ?_
    refine XS.iloadN X367.here hx rfl (hb hby d21_23) rfl ?_
    show Steps p.tables e below (T367.setTop (mkF m 24 #[vR a1, vI (0 : Int32), vI (k : Nat).toInt32, vI (n : Nat).toInt32, .unset] [(.int (0 : Int32)), (.int (k : Nat).toInt32)])) _
    refine XS.isub X367.here hx rfl (hb hby d21_24) rfl ?_
    exact kt
  clear R366 st367
  have R369 : ∀ tg, Steps p.tables e below (T367.setTop (mkF m 25 #[vR a1, vI (0 : Int32), vI (k : Nat).toInt32, vI (n : Nat).toInt32, .unset] [(.int (k : Nat).toInt32)])) tg → Steps p.tables e below (s₁.setTop (mkF m 0 #[vR a1, vI p2, vI p3, .unset, .unset] [])) tg := by intro tg kt; refine R368 tg ?_; rw [own_sub0]; exact kt
  have R370 : ∀ tg, Steps p.tables e below (T367.setTop (mkF m 28 #[vR a1, vI (0 : Int32), vI (k : Nat).toInt32, vI (n : Nat).toInt32, vI (k : Nat).toInt32] [(.ref a1)])) tg → Steps p.tables e below (s₁.setTop (mkF m 0 #[vR a1, vI p2, vI p3, .unset, .unset] [])) tg := by
    intro tg kt
    refine R369 _ ?_
    show Steps p.tables e below (T367.setTop (mkF m 25 #[vR a1, vI (0 : Int32), vI (k : Nat).toInt32, vI (n : Nat).toInt32, .unset] [(.int (k : Nat).toInt32)])) _
    refine XS.istore X367.here hx rfl (hb hby d21_25) rfl (l' := #[vR a1, vI (0 : Int32), vI (k : Nat).toInt32, vI (n : Nat).toInt32, vI (k : Nat).toInt32]) rfl ?_
    refine XS.aloadN X367.here hx rfl (hb hby d21_27) rfl rfl ?_
    exact kt
  clear R369
  obtain ⟨cq371, kq371, q371a, q371b, q371c⟩ := isOf hZ hh367 E1
  obtain ⟨_, _, ⟨T371, L371, k371, n371⟩, -, X371, ⟨Lc371, hQ371, l371, y371, z371⟩, st371⟩ := X367.virtualBack hx (y := (⟨"java/lang/String", "isLatin1", "()Z"⟩ : MethodName)) (z := (⟨"java/lang/String", "isLatin1", "()Z"⟩ : MethodName)) hown (mvT hZ (hw _ (List.mem_of_getElem? (i := 68) rfl))) (mvT hZ (hw _ (List.mem_of_getElem? (i := 69) rfl))) (notFace_of_selects (args := #[]) (mvT hZ (hw _ (List.mem_of_getElem? (i := 71) rfl)))) (mvT hZ (hw _ (List.mem_of_getElem? (i := 71) rfl))) (mvT hZ (hw _ (List.mem_of_getElem? (i := 70) rfl))) (by decide) (backOf (W := 0) (rm_lat l Z a0 hw [] a1 cs h0 n0 Z0 SC OL hcs Fc) hZ (hw _ (List.mem_of_getElem? (i := 72) rfl)) (hw _ (List.mem_of_getElem? (i := 8) rfl)) (by decide) (by decide)) q371a q371c (g := (mkF m 28 #[vR a1, vI (0 : Int32), vI (k : Nat).toInt32, vI (n : Nat).toInt32, vI (k : Nat).toInt32] [(.ref a1)])) rfl (by rw [hml]; rfl) (Steps.refl _) (argsL := []) (rest := []) (lenOf pd_2 rfl) rfl (by show 2 * 0 + _ ≤ _; exact Nat.le_of_eq rfl) (hb hby d21_28) (fun _ _ => ⟨rfl, hh367, (by decide : 0 + 0 ≤ _), (by decide : 0 + 0 ≤ _)⟩)
  dsimp only [Pt.U, Pt.locs, Pt.cells, Pt.slots] at X371 l371 y371 z371 st371 hQ371
  rw [l371, y371, z371] at X371
  obtain ⟨rfl, N371q, hh371⟩ := hQ371
  have N371 := Fr.app N367 N371q
  have R372 : ∀ tg, Steps p.tables e below (T371.setTop (mkF m 35 #[vR a1, vI (0 : Int32), vI (k : Nat).toInt32, vI (n : Nat).toInt32, vI (k : Nat).toInt32] [(.ref a1)])) tg → Steps p.tables e below (s₁.setTop (mkF m 0 #[vR a1, vI p2, vI p3, .unset, .unset] [])) tg := by
    intro tg kt
    refine R370 _ ?_
    refine st371.trans ?_
    show Steps p.tables e below (T371.setTop (mkF m 31 #[vR a1, vI (0 : Int32), vI (k : Nat).toInt32, vI (n : Nat).toInt32, vI (k : Nat).toInt32] [(.int (1 : Int32))])) _
    refine XS.ifNo X371.here hx rfl (hb hby d21_31) rfl ((if0 _ _).trans (feq (by decide : ¬ ((1 : Int32) = (0 : Int32)))).1) ?_
    refine XS.aloadN X371.here hx rfl (hb hby d21_34) rfl rfl ?_
    exact kt
  clear R370 st371
  obtain ⟨T373, X373, e373, st373⟩ := getF X371 hx hZ hown (host := "") (Or.inl (hw _ (List.mem_of_getElem? (i := 33) rfl))) Via.refl hh371 Fv (g := (mkF m 35 #[vR a1, vI (0 : Int32), vI (k : Nat).toInt32, vI (n : Nat).toInt32, vI (k : Nat).toInt32] [(.ref a1)])) rfl rfl (hb hby d21_35)
  have R374 : ∀ tg, Steps p.tables e below (T373.setTop (mkF m 41 #[vR a1, vI (0 : Int32), vI (k : Nat).toInt32, vI (n : Nat).toInt32, vI (k : Nat).toInt32] [(.int (k : Nat).toInt32), (.int (0 : Int32)), (.ref tb)])) tg → Steps p.tables e below (s₁.setTop (mkF m 0 #[vR a1, vI p2, vI p3, .unset, .unset] [])) tg := by
    intro tg kt
    refine R372 _ ?_
    refine st373 _ ?_
    refine XS.iloadN X373.here hx rfl (hb hby d21_38) rfl ?_
    show Steps p.tables e below (T373.setTop (mkF m 39 #[vR a1, vI (0 : Int32), vI (k : Nat).toInt32, vI (n : Nat).toInt32, vI (k : Nat).toInt32] [(.int (0 : Int32)), (.ref tb)])) _
    refine XS.iload X373.here hx rfl (hb hby d21_39) rfl ?_
    exact kt
  clear R372 st373
  obtain ⟨_, _, ⟨T375, L375, k375, n375⟩, -, X375, ⟨Lc375, hQ375, l375, y375, z375⟩, st375⟩ := Jvm.LawKit.callS X373 hx (y := (⟨"java/lang/StringLatin1", "newString", "([BII)Ljava/lang/String;"⟩ : MethodName)) hown (mvT hZ (hw _ (List.mem_of_getElem? (i := 113) rfl))) (mvT hZ (hw _ (List.mem_of_getElem? (i := 114) rfl))) (mvT hZ (hw _ (List.mem_of_getElem? (i := 85) rfl))) (mvT hZ (hw _ (List.mem_of_getElem? (i := 115) rfl))) (by decide) (backOf (W := 0) (rm_nsB l Z a0 hw [] tb (0 : Int32) (k : Nat).toInt32 k n g h0 n0 Z0 hn4 hk0 hkn VA rfl rfl) hZ (hw _ (List.mem_of_getElem? (i := 115) rfl)) (hw _ (List.mem_of_getElem? (i := 85) rfl)) (by decide) (by decide)) (g := (mkF m 41 #[vR a1, vI (0 : Int32), vI (k : Nat).toInt32, vI (n : Nat).toInt32, vI (k : Nat).toInt32] [(.int (k : Nat).toInt32), (.int (0 : Int32)), (.ref tb)])) rfl (by rw [hml]; rfl) (argsL := [(.ref tb), (.int (0 : Int32)), (.int (k : Nat).toInt32)]) (rest := []) (lenOf pd_18 rfl) rfl (by show 2 * 0 + _ ≤ _; exact Nat.le_of_eq rfl) (hb hby d21_41) (fun _ _ => ⟨rfl, e373, (by decide : 0 + 2 ≤ _), (by decide : 0 + 8 ≤ _)⟩)
  dsimp only [Pt.U, Pt.locs, Pt.cells, Pt.slots] at X375 l375 y375 z375 st375 hQ375
  rw [l375, y375, z375] at X375
  obtain ⟨aa, t, rfl, N375q, K375, E2, Fc2, Fv2, V2⟩ := hQ375
  have N375 := Fr.app N371 N375q
  have R376 : ∀ tg, Steps p.tables e below (T375.setTop (mkF m 57 #[vR a1, vI (0 : Int32), vI (k : Nat).toInt32, vI (n : Nat).toInt32, vI (k : Nat).toInt32] [(.ref aa)])) tg → Steps p.tables e below (s₁.setTop (mkF m 0 #[vR a1, vI p2, vI p3, .unset, .unset] [])) tg := by
    intro tg kt
    refine R374 _ ?_
    refine st375 _ ?_
    show Steps p.tables e below (T375.setTop (mkF m 44 #[vR a1, vI (0 : Int32), vI (k : Nat).toInt32, vI (n : Nat).toInt32, vI (k : Nat).toInt32] [(.ref aa)])) _
    refine XS.goto X375.here hx rfl (pc0 := 44) (pc' := 57) rfl (hb hby d21_44) (by decide) (by decide) ?_
    exact kt
  clear R374 st375
  obtain ⟨fs, hr, hrun, hended, hW, hsame⟩ := X375.leave (v := some (.ref aa)) (fun h => by rw [Bd.returns] at h; cases h)
  refine ⟨_, _, pre0 _ (R376 _ ?_), hrun, hended, _, _, rfl, ?_, ⟨_, rfl⟩, hW, hsame.mono (by decide) (by decide)⟩
  · show Steps p.tables e below (T375.setTop (mkF m 57 #[vR a1, vI (0 : Int32), vI (k : Nat).toInt32, vI (n : Nat).toInt32, vI (k : Nat).toInt32] [(.ref aa)])) _
    jvm_step X375.here [X375.here.top, hx, (hb hby d21_57), X375.method', Bd.returns, Value.isRef, FieldType.isReference]
    first | (intro acts; rw [hr _ acts rfl rfl rfl]) | rw [hr _ _ rfl rfl rfl]
    exact Steps.refl _
  · show Q_rm_suB Z a1 p2 p3 k n g tb cs vf h0 n0 _ T375.heap _
    exact ⟨aa, t, rfl, N375, K375, E2, Fc2, Fv2, V2⟩
theorem ef_rm_suC (m : MethodId) (a1 : Addr) (p2 : Int32) (p3 : Int32) : entryFrame m #[(.ref a1), (.int p2), (.int p3)] 5 = mkF m 0 #[vR a1, vI p2, vI p3, .unset, .unset] [] := by first | (simp [entryFrame, mkF, argsToLocals, Value.category]; done) | rfl
def Q_rm_suC (Z : State) (a1 : Addr) (p2 : Int32) (p3 : Int32) (n : Nat) (g : Nat → Int32) (tb : Addr) (cs : Int32) (vf : Value) (h0 : Heap) (n0 : Nat) (v : Option Value) (h : Heap) (L : List Loc) : Prop := ∃ a t : Addr, v = some (.ref a) ∧ Fr n0 L ∧ Keep h0 h [] ∧ Exa Z h a "java/lang/String" ∧ Fld Z h a "java/lang/String" "coder" "B" (.int (0 : Int32)) ∧ Fld Z h a "java/lang/String" "value" "[B" (.ref t) ∧ AV Z h t .byte 0 (fun j => .int ((fun j => ([] : List Int32).getD j 0) j))
set_option maxRecDepth 65536 in
set_option maxHeartbeats 40000000 in
theorem rm_suC (l : Launch) (Z : State) (a0 : Array Value) (hw : ∀ d ∈ tables_1, d.before a0 Z = true) (ws : List Jvm.Cond) (a1 : Addr) (p2 : Int32) (p3 : Int32) (n : Nat) (g : Nat → Int32) (tb : Addr) (cs : Int32) (vf : Value) (h0 : Heap) (n0 : Nat) (Z0 : n0 ≤ h0.size) (hn : n = 1 ∨ n = 2 ∨ n = 3 ∨ n = 4) (SC : Sta Z Z.heap "java/lang/String" "COMPACT_STRINGS" "Z" (.int cs)) (OL : Old Z n0 h0) (hcs : ¬ (cs = (0 : Int32))) (SF : Sta Z Z.heap "jdk/internal/util/Preconditions" "SIOOBE_FORMATTER" "Ljava/util/function/BiFunction;" vf) (hvf : vf.isRef = true) (E1 : Exa Z h0 a1 "java/lang/String") (Fc : Fld Z h0 a1 "java/lang/String" "coder" "B" (.int (0 : Int32))) (Fv : Fld Z h0 a1 "java/lang/String" "value" "[B" (.ref tb)) (VA : AV Z h0 tb .byte n (fun j => .int (g j))) (hp2 : p2 = (0 : Int32)) (hp3 : p3 = (0 : Int32)) (hc151 : Jvm.Lit.constHeld Z "java/lang/StringLatin1" 151) (hcw : Jvm.Lit.compactW.before a0 Z = true) :
    MetFree l (⟨"java/lang/String", "substring", "(II)Ljava/lang/String;"⟩ : MethodName) (head1 (Jvm.Cond.code (⟨"java/lang/String", "substring", "(II)Ljava/lang/String;"⟩ : MethodName) jdk_42_method_92_code 5 (some (.object "java/lang/String")) :: ws) ({ frames := 2, cells := 2, slots := 4, locals := 29 } : Room)) (fun a U => a = #[(.ref a1), (.int p2), (.int p3)] ∧ Z.Warmed39 U.vm ∧ U.heap = h0 ∧ IB Z U.vm []) (fun _ _ _ _ _ => True) (fun _ U oC U' => ∃ v L, oC = .returned v ∧ Q_rm_suC Z a1 p2 p3 n g tb cs vf h0 n0 v U'.heap L ∧ ReturnedEndW U oC U' L ({ frames := 2, cells := 2, slots := 4, locals := 29 } : Room).cells ({ frames := 2, cells := 2, slots := 4, locals := 29 } : Room).slots) := by
  refine MetFree.of_bodySF (plainFor_of_name pn_0) hisR ?_
  intro p e s m args below meth c s₁ Bd hml0 hP hK
  obtain ⟨rfl, hZ, hh, hI⟩ := hP
  have hS0 : s.Since s.vm 0 := State.WarmedH.since (State.WarmedH.refl s) 0
  have hk0 : 0 ≤ h0.size := Nat.zero_le _
  have hkeep : ∀ (b : Addr) (cl : Cell), Z.heap[b]? = some cl → s.heap[b]? = some cl := by rw [hh]; exact OL.2.2
  have hx := Bd.exec
  have hby := Bd.bytes
  have hml : c.maxLocals = 5 := hml0
  have hown : s.vm.findClass "java/lang/String" = some m.cls := findClass_of_methodNamed Bd.named
  have hnm := (name_of_methodNamed Bd.named Bd.method).1
  have X0 : Stand p l e ({ frames := 2, cells := 2, slots := 4, locals := 29 } : Room) s m #[(.ref a1), (.int p2), (.int p3)] below meth c s₁ [] 0 0 := Stand.of_body Bd
  have e0 : s₁.heap = h0 := by rw [← hh, Bd.state]; rfl
  have N0 := Fr.nil n0
  have pre0 : ∀ tg, Steps p.tables e below (s₁.setTop (mkF m 0 #[vR a1, vI p2, vI p3, .unset, .unset] [])) tg → Steps p.tables e below (s₁.setTop (entryFrame m #[(.ref a1), (.int p2), (.int p3)] 5)) tg := fun t k => castTop (ef_rm_suC m a1 p2 p3) k
  have pre00 : ∀ tg, Steps p.tables e below (s₁.setTop (mkF m 0 #[vR a1, vI p2, vI p3, .unset, .unset] [])) tg → Steps p.tables e below (s₁.setTop (mkF m 0 #[vR a1, vI p2, vI p3, .unset, .unset] [])) tg := fun _ k => k
  obtain ⟨pz, pl⟩ := own_pos hn
  have R377 : ∀ tg, Steps p.tables e below (s₁.setTop (mkF m 0 #[vR a1, vI (0 : Int32), vI (0 : Int32), .unset, .unset] [])) tg → Steps p.tables e below (s₁.setTop (mkF m 0 #[vR a1, vI p2, vI p3, .unset, .unset] [])) tg := by intro tg kt; refine pre00 tg ?_; rw [hp2, hp3]; exact kt
  have R378 : ∀ tg, Steps p.tables e below (s₁.setTop (mkF m 1 #[vR a1, vI (0 : Int32), vI (0 : Int32), .unset, .unset] [(.ref a1)])) tg → Steps p.tables e below (s₁.setTop (mkF m 0 #[vR a1, vI p2, vI p3, .unset, .unset] [])) tg := by
    intro tg kt
    refine R377 _ ?_
    show Steps p.tables e below (s₁.setTop (mkF m 0 #[vR a1, vI (0 : Int32), vI (0 : Int32), .unset, .unset] [])) _
    refine XS.aloadN X0.here hx rfl (hb hby d21_0) rfl rfl ?_
    exact kt
  clear R377
  obtain ⟨cq379, kq379, q379a, q379b, q379c⟩ := isOf hZ e0 E1
  obtain ⟨_, _, ⟨T379, L379, k379, n379⟩, -, X379, ⟨Lc379, hQ379, l379, y379, z379⟩, st379⟩ := X0.virtualBack hx (y := (⟨"java/lang/String", "length", "()I"⟩ : MethodName)) (z := (⟨"java/lang/String", "length", "()I"⟩ : MethodName)) hown (mvT hZ (hw _ (List.mem_of_getElem? (i := 73) rfl))) (mvT hZ (hw _ (List.mem_of_getElem? (i := 74) rfl))) (notFace_of_selects (args := #[]) (mvT hZ (hw _ (List.mem_of_getElem? (i := 76) rfl)))) (mvT hZ (hw _ (List.mem_of_getElem? (i := 76) rfl))) (mvT hZ (hw _ (List.mem_of_getElem? (i := 75) rfl))) (by decide) (backOf (W := 0) (rm_len l Z a0 hw [] a1 tb n g cs h0 n0 Z0 SC OL hcs E1 Fc Fv VA) hZ (hw _ (List.mem_of_getElem? (i := 77) rfl)) (hw _ (List.mem_of_getElem? (i := 8) rfl)) (by decide) (by decide)) q379a q379c (g := (mkF m 1 #[vR a1, vI (0 : Int32), vI (0 : Int32), .unset, .unset] [(.ref a1)])) rfl (by rw [hml]; rfl) (Steps.refl _) (argsL := []) (rest := []) (lenOf pd_13 rfl) rfl (by show 2 * 0 + _ ≤ _; exact Nat.le_of_eq rfl) (hb hby d21_1) (fun _ _ => ⟨rfl, e0, (by decide : 0 + 0 ≤ _), (by decide : 0 + 0 ≤ _)⟩)
  dsimp only [Pt.U, Pt.locs, Pt.cells, Pt.slots] at X379 l379 y379 z379 st379 hQ379
  rw [l379, y379, z379] at X379
  obtain ⟨rfl, N379q, hh379⟩ := hQ379
  have N379 := Fr.app N0 N379q
  have R380 : ∀ tg, Steps p.tables e below (T379.setTop (mkF m 8 #[vR a1, vI (0 : Int32), vI (0 : Int32), vI (n : Nat).toInt32, .unset] [(.int (n : Nat).toInt32), (.int (0 : Int32)), (.int (0 : Int32))])) tg → Steps p.tables e below (s₁.setTop (mkF m 0 #[vR a1, vI p2, vI p3, .unset, .unset] [])) tg := by
    intro tg kt
    refine R378 _ ?_
    refine st379.trans ?_
    show Steps p.tables e below (T379.setTop (mkF m 4 #[vR a1, vI (0 : Int32), vI (0 : Int32), .unset, .unset] [(.int (n : Nat).toInt32)])) _
    refine XS.istoreN X379.here hx rfl (hb hby d21_4) rfl (l' := #[vR a1, vI (0 : Int32), vI (0 : Int32), vI (n : Nat).toInt32, .unset]) rfl ?_
    refine XS.iloadN X379.here hx rfl (hb hby d21_5) rfl ?_
    refine XS.iloadN X379.here hx rfl (hb hby d21_6) rfl ?_
    show Steps p.tables e below (T379.setTop (mkF m 7 #[vR a1, vI (0 : Int32), vI (0 : Int32), vI (n : Nat).toInt32, .unset] [(.int (0 : Int32)), (.int (0 : Int32))])) _
    refine XS.iloadN X379.here hx rfl (hb hby d21_7) rfl ?_
    exact kt
  clear R378 st379
  obtain ⟨_, _, ⟨T381, L381, k381, n381⟩, -, X381, ⟨Lc381, hQ381, l381, y381, z381⟩, st381⟩ := Jvm.LawKit.callS X379 hx (y := (⟨"java/lang/String", "checkBoundsBeginEnd", "(III)V"⟩ : MethodName)) hown (mvT hZ (hw _ (List.mem_of_getElem? (i := 105) rfl))) (mvT hZ (hw _ (List.mem_of_getElem? (i := 106) rfl))) (mvT hZ (hw _ (List.mem_of_getElem? (i := 8) rfl))) (mvT hZ (hw _ (List.mem_of_getElem? (i := 107) rfl))) (by decide) (backOf (W := 0) (rm_cbe l Z a0 hw [] (0 : Int32) (0 : Int32) (n : Nat).toInt32 vf h0 n0 Z0 SF OL hvf (by decide) (by decide) pl) hZ (hw _ (List.mem_of_getElem? (i := 107) rfl)) (hw _ (List.mem_of_getElem? (i := 8) rfl)) (by decide) (by decide)) (g := (mkF m 8 #[vR a1, vI (0 : Int32), vI (0 : Int32), vI (n : Nat).toInt32, .unset] [(.int (n : Nat).toInt32), (.int (0 : Int32)), (.int (0 : Int32))])) rfl (by rw [hml]; rfl) (argsL := [(.int (0 : Int32)), (.int (0 : Int32)), (.int (n : Nat).toInt32)]) (rest := []) (lenOf pd_17 rfl) rfl (by show 2 * 0 + _ ≤ _; exact Nat.le_of_eq rfl) (hb hby d21_8) (fun _ _ => ⟨rfl, hh379, (by decide : 0 + 0 ≤ _), (by decide : 0 + 0 ≤ _)⟩)
  dsimp only [Pt.U, Pt.locs, Pt.cells, Pt.slots] at X381 l381 y381 z381 st381 hQ381
  rw [l381, y381, z381] at X381
  obtain ⟨rfl, N381q, hh381⟩ := hQ381
  have N381 := Fr.app N379 N381q
  have R382 : ∀ tg, Steps p.tables e below (T381.setTop (mkF m 25 #[vR a1, vI (0 : Int32), vI (0 : Int32), vI (n : Nat).toInt32, .unset] [(.int ((0 : Int32) - (0 : Int32)))])) tg → Steps p.tables e below (s₁.setTop (mkF m 0 #[vR a1, vI p2, vI p3, .unset, .unset] [])) tg := by
    intro tg kt
    refine R380 _ ?_
    refine st381 _ ?_
    refine XS.iloadN X381.here hx rfl (hb hby d21_11) rfl ?_
    show Steps p.tables e below (T381.setTop (mkF m 12 #[vR a1, vI (0 : Int32), vI (0 : Int32), vI (n : Nat).toInt32, .unset] [(.int (0 : Int32))])) _
    refine XS.ifNo X381.here hx rfl (hb hby d21_12) rfl ((if0 _ _).trans (teq (rfl : (0 : Int32) = (0 : Int32))).2) ?_
    refine XS.iloadN X381.here hx rfl (hb hby d21_15) rfl ?_
    refine XS.iloadN X381.here hx rfl (hb hby d21_16) rfl ?_
    show Steps p.tables e below (T381.setTop (mkF m 17 #[vR a1, vI (0 : Int32), vI (0 : Int32), vI (n : Nat).toInt32, .unset] [(.int (n : Nat).toInt32), (.int (0 : Int32))])) _
    refine XS.icmpYes X381.here hx rfl (pc0 := 17) (pc' := 22) rfl (hb hby d21_17) rfl (feq (pz : ¬ ((0 : Int32) = (n : Nat).toInt32))).2 (by decide) (by decide) ?_
    refine XS.iloadN X381.here hx rfl (hb hby d21_22) rfl ?_
    refine XS.iloadN X381.here hx rfl (hb hby d21_23) rfl ?_
    show Steps p.tables e below (T381.setTop (mkF m 24 #[vR a1, vI (0 : Int32), vI (0 : Int32), vI (n : Nat).toInt32, .unset] [(.int (0 : Int32)), (.int (0 : Int32))])) _
    refine XS.isub X381.here hx rfl (hb hby d21_24) rfl ?_
    exact kt
  clear R380 st381
  have R383 : ∀ tg, Steps p.tables e below (T381.setTop (mkF m 25 #[vR a1, vI (0 : Int32), vI (0 : Int32), vI (n : Nat).toInt32, .unset] [(.int (0 : Int32))])) tg → Steps p.tables e below (s₁.setTop (mkF m 0 #[vR a1, vI p2, vI p3, .unset, .unset] [])) tg := by intro tg kt; refine R382 tg ?_; rw [own_sub0]; exact kt
  have R384 : ∀ tg, Steps p.tables e below (T381.setTop (mkF m 28 #[vR a1, vI (0 : Int32), vI (0 : Int32), vI (n : Nat).toInt32, vI (0 : Int32)] [(.ref a1)])) tg → Steps p.tables e below (s₁.setTop (mkF m 0 #[vR a1, vI p2, vI p3, .unset, .unset] [])) tg := by
    intro tg kt
    refine R383 _ ?_
    show Steps p.tables e below (T381.setTop (mkF m 25 #[vR a1, vI (0 : Int32), vI (0 : Int32), vI (n : Nat).toInt32, .unset] [(.int (0 : Int32))])) _
    refine XS.istore X381.here hx rfl (hb hby d21_25) rfl (l' := #[vR a1, vI (0 : Int32), vI (0 : Int32), vI (n : Nat).toInt32, vI (0 : Int32)]) rfl ?_
    refine XS.aloadN X381.here hx rfl (hb hby d21_27) rfl rfl ?_
    exact kt
  clear R383
  obtain ⟨cq385, kq385, q385a, q385b, q385c⟩ := isOf hZ hh381 E1
  obtain ⟨_, _, ⟨T385, L385, k385, n385⟩, -, X385, ⟨Lc385, hQ385, l385, y385, z385⟩, st385⟩ := X381.virtualBack hx (y := (⟨"java/lang/String", "isLatin1", "()Z"⟩ : MethodName)) (z := (⟨"java/lang/String", "isLatin1", "()Z"⟩ : MethodName)) hown (mvT hZ (hw _ (List.mem_of_getElem? (i := 68) rfl))) (mvT hZ (hw _ (List.mem_of_getElem? (i := 69) rfl))) (notFace_of_selects (args := #[]) (mvT hZ (hw _ (List.mem_of_getElem? (i := 71) rfl)))) (mvT hZ (hw _ (List.mem_of_getElem? (i := 71) rfl))) (mvT hZ (hw _ (List.mem_of_getElem? (i := 70) rfl))) (by decide) (backOf (W := 0) (rm_lat l Z a0 hw [] a1 cs h0 n0 Z0 SC OL hcs Fc) hZ (hw _ (List.mem_of_getElem? (i := 72) rfl)) (hw _ (List.mem_of_getElem? (i := 8) rfl)) (by decide) (by decide)) q385a q385c (g := (mkF m 28 #[vR a1, vI (0 : Int32), vI (0 : Int32), vI (n : Nat).toInt32, vI (0 : Int32)] [(.ref a1)])) rfl (by rw [hml]; rfl) (Steps.refl _) (argsL := []) (rest := []) (lenOf pd_2 rfl) rfl (by show 2 * 0 + _ ≤ _; exact Nat.le_of_eq rfl) (hb hby d21_28) (fun _ _ => ⟨rfl, hh381, (by decide : 0 + 0 ≤ _), (by decide : 0 + 0 ≤ _)⟩)
  dsimp only [Pt.U, Pt.locs, Pt.cells, Pt.slots] at X385 l385 y385 z385 st385 hQ385
  rw [l385, y385, z385] at X385
  obtain ⟨rfl, N385q, hh385⟩ := hQ385
  have N385 := Fr.app N381 N385q
  have R386 : ∀ tg, Steps p.tables e below (T385.setTop (mkF m 35 #[vR a1, vI (0 : Int32), vI (0 : Int32), vI (n : Nat).toInt32, vI (0 : Int32)] [(.ref a1)])) tg → Steps p.tables e below (s₁.setTop (mkF m 0 #[vR a1, vI p2, vI p3, .unset, .unset] [])) tg := by
    intro tg kt
    refine R384 _ ?_
    refine st385.trans ?_
    show Steps p.tables e below (T385.setTop (mkF m 31 #[vR a1, vI (0 : Int32), vI (0 : Int32), vI (n : Nat).toInt32, vI (0 : Int32)] [(.int (1 : Int32))])) _
    refine XS.ifNo X385.here hx rfl (hb hby d21_31) rfl ((if0 _ _).trans (feq (by decide : ¬ ((1 : Int32) = (0 : Int32)))).1) ?_
    refine XS.aloadN X385.here hx rfl (hb hby d21_34) rfl rfl ?_
    exact kt
  clear R384 st385
  obtain ⟨T387, X387, e387, st387⟩ := getF X385 hx hZ hown (host := "") (Or.inl (hw _ (List.mem_of_getElem? (i := 33) rfl))) Via.refl hh385 Fv (g := (mkF m 35 #[vR a1, vI (0 : Int32), vI (0 : Int32), vI (n : Nat).toInt32, vI (0 : Int32)] [(.ref a1)])) rfl rfl (hb hby d21_35)
  have R388 : ∀ tg, Steps p.tables e below (T387.setTop (mkF m 41 #[vR a1, vI (0 : Int32), vI (0 : Int32), vI (n : Nat).toInt32, vI (0 : Int32)] [(.int (0 : Int32)), (.int (0 : Int32)), (.ref tb)])) tg → Steps p.tables e below (s₁.setTop (mkF m 0 #[vR a1, vI p2, vI p3, .unset, .unset] [])) tg := by
    intro tg kt
    refine R386 _ ?_
    refine st387 _ ?_
    refine XS.iloadN X387.here hx rfl (hb hby d21_38) rfl ?_
    show Steps p.tables e below (T387.setTop (mkF m 39 #[vR a1, vI (0 : Int32), vI (0 : Int32), vI (n : Nat).toInt32, vI (0 : Int32)] [(.int (0 : Int32)), (.ref tb)])) _
    refine XS.iload X387.here hx rfl (hb hby d21_39) rfl ?_
    exact kt
  clear R386 st387
  obtain ⟨_, _, ⟨T389, L389, k389, n389⟩, -, X389, S389, gr389, ⟨Lc389, hQ389, l389, y389, z389⟩, st389⟩ := callSS X387 hx (y := (⟨"java/lang/StringLatin1", "newString", "([BII)Ljava/lang/String;"⟩ : MethodName)) hown (mvT hZ (hw _ (List.mem_of_getElem? (i := 113) rfl))) (mvT hZ (hw _ (List.mem_of_getElem? (i := 114) rfl))) (mvT hZ (hw _ (List.mem_of_getElem? (i := 85) rfl))) (mvT hZ (hw _ (List.mem_of_getElem? (i := 115) rfl))) (by decide) (own_backI (W := 0) (rm_nsC l Z a0 hw [] tb (0 : Int32) (0 : Int32) h0 n0 Z0 rfl OL hc151 hcw) hZ hI (hw _ (List.mem_of_getElem? (i := 115) rfl)) (hw _ (List.mem_of_getElem? (i := 85) rfl)) (by decide) (by decide)) (g := (mkF m 41 #[vR a1, vI (0 : Int32), vI (0 : Int32), vI (n : Nat).toInt32, vI (0 : Int32)] [(.int (0 : Int32)), (.int (0 : Int32)), (.ref tb)])) rfl (by rw [hml]; rfl) (argsL := [(.ref tb), (.int (0 : Int32)), (.int (0 : Int32))]) (rest := []) (lenOf pd_18 rfl) rfl (by show 2 * 0 + _ ≤ _; exact Nat.le_of_eq rfl) (hb hby d21_41) (fun _ _ => ⟨rfl, e387, (by decide : 0 + 2 ≤ _), (by decide : 0 + 4 ≤ _)⟩)
  dsimp only [Pt.U, Pt.locs, Pt.cells, Pt.slots] at X389 S389 gr389 l389 y389 z389 st389 hQ389
  rw [l389, y389, z389] at X389
  have hZ : Z.Warmed39 (s.setVm T389.vm).vm := State.Warmed39.trans hZ S389.1
  have hown : (s.setVm T389.vm).vm.findClass "java/lang/String" = some m.cls := (S389.1.alike.findClass _ _).trans hown
  obtain ⟨aa, t, rfl, N389q, K389, E2, Fc2, Fv2, V2⟩ := hQ389
  have N389 := Fr.app N385 N389q
  have R390 : ∀ tg, Steps p.tables e below (T389.setTop (mkF m 57 #[vR a1, vI (0 : Int32), vI (0 : Int32), vI (n : Nat).toInt32, vI (0 : Int32)] [(.ref aa)])) tg → Steps p.tables e below (s₁.setTop (mkF m 0 #[vR a1, vI p2, vI p3, .unset, .unset] [])) tg := by
    intro tg kt
    refine R388 _ ?_
    refine st389.trans ?_
    show Steps p.tables e below (T389.setTop (mkF m 44 #[vR a1, vI (0 : Int32), vI (0 : Int32), vI (n : Nat).toInt32, vI (0 : Int32)] [(.ref aa)])) _
    refine XS.goto X389.here hx rfl (pc0 := 44) (pc' := 57) rfl (hb hby d21_44) (by decide) (by decide) ?_
    exact kt
  clear R388 st389
  obtain ⟨fs, hr, hrun, hended, hR⟩ := Stand.leaveW (s := s) (vm₁ := T389.vm) X389 S389 (Nat.le_refl T389.heap.size) (v := some (.ref aa)) (fun h => by rw [Bd.returns] at h; cases h)
  refine ⟨_, _, pre0 _ (R390 _ ?_), hrun, hended, _, _, rfl, ?_, hR.1, hR.2.1, hR.2.2.1, hR.2.2.2.mono (by decide) (by decide)⟩
  · show Steps p.tables e below (T389.setTop (mkF m 57 #[vR a1, vI (0 : Int32), vI (0 : Int32), vI (n : Nat).toInt32, vI (0 : Int32)] [(.ref aa)])) _
    jvm_step X389.here [X389.here.top, hx, (hb hby d21_57), X389.method', Bd.returns, Value.isRef, FieldType.isReference]
    first | (intro acts; rw [hr _ acts rfl rfl rfl]) | rw [hr _ _ rfl rfl rfl]
    exact Steps.refl _
  · show Q_rm_suC Z a1 p2 p3 n g tb cs vf h0 n0 _ T389.heap _
    exact ⟨aa, t, rfl, N389, K389, E2, Fc2, Fv2, V2⟩
theorem d10_0 : decode prog_8_method_3_code 0 = .ok (.aload_n 0, 1) := by decide +kernel
theorem d10_1 : decode prog_8_method_3_code 1 = .ok (.getfield 13, 3) := by decide +kernel
theorem d10_4 : decode prog_8_method_3_code 4 = .ok (.bipush 94, 2) := by decide +kernel
theorem pd_19 : parseMethodDescriptor "(I)I" = some ⟨[.int], some .int⟩ := by decide +kernel
theorem d10_6 : decode prog_8_method_3_code 6 = .ok (.invokevirtual 24, 3) := by decide +kernel
theorem d10_9 : decode prog_8_method_3_code 9 = .ok (.istore_n 1, 1) := by decide +kernel
theorem d10_10 : decode prog_8_method_3_code 10 = .ok (.iload_n 1, 1) := by decide +kernel
theorem d10_11 : decode prog_8_method_3_code 11 = .ok (.ifCond .ge 10, 3) := by decide +kernel
theorem d10_14 : decode prog_8_method_3_code 14 = .ok (.aload_n 0, 1) := by decide +kernel
theorem d10_15 : decode prog_8_method_3_code 15 = .ok (.getfield 13, 3) := by decide +kernel
theorem d10_18 : decode prog_8_method_3_code 18 = .ok (.goto 12, 3) := by decide +kernel
theorem d10_30 : decode prog_8_method_3_code 30 = .ok (.areturn, 1) := by decide +kernel
theorem ef_rm_ltA (m : MethodId) (f1 : Addr) : entryFrame m #[(.ref f1)] 2 = mkF m 0 #[vR f1, .unset] [] := by first | (simp [entryFrame, mkF, argsToLocals, Value.category]; done) | rfl
def Q_rm_ltA (Z : State) (f1 : Addr) (a1 : Addr) (tb : Addr) (n : Nat) (g : Nat → Int32) (cs : Int32) (h0 : Heap) (n0 : Nat) (v : Option Value) (h : Heap) (L : List Loc) : Prop := v = some (.ref a1) ∧ Fr n0 L ∧ h = h0
set_option maxRecDepth 65536 in
set_option maxHeartbeats 40000000 in
theorem rm_ltA (l : Launch) (Z : State) (a0 : Array Value) (hw : ∀ d ∈ tables_1, d.before a0 Z = true) (ws : List Jvm.Cond) (f1 : Addr) (a1 : Addr) (tb : Addr) (n : Nat) (g : Nat → Int32) (cs : Int32) (h0 : Heap) (n0 : Nat) (Z0 : n0 ≤ h0.size) (hn : n = 0 ∨ n = 1 ∨ n = 2 ∨ n = 3 ∨ n = 4) (SC : Sta Z Z.heap "java/lang/String" "COMPACT_STRINGS" "Z" (.int cs)) (OL : Old Z n0 h0) (hcs : ¬ (cs = (0 : Int32))) (E1 : Exa Z h0 a1 "java/lang/String") (Fc : Fld Z h0 a1 "java/lang/String" "coder" "B" (.int (0 : Int32))) (Fv : Fld Z h0 a1 "java/lang/String" "value" "[B" (.ref tb)) (VA : AV Z h0 tb .byte n (fun j => .int (g j))) (Ei : Exa Z h0 f1 "com/example/travessia/travessia/isis/IsisField") (Fd : Fld Z h0 f1 "com/example/travessia/travessia/isis/IsisField" "data" "Ljava/lang/String;" (.ref a1)) (hix : own_ix n g = (-1 : Int32)) :
    MetFree l (⟨"com/example/travessia/travessia/isis/IsisField", "leadingText", "()Ljava/lang/String;"⟩ : MethodName) (head1 (Jvm.Cond.code (⟨"com/example/travessia/travessia/isis/IsisField", "leadingText", "()Ljava/lang/String;"⟩ : MethodName) prog_8_method_3_code 2 (some (.object "java/lang/String")) :: ws) ({ frames := 4, cells := 0, slots := 0, locals := 59 } : Room)) (fun a U => a = #[(.ref f1)] ∧ Z.Warmed39 U.vm ∧ U.heap = h0) (fun _ _ _ _ _ => True) (fun _ U oC U' => ∃ v L, oC = .returned v ∧ Q_rm_ltA Z f1 a1 tb n g cs h0 n0 v U'.heap L ∧ FrameEnd U oC U' L ({ frames := 4, cells := 0, slots := 0, locals := 59 } : Room).cells ({ frames := 4, cells := 0, slots := 0, locals := 59 } : Room).slots) := by
  refine MetFree.of_bodySF (plainFor_of_name pn_6) hisR ?_
  intro p e s m args below meth c s₁ Bd hml0 hP hK
  obtain ⟨rfl, hZ, hh⟩ := hP
  have hx := Bd.exec
  have hby := Bd.bytes
  have hml : c.maxLocals = 2 := hml0
  have hown : s.vm.findClass "com/example/travessia/travessia/isis/IsisField" = some m.cls := findClass_of_methodNamed Bd.named
  have hnm := (name_of_methodNamed Bd.named Bd.method).1
  have X0 : Stand p l e ({ frames := 4, cells := 0, slots := 0, locals := 59 } : Room) s m #[(.ref f1)] below meth c s₁ [] 0 0 := Stand.of_body Bd
  have e0 : s₁.heap = h0 := by rw [← hh, Bd.state]; rfl
  have N0 := Fr.nil n0
  have pre0 : ∀ tg, Steps p.tables e below (s₁.setTop (mkF m 0 #[vR f1, .unset] [])) tg → Steps p.tables e below (s₁.setTop (entryFrame m #[(.ref f1)] 2)) tg := fun t k => castTop (ef_rm_ltA m f1) k
  have pre00 : ∀ tg, Steps p.tables e below (s₁.setTop (mkF m 0 #[vR f1, .unset] [])) tg → Steps p.tables e below (s₁.setTop (mkF m 0 #[vR f1, .unset] [])) tg := fun _ k => k
  have R391 : ∀ tg, Steps p.tables e below (s₁.setTop (mkF m 1 #[vR f1, .unset] [(.ref f1)])) tg → Steps p.tables e below (s₁.setTop (mkF m 0 #[vR f1, .unset] [])) tg := by
    intro tg kt
    refine pre00 _ ?_
    show Steps p.tables e below (s₁.setTop (mkF m 0 #[vR f1, .unset] [])) _
    refine XS.aloadN X0.here hx rfl (hb hby d10_0) rfl rfl ?_
    exact kt
  obtain ⟨T392, X392, e392, st392⟩ := getF X0 hx hZ hown (host := "") (Or.inl (hw _ (List.mem_of_getElem? (i := 49) rfl))) Via.refl e0 Fd (g := (mkF m 1 #[vR f1, .unset] [(.ref f1)])) rfl rfl (hb hby d10_1)
  have R393 : ∀ tg, Steps p.tables e below (T392.setTop (mkF m 6 #[vR f1, .unset] [(.int (94 : Int32)), (.ref a1)])) tg → Steps p.tables e below (s₁.setTop (mkF m 0 #[vR f1, .unset] [])) tg := by
    intro tg kt
    refine R391 _ ?_
    refine st392 _ ?_
    refine XS.bipush X392.here hx rfl (hb hby d10_4) ?_
    exact kt
  clear R391 st392
  obtain ⟨cq394, kq394, q394a, q394b, q394c⟩ := isOf hZ e392 E1
  obtain ⟨_, _, ⟨T394, L394, k394, n394⟩, -, X394, ⟨Lc394, hQ394, l394, y394, z394⟩, st394⟩ := X392.virtualBack hx (y := (⟨"java/lang/String", "indexOf", "(I)I"⟩ : MethodName)) (z := (⟨"java/lang/String", "indexOf", "(I)I"⟩ : MethodName)) hown (mvT hZ (hw _ (List.mem_of_getElem? (i := 58) rfl))) (mvT hZ (hw _ (List.mem_of_getElem? (i := 59) rfl))) (notFace_of_selects (args := #[]) (mvT hZ (hw _ (List.mem_of_getElem? (i := 61) rfl)))) (mvT hZ (hw _ (List.mem_of_getElem? (i := 61) rfl))) (mvT hZ (hw _ (List.mem_of_getElem? (i := 60) rfl))) (by decide) (backOf (W := 0) (rm_io1 l Z a0 hw [] a1 (94 : Int32) tb n g cs h0 n0 Z0 hn SC OL hcs E1 Fc Fv VA rfl) hZ (hw _ (List.mem_of_getElem? (i := 62) rfl)) (hw _ (List.mem_of_getElem? (i := 8) rfl)) (by decide) (by decide)) q394a q394c (g := (mkF m 6 #[vR f1, .unset] [(.int (94 : Int32)), (.ref a1)])) rfl (by rw [hml]; rfl) (Steps.refl _) (argsL := [(.int (94 : Int32))]) (rest := []) (lenOf pd_19 rfl) rfl (by show 2 * 0 + _ ≤ _; exact Nat.le_of_eq rfl) (hb hby d10_6) (fun _ _ => ⟨rfl, e392, (by decide : 0 + 0 ≤ _), (by decide : 0 + 0 ≤ _)⟩)
  dsimp only [Pt.U, Pt.locs, Pt.cells, Pt.slots] at X394 l394 y394 z394 st394 hQ394
  rw [l394, y394, z394] at X394
  obtain ⟨rfl, N394q, hh394⟩ := hQ394
  have N394 := Fr.app N0 N394q
  have R395 : ∀ tg, Steps p.tables e below (T394.setTop (mkF m 9 #[vR f1, .unset] [(.int (own_ix n g))])) tg → Steps p.tables e below (s₁.setTop (mkF m 0 #[vR f1, .unset] [])) tg := by
    intro tg kt
    refine R393 _ ?_
    refine st394.trans ?_
    exact kt
  clear R393 st394
  have R396 : ∀ tg, Steps p.tables e below (T394.setTop (mkF m 9 #[vR f1, .unset] [(.int (-1 : Int32))])) tg → Steps p.tables e below (s₁.setTop (mkF m 0 #[vR f1, .unset] [])) tg := by intro tg kt; refine R395 tg ?_; rw [hix]; exact kt
  have R397 : ∀ tg, Steps p.tables e below (T394.setTop (mkF m 15 #[vR f1, vI (-1 : Int32)] [(.ref f1)])) tg → Steps p.tables e below (s₁.setTop (mkF m 0 #[vR f1, .unset] [])) tg := by
    intro tg kt
    refine R396 _ ?_
    show Steps p.tables e below (T394.setTop (mkF m 9 #[vR f1, .unset] [(.int (-1 : Int32))])) _
    refine XS.istoreN X394.here hx rfl (hb hby d10_9) rfl (l' := #[vR f1, vI (-1 : Int32)]) rfl ?_
    refine XS.iloadN X394.here hx rfl (hb hby d10_10) rfl ?_
    show Steps p.tables e below (T394.setTop (mkF m 11 #[vR f1, vI (-1 : Int32)] [(.int (-1 : Int32))])) _
    refine XS.ifNo X394.here hx rfl (hb hby d10_11) rfl ((if0 _ _).trans (tlt (by decide : (-1 : Int32) < (0 : Int32))).2.1) ?_
    refine XS.aloadN X394.here hx rfl (hb hby d10_14) rfl rfl ?_
    exact kt
  clear R396
  obtain ⟨T398, X398, e398, st398⟩ := getF X394 hx hZ hown (host := "") (Or.inl (hw _ (List.mem_of_getElem? (i := 49) rfl))) Via.refl hh394 Fd (g := (mkF m 15 #[vR f1, vI (-1 : Int32)] [(.ref f1)])) rfl rfl (hb hby d10_15)
  have R399 : ∀ tg, Steps p.tables e below (T398.setTop (mkF m 30 #[vR f1, vI (-1 : Int32)] [(.ref a1)])) tg → Steps p.tables e below (s₁.setTop (mkF m 0 #[vR f1, .unset] [])) tg := by
    intro tg kt
    refine R397 _ ?_
    refine st398 _ ?_
    show Steps p.tables e below (T398.setTop (mkF m 18 #[vR f1, vI (-1 : Int32)] [(.ref a1)])) _
    refine XS.goto X398.here hx rfl (pc0 := 18) (pc' := 30) rfl (hb hby d10_18) (by decide) (by decide) ?_
    exact kt
  clear R397 st398
  obtain ⟨fs, hr, hrun, hended, hW, hsame⟩ := X398.leave (v := some (.ref a1)) (fun h => by rw [Bd.returns] at h; cases h)
  refine ⟨_, _, pre0 _ (R399 _ ?_), hrun, hended, _, _, rfl, ?_, ⟨_, rfl⟩, hW, hsame.mono (by decide) (by decide)⟩
  · show Steps p.tables e below (T398.setTop (mkF m 30 #[vR f1, vI (-1 : Int32)] [(.ref a1)])) _
    jvm_step X398.here [X398.here.top, hx, (hb hby d10_30), X398.method', Bd.returns, Value.isRef, FieldType.isReference]
    first | (intro acts; rw [hr _ acts rfl rfl rfl]) | rw [hr _ _ rfl rfl rfl]
    exact Steps.refl _
  · show Q_rm_ltA Z f1 a1 tb n g cs h0 n0 _ T398.heap _
    rw [e398]
    exact ⟨rfl, N394, rfl⟩
theorem d10_21 : decode prog_8_method_3_code 21 = .ok (.aload_n 0, 1) := by decide +kernel
theorem d10_22 : decode prog_8_method_3_code 22 = .ok (.getfield 13, 3) := by decide +kernel
theorem d10_25 : decode prog_8_method_3_code 25 = .ok (.iconst 0, 1) := by decide +kernel
theorem d10_26 : decode prog_8_method_3_code 26 = .ok (.iload_n 1, 1) := by decide +kernel
theorem pd_20 : parseMethodDescriptor "(II)Ljava/lang/String;" = some ⟨[.int, .int], some (.object "java/lang/String")⟩ := by decide +kernel
theorem d10_27 : decode prog_8_method_3_code 27 = .ok (.invokevirtual 30, 3) := by decide +kernel
theorem ef_rm_ltB (m : MethodId) (f1 : Addr) : entryFrame m #[(.ref f1)] 2 = mkF m 0 #[vR f1, .unset] [] := by first | (simp [entryFrame, mkF, argsToLocals, Value.category]; done) | rfl
def Q_rm_ltB (Z : State) (f1 : Addr) (a1 : Addr) (tb : Addr) (k : Nat) (n : Nat) (g : Nat → Int32) (cs : Int32) (vf : Value) (h0 : Heap) (n0 : Nat) (v : Option Value) (h : Heap) (L : List Loc) : Prop := ∃ a t : Addr, v = some (.ref a) ∧ Fr n0 L ∧ Keep h0 h [] ∧ Exa Z h a "java/lang/String" ∧ Fld Z h a "java/lang/String" "coder" "B" (.int (0 : Int32)) ∧ Fld Z h a "java/lang/String" "value" "[B" (.ref t) ∧ AV Z h t .byte k (fun j => .int (g j))
set_option maxRecDepth 65536 in
set_option maxHeartbeats 40000000 in
theorem rm_ltB (l : Launch) (Z : State) (a0 : Array Value) (hw : ∀ d ∈ tables_1, d.before a0 Z = true) (ws : List Jvm.Cond) (f1 : Addr) (a1 : Addr) (tb : Addr) (k : Nat) (n : Nat) (g : Nat → Int32) (cs : Int32) (vf : Value) (h0 : Heap) (n0 : Nat) (Z0 : n0 ≤ h0.size) (hn4 : n ≤ 4) (hk0 : 0 < k) (hkn : k < n) (hn : n = 0 ∨ n = 1 ∨ n = 2 ∨ n = 3 ∨ n = 4) (SC : Sta Z Z.heap "java/lang/String" "COMPACT_STRINGS" "Z" (.int cs)) (OL : Old Z n0 h0) (hcs : ¬ (cs = (0 : Int32))) (SF : Sta Z Z.heap "jdk/internal/util/Preconditions" "SIOOBE_FORMATTER" "Ljava/util/function/BiFunction;" vf) (hvf : vf.isRef = true) (E1 : Exa Z h0 a1 "java/lang/String") (Fc : Fld Z h0 a1 "java/lang/String" "coder" "B" (.int (0 : Int32))) (Fv : Fld Z h0 a1 "java/lang/String" "value" "[B" (.ref tb)) (VA : AV Z h0 tb .byte n (fun j => .int (g j))) (Ei : Exa Z h0 f1 "com/example/travessia/travessia/isis/IsisField") (Fd : Fld Z h0 f1 "com/example/travessia/travessia/isis/IsisField" "data" "Ljava/lang/String;" (.ref a1)) (hix : own_ix n g = (k : Nat).toInt32) :
    MetFree l (⟨"com/example/travessia/travessia/isis/IsisField", "leadingText", "()Ljava/lang/String;"⟩ : MethodName) (head1 (Jvm.Cond.code (⟨"com/example/travessia/travessia/isis/IsisField", "leadingText", "()Ljava/lang/String;"⟩ : MethodName) prog_8_method_3_code 2 (some (.object "java/lang/String")) :: ws) ({ frames := 5, cells := 2, slots := 8, locals := 102 } : Room)) (fun a U => a = #[(.ref f1)] ∧ Z.Warmed39 U.vm ∧ U.heap = h0) (fun _ _ _ _ _ => True) (fun _ U oC U' => ∃ v L, oC = .returned v ∧ Q_rm_ltB Z f1 a1 tb k n g cs vf h0 n0 v U'.heap L ∧ FrameEnd U oC U' L ({ frames := 5, cells := 2, slots := 8, locals := 102 } : Room).cells ({ frames := 5, cells := 2, slots := 8, locals := 102 } : Room).slots) := by
  refine MetFree.of_bodySF (plainFor_of_name pn_6) hisR ?_
  intro p e s m args below meth c s₁ Bd hml0 hP hK
  obtain ⟨rfl, hZ, hh⟩ := hP
  have hx := Bd.exec
  have hby := Bd.bytes
  have hml : c.maxLocals = 2 := hml0
  have hown : s.vm.findClass "com/example/travessia/travessia/isis/IsisField" = some m.cls := findClass_of_methodNamed Bd.named
  have hnm := (name_of_methodNamed Bd.named Bd.method).1
  have X0 : Stand p l e ({ frames := 5, cells := 2, slots := 8, locals := 102 } : Room) s m #[(.ref f1)] below meth c s₁ [] 0 0 := Stand.of_body Bd
  have e0 : s₁.heap = h0 := by rw [← hh, Bd.state]; rfl
  have N0 := Fr.nil n0
  have pre0 : ∀ tg, Steps p.tables e below (s₁.setTop (mkF m 0 #[vR f1, .unset] [])) tg → Steps p.tables e below (s₁.setTop (entryFrame m #[(.ref f1)] 2)) tg := fun t k => castTop (ef_rm_ltB m f1) k
  have pre00 : ∀ tg, Steps p.tables e below (s₁.setTop (mkF m 0 #[vR f1, .unset] [])) tg → Steps p.tables e below (s₁.setTop (mkF m 0 #[vR f1, .unset] [])) tg := fun _ k => k
  obtain ⟨k1, k2, k3, k4, k5, k6, k7, k8, k9⟩ := own_kf hn4 hk0 hkn
  have R400 : ∀ tg, Steps p.tables e below (s₁.setTop (mkF m 1 #[vR f1, .unset] [(.ref f1)])) tg → Steps p.tables e below (s₁.setTop (mkF m 0 #[vR f1, .unset] [])) tg := by
    intro tg kt
    refine pre00 _ ?_
    show Steps p.tables e below (s₁.setTop (mkF m 0 #[vR f1, .unset] [])) _
    refine XS.aloadN X0.here hx rfl (hb hby d10_0) rfl rfl ?_
    exact kt
  obtain ⟨T401, X401, e401, st401⟩ := getF X0 hx hZ hown (host := "") (Or.inl (hw _ (List.mem_of_getElem? (i := 49) rfl))) Via.refl e0 Fd (g := (mkF m 1 #[vR f1, .unset] [(.ref f1)])) rfl rfl (hb hby d10_1)
  have R402 : ∀ tg, Steps p.tables e below (T401.setTop (mkF m 6 #[vR f1, .unset] [(.int (94 : Int32)), (.ref a1)])) tg → Steps p.tables e below (s₁.setTop (mkF m 0 #[vR f1, .unset] [])) tg := by
    intro tg kt
    refine R400 _ ?_
    refine st401 _ ?_
    refine XS.bipush X401.here hx rfl (hb hby d10_4) ?_
    exact kt
  clear R400 st401
  obtain ⟨cq403, kq403, q403a, q403b, q403c⟩ := isOf hZ e401 E1
  obtain ⟨_, _, ⟨T403, L403, k403, n403⟩, -, X403, ⟨Lc403, hQ403, l403, y403, z403⟩, st403⟩ := X401.virtualBack hx (y := (⟨"java/lang/String", "indexOf", "(I)I"⟩ : MethodName)) (z := (⟨"java/lang/String", "indexOf", "(I)I"⟩ : MethodName)) hown (mvT hZ (hw _ (List.mem_of_getElem? (i := 58) rfl))) (mvT hZ (hw _ (List.mem_of_getElem? (i := 59) rfl))) (notFace_of_selects (args := #[]) (mvT hZ (hw _ (List.mem_of_getElem? (i := 61) rfl)))) (mvT hZ (hw _ (List.mem_of_getElem? (i := 61) rfl))) (mvT hZ (hw _ (List.mem_of_getElem? (i := 60) rfl))) (by decide) (backOf (W := 0) (rm_io1 l Z a0 hw [] a1 (94 : Int32) tb n g cs h0 n0 Z0 hn SC OL hcs E1 Fc Fv VA rfl) hZ (hw _ (List.mem_of_getElem? (i := 62) rfl)) (hw _ (List.mem_of_getElem? (i := 8) rfl)) (by decide) (by decide)) q403a q403c (g := (mkF m 6 #[vR f1, .unset] [(.int (94 : Int32)), (.ref a1)])) rfl (by rw [hml]; rfl) (Steps.refl _) (argsL := [(.int (94 : Int32))]) (rest := []) (lenOf pd_19 rfl) rfl (by show 2 * 0 + _ ≤ _; exact Nat.le_of_eq rfl) (hb hby d10_6) (fun _ _ => ⟨rfl, e401, (by decide : 0 + 0 ≤ _), (by decide : 0 + 0 ≤ _)⟩)
  dsimp only [Pt.U, Pt.locs, Pt.cells, Pt.slots] at X403 l403 y403 z403 st403 hQ403
  rw [l403, y403, z403] at X403
  obtain ⟨rfl, N403q, hh403⟩ := hQ403
  have N403 := Fr.app N0 N403q
  have R404 : ∀ tg, Steps p.tables e below (T403.setTop (mkF m 9 #[vR f1, .unset] [(.int (own_ix n g))])) tg → Steps p.tables e below (s₁.setTop (mkF m 0 #[vR f1, .unset] [])) tg := by
    intro tg kt
    refine R402 _ ?_
    refine st403.trans ?_
    exact kt
  clear R402 st403
  have R405 : ∀ tg, Steps p.tables e below (T403.setTop (mkF m 9 #[vR f1, .unset] [(.int (k : Nat).toInt32)])) tg → Steps p.tables e below (s₁.setTop (mkF m 0 #[vR f1, .unset] [])) tg := by intro tg kt; refine R404 tg ?_; rw [hix]; exact kt
  have R406 : ∀ tg, Steps p.tables e below (T403.setTop (mkF m 22 #[vR f1, vI (k : Nat).toInt32] [(.ref f1)])) tg → Steps p.tables e below (s₁.setTop (mkF m 0 #[vR f1, .unset] [])) tg := by
    intro tg kt
    refine R405 _ ?_
    show Steps p.tables e below (T403.setTop (mkF m 9 #[vR f1, .unset] [(.int (k : Nat).toInt32)])) _
    refine XS.istoreN X403.here hx rfl (hb hby d10_9) rfl (l' := #[vR f1, vI (k : Nat).toInt32]) rfl ?_
    refine XS.iloadN X403.here hx rfl (hb hby d10_10) rfl ?_
    show Steps p.tables e below (T403.setTop (mkF m 11 #[vR f1, vI (k : Nat).toInt32] [(.int (k : Nat).toInt32)])) _
    refine XS.ifYes X403.here hx rfl (pc0 := 11) (pc' := 21) rfl (hb hby d10_11) rfl ((if0 _ _).trans (flt (k1 : ¬ ((k : Nat).toInt32 < (0 : Int32)))).2.1) (by decide) (by decide) ?_
    refine XS.aloadN X403.here hx rfl (hb hby d10_21) rfl rfl ?_
    exact kt
  clear R405
  obtain ⟨T407, X407, e407, st407⟩ := getF X403 hx hZ hown (host := "") (Or.inl (hw _ (List.mem_of_getElem? (i := 49) rfl))) Via.refl hh403 Fd (g := (mkF m 22 #[vR f1, vI (k : Nat).toInt32] [(.ref f1)])) rfl rfl (hb hby d10_22)
  have R408 : ∀ tg, Steps p.tables e below (T407.setTop (mkF m 27 #[vR f1, vI (k : Nat).toInt32] [(.int (k : Nat).toInt32), (.int (0 : Int32)), (.ref a1)])) tg → Steps p.tables e below (s₁.setTop (mkF m 0 #[vR f1, .unset] [])) tg := by
    intro tg kt
    refine R406 _ ?_
    refine st407 _ ?_
    refine XS.iconst X407.here hx rfl (hb hby d10_25) ?_
    show Steps p.tables e below (T407.setTop (mkF m 26 #[vR f1, vI (k : Nat).toInt32] [(.int (0 : Int32)), (.ref a1)])) _
    refine XS.iloadN X407.here hx rfl (hb hby d10_26) rfl ?_
    exact kt
  clear R406 st407
  obtain ⟨cq409, kq409, q409a, q409b, q409c⟩ := isOf hZ e407 E1
  obtain ⟨_, _, ⟨T409, L409, k409, n409⟩, -, X409, ⟨Lc409, hQ409, l409, y409, z409⟩, st409⟩ := X407.virtualBack hx (y := (⟨"java/lang/String", "substring", "(II)Ljava/lang/String;"⟩ : MethodName)) (z := (⟨"java/lang/String", "substring", "(II)Ljava/lang/String;"⟩ : MethodName)) hown (mvT hZ (hw _ (List.mem_of_getElem? (i := 100) rfl))) (mvT hZ (hw _ (List.mem_of_getElem? (i := 101) rfl))) (notFace_of_selects (args := #[]) (mvT hZ (hw _ (List.mem_of_getElem? (i := 103) rfl)))) (mvT hZ (hw _ (List.mem_of_getElem? (i := 103) rfl))) (mvT hZ (hw _ (List.mem_of_getElem? (i := 102) rfl))) (by decide) (backOf (W := 0) (rm_suB l Z a0 hw [] a1 (0 : Int32) (k : Nat).toInt32 k n g tb cs vf h0 n0 Z0 hn4 hk0 hkn SC OL hcs SF hvf E1 Fc Fv VA rfl rfl) hZ (hw _ (List.mem_of_getElem? (i := 104) rfl)) (hw _ (List.mem_of_getElem? (i := 8) rfl)) (by decide) (by decide)) q409a q409c (g := (mkF m 27 #[vR f1, vI (k : Nat).toInt32] [(.int (k : Nat).toInt32), (.int (0 : Int32)), (.ref a1)])) rfl (by rw [hml]; rfl) (Steps.refl _) (argsL := [(.int (0 : Int32)), (.int (k : Nat).toInt32)]) (rest := []) (lenOf pd_20 rfl) rfl (by show 2 * 0 + _ ≤ _; exact Nat.le_of_eq rfl) (hb hby d10_27) (fun _ _ => ⟨rfl, e407, (by decide : 0 + 2 ≤ _), (by decide : 0 + 8 ≤ _)⟩)
  dsimp only [Pt.U, Pt.locs, Pt.cells, Pt.slots] at X409 l409 y409 z409 st409 hQ409
  rw [l409, y409, z409] at X409
  obtain ⟨aa, t, rfl, N409q, K409, E2, Fc2, Fv2, V2⟩ := hQ409
  have N409 := Fr.app N403 N409q
  have R410 : ∀ tg, Steps p.tables e below (T409.setTop (mkF m 30 #[vR f1, vI (k : Nat).toInt32] [(.ref aa)])) tg → Steps p.tables e below (s₁.setTop (mkF m 0 #[vR f1, .unset] [])) tg := by
    intro tg kt
    refine R408 _ ?_
    refine st409.trans ?_
    exact kt
  clear R408 st409
  obtain ⟨fs, hr, hrun, hended, hW, hsame⟩ := X409.leave (v := some (.ref aa)) (fun h => by rw [Bd.returns] at h; cases h)
  refine ⟨_, _, pre0 _ (R410 _ ?_), hrun, hended, _, _, rfl, ?_, ⟨_, rfl⟩, hW, hsame.mono (by decide) (by decide)⟩
  · show Steps p.tables e below (T409.setTop (mkF m 30 #[vR f1, vI (k : Nat).toInt32] [(.ref aa)])) _
    jvm_step X409.here [X409.here.top, hx, (hb hby d10_30), X409.method', Bd.returns, Value.isRef, FieldType.isReference]
    first | (intro acts; rw [hr _ acts rfl rfl rfl]) | rw [hr _ _ rfl rfl rfl]
    exact Steps.refl _
  · show Q_rm_ltB Z f1 a1 tb k n g cs vf h0 n0 _ T409.heap _
    exact ⟨aa, t, rfl, N409, K409, E2, Fc2, Fv2, V2⟩
theorem ef_rm_ltC (m : MethodId) (f1 : Addr) : entryFrame m #[(.ref f1)] 2 = mkF m 0 #[vR f1, .unset] [] := by first | (simp [entryFrame, mkF, argsToLocals, Value.category]; done) | rfl
def Q_rm_ltC (Z : State) (f1 : Addr) (a1 : Addr) (tb : Addr) (n : Nat) (g : Nat → Int32) (cs : Int32) (vf : Value) (h0 : Heap) (n0 : Nat) (v : Option Value) (h : Heap) (L : List Loc) : Prop := ∃ a t : Addr, v = some (.ref a) ∧ Fr n0 L ∧ Keep h0 h [] ∧ Exa Z h a "java/lang/String" ∧ Fld Z h a "java/lang/String" "coder" "B" (.int (0 : Int32)) ∧ Fld Z h a "java/lang/String" "value" "[B" (.ref t) ∧ AV Z h t .byte 0 (fun j => .int ((fun j => ([] : List Int32).getD j 0) j))
set_option maxRecDepth 65536 in
set_option maxHeartbeats 40000000 in
theorem rm_ltC (l : Launch) (Z : State) (a0 : Array Value) (hw : ∀ d ∈ tables_1, d.before a0 Z = true) (ws : List Jvm.Cond) (f1 : Addr) (a1 : Addr) (tb : Addr) (n : Nat) (g : Nat → Int32) (cs : Int32) (vf : Value) (h0 : Heap) (n0 : Nat) (Z0 : n0 ≤ h0.size) (hn4 : n = 1 ∨ n = 2 ∨ n = 3 ∨ n = 4) (SC : Sta Z Z.heap "java/lang/String" "COMPACT_STRINGS" "Z" (.int cs)) (OL : Old Z n0 h0) (hcs : ¬ (cs = (0 : Int32))) (SF : Sta Z Z.heap "jdk/internal/util/Preconditions" "SIOOBE_FORMATTER" "Ljava/util/function/BiFunction;" vf) (hvf : vf.isRef = true) (E1 : Exa Z h0 a1 "java/lang/String") (Fc : Fld Z h0 a1 "java/lang/String" "coder" "B" (.int (0 : Int32))) (Fv : Fld Z h0 a1 "java/lang/String" "value" "[B" (.ref tb)) (VA : AV Z h0 tb .byte n (fun j => .int (g j))) (Ei : Exa Z h0 f1 "com/example/travessia/travessia/isis/IsisField") (Fd : Fld Z h0 f1 "com/example/travessia/travessia/isis/IsisField" "data" "Ljava/lang/String;" (.ref a1)) (hix : own_ix n g = (0 : Int32)) (hc151 : Jvm.Lit.constHeld Z "java/lang/StringLatin1" 151) (hcw : Jvm.Lit.compactW.before a0 Z = true) :
    MetFree l (⟨"com/example/travessia/travessia/isis/IsisField", "leadingText", "()Ljava/lang/String;"⟩ : MethodName) (head1 (Jvm.Cond.code (⟨"com/example/travessia/travessia/isis/IsisField", "leadingText", "()Ljava/lang/String;"⟩ : MethodName) prog_8_method_3_code 2 (some (.object "java/lang/String")) :: ws) ({ frames := 4, cells := 2, slots := 4, locals := 59 } : Room)) (fun a U => a = #[(.ref f1)] ∧ Z.Warmed39 U.vm ∧ U.heap = h0 ∧ IB Z U.vm []) (fun _ _ _ _ _ => True) (fun _ U oC U' => ∃ v L, oC = .returned v ∧ Q_rm_ltC Z f1 a1 tb n g cs vf h0 n0 v U'.heap L ∧ ReturnedEndW U oC U' L ({ frames := 4, cells := 2, slots := 4, locals := 59 } : Room).cells ({ frames := 4, cells := 2, slots := 4, locals := 59 } : Room).slots) := by
  refine MetFree.of_bodySF (plainFor_of_name pn_6) hisR ?_
  intro p e s m args below meth c s₁ Bd hml0 hP hK
  obtain ⟨rfl, hZ, hh, hI⟩ := hP
  have hS0 : s.Since s.vm 0 := State.WarmedH.since (State.WarmedH.refl s) 0
  have hk0 : 0 ≤ h0.size := Nat.zero_le _
  have hkeep : ∀ (b : Addr) (cl : Cell), Z.heap[b]? = some cl → s.heap[b]? = some cl := by rw [hh]; exact OL.2.2
  have hx := Bd.exec
  have hby := Bd.bytes
  have hml : c.maxLocals = 2 := hml0
  have hown : s.vm.findClass "com/example/travessia/travessia/isis/IsisField" = some m.cls := findClass_of_methodNamed Bd.named
  have hnm := (name_of_methodNamed Bd.named Bd.method).1
  have X0 : Stand p l e ({ frames := 4, cells := 2, slots := 4, locals := 59 } : Room) s m #[(.ref f1)] below meth c s₁ [] 0 0 := Stand.of_body Bd
  have e0 : s₁.heap = h0 := by rw [← hh, Bd.state]; rfl
  have N0 := Fr.nil n0
  have pre0 : ∀ tg, Steps p.tables e below (s₁.setTop (mkF m 0 #[vR f1, .unset] [])) tg → Steps p.tables e below (s₁.setTop (entryFrame m #[(.ref f1)] 2)) tg := fun t k => castTop (ef_rm_ltC m f1) k
  have pre00 : ∀ tg, Steps p.tables e below (s₁.setTop (mkF m 0 #[vR f1, .unset] [])) tg → Steps p.tables e below (s₁.setTop (mkF m 0 #[vR f1, .unset] [])) tg := fun _ k => k
  have hn := Or.inr (a := n = 0) hn4
  have R411 : ∀ tg, Steps p.tables e below (s₁.setTop (mkF m 1 #[vR f1, .unset] [(.ref f1)])) tg → Steps p.tables e below (s₁.setTop (mkF m 0 #[vR f1, .unset] [])) tg := by
    intro tg kt
    refine pre00 _ ?_
    show Steps p.tables e below (s₁.setTop (mkF m 0 #[vR f1, .unset] [])) _
    refine XS.aloadN X0.here hx rfl (hb hby d10_0) rfl rfl ?_
    exact kt
  obtain ⟨T412, X412, e412, st412⟩ := getF X0 hx hZ hown (host := "") (Or.inl (hw _ (List.mem_of_getElem? (i := 49) rfl))) Via.refl e0 Fd (g := (mkF m 1 #[vR f1, .unset] [(.ref f1)])) rfl rfl (hb hby d10_1)
  have R413 : ∀ tg, Steps p.tables e below (T412.setTop (mkF m 6 #[vR f1, .unset] [(.int (94 : Int32)), (.ref a1)])) tg → Steps p.tables e below (s₁.setTop (mkF m 0 #[vR f1, .unset] [])) tg := by
    intro tg kt
    refine R411 _ ?_
    refine st412 _ ?_
    refine XS.bipush X412.here hx rfl (hb hby d10_4) ?_
    exact kt
  clear R411 st412
  obtain ⟨cq414, kq414, q414a, q414b, q414c⟩ := isOf hZ e412 E1
  obtain ⟨_, _, ⟨T414, L414, k414, n414⟩, -, X414, ⟨Lc414, hQ414, l414, y414, z414⟩, st414⟩ := X412.virtualBack hx (y := (⟨"java/lang/String", "indexOf", "(I)I"⟩ : MethodName)) (z := (⟨"java/lang/String", "indexOf", "(I)I"⟩ : MethodName)) hown (mvT hZ (hw _ (List.mem_of_getElem? (i := 58) rfl))) (mvT hZ (hw _ (List.mem_of_getElem? (i := 59) rfl))) (notFace_of_selects (args := #[]) (mvT hZ (hw _ (List.mem_of_getElem? (i := 61) rfl)))) (mvT hZ (hw _ (List.mem_of_getElem? (i := 61) rfl))) (mvT hZ (hw _ (List.mem_of_getElem? (i := 60) rfl))) (by decide) (backOf (W := 0) (rm_io1 l Z a0 hw [] a1 (94 : Int32) tb n g cs h0 n0 Z0 hn SC OL hcs E1 Fc Fv VA rfl) hZ (hw _ (List.mem_of_getElem? (i := 62) rfl)) (hw _ (List.mem_of_getElem? (i := 8) rfl)) (by decide) (by decide)) q414a q414c (g := (mkF m 6 #[vR f1, .unset] [(.int (94 : Int32)), (.ref a1)])) rfl (by rw [hml]; rfl) (Steps.refl _) (argsL := [(.int (94 : Int32))]) (rest := []) (lenOf pd_19 rfl) rfl (by show 2 * 0 + _ ≤ _; exact Nat.le_of_eq rfl) (hb hby d10_6) (fun _ _ => ⟨rfl, e412, (by decide : 0 + 0 ≤ _), (by decide : 0 + 0 ≤ _)⟩)
  dsimp only [Pt.U, Pt.locs, Pt.cells, Pt.slots] at X414 l414 y414 z414 st414 hQ414
  rw [l414, y414, z414] at X414
  obtain ⟨rfl, N414q, hh414⟩ := hQ414
  have N414 := Fr.app N0 N414q
  have R415 : ∀ tg, Steps p.tables e below (T414.setTop (mkF m 9 #[vR f1, .unset] [(.int (own_ix n g))])) tg → Steps p.tables e below (s₁.setTop (mkF m 0 #[vR f1, .unset] [])) tg := by
    intro tg kt
    refine R413 _ ?_
    refine st414.trans ?_
    exact kt
  clear R413 st414
  have R416 : ∀ tg, Steps p.tables e below (T414.setTop (mkF m 9 #[vR f1, .unset] [(.int (0 : Int32))])) tg → Steps p.tables e below (s₁.setTop (mkF m 0 #[vR f1, .unset] [])) tg := by intro tg kt; refine R415 tg ?_; rw [hix]; exact kt
  have R417 : ∀ tg, Steps p.tables e below (T414.setTop (mkF m 22 #[vR f1, vI (0 : Int32)] [(.ref f1)])) tg → Steps p.tables e below (s₁.setTop (mkF m 0 #[vR f1, .unset] [])) tg := by
    intro tg kt
    refine R416 _ ?_
    show Steps p.tables e below (T414.setTop (mkF m 9 #[vR f1, .unset] [(.int (0 : Int32))])) _
    refine XS.istoreN X414.here hx rfl (hb hby d10_9) rfl (l' := #[vR f1, vI (0 : Int32)]) rfl ?_
    refine XS.iloadN X414.here hx rfl (hb hby d10_10) rfl ?_
    show Steps p.tables e below (T414.setTop (mkF m 11 #[vR f1, vI (0 : Int32)] [(.int (0 : Int32))])) _
    refine XS.ifYes X414.here hx rfl (pc0 := 11) (pc' := 21) rfl (hb hby d10_11) rfl ((if0 _ _).trans (flt (by decide : ¬ ((0 : Int32) < (0 : Int32)))).2.1) (by decide) (by decide) ?_
    refine XS.aloadN X414.here hx rfl (hb hby d10_21) rfl rfl ?_
    exact kt
  clear R416
  obtain ⟨T418, X418, e418, st418⟩ := getF X414 hx hZ hown (host := "") (Or.inl (hw _ (List.mem_of_getElem? (i := 49) rfl))) Via.refl hh414 Fd (g := (mkF m 22 #[vR f1, vI (0 : Int32)] [(.ref f1)])) rfl rfl (hb hby d10_22)
  have R419 : ∀ tg, Steps p.tables e below (T418.setTop (mkF m 27 #[vR f1, vI (0 : Int32)] [(.int (0 : Int32)), (.int (0 : Int32)), (.ref a1)])) tg → Steps p.tables e below (s₁.setTop (mkF m 0 #[vR f1, .unset] [])) tg := by
    intro tg kt
    refine R417 _ ?_
    refine st418 _ ?_
    refine XS.iconst X418.here hx rfl (hb hby d10_25) ?_
    show Steps p.tables e below (T418.setTop (mkF m 26 #[vR f1, vI (0 : Int32)] [(.int (0 : Int32)), (.ref a1)])) _
    refine XS.iloadN X418.here hx rfl (hb hby d10_26) rfl ?_
    exact kt
  clear R417 st418
  obtain ⟨cq420, kq420, q420a, q420b, q420c⟩ := isOf hZ e418 E1
  obtain ⟨_, _, ⟨T420, L420, k420, n420⟩, -, X420, S420, gr420, ⟨Lc420, hQ420, l420, y420, z420⟩, st420⟩ := X418.virtualBackS hx (y := (⟨"java/lang/String", "substring", "(II)Ljava/lang/String;"⟩ : MethodName)) (z := (⟨"java/lang/String", "substring", "(II)Ljava/lang/String;"⟩ : MethodName)) hown (mvT hZ (hw _ (List.mem_of_getElem? (i := 100) rfl))) (mvT hZ (hw _ (List.mem_of_getElem? (i := 101) rfl))) (notFace_of_selects (args := #[]) (mvT hZ (hw _ (List.mem_of_getElem? (i := 103) rfl)))) (mvT hZ (hw _ (List.mem_of_getElem? (i := 103) rfl))) (mvT hZ (hw _ (List.mem_of_getElem? (i := 102) rfl))) (by decide) (own_backI (W := 0) (rm_suC l Z a0 hw [] a1 (0 : Int32) (0 : Int32) n g tb cs vf h0 n0 Z0 hn4 SC OL hcs SF hvf E1 Fc Fv VA rfl rfl hc151 hcw) hZ hI (hw _ (List.mem_of_getElem? (i := 104) rfl)) (hw _ (List.mem_of_getElem? (i := 8) rfl)) (by decide) (by decide)) q420a q420c (g := (mkF m 27 #[vR f1, vI (0 : Int32)] [(.int (0 : Int32)), (.int (0 : Int32)), (.ref a1)])) rfl (by rw [hml]; rfl) (Steps.refl _) (argsL := [(.int (0 : Int32)), (.int (0 : Int32))]) (rest := []) (lenOf pd_20 rfl) rfl (by show 2 * 0 + _ ≤ _; exact Nat.le_of_eq rfl) (hb hby d10_27) (fun _ _ => ⟨rfl, e418, (by decide : 0 + 2 ≤ _), (by decide : 0 + 4 ≤ _)⟩)
  dsimp only [Pt.U, Pt.locs, Pt.cells, Pt.slots] at X420 S420 gr420 l420 y420 z420 st420 hQ420
  rw [l420, y420, z420] at X420
  have hZ : Z.Warmed39 (s.setVm T420.vm).vm := State.Warmed39.trans hZ S420.1
  have hown : (s.setVm T420.vm).vm.findClass "com/example/travessia/travessia/isis/IsisField" = some m.cls := (S420.1.alike.findClass _ _).trans hown
  obtain ⟨aa, t, rfl, N420q, K420, E2, Fc2, Fv2, V2⟩ := hQ420
  have N420 := Fr.app N414 N420q
  have R421 : ∀ tg, Steps p.tables e below (T420.setTop (mkF m 30 #[vR f1, vI (0 : Int32)] [(.ref aa)])) tg → Steps p.tables e below (s₁.setTop (mkF m 0 #[vR f1, .unset] [])) tg := by
    intro tg kt
    refine R419 _ ?_
    refine st420.trans ?_
    exact kt
  clear R419 st420
  obtain ⟨fs, hr, hrun, hended, hR⟩ := Stand.leaveW (s := s) (vm₁ := T420.vm) X420 S420 (Nat.le_refl T420.heap.size) (v := some (.ref aa)) (fun h => by rw [Bd.returns] at h; cases h)
  refine ⟨_, _, pre0 _ (R421 _ ?_), hrun, hended, _, _, rfl, ?_, hR.1, hR.2.1, hR.2.2.1, hR.2.2.2.mono (by decide) (by decide)⟩
  · show Steps p.tables e below (T420.setTop (mkF m 30 #[vR f1, vI (0 : Int32)] [(.ref aa)])) _
    jvm_step X420.here [X420.here.top, hx, (hb hby d10_30), X420.method', Bd.returns, Value.isRef, FieldType.isReference]
    first | (intro acts; rw [hr _ acts rfl rfl rfl]) | rw [hr _ _ rfl rfl rfl]
    exact Steps.refl _
  · show Q_rm_ltC Z f1 a1 tb n g cs vf h0 n0 _ T420.heap _
    exact ⟨aa, t, rfl, N420, K420, E2, Fc2, Fv2, V2⟩
set_option maxRecDepth 65536 in
set_option maxHeartbeats 40000000 in
theorem own_t188 {p : Program} {l : Launch} {e : Env} {s : State} {m : MethodId} {args : Array Value} {below : List Frame} {meth : Method} {c : Code} {Z : State} {a0 : Array Value} {n0 : Nat} {T0 : State} {locs : List Loc} {h0 : Heap} (cl : Nat) (sl : Nat) (nv : Int32) (p1 : Int32) (p2 : Int32) (p3 : Int32) (p4 : Int32) (p5 : Int32) (p6 : Int32) (c0 : Int32) (c1 : Int32) (c2 : Int32) (c3 : Int32) (bd : Int32) (ar : Addr) (ob : Addr) (fo : Addr) (ra : Addr) (X0 : Stand p l e room_1 s m args below meth c T0 locs cl sl) (hx : p.tables.exec = Jvm.exec) (hZ : Z.Warmed39 s.vm) (hw : ∀ d ∈ tables_1, d.before a0 Z = true) (hby : c.code = code) (hml : c.maxLocals = 17) (hown : s.vm.findClass "com/example/travessia/travessia/isis/IsisFieldLeadingTextPinLaw" = some m.cls) (e0 : T0.heap = h0) (N0 : Fr n0 locs)  :
    ∀ tg, Steps p.tables e below (T0.setTop (mkF m 255 #[vI p1, vI p2, vI p3, vI p4, vI p5, vI p6, vI c0, vI c1, vI c2, vI c3, vI nv, vI bd, vR ar, vR ob, vR fo, vR ra, vI (own_k1 (0 : Int32) nv c0 (0 : Int32) (own_k1 (1 : Int32) nv c1 (1 : Int32) (own_k1 (2 : Int32) nv c2 (2 : Int32) (own_k1 (3 : Int32) nv c3 (3 : Int32) nv))))] [])) tg → Steps p.tables e below (T0.setTop (mkF m 188 #[vI p1, vI p2, vI p3, vI p4, vI p5, vI p6, vI c0, vI c1, vI c2, vI c3, vI nv, vI bd, vR ar, vR ob, vR fo, vR ra, .unset] [])) tg := by
  have R422 : ∀ tg, Steps p.tables e below (T0.setTop (mkF m 195 #[vI p1, vI p2, vI p3, vI p4, vI p5, vI p6, vI c0, vI c1, vI c2, vI c3, vI nv, vI bd, vR ar, vR ob, vR fo, vR ra, vI nv] [(.int (3 : Int32)), (.int nv)])) tg → Steps p.tables e below (T0.setTop (mkF m 188 #[vI p1, vI p2, vI p3, vI p4, vI p5, vI p6, vI c0, vI c1, vI c2, vI c3, vI nv, vI bd, vR ar, vR ob, vR fo, vR ra, .unset] [])) tg := by
    intro tg kt
    refine (fun (t : State) (k : Steps p.tables e below (T0.setTop (mkF m 188 #[vI p1, vI p2, vI p3, vI p4, vI p5, vI p6, vI c0, vI c1, vI c2, vI c3, vI nv, vI bd, vR ar, vR ob, vR fo, vR ra, .unset] [])) t) => k) _ ?_
    show Steps p.tables e below (T0.setTop (mkF m 188 #[vI p1, vI p2, vI p3, vI p4, vI p5, vI p6, vI c0, vI c1, vI c2, vI c3, vI nv, vI bd, vR ar, vR ob, vR fo, vR ra, .unset] [])) _
    refine XS.iload X0.here hx rfl (hb hby at_188) rfl ?_
    show Steps p.tables e below (T0.setTop (mkF m 190 #[vI p1, vI p2, vI p3, vI p4, vI p5, vI p6, vI c0, vI c1, vI c2, vI c3, vI nv, vI bd, vR ar, vR ob, vR fo, vR ra, .unset] [(.int nv)])) _
    refine XS.istore X0.here hx rfl (hb hby at_190) rfl (l' := #[vI p1, vI p2, vI p3, vI p4, vI p5, vI p6, vI c0, vI c1, vI c2, vI c3, vI nv, vI bd, vR ar, vR ob, vR fo, vR ra, vI nv]) rfl ?_
    refine XS.iload X0.here hx rfl (hb hby at_192) rfl ?_
    refine XS.iconst X0.here hx rfl (hb hby at_194) ?_
    exact kt
  have R423 : ∀ tg, Steps p.tables e below (T0.setTop (mkF m 208 #[vI p1, vI p2, vI p3, vI p4, vI p5, vI p6, vI c0, vI c1, vI c2, vI c3, vI nv, vI bd, vR ar, vR ob, vR fo, vR ra, vI (own_k1 (3 : Int32) nv c3 (3 : Int32) nv)] [])) tg → Steps p.tables e below (T0.setTop (mkF m 188 #[vI p1, vI p2, vI p3, vI p4, vI p5, vI p6, vI c0, vI c1, vI c2, vI c3, vI nv, vI bd, vR ar, vR ob, vR fo, vR ra, .unset] [])) tg := by
    intro tg kt
    refine R422 _ ?_
    by_cases hA : (3 : Int32) < nv
    · by_cases hB : c3 = (94 : Int32)
      · rw [show (own_k1 (3 : Int32) nv c3 (3 : Int32) nv) = (3 : Int32) from own_hit hA hB] at kt
        show Steps p.tables e below (T0.setTop (mkF m 195 #[vI p1, vI p2, vI p3, vI p4, vI p5, vI p6, vI c0, vI c1, vI c2, vI c3, vI nv, vI bd, vR ar, vR ob, vR fo, vR ra, vI nv] [(.int (3 : Int32)), (.int nv)])) _
        refine XS.icmpNo X0.here hx rfl (hb hby at_195) rfl (tlt (hA : (3 : Int32) < nv)).2.2.2 ?_
        refine XS.iload X0.here hx rfl (hb hby at_198) rfl ?_
        refine XS.bipush X0.here hx rfl (hb hby at_200) ?_
        show Steps p.tables e below (T0.setTop (mkF m 202 #[vI p1, vI p2, vI p3, vI p4, vI p5, vI p6, vI c0, vI c1, vI c2, vI c3, vI nv, vI bd, vR ar, vR ob, vR fo, vR ra, vI nv] [(.int (94 : Int32)), (.int c3)])) _
        refine XS.icmpNo X0.here hx rfl (hb hby at_202) rfl (teq (hB : c3 = (94 : Int32))).2 ?_
        refine XS.iconst X0.here hx rfl (hb hby at_205) ?_
        show Steps p.tables e below (T0.setTop (mkF m 206 #[vI p1, vI p2, vI p3, vI p4, vI p5, vI p6, vI c0, vI c1, vI c2, vI c3, vI nv, vI bd, vR ar, vR ob, vR fo, vR ra, vI nv] [(.int (3 : Int32))])) _
        refine XS.istore X0.here hx rfl (hb hby at_206) rfl (l' := #[vI p1, vI p2, vI p3, vI p4, vI p5, vI p6, vI c0, vI c1, vI c2, vI c3, vI nv, vI bd, vR ar, vR ob, vR fo, vR ra, vI (3 : Int32)]) rfl ?_
        exact kt
      · rw [show (own_k1 (3 : Int32) nv c3 (3 : Int32) nv) = nv from own_miss hB] at kt
        show Steps p.tables e below (T0.setTop (mkF m 195 #[vI p1, vI p2, vI p3, vI p4, vI p5, vI p6, vI c0, vI c1, vI c2, vI c3, vI nv, vI bd, vR ar, vR ob, vR fo, vR ra, vI nv] [(.int (3 : Int32)), (.int nv)])) _
        refine XS.icmpNo X0.here hx rfl (hb hby at_195) rfl (tlt (hA : (3 : Int32) < nv)).2.2.2 ?_
        refine XS.iload X0.here hx rfl (hb hby at_198) rfl ?_
        refine XS.bipush X0.here hx rfl (hb hby at_200) ?_
        show Steps p.tables e below (T0.setTop (mkF m 202 #[vI p1, vI p2, vI p3, vI p4, vI p5, vI p6, vI c0, vI c1, vI c2, vI c3, vI nv, vI bd, vR ar, vR ob, vR fo, vR ra, vI nv] [(.int (94 : Int32)), (.int c3)])) _
        refine XS.icmpYes X0.here hx rfl (pc0 := 202) (pc' := 208) rfl (hb hby at_202) rfl (feq (hB : ¬ (c3 = (94 : Int32)))).2 (by decide) (by decide) ?_
        exact kt
    · rw [show (own_k1 (3 : Int32) nv c3 (3 : Int32) nv) = nv from own_out hA] at kt
      show Steps p.tables e below (T0.setTop (mkF m 195 #[vI p1, vI p2, vI p3, vI p4, vI p5, vI p6, vI c0, vI c1, vI c2, vI c3, vI nv, vI bd, vR ar, vR ob, vR fo, vR ra, vI nv] [(.int (3 : Int32)), (.int nv)])) _
      refine XS.icmpYes X0.here hx rfl (pc0 := 195) (pc' := 208) rfl (hb hby at_195) rfl (flt (hA : ¬ ((3 : Int32) < nv))).2.2.2 (by decide) (by decide) ?_
      exact kt
  have R424 : ∀ tg, Steps p.tables e below (T0.setTop (mkF m 211 #[vI p1, vI p2, vI p3, vI p4, vI p5, vI p6, vI c0, vI c1, vI c2, vI c3, vI nv, vI bd, vR ar, vR ob, vR fo, vR ra, vI (own_k1 (3 : Int32) nv c3 (3 : Int32) nv)] [(.int (2 : Int32)), (.int nv)])) tg → Steps p.tables e below (T0.setTop (mkF m 188 #[vI p1, vI p2, vI p3, vI p4, vI p5, vI p6, vI c0, vI c1, vI c2, vI c3, vI nv, vI bd, vR ar, vR ob, vR fo, vR ra, .unset] [])) tg := by
    intro tg kt
    refine R423 _ ?_
    show Steps p.tables e below (T0.setTop (mkF m 208 #[vI p1, vI p2, vI p3, vI p4, vI p5, vI p6, vI c0, vI c1, vI c2, vI c3, vI nv, vI bd, vR ar, vR ob, vR fo, vR ra, vI (own_k1 (3 : Int32) nv c3 (3 : Int32) nv)] [])) _
    refine XS.iload X0.here hx rfl (hb hby at_208) rfl ?_
    refine XS.iconst X0.here hx rfl (hb hby at_210) ?_
    exact kt
  clear R423
  have R425 : ∀ tg, Steps p.tables e below (T0.setTop (mkF m 224 #[vI p1, vI p2, vI p3, vI p4, vI p5, vI p6, vI c0, vI c1, vI c2, vI c3, vI nv, vI bd, vR ar, vR ob, vR fo, vR ra, vI (own_k1 (2 : Int32) nv c2 (2 : Int32) (own_k1 (3 : Int32) nv c3 (3 : Int32) nv))] [])) tg → Steps p.tables e below (T0.setTop (mkF m 188 #[vI p1, vI p2, vI p3, vI p4, vI p5, vI p6, vI c0, vI c1, vI c2, vI c3, vI nv, vI bd, vR ar, vR ob, vR fo, vR ra, .unset] [])) tg := by
    intro tg kt
    refine R424 _ ?_
    by_cases hA : (2 : Int32) < nv
    · by_cases hB : c2 = (94 : Int32)
      · rw [show (own_k1 (2 : Int32) nv c2 (2 : Int32) (own_k1 (3 : Int32) nv c3 (3 : Int32) nv)) = (2 : Int32) from own_hit hA hB] at kt
        show Steps p.tables e below (T0.setTop (mkF m 211 #[vI p1, vI p2, vI p3, vI p4, vI p5, vI p6, vI c0, vI c1, vI c2, vI c3, vI nv, vI bd, vR ar, vR ob, vR fo, vR ra, vI (own_k1 (3 : Int32) nv c3 (3 : Int32) nv)] [(.int (2 : Int32)), (.int nv)])) _
        refine XS.icmpNo X0.here hx rfl (hb hby at_211) rfl (tlt (hA : (2 : Int32) < nv)).2.2.2 ?_
        refine XS.iload X0.here hx rfl (hb hby at_214) rfl ?_
        refine XS.bipush X0.here hx rfl (hb hby at_216) ?_
        show Steps p.tables e below (T0.setTop (mkF m 218 #[vI p1, vI p2, vI p3, vI p4, vI p5, vI p6, vI c0, vI c1, vI c2, vI c3, vI nv, vI bd, vR ar, vR ob, vR fo, vR ra, vI (own_k1 (3 : Int32) nv c3 (3 : Int32) nv)] [(.int (94 : Int32)), (.int c2)])) _
        refine XS.icmpNo X0.here hx rfl (hb hby at_218) rfl (teq (hB : c2 = (94 : Int32))).2 ?_
        refine XS.iconst X0.here hx rfl (hb hby at_221) ?_
        show Steps p.tables e below (T0.setTop (mkF m 222 #[vI p1, vI p2, vI p3, vI p4, vI p5, vI p6, vI c0, vI c1, vI c2, vI c3, vI nv, vI bd, vR ar, vR ob, vR fo, vR ra, vI (own_k1 (3 : Int32) nv c3 (3 : Int32) nv)] [(.int (2 : Int32))])) _
        refine XS.istore X0.here hx rfl (hb hby at_222) rfl (l' := #[vI p1, vI p2, vI p3, vI p4, vI p5, vI p6, vI c0, vI c1, vI c2, vI c3, vI nv, vI bd, vR ar, vR ob, vR fo, vR ra, vI (2 : Int32)]) rfl ?_
        exact kt
      · rw [show (own_k1 (2 : Int32) nv c2 (2 : Int32) (own_k1 (3 : Int32) nv c3 (3 : Int32) nv)) = (own_k1 (3 : Int32) nv c3 (3 : Int32) nv) from own_miss hB] at kt
        show Steps p.tables e below (T0.setTop (mkF m 211 #[vI p1, vI p2, vI p3, vI p4, vI p5, vI p6, vI c0, vI c1, vI c2, vI c3, vI nv, vI bd, vR ar, vR ob, vR fo, vR ra, vI (own_k1 (3 : Int32) nv c3 (3 : Int32) nv)] [(.int (2 : Int32)), (.int nv)])) _
        refine XS.icmpNo X0.here hx rfl (hb hby at_211) rfl (tlt (hA : (2 : Int32) < nv)).2.2.2 ?_
        refine XS.iload X0.here hx rfl (hb hby at_214) rfl ?_
        refine XS.bipush X0.here hx rfl (hb hby at_216) ?_
        show Steps p.tables e below (T0.setTop (mkF m 218 #[vI p1, vI p2, vI p3, vI p4, vI p5, vI p6, vI c0, vI c1, vI c2, vI c3, vI nv, vI bd, vR ar, vR ob, vR fo, vR ra, vI (own_k1 (3 : Int32) nv c3 (3 : Int32) nv)] [(.int (94 : Int32)), (.int c2)])) _
        refine XS.icmpYes X0.here hx rfl (pc0 := 218) (pc' := 224) rfl (hb hby at_218) rfl (feq (hB : ¬ (c2 = (94 : Int32)))).2 (by decide) (by decide) ?_
        exact kt
    · rw [show (own_k1 (2 : Int32) nv c2 (2 : Int32) (own_k1 (3 : Int32) nv c3 (3 : Int32) nv)) = (own_k1 (3 : Int32) nv c3 (3 : Int32) nv) from own_out hA] at kt
      show Steps p.tables e below (T0.setTop (mkF m 211 #[vI p1, vI p2, vI p3, vI p4, vI p5, vI p6, vI c0, vI c1, vI c2, vI c3, vI nv, vI bd, vR ar, vR ob, vR fo, vR ra, vI (own_k1 (3 : Int32) nv c3 (3 : Int32) nv)] [(.int (2 : Int32)), (.int nv)])) _
      refine XS.icmpYes X0.here hx rfl (pc0 := 211) (pc' := 224) rfl (hb hby at_211) rfl (flt (hA : ¬ ((2 : Int32) < nv))).2.2.2 (by decide) (by decide) ?_
      exact kt
  have R426 : ∀ tg, Steps p.tables e below (T0.setTop (mkF m 227 #[vI p1, vI p2, vI p3, vI p4, vI p5, vI p6, vI c0, vI c1, vI c2, vI c3, vI nv, vI bd, vR ar, vR ob, vR fo, vR ra, vI (own_k1 (2 : Int32) nv c2 (2 : Int32) (own_k1 (3 : Int32) nv c3 (3 : Int32) nv))] [(.int (1 : Int32)), (.int nv)])) tg → Steps p.tables e below (T0.setTop (mkF m 188 #[vI p1, vI p2, vI p3, vI p4, vI p5, vI p6, vI c0, vI c1, vI c2, vI c3, vI nv, vI bd, vR ar, vR ob, vR fo, vR ra, .unset] [])) tg := by
    intro tg kt
    refine R425 _ ?_
    show Steps p.tables e below (T0.setTop (mkF m 224 #[vI p1, vI p2, vI p3, vI p4, vI p5, vI p6, vI c0, vI c1, vI c2, vI c3, vI nv, vI bd, vR ar, vR ob, vR fo, vR ra, vI (own_k1 (2 : Int32) nv c2 (2 : Int32) (own_k1 (3 : Int32) nv c3 (3 : Int32) nv))] [])) _
    refine XS.iload X0.here hx rfl (hb hby at_224) rfl ?_
    refine XS.iconst X0.here hx rfl (hb hby at_226) ?_
    exact kt
  clear R425
  have R427 : ∀ tg, Steps p.tables e below (T0.setTop (mkF m 240 #[vI p1, vI p2, vI p3, vI p4, vI p5, vI p6, vI c0, vI c1, vI c2, vI c3, vI nv, vI bd, vR ar, vR ob, vR fo, vR ra, vI (own_k1 (1 : Int32) nv c1 (1 : Int32) (own_k1 (2 : Int32) nv c2 (2 : Int32) (own_k1 (3 : Int32) nv c3 (3 : Int32) nv)))] [])) tg → Steps p.tables e below (T0.setTop (mkF m 188 #[vI p1, vI p2, vI p3, vI p4, vI p5, vI p6, vI c0, vI c1, vI c2, vI c3, vI nv, vI bd, vR ar, vR ob, vR fo, vR ra, .unset] [])) tg := by
    intro tg kt
    refine R426 _ ?_
    by_cases hA : (1 : Int32) < nv
    · by_cases hB : c1 = (94 : Int32)
      · rw [show (own_k1 (1 : Int32) nv c1 (1 : Int32) (own_k1 (2 : Int32) nv c2 (2 : Int32) (own_k1 (3 : Int32) nv c3 (3 : Int32) nv))) = (1 : Int32) from own_hit hA hB] at kt
        show Steps p.tables e below (T0.setTop (mkF m 227 #[vI p1, vI p2, vI p3, vI p4, vI p5, vI p6, vI c0, vI c1, vI c2, vI c3, vI nv, vI bd, vR ar, vR ob, vR fo, vR ra, vI (own_k1 (2 : Int32) nv c2 (2 : Int32) (own_k1 (3 : Int32) nv c3 (3 : Int32) nv))] [(.int (1 : Int32)), (.int nv)])) _
        refine XS.icmpNo X0.here hx rfl (hb hby at_227) rfl (tlt (hA : (1 : Int32) < nv)).2.2.2 ?_
        refine XS.iload X0.here hx rfl (hb hby at_230) rfl ?_
        refine XS.bipush X0.here hx rfl (hb hby at_232) ?_
        show Steps p.tables e below (T0.setTop (mkF m 234 #[vI p1, vI p2, vI p3, vI p4, vI p5, vI p6, vI c0, vI c1, vI c2, vI c3, vI nv, vI bd, vR ar, vR ob, vR fo, vR ra, vI (own_k1 (2 : Int32) nv c2 (2 : Int32) (own_k1 (3 : Int32) nv c3 (3 : Int32) nv))] [(.int (94 : Int32)), (.int c1)])) _
        refine XS.icmpNo X0.here hx rfl (hb hby at_234) rfl (teq (hB : c1 = (94 : Int32))).2 ?_
        refine XS.iconst X0.here hx rfl (hb hby at_237) ?_
        show Steps p.tables e below (T0.setTop (mkF m 238 #[vI p1, vI p2, vI p3, vI p4, vI p5, vI p6, vI c0, vI c1, vI c2, vI c3, vI nv, vI bd, vR ar, vR ob, vR fo, vR ra, vI (own_k1 (2 : Int32) nv c2 (2 : Int32) (own_k1 (3 : Int32) nv c3 (3 : Int32) nv))] [(.int (1 : Int32))])) _
        refine XS.istore X0.here hx rfl (hb hby at_238) rfl (l' := #[vI p1, vI p2, vI p3, vI p4, vI p5, vI p6, vI c0, vI c1, vI c2, vI c3, vI nv, vI bd, vR ar, vR ob, vR fo, vR ra, vI (1 : Int32)]) rfl ?_
        exact kt
      · rw [show (own_k1 (1 : Int32) nv c1 (1 : Int32) (own_k1 (2 : Int32) nv c2 (2 : Int32) (own_k1 (3 : Int32) nv c3 (3 : Int32) nv))) = (own_k1 (2 : Int32) nv c2 (2 : Int32) (own_k1 (3 : Int32) nv c3 (3 : Int32) nv)) from own_miss hB] at kt
        show Steps p.tables e below (T0.setTop (mkF m 227 #[vI p1, vI p2, vI p3, vI p4, vI p5, vI p6, vI c0, vI c1, vI c2, vI c3, vI nv, vI bd, vR ar, vR ob, vR fo, vR ra, vI (own_k1 (2 : Int32) nv c2 (2 : Int32) (own_k1 (3 : Int32) nv c3 (3 : Int32) nv))] [(.int (1 : Int32)), (.int nv)])) _
        refine XS.icmpNo X0.here hx rfl (hb hby at_227) rfl (tlt (hA : (1 : Int32) < nv)).2.2.2 ?_
        refine XS.iload X0.here hx rfl (hb hby at_230) rfl ?_
        refine XS.bipush X0.here hx rfl (hb hby at_232) ?_
        show Steps p.tables e below (T0.setTop (mkF m 234 #[vI p1, vI p2, vI p3, vI p4, vI p5, vI p6, vI c0, vI c1, vI c2, vI c3, vI nv, vI bd, vR ar, vR ob, vR fo, vR ra, vI (own_k1 (2 : Int32) nv c2 (2 : Int32) (own_k1 (3 : Int32) nv c3 (3 : Int32) nv))] [(.int (94 : Int32)), (.int c1)])) _
        refine XS.icmpYes X0.here hx rfl (pc0 := 234) (pc' := 240) rfl (hb hby at_234) rfl (feq (hB : ¬ (c1 = (94 : Int32)))).2 (by decide) (by decide) ?_
        exact kt
    · rw [show (own_k1 (1 : Int32) nv c1 (1 : Int32) (own_k1 (2 : Int32) nv c2 (2 : Int32) (own_k1 (3 : Int32) nv c3 (3 : Int32) nv))) = (own_k1 (2 : Int32) nv c2 (2 : Int32) (own_k1 (3 : Int32) nv c3 (3 : Int32) nv)) from own_out hA] at kt
      show Steps p.tables e below (T0.setTop (mkF m 227 #[vI p1, vI p2, vI p3, vI p4, vI p5, vI p6, vI c0, vI c1, vI c2, vI c3, vI nv, vI bd, vR ar, vR ob, vR fo, vR ra, vI (own_k1 (2 : Int32) nv c2 (2 : Int32) (own_k1 (3 : Int32) nv c3 (3 : Int32) nv))] [(.int (1 : Int32)), (.int nv)])) _
      refine XS.icmpYes X0.here hx rfl (pc0 := 227) (pc' := 240) rfl (hb hby at_227) rfl (flt (hA : ¬ ((1 : Int32) < nv))).2.2.2 (by decide) (by decide) ?_
      exact kt
  have R428 : ∀ tg, Steps p.tables e below (T0.setTop (mkF m 242 #[vI p1, vI p2, vI p3, vI p4, vI p5, vI p6, vI c0, vI c1, vI c2, vI c3, vI nv, vI bd, vR ar, vR ob, vR fo, vR ra, vI (own_k1 (1 : Int32) nv c1 (1 : Int32) (own_k1 (2 : Int32) nv c2 (2 : Int32) (own_k1 (3 : Int32) nv c3 (3 : Int32) nv)))] [(.int nv)])) tg → Steps p.tables e below (T0.setTop (mkF m 188 #[vI p1, vI p2, vI p3, vI p4, vI p5, vI p6, vI c0, vI c1, vI c2, vI c3, vI nv, vI bd, vR ar, vR ob, vR fo, vR ra, .unset] [])) tg := by
    intro tg kt
    refine R427 _ ?_
    show Steps p.tables e below (T0.setTop (mkF m 240 #[vI p1, vI p2, vI p3, vI p4, vI p5, vI p6, vI c0, vI c1, vI c2, vI c3, vI nv, vI bd, vR ar, vR ob, vR fo, vR ra, vI (own_k1 (1 : Int32) nv c1 (1 : Int32) (own_k1 (2 : Int32) nv c2 (2 : Int32) (own_k1 (3 : Int32) nv c3 (3 : Int32) nv)))] [])) _
    refine XS.iload X0.here hx rfl (hb hby at_240) rfl ?_
    exact kt
  clear R427
  have R429 : ∀ tg, Steps p.tables e below (T0.setTop (mkF m 255 #[vI p1, vI p2, vI p3, vI p4, vI p5, vI p6, vI c0, vI c1, vI c2, vI c3, vI nv, vI bd, vR ar, vR ob, vR fo, vR ra, vI (own_k1 (0 : Int32) nv c0 (0 : Int32) (own_k1 (1 : Int32) nv c1 (1 : Int32) (own_k1 (2 : Int32) nv c2 (2 : Int32) (own_k1 (3 : Int32) nv c3 (3 : Int32) nv))))] [])) tg → Steps p.tables e below (T0.setTop (mkF m 188 #[vI p1, vI p2, vI p3, vI p4, vI p5, vI p6, vI c0, vI c1, vI c2, vI c3, vI nv, vI bd, vR ar, vR ob, vR fo, vR ra, .unset] [])) tg := by
    intro tg kt
    refine R428 _ ?_
    by_cases hA : (0 : Int32) < nv
    · by_cases hB : c0 = (94 : Int32)
      · rw [show (own_k1 (0 : Int32) nv c0 (0 : Int32) (own_k1 (1 : Int32) nv c1 (1 : Int32) (own_k1 (2 : Int32) nv c2 (2 : Int32) (own_k1 (3 : Int32) nv c3 (3 : Int32) nv)))) = (0 : Int32) from own_hit hA hB] at kt
        show Steps p.tables e below (T0.setTop (mkF m 242 #[vI p1, vI p2, vI p3, vI p4, vI p5, vI p6, vI c0, vI c1, vI c2, vI c3, vI nv, vI bd, vR ar, vR ob, vR fo, vR ra, vI (own_k1 (1 : Int32) nv c1 (1 : Int32) (own_k1 (2 : Int32) nv c2 (2 : Int32) (own_k1 (3 : Int32) nv c3 (3 : Int32) nv)))] [(.int nv)])) _
        refine XS.ifNo X0.here hx rfl (hb hby at_242) rfl ((if0 _ _).trans (tlt (hA : (0 : Int32) < nv)).2.2.2) ?_
        refine XS.iload X0.here hx rfl (hb hby at_245) rfl ?_
        refine XS.bipush X0.here hx rfl (hb hby at_247) ?_
        show Steps p.tables e below (T0.setTop (mkF m 249 #[vI p1, vI p2, vI p3, vI p4, vI p5, vI p6, vI c0, vI c1, vI c2, vI c3, vI nv, vI bd, vR ar, vR ob, vR fo, vR ra, vI (own_k1 (1 : Int32) nv c1 (1 : Int32) (own_k1 (2 : Int32) nv c2 (2 : Int32) (own_k1 (3 : Int32) nv c3 (3 : Int32) nv)))] [(.int (94 : Int32)), (.int c0)])) _
        refine XS.icmpNo X0.here hx rfl (hb hby at_249) rfl (teq (hB : c0 = (94 : Int32))).2 ?_
        refine XS.iconst X0.here hx rfl (hb hby at_252) ?_
        show Steps p.tables e below (T0.setTop (mkF m 253 #[vI p1, vI p2, vI p3, vI p4, vI p5, vI p6, vI c0, vI c1, vI c2, vI c3, vI nv, vI bd, vR ar, vR ob, vR fo, vR ra, vI (own_k1 (1 : Int32) nv c1 (1 : Int32) (own_k1 (2 : Int32) nv c2 (2 : Int32) (own_k1 (3 : Int32) nv c3 (3 : Int32) nv)))] [(.int (0 : Int32))])) _
        refine XS.istore X0.here hx rfl (hb hby at_253) rfl (l' := #[vI p1, vI p2, vI p3, vI p4, vI p5, vI p6, vI c0, vI c1, vI c2, vI c3, vI nv, vI bd, vR ar, vR ob, vR fo, vR ra, vI (0 : Int32)]) rfl ?_
        exact kt
      · rw [show (own_k1 (0 : Int32) nv c0 (0 : Int32) (own_k1 (1 : Int32) nv c1 (1 : Int32) (own_k1 (2 : Int32) nv c2 (2 : Int32) (own_k1 (3 : Int32) nv c3 (3 : Int32) nv)))) = (own_k1 (1 : Int32) nv c1 (1 : Int32) (own_k1 (2 : Int32) nv c2 (2 : Int32) (own_k1 (3 : Int32) nv c3 (3 : Int32) nv))) from own_miss hB] at kt
        show Steps p.tables e below (T0.setTop (mkF m 242 #[vI p1, vI p2, vI p3, vI p4, vI p5, vI p6, vI c0, vI c1, vI c2, vI c3, vI nv, vI bd, vR ar, vR ob, vR fo, vR ra, vI (own_k1 (1 : Int32) nv c1 (1 : Int32) (own_k1 (2 : Int32) nv c2 (2 : Int32) (own_k1 (3 : Int32) nv c3 (3 : Int32) nv)))] [(.int nv)])) _
        refine XS.ifNo X0.here hx rfl (hb hby at_242) rfl ((if0 _ _).trans (tlt (hA : (0 : Int32) < nv)).2.2.2) ?_
        refine XS.iload X0.here hx rfl (hb hby at_245) rfl ?_
        refine XS.bipush X0.here hx rfl (hb hby at_247) ?_
        show Steps p.tables e below (T0.setTop (mkF m 249 #[vI p1, vI p2, vI p3, vI p4, vI p5, vI p6, vI c0, vI c1, vI c2, vI c3, vI nv, vI bd, vR ar, vR ob, vR fo, vR ra, vI (own_k1 (1 : Int32) nv c1 (1 : Int32) (own_k1 (2 : Int32) nv c2 (2 : Int32) (own_k1 (3 : Int32) nv c3 (3 : Int32) nv)))] [(.int (94 : Int32)), (.int c0)])) _
        refine XS.icmpYes X0.here hx rfl (pc0 := 249) (pc' := 255) rfl (hb hby at_249) rfl (feq (hB : ¬ (c0 = (94 : Int32)))).2 (by decide) (by decide) ?_
        exact kt
    · rw [show (own_k1 (0 : Int32) nv c0 (0 : Int32) (own_k1 (1 : Int32) nv c1 (1 : Int32) (own_k1 (2 : Int32) nv c2 (2 : Int32) (own_k1 (3 : Int32) nv c3 (3 : Int32) nv)))) = (own_k1 (1 : Int32) nv c1 (1 : Int32) (own_k1 (2 : Int32) nv c2 (2 : Int32) (own_k1 (3 : Int32) nv c3 (3 : Int32) nv))) from own_out hA] at kt
      show Steps p.tables e below (T0.setTop (mkF m 242 #[vI p1, vI p2, vI p3, vI p4, vI p5, vI p6, vI c0, vI c1, vI c2, vI c3, vI nv, vI bd, vR ar, vR ob, vR fo, vR ra, vI (own_k1 (1 : Int32) nv c1 (1 : Int32) (own_k1 (2 : Int32) nv c2 (2 : Int32) (own_k1 (3 : Int32) nv c3 (3 : Int32) nv)))] [(.int nv)])) _
      refine XS.ifYes X0.here hx rfl (pc0 := 242) (pc' := 255) rfl (hb hby at_242) rfl ((if0 _ _).trans (flt (hA : ¬ ((0 : Int32) < nv))).2.2.2) (by decide) (by decide) ?_
      exact kt
  exact R429
set_option maxRecDepth 65536 in
set_option maxHeartbeats 40000000 in
theorem own_t255_0 {p : Program} {l : Launch} {e : Env} {s : State} {m : MethodId} {args : Array Value} {below : List Frame} {meth : Method} {c : Code} {Z : State} {a0 : Array Value} {n0 : Nat} {T0 : State} {locs : List Loc} {h0 : Heap} (cl : Nat) (sl : Nat) (nv : Int32) (p1 : Int32) (p2 : Int32) (p3 : Int32) (p4 : Int32) (p5 : Int32) (p6 : Int32) (c0 : Int32) (c1 : Int32) (c2 : Int32) (c3 : Int32) (bd : Int32) (ar : Addr) (ob : Addr) (fo : Addr) (ra : Addr) (tb : Addr) (g : Nat → Int32) (cs : Int32) (vf : Value) (X0 : Stand p l e room_1 s m args below meth c T0 locs cl sl) (hx : p.tables.exec = Jvm.exec) (hZ : Z.Warmed39 s.vm) (hw : ∀ d ∈ tables_1, d.before a0 Z = true) (hby : c.code = code) (hml : c.maxLocals = 17) (hown : s.vm.findClass "com/example/travessia/travessia/isis/IsisFieldLeadingTextPinLaw" = some m.cls) (hcl : cl + 0 ≤ room_1.cells) (hsl : sl + 0 ≤ room_1.slots) (e0 : T0.heap = h0) (N0 : Fr n0 locs) (Z0 : n0 ≤ h0.size) (SC : Sta Z Z.heap "java/lang/String" "COMPACT_STRINGS" "Z" (.int cs)) (OL : Old Z n0 h0) (hcs : ¬ (cs = (0 : Int32))) (SF : Sta Z Z.heap "jdk/internal/util/Preconditions" "SIOOBE_FORMATTER" "Ljava/util/function/BiFunction;" vf) (hvf : vf.isRef = true) (E1 : Exa Z h0 ra "java/lang/String") (Fc : Fld Z h0 ra "java/lang/String" "coder" "B" (.int (0 : Int32))) (Fv : Fld Z h0 ra "java/lang/String" "value" "[B" (.ref tb)) (VA : AV Z h0 tb .byte 0 (fun j => .int (g j))) :
    ∃ (T' : State) (L' : List Loc), Stand p l e room_1 s m args below meth c T' L' cl sl ∧ T'.heap = h0 ∧ Fr n0 L' ∧ ∀ tg, Steps p.tables e below (T'.setTop (mkF m 348 #[vI p1, vI p2, vI p3, vI p4, vI p5, vI p6, vI c0, vI c1, vI c2, vI c3, vI nv, vI bd, vR ar, vR ob, vR fo, vR ra, vI (0 : Int32)] [(.int (1 : Int32))])) tg → Steps p.tables e below (T0.setTop (mkF m 255 #[vI p1, vI p2, vI p3, vI p4, vI p5, vI p6, vI c0, vI c1, vI c2, vI c3, vI nv, vI bd, vR ar, vR ob, vR fo, vR ra, vI (0 : Int32)] [])) tg := by
  have R430 : ∀ tg, Steps p.tables e below (T0.setTop (mkF m 262 #[vI p1, vI p2, vI p3, vI p4, vI p5, vI p6, vI c0, vI c1, vI c2, vI c3, vI nv, vI bd, vR ar, vR ob, vR fo, vR ra, vI (0 : Int32)] [(.ref ra)])) tg → Steps p.tables e below (T0.setTop (mkF m 255 #[vI p1, vI p2, vI p3, vI p4, vI p5, vI p6, vI c0, vI c1, vI c2, vI c3, vI nv, vI bd, vR ar, vR ob, vR fo, vR ra, vI (0 : Int32)] [])) tg := by
    intro tg kt
    refine (fun (t : State) (k : Steps p.tables e below (T0.setTop (mkF m 255 #[vI p1, vI p2, vI p3, vI p4, vI p5, vI p6, vI c0, vI c1, vI c2, vI c3, vI nv, vI bd, vR ar, vR ob, vR fo, vR ra, vI (0 : Int32)] [])) t) => k) _ ?_
    show Steps p.tables e below (T0.setTop (mkF m 255 #[vI p1, vI p2, vI p3, vI p4, vI p5, vI p6, vI c0, vI c1, vI c2, vI c3, vI nv, vI bd, vR ar, vR ob, vR fo, vR ra, vI (0 : Int32)] [])) _
    refine XS.aload X0.here hx rfl (hb hby at_255) rfl rfl ?_
    show Steps p.tables e below (T0.setTop (mkF m 257 #[vI p1, vI p2, vI p3, vI p4, vI p5, vI p6, vI c0, vI c1, vI c2, vI c3, vI nv, vI bd, vR ar, vR ob, vR fo, vR ra, vI (0 : Int32)] [(.ref ra)])) _
    refine XS.ifnullNo X0.here hx rfl (hb hby at_257) rfl ?_
    refine XS.aload X0.here hx rfl (hb hby at_260) rfl rfl ?_
    exact kt
  obtain ⟨cq431, kq431, q431a, q431b, q431c⟩ := isOf hZ e0 E1
  obtain ⟨_, _, ⟨T431, L431, k431, n431⟩, -, X431, ⟨Lc431, hQ431, l431, y431, z431⟩, st431⟩ := X0.virtualBack hx (y := (⟨"java/lang/String", "length", "()I"⟩ : MethodName)) (z := (⟨"java/lang/String", "length", "()I"⟩ : MethodName)) hown (mvT hZ (hw _ (List.mem_of_getElem? (i := 119) rfl))) (mvT hZ (hw _ (List.mem_of_getElem? (i := 74) rfl))) (notFace_of_selects (args := #[]) (mvT hZ (hw _ (List.mem_of_getElem? (i := 76) rfl)))) (mvT hZ (hw _ (List.mem_of_getElem? (i := 76) rfl))) (mvT hZ (hw _ (List.mem_of_getElem? (i := 75) rfl))) (by decide) (backOf (W := 0) (rm_len l Z a0 hw [] ra tb 0 g cs h0 n0 Z0 SC OL hcs E1 Fc Fv VA) hZ (hw _ (List.mem_of_getElem? (i := 77) rfl)) (hw _ (List.mem_of_getElem? (i := 8) rfl)) (by decide) (by decide)) q431a q431c (g := (mkF m 262 #[vI p1, vI p2, vI p3, vI p4, vI p5, vI p6, vI c0, vI c1, vI c2, vI c3, vI nv, vI bd, vR ar, vR ob, vR fo, vR ra, vI (0 : Int32)] [(.ref ra)])) rfl (by rw [hml]; rfl) (Steps.refl _) (argsL := []) (rest := []) (lenOf pd_13 rfl) rfl (by show 2 * 0 + _ ≤ _; exact Nat.le_of_eq rfl) (hb hby at_262) (fun _ _ => ⟨rfl, e0, hcl, hsl⟩)
  dsimp only [Pt.U, Pt.locs, Pt.cells, Pt.slots] at X431 l431 y431 z431 st431 hQ431
  rw [l431, y431, z431] at X431
  obtain ⟨rfl, N431q, hh431⟩ := hQ431
  have N431 := Fr.app N0 N431q
  have R432 : ∀ tg, Steps p.tables e below (T431.setTop (mkF m 265 #[vI p1, vI p2, vI p3, vI p4, vI p5, vI p6, vI c0, vI c1, vI c2, vI c3, vI nv, vI bd, vR ar, vR ob, vR fo, vR ra, vI (0 : Int32)] [(.int (0 : Nat).toInt32)])) tg → Steps p.tables e below (T0.setTop (mkF m 255 #[vI p1, vI p2, vI p3, vI p4, vI p5, vI p6, vI c0, vI c1, vI c2, vI c3, vI nv, vI bd, vR ar, vR ob, vR fo, vR ra, vI (0 : Int32)] [])) tg := by
    intro tg kt
    refine R430 _ ?_
    refine st431.trans ?_
    exact kt
  clear R430 st431
  have R433 : ∀ tg, Steps p.tables e below (T431.setTop (mkF m 265 #[vI p1, vI p2, vI p3, vI p4, vI p5, vI p6, vI c0, vI c1, vI c2, vI c3, vI nv, vI bd, vR ar, vR ob, vR fo, vR ra, vI (0 : Int32)] [(.int (0 : Int32))])) tg → Steps p.tables e below (T0.setTop (mkF m 255 #[vI p1, vI p2, vI p3, vI p4, vI p5, vI p6, vI c0, vI c1, vI c2, vI c3, vI nv, vI bd, vR ar, vR ob, vR fo, vR ra, vI (0 : Int32)] [])) tg := R432
  have R434 : ∀ tg, Steps p.tables e below (T431.setTop (mkF m 348 #[vI p1, vI p2, vI p3, vI p4, vI p5, vI p6, vI c0, vI c1, vI c2, vI c3, vI nv, vI bd, vR ar, vR ob, vR fo, vR ra, vI (0 : Int32)] [(.int (1 : Int32))])) tg → Steps p.tables e below (T0.setTop (mkF m 255 #[vI p1, vI p2, vI p3, vI p4, vI p5, vI p6, vI c0, vI c1, vI c2, vI c3, vI nv, vI bd, vR ar, vR ob, vR fo, vR ra, vI (0 : Int32)] [])) tg := by
    intro tg kt
    refine R433 _ ?_
    show Steps p.tables e below (T431.setTop (mkF m 265 #[vI p1, vI p2, vI p3, vI p4, vI p5, vI p6, vI c0, vI c1, vI c2, vI c3, vI nv, vI bd, vR ar, vR ob, vR fo, vR ra, vI (0 : Int32)] [(.int (0 : Int32))])) _
    refine XS.iload X431.here hx rfl (hb hby at_265) rfl ?_
    show Steps p.tables e below (T431.setTop (mkF m 267 #[vI p1, vI p2, vI p3, vI p4, vI p5, vI p6, vI c0, vI c1, vI c2, vI c3, vI nv, vI bd, vR ar, vR ob, vR fo, vR ra, vI (0 : Int32)] [(.int (0 : Int32)), (.int (0 : Int32))])) _
    refine XS.icmpYes X431.here hx rfl (pc0 := 267) (pc' := 272) rfl (hb hby at_267) rfl (teq (rfl : (0 : Int32) = (0 : Int32))).1 (by decide) (by decide) ?_
    refine XS.iload X431.here hx rfl (hb hby at_272) rfl ?_
    show Steps p.tables e below (T431.setTop (mkF m 274 #[vI p1, vI p2, vI p3, vI p4, vI p5, vI p6, vI c0, vI c1, vI c2, vI c3, vI nv, vI bd, vR ar, vR ob, vR fo, vR ra, vI (0 : Int32)] [(.int (0 : Int32))])) _
    refine XS.ifYes X431.here hx rfl (pc0 := 274) (pc' := 290) rfl (hb hby at_274) rfl ((if0 _ _).trans (flt (by decide : ¬ ((0 : Int32) < (0 : Int32)))).2.2.2) (by decide) (by decide) ?_
    refine XS.iload X431.here hx rfl (hb hby at_290) rfl ?_
    refine XS.iconst X431.here hx rfl (hb hby at_292) ?_
    show Steps p.tables e below (T431.setTop (mkF m 293 #[vI p1, vI p2, vI p3, vI p4, vI p5, vI p6, vI c0, vI c1, vI c2, vI c3, vI nv, vI bd, vR ar, vR ob, vR fo, vR ra, vI (0 : Int32)] [(.int (1 : Int32)), (.int (0 : Int32))])) _
    refine XS.icmpYes X431.here hx rfl (pc0 := 293) (pc' := 309) rfl (hb hby at_293) rfl (flt (by decide : ¬ ((1 : Int32) < (0 : Int32)))).2.2.2 (by decide) (by decide) ?_
    refine XS.iload X431.here hx rfl (hb hby at_309) rfl ?_
    refine XS.iconst X431.here hx rfl (hb hby at_311) ?_
    show Steps p.tables e below (T431.setTop (mkF m 312 #[vI p1, vI p2, vI p3, vI p4, vI p5, vI p6, vI c0, vI c1, vI c2, vI c3, vI nv, vI bd, vR ar, vR ob, vR fo, vR ra, vI (0 : Int32)] [(.int (2 : Int32)), (.int (0 : Int32))])) _
    refine XS.icmpYes X431.here hx rfl (pc0 := 312) (pc' := 328) rfl (hb hby at_312) rfl (flt (by decide : ¬ ((2 : Int32) < (0 : Int32)))).2.2.2 (by decide) (by decide) ?_
    refine XS.iload X431.here hx rfl (hb hby at_328) rfl ?_
    refine XS.iconst X431.here hx rfl (hb hby at_330) ?_
    show Steps p.tables e below (T431.setTop (mkF m 331 #[vI p1, vI p2, vI p3, vI p4, vI p5, vI p6, vI c0, vI c1, vI c2, vI c3, vI nv, vI bd, vR ar, vR ob, vR fo, vR ra, vI (0 : Int32)] [(.int (3 : Int32)), (.int (0 : Int32))])) _
    refine XS.icmpYes X431.here hx rfl (pc0 := 331) (pc' := 347) rfl (hb hby at_331) rfl (flt (by decide : ¬ ((3 : Int32) < (0 : Int32)))).2.2.2 (by decide) (by decide) ?_
    refine XS.iconst X431.here hx rfl (hb hby at_347) ?_
    exact kt
  clear R433
  exact ⟨_, _, X431, hh431, N431, R434⟩
theorem pd_21 : parseMethodDescriptor "(I)C" = some ⟨[.int], some .char⟩ := by decide +kernel
set_option maxRecDepth 65536 in
set_option maxHeartbeats 40000000 in
theorem own_t255_1 {p : Program} {l : Launch} {e : Env} {s : State} {m : MethodId} {args : Array Value} {below : List Frame} {meth : Method} {c : Code} {Z : State} {a0 : Array Value} {n0 : Nat} {T0 : State} {locs : List Loc} {h0 : Heap} (cl : Nat) (sl : Nat) (nv : Int32) (p1 : Int32) (p2 : Int32) (p3 : Int32) (p4 : Int32) (p5 : Int32) (p6 : Int32) (c0 : Int32) (c1 : Int32) (c2 : Int32) (c3 : Int32) (bd : Int32) (ar : Addr) (ob : Addr) (fo : Addr) (ra : Addr) (tb : Addr) (g : Nat → Int32) (cs : Int32) (vf : Value) (X0 : Stand p l e room_1 s m args below meth c T0 locs cl sl) (hx : p.tables.exec = Jvm.exec) (hZ : Z.Warmed39 s.vm) (hw : ∀ d ∈ tables_1, d.before a0 Z = true) (hby : c.code = code) (hml : c.maxLocals = 17) (hown : s.vm.findClass "com/example/travessia/travessia/isis/IsisFieldLeadingTextPinLaw" = some m.cls) (hcl : cl + 0 ≤ room_1.cells) (hsl : sl + 0 ≤ room_1.slots) (e0 : T0.heap = h0) (N0 : Fr n0 locs) (Z0 : n0 ≤ h0.size) (SC : Sta Z Z.heap "java/lang/String" "COMPACT_STRINGS" "Z" (.int cs)) (OL : Old Z n0 h0) (hcs : ¬ (cs = (0 : Int32))) (SF : Sta Z Z.heap "jdk/internal/util/Preconditions" "SIOOBE_FORMATTER" "Ljava/util/function/BiFunction;" vf) (hvf : vf.isRef = true) (E1 : Exa Z h0 ra "java/lang/String") (Fc : Fld Z h0 ra "java/lang/String" "coder" "B" (.int (0 : Int32))) (Fv : Fld Z h0 ra "java/lang/String" "value" "[B" (.ref tb)) (VA : AV Z h0 tb .byte 1 (fun j => .int (g j))) (g0 : own_ch (g 0) = c0) :
    ∃ (T' : State) (L' : List Loc), Stand p l e room_1 s m args below meth c T' L' cl sl ∧ T'.heap = h0 ∧ Fr n0 L' ∧ ∀ tg, Steps p.tables e below (T'.setTop (mkF m 348 #[vI p1, vI p2, vI p3, vI p4, vI p5, vI p6, vI c0, vI c1, vI c2, vI c3, vI nv, vI bd, vR ar, vR ob, vR fo, vR ra, vI (1 : Int32)] [(.int (1 : Int32))])) tg → Steps p.tables e below (T0.setTop (mkF m 255 #[vI p1, vI p2, vI p3, vI p4, vI p5, vI p6, vI c0, vI c1, vI c2, vI c3, vI nv, vI bd, vR ar, vR ob, vR fo, vR ra, vI (1 : Int32)] [])) tg := by
  have R435 : ∀ tg, Steps p.tables e below (T0.setTop (mkF m 262 #[vI p1, vI p2, vI p3, vI p4, vI p5, vI p6, vI c0, vI c1, vI c2, vI c3, vI nv, vI bd, vR ar, vR ob, vR fo, vR ra, vI (1 : Int32)] [(.ref ra)])) tg → Steps p.tables e below (T0.setTop (mkF m 255 #[vI p1, vI p2, vI p3, vI p4, vI p5, vI p6, vI c0, vI c1, vI c2, vI c3, vI nv, vI bd, vR ar, vR ob, vR fo, vR ra, vI (1 : Int32)] [])) tg := by
    intro tg kt
    refine (fun (t : State) (k : Steps p.tables e below (T0.setTop (mkF m 255 #[vI p1, vI p2, vI p3, vI p4, vI p5, vI p6, vI c0, vI c1, vI c2, vI c3, vI nv, vI bd, vR ar, vR ob, vR fo, vR ra, vI (1 : Int32)] [])) t) => k) _ ?_
    show Steps p.tables e below (T0.setTop (mkF m 255 #[vI p1, vI p2, vI p3, vI p4, vI p5, vI p6, vI c0, vI c1, vI c2, vI c3, vI nv, vI bd, vR ar, vR ob, vR fo, vR ra, vI (1 : Int32)] [])) _
    refine XS.aload X0.here hx rfl (hb hby at_255) rfl rfl ?_
    show Steps p.tables e below (T0.setTop (mkF m 257 #[vI p1, vI p2, vI p3, vI p4, vI p5, vI p6, vI c0, vI c1, vI c2, vI c3, vI nv, vI bd, vR ar, vR ob, vR fo, vR ra, vI (1 : Int32)] [(.ref ra)])) _
    refine XS.ifnullNo X0.here hx rfl (hb hby at_257) rfl ?_
    refine XS.aload X0.here hx rfl (hb hby at_260) rfl rfl ?_
    exact kt
  obtain ⟨cq436, kq436, q436a, q436b, q436c⟩ := isOf hZ e0 E1
  obtain ⟨_, _, ⟨T436, L436, k436, n436⟩, -, X436, ⟨Lc436, hQ436, l436, y436, z436⟩, st436⟩ := X0.virtualBack hx (y := (⟨"java/lang/String", "length", "()I"⟩ : MethodName)) (z := (⟨"java/lang/String", "length", "()I"⟩ : MethodName)) hown (mvT hZ (hw _ (List.mem_of_getElem? (i := 119) rfl))) (mvT hZ (hw _ (List.mem_of_getElem? (i := 74) rfl))) (notFace_of_selects (args := #[]) (mvT hZ (hw _ (List.mem_of_getElem? (i := 76) rfl)))) (mvT hZ (hw _ (List.mem_of_getElem? (i := 76) rfl))) (mvT hZ (hw _ (List.mem_of_getElem? (i := 75) rfl))) (by decide) (backOf (W := 0) (rm_len l Z a0 hw [] ra tb 1 g cs h0 n0 Z0 SC OL hcs E1 Fc Fv VA) hZ (hw _ (List.mem_of_getElem? (i := 77) rfl)) (hw _ (List.mem_of_getElem? (i := 8) rfl)) (by decide) (by decide)) q436a q436c (g := (mkF m 262 #[vI p1, vI p2, vI p3, vI p4, vI p5, vI p6, vI c0, vI c1, vI c2, vI c3, vI nv, vI bd, vR ar, vR ob, vR fo, vR ra, vI (1 : Int32)] [(.ref ra)])) rfl (by rw [hml]; rfl) (Steps.refl _) (argsL := []) (rest := []) (lenOf pd_13 rfl) rfl (by show 2 * 0 + _ ≤ _; exact Nat.le_of_eq rfl) (hb hby at_262) (fun _ _ => ⟨rfl, e0, hcl, hsl⟩)
  dsimp only [Pt.U, Pt.locs, Pt.cells, Pt.slots] at X436 l436 y436 z436 st436 hQ436
  rw [l436, y436, z436] at X436
  obtain ⟨rfl, N436q, hh436⟩ := hQ436
  have N436 := Fr.app N0 N436q
  have R437 : ∀ tg, Steps p.tables e below (T436.setTop (mkF m 265 #[vI p1, vI p2, vI p3, vI p4, vI p5, vI p6, vI c0, vI c1, vI c2, vI c3, vI nv, vI bd, vR ar, vR ob, vR fo, vR ra, vI (1 : Int32)] [(.int (1 : Nat).toInt32)])) tg → Steps p.tables e below (T0.setTop (mkF m 255 #[vI p1, vI p2, vI p3, vI p4, vI p5, vI p6, vI c0, vI c1, vI c2, vI c3, vI nv, vI bd, vR ar, vR ob, vR fo, vR ra, vI (1 : Int32)] [])) tg := by
    intro tg kt
    refine R435 _ ?_
    refine st436.trans ?_
    exact kt
  clear R435 st436
  have R438 : ∀ tg, Steps p.tables e below (T436.setTop (mkF m 265 #[vI p1, vI p2, vI p3, vI p4, vI p5, vI p6, vI c0, vI c1, vI c2, vI c3, vI nv, vI bd, vR ar, vR ob, vR fo, vR ra, vI (1 : Int32)] [(.int (1 : Int32))])) tg → Steps p.tables e below (T0.setTop (mkF m 255 #[vI p1, vI p2, vI p3, vI p4, vI p5, vI p6, vI c0, vI c1, vI c2, vI c3, vI nv, vI bd, vR ar, vR ob, vR fo, vR ra, vI (1 : Int32)] [])) tg := R437
  have R439 : ∀ tg, Steps p.tables e below (T436.setTop (mkF m 280 #[vI p1, vI p2, vI p3, vI p4, vI p5, vI p6, vI c0, vI c1, vI c2, vI c3, vI nv, vI bd, vR ar, vR ob, vR fo, vR ra, vI (1 : Int32)] [(.int (0 : Int32)), (.ref ra)])) tg → Steps p.tables e below (T0.setTop (mkF m 255 #[vI p1, vI p2, vI p3, vI p4, vI p5, vI p6, vI c0, vI c1, vI c2, vI c3, vI nv, vI bd, vR ar, vR ob, vR fo, vR ra, vI (1 : Int32)] [])) tg := by
    intro tg kt
    refine R438 _ ?_
    show Steps p.tables e below (T436.setTop (mkF m 265 #[vI p1, vI p2, vI p3, vI p4, vI p5, vI p6, vI c0, vI c1, vI c2, vI c3, vI nv, vI bd, vR ar, vR ob, vR fo, vR ra, vI (1 : Int32)] [(.int (1 : Int32))])) _
    refine XS.iload X436.here hx rfl (hb hby at_265) rfl ?_
    show Steps p.tables e below (T436.setTop (mkF m 267 #[vI p1, vI p2, vI p3, vI p4, vI p5, vI p6, vI c0, vI c1, vI c2, vI c3, vI nv, vI bd, vR ar, vR ob, vR fo, vR ra, vI (1 : Int32)] [(.int (1 : Int32)), (.int (1 : Int32))])) _
    refine XS.icmpYes X436.here hx rfl (pc0 := 267) (pc' := 272) rfl (hb hby at_267) rfl (teq (rfl : (1 : Int32) = (1 : Int32))).1 (by decide) (by decide) ?_
    refine XS.iload X436.here hx rfl (hb hby at_272) rfl ?_
    show Steps p.tables e below (T436.setTop (mkF m 274 #[vI p1, vI p2, vI p3, vI p4, vI p5, vI p6, vI c0, vI c1, vI c2, vI c3, vI nv, vI bd, vR ar, vR ob, vR fo, vR ra, vI (1 : Int32)] [(.int (1 : Int32))])) _
    refine XS.ifNo X436.here hx rfl (hb hby at_274) rfl ((if0 _ _).trans (tlt (by decide : (0 : Int32) < (1 : Int32))).2.2.2) ?_
    refine XS.aload X436.here hx rfl (hb hby at_277) rfl rfl ?_
    refine XS.iconst X436.here hx rfl (hb hby at_279) ?_
    exact kt
  clear R438
  obtain ⟨cq440, kq440, q440a, q440b, q440c⟩ := isOf hZ hh436 E1
  obtain ⟨_, _, ⟨T440, L440, k440, n440⟩, -, X440, ⟨Lc440, hQ440, l440, y440, z440⟩, st440⟩ := X436.virtualBack hx (y := (⟨"java/lang/String", "charAt", "(I)C"⟩ : MethodName)) (z := (⟨"java/lang/String", "charAt", "(I)C"⟩ : MethodName)) hown (mvT hZ (hw _ (List.mem_of_getElem? (i := 139) rfl))) (mvT hZ (hw _ (List.mem_of_getElem? (i := 140) rfl))) (notFace_of_selects (args := #[]) (mvT hZ (hw _ (List.mem_of_getElem? (i := 142) rfl)))) (mvT hZ (hw _ (List.mem_of_getElem? (i := 142) rfl))) (mvT hZ (hw _ (List.mem_of_getElem? (i := 141) rfl))) (by decide) (backOf (W := 0) (rm_cha l Z a0 hw [] ra (0 : Int32) tb cs 1 g 0 vf h0 n0 Z0 SC OL hcs SF hvf Fc Fv E1 VA (by decide) (by decide) rfl (by decide)) hZ (hw _ (List.mem_of_getElem? (i := 143) rfl)) (hw _ (List.mem_of_getElem? (i := 8) rfl)) (by decide) (by decide)) q440a q440c (g := (mkF m 280 #[vI p1, vI p2, vI p3, vI p4, vI p5, vI p6, vI c0, vI c1, vI c2, vI c3, vI nv, vI bd, vR ar, vR ob, vR fo, vR ra, vI (1 : Int32)] [(.int (0 : Int32)), (.ref ra)])) rfl (by rw [hml]; rfl) (Steps.refl _) (argsL := [(.int (0 : Int32))]) (rest := []) (lenOf pd_21 rfl) rfl (by show 2 * 0 + _ ≤ _; exact Nat.le_of_eq rfl) (hb hby at_280) (fun _ _ => ⟨rfl, hh436, hcl, hsl⟩)
  dsimp only [Pt.U, Pt.locs, Pt.cells, Pt.slots] at X440 l440 y440 z440 st440 hQ440
  rw [l440, y440, z440] at X440
  obtain ⟨rfl, N440q, hh440⟩ := hQ440
  have N440 := Fr.app N436 N440q
  have R441 : ∀ tg, Steps p.tables e below (T440.setTop (mkF m 348 #[vI p1, vI p2, vI p3, vI p4, vI p5, vI p6, vI c0, vI c1, vI c2, vI c3, vI nv, vI bd, vR ar, vR ob, vR fo, vR ra, vI (1 : Int32)] [(.int (1 : Int32))])) tg → Steps p.tables e below (T0.setTop (mkF m 255 #[vI p1, vI p2, vI p3, vI p4, vI p5, vI p6, vI c0, vI c1, vI c2, vI c3, vI nv, vI bd, vR ar, vR ob, vR fo, vR ra, vI (1 : Int32)] [])) tg := by
    intro tg kt
    refine R439 _ ?_
    refine st440.trans ?_
    show Steps p.tables e below (T440.setTop (mkF m 283 #[vI p1, vI p2, vI p3, vI p4, vI p5, vI p6, vI c0, vI c1, vI c2, vI c3, vI nv, vI bd, vR ar, vR ob, vR fo, vR ra, vI (1 : Int32)] [(.int (own_ch (g 0)))])) _
    refine XS.iload X440.here hx rfl (hb hby at_283) rfl ?_
    show Steps p.tables e below (T440.setTop (mkF m 285 #[vI p1, vI p2, vI p3, vI p4, vI p5, vI p6, vI c0, vI c1, vI c2, vI c3, vI nv, vI bd, vR ar, vR ob, vR fo, vR ra, vI (1 : Int32)] [(.int c0), (.int (own_ch (g 0)))])) _
    refine XS.icmpYes X440.here hx rfl (pc0 := 285) (pc' := 290) rfl (hb hby at_285) rfl (teq (g0 : (own_ch (g 0)) = c0)).1 (by decide) (by decide) ?_
    refine XS.iload X440.here hx rfl (hb hby at_290) rfl ?_
    refine XS.iconst X440.here hx rfl (hb hby at_292) ?_
    show Steps p.tables e below (T440.setTop (mkF m 293 #[vI p1, vI p2, vI p3, vI p4, vI p5, vI p6, vI c0, vI c1, vI c2, vI c3, vI nv, vI bd, vR ar, vR ob, vR fo, vR ra, vI (1 : Int32)] [(.int (1 : Int32)), (.int (1 : Int32))])) _
    refine XS.icmpYes X440.here hx rfl (pc0 := 293) (pc' := 309) rfl (hb hby at_293) rfl (flt (by decide : ¬ ((1 : Int32) < (1 : Int32)))).2.2.2 (by decide) (by decide) ?_
    refine XS.iload X440.here hx rfl (hb hby at_309) rfl ?_
    refine XS.iconst X440.here hx rfl (hb hby at_311) ?_
    show Steps p.tables e below (T440.setTop (mkF m 312 #[vI p1, vI p2, vI p3, vI p4, vI p5, vI p6, vI c0, vI c1, vI c2, vI c3, vI nv, vI bd, vR ar, vR ob, vR fo, vR ra, vI (1 : Int32)] [(.int (2 : Int32)), (.int (1 : Int32))])) _
    refine XS.icmpYes X440.here hx rfl (pc0 := 312) (pc' := 328) rfl (hb hby at_312) rfl (flt (by decide : ¬ ((2 : Int32) < (1 : Int32)))).2.2.2 (by decide) (by decide) ?_
    refine XS.iload X440.here hx rfl (hb hby at_328) rfl ?_
    refine XS.iconst X440.here hx rfl (hb hby at_330) ?_
    show Steps p.tables e below (T440.setTop (mkF m 331 #[vI p1, vI p2, vI p3, vI p4, vI p5, vI p6, vI c0, vI c1, vI c2, vI c3, vI nv, vI bd, vR ar, vR ob, vR fo, vR ra, vI (1 : Int32)] [(.int (3 : Int32)), (.int (1 : Int32))])) _
    refine XS.icmpYes X440.here hx rfl (pc0 := 331) (pc' := 347) rfl (hb hby at_331) rfl (flt (by decide : ¬ ((3 : Int32) < (1 : Int32)))).2.2.2 (by decide) (by decide) ?_
    refine XS.iconst X440.here hx rfl (hb hby at_347) ?_
    exact kt
  clear R439 st440
  exact ⟨_, _, X440, hh440, N440, R441⟩
set_option maxRecDepth 65536 in
set_option maxHeartbeats 40000000 in
theorem own_t255_2 {p : Program} {l : Launch} {e : Env} {s : State} {m : MethodId} {args : Array Value} {below : List Frame} {meth : Method} {c : Code} {Z : State} {a0 : Array Value} {n0 : Nat} {T0 : State} {locs : List Loc} {h0 : Heap} (cl : Nat) (sl : Nat) (nv : Int32) (p1 : Int32) (p2 : Int32) (p3 : Int32) (p4 : Int32) (p5 : Int32) (p6 : Int32) (c0 : Int32) (c1 : Int32) (c2 : Int32) (c3 : Int32) (bd : Int32) (ar : Addr) (ob : Addr) (fo : Addr) (ra : Addr) (tb : Addr) (g : Nat → Int32) (cs : Int32) (vf : Value) (X0 : Stand p l e room_1 s m args below meth c T0 locs cl sl) (hx : p.tables.exec = Jvm.exec) (hZ : Z.Warmed39 s.vm) (hw : ∀ d ∈ tables_1, d.before a0 Z = true) (hby : c.code = code) (hml : c.maxLocals = 17) (hown : s.vm.findClass "com/example/travessia/travessia/isis/IsisFieldLeadingTextPinLaw" = some m.cls) (hcl : cl + 0 ≤ room_1.cells) (hsl : sl + 0 ≤ room_1.slots) (e0 : T0.heap = h0) (N0 : Fr n0 locs) (Z0 : n0 ≤ h0.size) (SC : Sta Z Z.heap "java/lang/String" "COMPACT_STRINGS" "Z" (.int cs)) (OL : Old Z n0 h0) (hcs : ¬ (cs = (0 : Int32))) (SF : Sta Z Z.heap "jdk/internal/util/Preconditions" "SIOOBE_FORMATTER" "Ljava/util/function/BiFunction;" vf) (hvf : vf.isRef = true) (E1 : Exa Z h0 ra "java/lang/String") (Fc : Fld Z h0 ra "java/lang/String" "coder" "B" (.int (0 : Int32))) (Fv : Fld Z h0 ra "java/lang/String" "value" "[B" (.ref tb)) (VA : AV Z h0 tb .byte 2 (fun j => .int (g j))) (g0 : own_ch (g 0) = c0) (g1 : own_ch (g 1) = c1) :
    ∃ (T' : State) (L' : List Loc), Stand p l e room_1 s m args below meth c T' L' cl sl ∧ T'.heap = h0 ∧ Fr n0 L' ∧ ∀ tg, Steps p.tables e below (T'.setTop (mkF m 348 #[vI p1, vI p2, vI p3, vI p4, vI p5, vI p6, vI c0, vI c1, vI c2, vI c3, vI nv, vI bd, vR ar, vR ob, vR fo, vR ra, vI (2 : Int32)] [(.int (1 : Int32))])) tg → Steps p.tables e below (T0.setTop (mkF m 255 #[vI p1, vI p2, vI p3, vI p4, vI p5, vI p6, vI c0, vI c1, vI c2, vI c3, vI nv, vI bd, vR ar, vR ob, vR fo, vR ra, vI (2 : Int32)] [])) tg := by
  have R442 : ∀ tg, Steps p.tables e below (T0.setTop (mkF m 262 #[vI p1, vI p2, vI p3, vI p4, vI p5, vI p6, vI c0, vI c1, vI c2, vI c3, vI nv, vI bd, vR ar, vR ob, vR fo, vR ra, vI (2 : Int32)] [(.ref ra)])) tg → Steps p.tables e below (T0.setTop (mkF m 255 #[vI p1, vI p2, vI p3, vI p4, vI p5, vI p6, vI c0, vI c1, vI c2, vI c3, vI nv, vI bd, vR ar, vR ob, vR fo, vR ra, vI (2 : Int32)] [])) tg := by
    intro tg kt
    refine (fun (t : State) (k : Steps p.tables e below (T0.setTop (mkF m 255 #[vI p1, vI p2, vI p3, vI p4, vI p5, vI p6, vI c0, vI c1, vI c2, vI c3, vI nv, vI bd, vR ar, vR ob, vR fo, vR ra, vI (2 : Int32)] [])) t) => k) _ ?_
    show Steps p.tables e below (T0.setTop (mkF m 255 #[vI p1, vI p2, vI p3, vI p4, vI p5, vI p6, vI c0, vI c1, vI c2, vI c3, vI nv, vI bd, vR ar, vR ob, vR fo, vR ra, vI (2 : Int32)] [])) _
    refine XS.aload X0.here hx rfl (hb hby at_255) rfl rfl ?_
    show Steps p.tables e below (T0.setTop (mkF m 257 #[vI p1, vI p2, vI p3, vI p4, vI p5, vI p6, vI c0, vI c1, vI c2, vI c3, vI nv, vI bd, vR ar, vR ob, vR fo, vR ra, vI (2 : Int32)] [(.ref ra)])) _
    refine XS.ifnullNo X0.here hx rfl (hb hby at_257) rfl ?_
    refine XS.aload X0.here hx rfl (hb hby at_260) rfl rfl ?_
    exact kt
  obtain ⟨cq443, kq443, q443a, q443b, q443c⟩ := isOf hZ e0 E1
  obtain ⟨_, _, ⟨T443, L443, k443, n443⟩, -, X443, ⟨Lc443, hQ443, l443, y443, z443⟩, st443⟩ := X0.virtualBack hx (y := (⟨"java/lang/String", "length", "()I"⟩ : MethodName)) (z := (⟨"java/lang/String", "length", "()I"⟩ : MethodName)) hown (mvT hZ (hw _ (List.mem_of_getElem? (i := 119) rfl))) (mvT hZ (hw _ (List.mem_of_getElem? (i := 74) rfl))) (notFace_of_selects (args := #[]) (mvT hZ (hw _ (List.mem_of_getElem? (i := 76) rfl)))) (mvT hZ (hw _ (List.mem_of_getElem? (i := 76) rfl))) (mvT hZ (hw _ (List.mem_of_getElem? (i := 75) rfl))) (by decide) (backOf (W := 0) (rm_len l Z a0 hw [] ra tb 2 g cs h0 n0 Z0 SC OL hcs E1 Fc Fv VA) hZ (hw _ (List.mem_of_getElem? (i := 77) rfl)) (hw _ (List.mem_of_getElem? (i := 8) rfl)) (by decide) (by decide)) q443a q443c (g := (mkF m 262 #[vI p1, vI p2, vI p3, vI p4, vI p5, vI p6, vI c0, vI c1, vI c2, vI c3, vI nv, vI bd, vR ar, vR ob, vR fo, vR ra, vI (2 : Int32)] [(.ref ra)])) rfl (by rw [hml]; rfl) (Steps.refl _) (argsL := []) (rest := []) (lenOf pd_13 rfl) rfl (by show 2 * 0 + _ ≤ _; exact Nat.le_of_eq rfl) (hb hby at_262) (fun _ _ => ⟨rfl, e0, hcl, hsl⟩)
  dsimp only [Pt.U, Pt.locs, Pt.cells, Pt.slots] at X443 l443 y443 z443 st443 hQ443
  rw [l443, y443, z443] at X443
  obtain ⟨rfl, N443q, hh443⟩ := hQ443
  have N443 := Fr.app N0 N443q
  have R444 : ∀ tg, Steps p.tables e below (T443.setTop (mkF m 265 #[vI p1, vI p2, vI p3, vI p4, vI p5, vI p6, vI c0, vI c1, vI c2, vI c3, vI nv, vI bd, vR ar, vR ob, vR fo, vR ra, vI (2 : Int32)] [(.int (2 : Nat).toInt32)])) tg → Steps p.tables e below (T0.setTop (mkF m 255 #[vI p1, vI p2, vI p3, vI p4, vI p5, vI p6, vI c0, vI c1, vI c2, vI c3, vI nv, vI bd, vR ar, vR ob, vR fo, vR ra, vI (2 : Int32)] [])) tg := by
    intro tg kt
    refine R442 _ ?_
    refine st443.trans ?_
    exact kt
  clear R442 st443
  have R445 : ∀ tg, Steps p.tables e below (T443.setTop (mkF m 265 #[vI p1, vI p2, vI p3, vI p4, vI p5, vI p6, vI c0, vI c1, vI c2, vI c3, vI nv, vI bd, vR ar, vR ob, vR fo, vR ra, vI (2 : Int32)] [(.int (2 : Int32))])) tg → Steps p.tables e below (T0.setTop (mkF m 255 #[vI p1, vI p2, vI p3, vI p4, vI p5, vI p6, vI c0, vI c1, vI c2, vI c3, vI nv, vI bd, vR ar, vR ob, vR fo, vR ra, vI (2 : Int32)] [])) tg := R444
  have R446 : ∀ tg, Steps p.tables e below (T443.setTop (mkF m 280 #[vI p1, vI p2, vI p3, vI p4, vI p5, vI p6, vI c0, vI c1, vI c2, vI c3, vI nv, vI bd, vR ar, vR ob, vR fo, vR ra, vI (2 : Int32)] [(.int (0 : Int32)), (.ref ra)])) tg → Steps p.tables e below (T0.setTop (mkF m 255 #[vI p1, vI p2, vI p3, vI p4, vI p5, vI p6, vI c0, vI c1, vI c2, vI c3, vI nv, vI bd, vR ar, vR ob, vR fo, vR ra, vI (2 : Int32)] [])) tg := by
    intro tg kt
    refine R445 _ ?_
    show Steps p.tables e below (T443.setTop (mkF m 265 #[vI p1, vI p2, vI p3, vI p4, vI p5, vI p6, vI c0, vI c1, vI c2, vI c3, vI nv, vI bd, vR ar, vR ob, vR fo, vR ra, vI (2 : Int32)] [(.int (2 : Int32))])) _
    refine XS.iload X443.here hx rfl (hb hby at_265) rfl ?_
    show Steps p.tables e below (T443.setTop (mkF m 267 #[vI p1, vI p2, vI p3, vI p4, vI p5, vI p6, vI c0, vI c1, vI c2, vI c3, vI nv, vI bd, vR ar, vR ob, vR fo, vR ra, vI (2 : Int32)] [(.int (2 : Int32)), (.int (2 : Int32))])) _
    refine XS.icmpYes X443.here hx rfl (pc0 := 267) (pc' := 272) rfl (hb hby at_267) rfl (teq (rfl : (2 : Int32) = (2 : Int32))).1 (by decide) (by decide) ?_
    refine XS.iload X443.here hx rfl (hb hby at_272) rfl ?_
    show Steps p.tables e below (T443.setTop (mkF m 274 #[vI p1, vI p2, vI p3, vI p4, vI p5, vI p6, vI c0, vI c1, vI c2, vI c3, vI nv, vI bd, vR ar, vR ob, vR fo, vR ra, vI (2 : Int32)] [(.int (2 : Int32))])) _
    refine XS.ifNo X443.here hx rfl (hb hby at_274) rfl ((if0 _ _).trans (tlt (by decide : (0 : Int32) < (2 : Int32))).2.2.2) ?_
    refine XS.aload X443.here hx rfl (hb hby at_277) rfl rfl ?_
    refine XS.iconst X443.here hx rfl (hb hby at_279) ?_
    exact kt
  clear R445
  obtain ⟨cq447, kq447, q447a, q447b, q447c⟩ := isOf hZ hh443 E1
  obtain ⟨_, _, ⟨T447, L447, k447, n447⟩, -, X447, ⟨Lc447, hQ447, l447, y447, z447⟩, st447⟩ := X443.virtualBack hx (y := (⟨"java/lang/String", "charAt", "(I)C"⟩ : MethodName)) (z := (⟨"java/lang/String", "charAt", "(I)C"⟩ : MethodName)) hown (mvT hZ (hw _ (List.mem_of_getElem? (i := 139) rfl))) (mvT hZ (hw _ (List.mem_of_getElem? (i := 140) rfl))) (notFace_of_selects (args := #[]) (mvT hZ (hw _ (List.mem_of_getElem? (i := 142) rfl)))) (mvT hZ (hw _ (List.mem_of_getElem? (i := 142) rfl))) (mvT hZ (hw _ (List.mem_of_getElem? (i := 141) rfl))) (by decide) (backOf (W := 0) (rm_cha l Z a0 hw [] ra (0 : Int32) tb cs 2 g 0 vf h0 n0 Z0 SC OL hcs SF hvf Fc Fv E1 VA (by decide) (by decide) rfl (by decide)) hZ (hw _ (List.mem_of_getElem? (i := 143) rfl)) (hw _ (List.mem_of_getElem? (i := 8) rfl)) (by decide) (by decide)) q447a q447c (g := (mkF m 280 #[vI p1, vI p2, vI p3, vI p4, vI p5, vI p6, vI c0, vI c1, vI c2, vI c3, vI nv, vI bd, vR ar, vR ob, vR fo, vR ra, vI (2 : Int32)] [(.int (0 : Int32)), (.ref ra)])) rfl (by rw [hml]; rfl) (Steps.refl _) (argsL := [(.int (0 : Int32))]) (rest := []) (lenOf pd_21 rfl) rfl (by show 2 * 0 + _ ≤ _; exact Nat.le_of_eq rfl) (hb hby at_280) (fun _ _ => ⟨rfl, hh443, hcl, hsl⟩)
  dsimp only [Pt.U, Pt.locs, Pt.cells, Pt.slots] at X447 l447 y447 z447 st447 hQ447
  rw [l447, y447, z447] at X447
  obtain ⟨rfl, N447q, hh447⟩ := hQ447
  have N447 := Fr.app N443 N447q
  have R448 : ∀ tg, Steps p.tables e below (T447.setTop (mkF m 299 #[vI p1, vI p2, vI p3, vI p4, vI p5, vI p6, vI c0, vI c1, vI c2, vI c3, vI nv, vI bd, vR ar, vR ob, vR fo, vR ra, vI (2 : Int32)] [(.int (1 : Int32)), (.ref ra)])) tg → Steps p.tables e below (T0.setTop (mkF m 255 #[vI p1, vI p2, vI p3, vI p4, vI p5, vI p6, vI c0, vI c1, vI c2, vI c3, vI nv, vI bd, vR ar, vR ob, vR fo, vR ra, vI (2 : Int32)] [])) tg := by
    intro tg kt
    refine R446 _ ?_
    refine st447.trans ?_
    show Steps p.tables e below (T447.setTop (mkF m 283 #[vI p1, vI p2, vI p3, vI p4, vI p5, vI p6, vI c0, vI c1, vI c2, vI c3, vI nv, vI bd, vR ar, vR ob, vR fo, vR ra, vI (2 : Int32)] [(.int (own_ch (g 0)))])) _
    refine XS.iload X447.here hx rfl (hb hby at_283) rfl ?_
    show Steps p.tables e below (T447.setTop (mkF m 285 #[vI p1, vI p2, vI p3, vI p4, vI p5, vI p6, vI c0, vI c1, vI c2, vI c3, vI nv, vI bd, vR ar, vR ob, vR fo, vR ra, vI (2 : Int32)] [(.int c0), (.int (own_ch (g 0)))])) _
    refine XS.icmpYes X447.here hx rfl (pc0 := 285) (pc' := 290) rfl (hb hby at_285) rfl (teq (g0 : (own_ch (g 0)) = c0)).1 (by decide) (by decide) ?_
    refine XS.iload X447.here hx rfl (hb hby at_290) rfl ?_
    refine XS.iconst X447.here hx rfl (hb hby at_292) ?_
    show Steps p.tables e below (T447.setTop (mkF m 293 #[vI p1, vI p2, vI p3, vI p4, vI p5, vI p6, vI c0, vI c1, vI c2, vI c3, vI nv, vI bd, vR ar, vR ob, vR fo, vR ra, vI (2 : Int32)] [(.int (1 : Int32)), (.int (2 : Int32))])) _
    refine XS.icmpNo X447.here hx rfl (hb hby at_293) rfl (tlt (by decide : (1 : Int32) < (2 : Int32))).2.2.2 ?_
    refine XS.aload X447.here hx rfl (hb hby at_296) rfl rfl ?_
    refine XS.iconst X447.here hx rfl (hb hby at_298) ?_
    exact kt
  clear R446 st447
  obtain ⟨cq449, kq449, q449a, q449b, q449c⟩ := isOf hZ hh447 E1
  obtain ⟨_, _, ⟨T449, L449, k449, n449⟩, -, X449, ⟨Lc449, hQ449, l449, y449, z449⟩, st449⟩ := X447.virtualBack hx (y := (⟨"java/lang/String", "charAt", "(I)C"⟩ : MethodName)) (z := (⟨"java/lang/String", "charAt", "(I)C"⟩ : MethodName)) hown (mvT hZ (hw _ (List.mem_of_getElem? (i := 139) rfl))) (mvT hZ (hw _ (List.mem_of_getElem? (i := 140) rfl))) (notFace_of_selects (args := #[]) (mvT hZ (hw _ (List.mem_of_getElem? (i := 142) rfl)))) (mvT hZ (hw _ (List.mem_of_getElem? (i := 142) rfl))) (mvT hZ (hw _ (List.mem_of_getElem? (i := 141) rfl))) (by decide) (backOf (W := 0) (rm_cha l Z a0 hw [] ra (1 : Int32) tb cs 2 g 1 vf h0 n0 Z0 SC OL hcs SF hvf Fc Fv E1 VA (by decide) (by decide) rfl (by decide)) hZ (hw _ (List.mem_of_getElem? (i := 143) rfl)) (hw _ (List.mem_of_getElem? (i := 8) rfl)) (by decide) (by decide)) q449a q449c (g := (mkF m 299 #[vI p1, vI p2, vI p3, vI p4, vI p5, vI p6, vI c0, vI c1, vI c2, vI c3, vI nv, vI bd, vR ar, vR ob, vR fo, vR ra, vI (2 : Int32)] [(.int (1 : Int32)), (.ref ra)])) rfl (by rw [hml]; rfl) (Steps.refl _) (argsL := [(.int (1 : Int32))]) (rest := []) (lenOf pd_21 rfl) rfl (by show 2 * 0 + _ ≤ _; exact Nat.le_of_eq rfl) (hb hby at_299) (fun _ _ => ⟨rfl, hh447, hcl, hsl⟩)
  dsimp only [Pt.U, Pt.locs, Pt.cells, Pt.slots] at X449 l449 y449 z449 st449 hQ449
  rw [l449, y449, z449] at X449
  obtain ⟨rfl, N449q, hh449⟩ := hQ449
  have N449 := Fr.app N447 N449q
  have R450 : ∀ tg, Steps p.tables e below (T449.setTop (mkF m 348 #[vI p1, vI p2, vI p3, vI p4, vI p5, vI p6, vI c0, vI c1, vI c2, vI c3, vI nv, vI bd, vR ar, vR ob, vR fo, vR ra, vI (2 : Int32)] [(.int (1 : Int32))])) tg → Steps p.tables e below (T0.setTop (mkF m 255 #[vI p1, vI p2, vI p3, vI p4, vI p5, vI p6, vI c0, vI c1, vI c2, vI c3, vI nv, vI bd, vR ar, vR ob, vR fo, vR ra, vI (2 : Int32)] [])) tg := by
    intro tg kt
    refine R448 _ ?_
    refine st449.trans ?_
    show Steps p.tables e below (T449.setTop (mkF m 302 #[vI p1, vI p2, vI p3, vI p4, vI p5, vI p6, vI c0, vI c1, vI c2, vI c3, vI nv, vI bd, vR ar, vR ob, vR fo, vR ra, vI (2 : Int32)] [(.int (own_ch (g 1)))])) _
    refine XS.iload X449.here hx rfl (hb hby at_302) rfl ?_
    show Steps p.tables e below (T449.setTop (mkF m 304 #[vI p1, vI p2, vI p3, vI p4, vI p5, vI p6, vI c0, vI c1, vI c2, vI c3, vI nv, vI bd, vR ar, vR ob, vR fo, vR ra, vI (2 : Int32)] [(.int c1), (.int (own_ch (g 1)))])) _
    refine XS.icmpYes X449.here hx rfl (pc0 := 304) (pc' := 309) rfl (hb hby at_304) rfl (teq (g1 : (own_ch (g 1)) = c1)).1 (by decide) (by decide) ?_
    refine XS.iload X449.here hx rfl (hb hby at_309) rfl ?_
    refine XS.iconst X449.here hx rfl (hb hby at_311) ?_
    show Steps p.tables e below (T449.setTop (mkF m 312 #[vI p1, vI p2, vI p3, vI p4, vI p5, vI p6, vI c0, vI c1, vI c2, vI c3, vI nv, vI bd, vR ar, vR ob, vR fo, vR ra, vI (2 : Int32)] [(.int (2 : Int32)), (.int (2 : Int32))])) _
    refine XS.icmpYes X449.here hx rfl (pc0 := 312) (pc' := 328) rfl (hb hby at_312) rfl (flt (by decide : ¬ ((2 : Int32) < (2 : Int32)))).2.2.2 (by decide) (by decide) ?_
    refine XS.iload X449.here hx rfl (hb hby at_328) rfl ?_
    refine XS.iconst X449.here hx rfl (hb hby at_330) ?_
    show Steps p.tables e below (T449.setTop (mkF m 331 #[vI p1, vI p2, vI p3, vI p4, vI p5, vI p6, vI c0, vI c1, vI c2, vI c3, vI nv, vI bd, vR ar, vR ob, vR fo, vR ra, vI (2 : Int32)] [(.int (3 : Int32)), (.int (2 : Int32))])) _
    refine XS.icmpYes X449.here hx rfl (pc0 := 331) (pc' := 347) rfl (hb hby at_331) rfl (flt (by decide : ¬ ((3 : Int32) < (2 : Int32)))).2.2.2 (by decide) (by decide) ?_
    refine XS.iconst X449.here hx rfl (hb hby at_347) ?_
    exact kt
  clear R448 st449
  exact ⟨_, _, X449, hh449, N449, R450⟩
set_option maxRecDepth 65536 in
set_option maxHeartbeats 40000000 in
theorem own_t255_3 {p : Program} {l : Launch} {e : Env} {s : State} {m : MethodId} {args : Array Value} {below : List Frame} {meth : Method} {c : Code} {Z : State} {a0 : Array Value} {n0 : Nat} {T0 : State} {locs : List Loc} {h0 : Heap} (cl : Nat) (sl : Nat) (nv : Int32) (p1 : Int32) (p2 : Int32) (p3 : Int32) (p4 : Int32) (p5 : Int32) (p6 : Int32) (c0 : Int32) (c1 : Int32) (c2 : Int32) (c3 : Int32) (bd : Int32) (ar : Addr) (ob : Addr) (fo : Addr) (ra : Addr) (tb : Addr) (g : Nat → Int32) (cs : Int32) (vf : Value) (X0 : Stand p l e room_1 s m args below meth c T0 locs cl sl) (hx : p.tables.exec = Jvm.exec) (hZ : Z.Warmed39 s.vm) (hw : ∀ d ∈ tables_1, d.before a0 Z = true) (hby : c.code = code) (hml : c.maxLocals = 17) (hown : s.vm.findClass "com/example/travessia/travessia/isis/IsisFieldLeadingTextPinLaw" = some m.cls) (hcl : cl + 0 ≤ room_1.cells) (hsl : sl + 0 ≤ room_1.slots) (e0 : T0.heap = h0) (N0 : Fr n0 locs) (Z0 : n0 ≤ h0.size) (SC : Sta Z Z.heap "java/lang/String" "COMPACT_STRINGS" "Z" (.int cs)) (OL : Old Z n0 h0) (hcs : ¬ (cs = (0 : Int32))) (SF : Sta Z Z.heap "jdk/internal/util/Preconditions" "SIOOBE_FORMATTER" "Ljava/util/function/BiFunction;" vf) (hvf : vf.isRef = true) (E1 : Exa Z h0 ra "java/lang/String") (Fc : Fld Z h0 ra "java/lang/String" "coder" "B" (.int (0 : Int32))) (Fv : Fld Z h0 ra "java/lang/String" "value" "[B" (.ref tb)) (VA : AV Z h0 tb .byte 3 (fun j => .int (g j))) (g0 : own_ch (g 0) = c0) (g1 : own_ch (g 1) = c1) (g2 : own_ch (g 2) = c2) :
    ∃ (T' : State) (L' : List Loc), Stand p l e room_1 s m args below meth c T' L' cl sl ∧ T'.heap = h0 ∧ Fr n0 L' ∧ ∀ tg, Steps p.tables e below (T'.setTop (mkF m 348 #[vI p1, vI p2, vI p3, vI p4, vI p5, vI p6, vI c0, vI c1, vI c2, vI c3, vI nv, vI bd, vR ar, vR ob, vR fo, vR ra, vI (3 : Int32)] [(.int (1 : Int32))])) tg → Steps p.tables e below (T0.setTop (mkF m 255 #[vI p1, vI p2, vI p3, vI p4, vI p5, vI p6, vI c0, vI c1, vI c2, vI c3, vI nv, vI bd, vR ar, vR ob, vR fo, vR ra, vI (3 : Int32)] [])) tg := by
  have R451 : ∀ tg, Steps p.tables e below (T0.setTop (mkF m 262 #[vI p1, vI p2, vI p3, vI p4, vI p5, vI p6, vI c0, vI c1, vI c2, vI c3, vI nv, vI bd, vR ar, vR ob, vR fo, vR ra, vI (3 : Int32)] [(.ref ra)])) tg → Steps p.tables e below (T0.setTop (mkF m 255 #[vI p1, vI p2, vI p3, vI p4, vI p5, vI p6, vI c0, vI c1, vI c2, vI c3, vI nv, vI bd, vR ar, vR ob, vR fo, vR ra, vI (3 : Int32)] [])) tg := by
    intro tg kt
    refine (fun (t : State) (k : Steps p.tables e below (T0.setTop (mkF m 255 #[vI p1, vI p2, vI p3, vI p4, vI p5, vI p6, vI c0, vI c1, vI c2, vI c3, vI nv, vI bd, vR ar, vR ob, vR fo, vR ra, vI (3 : Int32)] [])) t) => k) _ ?_
    show Steps p.tables e below (T0.setTop (mkF m 255 #[vI p1, vI p2, vI p3, vI p4, vI p5, vI p6, vI c0, vI c1, vI c2, vI c3, vI nv, vI bd, vR ar, vR ob, vR fo, vR ra, vI (3 : Int32)] [])) _
    refine XS.aload X0.here hx rfl (hb hby at_255) rfl rfl ?_
    show Steps p.tables e below (T0.setTop (mkF m 257 #[vI p1, vI p2, vI p3, vI p4, vI p5, vI p6, vI c0, vI c1, vI c2, vI c3, vI nv, vI bd, vR ar, vR ob, vR fo, vR ra, vI (3 : Int32)] [(.ref ra)])) _
    refine XS.ifnullNo X0.here hx rfl (hb hby at_257) rfl ?_
    refine XS.aload X0.here hx rfl (hb hby at_260) rfl rfl ?_
    exact kt
  obtain ⟨cq452, kq452, q452a, q452b, q452c⟩ := isOf hZ e0 E1
  obtain ⟨_, _, ⟨T452, L452, k452, n452⟩, -, X452, ⟨Lc452, hQ452, l452, y452, z452⟩, st452⟩ := X0.virtualBack hx (y := (⟨"java/lang/String", "length", "()I"⟩ : MethodName)) (z := (⟨"java/lang/String", "length", "()I"⟩ : MethodName)) hown (mvT hZ (hw _ (List.mem_of_getElem? (i := 119) rfl))) (mvT hZ (hw _ (List.mem_of_getElem? (i := 74) rfl))) (notFace_of_selects (args := #[]) (mvT hZ (hw _ (List.mem_of_getElem? (i := 76) rfl)))) (mvT hZ (hw _ (List.mem_of_getElem? (i := 76) rfl))) (mvT hZ (hw _ (List.mem_of_getElem? (i := 75) rfl))) (by decide) (backOf (W := 0) (rm_len l Z a0 hw [] ra tb 3 g cs h0 n0 Z0 SC OL hcs E1 Fc Fv VA) hZ (hw _ (List.mem_of_getElem? (i := 77) rfl)) (hw _ (List.mem_of_getElem? (i := 8) rfl)) (by decide) (by decide)) q452a q452c (g := (mkF m 262 #[vI p1, vI p2, vI p3, vI p4, vI p5, vI p6, vI c0, vI c1, vI c2, vI c3, vI nv, vI bd, vR ar, vR ob, vR fo, vR ra, vI (3 : Int32)] [(.ref ra)])) rfl (by rw [hml]; rfl) (Steps.refl _) (argsL := []) (rest := []) (lenOf pd_13 rfl) rfl (by show 2 * 0 + _ ≤ _; exact Nat.le_of_eq rfl) (hb hby at_262) (fun _ _ => ⟨rfl, e0, hcl, hsl⟩)
  dsimp only [Pt.U, Pt.locs, Pt.cells, Pt.slots] at X452 l452 y452 z452 st452 hQ452
  rw [l452, y452, z452] at X452
  obtain ⟨rfl, N452q, hh452⟩ := hQ452
  have N452 := Fr.app N0 N452q
  have R453 : ∀ tg, Steps p.tables e below (T452.setTop (mkF m 265 #[vI p1, vI p2, vI p3, vI p4, vI p5, vI p6, vI c0, vI c1, vI c2, vI c3, vI nv, vI bd, vR ar, vR ob, vR fo, vR ra, vI (3 : Int32)] [(.int (3 : Nat).toInt32)])) tg → Steps p.tables e below (T0.setTop (mkF m 255 #[vI p1, vI p2, vI p3, vI p4, vI p5, vI p6, vI c0, vI c1, vI c2, vI c3, vI nv, vI bd, vR ar, vR ob, vR fo, vR ra, vI (3 : Int32)] [])) tg := by
    intro tg kt
    refine R451 _ ?_
    refine st452.trans ?_
    exact kt
  clear R451 st452
  have R454 : ∀ tg, Steps p.tables e below (T452.setTop (mkF m 265 #[vI p1, vI p2, vI p3, vI p4, vI p5, vI p6, vI c0, vI c1, vI c2, vI c3, vI nv, vI bd, vR ar, vR ob, vR fo, vR ra, vI (3 : Int32)] [(.int (3 : Int32))])) tg → Steps p.tables e below (T0.setTop (mkF m 255 #[vI p1, vI p2, vI p3, vI p4, vI p5, vI p6, vI c0, vI c1, vI c2, vI c3, vI nv, vI bd, vR ar, vR ob, vR fo, vR ra, vI (3 : Int32)] [])) tg := R453
  have R455 : ∀ tg, Steps p.tables e below (T452.setTop (mkF m 280 #[vI p1, vI p2, vI p3, vI p4, vI p5, vI p6, vI c0, vI c1, vI c2, vI c3, vI nv, vI bd, vR ar, vR ob, vR fo, vR ra, vI (3 : Int32)] [(.int (0 : Int32)), (.ref ra)])) tg → Steps p.tables e below (T0.setTop (mkF m 255 #[vI p1, vI p2, vI p3, vI p4, vI p5, vI p6, vI c0, vI c1, vI c2, vI c3, vI nv, vI bd, vR ar, vR ob, vR fo, vR ra, vI (3 : Int32)] [])) tg := by
    intro tg kt
    refine R454 _ ?_
    show Steps p.tables e below (T452.setTop (mkF m 265 #[vI p1, vI p2, vI p3, vI p4, vI p5, vI p6, vI c0, vI c1, vI c2, vI c3, vI nv, vI bd, vR ar, vR ob, vR fo, vR ra, vI (3 : Int32)] [(.int (3 : Int32))])) _
    refine XS.iload X452.here hx rfl (hb hby at_265) rfl ?_
    show Steps p.tables e below (T452.setTop (mkF m 267 #[vI p1, vI p2, vI p3, vI p4, vI p5, vI p6, vI c0, vI c1, vI c2, vI c3, vI nv, vI bd, vR ar, vR ob, vR fo, vR ra, vI (3 : Int32)] [(.int (3 : Int32)), (.int (3 : Int32))])) _
    refine XS.icmpYes X452.here hx rfl (pc0 := 267) (pc' := 272) rfl (hb hby at_267) rfl (teq (rfl : (3 : Int32) = (3 : Int32))).1 (by decide) (by decide) ?_
    refine XS.iload X452.here hx rfl (hb hby at_272) rfl ?_
    show Steps p.tables e below (T452.setTop (mkF m 274 #[vI p1, vI p2, vI p3, vI p4, vI p5, vI p6, vI c0, vI c1, vI c2, vI c3, vI nv, vI bd, vR ar, vR ob, vR fo, vR ra, vI (3 : Int32)] [(.int (3 : Int32))])) _
    refine XS.ifNo X452.here hx rfl (hb hby at_274) rfl ((if0 _ _).trans (tlt (by decide : (0 : Int32) < (3 : Int32))).2.2.2) ?_
    refine XS.aload X452.here hx rfl (hb hby at_277) rfl rfl ?_
    refine XS.iconst X452.here hx rfl (hb hby at_279) ?_
    exact kt
  clear R454
  obtain ⟨cq456, kq456, q456a, q456b, q456c⟩ := isOf hZ hh452 E1
  obtain ⟨_, _, ⟨T456, L456, k456, n456⟩, -, X456, ⟨Lc456, hQ456, l456, y456, z456⟩, st456⟩ := X452.virtualBack hx (y := (⟨"java/lang/String", "charAt", "(I)C"⟩ : MethodName)) (z := (⟨"java/lang/String", "charAt", "(I)C"⟩ : MethodName)) hown (mvT hZ (hw _ (List.mem_of_getElem? (i := 139) rfl))) (mvT hZ (hw _ (List.mem_of_getElem? (i := 140) rfl))) (notFace_of_selects (args := #[]) (mvT hZ (hw _ (List.mem_of_getElem? (i := 142) rfl)))) (mvT hZ (hw _ (List.mem_of_getElem? (i := 142) rfl))) (mvT hZ (hw _ (List.mem_of_getElem? (i := 141) rfl))) (by decide) (backOf (W := 0) (rm_cha l Z a0 hw [] ra (0 : Int32) tb cs 3 g 0 vf h0 n0 Z0 SC OL hcs SF hvf Fc Fv E1 VA (by decide) (by decide) rfl (by decide)) hZ (hw _ (List.mem_of_getElem? (i := 143) rfl)) (hw _ (List.mem_of_getElem? (i := 8) rfl)) (by decide) (by decide)) q456a q456c (g := (mkF m 280 #[vI p1, vI p2, vI p3, vI p4, vI p5, vI p6, vI c0, vI c1, vI c2, vI c3, vI nv, vI bd, vR ar, vR ob, vR fo, vR ra, vI (3 : Int32)] [(.int (0 : Int32)), (.ref ra)])) rfl (by rw [hml]; rfl) (Steps.refl _) (argsL := [(.int (0 : Int32))]) (rest := []) (lenOf pd_21 rfl) rfl (by show 2 * 0 + _ ≤ _; exact Nat.le_of_eq rfl) (hb hby at_280) (fun _ _ => ⟨rfl, hh452, hcl, hsl⟩)
  dsimp only [Pt.U, Pt.locs, Pt.cells, Pt.slots] at X456 l456 y456 z456 st456 hQ456
  rw [l456, y456, z456] at X456
  obtain ⟨rfl, N456q, hh456⟩ := hQ456
  have N456 := Fr.app N452 N456q
  have R457 : ∀ tg, Steps p.tables e below (T456.setTop (mkF m 299 #[vI p1, vI p2, vI p3, vI p4, vI p5, vI p6, vI c0, vI c1, vI c2, vI c3, vI nv, vI bd, vR ar, vR ob, vR fo, vR ra, vI (3 : Int32)] [(.int (1 : Int32)), (.ref ra)])) tg → Steps p.tables e below (T0.setTop (mkF m 255 #[vI p1, vI p2, vI p3, vI p4, vI p5, vI p6, vI c0, vI c1, vI c2, vI c3, vI nv, vI bd, vR ar, vR ob, vR fo, vR ra, vI (3 : Int32)] [])) tg := by
    intro tg kt
    refine R455 _ ?_
    refine st456.trans ?_
    show Steps p.tables e below (T456.setTop (mkF m 283 #[vI p1, vI p2, vI p3, vI p4, vI p5, vI p6, vI c0, vI c1, vI c2, vI c3, vI nv, vI bd, vR ar, vR ob, vR fo, vR ra, vI (3 : Int32)] [(.int (own_ch (g 0)))])) _
    refine XS.iload X456.here hx rfl (hb hby at_283) rfl ?_
    show Steps p.tables e below (T456.setTop (mkF m 285 #[vI p1, vI p2, vI p3, vI p4, vI p5, vI p6, vI c0, vI c1, vI c2, vI c3, vI nv, vI bd, vR ar, vR ob, vR fo, vR ra, vI (3 : Int32)] [(.int c0), (.int (own_ch (g 0)))])) _
    refine XS.icmpYes X456.here hx rfl (pc0 := 285) (pc' := 290) rfl (hb hby at_285) rfl (teq (g0 : (own_ch (g 0)) = c0)).1 (by decide) (by decide) ?_
    refine XS.iload X456.here hx rfl (hb hby at_290) rfl ?_
    refine XS.iconst X456.here hx rfl (hb hby at_292) ?_
    show Steps p.tables e below (T456.setTop (mkF m 293 #[vI p1, vI p2, vI p3, vI p4, vI p5, vI p6, vI c0, vI c1, vI c2, vI c3, vI nv, vI bd, vR ar, vR ob, vR fo, vR ra, vI (3 : Int32)] [(.int (1 : Int32)), (.int (3 : Int32))])) _
    refine XS.icmpNo X456.here hx rfl (hb hby at_293) rfl (tlt (by decide : (1 : Int32) < (3 : Int32))).2.2.2 ?_
    refine XS.aload X456.here hx rfl (hb hby at_296) rfl rfl ?_
    refine XS.iconst X456.here hx rfl (hb hby at_298) ?_
    exact kt
  clear R455 st456
  obtain ⟨cq458, kq458, q458a, q458b, q458c⟩ := isOf hZ hh456 E1
  obtain ⟨_, _, ⟨T458, L458, k458, n458⟩, -, X458, ⟨Lc458, hQ458, l458, y458, z458⟩, st458⟩ := X456.virtualBack hx (y := (⟨"java/lang/String", "charAt", "(I)C"⟩ : MethodName)) (z := (⟨"java/lang/String", "charAt", "(I)C"⟩ : MethodName)) hown (mvT hZ (hw _ (List.mem_of_getElem? (i := 139) rfl))) (mvT hZ (hw _ (List.mem_of_getElem? (i := 140) rfl))) (notFace_of_selects (args := #[]) (mvT hZ (hw _ (List.mem_of_getElem? (i := 142) rfl)))) (mvT hZ (hw _ (List.mem_of_getElem? (i := 142) rfl))) (mvT hZ (hw _ (List.mem_of_getElem? (i := 141) rfl))) (by decide) (backOf (W := 0) (rm_cha l Z a0 hw [] ra (1 : Int32) tb cs 3 g 1 vf h0 n0 Z0 SC OL hcs SF hvf Fc Fv E1 VA (by decide) (by decide) rfl (by decide)) hZ (hw _ (List.mem_of_getElem? (i := 143) rfl)) (hw _ (List.mem_of_getElem? (i := 8) rfl)) (by decide) (by decide)) q458a q458c (g := (mkF m 299 #[vI p1, vI p2, vI p3, vI p4, vI p5, vI p6, vI c0, vI c1, vI c2, vI c3, vI nv, vI bd, vR ar, vR ob, vR fo, vR ra, vI (3 : Int32)] [(.int (1 : Int32)), (.ref ra)])) rfl (by rw [hml]; rfl) (Steps.refl _) (argsL := [(.int (1 : Int32))]) (rest := []) (lenOf pd_21 rfl) rfl (by show 2 * 0 + _ ≤ _; exact Nat.le_of_eq rfl) (hb hby at_299) (fun _ _ => ⟨rfl, hh456, hcl, hsl⟩)
  dsimp only [Pt.U, Pt.locs, Pt.cells, Pt.slots] at X458 l458 y458 z458 st458 hQ458
  rw [l458, y458, z458] at X458
  obtain ⟨rfl, N458q, hh458⟩ := hQ458
  have N458 := Fr.app N456 N458q
  have R459 : ∀ tg, Steps p.tables e below (T458.setTop (mkF m 318 #[vI p1, vI p2, vI p3, vI p4, vI p5, vI p6, vI c0, vI c1, vI c2, vI c3, vI nv, vI bd, vR ar, vR ob, vR fo, vR ra, vI (3 : Int32)] [(.int (2 : Int32)), (.ref ra)])) tg → Steps p.tables e below (T0.setTop (mkF m 255 #[vI p1, vI p2, vI p3, vI p4, vI p5, vI p6, vI c0, vI c1, vI c2, vI c3, vI nv, vI bd, vR ar, vR ob, vR fo, vR ra, vI (3 : Int32)] [])) tg := by
    intro tg kt
    refine R457 _ ?_
    refine st458.trans ?_
    show Steps p.tables e below (T458.setTop (mkF m 302 #[vI p1, vI p2, vI p3, vI p4, vI p5, vI p6, vI c0, vI c1, vI c2, vI c3, vI nv, vI bd, vR ar, vR ob, vR fo, vR ra, vI (3 : Int32)] [(.int (own_ch (g 1)))])) _
    refine XS.iload X458.here hx rfl (hb hby at_302) rfl ?_
    show Steps p.tables e below (T458.setTop (mkF m 304 #[vI p1, vI p2, vI p3, vI p4, vI p5, vI p6, vI c0, vI c1, vI c2, vI c3, vI nv, vI bd, vR ar, vR ob, vR fo, vR ra, vI (3 : Int32)] [(.int c1), (.int (own_ch (g 1)))])) _
    refine XS.icmpYes X458.here hx rfl (pc0 := 304) (pc' := 309) rfl (hb hby at_304) rfl (teq (g1 : (own_ch (g 1)) = c1)).1 (by decide) (by decide) ?_
    refine XS.iload X458.here hx rfl (hb hby at_309) rfl ?_
    refine XS.iconst X458.here hx rfl (hb hby at_311) ?_
    show Steps p.tables e below (T458.setTop (mkF m 312 #[vI p1, vI p2, vI p3, vI p4, vI p5, vI p6, vI c0, vI c1, vI c2, vI c3, vI nv, vI bd, vR ar, vR ob, vR fo, vR ra, vI (3 : Int32)] [(.int (2 : Int32)), (.int (3 : Int32))])) _
    refine XS.icmpNo X458.here hx rfl (hb hby at_312) rfl (tlt (by decide : (2 : Int32) < (3 : Int32))).2.2.2 ?_
    refine XS.aload X458.here hx rfl (hb hby at_315) rfl rfl ?_
    refine XS.iconst X458.here hx rfl (hb hby at_317) ?_
    exact kt
  clear R457 st458
  obtain ⟨cq460, kq460, q460a, q460b, q460c⟩ := isOf hZ hh458 E1
  obtain ⟨_, _, ⟨T460, L460, k460, n460⟩, -, X460, ⟨Lc460, hQ460, l460, y460, z460⟩, st460⟩ := X458.virtualBack hx (y := (⟨"java/lang/String", "charAt", "(I)C"⟩ : MethodName)) (z := (⟨"java/lang/String", "charAt", "(I)C"⟩ : MethodName)) hown (mvT hZ (hw _ (List.mem_of_getElem? (i := 139) rfl))) (mvT hZ (hw _ (List.mem_of_getElem? (i := 140) rfl))) (notFace_of_selects (args := #[]) (mvT hZ (hw _ (List.mem_of_getElem? (i := 142) rfl)))) (mvT hZ (hw _ (List.mem_of_getElem? (i := 142) rfl))) (mvT hZ (hw _ (List.mem_of_getElem? (i := 141) rfl))) (by decide) (backOf (W := 0) (rm_cha l Z a0 hw [] ra (2 : Int32) tb cs 3 g 2 vf h0 n0 Z0 SC OL hcs SF hvf Fc Fv E1 VA (by decide) (by decide) rfl (by decide)) hZ (hw _ (List.mem_of_getElem? (i := 143) rfl)) (hw _ (List.mem_of_getElem? (i := 8) rfl)) (by decide) (by decide)) q460a q460c (g := (mkF m 318 #[vI p1, vI p2, vI p3, vI p4, vI p5, vI p6, vI c0, vI c1, vI c2, vI c3, vI nv, vI bd, vR ar, vR ob, vR fo, vR ra, vI (3 : Int32)] [(.int (2 : Int32)), (.ref ra)])) rfl (by rw [hml]; rfl) (Steps.refl _) (argsL := [(.int (2 : Int32))]) (rest := []) (lenOf pd_21 rfl) rfl (by show 2 * 0 + _ ≤ _; exact Nat.le_of_eq rfl) (hb hby at_318) (fun _ _ => ⟨rfl, hh458, hcl, hsl⟩)
  dsimp only [Pt.U, Pt.locs, Pt.cells, Pt.slots] at X460 l460 y460 z460 st460 hQ460
  rw [l460, y460, z460] at X460
  obtain ⟨rfl, N460q, hh460⟩ := hQ460
  have N460 := Fr.app N458 N460q
  have R461 : ∀ tg, Steps p.tables e below (T460.setTop (mkF m 348 #[vI p1, vI p2, vI p3, vI p4, vI p5, vI p6, vI c0, vI c1, vI c2, vI c3, vI nv, vI bd, vR ar, vR ob, vR fo, vR ra, vI (3 : Int32)] [(.int (1 : Int32))])) tg → Steps p.tables e below (T0.setTop (mkF m 255 #[vI p1, vI p2, vI p3, vI p4, vI p5, vI p6, vI c0, vI c1, vI c2, vI c3, vI nv, vI bd, vR ar, vR ob, vR fo, vR ra, vI (3 : Int32)] [])) tg := by
    intro tg kt
    refine R459 _ ?_
    refine st460.trans ?_
    show Steps p.tables e below (T460.setTop (mkF m 321 #[vI p1, vI p2, vI p3, vI p4, vI p5, vI p6, vI c0, vI c1, vI c2, vI c3, vI nv, vI bd, vR ar, vR ob, vR fo, vR ra, vI (3 : Int32)] [(.int (own_ch (g 2)))])) _
    refine XS.iload X460.here hx rfl (hb hby at_321) rfl ?_
    show Steps p.tables e below (T460.setTop (mkF m 323 #[vI p1, vI p2, vI p3, vI p4, vI p5, vI p6, vI c0, vI c1, vI c2, vI c3, vI nv, vI bd, vR ar, vR ob, vR fo, vR ra, vI (3 : Int32)] [(.int c2), (.int (own_ch (g 2)))])) _
    refine XS.icmpYes X460.here hx rfl (pc0 := 323) (pc' := 328) rfl (hb hby at_323) rfl (teq (g2 : (own_ch (g 2)) = c2)).1 (by decide) (by decide) ?_
    refine XS.iload X460.here hx rfl (hb hby at_328) rfl ?_
    refine XS.iconst X460.here hx rfl (hb hby at_330) ?_
    show Steps p.tables e below (T460.setTop (mkF m 331 #[vI p1, vI p2, vI p3, vI p4, vI p5, vI p6, vI c0, vI c1, vI c2, vI c3, vI nv, vI bd, vR ar, vR ob, vR fo, vR ra, vI (3 : Int32)] [(.int (3 : Int32)), (.int (3 : Int32))])) _
    refine XS.icmpYes X460.here hx rfl (pc0 := 331) (pc' := 347) rfl (hb hby at_331) rfl (flt (by decide : ¬ ((3 : Int32) < (3 : Int32)))).2.2.2 (by decide) (by decide) ?_
    refine XS.iconst X460.here hx rfl (hb hby at_347) ?_
    exact kt
  clear R459 st460
  exact ⟨_, _, X460, hh460, N460, R461⟩
set_option maxRecDepth 65536 in
set_option maxHeartbeats 40000000 in
theorem own_t255_4 {p : Program} {l : Launch} {e : Env} {s : State} {m : MethodId} {args : Array Value} {below : List Frame} {meth : Method} {c : Code} {Z : State} {a0 : Array Value} {n0 : Nat} {T0 : State} {locs : List Loc} {h0 : Heap} (cl : Nat) (sl : Nat) (nv : Int32) (p1 : Int32) (p2 : Int32) (p3 : Int32) (p4 : Int32) (p5 : Int32) (p6 : Int32) (c0 : Int32) (c1 : Int32) (c2 : Int32) (c3 : Int32) (bd : Int32) (ar : Addr) (ob : Addr) (fo : Addr) (ra : Addr) (tb : Addr) (g : Nat → Int32) (cs : Int32) (vf : Value) (X0 : Stand p l e room_1 s m args below meth c T0 locs cl sl) (hx : p.tables.exec = Jvm.exec) (hZ : Z.Warmed39 s.vm) (hw : ∀ d ∈ tables_1, d.before a0 Z = true) (hby : c.code = code) (hml : c.maxLocals = 17) (hown : s.vm.findClass "com/example/travessia/travessia/isis/IsisFieldLeadingTextPinLaw" = some m.cls) (hcl : cl + 0 ≤ room_1.cells) (hsl : sl + 0 ≤ room_1.slots) (e0 : T0.heap = h0) (N0 : Fr n0 locs) (Z0 : n0 ≤ h0.size) (SC : Sta Z Z.heap "java/lang/String" "COMPACT_STRINGS" "Z" (.int cs)) (OL : Old Z n0 h0) (hcs : ¬ (cs = (0 : Int32))) (SF : Sta Z Z.heap "jdk/internal/util/Preconditions" "SIOOBE_FORMATTER" "Ljava/util/function/BiFunction;" vf) (hvf : vf.isRef = true) (E1 : Exa Z h0 ra "java/lang/String") (Fc : Fld Z h0 ra "java/lang/String" "coder" "B" (.int (0 : Int32))) (Fv : Fld Z h0 ra "java/lang/String" "value" "[B" (.ref tb)) (VA : AV Z h0 tb .byte 4 (fun j => .int (g j))) (g0 : own_ch (g 0) = c0) (g1 : own_ch (g 1) = c1) (g2 : own_ch (g 2) = c2) (g3 : own_ch (g 3) = c3) :
    ∃ (T' : State) (L' : List Loc), Stand p l e room_1 s m args below meth c T' L' cl sl ∧ T'.heap = h0 ∧ Fr n0 L' ∧ ∀ tg, Steps p.tables e below (T'.setTop (mkF m 348 #[vI p1, vI p2, vI p3, vI p4, vI p5, vI p6, vI c0, vI c1, vI c2, vI c3, vI nv, vI bd, vR ar, vR ob, vR fo, vR ra, vI (4 : Int32)] [(.int (1 : Int32))])) tg → Steps p.tables e below (T0.setTop (mkF m 255 #[vI p1, vI p2, vI p3, vI p4, vI p5, vI p6, vI c0, vI c1, vI c2, vI c3, vI nv, vI bd, vR ar, vR ob, vR fo, vR ra, vI (4 : Int32)] [])) tg := by
  have R462 : ∀ tg, Steps p.tables e below (T0.setTop (mkF m 262 #[vI p1, vI p2, vI p3, vI p4, vI p5, vI p6, vI c0, vI c1, vI c2, vI c3, vI nv, vI bd, vR ar, vR ob, vR fo, vR ra, vI (4 : Int32)] [(.ref ra)])) tg → Steps p.tables e below (T0.setTop (mkF m 255 #[vI p1, vI p2, vI p3, vI p4, vI p5, vI p6, vI c0, vI c1, vI c2, vI c3, vI nv, vI bd, vR ar, vR ob, vR fo, vR ra, vI (4 : Int32)] [])) tg := by
    intro tg kt
    refine (fun (t : State) (k : Steps p.tables e below (T0.setTop (mkF m 255 #[vI p1, vI p2, vI p3, vI p4, vI p5, vI p6, vI c0, vI c1, vI c2, vI c3, vI nv, vI bd, vR ar, vR ob, vR fo, vR ra, vI (4 : Int32)] [])) t) => k) _ ?_
    show Steps p.tables e below (T0.setTop (mkF m 255 #[vI p1, vI p2, vI p3, vI p4, vI p5, vI p6, vI c0, vI c1, vI c2, vI c3, vI nv, vI bd, vR ar, vR ob, vR fo, vR ra, vI (4 : Int32)] [])) _
    refine XS.aload X0.here hx rfl (hb hby at_255) rfl rfl ?_
    show Steps p.tables e below (T0.setTop (mkF m 257 #[vI p1, vI p2, vI p3, vI p4, vI p5, vI p6, vI c0, vI c1, vI c2, vI c3, vI nv, vI bd, vR ar, vR ob, vR fo, vR ra, vI (4 : Int32)] [(.ref ra)])) _
    refine XS.ifnullNo X0.here hx rfl (hb hby at_257) rfl ?_
    refine XS.aload X0.here hx rfl (hb hby at_260) rfl rfl ?_
    exact kt
  obtain ⟨cq463, kq463, q463a, q463b, q463c⟩ := isOf hZ e0 E1
  obtain ⟨_, _, ⟨T463, L463, k463, n463⟩, -, X463, ⟨Lc463, hQ463, l463, y463, z463⟩, st463⟩ := X0.virtualBack hx (y := (⟨"java/lang/String", "length", "()I"⟩ : MethodName)) (z := (⟨"java/lang/String", "length", "()I"⟩ : MethodName)) hown (mvT hZ (hw _ (List.mem_of_getElem? (i := 119) rfl))) (mvT hZ (hw _ (List.mem_of_getElem? (i := 74) rfl))) (notFace_of_selects (args := #[]) (mvT hZ (hw _ (List.mem_of_getElem? (i := 76) rfl)))) (mvT hZ (hw _ (List.mem_of_getElem? (i := 76) rfl))) (mvT hZ (hw _ (List.mem_of_getElem? (i := 75) rfl))) (by decide) (backOf (W := 0) (rm_len l Z a0 hw [] ra tb 4 g cs h0 n0 Z0 SC OL hcs E1 Fc Fv VA) hZ (hw _ (List.mem_of_getElem? (i := 77) rfl)) (hw _ (List.mem_of_getElem? (i := 8) rfl)) (by decide) (by decide)) q463a q463c (g := (mkF m 262 #[vI p1, vI p2, vI p3, vI p4, vI p5, vI p6, vI c0, vI c1, vI c2, vI c3, vI nv, vI bd, vR ar, vR ob, vR fo, vR ra, vI (4 : Int32)] [(.ref ra)])) rfl (by rw [hml]; rfl) (Steps.refl _) (argsL := []) (rest := []) (lenOf pd_13 rfl) rfl (by show 2 * 0 + _ ≤ _; exact Nat.le_of_eq rfl) (hb hby at_262) (fun _ _ => ⟨rfl, e0, hcl, hsl⟩)
  dsimp only [Pt.U, Pt.locs, Pt.cells, Pt.slots] at X463 l463 y463 z463 st463 hQ463
  rw [l463, y463, z463] at X463
  obtain ⟨rfl, N463q, hh463⟩ := hQ463
  have N463 := Fr.app N0 N463q
  have R464 : ∀ tg, Steps p.tables e below (T463.setTop (mkF m 265 #[vI p1, vI p2, vI p3, vI p4, vI p5, vI p6, vI c0, vI c1, vI c2, vI c3, vI nv, vI bd, vR ar, vR ob, vR fo, vR ra, vI (4 : Int32)] [(.int (4 : Nat).toInt32)])) tg → Steps p.tables e below (T0.setTop (mkF m 255 #[vI p1, vI p2, vI p3, vI p4, vI p5, vI p6, vI c0, vI c1, vI c2, vI c3, vI nv, vI bd, vR ar, vR ob, vR fo, vR ra, vI (4 : Int32)] [])) tg := by
    intro tg kt
    refine R462 _ ?_
    refine st463.trans ?_
    exact kt
  clear R462 st463
  have R465 : ∀ tg, Steps p.tables e below (T463.setTop (mkF m 265 #[vI p1, vI p2, vI p3, vI p4, vI p5, vI p6, vI c0, vI c1, vI c2, vI c3, vI nv, vI bd, vR ar, vR ob, vR fo, vR ra, vI (4 : Int32)] [(.int (4 : Int32))])) tg → Steps p.tables e below (T0.setTop (mkF m 255 #[vI p1, vI p2, vI p3, vI p4, vI p5, vI p6, vI c0, vI c1, vI c2, vI c3, vI nv, vI bd, vR ar, vR ob, vR fo, vR ra, vI (4 : Int32)] [])) tg := R464
  have R466 : ∀ tg, Steps p.tables e below (T463.setTop (mkF m 280 #[vI p1, vI p2, vI p3, vI p4, vI p5, vI p6, vI c0, vI c1, vI c2, vI c3, vI nv, vI bd, vR ar, vR ob, vR fo, vR ra, vI (4 : Int32)] [(.int (0 : Int32)), (.ref ra)])) tg → Steps p.tables e below (T0.setTop (mkF m 255 #[vI p1, vI p2, vI p3, vI p4, vI p5, vI p6, vI c0, vI c1, vI c2, vI c3, vI nv, vI bd, vR ar, vR ob, vR fo, vR ra, vI (4 : Int32)] [])) tg := by
    intro tg kt
    refine R465 _ ?_
    show Steps p.tables e below (T463.setTop (mkF m 265 #[vI p1, vI p2, vI p3, vI p4, vI p5, vI p6, vI c0, vI c1, vI c2, vI c3, vI nv, vI bd, vR ar, vR ob, vR fo, vR ra, vI (4 : Int32)] [(.int (4 : Int32))])) _
    refine XS.iload X463.here hx rfl (hb hby at_265) rfl ?_
    show Steps p.tables e below (T463.setTop (mkF m 267 #[vI p1, vI p2, vI p3, vI p4, vI p5, vI p6, vI c0, vI c1, vI c2, vI c3, vI nv, vI bd, vR ar, vR ob, vR fo, vR ra, vI (4 : Int32)] [(.int (4 : Int32)), (.int (4 : Int32))])) _
    refine XS.icmpYes X463.here hx rfl (pc0 := 267) (pc' := 272) rfl (hb hby at_267) rfl (teq (rfl : (4 : Int32) = (4 : Int32))).1 (by decide) (by decide) ?_
    refine XS.iload X463.here hx rfl (hb hby at_272) rfl ?_
    show Steps p.tables e below (T463.setTop (mkF m 274 #[vI p1, vI p2, vI p3, vI p4, vI p5, vI p6, vI c0, vI c1, vI c2, vI c3, vI nv, vI bd, vR ar, vR ob, vR fo, vR ra, vI (4 : Int32)] [(.int (4 : Int32))])) _
    refine XS.ifNo X463.here hx rfl (hb hby at_274) rfl ((if0 _ _).trans (tlt (by decide : (0 : Int32) < (4 : Int32))).2.2.2) ?_
    refine XS.aload X463.here hx rfl (hb hby at_277) rfl rfl ?_
    refine XS.iconst X463.here hx rfl (hb hby at_279) ?_
    exact kt
  clear R465
  obtain ⟨cq467, kq467, q467a, q467b, q467c⟩ := isOf hZ hh463 E1
  obtain ⟨_, _, ⟨T467, L467, k467, n467⟩, -, X467, ⟨Lc467, hQ467, l467, y467, z467⟩, st467⟩ := X463.virtualBack hx (y := (⟨"java/lang/String", "charAt", "(I)C"⟩ : MethodName)) (z := (⟨"java/lang/String", "charAt", "(I)C"⟩ : MethodName)) hown (mvT hZ (hw _ (List.mem_of_getElem? (i := 139) rfl))) (mvT hZ (hw _ (List.mem_of_getElem? (i := 140) rfl))) (notFace_of_selects (args := #[]) (mvT hZ (hw _ (List.mem_of_getElem? (i := 142) rfl)))) (mvT hZ (hw _ (List.mem_of_getElem? (i := 142) rfl))) (mvT hZ (hw _ (List.mem_of_getElem? (i := 141) rfl))) (by decide) (backOf (W := 0) (rm_cha l Z a0 hw [] ra (0 : Int32) tb cs 4 g 0 vf h0 n0 Z0 SC OL hcs SF hvf Fc Fv E1 VA (by decide) (by decide) rfl (by decide)) hZ (hw _ (List.mem_of_getElem? (i := 143) rfl)) (hw _ (List.mem_of_getElem? (i := 8) rfl)) (by decide) (by decide)) q467a q467c (g := (mkF m 280 #[vI p1, vI p2, vI p3, vI p4, vI p5, vI p6, vI c0, vI c1, vI c2, vI c3, vI nv, vI bd, vR ar, vR ob, vR fo, vR ra, vI (4 : Int32)] [(.int (0 : Int32)), (.ref ra)])) rfl (by rw [hml]; rfl) (Steps.refl _) (argsL := [(.int (0 : Int32))]) (rest := []) (lenOf pd_21 rfl) rfl (by show 2 * 0 + _ ≤ _; exact Nat.le_of_eq rfl) (hb hby at_280) (fun _ _ => ⟨rfl, hh463, hcl, hsl⟩)
  dsimp only [Pt.U, Pt.locs, Pt.cells, Pt.slots] at X467 l467 y467 z467 st467 hQ467
  rw [l467, y467, z467] at X467
  obtain ⟨rfl, N467q, hh467⟩ := hQ467
  have N467 := Fr.app N463 N467q
  have R468 : ∀ tg, Steps p.tables e below (T467.setTop (mkF m 299 #[vI p1, vI p2, vI p3, vI p4, vI p5, vI p6, vI c0, vI c1, vI c2, vI c3, vI nv, vI bd, vR ar, vR ob, vR fo, vR ra, vI (4 : Int32)] [(.int (1 : Int32)), (.ref ra)])) tg → Steps p.tables e below (T0.setTop (mkF m 255 #[vI p1, vI p2, vI p3, vI p4, vI p5, vI p6, vI c0, vI c1, vI c2, vI c3, vI nv, vI bd, vR ar, vR ob, vR fo, vR ra, vI (4 : Int32)] [])) tg := by
    intro tg kt
    refine R466 _ ?_
    refine st467.trans ?_
    show Steps p.tables e below (T467.setTop (mkF m 283 #[vI p1, vI p2, vI p3, vI p4, vI p5, vI p6, vI c0, vI c1, vI c2, vI c3, vI nv, vI bd, vR ar, vR ob, vR fo, vR ra, vI (4 : Int32)] [(.int (own_ch (g 0)))])) _
    refine XS.iload X467.here hx rfl (hb hby at_283) rfl ?_
    show Steps p.tables e below (T467.setTop (mkF m 285 #[vI p1, vI p2, vI p3, vI p4, vI p5, vI p6, vI c0, vI c1, vI c2, vI c3, vI nv, vI bd, vR ar, vR ob, vR fo, vR ra, vI (4 : Int32)] [(.int c0), (.int (own_ch (g 0)))])) _
    refine XS.icmpYes X467.here hx rfl (pc0 := 285) (pc' := 290) rfl (hb hby at_285) rfl (teq (g0 : (own_ch (g 0)) = c0)).1 (by decide) (by decide) ?_
    refine XS.iload X467.here hx rfl (hb hby at_290) rfl ?_
    refine XS.iconst X467.here hx rfl (hb hby at_292) ?_
    show Steps p.tables e below (T467.setTop (mkF m 293 #[vI p1, vI p2, vI p3, vI p4, vI p5, vI p6, vI c0, vI c1, vI c2, vI c3, vI nv, vI bd, vR ar, vR ob, vR fo, vR ra, vI (4 : Int32)] [(.int (1 : Int32)), (.int (4 : Int32))])) _
    refine XS.icmpNo X467.here hx rfl (hb hby at_293) rfl (tlt (by decide : (1 : Int32) < (4 : Int32))).2.2.2 ?_
    refine XS.aload X467.here hx rfl (hb hby at_296) rfl rfl ?_
    refine XS.iconst X467.here hx rfl (hb hby at_298) ?_
    exact kt
  clear R466 st467
  obtain ⟨cq469, kq469, q469a, q469b, q469c⟩ := isOf hZ hh467 E1
  obtain ⟨_, _, ⟨T469, L469, k469, n469⟩, -, X469, ⟨Lc469, hQ469, l469, y469, z469⟩, st469⟩ := X467.virtualBack hx (y := (⟨"java/lang/String", "charAt", "(I)C"⟩ : MethodName)) (z := (⟨"java/lang/String", "charAt", "(I)C"⟩ : MethodName)) hown (mvT hZ (hw _ (List.mem_of_getElem? (i := 139) rfl))) (mvT hZ (hw _ (List.mem_of_getElem? (i := 140) rfl))) (notFace_of_selects (args := #[]) (mvT hZ (hw _ (List.mem_of_getElem? (i := 142) rfl)))) (mvT hZ (hw _ (List.mem_of_getElem? (i := 142) rfl))) (mvT hZ (hw _ (List.mem_of_getElem? (i := 141) rfl))) (by decide) (backOf (W := 0) (rm_cha l Z a0 hw [] ra (1 : Int32) tb cs 4 g 1 vf h0 n0 Z0 SC OL hcs SF hvf Fc Fv E1 VA (by decide) (by decide) rfl (by decide)) hZ (hw _ (List.mem_of_getElem? (i := 143) rfl)) (hw _ (List.mem_of_getElem? (i := 8) rfl)) (by decide) (by decide)) q469a q469c (g := (mkF m 299 #[vI p1, vI p2, vI p3, vI p4, vI p5, vI p6, vI c0, vI c1, vI c2, vI c3, vI nv, vI bd, vR ar, vR ob, vR fo, vR ra, vI (4 : Int32)] [(.int (1 : Int32)), (.ref ra)])) rfl (by rw [hml]; rfl) (Steps.refl _) (argsL := [(.int (1 : Int32))]) (rest := []) (lenOf pd_21 rfl) rfl (by show 2 * 0 + _ ≤ _; exact Nat.le_of_eq rfl) (hb hby at_299) (fun _ _ => ⟨rfl, hh467, hcl, hsl⟩)
  dsimp only [Pt.U, Pt.locs, Pt.cells, Pt.slots] at X469 l469 y469 z469 st469 hQ469
  rw [l469, y469, z469] at X469
  obtain ⟨rfl, N469q, hh469⟩ := hQ469
  have N469 := Fr.app N467 N469q
  have R470 : ∀ tg, Steps p.tables e below (T469.setTop (mkF m 318 #[vI p1, vI p2, vI p3, vI p4, vI p5, vI p6, vI c0, vI c1, vI c2, vI c3, vI nv, vI bd, vR ar, vR ob, vR fo, vR ra, vI (4 : Int32)] [(.int (2 : Int32)), (.ref ra)])) tg → Steps p.tables e below (T0.setTop (mkF m 255 #[vI p1, vI p2, vI p3, vI p4, vI p5, vI p6, vI c0, vI c1, vI c2, vI c3, vI nv, vI bd, vR ar, vR ob, vR fo, vR ra, vI (4 : Int32)] [])) tg := by
    intro tg kt
    refine R468 _ ?_
    refine st469.trans ?_
    show Steps p.tables e below (T469.setTop (mkF m 302 #[vI p1, vI p2, vI p3, vI p4, vI p5, vI p6, vI c0, vI c1, vI c2, vI c3, vI nv, vI bd, vR ar, vR ob, vR fo, vR ra, vI (4 : Int32)] [(.int (own_ch (g 1)))])) _
    refine XS.iload X469.here hx rfl (hb hby at_302) rfl ?_
    show Steps p.tables e below (T469.setTop (mkF m 304 #[vI p1, vI p2, vI p3, vI p4, vI p5, vI p6, vI c0, vI c1, vI c2, vI c3, vI nv, vI bd, vR ar, vR ob, vR fo, vR ra, vI (4 : Int32)] [(.int c1), (.int (own_ch (g 1)))])) _
    refine XS.icmpYes X469.here hx rfl (pc0 := 304) (pc' := 309) rfl (hb hby at_304) rfl (teq (g1 : (own_ch (g 1)) = c1)).1 (by decide) (by decide) ?_
    refine XS.iload X469.here hx rfl (hb hby at_309) rfl ?_
    refine XS.iconst X469.here hx rfl (hb hby at_311) ?_
    show Steps p.tables e below (T469.setTop (mkF m 312 #[vI p1, vI p2, vI p3, vI p4, vI p5, vI p6, vI c0, vI c1, vI c2, vI c3, vI nv, vI bd, vR ar, vR ob, vR fo, vR ra, vI (4 : Int32)] [(.int (2 : Int32)), (.int (4 : Int32))])) _
    refine XS.icmpNo X469.here hx rfl (hb hby at_312) rfl (tlt (by decide : (2 : Int32) < (4 : Int32))).2.2.2 ?_
    refine XS.aload X469.here hx rfl (hb hby at_315) rfl rfl ?_
    refine XS.iconst X469.here hx rfl (hb hby at_317) ?_
    exact kt
  clear R468 st469
  obtain ⟨cq471, kq471, q471a, q471b, q471c⟩ := isOf hZ hh469 E1
  obtain ⟨_, _, ⟨T471, L471, k471, n471⟩, -, X471, ⟨Lc471, hQ471, l471, y471, z471⟩, st471⟩ := X469.virtualBack hx (y := (⟨"java/lang/String", "charAt", "(I)C"⟩ : MethodName)) (z := (⟨"java/lang/String", "charAt", "(I)C"⟩ : MethodName)) hown (mvT hZ (hw _ (List.mem_of_getElem? (i := 139) rfl))) (mvT hZ (hw _ (List.mem_of_getElem? (i := 140) rfl))) (notFace_of_selects (args := #[]) (mvT hZ (hw _ (List.mem_of_getElem? (i := 142) rfl)))) (mvT hZ (hw _ (List.mem_of_getElem? (i := 142) rfl))) (mvT hZ (hw _ (List.mem_of_getElem? (i := 141) rfl))) (by decide) (backOf (W := 0) (rm_cha l Z a0 hw [] ra (2 : Int32) tb cs 4 g 2 vf h0 n0 Z0 SC OL hcs SF hvf Fc Fv E1 VA (by decide) (by decide) rfl (by decide)) hZ (hw _ (List.mem_of_getElem? (i := 143) rfl)) (hw _ (List.mem_of_getElem? (i := 8) rfl)) (by decide) (by decide)) q471a q471c (g := (mkF m 318 #[vI p1, vI p2, vI p3, vI p4, vI p5, vI p6, vI c0, vI c1, vI c2, vI c3, vI nv, vI bd, vR ar, vR ob, vR fo, vR ra, vI (4 : Int32)] [(.int (2 : Int32)), (.ref ra)])) rfl (by rw [hml]; rfl) (Steps.refl _) (argsL := [(.int (2 : Int32))]) (rest := []) (lenOf pd_21 rfl) rfl (by show 2 * 0 + _ ≤ _; exact Nat.le_of_eq rfl) (hb hby at_318) (fun _ _ => ⟨rfl, hh469, hcl, hsl⟩)
  dsimp only [Pt.U, Pt.locs, Pt.cells, Pt.slots] at X471 l471 y471 z471 st471 hQ471
  rw [l471, y471, z471] at X471
  obtain ⟨rfl, N471q, hh471⟩ := hQ471
  have N471 := Fr.app N469 N471q
  have R472 : ∀ tg, Steps p.tables e below (T471.setTop (mkF m 337 #[vI p1, vI p2, vI p3, vI p4, vI p5, vI p6, vI c0, vI c1, vI c2, vI c3, vI nv, vI bd, vR ar, vR ob, vR fo, vR ra, vI (4 : Int32)] [(.int (3 : Int32)), (.ref ra)])) tg → Steps p.tables e below (T0.setTop (mkF m 255 #[vI p1, vI p2, vI p3, vI p4, vI p5, vI p6, vI c0, vI c1, vI c2, vI c3, vI nv, vI bd, vR ar, vR ob, vR fo, vR ra, vI (4 : Int32)] [])) tg := by
    intro tg kt
    refine R470 _ ?_
    refine st471.trans ?_
    show Steps p.tables e below (T471.setTop (mkF m 321 #[vI p1, vI p2, vI p3, vI p4, vI p5, vI p6, vI c0, vI c1, vI c2, vI c3, vI nv, vI bd, vR ar, vR ob, vR fo, vR ra, vI (4 : Int32)] [(.int (own_ch (g 2)))])) _
    refine XS.iload X471.here hx rfl (hb hby at_321) rfl ?_
    show Steps p.tables e below (T471.setTop (mkF m 323 #[vI p1, vI p2, vI p3, vI p4, vI p5, vI p6, vI c0, vI c1, vI c2, vI c3, vI nv, vI bd, vR ar, vR ob, vR fo, vR ra, vI (4 : Int32)] [(.int c2), (.int (own_ch (g 2)))])) _
    refine XS.icmpYes X471.here hx rfl (pc0 := 323) (pc' := 328) rfl (hb hby at_323) rfl (teq (g2 : (own_ch (g 2)) = c2)).1 (by decide) (by decide) ?_
    refine XS.iload X471.here hx rfl (hb hby at_328) rfl ?_
    refine XS.iconst X471.here hx rfl (hb hby at_330) ?_
    show Steps p.tables e below (T471.setTop (mkF m 331 #[vI p1, vI p2, vI p3, vI p4, vI p5, vI p6, vI c0, vI c1, vI c2, vI c3, vI nv, vI bd, vR ar, vR ob, vR fo, vR ra, vI (4 : Int32)] [(.int (3 : Int32)), (.int (4 : Int32))])) _
    refine XS.icmpNo X471.here hx rfl (hb hby at_331) rfl (tlt (by decide : (3 : Int32) < (4 : Int32))).2.2.2 ?_
    refine XS.aload X471.here hx rfl (hb hby at_334) rfl rfl ?_
    refine XS.iconst X471.here hx rfl (hb hby at_336) ?_
    exact kt
  clear R470 st471
  obtain ⟨cq473, kq473, q473a, q473b, q473c⟩ := isOf hZ hh471 E1
  obtain ⟨_, _, ⟨T473, L473, k473, n473⟩, -, X473, ⟨Lc473, hQ473, l473, y473, z473⟩, st473⟩ := X471.virtualBack hx (y := (⟨"java/lang/String", "charAt", "(I)C"⟩ : MethodName)) (z := (⟨"java/lang/String", "charAt", "(I)C"⟩ : MethodName)) hown (mvT hZ (hw _ (List.mem_of_getElem? (i := 139) rfl))) (mvT hZ (hw _ (List.mem_of_getElem? (i := 140) rfl))) (notFace_of_selects (args := #[]) (mvT hZ (hw _ (List.mem_of_getElem? (i := 142) rfl)))) (mvT hZ (hw _ (List.mem_of_getElem? (i := 142) rfl))) (mvT hZ (hw _ (List.mem_of_getElem? (i := 141) rfl))) (by decide) (backOf (W := 0) (rm_cha l Z a0 hw [] ra (3 : Int32) tb cs 4 g 3 vf h0 n0 Z0 SC OL hcs SF hvf Fc Fv E1 VA (by decide) (by decide) rfl (by decide)) hZ (hw _ (List.mem_of_getElem? (i := 143) rfl)) (hw _ (List.mem_of_getElem? (i := 8) rfl)) (by decide) (by decide)) q473a q473c (g := (mkF m 337 #[vI p1, vI p2, vI p3, vI p4, vI p5, vI p6, vI c0, vI c1, vI c2, vI c3, vI nv, vI bd, vR ar, vR ob, vR fo, vR ra, vI (4 : Int32)] [(.int (3 : Int32)), (.ref ra)])) rfl (by rw [hml]; rfl) (Steps.refl _) (argsL := [(.int (3 : Int32))]) (rest := []) (lenOf pd_21 rfl) rfl (by show 2 * 0 + _ ≤ _; exact Nat.le_of_eq rfl) (hb hby at_337) (fun _ _ => ⟨rfl, hh471, hcl, hsl⟩)
  dsimp only [Pt.U, Pt.locs, Pt.cells, Pt.slots] at X473 l473 y473 z473 st473 hQ473
  rw [l473, y473, z473] at X473
  obtain ⟨rfl, N473q, hh473⟩ := hQ473
  have N473 := Fr.app N471 N473q
  have R474 : ∀ tg, Steps p.tables e below (T473.setTop (mkF m 348 #[vI p1, vI p2, vI p3, vI p4, vI p5, vI p6, vI c0, vI c1, vI c2, vI c3, vI nv, vI bd, vR ar, vR ob, vR fo, vR ra, vI (4 : Int32)] [(.int (1 : Int32))])) tg → Steps p.tables e below (T0.setTop (mkF m 255 #[vI p1, vI p2, vI p3, vI p4, vI p5, vI p6, vI c0, vI c1, vI c2, vI c3, vI nv, vI bd, vR ar, vR ob, vR fo, vR ra, vI (4 : Int32)] [])) tg := by
    intro tg kt
    refine R472 _ ?_
    refine st473.trans ?_
    show Steps p.tables e below (T473.setTop (mkF m 340 #[vI p1, vI p2, vI p3, vI p4, vI p5, vI p6, vI c0, vI c1, vI c2, vI c3, vI nv, vI bd, vR ar, vR ob, vR fo, vR ra, vI (4 : Int32)] [(.int (own_ch (g 3)))])) _
    refine XS.iload X473.here hx rfl (hb hby at_340) rfl ?_
    show Steps p.tables e below (T473.setTop (mkF m 342 #[vI p1, vI p2, vI p3, vI p4, vI p5, vI p6, vI c0, vI c1, vI c2, vI c3, vI nv, vI bd, vR ar, vR ob, vR fo, vR ra, vI (4 : Int32)] [(.int c3), (.int (own_ch (g 3)))])) _
    refine XS.icmpYes X473.here hx rfl (pc0 := 342) (pc' := 347) rfl (hb hby at_342) rfl (teq (g3 : (own_ch (g 3)) = c3)).1 (by decide) (by decide) ?_
    refine XS.iconst X473.here hx rfl (hb hby at_347) ?_
    exact kt
  clear R472 st473
  exact ⟨_, _, X473, hh473, N473, R474⟩
theorem pd_22 : parseMethodDescriptor "([C)V" = some ⟨[(.array .char)], none⟩ := by decide +kernel
theorem pd_23 : parseMethodDescriptor "(ILjava/lang/String;Z)V" = some ⟨[.int, (.object "java/lang/String"), .boolean], none⟩ := by decide +kernel
theorem pd_24 : parseMethodDescriptor "()Ljava/lang/String;" = some ⟨[], some (.object "java/lang/String")⟩ := by decide +kernel
theorem ef_rm_law (m : MethodId) (p1 : Int32) (p2 : Int32) (p3 : Int32) (p4 : Int32) (p5 : Int32) (p6 : Int32) : entryFrame m #[(.int p1), (.int p2), (.int p3), (.int p4), (.int p5), (.int p6)] maxLocals = mkF m 0 #[vI p1, vI p2, vI p3, vI p4, vI p5, vI p6, .unset, .unset, .unset, .unset, .unset, .unset, .unset, .unset, .unset, .unset, .unset] [] := by first | (simp [entryFrame, mkF, argsToLocals, Value.category, maxLocals]; done) | rfl
def Q_rm_law (Z : State) (p1 : Int32) (p2 : Int32) (p3 : Int32) (p4 : Int32) (p5 : Int32) (p6 : Int32) (cs : Int32) (vf : Value) (h0 : Heap) (n0 : Nat) (v : Option Value) (h : Heap) (L : List Loc) : Prop := v = some (.int (1 : Int32)) ∧ Fr n0 L
set_option maxRecDepth 65536 in
set_option maxHeartbeats 40000000 in
theorem rm_law (l : Launch) (Z : State) (a0 : Array Value) (hw : ∀ d ∈ tables_1, d.before a0 Z = true) (ws : List Jvm.Cond) (p1 : Int32) (p2 : Int32) (p3 : Int32) (p4 : Int32) (p5 : Int32) (p6 : Int32) (cs : Int32) (vf : Value) (h0 : Heap) (n0 : Nat) (Z0 : n0 ≤ h0.size) (SC : Sta Z Z.heap "java/lang/String" "COMPACT_STRINGS" "Z" (.int cs)) (OL : Old Z n0 h0) (hcs : ¬ (cs = (0 : Int32))) (SF : Sta Z Z.heap "jdk/internal/util/Preconditions" "SIOOBE_FORMATTER" "Ljava/util/function/BiFunction;" vf) (hvf : vf.isRef = true) (hc7 : Jvm.Lit.constHeld Z "java/lang/String" 7) (hc151 : Jvm.Lit.constHeld Z "java/lang/StringLatin1" 151) (hcw : Jvm.Lit.compactW.before a0 Z = true) :
    MetFree l x (head1 (Jvm.Cond.code x code maxLocals ret :: ws) room_1) (fun a U => a = #[(.int p1), (.int p2), (.int p3), (.int p4), (.int p5), (.int p6)] ∧ Z.Warmed39 U.vm ∧ U.heap = h0 ∧ IB Z U.vm []) (fun _ _ _ _ _ => True) (fun _ U oC U' => ∃ v L, oC = .returned v ∧ Q_rm_law Z p1 p2 p3 p4 p5 p6 cs vf h0 n0 v U'.heap L ∧ ReturnedEndW U oC U' L room_1.cells room_1.slots) := by
  refine MetFree.of_bodySF (plainFor_of_name pn_3) hisR ?_
  intro p e s m args below meth c s₁ Bd hml0 hP hK
  obtain ⟨rfl, hZ, hh, hI⟩ := hP
  have hS0 : s.Since s.vm 0 := State.WarmedH.since (State.WarmedH.refl s) 0
  have hk0 : 0 ≤ h0.size := Nat.zero_le _
  have hkeep : ∀ (b : Addr) (cl : Cell), Z.heap[b]? = some cl → s.heap[b]? = some cl := by rw [hh]; exact OL.2.2
  have hx := Bd.exec
  have hby := Bd.bytes
  have hml : c.maxLocals = 17 := hml0
  have hown : s.vm.findClass "com/example/travessia/travessia/isis/IsisFieldLeadingTextPinLaw" = some m.cls := findClass_of_methodNamed Bd.named
  have hnm := (name_of_methodNamed Bd.named Bd.method).1
  have X0 : Stand p l e room_1 s m #[(.int p1), (.int p2), (.int p3), (.int p4), (.int p5), (.int p6)] below meth c s₁ [] 0 0 := Stand.of_body Bd
  have e0 : s₁.heap = h0 := by rw [← hh, Bd.state]; rfl
  have N0 := Fr.nil n0
  have pre0 : ∀ tg, Steps p.tables e below (s₁.setTop (mkF m 0 #[vI p1, vI p2, vI p3, vI p4, vI p5, vI p6, .unset, .unset, .unset, .unset, .unset, .unset, .unset, .unset, .unset, .unset, .unset] [])) tg → Steps p.tables e below (s₁.setTop (entryFrame m #[(.int p1), (.int p2), (.int p3), (.int p4), (.int p5), (.int p6)] maxLocals)) tg := fun t k => castTop (ef_rm_law m p1 p2 p3 p4 p5 p6) k
  have pre00 : ∀ tg, Steps p.tables e below (s₁.setTop (mkF m 0 #[vI p1, vI p2, vI p3, vI p4, vI p5, vI p6, .unset, .unset, .unset, .unset, .unset, .unset, .unset, .unset, .unset, .unset, .unset] [])) tg → Steps p.tables e below (s₁.setTop (mkF m 0 #[vI p1, vI p2, vI p3, vI p4, vI p5, vI p6, .unset, .unset, .unset, .unset, .unset, .unset, .unset, .unset, .unset, .unset, .unset] [])) tg := fun _ k => k
  have R475 : ∀ tg, Steps p.tables e below (s₁.setTop (mkF m 1 #[vI p1, vI p2, vI p3, vI p4, vI p5, vI p6, .unset, .unset, .unset, .unset, .unset, .unset, .unset, .unset, .unset, .unset, .unset] [(.int p1)])) tg → Steps p.tables e below (s₁.setTop (mkF m 0 #[vI p1, vI p2, vI p3, vI p4, vI p5, vI p6, .unset, .unset, .unset, .unset, .unset, .unset, .unset, .unset, .unset, .unset, .unset] [])) tg := by
    intro tg kt
    refine pre00 _ ?_
    show Steps p.tables e below (s₁.setTop (mkF m 0 #[vI p1, vI p2, vI p3, vI p4, vI p5, vI p6, .unset, .unset, .unset, .unset, .unset, .unset, .unset, .unset, .unset, .unset, .unset] [])) _
    refine XS.iloadN X0.here hx rfl (hb hby at_0) rfl ?_
    exact kt
  obtain ⟨_, _, ⟨T476, L476, k476, n476⟩, -, X476, ⟨Lc476, hQ476, l476, y476, z476⟩, st476⟩ := Jvm.LawKit.callS X0 hx (y := (⟨"com/example/travessia/travessia/isis/IsisFieldLeadingTextPinLaw", "draw", "(I)C"⟩ : MethodName)) hown (mvT hZ (hw _ (List.mem_of_getElem? (i := 0) rfl))) (mvT hZ (hw _ (List.mem_of_getElem? (i := 1) rfl))) (mvT hZ (hw _ (List.mem_of_getElem? (i := 2) rfl))) (mvT hZ (hw _ (List.mem_of_getElem? (i := 3) rfl))) (by decide) (backOf (W := 0) (rm_draw l Z a0 hw [] p1 h0 n0 Z0) hZ (hw _ (List.mem_of_getElem? (i := 3) rfl)) (hw _ (List.mem_of_getElem? (i := 2) rfl)) (by decide) (by decide)) (g := (mkF m 1 #[vI p1, vI p2, vI p3, vI p4, vI p5, vI p6, .unset, .unset, .unset, .unset, .unset, .unset, .unset, .unset, .unset, .unset, .unset] [(.int p1)])) rfl (by rw [hml]; rfl) (argsL := [(.int p1)]) (rest := []) (lenOf pd_21 rfl) rfl (by show 2 * 0 + _ ≤ _; exact Nat.le_of_eq rfl) (hb hby at_1) (fun _ _ => ⟨rfl, e0, (by decide : 0 + 0 ≤ _), (by decide : 0 + 0 ≤ _)⟩)
  dsimp only [Pt.U, Pt.locs, Pt.cells, Pt.slots] at X476 l476 y476 z476 st476 hQ476
  rw [l476, y476, z476] at X476
  obtain ⟨rfl, N476q, hh476⟩ := hQ476
  have N476 := Fr.app N0 N476q
  have R477 : ∀ tg, Steps p.tables e below (T476.setTop (mkF m 7 #[vI p1, vI p2, vI p3, vI p4, vI p5, vI p6, vI (own_draw p1), .unset, .unset, .unset, .unset, .unset, .unset, .unset, .unset, .unset, .unset] [(.int p2)])) tg → Steps p.tables e below (s₁.setTop (mkF m 0 #[vI p1, vI p2, vI p3, vI p4, vI p5, vI p6, .unset, .unset, .unset, .unset, .unset, .unset, .unset, .unset, .unset, .unset, .unset] [])) tg := by
    intro tg kt
    refine R475 _ ?_
    refine st476 _ ?_
    show Steps p.tables e below (T476.setTop (mkF m 4 #[vI p1, vI p2, vI p3, vI p4, vI p5, vI p6, .unset, .unset, .unset, .unset, .unset, .unset, .unset, .unset, .unset, .unset, .unset] [(.int (own_draw p1))])) _
    refine XS.istore X476.here hx rfl (hb hby at_4) rfl (l' := #[vI p1, vI p2, vI p3, vI p4, vI p5, vI p6, vI (own_draw p1), .unset, .unset, .unset, .unset, .unset, .unset, .unset, .unset, .unset, .unset]) rfl ?_
    refine XS.iloadN X476.here hx rfl (hb hby at_6) rfl ?_
    exact kt
  clear R475 st476
  obtain ⟨_, _, ⟨T478, L478, k478, n478⟩, -, X478, ⟨Lc478, hQ478, l478, y478, z478⟩, st478⟩ := Jvm.LawKit.callS X476 hx (y := (⟨"com/example/travessia/travessia/isis/IsisFieldLeadingTextPinLaw", "draw", "(I)C"⟩ : MethodName)) hown (mvT hZ (hw _ (List.mem_of_getElem? (i := 0) rfl))) (mvT hZ (hw _ (List.mem_of_getElem? (i := 1) rfl))) (mvT hZ (hw _ (List.mem_of_getElem? (i := 2) rfl))) (mvT hZ (hw _ (List.mem_of_getElem? (i := 3) rfl))) (by decide) (backOf (W := 0) (rm_draw l Z a0 hw [] p2 h0 n0 Z0) hZ (hw _ (List.mem_of_getElem? (i := 3) rfl)) (hw _ (List.mem_of_getElem? (i := 2) rfl)) (by decide) (by decide)) (g := (mkF m 7 #[vI p1, vI p2, vI p3, vI p4, vI p5, vI p6, vI (own_draw p1), .unset, .unset, .unset, .unset, .unset, .unset, .unset, .unset, .unset, .unset] [(.int p2)])) rfl (by rw [hml]; rfl) (argsL := [(.int p2)]) (rest := []) (lenOf pd_21 rfl) rfl (by show 2 * 0 + _ ≤ _; exact Nat.le_of_eq rfl) (hb hby at_7) (fun _ _ => ⟨rfl, hh476, (by decide : 0 + 0 ≤ _), (by decide : 0 + 0 ≤ _)⟩)
  dsimp only [Pt.U, Pt.locs, Pt.cells, Pt.slots] at X478 l478 y478 z478 st478 hQ478
  rw [l478, y478, z478] at X478
  obtain ⟨rfl, N478q, hh478⟩ := hQ478
  have N478 := Fr.app N476 N478q
  have R479 : ∀ tg, Steps p.tables e below (T478.setTop (mkF m 13 #[vI p1, vI p2, vI p3, vI p4, vI p5, vI p6, vI (own_draw p1), vI (own_draw p2), .unset, .unset, .unset, .unset, .unset, .unset, .unset, .unset, .unset] [(.int p3)])) tg → Steps p.tables e below (s₁.setTop (mkF m 0 #[vI p1, vI p2, vI p3, vI p4, vI p5, vI p6, .unset, .unset, .unset, .unset, .unset, .unset, .unset, .unset, .unset, .unset, .unset] [])) tg := by
    intro tg kt
    refine R477 _ ?_
    refine st478 _ ?_
    show Steps p.tables e below (T478.setTop (mkF m 10 #[vI p1, vI p2, vI p3, vI p4, vI p5, vI p6, vI (own_draw p1), .unset, .unset, .unset, .unset, .unset, .unset, .unset, .unset, .unset, .unset] [(.int (own_draw p2))])) _
    refine XS.istore X478.here hx rfl (hb hby at_10) rfl (l' := #[vI p1, vI p2, vI p3, vI p4, vI p5, vI p6, vI (own_draw p1), vI (own_draw p2), .unset, .unset, .unset, .unset, .unset, .unset, .unset, .unset, .unset]) rfl ?_
    refine XS.iloadN X478.here hx rfl (hb hby at_12) rfl ?_
    exact kt
  clear R477 st478
  obtain ⟨_, _, ⟨T480, L480, k480, n480⟩, -, X480, ⟨Lc480, hQ480, l480, y480, z480⟩, st480⟩ := Jvm.LawKit.callS X478 hx (y := (⟨"com/example/travessia/travessia/isis/IsisFieldLeadingTextPinLaw", "draw", "(I)C"⟩ : MethodName)) hown (mvT hZ (hw _ (List.mem_of_getElem? (i := 0) rfl))) (mvT hZ (hw _ (List.mem_of_getElem? (i := 1) rfl))) (mvT hZ (hw _ (List.mem_of_getElem? (i := 2) rfl))) (mvT hZ (hw _ (List.mem_of_getElem? (i := 3) rfl))) (by decide) (backOf (W := 0) (rm_draw l Z a0 hw [] p3 h0 n0 Z0) hZ (hw _ (List.mem_of_getElem? (i := 3) rfl)) (hw _ (List.mem_of_getElem? (i := 2) rfl)) (by decide) (by decide)) (g := (mkF m 13 #[vI p1, vI p2, vI p3, vI p4, vI p5, vI p6, vI (own_draw p1), vI (own_draw p2), .unset, .unset, .unset, .unset, .unset, .unset, .unset, .unset, .unset] [(.int p3)])) rfl (by rw [hml]; rfl) (argsL := [(.int p3)]) (rest := []) (lenOf pd_21 rfl) rfl (by show 2 * 0 + _ ≤ _; exact Nat.le_of_eq rfl) (hb hby at_13) (fun _ _ => ⟨rfl, hh478, (by decide : 0 + 0 ≤ _), (by decide : 0 + 0 ≤ _)⟩)
  dsimp only [Pt.U, Pt.locs, Pt.cells, Pt.slots] at X480 l480 y480 z480 st480 hQ480
  rw [l480, y480, z480] at X480
  obtain ⟨rfl, N480q, hh480⟩ := hQ480
  have N480 := Fr.app N478 N480q
  have R481 : ∀ tg, Steps p.tables e below (T480.setTop (mkF m 19 #[vI p1, vI p2, vI p3, vI p4, vI p5, vI p6, vI (own_draw p1), vI (own_draw p2), vI (own_draw p3), .unset, .unset, .unset, .unset, .unset, .unset, .unset, .unset] [(.int p4)])) tg → Steps p.tables e below (s₁.setTop (mkF m 0 #[vI p1, vI p2, vI p3, vI p4, vI p5, vI p6, .unset, .unset, .unset, .unset, .unset, .unset, .unset, .unset, .unset, .unset, .unset] [])) tg := by
    intro tg kt
    refine R479 _ ?_
    refine st480 _ ?_
    show Steps p.tables e below (T480.setTop (mkF m 16 #[vI p1, vI p2, vI p3, vI p4, vI p5, vI p6, vI (own_draw p1), vI (own_draw p2), .unset, .unset, .unset, .unset, .unset, .unset, .unset, .unset, .unset] [(.int (own_draw p3))])) _
    refine XS.istore X480.here hx rfl (hb hby at_16) rfl (l' := #[vI p1, vI p2, vI p3, vI p4, vI p5, vI p6, vI (own_draw p1), vI (own_draw p2), vI (own_draw p3), .unset, .unset, .unset, .unset, .unset, .unset, .unset, .unset]) rfl ?_
    refine XS.iloadN X480.here hx rfl (hb hby at_18) rfl ?_
    exact kt
  clear R479 st480
  obtain ⟨_, _, ⟨T482, L482, k482, n482⟩, -, X482, ⟨Lc482, hQ482, l482, y482, z482⟩, st482⟩ := Jvm.LawKit.callS X480 hx (y := (⟨"com/example/travessia/travessia/isis/IsisFieldLeadingTextPinLaw", "draw", "(I)C"⟩ : MethodName)) hown (mvT hZ (hw _ (List.mem_of_getElem? (i := 0) rfl))) (mvT hZ (hw _ (List.mem_of_getElem? (i := 1) rfl))) (mvT hZ (hw _ (List.mem_of_getElem? (i := 2) rfl))) (mvT hZ (hw _ (List.mem_of_getElem? (i := 3) rfl))) (by decide) (backOf (W := 0) (rm_draw l Z a0 hw [] p4 h0 n0 Z0) hZ (hw _ (List.mem_of_getElem? (i := 3) rfl)) (hw _ (List.mem_of_getElem? (i := 2) rfl)) (by decide) (by decide)) (g := (mkF m 19 #[vI p1, vI p2, vI p3, vI p4, vI p5, vI p6, vI (own_draw p1), vI (own_draw p2), vI (own_draw p3), .unset, .unset, .unset, .unset, .unset, .unset, .unset, .unset] [(.int p4)])) rfl (by rw [hml]; rfl) (argsL := [(.int p4)]) (rest := []) (lenOf pd_21 rfl) rfl (by show 2 * 0 + _ ≤ _; exact Nat.le_of_eq rfl) (hb hby at_19) (fun _ _ => ⟨rfl, hh480, (by decide : 0 + 0 ≤ _), (by decide : 0 + 0 ≤ _)⟩)
  dsimp only [Pt.U, Pt.locs, Pt.cells, Pt.slots] at X482 l482 y482 z482 st482 hQ482
  rw [l482, y482, z482] at X482
  obtain ⟨rfl, N482q, hh482⟩ := hQ482
  have N482 := Fr.app N480 N482q
  have R483 : ∀ tg, Steps p.tables e below (T482.setTop (mkF m 24 #[vI p1, vI p2, vI p3, vI p4, vI p5, vI p6, vI (own_draw p1), vI (own_draw p2), vI (own_draw p3), vI (own_draw p4), .unset, .unset, .unset, .unset, .unset, .unset, .unset] [])) tg → Steps p.tables e below (s₁.setTop (mkF m 0 #[vI p1, vI p2, vI p3, vI p4, vI p5, vI p6, .unset, .unset, .unset, .unset, .unset, .unset, .unset, .unset, .unset, .unset, .unset] [])) tg := by
    intro tg kt
    refine R481 _ ?_
    refine st482 _ ?_
    show Steps p.tables e below (T482.setTop (mkF m 22 #[vI p1, vI p2, vI p3, vI p4, vI p5, vI p6, vI (own_draw p1), vI (own_draw p2), vI (own_draw p3), .unset, .unset, .unset, .unset, .unset, .unset, .unset, .unset] [(.int (own_draw p4))])) _
    refine XS.istore X482.here hx rfl (hb hby at_22) rfl (l' := #[vI p1, vI p2, vI p3, vI p4, vI p5, vI p6, vI (own_draw p1), vI (own_draw p2), vI (own_draw p3), vI (own_draw p4), .unset, .unset, .unset, .unset, .unset, .unset, .unset]) rfl ?_
    exact kt
  clear R481 st482
  obtain ⟨c0, hc0⟩ : ∃ z : Int32, z = (own_draw p1) := ⟨_, rfl⟩
  have R484 : ∀ tg, Steps p.tables e below (T482.setTop (mkF m 24 #[vI p1, vI p2, vI p3, vI p4, vI p5, vI p6, vI c0, vI (own_draw p2), vI (own_draw p3), vI (own_draw p4), .unset, .unset, .unset, .unset, .unset, .unset, .unset] [])) tg → Steps p.tables e below (s₁.setTop (mkF m 0 #[vI p1, vI p2, vI p3, vI p4, vI p5, vI p6, .unset, .unset, .unset, .unset, .unset, .unset, .unset, .unset, .unset, .unset, .unset] [])) tg := by rw [hc0]; exact R483
  obtain ⟨c1, hc1⟩ : ∃ z : Int32, z = (own_draw p2) := ⟨_, rfl⟩
  have R485 : ∀ tg, Steps p.tables e below (T482.setTop (mkF m 24 #[vI p1, vI p2, vI p3, vI p4, vI p5, vI p6, vI c0, vI c1, vI (own_draw p3), vI (own_draw p4), .unset, .unset, .unset, .unset, .unset, .unset, .unset] [])) tg → Steps p.tables e below (s₁.setTop (mkF m 0 #[vI p1, vI p2, vI p3, vI p4, vI p5, vI p6, .unset, .unset, .unset, .unset, .unset, .unset, .unset, .unset, .unset, .unset, .unset] [])) tg := by rw [hc1]; exact R484
  obtain ⟨c2, hc2⟩ : ∃ z : Int32, z = (own_draw p3) := ⟨_, rfl⟩
  have R486 : ∀ tg, Steps p.tables e below (T482.setTop (mkF m 24 #[vI p1, vI p2, vI p3, vI p4, vI p5, vI p6, vI c0, vI c1, vI c2, vI (own_draw p4), .unset, .unset, .unset, .unset, .unset, .unset, .unset] [])) tg → Steps p.tables e below (s₁.setTop (mkF m 0 #[vI p1, vI p2, vI p3, vI p4, vI p5, vI p6, .unset, .unset, .unset, .unset, .unset, .unset, .unset, .unset, .unset, .unset, .unset] [])) tg := by rw [hc2]; exact R485
  obtain ⟨c3, hc3⟩ : ∃ z : Int32, z = (own_draw p4) := ⟨_, rfl⟩
  have R487 : ∀ tg, Steps p.tables e below (T482.setTop (mkF m 24 #[vI p1, vI p2, vI p3, vI p4, vI p5, vI p6, vI c0, vI c1, vI c2, vI c3, .unset, .unset, .unset, .unset, .unset, .unset, .unset] [])) tg → Steps p.tables e below (s₁.setTop (mkF m 0 #[vI p1, vI p2, vI p3, vI p4, vI p5, vI p6, .unset, .unset, .unset, .unset, .unset, .unset, .unset, .unset, .unset, .unset, .unset] [])) tg := by rw [hc3]; exact R486
  obtain ⟨av0, d0⟩ : ¬ c0 < 0 ∧ ¬ (255 : Int32) < c0 := hc0 ▸ own_dr p1
  obtain ⟨q0, b0, r0⟩ := own_c8 c0 av0 d0
  obtain ⟨av1, d1⟩ : ¬ c1 < 0 ∧ ¬ (255 : Int32) < c1 := hc1 ▸ own_dr p2
  obtain ⟨q1, b1, r1⟩ := own_c8 c1 av1 d1
  obtain ⟨av2, d2⟩ : ¬ c2 < 0 ∧ ¬ (255 : Int32) < c2 := hc2 ▸ own_dr p3
  obtain ⟨q2, b2, r2⟩ := own_c8 c2 av2 d2
  obtain ⟨av3, d3⟩ : ¬ c3 < 0 ∧ ¬ (255 : Int32) < c3 := hc3 ▸ own_dr p4
  obtain ⟨q3, b3, r3⟩ := own_c8 c3 av3 d3
  have R488 : ∀ tg, Steps p.tables e below (T482.setTop (mkF m 33 #[vI p1, vI p2, vI p3, vI p4, vI p5, vI p6, vI c0, vI c1, vI c2, vI c3, vI ((p6 &&& (2147483647 : Int32)) - ((p6 &&& (2147483647 : Int32)) / (5 : Int32)) * (5 : Int32)), .unset, .unset, .unset, .unset, .unset, .unset] [])) tg → Steps p.tables e below (s₁.setTop (mkF m 0 #[vI p1, vI p2, vI p3, vI p4, vI p5, vI p6, .unset, .unset, .unset, .unset, .unset, .unset, .unset, .unset, .unset, .unset, .unset] [])) tg := by
    intro tg kt
    refine R487 _ ?_
    show Steps p.tables e below (T482.setTop (mkF m 24 #[vI p1, vI p2, vI p3, vI p4, vI p5, vI p6, vI c0, vI c1, vI c2, vI c3, .unset, .unset, .unset, .unset, .unset, .unset, .unset] [])) _
    refine XS.iload X482.here hx rfl (hb hby at_24) rfl ?_
    show Steps p.tables e below (T482.setTop (mkF m 26 #[vI p1, vI p2, vI p3, vI p4, vI p5, vI p6, vI c0, vI c1, vI c2, vI c3, .unset, .unset, .unset, .unset, .unset, .unset, .unset] [(.int p6)])) _
    refine X482.ldcInt hx hown (mvT hZ (hw _ (List.mem_of_getElem? (i := 4) rfl))) (g := (mkF m 26 #[vI p1, vI p2, vI p3, vI p4, vI p5, vI p6, vI c0, vI c1, vI c2, vI c3, .unset, .unset, .unset, .unset, .unset, .unset, .unset] [(.int p6)])) rfl (hb hby at_26) _ ?_
    show Steps p.tables e below (T482.setTop (mkF m 28 #[vI p1, vI p2, vI p3, vI p4, vI p5, vI p6, vI c0, vI c1, vI c2, vI c3, .unset, .unset, .unset, .unset, .unset, .unset, .unset] [(.int (2147483647 : Int32)), (.int p6)])) _
    refine XS.iand X482.here hx rfl (hb hby at_28) rfl ?_
    refine XS.iconst X482.here hx rfl (hb hby at_29) ?_
    show Steps p.tables e below (T482.setTop (mkF m 30 #[vI p1, vI p2, vI p3, vI p4, vI p5, vI p6, vI c0, vI c1, vI c2, vI c3, .unset, .unset, .unset, .unset, .unset, .unset, .unset] [(.int (5 : Int32)), (.int (p6 &&& (2147483647 : Int32)))])) _
    refine XS.irem X482.here hx rfl (hb hby at_30) rfl (by decide) ?_
    show Steps p.tables e below (T482.setTop (mkF m 31 #[vI p1, vI p2, vI p3, vI p4, vI p5, vI p6, vI c0, vI c1, vI c2, vI c3, .unset, .unset, .unset, .unset, .unset, .unset, .unset] [(.int ((p6 &&& (2147483647 : Int32)) - ((p6 &&& (2147483647 : Int32)) / (5 : Int32)) * (5 : Int32)))])) _
    refine XS.istore X482.here hx rfl (hb hby at_31) rfl (l' := #[vI p1, vI p2, vI p3, vI p4, vI p5, vI p6, vI c0, vI c1, vI c2, vI c3, vI ((p6 &&& (2147483647 : Int32)) - ((p6 &&& (2147483647 : Int32)) / (5 : Int32)) * (5 : Int32)), .unset, .unset, .unset, .unset, .unset, .unset]) rfl ?_
    exact kt
  clear R487
  obtain ⟨nv, hnv⟩ : ∃ z : Int32, z = ((p6 &&& (2147483647 : Int32)) - ((p6 &&& (2147483647 : Int32)) / (5 : Int32)) * (5 : Int32)) := ⟨_, rfl⟩
  have R489 : ∀ tg, Steps p.tables e below (T482.setTop (mkF m 33 #[vI p1, vI p2, vI p3, vI p4, vI p5, vI p6, vI c0, vI c1, vI c2, vI c3, vI nv, .unset, .unset, .unset, .unset, .unset, .unset] [])) tg → Steps p.tables e below (s₁.setTop (mkF m 0 #[vI p1, vI p2, vI p3, vI p4, vI p5, vI p6, .unset, .unset, .unset, .unset, .unset, .unset, .unset, .unset, .unset, .unset, .unset] [])) tg := by rw [hnv]; exact R488
  have n5 := own_irem5 _ (own_m7 p6)
  rw [← hnv] at n5
  have R490 : ∀ tg, Steps p.tables e below (T482.setTop (mkF m 35 #[vI p1, vI p2, vI p3, vI p4, vI p5, vI p6, vI c0, vI c1, vI c2, vI c3, vI nv, .unset, .unset, .unset, .unset, .unset, .unset] [(.int p6)])) tg → Steps p.tables e below (s₁.setTop (mkF m 0 #[vI p1, vI p2, vI p3, vI p4, vI p5, vI p6, .unset, .unset, .unset, .unset, .unset, .unset, .unset, .unset, .unset, .unset, .unset] [])) tg := by
    intro tg kt
    refine R489 _ ?_
    show Steps p.tables e below (T482.setTop (mkF m 33 #[vI p1, vI p2, vI p3, vI p4, vI p5, vI p6, vI c0, vI c1, vI c2, vI c3, vI nv, .unset, .unset, .unset, .unset, .unset, .unset] [])) _
    refine XS.iload X482.here hx rfl (hb hby at_33) rfl ?_
    exact kt
  clear R489
  have R491 : ∀ tg, Steps p.tables e below (T482.setTop (mkF m 43 #[vI p1, vI p2, vI p3, vI p4, vI p5, vI p6, vI c0, vI c1, vI c2, vI c3, vI nv, .unset, .unset, .unset, .unset, .unset, .unset] [(.int (own_bad p6))])) tg → Steps p.tables e below (s₁.setTop (mkF m 0 #[vI p1, vI p2, vI p3, vI p4, vI p5, vI p6, .unset, .unset, .unset, .unset, .unset, .unset, .unset, .unset, .unset, .unset, .unset] [])) tg := by
    intro tg kt
    refine R490 _ ?_
    by_cases hbad : p6 < (0 : Int32)
    · rw [show (own_bad p6) = (1 : Int32) from if_pos hbad] at kt
      show Steps p.tables e below (T482.setTop (mkF m 35 #[vI p1, vI p2, vI p3, vI p4, vI p5, vI p6, vI c0, vI c1, vI c2, vI c3, vI nv, .unset, .unset, .unset, .unset, .unset, .unset] [(.int p6)])) _
      refine XS.ifNo X482.here hx rfl (hb hby at_35) rfl ((if0 _ _).trans (tlt (hbad : p6 < (0 : Int32))).2.1) ?_
      refine XS.iconst X482.here hx rfl (hb hby at_38) ?_
      show Steps p.tables e below (T482.setTop (mkF m 39 #[vI p1, vI p2, vI p3, vI p4, vI p5, vI p6, vI c0, vI c1, vI c2, vI c3, vI nv, .unset, .unset, .unset, .unset, .unset, .unset] [(.int (1 : Int32))])) _
      refine XS.goto X482.here hx rfl (pc0 := 39) (pc' := 43) rfl (hb hby at_39) (by decide) (by decide) ?_
      exact kt
    · rw [show (own_bad p6) = (0 : Int32) from if_neg hbad] at kt
      show Steps p.tables e below (T482.setTop (mkF m 35 #[vI p1, vI p2, vI p3, vI p4, vI p5, vI p6, vI c0, vI c1, vI c2, vI c3, vI nv, .unset, .unset, .unset, .unset, .unset, .unset] [(.int p6)])) _
      refine XS.ifYes X482.here hx rfl (pc0 := 35) (pc' := 42) rfl (hb hby at_35) rfl ((if0 _ _).trans (flt (hbad : ¬ (p6 < (0 : Int32)))).2.1) (by decide) (by decide) ?_
      refine XS.iconst X482.here hx rfl (hb hby at_42) ?_
      exact kt
  clear R490
  have R492 : ∀ tg, Steps p.tables e below (T482.setTop (mkF m 47 #[vI p1, vI p2, vI p3, vI p4, vI p5, vI p6, vI c0, vI c1, vI c2, vI c3, vI nv, vI (own_bad p6), .unset, .unset, .unset, .unset, .unset] [(.int nv)])) tg → Steps p.tables e below (s₁.setTop (mkF m 0 #[vI p1, vI p2, vI p3, vI p4, vI p5, vI p6, .unset, .unset, .unset, .unset, .unset, .unset, .unset, .unset, .unset, .unset, .unset] [])) tg := by
    intro tg kt
    refine R491 _ ?_
    show Steps p.tables e below (T482.setTop (mkF m 43 #[vI p1, vI p2, vI p3, vI p4, vI p5, vI p6, vI c0, vI c1, vI c2, vI c3, vI nv, .unset, .unset, .unset, .unset, .unset, .unset] [(.int (own_bad p6))])) _
    refine XS.istore X482.here hx rfl (hb hby at_43) rfl (l' := #[vI p1, vI p2, vI p3, vI p4, vI p5, vI p6, vI c0, vI c1, vI c2, vI c3, vI nv, vI (own_bad p6), .unset, .unset, .unset, .unset, .unset]) rfl ?_
    refine XS.iload X482.here hx rfl (hb hby at_45) rfl ?_
    exact kt
  clear R491
  rcases n5 with hn | hn | hn | hn | hn
  · have R493 : ∀ tg, Steps p.tables e below (T482.setTop (mkF m 47 #[vI p1, vI p2, vI p3, vI p4, vI p5, vI p6, vI c0, vI c1, vI c2, vI c3, vI (0 : Int32), vI (own_bad p6), .unset, .unset, .unset, .unset, .unset] [(.int (0 : Int32))])) tg → Steps p.tables e below (s₁.setTop (mkF m 0 #[vI p1, vI p2, vI p3, vI p4, vI p5, vI p6, .unset, .unset, .unset, .unset, .unset, .unset, .unset, .unset, .unset, .unset, .unset] [])) tg := by intro tg kt; refine R492 tg ?_; rw [hn]; exact kt
    have R494 : ∀ tg, Steps p.tables e below (T482.setTop (mkF m 51 #[vI p1, vI p2, vI p3, vI p4, vI p5, vI p6, vI c0, vI c1, vI c2, vI c3, vI (0 : Int32), vI (own_bad p6), .unset, .unset, .unset, .unset, .unset] [(.int (0 : Int32))])) tg → Steps p.tables e below (s₁.setTop (mkF m 0 #[vI p1, vI p2, vI p3, vI p4, vI p5, vI p6, .unset, .unset, .unset, .unset, .unset, .unset, .unset, .unset, .unset, .unset, .unset] [])) tg := by
      intro tg kt
      refine R493 _ ?_
      show Steps p.tables e below (T482.setTop (mkF m 47 #[vI p1, vI p2, vI p3, vI p4, vI p5, vI p6, vI c0, vI c1, vI c2, vI c3, vI (0 : Int32), vI (own_bad p6), .unset, .unset, .unset, .unset, .unset] [(.int (0 : Int32))])) _
      refine XS.ifNo X482.here hx rfl (hb hby at_47) rfl ((if0 _ _).trans (teq (rfl : (0 : Int32) = (0 : Int32))).2) ?_
      refine XS.iconst X482.here hx rfl (hb hby at_50) ?_
      exact kt
    clear R493
    obtain ⟨T495, h495, k495, X495, e495, E495, A495, st495⟩ := newP X482 hx hZ (hw _ (List.mem_of_getElem? (i := 5) rfl)) hh482 (g := (mkF m 51 #[vI p1, vI p2, vI p3, vI p4, vI p5, vI p6, vI c0, vI c1, vI c2, vI c3, vI (0 : Int32), vI (own_bad p6), .unset, .unset, .unset, .unset, .unset] [(.int (0 : Int32))])) rfl (hb hby at_51) rfl (by decide) (cap := 0) (by decide) (by decide) (by decide) (by decide)
    obtain ⟨ar, g495⟩ : ∃ z, z = h0.size := ⟨_, rfl⟩
    rw [← g495] at A495 st495
    have g_ar : n0 ≤ ar := Nat.le_trans Z0 (Nat.le_of_eq g495.symm)
    have OL_495 := OL.ext E495
    have Zs495 : n0 ≤ h495.size := Nat.le_trans Z0 E495.1
    have VC : AV Z h495 ar .char 0 (fun _ => defaultValue .char) := AV.new A495 rfl rfl
    have R496 : ∀ tg, Steps p.tables e below (T495.setTop (mkF m 155 #[vI p1, vI p2, vI p3, vI p4, vI p5, vI p6, vI c0, vI c1, vI c2, vI c3, vI (0 : Int32), vI (own_bad p6), vR ar, .unset, .unset, .unset, .unset] [])) tg → Steps p.tables e below (s₁.setTop (mkF m 0 #[vI p1, vI p2, vI p3, vI p4, vI p5, vI p6, .unset, .unset, .unset, .unset, .unset, .unset, .unset, .unset, .unset, .unset, .unset] [])) tg := by
      intro tg kt
      refine R494 _ ?_
      refine st495 _ ?_
      show Steps p.tables e below (T495.setTop (mkF m 53 #[vI p1, vI p2, vI p3, vI p4, vI p5, vI p6, vI c0, vI c1, vI c2, vI c3, vI (0 : Int32), vI (own_bad p6), .unset, .unset, .unset, .unset, .unset] [(.ref ar)])) _
      refine XS.astore X495.here hx rfl (hb hby at_53) rfl rfl (l' := #[vI p1, vI p2, vI p3, vI p4, vI p5, vI p6, vI c0, vI c1, vI c2, vI c3, vI (0 : Int32), vI (own_bad p6), vR ar, .unset, .unset, .unset, .unset]) rfl ?_
      show Steps p.tables e below (T495.setTop (mkF m 55 #[vI p1, vI p2, vI p3, vI p4, vI p5, vI p6, vI c0, vI c1, vI c2, vI c3, vI (0 : Int32), vI (own_bad p6), vR ar, .unset, .unset, .unset, .unset] [])) _
      refine XS.goto X495.here hx rfl (pc0 := 55) (pc' := 155) rfl (hb hby at_55) (by decide) (by decide) ?_
      exact kt
    clear R494 st495
    obtain ⟨T497, h497, X497, e497, E497, A497, D497, -, st497⟩ := newO X495 hx hZ hown (hw _ (List.mem_of_getElem? (i := 6) rfl)) (hw _ (List.mem_of_getElem? (i := 7) rfl)) (hw _ (List.mem_of_getElem? (i := 8) rfl)) e495 (g := (mkF m 155 #[vI p1, vI p2, vI p3, vI p4, vI p5, vI p6, vI c0, vI c1, vI c2, vI c3, vI (0 : Int32), vI (own_bad p6), vR ar, .unset, .unset, .unset, .unset] [])) rfl (hb hby at_155) (by decide) (by decide)
    obtain ⟨ob, g497⟩ : ∃ z, z = h495.size := ⟨_, rfl⟩
    rw [← g497] at A497 D497 st497
    have E_ob := A497
    have g_ob : n0 ≤ ob := Nat.le_trans Zs495 (Nat.le_of_eq g497.symm)
    have ne_ar_ob : ar ≠ ob := Nat.ne_of_lt (Nat.lt_of_lt_of_le VC.lt (Nat.le_of_eq g497.symm))
    have OL_497 := OL_495.ext E497
    have VC_497 := VC.ext E497
    clear OL_495
    have Zs497 : n0 ≤ h497.size := Nat.le_trans Zs495 E497.1
    have Fv : Fld Z h497 ob "java/lang/String" "value" "[B" .null := D497 (Or.inr (hw _ (List.mem_of_getElem? (i := 34) rfl))) (ty := (.array .byte)) (by decide)
    have Fc : Fld Z h497 ob "java/lang/String" "coder" "B" (.int (0 : Int32)) := D497 (Or.inr (hw _ (List.mem_of_getElem? (i := 32) rfl))) (ty := .byte) (by decide)
    have R498 : ∀ tg, Steps p.tables e below (T497.setTop (mkF m 161 #[vI p1, vI p2, vI p3, vI p4, vI p5, vI p6, vI c0, vI c1, vI c2, vI c3, vI (0 : Int32), vI (own_bad p6), vR ar, .unset, .unset, .unset, .unset] [(.ref ar), (.ref ob), (.ref ob)])) tg → Steps p.tables e below (s₁.setTop (mkF m 0 #[vI p1, vI p2, vI p3, vI p4, vI p5, vI p6, .unset, .unset, .unset, .unset, .unset, .unset, .unset, .unset, .unset, .unset, .unset] [])) tg := by
      intro tg kt
      refine R496 _ ?_
      refine st497 _ ?_
      refine XS.dup X497.here hx rfl (hb hby at_158) rfl rfl ?_
      refine XS.aload X497.here hx rfl (hb hby at_159) rfl rfl ?_
      exact kt
    clear R496 st497
    obtain ⟨_, _, ⟨T499, L499, k499, n499⟩, -, X499, S499, gr499, ⟨Lc499, hQ499, l499, y499, z499⟩, st499⟩ := X497.specialBackS hx (y := (⟨"java/lang/String", "<init>", "([C)V"⟩ : MethodName)) rfl hown (mvT hZ (hw _ (List.mem_of_getElem? (i := 9) rfl))) (mvT hZ (hw _ (List.mem_of_getElem? (i := 10) rfl))) (mvT hZ (hw _ (List.mem_of_getElem? (i := 11) rfl))) (by decide) (own_backI (W := 1) (rm_in1Z l Z a0 hw [] ob ar _ h497 n0 Zs497 VC_497 OL_497 hc7 hcw E_ob Fv Fc g_ob) hZ hI (hw _ (List.mem_of_getElem? (i := 11) rfl)) (hw _ (List.mem_of_getElem? (i := 8) rfl)) (by decide) (by decide)) (g := (mkF m 161 #[vI p1, vI p2, vI p3, vI p4, vI p5, vI p6, vI c0, vI c1, vI c2, vI c3, vI (0 : Int32), vI (own_bad p6), vR ar, .unset, .unset, .unset, .unset] [(.ref ar), (.ref ob), (.ref ob)])) rfl (by rw [hml]; rfl) (Steps.refl _) (a := ob) (argsL := [(.ref ar)]) (rest := [(.ref ob)]) (lenOf pd_22 rfl) rfl (by show 2 * 0 + _ ≤ _; exact Nat.le_of_eq rfl) (hb hby at_161) (fun _ _ => ⟨rfl, e497, (by decide : 2 + 2 ≤ _), (by decide : 4 + 4 ≤ _)⟩)
    dsimp only [Pt.U, Pt.locs, Pt.cells, Pt.slots] at X499 S499 gr499 l499 y499 z499 st499 hQ499
    rw [l499, y499, z499] at X499
    have hZ : Z.Warmed39 (s.setVm T499.vm).vm := State.Warmed39.trans hZ S499.1
    have hown : (s.setVm T499.vm).vm.findClass "com/example/travessia/travessia/isis/IsisFieldLeadingTextPinLaw" = some m.cls := (S499.1.alike.findClass _ _).trans hown
    obtain ⟨tb, rfl, N499q, K499, E2, Fc2, Fv2, V2⟩ := hQ499
    have N499 := Fr.app N482 N499q
    have OL_500 := OL_497.keep K499 (own_ge1 g_ob)
    clear OL_497
    have Zs500 : n0 ≤ T499.heap.size := Nat.le_trans Zs497 K499.1
    have R501 : ∀ tg, Steps p.tables e below (T499.setTop (mkF m 166 #[vI p1, vI p2, vI p3, vI p4, vI p5, vI p6, vI c0, vI c1, vI c2, vI c3, vI (0 : Int32), vI (own_bad p6), vR ar, vR ob, .unset, .unset, .unset] [])) tg → Steps p.tables e below (s₁.setTop (mkF m 0 #[vI p1, vI p2, vI p3, vI p4, vI p5, vI p6, .unset, .unset, .unset, .unset, .unset, .unset, .unset, .unset, .unset, .unset, .unset] [])) tg := by
      intro tg kt
      refine R498 _ ?_
      refine st499.trans ?_
      show Steps p.tables e below (T499.setTop (mkF m 164 #[vI p1, vI p2, vI p3, vI p4, vI p5, vI p6, vI c0, vI c1, vI c2, vI c3, vI (0 : Int32), vI (own_bad p6), vR ar, .unset, .unset, .unset, .unset] [(.ref ob)])) _
      refine XS.astore X499.here hx rfl (hb hby at_164) rfl rfl (l' := #[vI p1, vI p2, vI p3, vI p4, vI p5, vI p6, vI c0, vI c1, vI c2, vI c3, vI (0 : Int32), vI (own_bad p6), vR ar, vR ob, .unset, .unset, .unset]) rfl ?_
      exact kt
    clear R498 st499
    obtain ⟨T502, h502, X502, e502, E502, A502, D502, -, st502⟩ := newO X499 hx hZ hown (hw _ (List.mem_of_getElem? (i := 35) rfl)) (hw _ (List.mem_of_getElem? (i := 36) rfl)) (hw _ (List.mem_of_getElem? (i := 37) rfl)) rfl (g := (mkF m 166 #[vI p1, vI p2, vI p3, vI p4, vI p5, vI p6, vI c0, vI c1, vI c2, vI c3, vI (0 : Int32), vI (own_bad p6), vR ar, vR ob, .unset, .unset, .unset] [])) rfl (hb hby at_166) (by decide) (by decide)
    obtain ⟨fo, g502⟩ : ∃ z, z = T499.heap.size := ⟨_, rfl⟩
    rw [← g502] at A502 D502 st502
    have E_fo := A502
    have g_fo : n0 ≤ fo := Nat.le_trans Zs500 (Nat.le_of_eq g502.symm)
    have ne_ob_fo : ob ≠ fo := Nat.ne_of_lt (Nat.lt_of_lt_of_le E2.lt (Nat.le_of_eq g502.symm))
    have ne_tb_fo : tb ≠ fo := Nat.ne_of_lt (Nat.lt_of_lt_of_le V2.lt (Nat.le_of_eq g502.symm))
    have OL_502 := OL_500.ext E502
    have E_ob_502 := E2.ext E502
    have FcS_502 := Fc2.ext E502
    have FvS_502 := Fv2.ext E502
    have VS_502 := V2.ext E502
    clear OL_500
    have Zs502 : n0 ≤ h502.size := Nat.le_trans Zs500 E502.1
    have hk_502 := Nat.le_trans (Nat.le_refl T499.heap.size) E502.1
    have Ft : Fld Z h502 fo "com/example/travessia/travessia/isis/IsisField" "tag" "I" (.int (0 : Int32)) := D502 (Or.inr (hw _ (List.mem_of_getElem? (i := 48) rfl))) (ty := .int) (by decide)
    have Fd : Fld Z h502 fo "com/example/travessia/travessia/isis/IsisField" "data" "Ljava/lang/String;" .null := D502 (Or.inr (hw _ (List.mem_of_getElem? (i := 50) rfl))) (ty := (.object "java/lang/String")) (by decide)
    have Fb : Fld Z h502 fo "com/example/travessia/travessia/isis/IsisField" "badEncoding" "Z" (.int (0 : Int32)) := D502 (Or.inr (hw _ (List.mem_of_getElem? (i := 52) rfl))) (ty := .boolean) (by decide)
    have R503 : ∀ tg, Steps p.tables e below (T502.setTop (mkF m 176 #[vI p1, vI p2, vI p3, vI p4, vI p5, vI p6, vI c0, vI c1, vI c2, vI c3, vI (0 : Int32), vI (own_bad p6), vR ar, vR ob, .unset, .unset, .unset] [(.int (own_bad p6)), (.ref ob), (.int p5), (.ref fo), (.ref fo)])) tg → Steps p.tables e below (s₁.setTop (mkF m 0 #[vI p1, vI p2, vI p3, vI p4, vI p5, vI p6, .unset, .unset, .unset, .unset, .unset, .unset, .unset, .unset, .unset, .unset, .unset] [])) tg := by
      intro tg kt
      refine R501 _ ?_
      refine st502 _ ?_
      refine XS.dup X502.here hx rfl (hb hby at_169) rfl rfl ?_
      refine XS.iload X502.here hx rfl (hb hby at_170) rfl ?_
      show Steps p.tables e below (T502.setTop (mkF m 172 #[vI p1, vI p2, vI p3, vI p4, vI p5, vI p6, vI c0, vI c1, vI c2, vI c3, vI (0 : Int32), vI (own_bad p6), vR ar, vR ob, .unset, .unset, .unset] [(.int p5), (.ref fo), (.ref fo)])) _
      refine XS.aload X502.here hx rfl (hb hby at_172) rfl rfl ?_
      refine XS.iload X502.here hx rfl (hb hby at_174) rfl ?_
      exact kt
    clear R501 st502
    obtain ⟨_, _, ⟨T504, L504, k504, n504⟩, -, X504, ⟨Lc504, hQ504, l504, y504, z504⟩, st504⟩ := X502.specialBack hx (y := (⟨"com/example/travessia/travessia/isis/IsisField", "<init>", "(ILjava/lang/String;Z)V"⟩ : MethodName)) rfl hown (mvT hZ (hw _ (List.mem_of_getElem? (i := 38) rfl))) (mvT hZ (hw _ (List.mem_of_getElem? (i := 39) rfl))) (mvT hZ (hw _ (List.mem_of_getElem? (i := 40) rfl))) (by decide) (backOf (W := 1) (rm_isi l Z a0 hw [] fo p5 ob (own_bad p6) h502 n0 Zs502 E_fo Ft Fd Fb g_fo (own_bad01 p6)) hZ (hw _ (List.mem_of_getElem? (i := 40) rfl)) (hw _ (List.mem_of_getElem? (i := 37) rfl)) (by decide) (by decide)) (g := (mkF m 176 #[vI p1, vI p2, vI p3, vI p4, vI p5, vI p6, vI c0, vI c1, vI c2, vI c3, vI (0 : Int32), vI (own_bad p6), vR ar, vR ob, .unset, .unset, .unset] [(.int (own_bad p6)), (.ref ob), (.int p5), (.ref fo), (.ref fo)])) rfl (by rw [hml]; rfl) (Steps.refl _) (a := fo) (argsL := [(.int p5), (.ref ob), (.int (own_bad p6))]) (rest := [(.ref fo)]) (lenOf pd_23 rfl) rfl (by show 2 * 0 + _ ≤ _; exact Nat.le_of_eq rfl) (hb hby at_176) (fun _ _ => ⟨rfl, e502, (by decide : 5 + 0 ≤ _), (by decide : 11 + 0 ≤ _)⟩)
    dsimp only [Pt.U, Pt.locs, Pt.cells, Pt.slots] at X504 l504 y504 z504 st504 hQ504
    rw [l504, y504, z504] at X504
    obtain ⟨rfl, N504q, K504, E3, Fd3⟩ := hQ504
    have N504 := Fr.app N499 N504q
    have OL_505 := OL_502.keep K504 (own_ge1 g_fo)
    have E_ob_505 := E_ob_502.keep K504
    have FcS_505 := FcS_502.keep K504 (own_notin1 ne_ob_fo)
    have FvS_505 := FvS_502.keep K504 (own_notin1 ne_ob_fo)
    have VS_505 := VS_502.keep K504 (own_notin1 ne_tb_fo)
    clear OL_502 E_ob_502 FcS_502 FvS_502 VS_502
    have Zs505 : n0 ≤ T504.heap.size := Nat.le_trans Zs502 K504.1
    have hk_505 := Nat.le_trans hk_502 K504.1
    have R506 : ∀ tg, Steps p.tables e below (T504.setTop (mkF m 183 #[vI p1, vI p2, vI p3, vI p4, vI p5, vI p6, vI c0, vI c1, vI c2, vI c3, vI (0 : Int32), vI (own_bad p6), vR ar, vR ob, vR fo, .unset, .unset] [(.ref fo)])) tg → Steps p.tables e below (s₁.setTop (mkF m 0 #[vI p1, vI p2, vI p3, vI p4, vI p5, vI p6, .unset, .unset, .unset, .unset, .unset, .unset, .unset, .unset, .unset, .unset, .unset] [])) tg := by
      intro tg kt
      refine R503 _ ?_
      refine st504.trans ?_
      show Steps p.tables e below (T504.setTop (mkF m 179 #[vI p1, vI p2, vI p3, vI p4, vI p5, vI p6, vI c0, vI c1, vI c2, vI c3, vI (0 : Int32), vI (own_bad p6), vR ar, vR ob, .unset, .unset, .unset] [(.ref fo)])) _
      refine XS.astore X504.here hx rfl (hb hby at_179) rfl rfl (l' := #[vI p1, vI p2, vI p3, vI p4, vI p5, vI p6, vI c0, vI c1, vI c2, vI c3, vI (0 : Int32), vI (own_bad p6), vR ar, vR ob, vR fo, .unset, .unset]) rfl ?_
      refine XS.aload X504.here hx rfl (hb hby at_181) rfl rfl ?_
      exact kt
    clear R503 st504
    obtain ⟨cq507, kq507, q507a, q507b, q507c⟩ := isOf hZ rfl E3
    obtain ⟨_, _, ⟨T507, L507, k507, n507⟩, -, X507, ⟨Lc507, hQ507, l507, y507, z507⟩, st507⟩ := X504.virtualBack hx (y := (⟨"com/example/travessia/travessia/isis/IsisField", "leadingText", "()Ljava/lang/String;"⟩ : MethodName)) (z := (⟨"com/example/travessia/travessia/isis/IsisField", "leadingText", "()Ljava/lang/String;"⟩ : MethodName)) hown (mvT hZ (hw _ (List.mem_of_getElem? (i := 53) rfl))) (mvT hZ (hw _ (List.mem_of_getElem? (i := 54) rfl))) (notFace_of_selects (args := #[]) (mvT hZ (hw _ (List.mem_of_getElem? (i := 56) rfl)))) (mvT hZ (hw _ (List.mem_of_getElem? (i := 56) rfl))) (mvT hZ (hw _ (List.mem_of_getElem? (i := 55) rfl))) (by decide) (backOf (W := 0) (rm_ltA l Z a0 hw [] fo ob tb 0 (fun j => ([] : List Int32).getD j 0) cs T504.heap n0 Zs505 (Or.inl rfl) SC OL_505 hcs E_ob_505 FcS_505 FvS_505 VS_505 E3 Fd3 rfl) hZ (hw _ (List.mem_of_getElem? (i := 57) rfl)) (hw _ (List.mem_of_getElem? (i := 37) rfl)) (by decide) (by decide)) q507a q507c (g := (mkF m 183 #[vI p1, vI p2, vI p3, vI p4, vI p5, vI p6, vI c0, vI c1, vI c2, vI c3, vI (0 : Int32), vI (own_bad p6), vR ar, vR ob, vR fo, .unset, .unset] [(.ref fo)])) rfl (by rw [hml]; rfl) (Steps.refl _) (argsL := []) (rest := []) (lenOf pd_24 rfl) rfl (by show 2 * 0 + _ ≤ _; exact Nat.le_of_eq rfl) (hb hby at_183) (fun _ _ => ⟨rfl, rfl, (by decide : 5 + 0 ≤ _), (by decide : 11 + 0 ≤ _)⟩)
    dsimp only [Pt.U, Pt.locs, Pt.cells, Pt.slots] at X507 l507 y507 z507 st507 hQ507
    rw [l507, y507, z507] at X507
    obtain ⟨rfl, N507q, hh507⟩ := hQ507
    have N507 := Fr.app N504 N507q
    have R508 : ∀ tg, Steps p.tables e below (T507.setTop (mkF m 188 #[vI p1, vI p2, vI p3, vI p4, vI p5, vI p6, vI c0, vI c1, vI c2, vI c3, vI (0 : Int32), vI (own_bad p6), vR ar, vR ob, vR fo, vR ob, .unset] [])) tg → Steps p.tables e below (s₁.setTop (mkF m 0 #[vI p1, vI p2, vI p3, vI p4, vI p5, vI p6, .unset, .unset, .unset, .unset, .unset, .unset, .unset, .unset, .unset, .unset, .unset] [])) tg := by
      intro tg kt
      refine R506 _ ?_
      refine st507.trans ?_
      show Steps p.tables e below (T507.setTop (mkF m 186 #[vI p1, vI p2, vI p3, vI p4, vI p5, vI p6, vI c0, vI c1, vI c2, vI c3, vI (0 : Int32), vI (own_bad p6), vR ar, vR ob, vR fo, .unset, .unset] [(.ref ob)])) _
      refine XS.astore X507.here hx rfl (hb hby at_186) rfl rfl (l' := #[vI p1, vI p2, vI p3, vI p4, vI p5, vI p6, vI c0, vI c1, vI c2, vI c3, vI (0 : Int32), vI (own_bad p6), vR ar, vR ob, vR fo, vR ob, .unset]) rfl ?_
      exact kt
    clear R506 st507
    have R509 : ∀ tg, Steps p.tables e below (T507.setTop (mkF m 255 #[vI p1, vI p2, vI p3, vI p4, vI p5, vI p6, vI c0, vI c1, vI c2, vI c3, vI (0 : Int32), vI (own_bad p6), vR ar, vR ob, vR fo, vR ob, vI (own_k1 (0 : Int32) (0 : Int32) c0 (0 : Int32) (own_k1 (1 : Int32) (0 : Int32) c1 (1 : Int32) (own_k1 (2 : Int32) (0 : Int32) c2 (2 : Int32) (own_k1 (3 : Int32) (0 : Int32) c3 (3 : Int32) (0 : Int32)))))] [])) tg → Steps p.tables e below (s₁.setTop (mkF m 0 #[vI p1, vI p2, vI p3, vI p4, vI p5, vI p6, .unset, .unset, .unset, .unset, .unset, .unset, .unset, .unset, .unset, .unset, .unset] [])) tg := fun tg kt => R508 tg (own_t188 5 11 (0 : Int32) p1 p2 p3 p4 p5 p6 c0 c1 c2 c3 (own_bad p6) ar ob fo ob X507 hx hZ hw hby hml hown hh507 N507 tg kt)
    have R510 : ∀ tg, Steps p.tables e below (T507.setTop (mkF m 255 #[vI p1, vI p2, vI p3, vI p4, vI p5, vI p6, vI c0, vI c1, vI c2, vI c3, vI (0 : Int32), vI (own_bad p6), vR ar, vR ob, vR fo, vR ob, vI (0 : Int32)] [])) tg → Steps p.tables e below (s₁.setTop (mkF m 0 #[vI p1, vI p2, vI p3, vI p4, vI p5, vI p6, .unset, .unset, .unset, .unset, .unset, .unset, .unset, .unset, .unset, .unset, .unset] [])) tg := by intro tg kt; refine R509 tg ?_; rw [show (own_k1 (0 : Int32) (0 : Int32) c0 (0 : Int32) (own_k1 (1 : Int32) (0 : Int32) c1 (1 : Int32) (own_k1 (2 : Int32) (0 : Int32) c2 (2 : Int32) (own_k1 (3 : Int32) (0 : Int32) c3 (3 : Int32) (0 : Int32))))) = (0 : Int32) from ((own_out (by decide)).trans ((own_out (by decide)).trans ((own_out (by decide)).trans ((own_out (by decide)).trans rfl))))]; exact kt
    obtain ⟨T511, L511, X511, e511, N511, st511⟩ := own_t255_0 5 11 (0 : Int32) p1 p2 p3 p4 p5 p6 c0 c1 c2 c3 (own_bad p6) ar ob fo ob tb (fun j => ([] : List Int32).getD j 0) cs vf X507 hx hZ hw hby hml hown (by decide) (by decide) hh507 N507 Zs505 SC OL_505 hcs SF hvf E_ob_505 FcS_505 FvS_505 VS_505 
    have R512 : ∀ tg, Steps p.tables e below (T511.setTop (mkF m 348 #[vI p1, vI p2, vI p3, vI p4, vI p5, vI p6, vI c0, vI c1, vI c2, vI c3, vI (0 : Int32), vI (own_bad p6), vR ar, vR ob, vR fo, vR ob, vI (0 : Int32)] [(.int (1 : Int32))])) tg → Steps p.tables e below (s₁.setTop (mkF m 0 #[vI p1, vI p2, vI p3, vI p4, vI p5, vI p6, .unset, .unset, .unset, .unset, .unset, .unset, .unset, .unset, .unset, .unset, .unset] [])) tg := by
      intro tg kt
      refine R510 _ ?_
      refine st511 _ ?_
      exact kt
    clear R510 st511
    obtain ⟨fs, hr, hrun, hended, hR⟩ := Stand.leaveW (s := s) (vm₁ := T499.vm) X511 S499 (by rw [e511]; exact hk_505) (v := some (.int (1 : Int32))) (fun h => by rw [Bd.returns] at h; cases h)
    refine ⟨_, _, pre0 _ (R512 _ ?_), hrun, hended, _, _, rfl, ?_, hR.1, hR.2.1, hR.2.2.1, hR.2.2.2.mono (by decide) (by decide)⟩
    · exact retN X511 hx (t := .boolean) Bd.returns (by simp) (hb hby at_348) hr
    · show Q_rm_law Z p1 p2 p3 p4 p5 p6 cs vf h0 n0 _ T511.heap _
      rw [e511]
      exact ⟨rfl, N511⟩
  · have R513 : ∀ tg, Steps p.tables e below (T482.setTop (mkF m 47 #[vI p1, vI p2, vI p3, vI p4, vI p5, vI p6, vI c0, vI c1, vI c2, vI c3, vI (1 : Int32), vI (own_bad p6), .unset, .unset, .unset, .unset, .unset] [(.int (1 : Int32))])) tg → Steps p.tables e below (s₁.setTop (mkF m 0 #[vI p1, vI p2, vI p3, vI p4, vI p5, vI p6, .unset, .unset, .unset, .unset, .unset, .unset, .unset, .unset, .unset, .unset, .unset] [])) tg := by intro tg kt; refine R492 tg ?_; rw [hn]; exact kt
    have R514 : ∀ tg, Steps p.tables e below (T482.setTop (mkF m 65 #[vI p1, vI p2, vI p3, vI p4, vI p5, vI p6, vI c0, vI c1, vI c2, vI c3, vI (1 : Int32), vI (own_bad p6), .unset, .unset, .unset, .unset, .unset] [(.int (1 : Int32))])) tg → Steps p.tables e below (s₁.setTop (mkF m 0 #[vI p1, vI p2, vI p3, vI p4, vI p5, vI p6, .unset, .unset, .unset, .unset, .unset, .unset, .unset, .unset, .unset, .unset, .unset] [])) tg := by
      intro tg kt
      refine R513 _ ?_
      show Steps p.tables e below (T482.setTop (mkF m 47 #[vI p1, vI p2, vI p3, vI p4, vI p5, vI p6, vI c0, vI c1, vI c2, vI c3, vI (1 : Int32), vI (own_bad p6), .unset, .unset, .unset, .unset, .unset] [(.int (1 : Int32))])) _
      refine XS.ifYes X482.here hx rfl (pc0 := 47) (pc' := 58) rfl (hb hby at_47) rfl ((if0 _ _).trans (feq (by decide : ¬ ((1 : Int32) = (0 : Int32)))).2) (by decide) (by decide) ?_
      refine XS.iload X482.here hx rfl (hb hby at_58) rfl ?_
      refine XS.iconst X482.here hx rfl (hb hby at_60) ?_
      show Steps p.tables e below (T482.setTop (mkF m 61 #[vI p1, vI p2, vI p3, vI p4, vI p5, vI p6, vI c0, vI c1, vI c2, vI c3, vI (1 : Int32), vI (own_bad p6), .unset, .unset, .unset, .unset, .unset] [(.int (1 : Int32)), (.int (1 : Int32))])) _
      refine XS.icmpNo X482.here hx rfl (hb hby at_61) rfl (teq (rfl : (1 : Int32) = (1 : Int32))).2 ?_
      refine XS.iconst X482.here hx rfl (hb hby at_64) ?_
      exact kt
    clear R513
    obtain ⟨T515, h515, k515, X515, e515, E515, A515, st515⟩ := newP X482 hx hZ (hw _ (List.mem_of_getElem? (i := 5) rfl)) hh482 (g := (mkF m 65 #[vI p1, vI p2, vI p3, vI p4, vI p5, vI p6, vI c0, vI c1, vI c2, vI c3, vI (1 : Int32), vI (own_bad p6), .unset, .unset, .unset, .unset, .unset] [(.int (1 : Int32))])) rfl (hb hby at_65) rfl (by decide) (cap := 1) (by decide) (by decide) (by decide) (by decide)
    obtain ⟨ar, g515⟩ : ∃ z, z = h0.size := ⟨_, rfl⟩
    rw [← g515] at A515 st515
    have g_ar : n0 ≤ ar := Nat.le_trans Z0 (Nat.le_of_eq g515.symm)
    have OL_515 := OL.ext E515
    have Zs515 : n0 ≤ h515.size := Nat.le_trans Z0 E515.1
    have VC : AV Z h515 ar .char 1 (fun _ => defaultValue .char) := AV.new A515 rfl rfl
    have R516 : ∀ tg, Steps p.tables e below (T515.setTop (mkF m 71 #[vI p1, vI p2, vI p3, vI p4, vI p5, vI p6, vI c0, vI c1, vI c2, vI c3, vI (1 : Int32), vI (own_bad p6), .unset, .unset, .unset, .unset, .unset] [(.int c0), (.int (0 : Int32)), (.ref ar), (.ref ar)])) tg → Steps p.tables e below (s₁.setTop (mkF m 0 #[vI p1, vI p2, vI p3, vI p4, vI p5, vI p6, .unset, .unset, .unset, .unset, .unset, .unset, .unset, .unset, .unset, .unset, .unset] [])) tg := by
      intro tg kt
      refine R514 _ ?_
      refine st515 _ ?_
      refine XS.dup X515.here hx rfl (hb hby at_67) rfl rfl ?_
      show Steps p.tables e below (T515.setTop (mkF m 68 #[vI p1, vI p2, vI p3, vI p4, vI p5, vI p6, vI c0, vI c1, vI c2, vI c3, vI (1 : Int32), vI (own_bad p6), .unset, .unset, .unset, .unset, .unset] [(.ref ar), (.ref ar)])) _
      refine XS.iconst X515.here hx rfl (hb hby at_68) ?_
      refine XS.iload X515.here hx rfl (hb hby at_69) rfl ?_
      exact kt
    clear R514 st515
    obtain ⟨cl517, Ar517, hin517, -⟩ := VC.at (j := (0 : Int32)) (k := 0) (by decide) rfl (by decide)
    obtain ⟨T518, h518, X518, e518, W518, st518⟩ := stC X515 hx hZ e515 Ar517 (j := (0 : Int32)) hin517 (g := (mkF m 71 #[vI p1, vI p2, vI p3, vI p4, vI p5, vI p6, vI c0, vI c1, vI c2, vI c3, vI (1 : Int32), vI (own_bad p6), .unset, .unset, .unset, .unset, .unset] [(.int c0), (.int (0 : Int32)), (.ref ar), (.ref ar)])) rfl rfl (hb hby at_71)
    have N518 := Fr.snoc X518 N482 g_ar
    rw [show ((0 : Int32) : Int32).toNatClampNeg = 0 from rfl] at W518
    have VC_518 := VC.set W518 (fits_nar_char _)
    have OL_518 := OL_515.wr W518 g_ar
    clear OL_515
    have Zs518 : n0 ≤ h518.size := Nat.le_trans Zs515 (Keep.of_wr W518).1
    have R519 : ∀ tg, Steps p.tables e below (T518.setTop (mkF m 155 #[vI p1, vI p2, vI p3, vI p4, vI p5, vI p6, vI c0, vI c1, vI c2, vI c3, vI (1 : Int32), vI (own_bad p6), vR ar, .unset, .unset, .unset, .unset] [])) tg → Steps p.tables e below (s₁.setTop (mkF m 0 #[vI p1, vI p2, vI p3, vI p4, vI p5, vI p6, .unset, .unset, .unset, .unset, .unset, .unset, .unset, .unset, .unset, .unset, .unset] [])) tg := by
      intro tg kt
      refine R516 _ ?_
      refine st518 _ ?_
      show Steps p.tables e below (T518.setTop (mkF m 72 #[vI p1, vI p2, vI p3, vI p4, vI p5, vI p6, vI c0, vI c1, vI c2, vI c3, vI (1 : Int32), vI (own_bad p6), .unset, .unset, .unset, .unset, .unset] [(.ref ar)])) _
      refine XS.astore X518.here hx rfl (hb hby at_72) rfl rfl (l' := #[vI p1, vI p2, vI p3, vI p4, vI p5, vI p6, vI c0, vI c1, vI c2, vI c3, vI (1 : Int32), vI (own_bad p6), vR ar, .unset, .unset, .unset, .unset]) rfl ?_
      show Steps p.tables e below (T518.setTop (mkF m 74 #[vI p1, vI p2, vI p3, vI p4, vI p5, vI p6, vI c0, vI c1, vI c2, vI c3, vI (1 : Int32), vI (own_bad p6), vR ar, .unset, .unset, .unset, .unset] [])) _
      refine XS.goto X518.here hx rfl (pc0 := 74) (pc' := 155) rfl (hb hby at_74) (by decide) (by decide) ?_
      exact kt
    clear R516 st518
    obtain ⟨T520, h520, X520, e520, E520, A520, D520, -, st520⟩ := newO X518 hx hZ hown (hw _ (List.mem_of_getElem? (i := 6) rfl)) (hw _ (List.mem_of_getElem? (i := 7) rfl)) (hw _ (List.mem_of_getElem? (i := 8) rfl)) e518 (g := (mkF m 155 #[vI p1, vI p2, vI p3, vI p4, vI p5, vI p6, vI c0, vI c1, vI c2, vI c3, vI (1 : Int32), vI (own_bad p6), vR ar, .unset, .unset, .unset, .unset] [])) rfl (hb hby at_155) (by decide) (by decide)
    obtain ⟨ob, g520⟩ : ∃ z, z = h518.size := ⟨_, rfl⟩
    rw [← g520] at A520 D520 st520
    have E_ob := A520
    have g_ob : n0 ≤ ob := Nat.le_trans Zs518 (Nat.le_of_eq g520.symm)
    have ne_ar_ob : ar ≠ ob := Nat.ne_of_lt (Nat.lt_of_lt_of_le VC_518.lt (Nat.le_of_eq g520.symm))
    have OL_520 := OL_518.ext E520
    have VC_520 := VC_518.ext E520
    clear OL_518 VC_518
    have Zs520 : n0 ≤ h520.size := Nat.le_trans Zs518 E520.1
    have Fv : Fld Z h520 ob "java/lang/String" "value" "[B" .null := D520 (Or.inr (hw _ (List.mem_of_getElem? (i := 34) rfl))) (ty := (.array .byte)) (by decide)
    have Fc : Fld Z h520 ob "java/lang/String" "coder" "B" (.int (0 : Int32)) := D520 (Or.inr (hw _ (List.mem_of_getElem? (i := 32) rfl))) (ty := .byte) (by decide)
    have VCz : AV Z h520 ar .char 1 (fun j => .int ((own_G c0 c1 c2 c3) j)) := AV.congr VC_520 (own_sc1 c0 c1 c2 c3 _ r0)
    have R521 : ∀ tg, Steps p.tables e below (T520.setTop (mkF m 161 #[vI p1, vI p2, vI p3, vI p4, vI p5, vI p6, vI c0, vI c1, vI c2, vI c3, vI (1 : Int32), vI (own_bad p6), vR ar, .unset, .unset, .unset, .unset] [(.ref ar), (.ref ob), (.ref ob)])) tg → Steps p.tables e below (s₁.setTop (mkF m 0 #[vI p1, vI p2, vI p3, vI p4, vI p5, vI p6, .unset, .unset, .unset, .unset, .unset, .unset, .unset, .unset, .unset, .unset, .unset] [])) tg := by
      intro tg kt
      refine R519 _ ?_
      refine st520 _ ?_
      refine XS.dup X520.here hx rfl (hb hby at_158) rfl rfl ?_
      refine XS.aload X520.here hx rfl (hb hby at_159) rfl rfl ?_
      exact kt
    clear R519 st520
    obtain ⟨_, _, ⟨T522, L522, k522, n522⟩, -, X522, ⟨Lc522, hQ522, l522, y522, z522⟩, st522⟩ := X520.specialBack hx (y := (⟨"java/lang/String", "<init>", "([C)V"⟩ : MethodName)) rfl hown (mvT hZ (hw _ (List.mem_of_getElem? (i := 9) rfl))) (mvT hZ (hw _ (List.mem_of_getElem? (i := 10) rfl))) (mvT hZ (hw _ (List.mem_of_getElem? (i := 11) rfl))) (by decide) (backOf (W := 1) (rm_in1 l Z a0 hw [] ob ar 1 (own_G c0 c1 c2 c3) cs h520 n0 Zs520 (Or.inl rfl) VCz (own_Gle _ _ _ _ d0 d1 d2 d3) SC OL_520 hcs (Ne.symm ne_ar_ob) E_ob Fv Fc g_ob) hZ (hw _ (List.mem_of_getElem? (i := 11) rfl)) (hw _ (List.mem_of_getElem? (i := 8) rfl)) (by decide) (by decide)) (g := (mkF m 161 #[vI p1, vI p2, vI p3, vI p4, vI p5, vI p6, vI c0, vI c1, vI c2, vI c3, vI (1 : Int32), vI (own_bad p6), vR ar, .unset, .unset, .unset, .unset] [(.ref ar), (.ref ob), (.ref ob)])) rfl (by rw [hml]; rfl) (Steps.refl _) (a := ob) (argsL := [(.ref ar)]) (rest := [(.ref ob)]) (lenOf pd_22 rfl) rfl (by show 2 * 0 + _ ≤ _; exact Nat.le_of_eq rfl) (hb hby at_161) (fun _ _ => ⟨rfl, e520, (by decide : 2 + 1 ≤ _), (by decide : 5 + 4 ≤ _)⟩)
    dsimp only [Pt.U, Pt.locs, Pt.cells, Pt.slots] at X522 l522 y522 z522 st522 hQ522
    rw [l522, y522, z522] at X522
    obtain ⟨tb, rfl, N522q, szt, K522, E2, Fc2, Fv2, V2⟩ := hQ522
    have N522 := Fr.app N518 N522q
    have OL_523 := OL_520.keep K522 (own_ge1 g_ob)
    clear OL_520
    have Zs523 : n0 ≤ T522.heap.size := Nat.le_trans Zs520 K522.1
    have R524 : ∀ tg, Steps p.tables e below (T522.setTop (mkF m 166 #[vI p1, vI p2, vI p3, vI p4, vI p5, vI p6, vI c0, vI c1, vI c2, vI c3, vI (1 : Int32), vI (own_bad p6), vR ar, vR ob, .unset, .unset, .unset] [])) tg → Steps p.tables e below (s₁.setTop (mkF m 0 #[vI p1, vI p2, vI p3, vI p4, vI p5, vI p6, .unset, .unset, .unset, .unset, .unset, .unset, .unset, .unset, .unset, .unset, .unset] [])) tg := by
      intro tg kt
      refine R521 _ ?_
      refine st522.trans ?_
      show Steps p.tables e below (T522.setTop (mkF m 164 #[vI p1, vI p2, vI p3, vI p4, vI p5, vI p6, vI c0, vI c1, vI c2, vI c3, vI (1 : Int32), vI (own_bad p6), vR ar, .unset, .unset, .unset, .unset] [(.ref ob)])) _
      refine XS.astore X522.here hx rfl (hb hby at_164) rfl rfl (l' := #[vI p1, vI p2, vI p3, vI p4, vI p5, vI p6, vI c0, vI c1, vI c2, vI c3, vI (1 : Int32), vI (own_bad p6), vR ar, vR ob, .unset, .unset, .unset]) rfl ?_
      exact kt
    clear R521 st522
    obtain ⟨T525, h525, X525, e525, E525, A525, D525, -, st525⟩ := newO X522 hx hZ hown (hw _ (List.mem_of_getElem? (i := 35) rfl)) (hw _ (List.mem_of_getElem? (i := 36) rfl)) (hw _ (List.mem_of_getElem? (i := 37) rfl)) rfl (g := (mkF m 166 #[vI p1, vI p2, vI p3, vI p4, vI p5, vI p6, vI c0, vI c1, vI c2, vI c3, vI (1 : Int32), vI (own_bad p6), vR ar, vR ob, .unset, .unset, .unset] [])) rfl (hb hby at_166) (by decide) (by decide)
    obtain ⟨fo, g525⟩ : ∃ z, z = T522.heap.size := ⟨_, rfl⟩
    rw [← g525] at A525 D525 st525
    have E_fo := A525
    have g_fo : n0 ≤ fo := Nat.le_trans Zs523 (Nat.le_of_eq g525.symm)
    have ne_ob_fo : ob ≠ fo := Nat.ne_of_lt (Nat.lt_of_lt_of_le E2.lt (Nat.le_of_eq g525.symm))
    have ne_tb_fo : tb ≠ fo := Nat.ne_of_lt (Nat.lt_of_lt_of_le V2.lt (Nat.le_of_eq g525.symm))
    have OL_525 := OL_523.ext E525
    have E_ob_525 := E2.ext E525
    have FcS_525 := Fc2.ext E525
    have FvS_525 := Fv2.ext E525
    have VS_525 := V2.ext E525
    clear OL_523
    have Zs525 : n0 ≤ h525.size := Nat.le_trans Zs523 E525.1
    have Ft : Fld Z h525 fo "com/example/travessia/travessia/isis/IsisField" "tag" "I" (.int (0 : Int32)) := D525 (Or.inr (hw _ (List.mem_of_getElem? (i := 48) rfl))) (ty := .int) (by decide)
    have Fd : Fld Z h525 fo "com/example/travessia/travessia/isis/IsisField" "data" "Ljava/lang/String;" .null := D525 (Or.inr (hw _ (List.mem_of_getElem? (i := 50) rfl))) (ty := (.object "java/lang/String")) (by decide)
    have Fb : Fld Z h525 fo "com/example/travessia/travessia/isis/IsisField" "badEncoding" "Z" (.int (0 : Int32)) := D525 (Or.inr (hw _ (List.mem_of_getElem? (i := 52) rfl))) (ty := .boolean) (by decide)
    have R526 : ∀ tg, Steps p.tables e below (T525.setTop (mkF m 176 #[vI p1, vI p2, vI p3, vI p4, vI p5, vI p6, vI c0, vI c1, vI c2, vI c3, vI (1 : Int32), vI (own_bad p6), vR ar, vR ob, .unset, .unset, .unset] [(.int (own_bad p6)), (.ref ob), (.int p5), (.ref fo), (.ref fo)])) tg → Steps p.tables e below (s₁.setTop (mkF m 0 #[vI p1, vI p2, vI p3, vI p4, vI p5, vI p6, .unset, .unset, .unset, .unset, .unset, .unset, .unset, .unset, .unset, .unset, .unset] [])) tg := by
      intro tg kt
      refine R524 _ ?_
      refine st525 _ ?_
      refine XS.dup X525.here hx rfl (hb hby at_169) rfl rfl ?_
      refine XS.iload X525.here hx rfl (hb hby at_170) rfl ?_
      show Steps p.tables e below (T525.setTop (mkF m 172 #[vI p1, vI p2, vI p3, vI p4, vI p5, vI p6, vI c0, vI c1, vI c2, vI c3, vI (1 : Int32), vI (own_bad p6), vR ar, vR ob, .unset, .unset, .unset] [(.int p5), (.ref fo), (.ref fo)])) _
      refine XS.aload X525.here hx rfl (hb hby at_172) rfl rfl ?_
      refine XS.iload X525.here hx rfl (hb hby at_174) rfl ?_
      exact kt
    clear R524 st525
    obtain ⟨_, _, ⟨T527, L527, k527, n527⟩, -, X527, ⟨Lc527, hQ527, l527, y527, z527⟩, st527⟩ := X525.specialBack hx (y := (⟨"com/example/travessia/travessia/isis/IsisField", "<init>", "(ILjava/lang/String;Z)V"⟩ : MethodName)) rfl hown (mvT hZ (hw _ (List.mem_of_getElem? (i := 38) rfl))) (mvT hZ (hw _ (List.mem_of_getElem? (i := 39) rfl))) (mvT hZ (hw _ (List.mem_of_getElem? (i := 40) rfl))) (by decide) (backOf (W := 1) (rm_isi l Z a0 hw [] fo p5 ob (own_bad p6) h525 n0 Zs525 E_fo Ft Fd Fb g_fo (own_bad01 p6)) hZ (hw _ (List.mem_of_getElem? (i := 40) rfl)) (hw _ (List.mem_of_getElem? (i := 37) rfl)) (by decide) (by decide)) (g := (mkF m 176 #[vI p1, vI p2, vI p3, vI p4, vI p5, vI p6, vI c0, vI c1, vI c2, vI c3, vI (1 : Int32), vI (own_bad p6), vR ar, vR ob, .unset, .unset, .unset] [(.int (own_bad p6)), (.ref ob), (.int p5), (.ref fo), (.ref fo)])) rfl (by rw [hml]; rfl) (Steps.refl _) (a := fo) (argsL := [(.int p5), (.ref ob), (.int (own_bad p6))]) (rest := [(.ref fo)]) (lenOf pd_23 rfl) rfl (by show 2 * 0 + _ ≤ _; exact Nat.le_of_eq rfl) (hb hby at_176) (fun _ _ => ⟨rfl, e525, (by decide : 4 + 0 ≤ _), (by decide : 12 + 0 ≤ _)⟩)
    dsimp only [Pt.U, Pt.locs, Pt.cells, Pt.slots] at X527 l527 y527 z527 st527 hQ527
    rw [l527, y527, z527] at X527
    obtain ⟨rfl, N527q, K527, E3, Fd3⟩ := hQ527
    have N527 := Fr.app N522 N527q
    have OL_528 := OL_525.keep K527 (own_ge1 g_fo)
    have E_ob_528 := E_ob_525.keep K527
    have FcS_528 := FcS_525.keep K527 (own_notin1 ne_ob_fo)
    have FvS_528 := FvS_525.keep K527 (own_notin1 ne_ob_fo)
    have VS_528 := VS_525.keep K527 (own_notin1 ne_tb_fo)
    clear OL_525 E_ob_525 FcS_525 FvS_525 VS_525
    have Zs528 : n0 ≤ T527.heap.size := Nat.le_trans Zs525 K527.1
    have R529 : ∀ tg, Steps p.tables e below (T527.setTop (mkF m 183 #[vI p1, vI p2, vI p3, vI p4, vI p5, vI p6, vI c0, vI c1, vI c2, vI c3, vI (1 : Int32), vI (own_bad p6), vR ar, vR ob, vR fo, .unset, .unset] [(.ref fo)])) tg → Steps p.tables e below (s₁.setTop (mkF m 0 #[vI p1, vI p2, vI p3, vI p4, vI p5, vI p6, .unset, .unset, .unset, .unset, .unset, .unset, .unset, .unset, .unset, .unset, .unset] [])) tg := by
      intro tg kt
      refine R526 _ ?_
      refine st527.trans ?_
      show Steps p.tables e below (T527.setTop (mkF m 179 #[vI p1, vI p2, vI p3, vI p4, vI p5, vI p6, vI c0, vI c1, vI c2, vI c3, vI (1 : Int32), vI (own_bad p6), vR ar, vR ob, .unset, .unset, .unset] [(.ref fo)])) _
      refine XS.astore X527.here hx rfl (hb hby at_179) rfl rfl (l' := #[vI p1, vI p2, vI p3, vI p4, vI p5, vI p6, vI c0, vI c1, vI c2, vI c3, vI (1 : Int32), vI (own_bad p6), vR ar, vR ob, vR fo, .unset, .unset]) rfl ?_
      refine XS.aload X527.here hx rfl (hb hby at_181) rfl rfl ?_
      exact kt
    clear R526 st527
    by_cases hv0 : c0 = (94 : Int32)
    · obtain ⟨cq530, kq530, q530a, q530b, q530c⟩ := isOf hZ rfl E3
      obtain ⟨_, _, ⟨T530, L530, k530, n530⟩, -, X530, S530, gr530, ⟨Lc530, hQ530, l530, y530, z530⟩, st530⟩ := X527.virtualBackS hx (y := (⟨"com/example/travessia/travessia/isis/IsisField", "leadingText", "()Ljava/lang/String;"⟩ : MethodName)) (z := (⟨"com/example/travessia/travessia/isis/IsisField", "leadingText", "()Ljava/lang/String;"⟩ : MethodName)) hown (mvT hZ (hw _ (List.mem_of_getElem? (i := 53) rfl))) (mvT hZ (hw _ (List.mem_of_getElem? (i := 54) rfl))) (notFace_of_selects (args := #[]) (mvT hZ (hw _ (List.mem_of_getElem? (i := 56) rfl)))) (mvT hZ (hw _ (List.mem_of_getElem? (i := 56) rfl))) (mvT hZ (hw _ (List.mem_of_getElem? (i := 55) rfl))) (by decide) (own_backI (W := 0) (rm_ltC l Z a0 hw [] fo ob tb 1 (fun j => own_bv ((own_G c0 c1 c2 c3) j)) cs vf T527.heap n0 Zs528 (Or.inl rfl) SC OL_528 hcs SF hvf E_ob_528 FcS_528 FvS_528 VS_528 E3 Fd3 (own_ixk_1_0 (fun j => own_bv ((own_G c0 c1 c2 c3) j)) (b0.mpr hv0)) hc151 hcw) hZ hI (hw _ (List.mem_of_getElem? (i := 57) rfl)) (hw _ (List.mem_of_getElem? (i := 37) rfl)) (by decide) (by decide)) q530a q530c (g := (mkF m 183 #[vI p1, vI p2, vI p3, vI p4, vI p5, vI p6, vI c0, vI c1, vI c2, vI c3, vI (1 : Int32), vI (own_bad p6), vR ar, vR ob, vR fo, .unset, .unset] [(.ref fo)])) rfl (by rw [hml]; rfl) (Steps.refl _) (argsL := []) (rest := []) (lenOf pd_24 rfl) rfl (by show 2 * 0 + _ ≤ _; exact Nat.le_of_eq rfl) (hb hby at_183) (fun _ _ => ⟨rfl, rfl, (by decide : 4 + 2 ≤ _), (by decide : 12 + 4 ≤ _)⟩)
      dsimp only [Pt.U, Pt.locs, Pt.cells, Pt.slots] at X530 S530 gr530 l530 y530 z530 st530 hQ530
      rw [l530, y530, z530] at X530
      have hZ : Z.Warmed39 (s.setVm T530.vm).vm := State.Warmed39.trans hZ S530.1
      have hown : (s.setVm T530.vm).vm.findClass "com/example/travessia/travessia/isis/IsisFieldLeadingTextPinLaw" = some m.cls := (S530.1.alike.findClass _ _).trans hown
      obtain ⟨aa, t2, rfl, N530q, K530, E4, Fc4, Fv4, V4⟩ := hQ530
      have N530 := Fr.app N527 N530q
      have OL_531 := OL_528.keep K530 (own_ge0)
      clear OL_528
      have Zs531 : n0 ≤ T530.heap.size := Nat.le_trans Zs528 K530.1
      have R532 : ∀ tg, Steps p.tables e below (T530.setTop (mkF m 188 #[vI p1, vI p2, vI p3, vI p4, vI p5, vI p6, vI c0, vI c1, vI c2, vI c3, vI (1 : Int32), vI (own_bad p6), vR ar, vR ob, vR fo, vR aa, .unset] [])) tg → Steps p.tables e below (s₁.setTop (mkF m 0 #[vI p1, vI p2, vI p3, vI p4, vI p5, vI p6, .unset, .unset, .unset, .unset, .unset, .unset, .unset, .unset, .unset, .unset, .unset] [])) tg := by
        intro tg kt
        refine R529 _ ?_
        refine st530.trans ?_
        show Steps p.tables e below (T530.setTop (mkF m 186 #[vI p1, vI p2, vI p3, vI p4, vI p5, vI p6, vI c0, vI c1, vI c2, vI c3, vI (1 : Int32), vI (own_bad p6), vR ar, vR ob, vR fo, .unset, .unset] [(.ref aa)])) _
        refine XS.astore X530.here hx rfl (hb hby at_186) rfl rfl (l' := #[vI p1, vI p2, vI p3, vI p4, vI p5, vI p6, vI c0, vI c1, vI c2, vI c3, vI (1 : Int32), vI (own_bad p6), vR ar, vR ob, vR fo, vR aa, .unset]) rfl ?_
        exact kt
      clear R529 st530
      have R533 : ∀ tg, Steps p.tables e below (T530.setTop (mkF m 255 #[vI p1, vI p2, vI p3, vI p4, vI p5, vI p6, vI c0, vI c1, vI c2, vI c3, vI (1 : Int32), vI (own_bad p6), vR ar, vR ob, vR fo, vR aa, vI (own_k1 (0 : Int32) (1 : Int32) c0 (0 : Int32) (own_k1 (1 : Int32) (1 : Int32) c1 (1 : Int32) (own_k1 (2 : Int32) (1 : Int32) c2 (2 : Int32) (own_k1 (3 : Int32) (1 : Int32) c3 (3 : Int32) (1 : Int32)))))] [])) tg → Steps p.tables e below (s₁.setTop (mkF m 0 #[vI p1, vI p2, vI p3, vI p4, vI p5, vI p6, .unset, .unset, .unset, .unset, .unset, .unset, .unset, .unset, .unset, .unset, .unset] [])) tg := fun tg kt => R532 tg (own_t188 6 16 (1 : Int32) p1 p2 p3 p4 p5 p6 c0 c1 c2 c3 (own_bad p6) ar ob fo aa X530 hx hZ hw hby hml hown rfl N530 tg kt)
      have R534 : ∀ tg, Steps p.tables e below (T530.setTop (mkF m 255 #[vI p1, vI p2, vI p3, vI p4, vI p5, vI p6, vI c0, vI c1, vI c2, vI c3, vI (1 : Int32), vI (own_bad p6), vR ar, vR ob, vR fo, vR aa, vI (0 : Int32)] [])) tg → Steps p.tables e below (s₁.setTop (mkF m 0 #[vI p1, vI p2, vI p3, vI p4, vI p5, vI p6, .unset, .unset, .unset, .unset, .unset, .unset, .unset, .unset, .unset, .unset, .unset] [])) tg := by intro tg kt; refine R533 tg ?_; rw [show (own_k1 (0 : Int32) (1 : Int32) c0 (0 : Int32) (own_k1 (1 : Int32) (1 : Int32) c1 (1 : Int32) (own_k1 (2 : Int32) (1 : Int32) c2 (2 : Int32) (own_k1 (3 : Int32) (1 : Int32) c3 (3 : Int32) (1 : Int32))))) = (0 : Int32) from (own_hit (by decide) hv0)]; exact kt
      obtain ⟨T535, L535, X535, e535, N535, st535⟩ := own_t255_0 6 16 (1 : Int32) p1 p2 p3 p4 p5 p6 c0 c1 c2 c3 (own_bad p6) ar ob fo aa t2 (fun j => ([] : List Int32).getD j 0) cs vf X530 hx hZ hw hby hml hown (by decide) (by decide) rfl N530 Zs531 SC OL_531 hcs SF hvf E4 Fc4 Fv4 V4 
      have R536 : ∀ tg, Steps p.tables e below (T535.setTop (mkF m 348 #[vI p1, vI p2, vI p3, vI p4, vI p5, vI p6, vI c0, vI c1, vI c2, vI c3, vI (1 : Int32), vI (own_bad p6), vR ar, vR ob, vR fo, vR aa, vI (0 : Int32)] [(.int (1 : Int32))])) tg → Steps p.tables e below (s₁.setTop (mkF m 0 #[vI p1, vI p2, vI p3, vI p4, vI p5, vI p6, .unset, .unset, .unset, .unset, .unset, .unset, .unset, .unset, .unset, .unset, .unset] [])) tg := by
        intro tg kt
        refine R534 _ ?_
        refine st535 _ ?_
        exact kt
      clear R534 st535
      obtain ⟨fs, hr, hrun, hended, hR⟩ := Stand.leaveW (s := s) (vm₁ := T530.vm) X535 S530 (by rw [e535]; exact (Nat.le_refl T530.heap.size)) (v := some (.int (1 : Int32))) (fun h => by rw [Bd.returns] at h; cases h)
      refine ⟨_, _, pre0 _ (R536 _ ?_), hrun, hended, _, _, rfl, ?_, hR.1, hR.2.1, hR.2.2.1, hR.2.2.2.mono (by decide) (by decide)⟩
      · exact retN X535 hx (t := .boolean) Bd.returns (by simp) (hb hby at_348) hr
      · show Q_rm_law Z p1 p2 p3 p4 p5 p6 cs vf h0 n0 _ T535.heap _
        rw [e535]
        exact ⟨rfl, N535⟩
    · obtain ⟨cq537, kq537, q537a, q537b, q537c⟩ := isOf hZ rfl E3
      obtain ⟨_, _, ⟨T537, L537, k537, n537⟩, -, X537, ⟨Lc537, hQ537, l537, y537, z537⟩, st537⟩ := X527.virtualBack hx (y := (⟨"com/example/travessia/travessia/isis/IsisField", "leadingText", "()Ljava/lang/String;"⟩ : MethodName)) (z := (⟨"com/example/travessia/travessia/isis/IsisField", "leadingText", "()Ljava/lang/String;"⟩ : MethodName)) hown (mvT hZ (hw _ (List.mem_of_getElem? (i := 53) rfl))) (mvT hZ (hw _ (List.mem_of_getElem? (i := 54) rfl))) (notFace_of_selects (args := #[]) (mvT hZ (hw _ (List.mem_of_getElem? (i := 56) rfl)))) (mvT hZ (hw _ (List.mem_of_getElem? (i := 56) rfl))) (mvT hZ (hw _ (List.mem_of_getElem? (i := 55) rfl))) (by decide) (backOf (W := 0) (rm_ltA l Z a0 hw [] fo ob tb 1 (fun j => own_bv ((own_G c0 c1 c2 c3) j)) cs T527.heap n0 Zs528 (Or.inr (Or.inl rfl)) SC OL_528 hcs E_ob_528 FcS_528 FvS_528 VS_528 E3 Fd3 (own_ixk_1_1 (fun j => own_bv ((own_G c0 c1 c2 c3) j)) (fun q => hv0 (b0.mp q)))) hZ (hw _ (List.mem_of_getElem? (i := 57) rfl)) (hw _ (List.mem_of_getElem? (i := 37) rfl)) (by decide) (by decide)) q537a q537c (g := (mkF m 183 #[vI p1, vI p2, vI p3, vI p4, vI p5, vI p6, vI c0, vI c1, vI c2, vI c3, vI (1 : Int32), vI (own_bad p6), vR ar, vR ob, vR fo, .unset, .unset] [(.ref fo)])) rfl (by rw [hml]; rfl) (Steps.refl _) (argsL := []) (rest := []) (lenOf pd_24 rfl) rfl (by show 2 * 0 + _ ≤ _; exact Nat.le_of_eq rfl) (hb hby at_183) (fun _ _ => ⟨rfl, rfl, (by decide : 4 + 0 ≤ _), (by decide : 12 + 0 ≤ _)⟩)
      dsimp only [Pt.U, Pt.locs, Pt.cells, Pt.slots] at X537 l537 y537 z537 st537 hQ537
      rw [l537, y537, z537] at X537
      obtain ⟨rfl, N537q, hh537⟩ := hQ537
      have N537 := Fr.app N527 N537q
      have R538 : ∀ tg, Steps p.tables e below (T537.setTop (mkF m 188 #[vI p1, vI p2, vI p3, vI p4, vI p5, vI p6, vI c0, vI c1, vI c2, vI c3, vI (1 : Int32), vI (own_bad p6), vR ar, vR ob, vR fo, vR ob, .unset] [])) tg → Steps p.tables e below (s₁.setTop (mkF m 0 #[vI p1, vI p2, vI p3, vI p4, vI p5, vI p6, .unset, .unset, .unset, .unset, .unset, .unset, .unset, .unset, .unset, .unset, .unset] [])) tg := by
        intro tg kt
        refine R529 _ ?_
        refine st537.trans ?_
        show Steps p.tables e below (T537.setTop (mkF m 186 #[vI p1, vI p2, vI p3, vI p4, vI p5, vI p6, vI c0, vI c1, vI c2, vI c3, vI (1 : Int32), vI (own_bad p6), vR ar, vR ob, vR fo, .unset, .unset] [(.ref ob)])) _
        refine XS.astore X537.here hx rfl (hb hby at_186) rfl rfl (l' := #[vI p1, vI p2, vI p3, vI p4, vI p5, vI p6, vI c0, vI c1, vI c2, vI c3, vI (1 : Int32), vI (own_bad p6), vR ar, vR ob, vR fo, vR ob, .unset]) rfl ?_
        exact kt
      clear R529 st537
      have R539 : ∀ tg, Steps p.tables e below (T537.setTop (mkF m 255 #[vI p1, vI p2, vI p3, vI p4, vI p5, vI p6, vI c0, vI c1, vI c2, vI c3, vI (1 : Int32), vI (own_bad p6), vR ar, vR ob, vR fo, vR ob, vI (own_k1 (0 : Int32) (1 : Int32) c0 (0 : Int32) (own_k1 (1 : Int32) (1 : Int32) c1 (1 : Int32) (own_k1 (2 : Int32) (1 : Int32) c2 (2 : Int32) (own_k1 (3 : Int32) (1 : Int32) c3 (3 : Int32) (1 : Int32)))))] [])) tg → Steps p.tables e below (s₁.setTop (mkF m 0 #[vI p1, vI p2, vI p3, vI p4, vI p5, vI p6, .unset, .unset, .unset, .unset, .unset, .unset, .unset, .unset, .unset, .unset, .unset] [])) tg := fun tg kt => R538 tg (own_t188 4 12 (1 : Int32) p1 p2 p3 p4 p5 p6 c0 c1 c2 c3 (own_bad p6) ar ob fo ob X537 hx hZ hw hby hml hown hh537 N537 tg kt)
      have R540 : ∀ tg, Steps p.tables e below (T537.setTop (mkF m 255 #[vI p1, vI p2, vI p3, vI p4, vI p5, vI p6, vI c0, vI c1, vI c2, vI c3, vI (1 : Int32), vI (own_bad p6), vR ar, vR ob, vR fo, vR ob, vI (1 : Int32)] [])) tg → Steps p.tables e below (s₁.setTop (mkF m 0 #[vI p1, vI p2, vI p3, vI p4, vI p5, vI p6, .unset, .unset, .unset, .unset, .unset, .unset, .unset, .unset, .unset, .unset, .unset] [])) tg := by intro tg kt; refine R539 tg ?_; rw [show (own_k1 (0 : Int32) (1 : Int32) c0 (0 : Int32) (own_k1 (1 : Int32) (1 : Int32) c1 (1 : Int32) (own_k1 (2 : Int32) (1 : Int32) c2 (2 : Int32) (own_k1 (3 : Int32) (1 : Int32) c3 (3 : Int32) (1 : Int32))))) = (1 : Int32) from ((own_miss hv0).trans ((own_out (by decide)).trans ((own_out (by decide)).trans ((own_out (by decide)).trans rfl))))]; exact kt
      obtain ⟨T541, L541, X541, e541, N541, st541⟩ := own_t255_1 4 12 (1 : Int32) p1 p2 p3 p4 p5 p6 c0 c1 c2 c3 (own_bad p6) ar ob fo ob tb (fun j => own_bv ((own_G c0 c1 c2 c3) j)) cs vf X537 hx hZ hw hby hml hown (by decide) (by decide) hh537 N537 Zs528 SC OL_528 hcs SF hvf E_ob_528 FcS_528 FvS_528 VS_528 q0
      have R542 : ∀ tg, Steps p.tables e below (T541.setTop (mkF m 348 #[vI p1, vI p2, vI p3, vI p4, vI p5, vI p6, vI c0, vI c1, vI c2, vI c3, vI (1 : Int32), vI (own_bad p6), vR ar, vR ob, vR fo, vR ob, vI (1 : Int32)] [(.int (1 : Int32))])) tg → Steps p.tables e below (s₁.setTop (mkF m 0 #[vI p1, vI p2, vI p3, vI p4, vI p5, vI p6, .unset, .unset, .unset, .unset, .unset, .unset, .unset, .unset, .unset, .unset, .unset] [])) tg := by
        intro tg kt
        refine R540 _ ?_
        refine st541 _ ?_
        exact kt
      clear R540 st541
      obtain ⟨fs, hr, hrun, hended, hR⟩ := Stand.leaveW (s := s) (vm₁ := s.vm) X541 hS0 (Nat.zero_le _) (v := some (.int (1 : Int32))) (fun h => by rw [Bd.returns] at h; cases h)
      refine ⟨_, _, pre0 _ (R542 _ ?_), hrun, hended, _, _, rfl, ?_, hR.1, hR.2.1, hR.2.2.1, hR.2.2.2.mono (by decide) (by decide)⟩
      · exact retN X541 hx (t := .boolean) Bd.returns (by simp) (hb hby at_348) hr
      · show Q_rm_law Z p1 p2 p3 p4 p5 p6 cs vf h0 n0 _ T541.heap _
        rw [e541]
        exact ⟨rfl, N541⟩
  · have R543 : ∀ tg, Steps p.tables e below (T482.setTop (mkF m 47 #[vI p1, vI p2, vI p3, vI p4, vI p5, vI p6, vI c0, vI c1, vI c2, vI c3, vI (2 : Int32), vI (own_bad p6), .unset, .unset, .unset, .unset, .unset] [(.int (2 : Int32))])) tg → Steps p.tables e below (s₁.setTop (mkF m 0 #[vI p1, vI p2, vI p3, vI p4, vI p5, vI p6, .unset, .unset, .unset, .unset, .unset, .unset, .unset, .unset, .unset, .unset, .unset] [])) tg := by intro tg kt; refine R492 tg ?_; rw [hn]; exact kt
    have R544 : ∀ tg, Steps p.tables e below (T482.setTop (mkF m 84 #[vI p1, vI p2, vI p3, vI p4, vI p5, vI p6, vI c0, vI c1, vI c2, vI c3, vI (2 : Int32), vI (own_bad p6), .unset, .unset, .unset, .unset, .unset] [(.int (2 : Int32))])) tg → Steps p.tables e below (s₁.setTop (mkF m 0 #[vI p1, vI p2, vI p3, vI p4, vI p5, vI p6, .unset, .unset, .unset, .unset, .unset, .unset, .unset, .unset, .unset, .unset, .unset] [])) tg := by
      intro tg kt
      refine R543 _ ?_
      show Steps p.tables e below (T482.setTop (mkF m 47 #[vI p1, vI p2, vI p3, vI p4, vI p5, vI p6, vI c0, vI c1, vI c2, vI c3, vI (2 : Int32), vI (own_bad p6), .unset, .unset, .unset, .unset, .unset] [(.int (2 : Int32))])) _
      refine XS.ifYes X482.here hx rfl (pc0 := 47) (pc' := 58) rfl (hb hby at_47) rfl ((if0 _ _).trans (feq (by decide : ¬ ((2 : Int32) = (0 : Int32)))).2) (by decide) (by decide) ?_
      refine XS.iload X482.here hx rfl (hb hby at_58) rfl ?_
      refine XS.iconst X482.here hx rfl (hb hby at_60) ?_
      show Steps p.tables e below (T482.setTop (mkF m 61 #[vI p1, vI p2, vI p3, vI p4, vI p5, vI p6, vI c0, vI c1, vI c2, vI c3, vI (2 : Int32), vI (own_bad p6), .unset, .unset, .unset, .unset, .unset] [(.int (1 : Int32)), (.int (2 : Int32))])) _
      refine XS.icmpYes X482.here hx rfl (pc0 := 61) (pc' := 77) rfl (hb hby at_61) rfl (feq (by decide : ¬ ((2 : Int32) = (1 : Int32)))).2 (by decide) (by decide) ?_
      refine XS.iload X482.here hx rfl (hb hby at_77) rfl ?_
      refine XS.iconst X482.here hx rfl (hb hby at_79) ?_
      show Steps p.tables e below (T482.setTop (mkF m 80 #[vI p1, vI p2, vI p3, vI p4, vI p5, vI p6, vI c0, vI c1, vI c2, vI c3, vI (2 : Int32), vI (own_bad p6), .unset, .unset, .unset, .unset, .unset] [(.int (2 : Int32)), (.int (2 : Int32))])) _
      refine XS.icmpNo X482.here hx rfl (hb hby at_80) rfl (teq (rfl : (2 : Int32) = (2 : Int32))).2 ?_
      refine XS.iconst X482.here hx rfl (hb hby at_83) ?_
      exact kt
    clear R543
    obtain ⟨T545, h545, k545, X545, e545, E545, A545, st545⟩ := newP X482 hx hZ (hw _ (List.mem_of_getElem? (i := 5) rfl)) hh482 (g := (mkF m 84 #[vI p1, vI p2, vI p3, vI p4, vI p5, vI p6, vI c0, vI c1, vI c2, vI c3, vI (2 : Int32), vI (own_bad p6), .unset, .unset, .unset, .unset, .unset] [(.int (2 : Int32))])) rfl (hb hby at_84) rfl (by decide) (cap := 2) (by decide) (by decide) (by decide) (by decide)
    obtain ⟨ar, g545⟩ : ∃ z, z = h0.size := ⟨_, rfl⟩
    rw [← g545] at A545 st545
    have g_ar : n0 ≤ ar := Nat.le_trans Z0 (Nat.le_of_eq g545.symm)
    have OL_545 := OL.ext E545
    have Zs545 : n0 ≤ h545.size := Nat.le_trans Z0 E545.1
    have VC : AV Z h545 ar .char 2 (fun _ => defaultValue .char) := AV.new A545 rfl rfl
    have R546 : ∀ tg, Steps p.tables e below (T545.setTop (mkF m 90 #[vI p1, vI p2, vI p3, vI p4, vI p5, vI p6, vI c0, vI c1, vI c2, vI c3, vI (2 : Int32), vI (own_bad p6), .unset, .unset, .unset, .unset, .unset] [(.int c0), (.int (0 : Int32)), (.ref ar), (.ref ar)])) tg → Steps p.tables e below (s₁.setTop (mkF m 0 #[vI p1, vI p2, vI p3, vI p4, vI p5, vI p6, .unset, .unset, .unset, .unset, .unset, .unset, .unset, .unset, .unset, .unset, .unset] [])) tg := by
      intro tg kt
      refine R544 _ ?_
      refine st545 _ ?_
      refine XS.dup X545.here hx rfl (hb hby at_86) rfl rfl ?_
      show Steps p.tables e below (T545.setTop (mkF m 87 #[vI p1, vI p2, vI p3, vI p4, vI p5, vI p6, vI c0, vI c1, vI c2, vI c3, vI (2 : Int32), vI (own_bad p6), .unset, .unset, .unset, .unset, .unset] [(.ref ar), (.ref ar)])) _
      refine XS.iconst X545.here hx rfl (hb hby at_87) ?_
      refine XS.iload X545.here hx rfl (hb hby at_88) rfl ?_
      exact kt
    clear R544 st545
    obtain ⟨cl547, Ar547, hin547, -⟩ := VC.at (j := (0 : Int32)) (k := 0) (by decide) rfl (by decide)
    obtain ⟨T548, h548, X548, e548, W548, st548⟩ := stC X545 hx hZ e545 Ar547 (j := (0 : Int32)) hin547 (g := (mkF m 90 #[vI p1, vI p2, vI p3, vI p4, vI p5, vI p6, vI c0, vI c1, vI c2, vI c3, vI (2 : Int32), vI (own_bad p6), .unset, .unset, .unset, .unset, .unset] [(.int c0), (.int (0 : Int32)), (.ref ar), (.ref ar)])) rfl rfl (hb hby at_90)
    have N548 := Fr.snoc X548 N482 g_ar
    rw [show ((0 : Int32) : Int32).toNatClampNeg = 0 from rfl] at W548
    have VC_548 := VC.set W548 (fits_nar_char _)
    have OL_548 := OL_545.wr W548 g_ar
    clear OL_545
    have Zs548 : n0 ≤ h548.size := Nat.le_trans Zs545 (Keep.of_wr W548).1
    have R549 : ∀ tg, Steps p.tables e below (T548.setTop (mkF m 95 #[vI p1, vI p2, vI p3, vI p4, vI p5, vI p6, vI c0, vI c1, vI c2, vI c3, vI (2 : Int32), vI (own_bad p6), .unset, .unset, .unset, .unset, .unset] [(.int c1), (.int (1 : Int32)), (.ref ar), (.ref ar)])) tg → Steps p.tables e below (s₁.setTop (mkF m 0 #[vI p1, vI p2, vI p3, vI p4, vI p5, vI p6, .unset, .unset, .unset, .unset, .unset, .unset, .unset, .unset, .unset, .unset, .unset] [])) tg := by
      intro tg kt
      refine R546 _ ?_
      refine st548 _ ?_
      refine XS.dup X548.here hx rfl (hb hby at_91) rfl rfl ?_
      show Steps p.tables e below (T548.setTop (mkF m 92 #[vI p1, vI p2, vI p3, vI p4, vI p5, vI p6, vI c0, vI c1, vI c2, vI c3, vI (2 : Int32), vI (own_bad p6), .unset, .unset, .unset, .unset, .unset] [(.ref ar), (.ref ar)])) _
      refine XS.iconst X548.here hx rfl (hb hby at_92) ?_
      refine XS.iload X548.here hx rfl (hb hby at_93) rfl ?_
      exact kt
    clear R546 st548
    obtain ⟨cl550, Ar550, hin550, -⟩ := VC_548.at (j := (1 : Int32)) (k := 1) (by decide) rfl (by decide)
    obtain ⟨T551, h551, X551, e551, W551, st551⟩ := stC X548 hx hZ e548 Ar550 (j := (1 : Int32)) hin550 (g := (mkF m 95 #[vI p1, vI p2, vI p3, vI p4, vI p5, vI p6, vI c0, vI c1, vI c2, vI c3, vI (2 : Int32), vI (own_bad p6), .unset, .unset, .unset, .unset, .unset] [(.int c1), (.int (1 : Int32)), (.ref ar), (.ref ar)])) rfl rfl (hb hby at_95)
    have N551 := Fr.snoc X551 N548 g_ar
    rw [show ((1 : Int32) : Int32).toNatClampNeg = 1 from rfl] at W551
    have VC_551 := VC_548.set W551 (fits_nar_char _)
    have OL_551 := OL_548.wr W551 g_ar
    clear OL_548
    have Zs551 : n0 ≤ h551.size := Nat.le_trans Zs548 (Keep.of_wr W551).1
    have R552 : ∀ tg, Steps p.tables e below (T551.setTop (mkF m 155 #[vI p1, vI p2, vI p3, vI p4, vI p5, vI p6, vI c0, vI c1, vI c2, vI c3, vI (2 : Int32), vI (own_bad p6), vR ar, .unset, .unset, .unset, .unset] [])) tg → Steps p.tables e below (s₁.setTop (mkF m 0 #[vI p1, vI p2, vI p3, vI p4, vI p5, vI p6, .unset, .unset, .unset, .unset, .unset, .unset, .unset, .unset, .unset, .unset, .unset] [])) tg := by
      intro tg kt
      refine R549 _ ?_
      refine st551 _ ?_
      show Steps p.tables e below (T551.setTop (mkF m 96 #[vI p1, vI p2, vI p3, vI p4, vI p5, vI p6, vI c0, vI c1, vI c2, vI c3, vI (2 : Int32), vI (own_bad p6), .unset, .unset, .unset, .unset, .unset] [(.ref ar)])) _
      refine XS.astore X551.here hx rfl (hb hby at_96) rfl rfl (l' := #[vI p1, vI p2, vI p3, vI p4, vI p5, vI p6, vI c0, vI c1, vI c2, vI c3, vI (2 : Int32), vI (own_bad p6), vR ar, .unset, .unset, .unset, .unset]) rfl ?_
      show Steps p.tables e below (T551.setTop (mkF m 98 #[vI p1, vI p2, vI p3, vI p4, vI p5, vI p6, vI c0, vI c1, vI c2, vI c3, vI (2 : Int32), vI (own_bad p6), vR ar, .unset, .unset, .unset, .unset] [])) _
      refine XS.goto X551.here hx rfl (pc0 := 98) (pc' := 155) rfl (hb hby at_98) (by decide) (by decide) ?_
      exact kt
    clear R549 st551
    obtain ⟨T553, h553, X553, e553, E553, A553, D553, -, st553⟩ := newO X551 hx hZ hown (hw _ (List.mem_of_getElem? (i := 6) rfl)) (hw _ (List.mem_of_getElem? (i := 7) rfl)) (hw _ (List.mem_of_getElem? (i := 8) rfl)) e551 (g := (mkF m 155 #[vI p1, vI p2, vI p3, vI p4, vI p5, vI p6, vI c0, vI c1, vI c2, vI c3, vI (2 : Int32), vI (own_bad p6), vR ar, .unset, .unset, .unset, .unset] [])) rfl (hb hby at_155) (by decide) (by decide)
    obtain ⟨ob, g553⟩ : ∃ z, z = h551.size := ⟨_, rfl⟩
    rw [← g553] at A553 D553 st553
    have E_ob := A553
    have g_ob : n0 ≤ ob := Nat.le_trans Zs551 (Nat.le_of_eq g553.symm)
    have ne_ar_ob : ar ≠ ob := Nat.ne_of_lt (Nat.lt_of_lt_of_le VC_551.lt (Nat.le_of_eq g553.symm))
    have OL_553 := OL_551.ext E553
    have VC_553 := VC_551.ext E553
    clear OL_551 VC_551
    have Zs553 : n0 ≤ h553.size := Nat.le_trans Zs551 E553.1
    have Fv : Fld Z h553 ob "java/lang/String" "value" "[B" .null := D553 (Or.inr (hw _ (List.mem_of_getElem? (i := 34) rfl))) (ty := (.array .byte)) (by decide)
    have Fc : Fld Z h553 ob "java/lang/String" "coder" "B" (.int (0 : Int32)) := D553 (Or.inr (hw _ (List.mem_of_getElem? (i := 32) rfl))) (ty := .byte) (by decide)
    have VCz : AV Z h553 ar .char 2 (fun j => .int ((own_G c0 c1 c2 c3) j)) := AV.congr VC_553 (own_sc2 c0 c1 c2 c3 _ r0 r1)
    have R554 : ∀ tg, Steps p.tables e below (T553.setTop (mkF m 161 #[vI p1, vI p2, vI p3, vI p4, vI p5, vI p6, vI c0, vI c1, vI c2, vI c3, vI (2 : Int32), vI (own_bad p6), vR ar, .unset, .unset, .unset, .unset] [(.ref ar), (.ref ob), (.ref ob)])) tg → Steps p.tables e below (s₁.setTop (mkF m 0 #[vI p1, vI p2, vI p3, vI p4, vI p5, vI p6, .unset, .unset, .unset, .unset, .unset, .unset, .unset, .unset, .unset, .unset, .unset] [])) tg := by
      intro tg kt
      refine R552 _ ?_
      refine st553 _ ?_
      refine XS.dup X553.here hx rfl (hb hby at_158) rfl rfl ?_
      refine XS.aload X553.here hx rfl (hb hby at_159) rfl rfl ?_
      exact kt
    clear R552 st553
    obtain ⟨_, _, ⟨T555, L555, k555, n555⟩, -, X555, ⟨Lc555, hQ555, l555, y555, z555⟩, st555⟩ := X553.specialBack hx (y := (⟨"java/lang/String", "<init>", "([C)V"⟩ : MethodName)) rfl hown (mvT hZ (hw _ (List.mem_of_getElem? (i := 9) rfl))) (mvT hZ (hw _ (List.mem_of_getElem? (i := 10) rfl))) (mvT hZ (hw _ (List.mem_of_getElem? (i := 11) rfl))) (by decide) (backOf (W := 1) (rm_in1 l Z a0 hw [] ob ar 2 (own_G c0 c1 c2 c3) cs h553 n0 Zs553 (Or.inr (Or.inl rfl)) VCz (own_Gle _ _ _ _ d0 d1 d2 d3) SC OL_553 hcs (Ne.symm ne_ar_ob) E_ob Fv Fc g_ob) hZ (hw _ (List.mem_of_getElem? (i := 11) rfl)) (hw _ (List.mem_of_getElem? (i := 8) rfl)) (by decide) (by decide)) (g := (mkF m 161 #[vI p1, vI p2, vI p3, vI p4, vI p5, vI p6, vI c0, vI c1, vI c2, vI c3, vI (2 : Int32), vI (own_bad p6), vR ar, .unset, .unset, .unset, .unset] [(.ref ar), (.ref ob), (.ref ob)])) rfl (by rw [hml]; rfl) (Steps.refl _) (a := ob) (argsL := [(.ref ar)]) (rest := [(.ref ob)]) (lenOf pd_22 rfl) rfl (by show 2 * 0 + _ ≤ _; exact Nat.le_of_eq rfl) (hb hby at_161) (fun _ _ => ⟨rfl, e553, (by decide : 2 + 1 ≤ _), (by decide : 6 + 4 ≤ _)⟩)
    dsimp only [Pt.U, Pt.locs, Pt.cells, Pt.slots] at X555 l555 y555 z555 st555 hQ555
    rw [l555, y555, z555] at X555
    obtain ⟨tb, rfl, N555q, szt, K555, E2, Fc2, Fv2, V2⟩ := hQ555
    have N555 := Fr.app N551 N555q
    have OL_556 := OL_553.keep K555 (own_ge1 g_ob)
    clear OL_553
    have Zs556 : n0 ≤ T555.heap.size := Nat.le_trans Zs553 K555.1
    have R557 : ∀ tg, Steps p.tables e below (T555.setTop (mkF m 166 #[vI p1, vI p2, vI p3, vI p4, vI p5, vI p6, vI c0, vI c1, vI c2, vI c3, vI (2 : Int32), vI (own_bad p6), vR ar, vR ob, .unset, .unset, .unset] [])) tg → Steps p.tables e below (s₁.setTop (mkF m 0 #[vI p1, vI p2, vI p3, vI p4, vI p5, vI p6, .unset, .unset, .unset, .unset, .unset, .unset, .unset, .unset, .unset, .unset, .unset] [])) tg := by
      intro tg kt
      refine R554 _ ?_
      refine st555.trans ?_
      show Steps p.tables e below (T555.setTop (mkF m 164 #[vI p1, vI p2, vI p3, vI p4, vI p5, vI p6, vI c0, vI c1, vI c2, vI c3, vI (2 : Int32), vI (own_bad p6), vR ar, .unset, .unset, .unset, .unset] [(.ref ob)])) _
      refine XS.astore X555.here hx rfl (hb hby at_164) rfl rfl (l' := #[vI p1, vI p2, vI p3, vI p4, vI p5, vI p6, vI c0, vI c1, vI c2, vI c3, vI (2 : Int32), vI (own_bad p6), vR ar, vR ob, .unset, .unset, .unset]) rfl ?_
      exact kt
    clear R554 st555
    obtain ⟨T558, h558, X558, e558, E558, A558, D558, -, st558⟩ := newO X555 hx hZ hown (hw _ (List.mem_of_getElem? (i := 35) rfl)) (hw _ (List.mem_of_getElem? (i := 36) rfl)) (hw _ (List.mem_of_getElem? (i := 37) rfl)) rfl (g := (mkF m 166 #[vI p1, vI p2, vI p3, vI p4, vI p5, vI p6, vI c0, vI c1, vI c2, vI c3, vI (2 : Int32), vI (own_bad p6), vR ar, vR ob, .unset, .unset, .unset] [])) rfl (hb hby at_166) (by decide) (by decide)
    obtain ⟨fo, g558⟩ : ∃ z, z = T555.heap.size := ⟨_, rfl⟩
    rw [← g558] at A558 D558 st558
    have E_fo := A558
    have g_fo : n0 ≤ fo := Nat.le_trans Zs556 (Nat.le_of_eq g558.symm)
    have ne_ob_fo : ob ≠ fo := Nat.ne_of_lt (Nat.lt_of_lt_of_le E2.lt (Nat.le_of_eq g558.symm))
    have ne_tb_fo : tb ≠ fo := Nat.ne_of_lt (Nat.lt_of_lt_of_le V2.lt (Nat.le_of_eq g558.symm))
    have OL_558 := OL_556.ext E558
    have E_ob_558 := E2.ext E558
    have FcS_558 := Fc2.ext E558
    have FvS_558 := Fv2.ext E558
    have VS_558 := V2.ext E558
    clear OL_556
    have Zs558 : n0 ≤ h558.size := Nat.le_trans Zs556 E558.1
    have Ft : Fld Z h558 fo "com/example/travessia/travessia/isis/IsisField" "tag" "I" (.int (0 : Int32)) := D558 (Or.inr (hw _ (List.mem_of_getElem? (i := 48) rfl))) (ty := .int) (by decide)
    have Fd : Fld Z h558 fo "com/example/travessia/travessia/isis/IsisField" "data" "Ljava/lang/String;" .null := D558 (Or.inr (hw _ (List.mem_of_getElem? (i := 50) rfl))) (ty := (.object "java/lang/String")) (by decide)
    have Fb : Fld Z h558 fo "com/example/travessia/travessia/isis/IsisField" "badEncoding" "Z" (.int (0 : Int32)) := D558 (Or.inr (hw _ (List.mem_of_getElem? (i := 52) rfl))) (ty := .boolean) (by decide)
    have R559 : ∀ tg, Steps p.tables e below (T558.setTop (mkF m 176 #[vI p1, vI p2, vI p3, vI p4, vI p5, vI p6, vI c0, vI c1, vI c2, vI c3, vI (2 : Int32), vI (own_bad p6), vR ar, vR ob, .unset, .unset, .unset] [(.int (own_bad p6)), (.ref ob), (.int p5), (.ref fo), (.ref fo)])) tg → Steps p.tables e below (s₁.setTop (mkF m 0 #[vI p1, vI p2, vI p3, vI p4, vI p5, vI p6, .unset, .unset, .unset, .unset, .unset, .unset, .unset, .unset, .unset, .unset, .unset] [])) tg := by
      intro tg kt
      refine R557 _ ?_
      refine st558 _ ?_
      refine XS.dup X558.here hx rfl (hb hby at_169) rfl rfl ?_
      refine XS.iload X558.here hx rfl (hb hby at_170) rfl ?_
      show Steps p.tables e below (T558.setTop (mkF m 172 #[vI p1, vI p2, vI p3, vI p4, vI p5, vI p6, vI c0, vI c1, vI c2, vI c3, vI (2 : Int32), vI (own_bad p6), vR ar, vR ob, .unset, .unset, .unset] [(.int p5), (.ref fo), (.ref fo)])) _
      refine XS.aload X558.here hx rfl (hb hby at_172) rfl rfl ?_
      refine XS.iload X558.here hx rfl (hb hby at_174) rfl ?_
      exact kt
    clear R557 st558
    obtain ⟨_, _, ⟨T560, L560, k560, n560⟩, -, X560, ⟨Lc560, hQ560, l560, y560, z560⟩, st560⟩ := X558.specialBack hx (y := (⟨"com/example/travessia/travessia/isis/IsisField", "<init>", "(ILjava/lang/String;Z)V"⟩ : MethodName)) rfl hown (mvT hZ (hw _ (List.mem_of_getElem? (i := 38) rfl))) (mvT hZ (hw _ (List.mem_of_getElem? (i := 39) rfl))) (mvT hZ (hw _ (List.mem_of_getElem? (i := 40) rfl))) (by decide) (backOf (W := 1) (rm_isi l Z a0 hw [] fo p5 ob (own_bad p6) h558 n0 Zs558 E_fo Ft Fd Fb g_fo (own_bad01 p6)) hZ (hw _ (List.mem_of_getElem? (i := 40) rfl)) (hw _ (List.mem_of_getElem? (i := 37) rfl)) (by decide) (by decide)) (g := (mkF m 176 #[vI p1, vI p2, vI p3, vI p4, vI p5, vI p6, vI c0, vI c1, vI c2, vI c3, vI (2 : Int32), vI (own_bad p6), vR ar, vR ob, .unset, .unset, .unset] [(.int (own_bad p6)), (.ref ob), (.int p5), (.ref fo), (.ref fo)])) rfl (by rw [hml]; rfl) (Steps.refl _) (a := fo) (argsL := [(.int p5), (.ref ob), (.int (own_bad p6))]) (rest := [(.ref fo)]) (lenOf pd_23 rfl) rfl (by show 2 * 0 + _ ≤ _; exact Nat.le_of_eq rfl) (hb hby at_176) (fun _ _ => ⟨rfl, e558, (by decide : 4 + 0 ≤ _), (by decide : 13 + 0 ≤ _)⟩)
    dsimp only [Pt.U, Pt.locs, Pt.cells, Pt.slots] at X560 l560 y560 z560 st560 hQ560
    rw [l560, y560, z560] at X560
    obtain ⟨rfl, N560q, K560, E3, Fd3⟩ := hQ560
    have N560 := Fr.app N555 N560q
    have OL_561 := OL_558.keep K560 (own_ge1 g_fo)
    have E_ob_561 := E_ob_558.keep K560
    have FcS_561 := FcS_558.keep K560 (own_notin1 ne_ob_fo)
    have FvS_561 := FvS_558.keep K560 (own_notin1 ne_ob_fo)
    have VS_561 := VS_558.keep K560 (own_notin1 ne_tb_fo)
    clear OL_558 E_ob_558 FcS_558 FvS_558 VS_558
    have Zs561 : n0 ≤ T560.heap.size := Nat.le_trans Zs558 K560.1
    have R562 : ∀ tg, Steps p.tables e below (T560.setTop (mkF m 183 #[vI p1, vI p2, vI p3, vI p4, vI p5, vI p6, vI c0, vI c1, vI c2, vI c3, vI (2 : Int32), vI (own_bad p6), vR ar, vR ob, vR fo, .unset, .unset] [(.ref fo)])) tg → Steps p.tables e below (s₁.setTop (mkF m 0 #[vI p1, vI p2, vI p3, vI p4, vI p5, vI p6, .unset, .unset, .unset, .unset, .unset, .unset, .unset, .unset, .unset, .unset, .unset] [])) tg := by
      intro tg kt
      refine R559 _ ?_
      refine st560.trans ?_
      show Steps p.tables e below (T560.setTop (mkF m 179 #[vI p1, vI p2, vI p3, vI p4, vI p5, vI p6, vI c0, vI c1, vI c2, vI c3, vI (2 : Int32), vI (own_bad p6), vR ar, vR ob, .unset, .unset, .unset] [(.ref fo)])) _
      refine XS.astore X560.here hx rfl (hb hby at_179) rfl rfl (l' := #[vI p1, vI p2, vI p3, vI p4, vI p5, vI p6, vI c0, vI c1, vI c2, vI c3, vI (2 : Int32), vI (own_bad p6), vR ar, vR ob, vR fo, .unset, .unset]) rfl ?_
      refine XS.aload X560.here hx rfl (hb hby at_181) rfl rfl ?_
      exact kt
    clear R559 st560
    by_cases hv0 : c0 = (94 : Int32)
    · obtain ⟨cq563, kq563, q563a, q563b, q563c⟩ := isOf hZ rfl E3
      obtain ⟨_, _, ⟨T563, L563, k563, n563⟩, -, X563, S563, gr563, ⟨Lc563, hQ563, l563, y563, z563⟩, st563⟩ := X560.virtualBackS hx (y := (⟨"com/example/travessia/travessia/isis/IsisField", "leadingText", "()Ljava/lang/String;"⟩ : MethodName)) (z := (⟨"com/example/travessia/travessia/isis/IsisField", "leadingText", "()Ljava/lang/String;"⟩ : MethodName)) hown (mvT hZ (hw _ (List.mem_of_getElem? (i := 53) rfl))) (mvT hZ (hw _ (List.mem_of_getElem? (i := 54) rfl))) (notFace_of_selects (args := #[]) (mvT hZ (hw _ (List.mem_of_getElem? (i := 56) rfl)))) (mvT hZ (hw _ (List.mem_of_getElem? (i := 56) rfl))) (mvT hZ (hw _ (List.mem_of_getElem? (i := 55) rfl))) (by decide) (own_backI (W := 0) (rm_ltC l Z a0 hw [] fo ob tb 2 (fun j => own_bv ((own_G c0 c1 c2 c3) j)) cs vf T560.heap n0 Zs561 (Or.inr (Or.inl rfl)) SC OL_561 hcs SF hvf E_ob_561 FcS_561 FvS_561 VS_561 E3 Fd3 (own_ixk_2_0 (fun j => own_bv ((own_G c0 c1 c2 c3) j)) (b0.mpr hv0)) hc151 hcw) hZ hI (hw _ (List.mem_of_getElem? (i := 57) rfl)) (hw _ (List.mem_of_getElem? (i := 37) rfl)) (by decide) (by decide)) q563a q563c (g := (mkF m 183 #[vI p1, vI p2, vI p3, vI p4, vI p5, vI p6, vI c0, vI c1, vI c2, vI c3, vI (2 : Int32), vI (own_bad p6), vR ar, vR ob, vR fo, .unset, .unset] [(.ref fo)])) rfl (by rw [hml]; rfl) (Steps.refl _) (argsL := []) (rest := []) (lenOf pd_24 rfl) rfl (by show 2 * 0 + _ ≤ _; exact Nat.le_of_eq rfl) (hb hby at_183) (fun _ _ => ⟨rfl, rfl, (by decide : 4 + 2 ≤ _), (by decide : 13 + 4 ≤ _)⟩)
      dsimp only [Pt.U, Pt.locs, Pt.cells, Pt.slots] at X563 S563 gr563 l563 y563 z563 st563 hQ563
      rw [l563, y563, z563] at X563
      have hZ : Z.Warmed39 (s.setVm T563.vm).vm := State.Warmed39.trans hZ S563.1
      have hown : (s.setVm T563.vm).vm.findClass "com/example/travessia/travessia/isis/IsisFieldLeadingTextPinLaw" = some m.cls := (S563.1.alike.findClass _ _).trans hown
      obtain ⟨aa, t2, rfl, N563q, K563, E4, Fc4, Fv4, V4⟩ := hQ563
      have N563 := Fr.app N560 N563q
      have OL_564 := OL_561.keep K563 (own_ge0)
      clear OL_561
      have Zs564 : n0 ≤ T563.heap.size := Nat.le_trans Zs561 K563.1
      have R565 : ∀ tg, Steps p.tables e below (T563.setTop (mkF m 188 #[vI p1, vI p2, vI p3, vI p4, vI p5, vI p6, vI c0, vI c1, vI c2, vI c3, vI (2 : Int32), vI (own_bad p6), vR ar, vR ob, vR fo, vR aa, .unset] [])) tg → Steps p.tables e below (s₁.setTop (mkF m 0 #[vI p1, vI p2, vI p3, vI p4, vI p5, vI p6, .unset, .unset, .unset, .unset, .unset, .unset, .unset, .unset, .unset, .unset, .unset] [])) tg := by
        intro tg kt
        refine R562 _ ?_
        refine st563.trans ?_
        show Steps p.tables e below (T563.setTop (mkF m 186 #[vI p1, vI p2, vI p3, vI p4, vI p5, vI p6, vI c0, vI c1, vI c2, vI c3, vI (2 : Int32), vI (own_bad p6), vR ar, vR ob, vR fo, .unset, .unset] [(.ref aa)])) _
        refine XS.astore X563.here hx rfl (hb hby at_186) rfl rfl (l' := #[vI p1, vI p2, vI p3, vI p4, vI p5, vI p6, vI c0, vI c1, vI c2, vI c3, vI (2 : Int32), vI (own_bad p6), vR ar, vR ob, vR fo, vR aa, .unset]) rfl ?_
        exact kt
      clear R562 st563
      have R566 : ∀ tg, Steps p.tables e below (T563.setTop (mkF m 255 #[vI p1, vI p2, vI p3, vI p4, vI p5, vI p6, vI c0, vI c1, vI c2, vI c3, vI (2 : Int32), vI (own_bad p6), vR ar, vR ob, vR fo, vR aa, vI (own_k1 (0 : Int32) (2 : Int32) c0 (0 : Int32) (own_k1 (1 : Int32) (2 : Int32) c1 (1 : Int32) (own_k1 (2 : Int32) (2 : Int32) c2 (2 : Int32) (own_k1 (3 : Int32) (2 : Int32) c3 (3 : Int32) (2 : Int32)))))] [])) tg → Steps p.tables e below (s₁.setTop (mkF m 0 #[vI p1, vI p2, vI p3, vI p4, vI p5, vI p6, .unset, .unset, .unset, .unset, .unset, .unset, .unset, .unset, .unset, .unset, .unset] [])) tg := fun tg kt => R565 tg (own_t188 6 17 (2 : Int32) p1 p2 p3 p4 p5 p6 c0 c1 c2 c3 (own_bad p6) ar ob fo aa X563 hx hZ hw hby hml hown rfl N563 tg kt)
      have R567 : ∀ tg, Steps p.tables e below (T563.setTop (mkF m 255 #[vI p1, vI p2, vI p3, vI p4, vI p5, vI p6, vI c0, vI c1, vI c2, vI c3, vI (2 : Int32), vI (own_bad p6), vR ar, vR ob, vR fo, vR aa, vI (0 : Int32)] [])) tg → Steps p.tables e below (s₁.setTop (mkF m 0 #[vI p1, vI p2, vI p3, vI p4, vI p5, vI p6, .unset, .unset, .unset, .unset, .unset, .unset, .unset, .unset, .unset, .unset, .unset] [])) tg := by intro tg kt; refine R566 tg ?_; rw [show (own_k1 (0 : Int32) (2 : Int32) c0 (0 : Int32) (own_k1 (1 : Int32) (2 : Int32) c1 (1 : Int32) (own_k1 (2 : Int32) (2 : Int32) c2 (2 : Int32) (own_k1 (3 : Int32) (2 : Int32) c3 (3 : Int32) (2 : Int32))))) = (0 : Int32) from (own_hit (by decide) hv0)]; exact kt
      obtain ⟨T568, L568, X568, e568, N568, st568⟩ := own_t255_0 6 17 (2 : Int32) p1 p2 p3 p4 p5 p6 c0 c1 c2 c3 (own_bad p6) ar ob fo aa t2 (fun j => ([] : List Int32).getD j 0) cs vf X563 hx hZ hw hby hml hown (by decide) (by decide) rfl N563 Zs564 SC OL_564 hcs SF hvf E4 Fc4 Fv4 V4 
      have R569 : ∀ tg, Steps p.tables e below (T568.setTop (mkF m 348 #[vI p1, vI p2, vI p3, vI p4, vI p5, vI p6, vI c0, vI c1, vI c2, vI c3, vI (2 : Int32), vI (own_bad p6), vR ar, vR ob, vR fo, vR aa, vI (0 : Int32)] [(.int (1 : Int32))])) tg → Steps p.tables e below (s₁.setTop (mkF m 0 #[vI p1, vI p2, vI p3, vI p4, vI p5, vI p6, .unset, .unset, .unset, .unset, .unset, .unset, .unset, .unset, .unset, .unset, .unset] [])) tg := by
        intro tg kt
        refine R567 _ ?_
        refine st568 _ ?_
        exact kt
      clear R567 st568
      obtain ⟨fs, hr, hrun, hended, hR⟩ := Stand.leaveW (s := s) (vm₁ := T563.vm) X568 S563 (by rw [e568]; exact (Nat.le_refl T563.heap.size)) (v := some (.int (1 : Int32))) (fun h => by rw [Bd.returns] at h; cases h)
      refine ⟨_, _, pre0 _ (R569 _ ?_), hrun, hended, _, _, rfl, ?_, hR.1, hR.2.1, hR.2.2.1, hR.2.2.2.mono (by decide) (by decide)⟩
      · exact retN X568 hx (t := .boolean) Bd.returns (by simp) (hb hby at_348) hr
      · show Q_rm_law Z p1 p2 p3 p4 p5 p6 cs vf h0 n0 _ T568.heap _
        rw [e568]
        exact ⟨rfl, N568⟩
    · by_cases hv1 : c1 = (94 : Int32)
      · obtain ⟨cq570, kq570, q570a, q570b, q570c⟩ := isOf hZ rfl E3
        obtain ⟨_, _, ⟨T570, L570, k570, n570⟩, -, X570, ⟨Lc570, hQ570, l570, y570, z570⟩, st570⟩ := X560.virtualBack hx (y := (⟨"com/example/travessia/travessia/isis/IsisField", "leadingText", "()Ljava/lang/String;"⟩ : MethodName)) (z := (⟨"com/example/travessia/travessia/isis/IsisField", "leadingText", "()Ljava/lang/String;"⟩ : MethodName)) hown (mvT hZ (hw _ (List.mem_of_getElem? (i := 53) rfl))) (mvT hZ (hw _ (List.mem_of_getElem? (i := 54) rfl))) (notFace_of_selects (args := #[]) (mvT hZ (hw _ (List.mem_of_getElem? (i := 56) rfl)))) (mvT hZ (hw _ (List.mem_of_getElem? (i := 56) rfl))) (mvT hZ (hw _ (List.mem_of_getElem? (i := 55) rfl))) (by decide) (backOf (W := 0) (rm_ltB l Z a0 hw [] fo ob tb 1 2 (fun j => own_bv ((own_G c0 c1 c2 c3) j)) cs vf T560.heap n0 Zs561 (by decide) (by decide) (by decide) (Or.inr (Or.inr (Or.inl rfl))) SC OL_561 hcs SF hvf E_ob_561 FcS_561 FvS_561 VS_561 E3 Fd3 (own_ixk_2_1 (fun j => own_bv ((own_G c0 c1 c2 c3) j)) (fun q => hv0 (b0.mp q)) (b1.mpr hv1))) hZ (hw _ (List.mem_of_getElem? (i := 57) rfl)) (hw _ (List.mem_of_getElem? (i := 37) rfl)) (by decide) (by decide)) q570a q570c (g := (mkF m 183 #[vI p1, vI p2, vI p3, vI p4, vI p5, vI p6, vI c0, vI c1, vI c2, vI c3, vI (2 : Int32), vI (own_bad p6), vR ar, vR ob, vR fo, .unset, .unset] [(.ref fo)])) rfl (by rw [hml]; rfl) (Steps.refl _) (argsL := []) (rest := []) (lenOf pd_24 rfl) rfl (by show 2 * 0 + _ ≤ _; exact Nat.le_of_eq rfl) (hb hby at_183) (fun _ _ => ⟨rfl, rfl, (by decide : 4 + 2 ≤ _), (by decide : 13 + 8 ≤ _)⟩)
        dsimp only [Pt.U, Pt.locs, Pt.cells, Pt.slots] at X570 l570 y570 z570 st570 hQ570
        rw [l570, y570, z570] at X570
        obtain ⟨aa, t2, rfl, N570q, K570, E4, Fc4, Fv4, V4⟩ := hQ570
        have N570 := Fr.app N560 N570q
        have OL_571 := OL_561.keep K570 (own_ge0)
        clear OL_561
        have Zs571 : n0 ≤ T570.heap.size := Nat.le_trans Zs561 K570.1
        have R572 : ∀ tg, Steps p.tables e below (T570.setTop (mkF m 188 #[vI p1, vI p2, vI p3, vI p4, vI p5, vI p6, vI c0, vI c1, vI c2, vI c3, vI (2 : Int32), vI (own_bad p6), vR ar, vR ob, vR fo, vR aa, .unset] [])) tg → Steps p.tables e below (s₁.setTop (mkF m 0 #[vI p1, vI p2, vI p3, vI p4, vI p5, vI p6, .unset, .unset, .unset, .unset, .unset, .unset, .unset, .unset, .unset, .unset, .unset] [])) tg := by
          intro tg kt
          refine R562 _ ?_
          refine st570.trans ?_
          show Steps p.tables e below (T570.setTop (mkF m 186 #[vI p1, vI p2, vI p3, vI p4, vI p5, vI p6, vI c0, vI c1, vI c2, vI c3, vI (2 : Int32), vI (own_bad p6), vR ar, vR ob, vR fo, .unset, .unset] [(.ref aa)])) _
          refine XS.astore X570.here hx rfl (hb hby at_186) rfl rfl (l' := #[vI p1, vI p2, vI p3, vI p4, vI p5, vI p6, vI c0, vI c1, vI c2, vI c3, vI (2 : Int32), vI (own_bad p6), vR ar, vR ob, vR fo, vR aa, .unset]) rfl ?_
          exact kt
        clear R562 st570
        have R573 : ∀ tg, Steps p.tables e below (T570.setTop (mkF m 255 #[vI p1, vI p2, vI p3, vI p4, vI p5, vI p6, vI c0, vI c1, vI c2, vI c3, vI (2 : Int32), vI (own_bad p6), vR ar, vR ob, vR fo, vR aa, vI (own_k1 (0 : Int32) (2 : Int32) c0 (0 : Int32) (own_k1 (1 : Int32) (2 : Int32) c1 (1 : Int32) (own_k1 (2 : Int32) (2 : Int32) c2 (2 : Int32) (own_k1 (3 : Int32) (2 : Int32) c3 (3 : Int32) (2 : Int32)))))] [])) tg → Steps p.tables e below (s₁.setTop (mkF m 0 #[vI p1, vI p2, vI p3, vI p4, vI p5, vI p6, .unset, .unset, .unset, .unset, .unset, .unset, .unset, .unset, .unset, .unset, .unset] [])) tg := fun tg kt => R572 tg (own_t188 6 21 (2 : Int32) p1 p2 p3 p4 p5 p6 c0 c1 c2 c3 (own_bad p6) ar ob fo aa X570 hx hZ hw hby hml hown rfl N570 tg kt)
        have R574 : ∀ tg, Steps p.tables e below (T570.setTop (mkF m 255 #[vI p1, vI p2, vI p3, vI p4, vI p5, vI p6, vI c0, vI c1, vI c2, vI c3, vI (2 : Int32), vI (own_bad p6), vR ar, vR ob, vR fo, vR aa, vI (1 : Int32)] [])) tg → Steps p.tables e below (s₁.setTop (mkF m 0 #[vI p1, vI p2, vI p3, vI p4, vI p5, vI p6, .unset, .unset, .unset, .unset, .unset, .unset, .unset, .unset, .unset, .unset, .unset] [])) tg := by intro tg kt; refine R573 tg ?_; rw [show (own_k1 (0 : Int32) (2 : Int32) c0 (0 : Int32) (own_k1 (1 : Int32) (2 : Int32) c1 (1 : Int32) (own_k1 (2 : Int32) (2 : Int32) c2 (2 : Int32) (own_k1 (3 : Int32) (2 : Int32) c3 (3 : Int32) (2 : Int32))))) = (1 : Int32) from ((own_miss hv0).trans (own_hit (by decide) hv1))]; exact kt
        obtain ⟨T575, L575, X575, e575, N575, st575⟩ := own_t255_1 6 21 (2 : Int32) p1 p2 p3 p4 p5 p6 c0 c1 c2 c3 (own_bad p6) ar ob fo aa t2 (fun j => own_bv ((own_G c0 c1 c2 c3) j)) cs vf X570 hx hZ hw hby hml hown (by decide) (by decide) rfl N570 Zs571 SC OL_571 hcs SF hvf E4 Fc4 Fv4 V4 q0
        have R576 : ∀ tg, Steps p.tables e below (T575.setTop (mkF m 348 #[vI p1, vI p2, vI p3, vI p4, vI p5, vI p6, vI c0, vI c1, vI c2, vI c3, vI (2 : Int32), vI (own_bad p6), vR ar, vR ob, vR fo, vR aa, vI (1 : Int32)] [(.int (1 : Int32))])) tg → Steps p.tables e below (s₁.setTop (mkF m 0 #[vI p1, vI p2, vI p3, vI p4, vI p5, vI p6, .unset, .unset, .unset, .unset, .unset, .unset, .unset, .unset, .unset, .unset, .unset] [])) tg := by
          intro tg kt
          refine R574 _ ?_
          refine st575 _ ?_
          exact kt
        clear R574 st575
        obtain ⟨fs, hr, hrun, hended, hR⟩ := Stand.leaveW (s := s) (vm₁ := s.vm) X575 hS0 (Nat.zero_le _) (v := some (.int (1 : Int32))) (fun h => by rw [Bd.returns] at h; cases h)
        refine ⟨_, _, pre0 _ (R576 _ ?_), hrun, hended, _, _, rfl, ?_, hR.1, hR.2.1, hR.2.2.1, hR.2.2.2.mono (by decide) (by decide)⟩
        · exact retN X575 hx (t := .boolean) Bd.returns (by simp) (hb hby at_348) hr
        · show Q_rm_law Z p1 p2 p3 p4 p5 p6 cs vf h0 n0 _ T575.heap _
          rw [e575]
          exact ⟨rfl, N575⟩
      · obtain ⟨cq577, kq577, q577a, q577b, q577c⟩ := isOf hZ rfl E3
        obtain ⟨_, _, ⟨T577, L577, k577, n577⟩, -, X577, ⟨Lc577, hQ577, l577, y577, z577⟩, st577⟩ := X560.virtualBack hx (y := (⟨"com/example/travessia/travessia/isis/IsisField", "leadingText", "()Ljava/lang/String;"⟩ : MethodName)) (z := (⟨"com/example/travessia/travessia/isis/IsisField", "leadingText", "()Ljava/lang/String;"⟩ : MethodName)) hown (mvT hZ (hw _ (List.mem_of_getElem? (i := 53) rfl))) (mvT hZ (hw _ (List.mem_of_getElem? (i := 54) rfl))) (notFace_of_selects (args := #[]) (mvT hZ (hw _ (List.mem_of_getElem? (i := 56) rfl)))) (mvT hZ (hw _ (List.mem_of_getElem? (i := 56) rfl))) (mvT hZ (hw _ (List.mem_of_getElem? (i := 55) rfl))) (by decide) (backOf (W := 0) (rm_ltA l Z a0 hw [] fo ob tb 2 (fun j => own_bv ((own_G c0 c1 c2 c3) j)) cs T560.heap n0 Zs561 (Or.inr (Or.inr (Or.inl rfl))) SC OL_561 hcs E_ob_561 FcS_561 FvS_561 VS_561 E3 Fd3 (own_ixk_2_2 (fun j => own_bv ((own_G c0 c1 c2 c3) j)) (fun q => hv0 (b0.mp q)) (fun q => hv1 (b1.mp q)))) hZ (hw _ (List.mem_of_getElem? (i := 57) rfl)) (hw _ (List.mem_of_getElem? (i := 37) rfl)) (by decide) (by decide)) q577a q577c (g := (mkF m 183 #[vI p1, vI p2, vI p3, vI p4, vI p5, vI p6, vI c0, vI c1, vI c2, vI c3, vI (2 : Int32), vI (own_bad p6), vR ar, vR ob, vR fo, .unset, .unset] [(.ref fo)])) rfl (by rw [hml]; rfl) (Steps.refl _) (argsL := []) (rest := []) (lenOf pd_24 rfl) rfl (by show 2 * 0 + _ ≤ _; exact Nat.le_of_eq rfl) (hb hby at_183) (fun _ _ => ⟨rfl, rfl, (by decide : 4 + 0 ≤ _), (by decide : 13 + 0 ≤ _)⟩)
        dsimp only [Pt.U, Pt.locs, Pt.cells, Pt.slots] at X577 l577 y577 z577 st577 hQ577
        rw [l577, y577, z577] at X577
        obtain ⟨rfl, N577q, hh577⟩ := hQ577
        have N577 := Fr.app N560 N577q
        have R578 : ∀ tg, Steps p.tables e below (T577.setTop (mkF m 188 #[vI p1, vI p2, vI p3, vI p4, vI p5, vI p6, vI c0, vI c1, vI c2, vI c3, vI (2 : Int32), vI (own_bad p6), vR ar, vR ob, vR fo, vR ob, .unset] [])) tg → Steps p.tables e below (s₁.setTop (mkF m 0 #[vI p1, vI p2, vI p3, vI p4, vI p5, vI p6, .unset, .unset, .unset, .unset, .unset, .unset, .unset, .unset, .unset, .unset, .unset] [])) tg := by
          intro tg kt
          refine R562 _ ?_
          refine st577.trans ?_
          show Steps p.tables e below (T577.setTop (mkF m 186 #[vI p1, vI p2, vI p3, vI p4, vI p5, vI p6, vI c0, vI c1, vI c2, vI c3, vI (2 : Int32), vI (own_bad p6), vR ar, vR ob, vR fo, .unset, .unset] [(.ref ob)])) _
          refine XS.astore X577.here hx rfl (hb hby at_186) rfl rfl (l' := #[vI p1, vI p2, vI p3, vI p4, vI p5, vI p6, vI c0, vI c1, vI c2, vI c3, vI (2 : Int32), vI (own_bad p6), vR ar, vR ob, vR fo, vR ob, .unset]) rfl ?_
          exact kt
        clear R562 st577
        have R579 : ∀ tg, Steps p.tables e below (T577.setTop (mkF m 255 #[vI p1, vI p2, vI p3, vI p4, vI p5, vI p6, vI c0, vI c1, vI c2, vI c3, vI (2 : Int32), vI (own_bad p6), vR ar, vR ob, vR fo, vR ob, vI (own_k1 (0 : Int32) (2 : Int32) c0 (0 : Int32) (own_k1 (1 : Int32) (2 : Int32) c1 (1 : Int32) (own_k1 (2 : Int32) (2 : Int32) c2 (2 : Int32) (own_k1 (3 : Int32) (2 : Int32) c3 (3 : Int32) (2 : Int32)))))] [])) tg → Steps p.tables e below (s₁.setTop (mkF m 0 #[vI p1, vI p2, vI p3, vI p4, vI p5, vI p6, .unset, .unset, .unset, .unset, .unset, .unset, .unset, .unset, .unset, .unset, .unset] [])) tg := fun tg kt => R578 tg (own_t188 4 13 (2 : Int32) p1 p2 p3 p4 p5 p6 c0 c1 c2 c3 (own_bad p6) ar ob fo ob X577 hx hZ hw hby hml hown hh577 N577 tg kt)
        have R580 : ∀ tg, Steps p.tables e below (T577.setTop (mkF m 255 #[vI p1, vI p2, vI p3, vI p4, vI p5, vI p6, vI c0, vI c1, vI c2, vI c3, vI (2 : Int32), vI (own_bad p6), vR ar, vR ob, vR fo, vR ob, vI (2 : Int32)] [])) tg → Steps p.tables e below (s₁.setTop (mkF m 0 #[vI p1, vI p2, vI p3, vI p4, vI p5, vI p6, .unset, .unset, .unset, .unset, .unset, .unset, .unset, .unset, .unset, .unset, .unset] [])) tg := by intro tg kt; refine R579 tg ?_; rw [show (own_k1 (0 : Int32) (2 : Int32) c0 (0 : Int32) (own_k1 (1 : Int32) (2 : Int32) c1 (1 : Int32) (own_k1 (2 : Int32) (2 : Int32) c2 (2 : Int32) (own_k1 (3 : Int32) (2 : Int32) c3 (3 : Int32) (2 : Int32))))) = (2 : Int32) from ((own_miss hv0).trans ((own_miss hv1).trans ((own_out (by decide)).trans ((own_out (by decide)).trans rfl))))]; exact kt
        obtain ⟨T581, L581, X581, e581, N581, st581⟩ := own_t255_2 4 13 (2 : Int32) p1 p2 p3 p4 p5 p6 c0 c1 c2 c3 (own_bad p6) ar ob fo ob tb (fun j => own_bv ((own_G c0 c1 c2 c3) j)) cs vf X577 hx hZ hw hby hml hown (by decide) (by decide) hh577 N577 Zs561 SC OL_561 hcs SF hvf E_ob_561 FcS_561 FvS_561 VS_561 q0 q1
        have R582 : ∀ tg, Steps p.tables e below (T581.setTop (mkF m 348 #[vI p1, vI p2, vI p3, vI p4, vI p5, vI p6, vI c0, vI c1, vI c2, vI c3, vI (2 : Int32), vI (own_bad p6), vR ar, vR ob, vR fo, vR ob, vI (2 : Int32)] [(.int (1 : Int32))])) tg → Steps p.tables e below (s₁.setTop (mkF m 0 #[vI p1, vI p2, vI p3, vI p4, vI p5, vI p6, .unset, .unset, .unset, .unset, .unset, .unset, .unset, .unset, .unset, .unset, .unset] [])) tg := by
          intro tg kt
          refine R580 _ ?_
          refine st581 _ ?_
          exact kt
        clear R580 st581
        obtain ⟨fs, hr, hrun, hended, hR⟩ := Stand.leaveW (s := s) (vm₁ := s.vm) X581 hS0 (Nat.zero_le _) (v := some (.int (1 : Int32))) (fun h => by rw [Bd.returns] at h; cases h)
        refine ⟨_, _, pre0 _ (R582 _ ?_), hrun, hended, _, _, rfl, ?_, hR.1, hR.2.1, hR.2.2.1, hR.2.2.2.mono (by decide) (by decide)⟩
        · exact retN X581 hx (t := .boolean) Bd.returns (by simp) (hb hby at_348) hr
        · show Q_rm_law Z p1 p2 p3 p4 p5 p6 cs vf h0 n0 _ T581.heap _
          rw [e581]
          exact ⟨rfl, N581⟩
  · have R583 : ∀ tg, Steps p.tables e below (T482.setTop (mkF m 47 #[vI p1, vI p2, vI p3, vI p4, vI p5, vI p6, vI c0, vI c1, vI c2, vI c3, vI (3 : Int32), vI (own_bad p6), .unset, .unset, .unset, .unset, .unset] [(.int (3 : Int32))])) tg → Steps p.tables e below (s₁.setTop (mkF m 0 #[vI p1, vI p2, vI p3, vI p4, vI p5, vI p6, .unset, .unset, .unset, .unset, .unset, .unset, .unset, .unset, .unset, .unset, .unset] [])) tg := by intro tg kt; refine R492 tg ?_; rw [hn]; exact kt
    have R584 : ∀ tg, Steps p.tables e below (T482.setTop (mkF m 108 #[vI p1, vI p2, vI p3, vI p4, vI p5, vI p6, vI c0, vI c1, vI c2, vI c3, vI (3 : Int32), vI (own_bad p6), .unset, .unset, .unset, .unset, .unset] [(.int (3 : Int32))])) tg → Steps p.tables e below (s₁.setTop (mkF m 0 #[vI p1, vI p2, vI p3, vI p4, vI p5, vI p6, .unset, .unset, .unset, .unset, .unset, .unset, .unset, .unset, .unset, .unset, .unset] [])) tg := by
      intro tg kt
      refine R583 _ ?_
      show Steps p.tables e below (T482.setTop (mkF m 47 #[vI p1, vI p2, vI p3, vI p4, vI p5, vI p6, vI c0, vI c1, vI c2, vI c3, vI (3 : Int32), vI (own_bad p6), .unset, .unset, .unset, .unset, .unset] [(.int (3 : Int32))])) _
      refine XS.ifYes X482.here hx rfl (pc0 := 47) (pc' := 58) rfl (hb hby at_47) rfl ((if0 _ _).trans (feq (by decide : ¬ ((3 : Int32) = (0 : Int32)))).2) (by decide) (by decide) ?_
      refine XS.iload X482.here hx rfl (hb hby at_58) rfl ?_
      refine XS.iconst X482.here hx rfl (hb hby at_60) ?_
      show Steps p.tables e below (T482.setTop (mkF m 61 #[vI p1, vI p2, vI p3, vI p4, vI p5, vI p6, vI c0, vI c1, vI c2, vI c3, vI (3 : Int32), vI (own_bad p6), .unset, .unset, .unset, .unset, .unset] [(.int (1 : Int32)), (.int (3 : Int32))])) _
      refine XS.icmpYes X482.here hx rfl (pc0 := 61) (pc' := 77) rfl (hb hby at_61) rfl (feq (by decide : ¬ ((3 : Int32) = (1 : Int32)))).2 (by decide) (by decide) ?_
      refine XS.iload X482.here hx rfl (hb hby at_77) rfl ?_
      refine XS.iconst X482.here hx rfl (hb hby at_79) ?_
      show Steps p.tables e below (T482.setTop (mkF m 80 #[vI p1, vI p2, vI p3, vI p4, vI p5, vI p6, vI c0, vI c1, vI c2, vI c3, vI (3 : Int32), vI (own_bad p6), .unset, .unset, .unset, .unset, .unset] [(.int (2 : Int32)), (.int (3 : Int32))])) _
      refine XS.icmpYes X482.here hx rfl (pc0 := 80) (pc' := 101) rfl (hb hby at_80) rfl (feq (by decide : ¬ ((3 : Int32) = (2 : Int32)))).2 (by decide) (by decide) ?_
      refine XS.iload X482.here hx rfl (hb hby at_101) rfl ?_
      refine XS.iconst X482.here hx rfl (hb hby at_103) ?_
      show Steps p.tables e below (T482.setTop (mkF m 104 #[vI p1, vI p2, vI p3, vI p4, vI p5, vI p6, vI c0, vI c1, vI c2, vI c3, vI (3 : Int32), vI (own_bad p6), .unset, .unset, .unset, .unset, .unset] [(.int (3 : Int32)), (.int (3 : Int32))])) _
      refine XS.icmpNo X482.here hx rfl (hb hby at_104) rfl (teq (rfl : (3 : Int32) = (3 : Int32))).2 ?_
      refine XS.iconst X482.here hx rfl (hb hby at_107) ?_
      exact kt
    clear R583
    obtain ⟨T585, h585, k585, X585, e585, E585, A585, st585⟩ := newP X482 hx hZ (hw _ (List.mem_of_getElem? (i := 5) rfl)) hh482 (g := (mkF m 108 #[vI p1, vI p2, vI p3, vI p4, vI p5, vI p6, vI c0, vI c1, vI c2, vI c3, vI (3 : Int32), vI (own_bad p6), .unset, .unset, .unset, .unset, .unset] [(.int (3 : Int32))])) rfl (hb hby at_108) rfl (by decide) (cap := 3) (by decide) (by decide) (by decide) (by decide)
    obtain ⟨ar, g585⟩ : ∃ z, z = h0.size := ⟨_, rfl⟩
    rw [← g585] at A585 st585
    have g_ar : n0 ≤ ar := Nat.le_trans Z0 (Nat.le_of_eq g585.symm)
    have OL_585 := OL.ext E585
    have Zs585 : n0 ≤ h585.size := Nat.le_trans Z0 E585.1
    have VC : AV Z h585 ar .char 3 (fun _ => defaultValue .char) := AV.new A585 rfl rfl
    have R586 : ∀ tg, Steps p.tables e below (T585.setTop (mkF m 114 #[vI p1, vI p2, vI p3, vI p4, vI p5, vI p6, vI c0, vI c1, vI c2, vI c3, vI (3 : Int32), vI (own_bad p6), .unset, .unset, .unset, .unset, .unset] [(.int c0), (.int (0 : Int32)), (.ref ar), (.ref ar)])) tg → Steps p.tables e below (s₁.setTop (mkF m 0 #[vI p1, vI p2, vI p3, vI p4, vI p5, vI p6, .unset, .unset, .unset, .unset, .unset, .unset, .unset, .unset, .unset, .unset, .unset] [])) tg := by
      intro tg kt
      refine R584 _ ?_
      refine st585 _ ?_
      refine XS.dup X585.here hx rfl (hb hby at_110) rfl rfl ?_
      show Steps p.tables e below (T585.setTop (mkF m 111 #[vI p1, vI p2, vI p3, vI p4, vI p5, vI p6, vI c0, vI c1, vI c2, vI c3, vI (3 : Int32), vI (own_bad p6), .unset, .unset, .unset, .unset, .unset] [(.ref ar), (.ref ar)])) _
      refine XS.iconst X585.here hx rfl (hb hby at_111) ?_
      refine XS.iload X585.here hx rfl (hb hby at_112) rfl ?_
      exact kt
    clear R584 st585
    obtain ⟨cl587, Ar587, hin587, -⟩ := VC.at (j := (0 : Int32)) (k := 0) (by decide) rfl (by decide)
    obtain ⟨T588, h588, X588, e588, W588, st588⟩ := stC X585 hx hZ e585 Ar587 (j := (0 : Int32)) hin587 (g := (mkF m 114 #[vI p1, vI p2, vI p3, vI p4, vI p5, vI p6, vI c0, vI c1, vI c2, vI c3, vI (3 : Int32), vI (own_bad p6), .unset, .unset, .unset, .unset, .unset] [(.int c0), (.int (0 : Int32)), (.ref ar), (.ref ar)])) rfl rfl (hb hby at_114)
    have N588 := Fr.snoc X588 N482 g_ar
    rw [show ((0 : Int32) : Int32).toNatClampNeg = 0 from rfl] at W588
    have VC_588 := VC.set W588 (fits_nar_char _)
    have OL_588 := OL_585.wr W588 g_ar
    clear OL_585
    have Zs588 : n0 ≤ h588.size := Nat.le_trans Zs585 (Keep.of_wr W588).1
    have R589 : ∀ tg, Steps p.tables e below (T588.setTop (mkF m 119 #[vI p1, vI p2, vI p3, vI p4, vI p5, vI p6, vI c0, vI c1, vI c2, vI c3, vI (3 : Int32), vI (own_bad p6), .unset, .unset, .unset, .unset, .unset] [(.int c1), (.int (1 : Int32)), (.ref ar), (.ref ar)])) tg → Steps p.tables e below (s₁.setTop (mkF m 0 #[vI p1, vI p2, vI p3, vI p4, vI p5, vI p6, .unset, .unset, .unset, .unset, .unset, .unset, .unset, .unset, .unset, .unset, .unset] [])) tg := by
      intro tg kt
      refine R586 _ ?_
      refine st588 _ ?_
      refine XS.dup X588.here hx rfl (hb hby at_115) rfl rfl ?_
      show Steps p.tables e below (T588.setTop (mkF m 116 #[vI p1, vI p2, vI p3, vI p4, vI p5, vI p6, vI c0, vI c1, vI c2, vI c3, vI (3 : Int32), vI (own_bad p6), .unset, .unset, .unset, .unset, .unset] [(.ref ar), (.ref ar)])) _
      refine XS.iconst X588.here hx rfl (hb hby at_116) ?_
      refine XS.iload X588.here hx rfl (hb hby at_117) rfl ?_
      exact kt
    clear R586 st588
    obtain ⟨cl590, Ar590, hin590, -⟩ := VC_588.at (j := (1 : Int32)) (k := 1) (by decide) rfl (by decide)
    obtain ⟨T591, h591, X591, e591, W591, st591⟩ := stC X588 hx hZ e588 Ar590 (j := (1 : Int32)) hin590 (g := (mkF m 119 #[vI p1, vI p2, vI p3, vI p4, vI p5, vI p6, vI c0, vI c1, vI c2, vI c3, vI (3 : Int32), vI (own_bad p6), .unset, .unset, .unset, .unset, .unset] [(.int c1), (.int (1 : Int32)), (.ref ar), (.ref ar)])) rfl rfl (hb hby at_119)
    have N591 := Fr.snoc X591 N588 g_ar
    rw [show ((1 : Int32) : Int32).toNatClampNeg = 1 from rfl] at W591
    have VC_591 := VC_588.set W591 (fits_nar_char _)
    have OL_591 := OL_588.wr W591 g_ar
    clear OL_588
    have Zs591 : n0 ≤ h591.size := Nat.le_trans Zs588 (Keep.of_wr W591).1
    have R592 : ∀ tg, Steps p.tables e below (T591.setTop (mkF m 124 #[vI p1, vI p2, vI p3, vI p4, vI p5, vI p6, vI c0, vI c1, vI c2, vI c3, vI (3 : Int32), vI (own_bad p6), .unset, .unset, .unset, .unset, .unset] [(.int c2), (.int (2 : Int32)), (.ref ar), (.ref ar)])) tg → Steps p.tables e below (s₁.setTop (mkF m 0 #[vI p1, vI p2, vI p3, vI p4, vI p5, vI p6, .unset, .unset, .unset, .unset, .unset, .unset, .unset, .unset, .unset, .unset, .unset] [])) tg := by
      intro tg kt
      refine R589 _ ?_
      refine st591 _ ?_
      refine XS.dup X591.here hx rfl (hb hby at_120) rfl rfl ?_
      show Steps p.tables e below (T591.setTop (mkF m 121 #[vI p1, vI p2, vI p3, vI p4, vI p5, vI p6, vI c0, vI c1, vI c2, vI c3, vI (3 : Int32), vI (own_bad p6), .unset, .unset, .unset, .unset, .unset] [(.ref ar), (.ref ar)])) _
      refine XS.iconst X591.here hx rfl (hb hby at_121) ?_
      refine XS.iload X591.here hx rfl (hb hby at_122) rfl ?_
      exact kt
    clear R589 st591
    obtain ⟨cl593, Ar593, hin593, -⟩ := VC_591.at (j := (2 : Int32)) (k := 2) (by decide) rfl (by decide)
    obtain ⟨T594, h594, X594, e594, W594, st594⟩ := stC X591 hx hZ e591 Ar593 (j := (2 : Int32)) hin593 (g := (mkF m 124 #[vI p1, vI p2, vI p3, vI p4, vI p5, vI p6, vI c0, vI c1, vI c2, vI c3, vI (3 : Int32), vI (own_bad p6), .unset, .unset, .unset, .unset, .unset] [(.int c2), (.int (2 : Int32)), (.ref ar), (.ref ar)])) rfl rfl (hb hby at_124)
    have N594 := Fr.snoc X594 N591 g_ar
    rw [show ((2 : Int32) : Int32).toNatClampNeg = 2 from rfl] at W594
    have VC_594 := VC_591.set W594 (fits_nar_char _)
    have OL_594 := OL_591.wr W594 g_ar
    clear OL_591
    have Zs594 : n0 ≤ h594.size := Nat.le_trans Zs591 (Keep.of_wr W594).1
    have R595 : ∀ tg, Steps p.tables e below (T594.setTop (mkF m 155 #[vI p1, vI p2, vI p3, vI p4, vI p5, vI p6, vI c0, vI c1, vI c2, vI c3, vI (3 : Int32), vI (own_bad p6), vR ar, .unset, .unset, .unset, .unset] [])) tg → Steps p.tables e below (s₁.setTop (mkF m 0 #[vI p1, vI p2, vI p3, vI p4, vI p5, vI p6, .unset, .unset, .unset, .unset, .unset, .unset, .unset, .unset, .unset, .unset, .unset] [])) tg := by
      intro tg kt
      refine R592 _ ?_
      refine st594 _ ?_
      show Steps p.tables e below (T594.setTop (mkF m 125 #[vI p1, vI p2, vI p3, vI p4, vI p5, vI p6, vI c0, vI c1, vI c2, vI c3, vI (3 : Int32), vI (own_bad p6), .unset, .unset, .unset, .unset, .unset] [(.ref ar)])) _
      refine XS.astore X594.here hx rfl (hb hby at_125) rfl rfl (l' := #[vI p1, vI p2, vI p3, vI p4, vI p5, vI p6, vI c0, vI c1, vI c2, vI c3, vI (3 : Int32), vI (own_bad p6), vR ar, .unset, .unset, .unset, .unset]) rfl ?_
      show Steps p.tables e below (T594.setTop (mkF m 127 #[vI p1, vI p2, vI p3, vI p4, vI p5, vI p6, vI c0, vI c1, vI c2, vI c3, vI (3 : Int32), vI (own_bad p6), vR ar, .unset, .unset, .unset, .unset] [])) _
      refine XS.goto X594.here hx rfl (pc0 := 127) (pc' := 155) rfl (hb hby at_127) (by decide) (by decide) ?_
      exact kt
    clear R592 st594
    obtain ⟨T596, h596, X596, e596, E596, A596, D596, -, st596⟩ := newO X594 hx hZ hown (hw _ (List.mem_of_getElem? (i := 6) rfl)) (hw _ (List.mem_of_getElem? (i := 7) rfl)) (hw _ (List.mem_of_getElem? (i := 8) rfl)) e594 (g := (mkF m 155 #[vI p1, vI p2, vI p3, vI p4, vI p5, vI p6, vI c0, vI c1, vI c2, vI c3, vI (3 : Int32), vI (own_bad p6), vR ar, .unset, .unset, .unset, .unset] [])) rfl (hb hby at_155) (by decide) (by decide)
    obtain ⟨ob, g596⟩ : ∃ z, z = h594.size := ⟨_, rfl⟩
    rw [← g596] at A596 D596 st596
    have E_ob := A596
    have g_ob : n0 ≤ ob := Nat.le_trans Zs594 (Nat.le_of_eq g596.symm)
    have ne_ar_ob : ar ≠ ob := Nat.ne_of_lt (Nat.lt_of_lt_of_le VC_594.lt (Nat.le_of_eq g596.symm))
    have OL_596 := OL_594.ext E596
    have VC_596 := VC_594.ext E596
    clear OL_594 VC_594
    have Zs596 : n0 ≤ h596.size := Nat.le_trans Zs594 E596.1
    have Fv : Fld Z h596 ob "java/lang/String" "value" "[B" .null := D596 (Or.inr (hw _ (List.mem_of_getElem? (i := 34) rfl))) (ty := (.array .byte)) (by decide)
    have Fc : Fld Z h596 ob "java/lang/String" "coder" "B" (.int (0 : Int32)) := D596 (Or.inr (hw _ (List.mem_of_getElem? (i := 32) rfl))) (ty := .byte) (by decide)
    have VCz : AV Z h596 ar .char 3 (fun j => .int ((own_G c0 c1 c2 c3) j)) := AV.congr VC_596 (own_sc3 c0 c1 c2 c3 _ r0 r1 r2)
    have R597 : ∀ tg, Steps p.tables e below (T596.setTop (mkF m 161 #[vI p1, vI p2, vI p3, vI p4, vI p5, vI p6, vI c0, vI c1, vI c2, vI c3, vI (3 : Int32), vI (own_bad p6), vR ar, .unset, .unset, .unset, .unset] [(.ref ar), (.ref ob), (.ref ob)])) tg → Steps p.tables e below (s₁.setTop (mkF m 0 #[vI p1, vI p2, vI p3, vI p4, vI p5, vI p6, .unset, .unset, .unset, .unset, .unset, .unset, .unset, .unset, .unset, .unset, .unset] [])) tg := by
      intro tg kt
      refine R595 _ ?_
      refine st596 _ ?_
      refine XS.dup X596.here hx rfl (hb hby at_158) rfl rfl ?_
      refine XS.aload X596.here hx rfl (hb hby at_159) rfl rfl ?_
      exact kt
    clear R595 st596
    obtain ⟨_, _, ⟨T598, L598, k598, n598⟩, -, X598, ⟨Lc598, hQ598, l598, y598, z598⟩, st598⟩ := X596.specialBack hx (y := (⟨"java/lang/String", "<init>", "([C)V"⟩ : MethodName)) rfl hown (mvT hZ (hw _ (List.mem_of_getElem? (i := 9) rfl))) (mvT hZ (hw _ (List.mem_of_getElem? (i := 10) rfl))) (mvT hZ (hw _ (List.mem_of_getElem? (i := 11) rfl))) (by decide) (backOf (W := 1) (rm_in1 l Z a0 hw [] ob ar 3 (own_G c0 c1 c2 c3) cs h596 n0 Zs596 (Or.inr (Or.inr (Or.inl rfl))) VCz (own_Gle _ _ _ _ d0 d1 d2 d3) SC OL_596 hcs (Ne.symm ne_ar_ob) E_ob Fv Fc g_ob) hZ (hw _ (List.mem_of_getElem? (i := 11) rfl)) (hw _ (List.mem_of_getElem? (i := 8) rfl)) (by decide) (by decide)) (g := (mkF m 161 #[vI p1, vI p2, vI p3, vI p4, vI p5, vI p6, vI c0, vI c1, vI c2, vI c3, vI (3 : Int32), vI (own_bad p6), vR ar, .unset, .unset, .unset, .unset] [(.ref ar), (.ref ob), (.ref ob)])) rfl (by rw [hml]; rfl) (Steps.refl _) (a := ob) (argsL := [(.ref ar)]) (rest := [(.ref ob)]) (lenOf pd_22 rfl) rfl (by show 2 * 0 + _ ≤ _; exact Nat.le_of_eq rfl) (hb hby at_161) (fun _ _ => ⟨rfl, e596, (by decide : 2 + 1 ≤ _), (by decide : 7 + 4 ≤ _)⟩)
    dsimp only [Pt.U, Pt.locs, Pt.cells, Pt.slots] at X598 l598 y598 z598 st598 hQ598
    rw [l598, y598, z598] at X598
    obtain ⟨tb, rfl, N598q, szt, K598, E2, Fc2, Fv2, V2⟩ := hQ598
    have N598 := Fr.app N594 N598q
    have OL_599 := OL_596.keep K598 (own_ge1 g_ob)
    clear OL_596
    have Zs599 : n0 ≤ T598.heap.size := Nat.le_trans Zs596 K598.1
    have R600 : ∀ tg, Steps p.tables e below (T598.setTop (mkF m 166 #[vI p1, vI p2, vI p3, vI p4, vI p5, vI p6, vI c0, vI c1, vI c2, vI c3, vI (3 : Int32), vI (own_bad p6), vR ar, vR ob, .unset, .unset, .unset] [])) tg → Steps p.tables e below (s₁.setTop (mkF m 0 #[vI p1, vI p2, vI p3, vI p4, vI p5, vI p6, .unset, .unset, .unset, .unset, .unset, .unset, .unset, .unset, .unset, .unset, .unset] [])) tg := by
      intro tg kt
      refine R597 _ ?_
      refine st598.trans ?_
      show Steps p.tables e below (T598.setTop (mkF m 164 #[vI p1, vI p2, vI p3, vI p4, vI p5, vI p6, vI c0, vI c1, vI c2, vI c3, vI (3 : Int32), vI (own_bad p6), vR ar, .unset, .unset, .unset, .unset] [(.ref ob)])) _
      refine XS.astore X598.here hx rfl (hb hby at_164) rfl rfl (l' := #[vI p1, vI p2, vI p3, vI p4, vI p5, vI p6, vI c0, vI c1, vI c2, vI c3, vI (3 : Int32), vI (own_bad p6), vR ar, vR ob, .unset, .unset, .unset]) rfl ?_
      exact kt
    clear R597 st598
    obtain ⟨T601, h601, X601, e601, E601, A601, D601, -, st601⟩ := newO X598 hx hZ hown (hw _ (List.mem_of_getElem? (i := 35) rfl)) (hw _ (List.mem_of_getElem? (i := 36) rfl)) (hw _ (List.mem_of_getElem? (i := 37) rfl)) rfl (g := (mkF m 166 #[vI p1, vI p2, vI p3, vI p4, vI p5, vI p6, vI c0, vI c1, vI c2, vI c3, vI (3 : Int32), vI (own_bad p6), vR ar, vR ob, .unset, .unset, .unset] [])) rfl (hb hby at_166) (by decide) (by decide)
    obtain ⟨fo, g601⟩ : ∃ z, z = T598.heap.size := ⟨_, rfl⟩
    rw [← g601] at A601 D601 st601
    have E_fo := A601
    have g_fo : n0 ≤ fo := Nat.le_trans Zs599 (Nat.le_of_eq g601.symm)
    have ne_ob_fo : ob ≠ fo := Nat.ne_of_lt (Nat.lt_of_lt_of_le E2.lt (Nat.le_of_eq g601.symm))
    have ne_tb_fo : tb ≠ fo := Nat.ne_of_lt (Nat.lt_of_lt_of_le V2.lt (Nat.le_of_eq g601.symm))
    have OL_601 := OL_599.ext E601
    have E_ob_601 := E2.ext E601
    have FcS_601 := Fc2.ext E601
    have FvS_601 := Fv2.ext E601
    have VS_601 := V2.ext E601
    clear OL_599
    have Zs601 : n0 ≤ h601.size := Nat.le_trans Zs599 E601.1
    have Ft : Fld Z h601 fo "com/example/travessia/travessia/isis/IsisField" "tag" "I" (.int (0 : Int32)) := D601 (Or.inr (hw _ (List.mem_of_getElem? (i := 48) rfl))) (ty := .int) (by decide)
    have Fd : Fld Z h601 fo "com/example/travessia/travessia/isis/IsisField" "data" "Ljava/lang/String;" .null := D601 (Or.inr (hw _ (List.mem_of_getElem? (i := 50) rfl))) (ty := (.object "java/lang/String")) (by decide)
    have Fb : Fld Z h601 fo "com/example/travessia/travessia/isis/IsisField" "badEncoding" "Z" (.int (0 : Int32)) := D601 (Or.inr (hw _ (List.mem_of_getElem? (i := 52) rfl))) (ty := .boolean) (by decide)
    have R602 : ∀ tg, Steps p.tables e below (T601.setTop (mkF m 176 #[vI p1, vI p2, vI p3, vI p4, vI p5, vI p6, vI c0, vI c1, vI c2, vI c3, vI (3 : Int32), vI (own_bad p6), vR ar, vR ob, .unset, .unset, .unset] [(.int (own_bad p6)), (.ref ob), (.int p5), (.ref fo), (.ref fo)])) tg → Steps p.tables e below (s₁.setTop (mkF m 0 #[vI p1, vI p2, vI p3, vI p4, vI p5, vI p6, .unset, .unset, .unset, .unset, .unset, .unset, .unset, .unset, .unset, .unset, .unset] [])) tg := by
      intro tg kt
      refine R600 _ ?_
      refine st601 _ ?_
      refine XS.dup X601.here hx rfl (hb hby at_169) rfl rfl ?_
      refine XS.iload X601.here hx rfl (hb hby at_170) rfl ?_
      show Steps p.tables e below (T601.setTop (mkF m 172 #[vI p1, vI p2, vI p3, vI p4, vI p5, vI p6, vI c0, vI c1, vI c2, vI c3, vI (3 : Int32), vI (own_bad p6), vR ar, vR ob, .unset, .unset, .unset] [(.int p5), (.ref fo), (.ref fo)])) _
      refine XS.aload X601.here hx rfl (hb hby at_172) rfl rfl ?_
      refine XS.iload X601.here hx rfl (hb hby at_174) rfl ?_
      exact kt
    clear R600 st601
    obtain ⟨_, _, ⟨T603, L603, k603, n603⟩, -, X603, ⟨Lc603, hQ603, l603, y603, z603⟩, st603⟩ := X601.specialBack hx (y := (⟨"com/example/travessia/travessia/isis/IsisField", "<init>", "(ILjava/lang/String;Z)V"⟩ : MethodName)) rfl hown (mvT hZ (hw _ (List.mem_of_getElem? (i := 38) rfl))) (mvT hZ (hw _ (List.mem_of_getElem? (i := 39) rfl))) (mvT hZ (hw _ (List.mem_of_getElem? (i := 40) rfl))) (by decide) (backOf (W := 1) (rm_isi l Z a0 hw [] fo p5 ob (own_bad p6) h601 n0 Zs601 E_fo Ft Fd Fb g_fo (own_bad01 p6)) hZ (hw _ (List.mem_of_getElem? (i := 40) rfl)) (hw _ (List.mem_of_getElem? (i := 37) rfl)) (by decide) (by decide)) (g := (mkF m 176 #[vI p1, vI p2, vI p3, vI p4, vI p5, vI p6, vI c0, vI c1, vI c2, vI c3, vI (3 : Int32), vI (own_bad p6), vR ar, vR ob, .unset, .unset, .unset] [(.int (own_bad p6)), (.ref ob), (.int p5), (.ref fo), (.ref fo)])) rfl (by rw [hml]; rfl) (Steps.refl _) (a := fo) (argsL := [(.int p5), (.ref ob), (.int (own_bad p6))]) (rest := [(.ref fo)]) (lenOf pd_23 rfl) rfl (by show 2 * 0 + _ ≤ _; exact Nat.le_of_eq rfl) (hb hby at_176) (fun _ _ => ⟨rfl, e601, (by decide : 4 + 0 ≤ _), (by decide : 14 + 0 ≤ _)⟩)
    dsimp only [Pt.U, Pt.locs, Pt.cells, Pt.slots] at X603 l603 y603 z603 st603 hQ603
    rw [l603, y603, z603] at X603
    obtain ⟨rfl, N603q, K603, E3, Fd3⟩ := hQ603
    have N603 := Fr.app N598 N603q
    have OL_604 := OL_601.keep K603 (own_ge1 g_fo)
    have E_ob_604 := E_ob_601.keep K603
    have FcS_604 := FcS_601.keep K603 (own_notin1 ne_ob_fo)
    have FvS_604 := FvS_601.keep K603 (own_notin1 ne_ob_fo)
    have VS_604 := VS_601.keep K603 (own_notin1 ne_tb_fo)
    clear OL_601 E_ob_601 FcS_601 FvS_601 VS_601
    have Zs604 : n0 ≤ T603.heap.size := Nat.le_trans Zs601 K603.1
    have R605 : ∀ tg, Steps p.tables e below (T603.setTop (mkF m 183 #[vI p1, vI p2, vI p3, vI p4, vI p5, vI p6, vI c0, vI c1, vI c2, vI c3, vI (3 : Int32), vI (own_bad p6), vR ar, vR ob, vR fo, .unset, .unset] [(.ref fo)])) tg → Steps p.tables e below (s₁.setTop (mkF m 0 #[vI p1, vI p2, vI p3, vI p4, vI p5, vI p6, .unset, .unset, .unset, .unset, .unset, .unset, .unset, .unset, .unset, .unset, .unset] [])) tg := by
      intro tg kt
      refine R602 _ ?_
      refine st603.trans ?_
      show Steps p.tables e below (T603.setTop (mkF m 179 #[vI p1, vI p2, vI p3, vI p4, vI p5, vI p6, vI c0, vI c1, vI c2, vI c3, vI (3 : Int32), vI (own_bad p6), vR ar, vR ob, .unset, .unset, .unset] [(.ref fo)])) _
      refine XS.astore X603.here hx rfl (hb hby at_179) rfl rfl (l' := #[vI p1, vI p2, vI p3, vI p4, vI p5, vI p6, vI c0, vI c1, vI c2, vI c3, vI (3 : Int32), vI (own_bad p6), vR ar, vR ob, vR fo, .unset, .unset]) rfl ?_
      refine XS.aload X603.here hx rfl (hb hby at_181) rfl rfl ?_
      exact kt
    clear R602 st603
    by_cases hv0 : c0 = (94 : Int32)
    · obtain ⟨cq606, kq606, q606a, q606b, q606c⟩ := isOf hZ rfl E3
      obtain ⟨_, _, ⟨T606, L606, k606, n606⟩, -, X606, S606, gr606, ⟨Lc606, hQ606, l606, y606, z606⟩, st606⟩ := X603.virtualBackS hx (y := (⟨"com/example/travessia/travessia/isis/IsisField", "leadingText", "()Ljava/lang/String;"⟩ : MethodName)) (z := (⟨"com/example/travessia/travessia/isis/IsisField", "leadingText", "()Ljava/lang/String;"⟩ : MethodName)) hown (mvT hZ (hw _ (List.mem_of_getElem? (i := 53) rfl))) (mvT hZ (hw _ (List.mem_of_getElem? (i := 54) rfl))) (notFace_of_selects (args := #[]) (mvT hZ (hw _ (List.mem_of_getElem? (i := 56) rfl)))) (mvT hZ (hw _ (List.mem_of_getElem? (i := 56) rfl))) (mvT hZ (hw _ (List.mem_of_getElem? (i := 55) rfl))) (by decide) (own_backI (W := 0) (rm_ltC l Z a0 hw [] fo ob tb 3 (fun j => own_bv ((own_G c0 c1 c2 c3) j)) cs vf T603.heap n0 Zs604 (Or.inr (Or.inr (Or.inl rfl))) SC OL_604 hcs SF hvf E_ob_604 FcS_604 FvS_604 VS_604 E3 Fd3 (own_ixk_3_0 (fun j => own_bv ((own_G c0 c1 c2 c3) j)) (b0.mpr hv0)) hc151 hcw) hZ hI (hw _ (List.mem_of_getElem? (i := 57) rfl)) (hw _ (List.mem_of_getElem? (i := 37) rfl)) (by decide) (by decide)) q606a q606c (g := (mkF m 183 #[vI p1, vI p2, vI p3, vI p4, vI p5, vI p6, vI c0, vI c1, vI c2, vI c3, vI (3 : Int32), vI (own_bad p6), vR ar, vR ob, vR fo, .unset, .unset] [(.ref fo)])) rfl (by rw [hml]; rfl) (Steps.refl _) (argsL := []) (rest := []) (lenOf pd_24 rfl) rfl (by show 2 * 0 + _ ≤ _; exact Nat.le_of_eq rfl) (hb hby at_183) (fun _ _ => ⟨rfl, rfl, (by decide : 4 + 2 ≤ _), (by decide : 14 + 4 ≤ _)⟩)
      dsimp only [Pt.U, Pt.locs, Pt.cells, Pt.slots] at X606 S606 gr606 l606 y606 z606 st606 hQ606
      rw [l606, y606, z606] at X606
      have hZ : Z.Warmed39 (s.setVm T606.vm).vm := State.Warmed39.trans hZ S606.1
      have hown : (s.setVm T606.vm).vm.findClass "com/example/travessia/travessia/isis/IsisFieldLeadingTextPinLaw" = some m.cls := (S606.1.alike.findClass _ _).trans hown
      obtain ⟨aa, t2, rfl, N606q, K606, E4, Fc4, Fv4, V4⟩ := hQ606
      have N606 := Fr.app N603 N606q
      have OL_607 := OL_604.keep K606 (own_ge0)
      clear OL_604
      have Zs607 : n0 ≤ T606.heap.size := Nat.le_trans Zs604 K606.1
      have R608 : ∀ tg, Steps p.tables e below (T606.setTop (mkF m 188 #[vI p1, vI p2, vI p3, vI p4, vI p5, vI p6, vI c0, vI c1, vI c2, vI c3, vI (3 : Int32), vI (own_bad p6), vR ar, vR ob, vR fo, vR aa, .unset] [])) tg → Steps p.tables e below (s₁.setTop (mkF m 0 #[vI p1, vI p2, vI p3, vI p4, vI p5, vI p6, .unset, .unset, .unset, .unset, .unset, .unset, .unset, .unset, .unset, .unset, .unset] [])) tg := by
        intro tg kt
        refine R605 _ ?_
        refine st606.trans ?_
        show Steps p.tables e below (T606.setTop (mkF m 186 #[vI p1, vI p2, vI p3, vI p4, vI p5, vI p6, vI c0, vI c1, vI c2, vI c3, vI (3 : Int32), vI (own_bad p6), vR ar, vR ob, vR fo, .unset, .unset] [(.ref aa)])) _
        refine XS.astore X606.here hx rfl (hb hby at_186) rfl rfl (l' := #[vI p1, vI p2, vI p3, vI p4, vI p5, vI p6, vI c0, vI c1, vI c2, vI c3, vI (3 : Int32), vI (own_bad p6), vR ar, vR ob, vR fo, vR aa, .unset]) rfl ?_
        exact kt
      clear R605 st606
      have R609 : ∀ tg, Steps p.tables e below (T606.setTop (mkF m 255 #[vI p1, vI p2, vI p3, vI p4, vI p5, vI p6, vI c0, vI c1, vI c2, vI c3, vI (3 : Int32), vI (own_bad p6), vR ar, vR ob, vR fo, vR aa, vI (own_k1 (0 : Int32) (3 : Int32) c0 (0 : Int32) (own_k1 (1 : Int32) (3 : Int32) c1 (1 : Int32) (own_k1 (2 : Int32) (3 : Int32) c2 (2 : Int32) (own_k1 (3 : Int32) (3 : Int32) c3 (3 : Int32) (3 : Int32)))))] [])) tg → Steps p.tables e below (s₁.setTop (mkF m 0 #[vI p1, vI p2, vI p3, vI p4, vI p5, vI p6, .unset, .unset, .unset, .unset, .unset, .unset, .unset, .unset, .unset, .unset, .unset] [])) tg := fun tg kt => R608 tg (own_t188 6 18 (3 : Int32) p1 p2 p3 p4 p5 p6 c0 c1 c2 c3 (own_bad p6) ar ob fo aa X606 hx hZ hw hby hml hown rfl N606 tg kt)
      have R610 : ∀ tg, Steps p.tables e below (T606.setTop (mkF m 255 #[vI p1, vI p2, vI p3, vI p4, vI p5, vI p6, vI c0, vI c1, vI c2, vI c3, vI (3 : Int32), vI (own_bad p6), vR ar, vR ob, vR fo, vR aa, vI (0 : Int32)] [])) tg → Steps p.tables e below (s₁.setTop (mkF m 0 #[vI p1, vI p2, vI p3, vI p4, vI p5, vI p6, .unset, .unset, .unset, .unset, .unset, .unset, .unset, .unset, .unset, .unset, .unset] [])) tg := by intro tg kt; refine R609 tg ?_; rw [show (own_k1 (0 : Int32) (3 : Int32) c0 (0 : Int32) (own_k1 (1 : Int32) (3 : Int32) c1 (1 : Int32) (own_k1 (2 : Int32) (3 : Int32) c2 (2 : Int32) (own_k1 (3 : Int32) (3 : Int32) c3 (3 : Int32) (3 : Int32))))) = (0 : Int32) from (own_hit (by decide) hv0)]; exact kt
      obtain ⟨T611, L611, X611, e611, N611, st611⟩ := own_t255_0 6 18 (3 : Int32) p1 p2 p3 p4 p5 p6 c0 c1 c2 c3 (own_bad p6) ar ob fo aa t2 (fun j => ([] : List Int32).getD j 0) cs vf X606 hx hZ hw hby hml hown (by decide) (by decide) rfl N606 Zs607 SC OL_607 hcs SF hvf E4 Fc4 Fv4 V4 
      have R612 : ∀ tg, Steps p.tables e below (T611.setTop (mkF m 348 #[vI p1, vI p2, vI p3, vI p4, vI p5, vI p6, vI c0, vI c1, vI c2, vI c3, vI (3 : Int32), vI (own_bad p6), vR ar, vR ob, vR fo, vR aa, vI (0 : Int32)] [(.int (1 : Int32))])) tg → Steps p.tables e below (s₁.setTop (mkF m 0 #[vI p1, vI p2, vI p3, vI p4, vI p5, vI p6, .unset, .unset, .unset, .unset, .unset, .unset, .unset, .unset, .unset, .unset, .unset] [])) tg := by
        intro tg kt
        refine R610 _ ?_
        refine st611 _ ?_
        exact kt
      clear R610 st611
      obtain ⟨fs, hr, hrun, hended, hR⟩ := Stand.leaveW (s := s) (vm₁ := T606.vm) X611 S606 (by rw [e611]; exact (Nat.le_refl T606.heap.size)) (v := some (.int (1 : Int32))) (fun h => by rw [Bd.returns] at h; cases h)
      refine ⟨_, _, pre0 _ (R612 _ ?_), hrun, hended, _, _, rfl, ?_, hR.1, hR.2.1, hR.2.2.1, hR.2.2.2.mono (by decide) (by decide)⟩
      · exact retN X611 hx (t := .boolean) Bd.returns (by simp) (hb hby at_348) hr
      · show Q_rm_law Z p1 p2 p3 p4 p5 p6 cs vf h0 n0 _ T611.heap _
        rw [e611]
        exact ⟨rfl, N611⟩
    · by_cases hv1 : c1 = (94 : Int32)
      · obtain ⟨cq613, kq613, q613a, q613b, q613c⟩ := isOf hZ rfl E3
        obtain ⟨_, _, ⟨T613, L613, k613, n613⟩, -, X613, ⟨Lc613, hQ613, l613, y613, z613⟩, st613⟩ := X603.virtualBack hx (y := (⟨"com/example/travessia/travessia/isis/IsisField", "leadingText", "()Ljava/lang/String;"⟩ : MethodName)) (z := (⟨"com/example/travessia/travessia/isis/IsisField", "leadingText", "()Ljava/lang/String;"⟩ : MethodName)) hown (mvT hZ (hw _ (List.mem_of_getElem? (i := 53) rfl))) (mvT hZ (hw _ (List.mem_of_getElem? (i := 54) rfl))) (notFace_of_selects (args := #[]) (mvT hZ (hw _ (List.mem_of_getElem? (i := 56) rfl)))) (mvT hZ (hw _ (List.mem_of_getElem? (i := 56) rfl))) (mvT hZ (hw _ (List.mem_of_getElem? (i := 55) rfl))) (by decide) (backOf (W := 0) (rm_ltB l Z a0 hw [] fo ob tb 1 3 (fun j => own_bv ((own_G c0 c1 c2 c3) j)) cs vf T603.heap n0 Zs604 (by decide) (by decide) (by decide) (Or.inr (Or.inr (Or.inr (Or.inl rfl)))) SC OL_604 hcs SF hvf E_ob_604 FcS_604 FvS_604 VS_604 E3 Fd3 (own_ixk_3_1 (fun j => own_bv ((own_G c0 c1 c2 c3) j)) (fun q => hv0 (b0.mp q)) (b1.mpr hv1))) hZ (hw _ (List.mem_of_getElem? (i := 57) rfl)) (hw _ (List.mem_of_getElem? (i := 37) rfl)) (by decide) (by decide)) q613a q613c (g := (mkF m 183 #[vI p1, vI p2, vI p3, vI p4, vI p5, vI p6, vI c0, vI c1, vI c2, vI c3, vI (3 : Int32), vI (own_bad p6), vR ar, vR ob, vR fo, .unset, .unset] [(.ref fo)])) rfl (by rw [hml]; rfl) (Steps.refl _) (argsL := []) (rest := []) (lenOf pd_24 rfl) rfl (by show 2 * 0 + _ ≤ _; exact Nat.le_of_eq rfl) (hb hby at_183) (fun _ _ => ⟨rfl, rfl, (by decide : 4 + 2 ≤ _), (by decide : 14 + 8 ≤ _)⟩)
        dsimp only [Pt.U, Pt.locs, Pt.cells, Pt.slots] at X613 l613 y613 z613 st613 hQ613
        rw [l613, y613, z613] at X613
        obtain ⟨aa, t2, rfl, N613q, K613, E4, Fc4, Fv4, V4⟩ := hQ613
        have N613 := Fr.app N603 N613q
        have OL_614 := OL_604.keep K613 (own_ge0)
        clear OL_604
        have Zs614 : n0 ≤ T613.heap.size := Nat.le_trans Zs604 K613.1
        have R615 : ∀ tg, Steps p.tables e below (T613.setTop (mkF m 188 #[vI p1, vI p2, vI p3, vI p4, vI p5, vI p6, vI c0, vI c1, vI c2, vI c3, vI (3 : Int32), vI (own_bad p6), vR ar, vR ob, vR fo, vR aa, .unset] [])) tg → Steps p.tables e below (s₁.setTop (mkF m 0 #[vI p1, vI p2, vI p3, vI p4, vI p5, vI p6, .unset, .unset, .unset, .unset, .unset, .unset, .unset, .unset, .unset, .unset, .unset] [])) tg := by
          intro tg kt
          refine R605 _ ?_
          refine st613.trans ?_
          show Steps p.tables e below (T613.setTop (mkF m 186 #[vI p1, vI p2, vI p3, vI p4, vI p5, vI p6, vI c0, vI c1, vI c2, vI c3, vI (3 : Int32), vI (own_bad p6), vR ar, vR ob, vR fo, .unset, .unset] [(.ref aa)])) _
          refine XS.astore X613.here hx rfl (hb hby at_186) rfl rfl (l' := #[vI p1, vI p2, vI p3, vI p4, vI p5, vI p6, vI c0, vI c1, vI c2, vI c3, vI (3 : Int32), vI (own_bad p6), vR ar, vR ob, vR fo, vR aa, .unset]) rfl ?_
          exact kt
        clear R605 st613
        have R616 : ∀ tg, Steps p.tables e below (T613.setTop (mkF m 255 #[vI p1, vI p2, vI p3, vI p4, vI p5, vI p6, vI c0, vI c1, vI c2, vI c3, vI (3 : Int32), vI (own_bad p6), vR ar, vR ob, vR fo, vR aa, vI (own_k1 (0 : Int32) (3 : Int32) c0 (0 : Int32) (own_k1 (1 : Int32) (3 : Int32) c1 (1 : Int32) (own_k1 (2 : Int32) (3 : Int32) c2 (2 : Int32) (own_k1 (3 : Int32) (3 : Int32) c3 (3 : Int32) (3 : Int32)))))] [])) tg → Steps p.tables e below (s₁.setTop (mkF m 0 #[vI p1, vI p2, vI p3, vI p4, vI p5, vI p6, .unset, .unset, .unset, .unset, .unset, .unset, .unset, .unset, .unset, .unset, .unset] [])) tg := fun tg kt => R615 tg (own_t188 6 22 (3 : Int32) p1 p2 p3 p4 p5 p6 c0 c1 c2 c3 (own_bad p6) ar ob fo aa X613 hx hZ hw hby hml hown rfl N613 tg kt)
        have R617 : ∀ tg, Steps p.tables e below (T613.setTop (mkF m 255 #[vI p1, vI p2, vI p3, vI p4, vI p5, vI p6, vI c0, vI c1, vI c2, vI c3, vI (3 : Int32), vI (own_bad p6), vR ar, vR ob, vR fo, vR aa, vI (1 : Int32)] [])) tg → Steps p.tables e below (s₁.setTop (mkF m 0 #[vI p1, vI p2, vI p3, vI p4, vI p5, vI p6, .unset, .unset, .unset, .unset, .unset, .unset, .unset, .unset, .unset, .unset, .unset] [])) tg := by intro tg kt; refine R616 tg ?_; rw [show (own_k1 (0 : Int32) (3 : Int32) c0 (0 : Int32) (own_k1 (1 : Int32) (3 : Int32) c1 (1 : Int32) (own_k1 (2 : Int32) (3 : Int32) c2 (2 : Int32) (own_k1 (3 : Int32) (3 : Int32) c3 (3 : Int32) (3 : Int32))))) = (1 : Int32) from ((own_miss hv0).trans (own_hit (by decide) hv1))]; exact kt
        obtain ⟨T618, L618, X618, e618, N618, st618⟩ := own_t255_1 6 22 (3 : Int32) p1 p2 p3 p4 p5 p6 c0 c1 c2 c3 (own_bad p6) ar ob fo aa t2 (fun j => own_bv ((own_G c0 c1 c2 c3) j)) cs vf X613 hx hZ hw hby hml hown (by decide) (by decide) rfl N613 Zs614 SC OL_614 hcs SF hvf E4 Fc4 Fv4 V4 q0
        have R619 : ∀ tg, Steps p.tables e below (T618.setTop (mkF m 348 #[vI p1, vI p2, vI p3, vI p4, vI p5, vI p6, vI c0, vI c1, vI c2, vI c3, vI (3 : Int32), vI (own_bad p6), vR ar, vR ob, vR fo, vR aa, vI (1 : Int32)] [(.int (1 : Int32))])) tg → Steps p.tables e below (s₁.setTop (mkF m 0 #[vI p1, vI p2, vI p3, vI p4, vI p5, vI p6, .unset, .unset, .unset, .unset, .unset, .unset, .unset, .unset, .unset, .unset, .unset] [])) tg := by
          intro tg kt
          refine R617 _ ?_
          refine st618 _ ?_
          exact kt
        clear R617 st618
        obtain ⟨fs, hr, hrun, hended, hR⟩ := Stand.leaveW (s := s) (vm₁ := s.vm) X618 hS0 (Nat.zero_le _) (v := some (.int (1 : Int32))) (fun h => by rw [Bd.returns] at h; cases h)
        refine ⟨_, _, pre0 _ (R619 _ ?_), hrun, hended, _, _, rfl, ?_, hR.1, hR.2.1, hR.2.2.1, hR.2.2.2.mono (by decide) (by decide)⟩
        · exact retN X618 hx (t := .boolean) Bd.returns (by simp) (hb hby at_348) hr
        · show Q_rm_law Z p1 p2 p3 p4 p5 p6 cs vf h0 n0 _ T618.heap _
          rw [e618]
          exact ⟨rfl, N618⟩
      · by_cases hv2 : c2 = (94 : Int32)
        · obtain ⟨cq620, kq620, q620a, q620b, q620c⟩ := isOf hZ rfl E3
          obtain ⟨_, _, ⟨T620, L620, k620, n620⟩, -, X620, ⟨Lc620, hQ620, l620, y620, z620⟩, st620⟩ := X603.virtualBack hx (y := (⟨"com/example/travessia/travessia/isis/IsisField", "leadingText", "()Ljava/lang/String;"⟩ : MethodName)) (z := (⟨"com/example/travessia/travessia/isis/IsisField", "leadingText", "()Ljava/lang/String;"⟩ : MethodName)) hown (mvT hZ (hw _ (List.mem_of_getElem? (i := 53) rfl))) (mvT hZ (hw _ (List.mem_of_getElem? (i := 54) rfl))) (notFace_of_selects (args := #[]) (mvT hZ (hw _ (List.mem_of_getElem? (i := 56) rfl)))) (mvT hZ (hw _ (List.mem_of_getElem? (i := 56) rfl))) (mvT hZ (hw _ (List.mem_of_getElem? (i := 55) rfl))) (by decide) (backOf (W := 0) (rm_ltB l Z a0 hw [] fo ob tb 2 3 (fun j => own_bv ((own_G c0 c1 c2 c3) j)) cs vf T603.heap n0 Zs604 (by decide) (by decide) (by decide) (Or.inr (Or.inr (Or.inr (Or.inl rfl)))) SC OL_604 hcs SF hvf E_ob_604 FcS_604 FvS_604 VS_604 E3 Fd3 (own_ixk_3_2 (fun j => own_bv ((own_G c0 c1 c2 c3) j)) (fun q => hv0 (b0.mp q)) (fun q => hv1 (b1.mp q)) (b2.mpr hv2))) hZ (hw _ (List.mem_of_getElem? (i := 57) rfl)) (hw _ (List.mem_of_getElem? (i := 37) rfl)) (by decide) (by decide)) q620a q620c (g := (mkF m 183 #[vI p1, vI p2, vI p3, vI p4, vI p5, vI p6, vI c0, vI c1, vI c2, vI c3, vI (3 : Int32), vI (own_bad p6), vR ar, vR ob, vR fo, .unset, .unset] [(.ref fo)])) rfl (by rw [hml]; rfl) (Steps.refl _) (argsL := []) (rest := []) (lenOf pd_24 rfl) rfl (by show 2 * 0 + _ ≤ _; exact Nat.le_of_eq rfl) (hb hby at_183) (fun _ _ => ⟨rfl, rfl, (by decide : 4 + 2 ≤ _), (by decide : 14 + 8 ≤ _)⟩)
          dsimp only [Pt.U, Pt.locs, Pt.cells, Pt.slots] at X620 l620 y620 z620 st620 hQ620
          rw [l620, y620, z620] at X620
          obtain ⟨aa, t2, rfl, N620q, K620, E4, Fc4, Fv4, V4⟩ := hQ620
          have N620 := Fr.app N603 N620q
          have OL_621 := OL_604.keep K620 (own_ge0)
          clear OL_604
          have Zs621 : n0 ≤ T620.heap.size := Nat.le_trans Zs604 K620.1
          have R622 : ∀ tg, Steps p.tables e below (T620.setTop (mkF m 188 #[vI p1, vI p2, vI p3, vI p4, vI p5, vI p6, vI c0, vI c1, vI c2, vI c3, vI (3 : Int32), vI (own_bad p6), vR ar, vR ob, vR fo, vR aa, .unset] [])) tg → Steps p.tables e below (s₁.setTop (mkF m 0 #[vI p1, vI p2, vI p3, vI p4, vI p5, vI p6, .unset, .unset, .unset, .unset, .unset, .unset, .unset, .unset, .unset, .unset, .unset] [])) tg := by
            intro tg kt
            refine R605 _ ?_
            refine st620.trans ?_
            show Steps p.tables e below (T620.setTop (mkF m 186 #[vI p1, vI p2, vI p3, vI p4, vI p5, vI p6, vI c0, vI c1, vI c2, vI c3, vI (3 : Int32), vI (own_bad p6), vR ar, vR ob, vR fo, .unset, .unset] [(.ref aa)])) _
            refine XS.astore X620.here hx rfl (hb hby at_186) rfl rfl (l' := #[vI p1, vI p2, vI p3, vI p4, vI p5, vI p6, vI c0, vI c1, vI c2, vI c3, vI (3 : Int32), vI (own_bad p6), vR ar, vR ob, vR fo, vR aa, .unset]) rfl ?_
            exact kt
          clear R605 st620
          have R623 : ∀ tg, Steps p.tables e below (T620.setTop (mkF m 255 #[vI p1, vI p2, vI p3, vI p4, vI p5, vI p6, vI c0, vI c1, vI c2, vI c3, vI (3 : Int32), vI (own_bad p6), vR ar, vR ob, vR fo, vR aa, vI (own_k1 (0 : Int32) (3 : Int32) c0 (0 : Int32) (own_k1 (1 : Int32) (3 : Int32) c1 (1 : Int32) (own_k1 (2 : Int32) (3 : Int32) c2 (2 : Int32) (own_k1 (3 : Int32) (3 : Int32) c3 (3 : Int32) (3 : Int32)))))] [])) tg → Steps p.tables e below (s₁.setTop (mkF m 0 #[vI p1, vI p2, vI p3, vI p4, vI p5, vI p6, .unset, .unset, .unset, .unset, .unset, .unset, .unset, .unset, .unset, .unset, .unset] [])) tg := fun tg kt => R622 tg (own_t188 6 22 (3 : Int32) p1 p2 p3 p4 p5 p6 c0 c1 c2 c3 (own_bad p6) ar ob fo aa X620 hx hZ hw hby hml hown rfl N620 tg kt)
          have R624 : ∀ tg, Steps p.tables e below (T620.setTop (mkF m 255 #[vI p1, vI p2, vI p3, vI p4, vI p5, vI p6, vI c0, vI c1, vI c2, vI c3, vI (3 : Int32), vI (own_bad p6), vR ar, vR ob, vR fo, vR aa, vI (2 : Int32)] [])) tg → Steps p.tables e below (s₁.setTop (mkF m 0 #[vI p1, vI p2, vI p3, vI p4, vI p5, vI p6, .unset, .unset, .unset, .unset, .unset, .unset, .unset, .unset, .unset, .unset, .unset] [])) tg := by intro tg kt; refine R623 tg ?_; rw [show (own_k1 (0 : Int32) (3 : Int32) c0 (0 : Int32) (own_k1 (1 : Int32) (3 : Int32) c1 (1 : Int32) (own_k1 (2 : Int32) (3 : Int32) c2 (2 : Int32) (own_k1 (3 : Int32) (3 : Int32) c3 (3 : Int32) (3 : Int32))))) = (2 : Int32) from ((own_miss hv0).trans ((own_miss hv1).trans (own_hit (by decide) hv2)))]; exact kt
          obtain ⟨T625, L625, X625, e625, N625, st625⟩ := own_t255_2 6 22 (3 : Int32) p1 p2 p3 p4 p5 p6 c0 c1 c2 c3 (own_bad p6) ar ob fo aa t2 (fun j => own_bv ((own_G c0 c1 c2 c3) j)) cs vf X620 hx hZ hw hby hml hown (by decide) (by decide) rfl N620 Zs621 SC OL_621 hcs SF hvf E4 Fc4 Fv4 V4 q0 q1
          have R626 : ∀ tg, Steps p.tables e below (T625.setTop (mkF m 348 #[vI p1, vI p2, vI p3, vI p4, vI p5, vI p6, vI c0, vI c1, vI c2, vI c3, vI (3 : Int32), vI (own_bad p6), vR ar, vR ob, vR fo, vR aa, vI (2 : Int32)] [(.int (1 : Int32))])) tg → Steps p.tables e below (s₁.setTop (mkF m 0 #[vI p1, vI p2, vI p3, vI p4, vI p5, vI p6, .unset, .unset, .unset, .unset, .unset, .unset, .unset, .unset, .unset, .unset, .unset] [])) tg := by
            intro tg kt
            refine R624 _ ?_
            refine st625 _ ?_
            exact kt
          clear R624 st625
          obtain ⟨fs, hr, hrun, hended, hR⟩ := Stand.leaveW (s := s) (vm₁ := s.vm) X625 hS0 (Nat.zero_le _) (v := some (.int (1 : Int32))) (fun h => by rw [Bd.returns] at h; cases h)
          refine ⟨_, _, pre0 _ (R626 _ ?_), hrun, hended, _, _, rfl, ?_, hR.1, hR.2.1, hR.2.2.1, hR.2.2.2.mono (by decide) (by decide)⟩
          · exact retN X625 hx (t := .boolean) Bd.returns (by simp) (hb hby at_348) hr
          · show Q_rm_law Z p1 p2 p3 p4 p5 p6 cs vf h0 n0 _ T625.heap _
            rw [e625]
            exact ⟨rfl, N625⟩
        · obtain ⟨cq627, kq627, q627a, q627b, q627c⟩ := isOf hZ rfl E3
          obtain ⟨_, _, ⟨T627, L627, k627, n627⟩, -, X627, ⟨Lc627, hQ627, l627, y627, z627⟩, st627⟩ := X603.virtualBack hx (y := (⟨"com/example/travessia/travessia/isis/IsisField", "leadingText", "()Ljava/lang/String;"⟩ : MethodName)) (z := (⟨"com/example/travessia/travessia/isis/IsisField", "leadingText", "()Ljava/lang/String;"⟩ : MethodName)) hown (mvT hZ (hw _ (List.mem_of_getElem? (i := 53) rfl))) (mvT hZ (hw _ (List.mem_of_getElem? (i := 54) rfl))) (notFace_of_selects (args := #[]) (mvT hZ (hw _ (List.mem_of_getElem? (i := 56) rfl)))) (mvT hZ (hw _ (List.mem_of_getElem? (i := 56) rfl))) (mvT hZ (hw _ (List.mem_of_getElem? (i := 55) rfl))) (by decide) (backOf (W := 0) (rm_ltA l Z a0 hw [] fo ob tb 3 (fun j => own_bv ((own_G c0 c1 c2 c3) j)) cs T603.heap n0 Zs604 (Or.inr (Or.inr (Or.inr (Or.inl rfl)))) SC OL_604 hcs E_ob_604 FcS_604 FvS_604 VS_604 E3 Fd3 (own_ixk_3_3 (fun j => own_bv ((own_G c0 c1 c2 c3) j)) (fun q => hv0 (b0.mp q)) (fun q => hv1 (b1.mp q)) (fun q => hv2 (b2.mp q)))) hZ (hw _ (List.mem_of_getElem? (i := 57) rfl)) (hw _ (List.mem_of_getElem? (i := 37) rfl)) (by decide) (by decide)) q627a q627c (g := (mkF m 183 #[vI p1, vI p2, vI p3, vI p4, vI p5, vI p6, vI c0, vI c1, vI c2, vI c3, vI (3 : Int32), vI (own_bad p6), vR ar, vR ob, vR fo, .unset, .unset] [(.ref fo)])) rfl (by rw [hml]; rfl) (Steps.refl _) (argsL := []) (rest := []) (lenOf pd_24 rfl) rfl (by show 2 * 0 + _ ≤ _; exact Nat.le_of_eq rfl) (hb hby at_183) (fun _ _ => ⟨rfl, rfl, (by decide : 4 + 0 ≤ _), (by decide : 14 + 0 ≤ _)⟩)
          dsimp only [Pt.U, Pt.locs, Pt.cells, Pt.slots] at X627 l627 y627 z627 st627 hQ627
          rw [l627, y627, z627] at X627
          obtain ⟨rfl, N627q, hh627⟩ := hQ627
          have N627 := Fr.app N603 N627q
          have R628 : ∀ tg, Steps p.tables e below (T627.setTop (mkF m 188 #[vI p1, vI p2, vI p3, vI p4, vI p5, vI p6, vI c0, vI c1, vI c2, vI c3, vI (3 : Int32), vI (own_bad p6), vR ar, vR ob, vR fo, vR ob, .unset] [])) tg → Steps p.tables e below (s₁.setTop (mkF m 0 #[vI p1, vI p2, vI p3, vI p4, vI p5, vI p6, .unset, .unset, .unset, .unset, .unset, .unset, .unset, .unset, .unset, .unset, .unset] [])) tg := by
            intro tg kt
            refine R605 _ ?_
            refine st627.trans ?_
            show Steps p.tables e below (T627.setTop (mkF m 186 #[vI p1, vI p2, vI p3, vI p4, vI p5, vI p6, vI c0, vI c1, vI c2, vI c3, vI (3 : Int32), vI (own_bad p6), vR ar, vR ob, vR fo, .unset, .unset] [(.ref ob)])) _
            refine XS.astore X627.here hx rfl (hb hby at_186) rfl rfl (l' := #[vI p1, vI p2, vI p3, vI p4, vI p5, vI p6, vI c0, vI c1, vI c2, vI c3, vI (3 : Int32), vI (own_bad p6), vR ar, vR ob, vR fo, vR ob, .unset]) rfl ?_
            exact kt
          clear R605 st627
          have R629 : ∀ tg, Steps p.tables e below (T627.setTop (mkF m 255 #[vI p1, vI p2, vI p3, vI p4, vI p5, vI p6, vI c0, vI c1, vI c2, vI c3, vI (3 : Int32), vI (own_bad p6), vR ar, vR ob, vR fo, vR ob, vI (own_k1 (0 : Int32) (3 : Int32) c0 (0 : Int32) (own_k1 (1 : Int32) (3 : Int32) c1 (1 : Int32) (own_k1 (2 : Int32) (3 : Int32) c2 (2 : Int32) (own_k1 (3 : Int32) (3 : Int32) c3 (3 : Int32) (3 : Int32)))))] [])) tg → Steps p.tables e below (s₁.setTop (mkF m 0 #[vI p1, vI p2, vI p3, vI p4, vI p5, vI p6, .unset, .unset, .unset, .unset, .unset, .unset, .unset, .unset, .unset, .unset, .unset] [])) tg := fun tg kt => R628 tg (own_t188 4 14 (3 : Int32) p1 p2 p3 p4 p5 p6 c0 c1 c2 c3 (own_bad p6) ar ob fo ob X627 hx hZ hw hby hml hown hh627 N627 tg kt)
          have R630 : ∀ tg, Steps p.tables e below (T627.setTop (mkF m 255 #[vI p1, vI p2, vI p3, vI p4, vI p5, vI p6, vI c0, vI c1, vI c2, vI c3, vI (3 : Int32), vI (own_bad p6), vR ar, vR ob, vR fo, vR ob, vI (3 : Int32)] [])) tg → Steps p.tables e below (s₁.setTop (mkF m 0 #[vI p1, vI p2, vI p3, vI p4, vI p5, vI p6, .unset, .unset, .unset, .unset, .unset, .unset, .unset, .unset, .unset, .unset, .unset] [])) tg := by intro tg kt; refine R629 tg ?_; rw [show (own_k1 (0 : Int32) (3 : Int32) c0 (0 : Int32) (own_k1 (1 : Int32) (3 : Int32) c1 (1 : Int32) (own_k1 (2 : Int32) (3 : Int32) c2 (2 : Int32) (own_k1 (3 : Int32) (3 : Int32) c3 (3 : Int32) (3 : Int32))))) = (3 : Int32) from ((own_miss hv0).trans ((own_miss hv1).trans ((own_miss hv2).trans ((own_out (by decide)).trans rfl))))]; exact kt
          obtain ⟨T631, L631, X631, e631, N631, st631⟩ := own_t255_3 4 14 (3 : Int32) p1 p2 p3 p4 p5 p6 c0 c1 c2 c3 (own_bad p6) ar ob fo ob tb (fun j => own_bv ((own_G c0 c1 c2 c3) j)) cs vf X627 hx hZ hw hby hml hown (by decide) (by decide) hh627 N627 Zs604 SC OL_604 hcs SF hvf E_ob_604 FcS_604 FvS_604 VS_604 q0 q1 q2
          have R632 : ∀ tg, Steps p.tables e below (T631.setTop (mkF m 348 #[vI p1, vI p2, vI p3, vI p4, vI p5, vI p6, vI c0, vI c1, vI c2, vI c3, vI (3 : Int32), vI (own_bad p6), vR ar, vR ob, vR fo, vR ob, vI (3 : Int32)] [(.int (1 : Int32))])) tg → Steps p.tables e below (s₁.setTop (mkF m 0 #[vI p1, vI p2, vI p3, vI p4, vI p5, vI p6, .unset, .unset, .unset, .unset, .unset, .unset, .unset, .unset, .unset, .unset, .unset] [])) tg := by
            intro tg kt
            refine R630 _ ?_
            refine st631 _ ?_
            exact kt
          clear R630 st631
          obtain ⟨fs, hr, hrun, hended, hR⟩ := Stand.leaveW (s := s) (vm₁ := s.vm) X631 hS0 (Nat.zero_le _) (v := some (.int (1 : Int32))) (fun h => by rw [Bd.returns] at h; cases h)
          refine ⟨_, _, pre0 _ (R632 _ ?_), hrun, hended, _, _, rfl, ?_, hR.1, hR.2.1, hR.2.2.1, hR.2.2.2.mono (by decide) (by decide)⟩
          · exact retN X631 hx (t := .boolean) Bd.returns (by simp) (hb hby at_348) hr
          · show Q_rm_law Z p1 p2 p3 p4 p5 p6 cs vf h0 n0 _ T631.heap _
            rw [e631]
            exact ⟨rfl, N631⟩
  · have R633 : ∀ tg, Steps p.tables e below (T482.setTop (mkF m 47 #[vI p1, vI p2, vI p3, vI p4, vI p5, vI p6, vI c0, vI c1, vI c2, vI c3, vI (4 : Int32), vI (own_bad p6), .unset, .unset, .unset, .unset, .unset] [(.int (4 : Int32))])) tg → Steps p.tables e below (s₁.setTop (mkF m 0 #[vI p1, vI p2, vI p3, vI p4, vI p5, vI p6, .unset, .unset, .unset, .unset, .unset, .unset, .unset, .unset, .unset, .unset, .unset] [])) tg := by intro tg kt; refine R492 tg ?_; rw [hn]; exact kt
    have R634 : ∀ tg, Steps p.tables e below (T482.setTop (mkF m 131 #[vI p1, vI p2, vI p3, vI p4, vI p5, vI p6, vI c0, vI c1, vI c2, vI c3, vI (4 : Int32), vI (own_bad p6), .unset, .unset, .unset, .unset, .unset] [(.int (4 : Int32))])) tg → Steps p.tables e below (s₁.setTop (mkF m 0 #[vI p1, vI p2, vI p3, vI p4, vI p5, vI p6, .unset, .unset, .unset, .unset, .unset, .unset, .unset, .unset, .unset, .unset, .unset] [])) tg := by
      intro tg kt
      refine R633 _ ?_
      show Steps p.tables e below (T482.setTop (mkF m 47 #[vI p1, vI p2, vI p3, vI p4, vI p5, vI p6, vI c0, vI c1, vI c2, vI c3, vI (4 : Int32), vI (own_bad p6), .unset, .unset, .unset, .unset, .unset] [(.int (4 : Int32))])) _
      refine XS.ifYes X482.here hx rfl (pc0 := 47) (pc' := 58) rfl (hb hby at_47) rfl ((if0 _ _).trans (feq (by decide : ¬ ((4 : Int32) = (0 : Int32)))).2) (by decide) (by decide) ?_
      refine XS.iload X482.here hx rfl (hb hby at_58) rfl ?_
      refine XS.iconst X482.here hx rfl (hb hby at_60) ?_
      show Steps p.tables e below (T482.setTop (mkF m 61 #[vI p1, vI p2, vI p3, vI p4, vI p5, vI p6, vI c0, vI c1, vI c2, vI c3, vI (4 : Int32), vI (own_bad p6), .unset, .unset, .unset, .unset, .unset] [(.int (1 : Int32)), (.int (4 : Int32))])) _
      refine XS.icmpYes X482.here hx rfl (pc0 := 61) (pc' := 77) rfl (hb hby at_61) rfl (feq (by decide : ¬ ((4 : Int32) = (1 : Int32)))).2 (by decide) (by decide) ?_
      refine XS.iload X482.here hx rfl (hb hby at_77) rfl ?_
      refine XS.iconst X482.here hx rfl (hb hby at_79) ?_
      show Steps p.tables e below (T482.setTop (mkF m 80 #[vI p1, vI p2, vI p3, vI p4, vI p5, vI p6, vI c0, vI c1, vI c2, vI c3, vI (4 : Int32), vI (own_bad p6), .unset, .unset, .unset, .unset, .unset] [(.int (2 : Int32)), (.int (4 : Int32))])) _
      refine XS.icmpYes X482.here hx rfl (pc0 := 80) (pc' := 101) rfl (hb hby at_80) rfl (feq (by decide : ¬ ((4 : Int32) = (2 : Int32)))).2 (by decide) (by decide) ?_
      refine XS.iload X482.here hx rfl (hb hby at_101) rfl ?_
      refine XS.iconst X482.here hx rfl (hb hby at_103) ?_
      show Steps p.tables e below (T482.setTop (mkF m 104 #[vI p1, vI p2, vI p3, vI p4, vI p5, vI p6, vI c0, vI c1, vI c2, vI c3, vI (4 : Int32), vI (own_bad p6), .unset, .unset, .unset, .unset, .unset] [(.int (3 : Int32)), (.int (4 : Int32))])) _
      refine XS.icmpYes X482.here hx rfl (pc0 := 104) (pc' := 130) rfl (hb hby at_104) rfl (feq (by decide : ¬ ((4 : Int32) = (3 : Int32)))).2 (by decide) (by decide) ?_
      refine XS.iconst X482.here hx rfl (hb hby at_130) ?_
      exact kt
    clear R633
    obtain ⟨T635, h635, k635, X635, e635, E635, A635, st635⟩ := newP X482 hx hZ (hw _ (List.mem_of_getElem? (i := 5) rfl)) hh482 (g := (mkF m 131 #[vI p1, vI p2, vI p3, vI p4, vI p5, vI p6, vI c0, vI c1, vI c2, vI c3, vI (4 : Int32), vI (own_bad p6), .unset, .unset, .unset, .unset, .unset] [(.int (4 : Int32))])) rfl (hb hby at_131) rfl (by decide) (cap := 4) (by decide) (by decide) (by decide) (by decide)
    obtain ⟨ar, g635⟩ : ∃ z, z = h0.size := ⟨_, rfl⟩
    rw [← g635] at A635 st635
    have g_ar : n0 ≤ ar := Nat.le_trans Z0 (Nat.le_of_eq g635.symm)
    have OL_635 := OL.ext E635
    have Zs635 : n0 ≤ h635.size := Nat.le_trans Z0 E635.1
    have VC : AV Z h635 ar .char 4 (fun _ => defaultValue .char) := AV.new A635 rfl rfl
    have R636 : ∀ tg, Steps p.tables e below (T635.setTop (mkF m 137 #[vI p1, vI p2, vI p3, vI p4, vI p5, vI p6, vI c0, vI c1, vI c2, vI c3, vI (4 : Int32), vI (own_bad p6), .unset, .unset, .unset, .unset, .unset] [(.int c0), (.int (0 : Int32)), (.ref ar), (.ref ar)])) tg → Steps p.tables e below (s₁.setTop (mkF m 0 #[vI p1, vI p2, vI p3, vI p4, vI p5, vI p6, .unset, .unset, .unset, .unset, .unset, .unset, .unset, .unset, .unset, .unset, .unset] [])) tg := by
      intro tg kt
      refine R634 _ ?_
      refine st635 _ ?_
      refine XS.dup X635.here hx rfl (hb hby at_133) rfl rfl ?_
      show Steps p.tables e below (T635.setTop (mkF m 134 #[vI p1, vI p2, vI p3, vI p4, vI p5, vI p6, vI c0, vI c1, vI c2, vI c3, vI (4 : Int32), vI (own_bad p6), .unset, .unset, .unset, .unset, .unset] [(.ref ar), (.ref ar)])) _
      refine XS.iconst X635.here hx rfl (hb hby at_134) ?_
      refine XS.iload X635.here hx rfl (hb hby at_135) rfl ?_
      exact kt
    clear R634 st635
    obtain ⟨cl637, Ar637, hin637, -⟩ := VC.at (j := (0 : Int32)) (k := 0) (by decide) rfl (by decide)
    obtain ⟨T638, h638, X638, e638, W638, st638⟩ := stC X635 hx hZ e635 Ar637 (j := (0 : Int32)) hin637 (g := (mkF m 137 #[vI p1, vI p2, vI p3, vI p4, vI p5, vI p6, vI c0, vI c1, vI c2, vI c3, vI (4 : Int32), vI (own_bad p6), .unset, .unset, .unset, .unset, .unset] [(.int c0), (.int (0 : Int32)), (.ref ar), (.ref ar)])) rfl rfl (hb hby at_137)
    have N638 := Fr.snoc X638 N482 g_ar
    rw [show ((0 : Int32) : Int32).toNatClampNeg = 0 from rfl] at W638
    have VC_638 := VC.set W638 (fits_nar_char _)
    have OL_638 := OL_635.wr W638 g_ar
    clear OL_635
    have Zs638 : n0 ≤ h638.size := Nat.le_trans Zs635 (Keep.of_wr W638).1
    have R639 : ∀ tg, Steps p.tables e below (T638.setTop (mkF m 142 #[vI p1, vI p2, vI p3, vI p4, vI p5, vI p6, vI c0, vI c1, vI c2, vI c3, vI (4 : Int32), vI (own_bad p6), .unset, .unset, .unset, .unset, .unset] [(.int c1), (.int (1 : Int32)), (.ref ar), (.ref ar)])) tg → Steps p.tables e below (s₁.setTop (mkF m 0 #[vI p1, vI p2, vI p3, vI p4, vI p5, vI p6, .unset, .unset, .unset, .unset, .unset, .unset, .unset, .unset, .unset, .unset, .unset] [])) tg := by
      intro tg kt
      refine R636 _ ?_
      refine st638 _ ?_
      refine XS.dup X638.here hx rfl (hb hby at_138) rfl rfl ?_
      show Steps p.tables e below (T638.setTop (mkF m 139 #[vI p1, vI p2, vI p3, vI p4, vI p5, vI p6, vI c0, vI c1, vI c2, vI c3, vI (4 : Int32), vI (own_bad p6), .unset, .unset, .unset, .unset, .unset] [(.ref ar), (.ref ar)])) _
      refine XS.iconst X638.here hx rfl (hb hby at_139) ?_
      refine XS.iload X638.here hx rfl (hb hby at_140) rfl ?_
      exact kt
    clear R636 st638
    obtain ⟨cl640, Ar640, hin640, -⟩ := VC_638.at (j := (1 : Int32)) (k := 1) (by decide) rfl (by decide)
    obtain ⟨T641, h641, X641, e641, W641, st641⟩ := stC X638 hx hZ e638 Ar640 (j := (1 : Int32)) hin640 (g := (mkF m 142 #[vI p1, vI p2, vI p3, vI p4, vI p5, vI p6, vI c0, vI c1, vI c2, vI c3, vI (4 : Int32), vI (own_bad p6), .unset, .unset, .unset, .unset, .unset] [(.int c1), (.int (1 : Int32)), (.ref ar), (.ref ar)])) rfl rfl (hb hby at_142)
    have N641 := Fr.snoc X641 N638 g_ar
    rw [show ((1 : Int32) : Int32).toNatClampNeg = 1 from rfl] at W641
    have VC_641 := VC_638.set W641 (fits_nar_char _)
    have OL_641 := OL_638.wr W641 g_ar
    clear OL_638
    have Zs641 : n0 ≤ h641.size := Nat.le_trans Zs638 (Keep.of_wr W641).1
    have R642 : ∀ tg, Steps p.tables e below (T641.setTop (mkF m 147 #[vI p1, vI p2, vI p3, vI p4, vI p5, vI p6, vI c0, vI c1, vI c2, vI c3, vI (4 : Int32), vI (own_bad p6), .unset, .unset, .unset, .unset, .unset] [(.int c2), (.int (2 : Int32)), (.ref ar), (.ref ar)])) tg → Steps p.tables e below (s₁.setTop (mkF m 0 #[vI p1, vI p2, vI p3, vI p4, vI p5, vI p6, .unset, .unset, .unset, .unset, .unset, .unset, .unset, .unset, .unset, .unset, .unset] [])) tg := by
      intro tg kt
      refine R639 _ ?_
      refine st641 _ ?_
      refine XS.dup X641.here hx rfl (hb hby at_143) rfl rfl ?_
      show Steps p.tables e below (T641.setTop (mkF m 144 #[vI p1, vI p2, vI p3, vI p4, vI p5, vI p6, vI c0, vI c1, vI c2, vI c3, vI (4 : Int32), vI (own_bad p6), .unset, .unset, .unset, .unset, .unset] [(.ref ar), (.ref ar)])) _
      refine XS.iconst X641.here hx rfl (hb hby at_144) ?_
      refine XS.iload X641.here hx rfl (hb hby at_145) rfl ?_
      exact kt
    clear R639 st641
    obtain ⟨cl643, Ar643, hin643, -⟩ := VC_641.at (j := (2 : Int32)) (k := 2) (by decide) rfl (by decide)
    obtain ⟨T644, h644, X644, e644, W644, st644⟩ := stC X641 hx hZ e641 Ar643 (j := (2 : Int32)) hin643 (g := (mkF m 147 #[vI p1, vI p2, vI p3, vI p4, vI p5, vI p6, vI c0, vI c1, vI c2, vI c3, vI (4 : Int32), vI (own_bad p6), .unset, .unset, .unset, .unset, .unset] [(.int c2), (.int (2 : Int32)), (.ref ar), (.ref ar)])) rfl rfl (hb hby at_147)
    have N644 := Fr.snoc X644 N641 g_ar
    rw [show ((2 : Int32) : Int32).toNatClampNeg = 2 from rfl] at W644
    have VC_644 := VC_641.set W644 (fits_nar_char _)
    have OL_644 := OL_641.wr W644 g_ar
    clear OL_641
    have Zs644 : n0 ≤ h644.size := Nat.le_trans Zs641 (Keep.of_wr W644).1
    have R645 : ∀ tg, Steps p.tables e below (T644.setTop (mkF m 152 #[vI p1, vI p2, vI p3, vI p4, vI p5, vI p6, vI c0, vI c1, vI c2, vI c3, vI (4 : Int32), vI (own_bad p6), .unset, .unset, .unset, .unset, .unset] [(.int c3), (.int (3 : Int32)), (.ref ar), (.ref ar)])) tg → Steps p.tables e below (s₁.setTop (mkF m 0 #[vI p1, vI p2, vI p3, vI p4, vI p5, vI p6, .unset, .unset, .unset, .unset, .unset, .unset, .unset, .unset, .unset, .unset, .unset] [])) tg := by
      intro tg kt
      refine R642 _ ?_
      refine st644 _ ?_
      refine XS.dup X644.here hx rfl (hb hby at_148) rfl rfl ?_
      show Steps p.tables e below (T644.setTop (mkF m 149 #[vI p1, vI p2, vI p3, vI p4, vI p5, vI p6, vI c0, vI c1, vI c2, vI c3, vI (4 : Int32), vI (own_bad p6), .unset, .unset, .unset, .unset, .unset] [(.ref ar), (.ref ar)])) _
      refine XS.iconst X644.here hx rfl (hb hby at_149) ?_
      refine XS.iload X644.here hx rfl (hb hby at_150) rfl ?_
      exact kt
    clear R642 st644
    obtain ⟨cl646, Ar646, hin646, -⟩ := VC_644.at (j := (3 : Int32)) (k := 3) (by decide) rfl (by decide)
    obtain ⟨T647, h647, X647, e647, W647, st647⟩ := stC X644 hx hZ e644 Ar646 (j := (3 : Int32)) hin646 (g := (mkF m 152 #[vI p1, vI p2, vI p3, vI p4, vI p5, vI p6, vI c0, vI c1, vI c2, vI c3, vI (4 : Int32), vI (own_bad p6), .unset, .unset, .unset, .unset, .unset] [(.int c3), (.int (3 : Int32)), (.ref ar), (.ref ar)])) rfl rfl (hb hby at_152)
    have N647 := Fr.snoc X647 N644 g_ar
    rw [show ((3 : Int32) : Int32).toNatClampNeg = 3 from rfl] at W647
    have VC_647 := VC_644.set W647 (fits_nar_char _)
    have OL_647 := OL_644.wr W647 g_ar
    clear OL_644
    have Zs647 : n0 ≤ h647.size := Nat.le_trans Zs644 (Keep.of_wr W647).1
    have R648 : ∀ tg, Steps p.tables e below (T647.setTop (mkF m 155 #[vI p1, vI p2, vI p3, vI p4, vI p5, vI p6, vI c0, vI c1, vI c2, vI c3, vI (4 : Int32), vI (own_bad p6), vR ar, .unset, .unset, .unset, .unset] [])) tg → Steps p.tables e below (s₁.setTop (mkF m 0 #[vI p1, vI p2, vI p3, vI p4, vI p5, vI p6, .unset, .unset, .unset, .unset, .unset, .unset, .unset, .unset, .unset, .unset, .unset] [])) tg := by
      intro tg kt
      refine R645 _ ?_
      refine st647 _ ?_
      show Steps p.tables e below (T647.setTop (mkF m 153 #[vI p1, vI p2, vI p3, vI p4, vI p5, vI p6, vI c0, vI c1, vI c2, vI c3, vI (4 : Int32), vI (own_bad p6), .unset, .unset, .unset, .unset, .unset] [(.ref ar)])) _
      refine XS.astore X647.here hx rfl (hb hby at_153) rfl rfl (l' := #[vI p1, vI p2, vI p3, vI p4, vI p5, vI p6, vI c0, vI c1, vI c2, vI c3, vI (4 : Int32), vI (own_bad p6), vR ar, .unset, .unset, .unset, .unset]) rfl ?_
      exact kt
    clear R645 st647
    obtain ⟨T649, h649, X649, e649, E649, A649, D649, -, st649⟩ := newO X647 hx hZ hown (hw _ (List.mem_of_getElem? (i := 6) rfl)) (hw _ (List.mem_of_getElem? (i := 7) rfl)) (hw _ (List.mem_of_getElem? (i := 8) rfl)) e647 (g := (mkF m 155 #[vI p1, vI p2, vI p3, vI p4, vI p5, vI p6, vI c0, vI c1, vI c2, vI c3, vI (4 : Int32), vI (own_bad p6), vR ar, .unset, .unset, .unset, .unset] [])) rfl (hb hby at_155) (by decide) (by decide)
    obtain ⟨ob, g649⟩ : ∃ z, z = h647.size := ⟨_, rfl⟩
    rw [← g649] at A649 D649 st649
    have E_ob := A649
    have g_ob : n0 ≤ ob := Nat.le_trans Zs647 (Nat.le_of_eq g649.symm)
    have ne_ar_ob : ar ≠ ob := Nat.ne_of_lt (Nat.lt_of_lt_of_le VC_647.lt (Nat.le_of_eq g649.symm))
    have OL_649 := OL_647.ext E649
    have VC_649 := VC_647.ext E649
    clear OL_647 VC_647
    have Zs649 : n0 ≤ h649.size := Nat.le_trans Zs647 E649.1
    have Fv : Fld Z h649 ob "java/lang/String" "value" "[B" .null := D649 (Or.inr (hw _ (List.mem_of_getElem? (i := 34) rfl))) (ty := (.array .byte)) (by decide)
    have Fc : Fld Z h649 ob "java/lang/String" "coder" "B" (.int (0 : Int32)) := D649 (Or.inr (hw _ (List.mem_of_getElem? (i := 32) rfl))) (ty := .byte) (by decide)
    have VCz : AV Z h649 ar .char 4 (fun j => .int ((own_G c0 c1 c2 c3) j)) := AV.congr VC_649 (own_sc4 c0 c1 c2 c3 _ r0 r1 r2 r3)
    have R650 : ∀ tg, Steps p.tables e below (T649.setTop (mkF m 161 #[vI p1, vI p2, vI p3, vI p4, vI p5, vI p6, vI c0, vI c1, vI c2, vI c3, vI (4 : Int32), vI (own_bad p6), vR ar, .unset, .unset, .unset, .unset] [(.ref ar), (.ref ob), (.ref ob)])) tg → Steps p.tables e below (s₁.setTop (mkF m 0 #[vI p1, vI p2, vI p3, vI p4, vI p5, vI p6, .unset, .unset, .unset, .unset, .unset, .unset, .unset, .unset, .unset, .unset, .unset] [])) tg := by
      intro tg kt
      refine R648 _ ?_
      refine st649 _ ?_
      refine XS.dup X649.here hx rfl (hb hby at_158) rfl rfl ?_
      refine XS.aload X649.here hx rfl (hb hby at_159) rfl rfl ?_
      exact kt
    clear R648 st649
    obtain ⟨_, _, ⟨T651, L651, k651, n651⟩, -, X651, ⟨Lc651, hQ651, l651, y651, z651⟩, st651⟩ := X649.specialBack hx (y := (⟨"java/lang/String", "<init>", "([C)V"⟩ : MethodName)) rfl hown (mvT hZ (hw _ (List.mem_of_getElem? (i := 9) rfl))) (mvT hZ (hw _ (List.mem_of_getElem? (i := 10) rfl))) (mvT hZ (hw _ (List.mem_of_getElem? (i := 11) rfl))) (by decide) (backOf (W := 1) (rm_in1 l Z a0 hw [] ob ar 4 (own_G c0 c1 c2 c3) cs h649 n0 Zs649 (Or.inr (Or.inr (Or.inr rfl))) VCz (own_Gle _ _ _ _ d0 d1 d2 d3) SC OL_649 hcs (Ne.symm ne_ar_ob) E_ob Fv Fc g_ob) hZ (hw _ (List.mem_of_getElem? (i := 11) rfl)) (hw _ (List.mem_of_getElem? (i := 8) rfl)) (by decide) (by decide)) (g := (mkF m 161 #[vI p1, vI p2, vI p3, vI p4, vI p5, vI p6, vI c0, vI c1, vI c2, vI c3, vI (4 : Int32), vI (own_bad p6), vR ar, .unset, .unset, .unset, .unset] [(.ref ar), (.ref ob), (.ref ob)])) rfl (by rw [hml]; rfl) (Steps.refl _) (a := ob) (argsL := [(.ref ar)]) (rest := [(.ref ob)]) (lenOf pd_22 rfl) rfl (by show 2 * 0 + _ ≤ _; exact Nat.le_of_eq rfl) (hb hby at_161) (fun _ _ => ⟨rfl, e649, (by decide : 2 + 1 ≤ _), (by decide : 8 + 4 ≤ _)⟩)
    dsimp only [Pt.U, Pt.locs, Pt.cells, Pt.slots] at X651 l651 y651 z651 st651 hQ651
    rw [l651, y651, z651] at X651
    obtain ⟨tb, rfl, N651q, szt, K651, E2, Fc2, Fv2, V2⟩ := hQ651
    have N651 := Fr.app N647 N651q
    have OL_652 := OL_649.keep K651 (own_ge1 g_ob)
    clear OL_649
    have Zs652 : n0 ≤ T651.heap.size := Nat.le_trans Zs649 K651.1
    have R653 : ∀ tg, Steps p.tables e below (T651.setTop (mkF m 166 #[vI p1, vI p2, vI p3, vI p4, vI p5, vI p6, vI c0, vI c1, vI c2, vI c3, vI (4 : Int32), vI (own_bad p6), vR ar, vR ob, .unset, .unset, .unset] [])) tg → Steps p.tables e below (s₁.setTop (mkF m 0 #[vI p1, vI p2, vI p3, vI p4, vI p5, vI p6, .unset, .unset, .unset, .unset, .unset, .unset, .unset, .unset, .unset, .unset, .unset] [])) tg := by
      intro tg kt
      refine R650 _ ?_
      refine st651.trans ?_
      show Steps p.tables e below (T651.setTop (mkF m 164 #[vI p1, vI p2, vI p3, vI p4, vI p5, vI p6, vI c0, vI c1, vI c2, vI c3, vI (4 : Int32), vI (own_bad p6), vR ar, .unset, .unset, .unset, .unset] [(.ref ob)])) _
      refine XS.astore X651.here hx rfl (hb hby at_164) rfl rfl (l' := #[vI p1, vI p2, vI p3, vI p4, vI p5, vI p6, vI c0, vI c1, vI c2, vI c3, vI (4 : Int32), vI (own_bad p6), vR ar, vR ob, .unset, .unset, .unset]) rfl ?_
      exact kt
    clear R650 st651
    obtain ⟨T654, h654, X654, e654, E654, A654, D654, -, st654⟩ := newO X651 hx hZ hown (hw _ (List.mem_of_getElem? (i := 35) rfl)) (hw _ (List.mem_of_getElem? (i := 36) rfl)) (hw _ (List.mem_of_getElem? (i := 37) rfl)) rfl (g := (mkF m 166 #[vI p1, vI p2, vI p3, vI p4, vI p5, vI p6, vI c0, vI c1, vI c2, vI c3, vI (4 : Int32), vI (own_bad p6), vR ar, vR ob, .unset, .unset, .unset] [])) rfl (hb hby at_166) (by decide) (by decide)
    obtain ⟨fo, g654⟩ : ∃ z, z = T651.heap.size := ⟨_, rfl⟩
    rw [← g654] at A654 D654 st654
    have E_fo := A654
    have g_fo : n0 ≤ fo := Nat.le_trans Zs652 (Nat.le_of_eq g654.symm)
    have ne_ob_fo : ob ≠ fo := Nat.ne_of_lt (Nat.lt_of_lt_of_le E2.lt (Nat.le_of_eq g654.symm))
    have ne_tb_fo : tb ≠ fo := Nat.ne_of_lt (Nat.lt_of_lt_of_le V2.lt (Nat.le_of_eq g654.symm))
    have OL_654 := OL_652.ext E654
    have E_ob_654 := E2.ext E654
    have FcS_654 := Fc2.ext E654
    have FvS_654 := Fv2.ext E654
    have VS_654 := V2.ext E654
    clear OL_652
    have Zs654 : n0 ≤ h654.size := Nat.le_trans Zs652 E654.1
    have Ft : Fld Z h654 fo "com/example/travessia/travessia/isis/IsisField" "tag" "I" (.int (0 : Int32)) := D654 (Or.inr (hw _ (List.mem_of_getElem? (i := 48) rfl))) (ty := .int) (by decide)
    have Fd : Fld Z h654 fo "com/example/travessia/travessia/isis/IsisField" "data" "Ljava/lang/String;" .null := D654 (Or.inr (hw _ (List.mem_of_getElem? (i := 50) rfl))) (ty := (.object "java/lang/String")) (by decide)
    have Fb : Fld Z h654 fo "com/example/travessia/travessia/isis/IsisField" "badEncoding" "Z" (.int (0 : Int32)) := D654 (Or.inr (hw _ (List.mem_of_getElem? (i := 52) rfl))) (ty := .boolean) (by decide)
    have R655 : ∀ tg, Steps p.tables e below (T654.setTop (mkF m 176 #[vI p1, vI p2, vI p3, vI p4, vI p5, vI p6, vI c0, vI c1, vI c2, vI c3, vI (4 : Int32), vI (own_bad p6), vR ar, vR ob, .unset, .unset, .unset] [(.int (own_bad p6)), (.ref ob), (.int p5), (.ref fo), (.ref fo)])) tg → Steps p.tables e below (s₁.setTop (mkF m 0 #[vI p1, vI p2, vI p3, vI p4, vI p5, vI p6, .unset, .unset, .unset, .unset, .unset, .unset, .unset, .unset, .unset, .unset, .unset] [])) tg := by
      intro tg kt
      refine R653 _ ?_
      refine st654 _ ?_
      refine XS.dup X654.here hx rfl (hb hby at_169) rfl rfl ?_
      refine XS.iload X654.here hx rfl (hb hby at_170) rfl ?_
      show Steps p.tables e below (T654.setTop (mkF m 172 #[vI p1, vI p2, vI p3, vI p4, vI p5, vI p6, vI c0, vI c1, vI c2, vI c3, vI (4 : Int32), vI (own_bad p6), vR ar, vR ob, .unset, .unset, .unset] [(.int p5), (.ref fo), (.ref fo)])) _
      refine XS.aload X654.here hx rfl (hb hby at_172) rfl rfl ?_
      refine XS.iload X654.here hx rfl (hb hby at_174) rfl ?_
      exact kt
    clear R653 st654
    obtain ⟨_, _, ⟨T656, L656, k656, n656⟩, -, X656, ⟨Lc656, hQ656, l656, y656, z656⟩, st656⟩ := X654.specialBack hx (y := (⟨"com/example/travessia/travessia/isis/IsisField", "<init>", "(ILjava/lang/String;Z)V"⟩ : MethodName)) rfl hown (mvT hZ (hw _ (List.mem_of_getElem? (i := 38) rfl))) (mvT hZ (hw _ (List.mem_of_getElem? (i := 39) rfl))) (mvT hZ (hw _ (List.mem_of_getElem? (i := 40) rfl))) (by decide) (backOf (W := 1) (rm_isi l Z a0 hw [] fo p5 ob (own_bad p6) h654 n0 Zs654 E_fo Ft Fd Fb g_fo (own_bad01 p6)) hZ (hw _ (List.mem_of_getElem? (i := 40) rfl)) (hw _ (List.mem_of_getElem? (i := 37) rfl)) (by decide) (by decide)) (g := (mkF m 176 #[vI p1, vI p2, vI p3, vI p4, vI p5, vI p6, vI c0, vI c1, vI c2, vI c3, vI (4 : Int32), vI (own_bad p6), vR ar, vR ob, .unset, .unset, .unset] [(.int (own_bad p6)), (.ref ob), (.int p5), (.ref fo), (.ref fo)])) rfl (by rw [hml]; rfl) (Steps.refl _) (a := fo) (argsL := [(.int p5), (.ref ob), (.int (own_bad p6))]) (rest := [(.ref fo)]) (lenOf pd_23 rfl) rfl (by show 2 * 0 + _ ≤ _; exact Nat.le_of_eq rfl) (hb hby at_176) (fun _ _ => ⟨rfl, e654, (by decide : 4 + 0 ≤ _), (by decide : 15 + 0 ≤ _)⟩)
    dsimp only [Pt.U, Pt.locs, Pt.cells, Pt.slots] at X656 l656 y656 z656 st656 hQ656
    rw [l656, y656, z656] at X656
    obtain ⟨rfl, N656q, K656, E3, Fd3⟩ := hQ656
    have N656 := Fr.app N651 N656q
    have OL_657 := OL_654.keep K656 (own_ge1 g_fo)
    have E_ob_657 := E_ob_654.keep K656
    have FcS_657 := FcS_654.keep K656 (own_notin1 ne_ob_fo)
    have FvS_657 := FvS_654.keep K656 (own_notin1 ne_ob_fo)
    have VS_657 := VS_654.keep K656 (own_notin1 ne_tb_fo)
    clear OL_654 E_ob_654 FcS_654 FvS_654 VS_654
    have Zs657 : n0 ≤ T656.heap.size := Nat.le_trans Zs654 K656.1
    have R658 : ∀ tg, Steps p.tables e below (T656.setTop (mkF m 183 #[vI p1, vI p2, vI p3, vI p4, vI p5, vI p6, vI c0, vI c1, vI c2, vI c3, vI (4 : Int32), vI (own_bad p6), vR ar, vR ob, vR fo, .unset, .unset] [(.ref fo)])) tg → Steps p.tables e below (s₁.setTop (mkF m 0 #[vI p1, vI p2, vI p3, vI p4, vI p5, vI p6, .unset, .unset, .unset, .unset, .unset, .unset, .unset, .unset, .unset, .unset, .unset] [])) tg := by
      intro tg kt
      refine R655 _ ?_
      refine st656.trans ?_
      show Steps p.tables e below (T656.setTop (mkF m 179 #[vI p1, vI p2, vI p3, vI p4, vI p5, vI p6, vI c0, vI c1, vI c2, vI c3, vI (4 : Int32), vI (own_bad p6), vR ar, vR ob, .unset, .unset, .unset] [(.ref fo)])) _
      refine XS.astore X656.here hx rfl (hb hby at_179) rfl rfl (l' := #[vI p1, vI p2, vI p3, vI p4, vI p5, vI p6, vI c0, vI c1, vI c2, vI c3, vI (4 : Int32), vI (own_bad p6), vR ar, vR ob, vR fo, .unset, .unset]) rfl ?_
      refine XS.aload X656.here hx rfl (hb hby at_181) rfl rfl ?_
      exact kt
    clear R655 st656
    by_cases hv0 : c0 = (94 : Int32)
    · obtain ⟨cq659, kq659, q659a, q659b, q659c⟩ := isOf hZ rfl E3
      obtain ⟨_, _, ⟨T659, L659, k659, n659⟩, -, X659, S659, gr659, ⟨Lc659, hQ659, l659, y659, z659⟩, st659⟩ := X656.virtualBackS hx (y := (⟨"com/example/travessia/travessia/isis/IsisField", "leadingText", "()Ljava/lang/String;"⟩ : MethodName)) (z := (⟨"com/example/travessia/travessia/isis/IsisField", "leadingText", "()Ljava/lang/String;"⟩ : MethodName)) hown (mvT hZ (hw _ (List.mem_of_getElem? (i := 53) rfl))) (mvT hZ (hw _ (List.mem_of_getElem? (i := 54) rfl))) (notFace_of_selects (args := #[]) (mvT hZ (hw _ (List.mem_of_getElem? (i := 56) rfl)))) (mvT hZ (hw _ (List.mem_of_getElem? (i := 56) rfl))) (mvT hZ (hw _ (List.mem_of_getElem? (i := 55) rfl))) (by decide) (own_backI (W := 0) (rm_ltC l Z a0 hw [] fo ob tb 4 (fun j => own_bv ((own_G c0 c1 c2 c3) j)) cs vf T656.heap n0 Zs657 (Or.inr (Or.inr (Or.inr rfl))) SC OL_657 hcs SF hvf E_ob_657 FcS_657 FvS_657 VS_657 E3 Fd3 (own_ixk_4_0 (fun j => own_bv ((own_G c0 c1 c2 c3) j)) (b0.mpr hv0)) hc151 hcw) hZ hI (hw _ (List.mem_of_getElem? (i := 57) rfl)) (hw _ (List.mem_of_getElem? (i := 37) rfl)) (by decide) (by decide)) q659a q659c (g := (mkF m 183 #[vI p1, vI p2, vI p3, vI p4, vI p5, vI p6, vI c0, vI c1, vI c2, vI c3, vI (4 : Int32), vI (own_bad p6), vR ar, vR ob, vR fo, .unset, .unset] [(.ref fo)])) rfl (by rw [hml]; rfl) (Steps.refl _) (argsL := []) (rest := []) (lenOf pd_24 rfl) rfl (by show 2 * 0 + _ ≤ _; exact Nat.le_of_eq rfl) (hb hby at_183) (fun _ _ => ⟨rfl, rfl, (by decide : 4 + 2 ≤ _), (by decide : 15 + 4 ≤ _)⟩)
      dsimp only [Pt.U, Pt.locs, Pt.cells, Pt.slots] at X659 S659 gr659 l659 y659 z659 st659 hQ659
      rw [l659, y659, z659] at X659
      have hZ : Z.Warmed39 (s.setVm T659.vm).vm := State.Warmed39.trans hZ S659.1
      have hown : (s.setVm T659.vm).vm.findClass "com/example/travessia/travessia/isis/IsisFieldLeadingTextPinLaw" = some m.cls := (S659.1.alike.findClass _ _).trans hown
      obtain ⟨aa, t2, rfl, N659q, K659, E4, Fc4, Fv4, V4⟩ := hQ659
      have N659 := Fr.app N656 N659q
      have OL_660 := OL_657.keep K659 (own_ge0)
      clear OL_657
      have Zs660 : n0 ≤ T659.heap.size := Nat.le_trans Zs657 K659.1
      have R661 : ∀ tg, Steps p.tables e below (T659.setTop (mkF m 188 #[vI p1, vI p2, vI p3, vI p4, vI p5, vI p6, vI c0, vI c1, vI c2, vI c3, vI (4 : Int32), vI (own_bad p6), vR ar, vR ob, vR fo, vR aa, .unset] [])) tg → Steps p.tables e below (s₁.setTop (mkF m 0 #[vI p1, vI p2, vI p3, vI p4, vI p5, vI p6, .unset, .unset, .unset, .unset, .unset, .unset, .unset, .unset, .unset, .unset, .unset] [])) tg := by
        intro tg kt
        refine R658 _ ?_
        refine st659.trans ?_
        show Steps p.tables e below (T659.setTop (mkF m 186 #[vI p1, vI p2, vI p3, vI p4, vI p5, vI p6, vI c0, vI c1, vI c2, vI c3, vI (4 : Int32), vI (own_bad p6), vR ar, vR ob, vR fo, .unset, .unset] [(.ref aa)])) _
        refine XS.astore X659.here hx rfl (hb hby at_186) rfl rfl (l' := #[vI p1, vI p2, vI p3, vI p4, vI p5, vI p6, vI c0, vI c1, vI c2, vI c3, vI (4 : Int32), vI (own_bad p6), vR ar, vR ob, vR fo, vR aa, .unset]) rfl ?_
        exact kt
      clear R658 st659
      have R662 : ∀ tg, Steps p.tables e below (T659.setTop (mkF m 255 #[vI p1, vI p2, vI p3, vI p4, vI p5, vI p6, vI c0, vI c1, vI c2, vI c3, vI (4 : Int32), vI (own_bad p6), vR ar, vR ob, vR fo, vR aa, vI (own_k1 (0 : Int32) (4 : Int32) c0 (0 : Int32) (own_k1 (1 : Int32) (4 : Int32) c1 (1 : Int32) (own_k1 (2 : Int32) (4 : Int32) c2 (2 : Int32) (own_k1 (3 : Int32) (4 : Int32) c3 (3 : Int32) (4 : Int32)))))] [])) tg → Steps p.tables e below (s₁.setTop (mkF m 0 #[vI p1, vI p2, vI p3, vI p4, vI p5, vI p6, .unset, .unset, .unset, .unset, .unset, .unset, .unset, .unset, .unset, .unset, .unset] [])) tg := fun tg kt => R661 tg (own_t188 6 19 (4 : Int32) p1 p2 p3 p4 p5 p6 c0 c1 c2 c3 (own_bad p6) ar ob fo aa X659 hx hZ hw hby hml hown rfl N659 tg kt)
      have R663 : ∀ tg, Steps p.tables e below (T659.setTop (mkF m 255 #[vI p1, vI p2, vI p3, vI p4, vI p5, vI p6, vI c0, vI c1, vI c2, vI c3, vI (4 : Int32), vI (own_bad p6), vR ar, vR ob, vR fo, vR aa, vI (0 : Int32)] [])) tg → Steps p.tables e below (s₁.setTop (mkF m 0 #[vI p1, vI p2, vI p3, vI p4, vI p5, vI p6, .unset, .unset, .unset, .unset, .unset, .unset, .unset, .unset, .unset, .unset, .unset] [])) tg := by intro tg kt; refine R662 tg ?_; rw [show (own_k1 (0 : Int32) (4 : Int32) c0 (0 : Int32) (own_k1 (1 : Int32) (4 : Int32) c1 (1 : Int32) (own_k1 (2 : Int32) (4 : Int32) c2 (2 : Int32) (own_k1 (3 : Int32) (4 : Int32) c3 (3 : Int32) (4 : Int32))))) = (0 : Int32) from (own_hit (by decide) hv0)]; exact kt
      obtain ⟨T664, L664, X664, e664, N664, st664⟩ := own_t255_0 6 19 (4 : Int32) p1 p2 p3 p4 p5 p6 c0 c1 c2 c3 (own_bad p6) ar ob fo aa t2 (fun j => ([] : List Int32).getD j 0) cs vf X659 hx hZ hw hby hml hown (by decide) (by decide) rfl N659 Zs660 SC OL_660 hcs SF hvf E4 Fc4 Fv4 V4 
      have R665 : ∀ tg, Steps p.tables e below (T664.setTop (mkF m 348 #[vI p1, vI p2, vI p3, vI p4, vI p5, vI p6, vI c0, vI c1, vI c2, vI c3, vI (4 : Int32), vI (own_bad p6), vR ar, vR ob, vR fo, vR aa, vI (0 : Int32)] [(.int (1 : Int32))])) tg → Steps p.tables e below (s₁.setTop (mkF m 0 #[vI p1, vI p2, vI p3, vI p4, vI p5, vI p6, .unset, .unset, .unset, .unset, .unset, .unset, .unset, .unset, .unset, .unset, .unset] [])) tg := by
        intro tg kt
        refine R663 _ ?_
        refine st664 _ ?_
        exact kt
      clear R663 st664
      obtain ⟨fs, hr, hrun, hended, hR⟩ := Stand.leaveW (s := s) (vm₁ := T659.vm) X664 S659 (by rw [e664]; exact (Nat.le_refl T659.heap.size)) (v := some (.int (1 : Int32))) (fun h => by rw [Bd.returns] at h; cases h)
      refine ⟨_, _, pre0 _ (R665 _ ?_), hrun, hended, _, _, rfl, ?_, hR.1, hR.2.1, hR.2.2.1, hR.2.2.2.mono (by decide) (by decide)⟩
      · exact retN X664 hx (t := .boolean) Bd.returns (by simp) (hb hby at_348) hr
      · show Q_rm_law Z p1 p2 p3 p4 p5 p6 cs vf h0 n0 _ T664.heap _
        rw [e664]
        exact ⟨rfl, N664⟩
    · by_cases hv1 : c1 = (94 : Int32)
      · obtain ⟨cq666, kq666, q666a, q666b, q666c⟩ := isOf hZ rfl E3
        obtain ⟨_, _, ⟨T666, L666, k666, n666⟩, -, X666, ⟨Lc666, hQ666, l666, y666, z666⟩, st666⟩ := X656.virtualBack hx (y := (⟨"com/example/travessia/travessia/isis/IsisField", "leadingText", "()Ljava/lang/String;"⟩ : MethodName)) (z := (⟨"com/example/travessia/travessia/isis/IsisField", "leadingText", "()Ljava/lang/String;"⟩ : MethodName)) hown (mvT hZ (hw _ (List.mem_of_getElem? (i := 53) rfl))) (mvT hZ (hw _ (List.mem_of_getElem? (i := 54) rfl))) (notFace_of_selects (args := #[]) (mvT hZ (hw _ (List.mem_of_getElem? (i := 56) rfl)))) (mvT hZ (hw _ (List.mem_of_getElem? (i := 56) rfl))) (mvT hZ (hw _ (List.mem_of_getElem? (i := 55) rfl))) (by decide) (backOf (W := 0) (rm_ltB l Z a0 hw [] fo ob tb 1 4 (fun j => own_bv ((own_G c0 c1 c2 c3) j)) cs vf T656.heap n0 Zs657 (by decide) (by decide) (by decide) (Or.inr (Or.inr (Or.inr (Or.inr rfl)))) SC OL_657 hcs SF hvf E_ob_657 FcS_657 FvS_657 VS_657 E3 Fd3 (own_ixk_4_1 (fun j => own_bv ((own_G c0 c1 c2 c3) j)) (fun q => hv0 (b0.mp q)) (b1.mpr hv1))) hZ (hw _ (List.mem_of_getElem? (i := 57) rfl)) (hw _ (List.mem_of_getElem? (i := 37) rfl)) (by decide) (by decide)) q666a q666c (g := (mkF m 183 #[vI p1, vI p2, vI p3, vI p4, vI p5, vI p6, vI c0, vI c1, vI c2, vI c3, vI (4 : Int32), vI (own_bad p6), vR ar, vR ob, vR fo, .unset, .unset] [(.ref fo)])) rfl (by rw [hml]; rfl) (Steps.refl _) (argsL := []) (rest := []) (lenOf pd_24 rfl) rfl (by show 2 * 0 + _ ≤ _; exact Nat.le_of_eq rfl) (hb hby at_183) (fun _ _ => ⟨rfl, rfl, (by decide : 4 + 2 ≤ _), (by decide : 15 + 8 ≤ _)⟩)
        dsimp only [Pt.U, Pt.locs, Pt.cells, Pt.slots] at X666 l666 y666 z666 st666 hQ666
        rw [l666, y666, z666] at X666
        obtain ⟨aa, t2, rfl, N666q, K666, E4, Fc4, Fv4, V4⟩ := hQ666
        have N666 := Fr.app N656 N666q
        have OL_667 := OL_657.keep K666 (own_ge0)
        clear OL_657
        have Zs667 : n0 ≤ T666.heap.size := Nat.le_trans Zs657 K666.1
        have R668 : ∀ tg, Steps p.tables e below (T666.setTop (mkF m 188 #[vI p1, vI p2, vI p3, vI p4, vI p5, vI p6, vI c0, vI c1, vI c2, vI c3, vI (4 : Int32), vI (own_bad p6), vR ar, vR ob, vR fo, vR aa, .unset] [])) tg → Steps p.tables e below (s₁.setTop (mkF m 0 #[vI p1, vI p2, vI p3, vI p4, vI p5, vI p6, .unset, .unset, .unset, .unset, .unset, .unset, .unset, .unset, .unset, .unset, .unset] [])) tg := by
          intro tg kt
          refine R658 _ ?_
          refine st666.trans ?_
          show Steps p.tables e below (T666.setTop (mkF m 186 #[vI p1, vI p2, vI p3, vI p4, vI p5, vI p6, vI c0, vI c1, vI c2, vI c3, vI (4 : Int32), vI (own_bad p6), vR ar, vR ob, vR fo, .unset, .unset] [(.ref aa)])) _
          refine XS.astore X666.here hx rfl (hb hby at_186) rfl rfl (l' := #[vI p1, vI p2, vI p3, vI p4, vI p5, vI p6, vI c0, vI c1, vI c2, vI c3, vI (4 : Int32), vI (own_bad p6), vR ar, vR ob, vR fo, vR aa, .unset]) rfl ?_
          exact kt
        clear R658 st666
        have R669 : ∀ tg, Steps p.tables e below (T666.setTop (mkF m 255 #[vI p1, vI p2, vI p3, vI p4, vI p5, vI p6, vI c0, vI c1, vI c2, vI c3, vI (4 : Int32), vI (own_bad p6), vR ar, vR ob, vR fo, vR aa, vI (own_k1 (0 : Int32) (4 : Int32) c0 (0 : Int32) (own_k1 (1 : Int32) (4 : Int32) c1 (1 : Int32) (own_k1 (2 : Int32) (4 : Int32) c2 (2 : Int32) (own_k1 (3 : Int32) (4 : Int32) c3 (3 : Int32) (4 : Int32)))))] [])) tg → Steps p.tables e below (s₁.setTop (mkF m 0 #[vI p1, vI p2, vI p3, vI p4, vI p5, vI p6, .unset, .unset, .unset, .unset, .unset, .unset, .unset, .unset, .unset, .unset, .unset] [])) tg := fun tg kt => R668 tg (own_t188 6 23 (4 : Int32) p1 p2 p3 p4 p5 p6 c0 c1 c2 c3 (own_bad p6) ar ob fo aa X666 hx hZ hw hby hml hown rfl N666 tg kt)
        have R670 : ∀ tg, Steps p.tables e below (T666.setTop (mkF m 255 #[vI p1, vI p2, vI p3, vI p4, vI p5, vI p6, vI c0, vI c1, vI c2, vI c3, vI (4 : Int32), vI (own_bad p6), vR ar, vR ob, vR fo, vR aa, vI (1 : Int32)] [])) tg → Steps p.tables e below (s₁.setTop (mkF m 0 #[vI p1, vI p2, vI p3, vI p4, vI p5, vI p6, .unset, .unset, .unset, .unset, .unset, .unset, .unset, .unset, .unset, .unset, .unset] [])) tg := by intro tg kt; refine R669 tg ?_; rw [show (own_k1 (0 : Int32) (4 : Int32) c0 (0 : Int32) (own_k1 (1 : Int32) (4 : Int32) c1 (1 : Int32) (own_k1 (2 : Int32) (4 : Int32) c2 (2 : Int32) (own_k1 (3 : Int32) (4 : Int32) c3 (3 : Int32) (4 : Int32))))) = (1 : Int32) from ((own_miss hv0).trans (own_hit (by decide) hv1))]; exact kt
        obtain ⟨T671, L671, X671, e671, N671, st671⟩ := own_t255_1 6 23 (4 : Int32) p1 p2 p3 p4 p5 p6 c0 c1 c2 c3 (own_bad p6) ar ob fo aa t2 (fun j => own_bv ((own_G c0 c1 c2 c3) j)) cs vf X666 hx hZ hw hby hml hown (by decide) (by decide) rfl N666 Zs667 SC OL_667 hcs SF hvf E4 Fc4 Fv4 V4 q0
        have R672 : ∀ tg, Steps p.tables e below (T671.setTop (mkF m 348 #[vI p1, vI p2, vI p3, vI p4, vI p5, vI p6, vI c0, vI c1, vI c2, vI c3, vI (4 : Int32), vI (own_bad p6), vR ar, vR ob, vR fo, vR aa, vI (1 : Int32)] [(.int (1 : Int32))])) tg → Steps p.tables e below (s₁.setTop (mkF m 0 #[vI p1, vI p2, vI p3, vI p4, vI p5, vI p6, .unset, .unset, .unset, .unset, .unset, .unset, .unset, .unset, .unset, .unset, .unset] [])) tg := by
          intro tg kt
          refine R670 _ ?_
          refine st671 _ ?_
          exact kt
        clear R670 st671
        obtain ⟨fs, hr, hrun, hended, hR⟩ := Stand.leaveW (s := s) (vm₁ := s.vm) X671 hS0 (Nat.zero_le _) (v := some (.int (1 : Int32))) (fun h => by rw [Bd.returns] at h; cases h)
        refine ⟨_, _, pre0 _ (R672 _ ?_), hrun, hended, _, _, rfl, ?_, hR.1, hR.2.1, hR.2.2.1, hR.2.2.2.mono (by decide) (by decide)⟩
        · exact retN X671 hx (t := .boolean) Bd.returns (by simp) (hb hby at_348) hr
        · show Q_rm_law Z p1 p2 p3 p4 p5 p6 cs vf h0 n0 _ T671.heap _
          rw [e671]
          exact ⟨rfl, N671⟩
      · by_cases hv2 : c2 = (94 : Int32)
        · obtain ⟨cq673, kq673, q673a, q673b, q673c⟩ := isOf hZ rfl E3
          obtain ⟨_, _, ⟨T673, L673, k673, n673⟩, -, X673, ⟨Lc673, hQ673, l673, y673, z673⟩, st673⟩ := X656.virtualBack hx (y := (⟨"com/example/travessia/travessia/isis/IsisField", "leadingText", "()Ljava/lang/String;"⟩ : MethodName)) (z := (⟨"com/example/travessia/travessia/isis/IsisField", "leadingText", "()Ljava/lang/String;"⟩ : MethodName)) hown (mvT hZ (hw _ (List.mem_of_getElem? (i := 53) rfl))) (mvT hZ (hw _ (List.mem_of_getElem? (i := 54) rfl))) (notFace_of_selects (args := #[]) (mvT hZ (hw _ (List.mem_of_getElem? (i := 56) rfl)))) (mvT hZ (hw _ (List.mem_of_getElem? (i := 56) rfl))) (mvT hZ (hw _ (List.mem_of_getElem? (i := 55) rfl))) (by decide) (backOf (W := 0) (rm_ltB l Z a0 hw [] fo ob tb 2 4 (fun j => own_bv ((own_G c0 c1 c2 c3) j)) cs vf T656.heap n0 Zs657 (by decide) (by decide) (by decide) (Or.inr (Or.inr (Or.inr (Or.inr rfl)))) SC OL_657 hcs SF hvf E_ob_657 FcS_657 FvS_657 VS_657 E3 Fd3 (own_ixk_4_2 (fun j => own_bv ((own_G c0 c1 c2 c3) j)) (fun q => hv0 (b0.mp q)) (fun q => hv1 (b1.mp q)) (b2.mpr hv2))) hZ (hw _ (List.mem_of_getElem? (i := 57) rfl)) (hw _ (List.mem_of_getElem? (i := 37) rfl)) (by decide) (by decide)) q673a q673c (g := (mkF m 183 #[vI p1, vI p2, vI p3, vI p4, vI p5, vI p6, vI c0, vI c1, vI c2, vI c3, vI (4 : Int32), vI (own_bad p6), vR ar, vR ob, vR fo, .unset, .unset] [(.ref fo)])) rfl (by rw [hml]; rfl) (Steps.refl _) (argsL := []) (rest := []) (lenOf pd_24 rfl) rfl (by show 2 * 0 + _ ≤ _; exact Nat.le_of_eq rfl) (hb hby at_183) (fun _ _ => ⟨rfl, rfl, (by decide : 4 + 2 ≤ _), (by decide : 15 + 8 ≤ _)⟩)
          dsimp only [Pt.U, Pt.locs, Pt.cells, Pt.slots] at X673 l673 y673 z673 st673 hQ673
          rw [l673, y673, z673] at X673
          obtain ⟨aa, t2, rfl, N673q, K673, E4, Fc4, Fv4, V4⟩ := hQ673
          have N673 := Fr.app N656 N673q
          have OL_674 := OL_657.keep K673 (own_ge0)
          clear OL_657
          have Zs674 : n0 ≤ T673.heap.size := Nat.le_trans Zs657 K673.1
          have R675 : ∀ tg, Steps p.tables e below (T673.setTop (mkF m 188 #[vI p1, vI p2, vI p3, vI p4, vI p5, vI p6, vI c0, vI c1, vI c2, vI c3, vI (4 : Int32), vI (own_bad p6), vR ar, vR ob, vR fo, vR aa, .unset] [])) tg → Steps p.tables e below (s₁.setTop (mkF m 0 #[vI p1, vI p2, vI p3, vI p4, vI p5, vI p6, .unset, .unset, .unset, .unset, .unset, .unset, .unset, .unset, .unset, .unset, .unset] [])) tg := by
            intro tg kt
            refine R658 _ ?_
            refine st673.trans ?_
            show Steps p.tables e below (T673.setTop (mkF m 186 #[vI p1, vI p2, vI p3, vI p4, vI p5, vI p6, vI c0, vI c1, vI c2, vI c3, vI (4 : Int32), vI (own_bad p6), vR ar, vR ob, vR fo, .unset, .unset] [(.ref aa)])) _
            refine XS.astore X673.here hx rfl (hb hby at_186) rfl rfl (l' := #[vI p1, vI p2, vI p3, vI p4, vI p5, vI p6, vI c0, vI c1, vI c2, vI c3, vI (4 : Int32), vI (own_bad p6), vR ar, vR ob, vR fo, vR aa, .unset]) rfl ?_
            exact kt
          clear R658 st673
          have R676 : ∀ tg, Steps p.tables e below (T673.setTop (mkF m 255 #[vI p1, vI p2, vI p3, vI p4, vI p5, vI p6, vI c0, vI c1, vI c2, vI c3, vI (4 : Int32), vI (own_bad p6), vR ar, vR ob, vR fo, vR aa, vI (own_k1 (0 : Int32) (4 : Int32) c0 (0 : Int32) (own_k1 (1 : Int32) (4 : Int32) c1 (1 : Int32) (own_k1 (2 : Int32) (4 : Int32) c2 (2 : Int32) (own_k1 (3 : Int32) (4 : Int32) c3 (3 : Int32) (4 : Int32)))))] [])) tg → Steps p.tables e below (s₁.setTop (mkF m 0 #[vI p1, vI p2, vI p3, vI p4, vI p5, vI p6, .unset, .unset, .unset, .unset, .unset, .unset, .unset, .unset, .unset, .unset, .unset] [])) tg := fun tg kt => R675 tg (own_t188 6 23 (4 : Int32) p1 p2 p3 p4 p5 p6 c0 c1 c2 c3 (own_bad p6) ar ob fo aa X673 hx hZ hw hby hml hown rfl N673 tg kt)
          have R677 : ∀ tg, Steps p.tables e below (T673.setTop (mkF m 255 #[vI p1, vI p2, vI p3, vI p4, vI p5, vI p6, vI c0, vI c1, vI c2, vI c3, vI (4 : Int32), vI (own_bad p6), vR ar, vR ob, vR fo, vR aa, vI (2 : Int32)] [])) tg → Steps p.tables e below (s₁.setTop (mkF m 0 #[vI p1, vI p2, vI p3, vI p4, vI p5, vI p6, .unset, .unset, .unset, .unset, .unset, .unset, .unset, .unset, .unset, .unset, .unset] [])) tg := by intro tg kt; refine R676 tg ?_; rw [show (own_k1 (0 : Int32) (4 : Int32) c0 (0 : Int32) (own_k1 (1 : Int32) (4 : Int32) c1 (1 : Int32) (own_k1 (2 : Int32) (4 : Int32) c2 (2 : Int32) (own_k1 (3 : Int32) (4 : Int32) c3 (3 : Int32) (4 : Int32))))) = (2 : Int32) from ((own_miss hv0).trans ((own_miss hv1).trans (own_hit (by decide) hv2)))]; exact kt
          obtain ⟨T678, L678, X678, e678, N678, st678⟩ := own_t255_2 6 23 (4 : Int32) p1 p2 p3 p4 p5 p6 c0 c1 c2 c3 (own_bad p6) ar ob fo aa t2 (fun j => own_bv ((own_G c0 c1 c2 c3) j)) cs vf X673 hx hZ hw hby hml hown (by decide) (by decide) rfl N673 Zs674 SC OL_674 hcs SF hvf E4 Fc4 Fv4 V4 q0 q1
          have R679 : ∀ tg, Steps p.tables e below (T678.setTop (mkF m 348 #[vI p1, vI p2, vI p3, vI p4, vI p5, vI p6, vI c0, vI c1, vI c2, vI c3, vI (4 : Int32), vI (own_bad p6), vR ar, vR ob, vR fo, vR aa, vI (2 : Int32)] [(.int (1 : Int32))])) tg → Steps p.tables e below (s₁.setTop (mkF m 0 #[vI p1, vI p2, vI p3, vI p4, vI p5, vI p6, .unset, .unset, .unset, .unset, .unset, .unset, .unset, .unset, .unset, .unset, .unset] [])) tg := by
            intro tg kt
            refine R677 _ ?_
            refine st678 _ ?_
            exact kt
          clear R677 st678
          obtain ⟨fs, hr, hrun, hended, hR⟩ := Stand.leaveW (s := s) (vm₁ := s.vm) X678 hS0 (Nat.zero_le _) (v := some (.int (1 : Int32))) (fun h => by rw [Bd.returns] at h; cases h)
          refine ⟨_, _, pre0 _ (R679 _ ?_), hrun, hended, _, _, rfl, ?_, hR.1, hR.2.1, hR.2.2.1, hR.2.2.2.mono (by decide) (by decide)⟩
          · exact retN X678 hx (t := .boolean) Bd.returns (by simp) (hb hby at_348) hr
          · show Q_rm_law Z p1 p2 p3 p4 p5 p6 cs vf h0 n0 _ T678.heap _
            rw [e678]
            exact ⟨rfl, N678⟩
        · by_cases hv3 : c3 = (94 : Int32)
          · obtain ⟨cq680, kq680, q680a, q680b, q680c⟩ := isOf hZ rfl E3
            obtain ⟨_, _, ⟨T680, L680, k680, n680⟩, -, X680, ⟨Lc680, hQ680, l680, y680, z680⟩, st680⟩ := X656.virtualBack hx (y := (⟨"com/example/travessia/travessia/isis/IsisField", "leadingText", "()Ljava/lang/String;"⟩ : MethodName)) (z := (⟨"com/example/travessia/travessia/isis/IsisField", "leadingText", "()Ljava/lang/String;"⟩ : MethodName)) hown (mvT hZ (hw _ (List.mem_of_getElem? (i := 53) rfl))) (mvT hZ (hw _ (List.mem_of_getElem? (i := 54) rfl))) (notFace_of_selects (args := #[]) (mvT hZ (hw _ (List.mem_of_getElem? (i := 56) rfl)))) (mvT hZ (hw _ (List.mem_of_getElem? (i := 56) rfl))) (mvT hZ (hw _ (List.mem_of_getElem? (i := 55) rfl))) (by decide) (backOf (W := 0) (rm_ltB l Z a0 hw [] fo ob tb 3 4 (fun j => own_bv ((own_G c0 c1 c2 c3) j)) cs vf T656.heap n0 Zs657 (by decide) (by decide) (by decide) (Or.inr (Or.inr (Or.inr (Or.inr rfl)))) SC OL_657 hcs SF hvf E_ob_657 FcS_657 FvS_657 VS_657 E3 Fd3 (own_ixk_4_3 (fun j => own_bv ((own_G c0 c1 c2 c3) j)) (fun q => hv0 (b0.mp q)) (fun q => hv1 (b1.mp q)) (fun q => hv2 (b2.mp q)) (b3.mpr hv3))) hZ (hw _ (List.mem_of_getElem? (i := 57) rfl)) (hw _ (List.mem_of_getElem? (i := 37) rfl)) (by decide) (by decide)) q680a q680c (g := (mkF m 183 #[vI p1, vI p2, vI p3, vI p4, vI p5, vI p6, vI c0, vI c1, vI c2, vI c3, vI (4 : Int32), vI (own_bad p6), vR ar, vR ob, vR fo, .unset, .unset] [(.ref fo)])) rfl (by rw [hml]; rfl) (Steps.refl _) (argsL := []) (rest := []) (lenOf pd_24 rfl) rfl (by show 2 * 0 + _ ≤ _; exact Nat.le_of_eq rfl) (hb hby at_183) (fun _ _ => ⟨rfl, rfl, (by decide : 4 + 2 ≤ _), (by decide : 15 + 8 ≤ _)⟩)
            dsimp only [Pt.U, Pt.locs, Pt.cells, Pt.slots] at X680 l680 y680 z680 st680 hQ680
            rw [l680, y680, z680] at X680
            obtain ⟨aa, t2, rfl, N680q, K680, E4, Fc4, Fv4, V4⟩ := hQ680
            have N680 := Fr.app N656 N680q
            have OL_681 := OL_657.keep K680 (own_ge0)
            clear OL_657
            have Zs681 : n0 ≤ T680.heap.size := Nat.le_trans Zs657 K680.1
            have R682 : ∀ tg, Steps p.tables e below (T680.setTop (mkF m 188 #[vI p1, vI p2, vI p3, vI p4, vI p5, vI p6, vI c0, vI c1, vI c2, vI c3, vI (4 : Int32), vI (own_bad p6), vR ar, vR ob, vR fo, vR aa, .unset] [])) tg → Steps p.tables e below (s₁.setTop (mkF m 0 #[vI p1, vI p2, vI p3, vI p4, vI p5, vI p6, .unset, .unset, .unset, .unset, .unset, .unset, .unset, .unset, .unset, .unset, .unset] [])) tg := by
              intro tg kt
              refine R658 _ ?_
              refine st680.trans ?_
              show Steps p.tables e below (T680.setTop (mkF m 186 #[vI p1, vI p2, vI p3, vI p4, vI p5, vI p6, vI c0, vI c1, vI c2, vI c3, vI (4 : Int32), vI (own_bad p6), vR ar, vR ob, vR fo, .unset, .unset] [(.ref aa)])) _
              refine XS.astore X680.here hx rfl (hb hby at_186) rfl rfl (l' := #[vI p1, vI p2, vI p3, vI p4, vI p5, vI p6, vI c0, vI c1, vI c2, vI c3, vI (4 : Int32), vI (own_bad p6), vR ar, vR ob, vR fo, vR aa, .unset]) rfl ?_
              exact kt
            clear R658 st680
            have R683 : ∀ tg, Steps p.tables e below (T680.setTop (mkF m 255 #[vI p1, vI p2, vI p3, vI p4, vI p5, vI p6, vI c0, vI c1, vI c2, vI c3, vI (4 : Int32), vI (own_bad p6), vR ar, vR ob, vR fo, vR aa, vI (own_k1 (0 : Int32) (4 : Int32) c0 (0 : Int32) (own_k1 (1 : Int32) (4 : Int32) c1 (1 : Int32) (own_k1 (2 : Int32) (4 : Int32) c2 (2 : Int32) (own_k1 (3 : Int32) (4 : Int32) c3 (3 : Int32) (4 : Int32)))))] [])) tg → Steps p.tables e below (s₁.setTop (mkF m 0 #[vI p1, vI p2, vI p3, vI p4, vI p5, vI p6, .unset, .unset, .unset, .unset, .unset, .unset, .unset, .unset, .unset, .unset, .unset] [])) tg := fun tg kt => R682 tg (own_t188 6 23 (4 : Int32) p1 p2 p3 p4 p5 p6 c0 c1 c2 c3 (own_bad p6) ar ob fo aa X680 hx hZ hw hby hml hown rfl N680 tg kt)
            have R684 : ∀ tg, Steps p.tables e below (T680.setTop (mkF m 255 #[vI p1, vI p2, vI p3, vI p4, vI p5, vI p6, vI c0, vI c1, vI c2, vI c3, vI (4 : Int32), vI (own_bad p6), vR ar, vR ob, vR fo, vR aa, vI (3 : Int32)] [])) tg → Steps p.tables e below (s₁.setTop (mkF m 0 #[vI p1, vI p2, vI p3, vI p4, vI p5, vI p6, .unset, .unset, .unset, .unset, .unset, .unset, .unset, .unset, .unset, .unset, .unset] [])) tg := by intro tg kt; refine R683 tg ?_; rw [show (own_k1 (0 : Int32) (4 : Int32) c0 (0 : Int32) (own_k1 (1 : Int32) (4 : Int32) c1 (1 : Int32) (own_k1 (2 : Int32) (4 : Int32) c2 (2 : Int32) (own_k1 (3 : Int32) (4 : Int32) c3 (3 : Int32) (4 : Int32))))) = (3 : Int32) from ((own_miss hv0).trans ((own_miss hv1).trans ((own_miss hv2).trans (own_hit (by decide) hv3))))]; exact kt
            obtain ⟨T685, L685, X685, e685, N685, st685⟩ := own_t255_3 6 23 (4 : Int32) p1 p2 p3 p4 p5 p6 c0 c1 c2 c3 (own_bad p6) ar ob fo aa t2 (fun j => own_bv ((own_G c0 c1 c2 c3) j)) cs vf X680 hx hZ hw hby hml hown (by decide) (by decide) rfl N680 Zs681 SC OL_681 hcs SF hvf E4 Fc4 Fv4 V4 q0 q1 q2
            have R686 : ∀ tg, Steps p.tables e below (T685.setTop (mkF m 348 #[vI p1, vI p2, vI p3, vI p4, vI p5, vI p6, vI c0, vI c1, vI c2, vI c3, vI (4 : Int32), vI (own_bad p6), vR ar, vR ob, vR fo, vR aa, vI (3 : Int32)] [(.int (1 : Int32))])) tg → Steps p.tables e below (s₁.setTop (mkF m 0 #[vI p1, vI p2, vI p3, vI p4, vI p5, vI p6, .unset, .unset, .unset, .unset, .unset, .unset, .unset, .unset, .unset, .unset, .unset] [])) tg := by
              intro tg kt
              refine R684 _ ?_
              refine st685 _ ?_
              exact kt
            clear R684 st685
            obtain ⟨fs, hr, hrun, hended, hR⟩ := Stand.leaveW (s := s) (vm₁ := s.vm) X685 hS0 (Nat.zero_le _) (v := some (.int (1 : Int32))) (fun h => by rw [Bd.returns] at h; cases h)
            refine ⟨_, _, pre0 _ (R686 _ ?_), hrun, hended, _, _, rfl, ?_, hR.1, hR.2.1, hR.2.2.1, hR.2.2.2.mono (by decide) (by decide)⟩
            · exact retN X685 hx (t := .boolean) Bd.returns (by simp) (hb hby at_348) hr
            · show Q_rm_law Z p1 p2 p3 p4 p5 p6 cs vf h0 n0 _ T685.heap _
              rw [e685]
              exact ⟨rfl, N685⟩
          · obtain ⟨cq687, kq687, q687a, q687b, q687c⟩ := isOf hZ rfl E3
            obtain ⟨_, _, ⟨T687, L687, k687, n687⟩, -, X687, ⟨Lc687, hQ687, l687, y687, z687⟩, st687⟩ := X656.virtualBack hx (y := (⟨"com/example/travessia/travessia/isis/IsisField", "leadingText", "()Ljava/lang/String;"⟩ : MethodName)) (z := (⟨"com/example/travessia/travessia/isis/IsisField", "leadingText", "()Ljava/lang/String;"⟩ : MethodName)) hown (mvT hZ (hw _ (List.mem_of_getElem? (i := 53) rfl))) (mvT hZ (hw _ (List.mem_of_getElem? (i := 54) rfl))) (notFace_of_selects (args := #[]) (mvT hZ (hw _ (List.mem_of_getElem? (i := 56) rfl)))) (mvT hZ (hw _ (List.mem_of_getElem? (i := 56) rfl))) (mvT hZ (hw _ (List.mem_of_getElem? (i := 55) rfl))) (by decide) (backOf (W := 0) (rm_ltA l Z a0 hw [] fo ob tb 4 (fun j => own_bv ((own_G c0 c1 c2 c3) j)) cs T656.heap n0 Zs657 (Or.inr (Or.inr (Or.inr (Or.inr rfl)))) SC OL_657 hcs E_ob_657 FcS_657 FvS_657 VS_657 E3 Fd3 (own_ixk_4_4 (fun j => own_bv ((own_G c0 c1 c2 c3) j)) (fun q => hv0 (b0.mp q)) (fun q => hv1 (b1.mp q)) (fun q => hv2 (b2.mp q)) (fun q => hv3 (b3.mp q)))) hZ (hw _ (List.mem_of_getElem? (i := 57) rfl)) (hw _ (List.mem_of_getElem? (i := 37) rfl)) (by decide) (by decide)) q687a q687c (g := (mkF m 183 #[vI p1, vI p2, vI p3, vI p4, vI p5, vI p6, vI c0, vI c1, vI c2, vI c3, vI (4 : Int32), vI (own_bad p6), vR ar, vR ob, vR fo, .unset, .unset] [(.ref fo)])) rfl (by rw [hml]; rfl) (Steps.refl _) (argsL := []) (rest := []) (lenOf pd_24 rfl) rfl (by show 2 * 0 + _ ≤ _; exact Nat.le_of_eq rfl) (hb hby at_183) (fun _ _ => ⟨rfl, rfl, (by decide : 4 + 0 ≤ _), (by decide : 15 + 0 ≤ _)⟩)
            dsimp only [Pt.U, Pt.locs, Pt.cells, Pt.slots] at X687 l687 y687 z687 st687 hQ687
            rw [l687, y687, z687] at X687
            obtain ⟨rfl, N687q, hh687⟩ := hQ687
            have N687 := Fr.app N656 N687q
            have R688 : ∀ tg, Steps p.tables e below (T687.setTop (mkF m 188 #[vI p1, vI p2, vI p3, vI p4, vI p5, vI p6, vI c0, vI c1, vI c2, vI c3, vI (4 : Int32), vI (own_bad p6), vR ar, vR ob, vR fo, vR ob, .unset] [])) tg → Steps p.tables e below (s₁.setTop (mkF m 0 #[vI p1, vI p2, vI p3, vI p4, vI p5, vI p6, .unset, .unset, .unset, .unset, .unset, .unset, .unset, .unset, .unset, .unset, .unset] [])) tg := by
              intro tg kt
              refine R658 _ ?_
              refine st687.trans ?_
              show Steps p.tables e below (T687.setTop (mkF m 186 #[vI p1, vI p2, vI p3, vI p4, vI p5, vI p6, vI c0, vI c1, vI c2, vI c3, vI (4 : Int32), vI (own_bad p6), vR ar, vR ob, vR fo, .unset, .unset] [(.ref ob)])) _
              refine XS.astore X687.here hx rfl (hb hby at_186) rfl rfl (l' := #[vI p1, vI p2, vI p3, vI p4, vI p5, vI p6, vI c0, vI c1, vI c2, vI c3, vI (4 : Int32), vI (own_bad p6), vR ar, vR ob, vR fo, vR ob, .unset]) rfl ?_
              exact kt
            clear R658 st687
            have R689 : ∀ tg, Steps p.tables e below (T687.setTop (mkF m 255 #[vI p1, vI p2, vI p3, vI p4, vI p5, vI p6, vI c0, vI c1, vI c2, vI c3, vI (4 : Int32), vI (own_bad p6), vR ar, vR ob, vR fo, vR ob, vI (own_k1 (0 : Int32) (4 : Int32) c0 (0 : Int32) (own_k1 (1 : Int32) (4 : Int32) c1 (1 : Int32) (own_k1 (2 : Int32) (4 : Int32) c2 (2 : Int32) (own_k1 (3 : Int32) (4 : Int32) c3 (3 : Int32) (4 : Int32)))))] [])) tg → Steps p.tables e below (s₁.setTop (mkF m 0 #[vI p1, vI p2, vI p3, vI p4, vI p5, vI p6, .unset, .unset, .unset, .unset, .unset, .unset, .unset, .unset, .unset, .unset, .unset] [])) tg := fun tg kt => R688 tg (own_t188 4 15 (4 : Int32) p1 p2 p3 p4 p5 p6 c0 c1 c2 c3 (own_bad p6) ar ob fo ob X687 hx hZ hw hby hml hown hh687 N687 tg kt)
            have R690 : ∀ tg, Steps p.tables e below (T687.setTop (mkF m 255 #[vI p1, vI p2, vI p3, vI p4, vI p5, vI p6, vI c0, vI c1, vI c2, vI c3, vI (4 : Int32), vI (own_bad p6), vR ar, vR ob, vR fo, vR ob, vI (4 : Int32)] [])) tg → Steps p.tables e below (s₁.setTop (mkF m 0 #[vI p1, vI p2, vI p3, vI p4, vI p5, vI p6, .unset, .unset, .unset, .unset, .unset, .unset, .unset, .unset, .unset, .unset, .unset] [])) tg := by intro tg kt; refine R689 tg ?_; rw [show (own_k1 (0 : Int32) (4 : Int32) c0 (0 : Int32) (own_k1 (1 : Int32) (4 : Int32) c1 (1 : Int32) (own_k1 (2 : Int32) (4 : Int32) c2 (2 : Int32) (own_k1 (3 : Int32) (4 : Int32) c3 (3 : Int32) (4 : Int32))))) = (4 : Int32) from ((own_miss hv0).trans ((own_miss hv1).trans ((own_miss hv2).trans ((own_miss hv3).trans rfl))))]; exact kt
            obtain ⟨T691, L691, X691, e691, N691, st691⟩ := own_t255_4 4 15 (4 : Int32) p1 p2 p3 p4 p5 p6 c0 c1 c2 c3 (own_bad p6) ar ob fo ob tb (fun j => own_bv ((own_G c0 c1 c2 c3) j)) cs vf X687 hx hZ hw hby hml hown (by decide) (by decide) hh687 N687 Zs657 SC OL_657 hcs SF hvf E_ob_657 FcS_657 FvS_657 VS_657 q0 q1 q2 q3
            have R692 : ∀ tg, Steps p.tables e below (T691.setTop (mkF m 348 #[vI p1, vI p2, vI p3, vI p4, vI p5, vI p6, vI c0, vI c1, vI c2, vI c3, vI (4 : Int32), vI (own_bad p6), vR ar, vR ob, vR fo, vR ob, vI (4 : Int32)] [(.int (1 : Int32))])) tg → Steps p.tables e below (s₁.setTop (mkF m 0 #[vI p1, vI p2, vI p3, vI p4, vI p5, vI p6, .unset, .unset, .unset, .unset, .unset, .unset, .unset, .unset, .unset, .unset, .unset] [])) tg := by
              intro tg kt
              refine R690 _ ?_
              refine st691 _ ?_
              exact kt
            clear R690 st691
            obtain ⟨fs, hr, hrun, hended, hR⟩ := Stand.leaveW (s := s) (vm₁ := s.vm) X691 hS0 (Nat.zero_le _) (v := some (.int (1 : Int32))) (fun h => by rw [Bd.returns] at h; cases h)
            refine ⟨_, _, pre0 _ (R692 _ ?_), hrun, hended, _, _, rfl, ?_, hR.1, hR.2.1, hR.2.2.1, hR.2.2.2.mono (by decide) (by decide)⟩
            · exact retN X691 hx (t := .boolean) Bd.returns (by simp) (hb hby at_348) hr
            · show Q_rm_law Z p1 p2 p3 p4 p5 p6 cs vf h0 n0 _ T691.heap _
              rw [e691]
              exact ⟨rfl, N691⟩
set_option maxRecDepth 65536 in
set_option maxHeartbeats 40000000 in
theorem comes_1 {Post : Tables → Env → Array Value → State → Outcome → State → Prop} (hpost : ∀ tb e args s v u, (limb_1_1.after args s (.returned v) u = true ∧ limb_1_2.after args s (.returned v) u = true ∧ True) → FramedW s (.returned v) u (Jvm.fieldLocs frame_1_writes args s ++ Jvm.arrayLocs frame_1_arrays args s ++ Jvm.staticLocs frame_1_statics s) 24 2176 → Post tb e args s (.returned v) u) :
    ArmFor flags0 classFile x code maxLocals ret World_1 tables_1 room_1 Calls_1 rest_1 Pre_1 Post := by
  intro l hfl _ _ p e ha hc hk s m args below hf hA hF happ hP
  obtain ⟨hcalls, hrest, hpre⟩ := hP
  obtain ⟨-, -, -, hnamed, -, -, -, hat⟩ := (Spec.applies_iff hf).mp happ
  obtain ⟨hg, hn⟩ := and_e (Cond.before_iff.mp (show (Jvm.Cond.and given_1 narrow_1).before args s = true from hpre))
  obtain ⟨gc, gr0⟩ := and_e hg
  obtain ⟨ga0, gr1⟩ := and_e gr0
  obtain ⟨ga1, gr2⟩ := and_e gr1
  obtain ⟨ga2, gr3⟩ := and_e gr2
  obtain ⟨ga3, gr4⟩ := and_e gr3
  obtain ⟨ga4, gr5⟩ := and_e gr4
  obtain ⟨w0, w1, w2, w3, w4, w5, rfl⟩ : ∃ w0 w1 w2 w3 w4 w5 : Value, args = #[w0, w1, w2, w3, w4, w5] := by
    have hs : args.size = 6 := by simpa [Cond.value, given_1] using gc
    obtain ⟨L⟩ := args
    match L, hs with
    | [w0, w1, w2, w3, w4, w5], _ => exact ⟨w0, w1, w2, w3, w4, w5, rfl⟩
  have hw := fun d (hd : d ∈ tables_1) => atoms_spec (ws := Jvm.Cond.code x code maxLocals ret :: tables_1) hat d (List.mem_cons_of_mem _ hd)
  have hfit : Fit s := fun {y c} hc i hi => by
    obtain ⟨ha, rfl⟩ := Array.getElem?_eq_some_iff.mp hc
    have q := List.all_eq_true.mp ((Array.all_eq_true_iff_forall_mem.mp hF) _ (Array.getElem_mem ha)) i (List.mem_range.mpr hi)
    simpa [Array.getElem?_eq_getElem hi] using q
  obtain ⟨hsets, hown0⟩ := atoms_of _ (rest_1_c_eq ▸ (show rest_1_c.before _ s = true from hrest))
  have hr0 := Cond.before_iff.mp hown0
  obtain ⟨i0, ei0⟩ := is_v ga0
  obtain rfl : w0 = (.int i0) := Option.some.inj ei0
  obtain ⟨i1, ei1⟩ := is_v ga1
  obtain rfl : w1 = (.int i1) := Option.some.inj ei1
  obtain ⟨i2, ei2⟩ := is_v ga2
  obtain rfl : w2 = (.int i2) := Option.some.inj ei2
  obtain ⟨i3, ei3⟩ := is_v ga3
  obtain rfl : w3 = (.int i3) := Option.some.inj ei3
  obtain ⟨i4, ei4⟩ := is_v ga4
  obtain rfl : w4 = (.int i4) := Option.some.inj ei4
  obtain ⟨i5, ei5⟩ := is_v gr5
  obtain rfl : w5 = (.int i5) := Option.some.inj ei5
  obtain ⟨cs, ecs⟩ := is_v (Cond.before_iff.mp (hsets _ (List.mem_of_getElem? (i := 1) rfl)))
  have SC := Sta.start ecs (Or.inl (hsets _ (List.mem_of_getElem? (i := 0) rfl)))
  have hcs : ¬ (cs = (0 : Int32)) := gotF (Cond.eq_ints ecs (Term.int_eval (0))) (not_v (Cond.before_iff.mp (hsets _ (List.mem_of_getElem? (i := 2) rfl))))
  obtain ⟨vf, evf, hvf⟩ := isR_v (Cond.before_iff.mp (hsets _ (List.mem_of_getElem? (i := 8) rfl)))
  have SF := Sta.start evf (Or.inl (hsets _ (List.mem_of_getElem? (i := 7) rfl)))
  obtain ⟨n, o, h1, h2, h3, _, L, rfl, ⟨rfl, N⟩, hq⟩ := rm_law l s _ hw tables_1 i0 i1 i2 i3 i4 i5 cs vf s.heap s.heap.size (Nat.le_refl _) SC (Old.start s) hcs SF hvf (hcalls.1 _ (List.mem_of_getElem? (i := 0) rfl)) (hcalls.1 _ (List.mem_of_getElem? (i := 1) rfl)) (hsets _ (List.mem_of_getElem? (i := 2) rfl)) p e ha hc hk s m _ below hf ((Spec.applies_iff_loose hf).mp happ).1 ⟨rfl, State.Warmed39.refl s, rfl, IB.start⟩ trivial
  refine ⟨n, _, h1, h2, h3, hpost _ _ _ _ _ _ ⟨Cond.after_iff.mpr rfl, Cond.after_iff.mpr (eq_i res_at (Term.int_eval (1)) rfl), trivial⟩ ⟨hq.1, hq.2.1, hq.2.2.1, (hq.2.2.2.sift fun y hy => Or.inr (N y hy)).mono (by decide) (by decide)⟩⟩
theorem main_1_1 : Claimed_1_1 := comes_1 fun _ _ _ _ _ _ h hF => ⟨h.1, hF⟩
theorem main_1_2 : Claimed_1_2 := comes_1 fun _ _ _ _ _ _ h hF => ⟨h.2.1, hF⟩
end Jvm.Pilot.@@N@@
namespace Jvm.Pilot.@@N@@
open Jvm Jvm.ClassFile Sem Op Lib Jvm.Free Jvm.Stand Jvm.Pilot.@@N@@.Jvm.D
/-! MADE BY PROGRAM (witnessworld.py) out of the Statement's table words and the real class files: 24 classes; the members and pool entries that the words name. The judged class is class 1, her method 2. -/
namespace start1
open Jvm.ClassFile
def u (s : String) : CpInfo := .utf8 (stringToUtf16 s)
/-- a pool by its gaps: so many unusable entries, then the entry; so many at the end -/
def gap : Nat → List CpInfo → List CpInfo
  | 0, r => r
  | n + 1, r => .unusable :: gap n r
def poolList (es : List (Nat × CpInfo)) (last : Nat) : List CpInfo := es.foldr (fun e r => gap e.1 (e.2 :: r)) (gap last [])
def pool (es : List (Nat × CpInfo)) (last : Nat) : Array CpInfo := ⟨poolList es last⟩
def fileOf (pool : Array CpInfo) (this : Nat) (attrs : Array Attribute := #[]) (ms : Array MethodInfo := #[]) (fl : Nat := 33) (sup : Nat := 0) (ifs : Array Nat := #[]) (fds : Array FieldInfo := #[]) : ClassFile where
  minorVersion := 0
  majorVersion := 65
  constantPool := pool
  accessFlags := fl
  thisClass := this
  superClass := sup
  interfaces := ifs
  fields := fds
  methods := ms
  attributes := attrs
def plain (name : String) (sup : Option ClassId) : Class where
  name := name
  kind := .ordinary
  loader := none
  accessFlags := 33
  super := sup
  interfaces := #[]
  cf := none
  fields := #[]
  methods := #[]
  instanceTypes := #[]
  staticTypes := #[]
  resolved := #[]
  callSites := []
  init := .initialized
  statics := none
  mirror := none

def pool0 : Array CpInfo := pool [(5, u "<init>"), (0, u "()V"), (1, .class_ 10), (1, u "java/lang/Object")] 113

def k0c0 : Code := { maxStack := 0, maxLocals := 1, code := object_method_1_code, exceptionTable := #[], attributes := #[] }
def k0m0 : Method := { name := "<init>", desc := "()V", sig := { parameters := [], returnType := none }, accessFlags := 1, code := some k0c0 }
/-- java/lang/Object -/
def k0 : Class := { plain "java/lang/Object" none with
  accessFlags := 33
  interfaces := #[]
  cf := some (fileOf pool0 8 #[] #[{ accessFlags := 1, nameIndex := 5, descriptorIndex := 6, attributes := #[] }] 33 0 #[] #[])
  fields := #[]
  methods := #[k0m0]
  instanceTypes := #[]
  staticTypes := #[]
  resolved := Array.replicate 124 none
  statics := none }

def pool1 : Array CpInfo := pool [(2, .class_ 4), (1, u "java/lang/Object"), (0, u "<init>"), (0, u "()V"), (0, .methodref 8 9), (0, .class_ 10), (0, .nameAndType 11 12), (0, u "com/example/travessia/travessia/isis/IsisFieldLeadingTextPinLaw"), (0, u "draw"), (0, u "(I)C"), (0, .integer 2147483647), (0, .class_ 15), (0, u "java/lang/String"), (0, .methodref 14 17), (0, .nameAndType 5 18), (0, u "([C)V"), (0, .class_ 20), (0, u "com/example/travessia/travessia/isis/IsisField"), (0, .methodref 19 22), (0, .nameAndType 5 23), (0, u "(ILjava/lang/String;Z)V"), (0, .methodref 19 25), (0, .nameAndType 26 27), (0, u "leadingText"), (0, u "()Ljava/lang/String;"), (0, .methodref 14 29), (0, .nameAndType 30 31), (0, u "length"), (0, u "()I"), (0, .methodref 14 33), (0, .nameAndType 34 12), (0, u "charAt"), (3, u "law"), (0, u "(IIIIII)Z")] 4

def k1m0 : Method := { name := "<init>", desc := "()V", sig := { parameters := [], returnType := none }, accessFlags := 1, code := none }
def k1c1 : Code := { maxStack := 2, maxLocals := 1, code := method_2_code, exceptionTable := #[], attributes := #[] }
def k1m1 : Method := { name := "draw", desc := "(I)C", sig := { parameters := [.int], returnType := some .char }, accessFlags := 10, code := some k1c1 }
def k1c2 : Code := { maxStack := 5, maxLocals := 17, code := code, exceptionTable := #[], attributes := #[] }
def k1m2 : Method := { name := "law", desc := "(IIIIII)Z", sig := { parameters := [.int, .int, .int, .int, .int, .int], returnType := some .boolean }, accessFlags := 9, code := some k1c2 }
/-- com/example/travessia/travessia/isis/IsisFieldLeadingTextPinLaw -/
def k1 : Class := { plain "com/example/travessia/travessia/isis/IsisFieldLeadingTextPinLaw" (some 0) with
  accessFlags := 49
  interfaces := #[]
  cf := some (fileOf pool1 8 #[] #[{ accessFlags := 1, nameIndex := 5, descriptorIndex := 6, attributes := #[] }, { accessFlags := 10, nameIndex := 11, descriptorIndex := 12, attributes := #[] }, { accessFlags := 9, nameIndex := 38, descriptorIndex := 39, attributes := #[] }] 49 2 #[] #[])
  fields := #[]
  methods := #[k1m0, k1m1, k1m2]
  instanceTypes := #[]
  staticTypes := #[]
  resolved := Array.replicate 44 none
  statics := none }

def pool2 : Array CpInfo := pool [(1, .class_ 2), (0, u "java/io/Serializable"), (0, .class_ 4), (0, u "java/lang/Object")] 2

/-- java/io/Serializable -/
def k2 : Class := { plain "java/io/Serializable" (some 0) with
  accessFlags := 1537
  interfaces := #[]
  cf := some (fileOf pool2 1 #[] #[] 1537 3 #[] #[])
  fields := #[]
  methods := #[]
  instanceTypes := #[]
  staticTypes := #[]
  resolved := Array.replicate 7 none
  statics := none }

def pool3 : Array CpInfo := pool [(1, .class_ 2), (0, u "java/lang/Comparable"), (0, .class_ 4), (0, u "java/lang/Object")] 7

/-- java/lang/Comparable -/
def k3 : Class := { plain "java/lang/Comparable" (some 0) with
  accessFlags := 1537
  interfaces := #[]
  cf := some (fileOf pool3 1 #[] #[] 1537 3 #[] #[])
  fields := #[]
  methods := #[]
  instanceTypes := #[]
  staticTypes := #[]
  resolved := Array.replicate 12 none
  statics := none }

def pool4 : Array CpInfo := pool [(2, .class_ 4), (1, u "java/lang/CharSequence"), (42, .class_ 48), (0, u "java/lang/CharSequence$1CodePointIterator"), (10, .class_ 60), (0, u "java/lang/CharSequence$1CharIterator"), (5, .class_ 67), (0, u "java/lang/Object")] 63

/-- java/lang/CharSequence -/
def k4 : Class := { plain "java/lang/CharSequence" (some 0) with
  accessFlags := 1537
  interfaces := #[]
  cf := some (fileOf pool4 2 #[.nestMembers #[47, 59]] #[] 1537 66 #[] #[])
  fields := #[]
  methods := #[]
  instanceTypes := #[]
  staticTypes := #[]
  resolved := Array.replicate 131 none
  statics := none }

def pool5 : Array CpInfo := pool [(1, .class_ 2), (0, u "java/lang/constant/Constable"), (0, .class_ 4), (0, u "java/lang/Object")] 6

/-- java/lang/constant/Constable -/
def k5 : Class := { plain "java/lang/constant/Constable" (some 0) with
  accessFlags := 1537
  interfaces := #[]
  cf := some (fileOf pool5 1 #[] #[] 1537 3 #[] #[])
  fields := #[]
  methods := #[]
  instanceTypes := #[]
  staticTypes := #[]
  resolved := Array.replicate 11 none
  statics := none }

def pool6 : Array CpInfo := pool [(1, .class_ 2), (0, u "java/lang/constant/ConstantDesc"), (0, .class_ 4), (0, u "java/lang/Object")] 32

/-- java/lang/constant/ConstantDesc -/
def k6 : Class := { plain "java/lang/constant/ConstantDesc" (some 0) with
  accessFlags := 1537
  interfaces := #[]
  cf := some (fileOf pool6 1 #[] #[] 1537 3 #[] #[])
  fields := #[]
  methods := #[]
  instanceTypes := #[]
  staticTypes := #[]
  resolved := Array.replicate 37 none
  statics := none }

def pool7 : Array CpInfo := pool [(1, .methodref 2 3), (0, .class_ 4), (0, .nameAndType 5 6), (0, u "java/lang/Object"), (0, u "<init>"), (0, u "()V"), (0, .string 8), (0, u ""), (0, .fieldref 10 11), (0, .class_ 12), (0, .nameAndType 13 14), (0, u "java/lang/String"), (0, u "value"), (0, u "[B"), (0, .fieldref 10 16), (0, .nameAndType 17 18), (0, u "coder"), (0, u "B"), (2, u "hash"), (0, u "I"), (2, u "hashIsZero"), (0, u "Z"), (0, .methodref 10 28), (0, .nameAndType 5 29), (0, u "([CIILjava/lang/Void;)V"), (8, .fieldref 10 39), (0, .nameAndType 40 26), (0, u "COMPACT_STRINGS"), (1, .class_ 44), (1, u "java/lang/StringUTF16"), (0, u "compress"), (1, .methodref 42 48), (0, .nameAndType 49 50), (0, u "coderFromArrayLen"), (0, u "([BI)B"), (56, .class_ 109), (1, u "java/lang/StringLatin1"), (32, u "()Z"), (34, .methodref 42 178), (0, .nameAndType 45 179), (0, u "([CII)[B"), (31, u "([BB)V"), (122, u "()I"), (0, .methodref 10 336), (0, .nameAndType 17 337), (0, u "()B"), (25, u "([BI)C"), (27, u "(II)V"), (35, u "(I)C"), (64, .methodref 10 493), (0, .nameAndType 494 142), (0, u "isLatin1"), (0, .methodref 107 496), (0, .nameAndType 497 363), (0, u "charAt"), (3, u "checkIndex"), (3, .methodref 10 506), (0, .nameAndType 507 334), (0, u "length"), (5, u "checkFromToIndex"), (7, .methodref 10 522), (0, .nameAndType 523 524), (0, u "checkBoundsBeginEnd"), (0, u "(III)V"), (50, .class_ 576), (0, u "java/lang/CharSequence"), (22, u "CASE_INSENSITIVE_ORDER"), (0, u "Ljava/util/Comparator;"), (32, .methodref 10 634), (0, .nameAndType 635 636), (0, u "indexOf"), (0, u "(II)I"), (0, .methodref 107 638), (0, .nameAndType 635 639), (0, u "([BIII)I"), (43, u "substring"), (0, u "(II)Ljava/lang/String;"), (0, .methodref 107 686), (0, .nameAndType 687 688), (0, u "newString"), (0, u "([BII)Ljava/lang/String;"), (76, u "(I)I"), (244, u "([C)V"), (42, .fieldref 1054 1055), (0, .class_ 1056), (0, .nameAndType 1057 1058), (0, u "jdk/internal/util/Preconditions"), (0, u "SIOOBE_FORMATTER"), (0, u "Ljava/util/function/BiFunction;"), (0, .methodref 1054 1060), (0, .nameAndType 501 1061), (0, u "(IILjava/util/function/BiFunction;)I"), (0, .methodref 1054 1063), (0, .nameAndType 513 1064), (0, u "(IIILjava/util/function/BiFunction;)I"), (36, u "serialPersistentFields"), (0, u "[Ljava/io/ObjectStreamField;"), (0, .class_ 1104), (0, u "java/lang/String$CaseInsensitiveComparator"), (1, .class_ 1107), (0, u "java/io/Serializable"), (0, .class_ 1109), (0, u "java/lang/Comparable"), (0, .class_ 1111), (0, u "java/lang/constant/Constable"), (0, .class_ 1113), (0, u "java/lang/constant/ConstantDesc"), (2, u "serialVersionUID"), (0, u "J"), (3, u "REPL"), (0, u "C"), (2, u "LATIN1"), (1, u "UTF16")] 323

def k7m0 : Method := { name := "<init>", desc := "()V", sig := { parameters := [], returnType := none }, accessFlags := 1, code := none }
def k7c1 : Code := { maxStack := 5, maxLocals := 2, code := jdk_42_method_3_code, exceptionTable := #[], attributes := #[] }
def k7m1 : Method := { name := "<init>", desc := "([C)V", sig := { parameters := [(.array .char)], returnType := none }, accessFlags := 1, code := some k7c1 }
def k7c2 : Code := { maxStack := 2, maxLocals := 1, code := jdk_42_method_54_code, exceptionTable := #[], attributes := #[] }
def k7m2 : Method := { name := "length", desc := "()I", sig := { parameters := [], returnType := some .int }, accessFlags := 1, code := some k7c2 }
def k7c3 : Code := { maxStack := 2, maxLocals := 2, code := jdk_42_method_56_code, exceptionTable := #[], attributes := #[] }
def k7m3 : Method := { name := "charAt", desc := "(I)C", sig := { parameters := [.int], returnType := some .char }, accessFlags := 1, code := some k7c3 }
def k7c4 : Code := { maxStack := 3, maxLocals := 2, code := jdk_42_method_79_code, exceptionTable := #[], attributes := #[] }
def k7m4 : Method := { name := "indexOf", desc := "(I)I", sig := { parameters := [.int], returnType := some .int }, accessFlags := 1, code := some k7c4 }
def k7c5 : Code := { maxStack := 4, maxLocals := 3, code := jdk_42_method_80_code, exceptionTable := #[], attributes := #[] }
def k7m5 : Method := { name := "indexOf", desc := "(II)I", sig := { parameters := [.int, .int], returnType := some .int }, accessFlags := 1, code := some k7c5 }
def k7c6 : Code := { maxStack := 3, maxLocals := 5, code := jdk_42_method_92_code, exceptionTable := #[], attributes := #[] }
def k7m6 : Method := { name := "substring", desc := "(II)Ljava/lang/String;", sig := { parameters := [.int, .int], returnType := some (.object "java/lang/String") }, accessFlags := 1, code := some k7c6 }
def k7c7 : Code := { maxStack := 4, maxLocals := 6, code := jdk_42_method_149_code, exceptionTable := #[], attributes := #[] }
def k7m7 : Method := { name := "<init>", desc := "([CIILjava/lang/Void;)V", sig := { parameters := [(.array .char), .int, .int, (.object "java/lang/Void")], returnType := none }, accessFlags := 2, code := some k7c7 }
def k7c8 : Code := { maxStack := 2, maxLocals := 3, code := jdk_42_method_151_code, exceptionTable := #[], attributes := #[] }
def k7m8 : Method := { name := "<init>", desc := "([BB)V", sig := { parameters := [(.array .byte), .byte], returnType := none }, accessFlags := 0, code := some k7c8 }
def k7c9 : Code := { maxStack := 1, maxLocals := 1, code := jdk_42_method_152_code, exceptionTable := #[], attributes := #[] }
def k7m9 : Method := { name := "coder", desc := "()B", sig := { parameters := [], returnType := some .byte }, accessFlags := 0, code := some k7c9 }
def k7c10 : Code := { maxStack := 1, maxLocals := 1, code := jdk_42_method_154_code, exceptionTable := #[], attributes := #[] }
def k7m10 : Method := { name := "isLatin1", desc := "()Z", sig := { parameters := [], returnType := some .boolean }, accessFlags := 0, code := some k7c10 }
def k7c11 : Code := { maxStack := 3, maxLocals := 2, code := jdk_42_method_155_code, exceptionTable := #[], attributes := #[] }
def k7m11 : Method := { name := "checkIndex", desc := "(II)V", sig := { parameters := [.int, .int], returnType := none }, accessFlags := 8, code := some k7c11 }
def k7c12 : Code := { maxStack := 4, maxLocals := 3, code := jdk_42_method_158_code, exceptionTable := #[], attributes := #[] }
def k7m12 : Method := { name := "checkBoundsBeginEnd", desc := "(III)V", sig := { parameters := [.int, .int, .int], returnType := none }, accessFlags := 8, code := some k7c12 }
/-- java/lang/String -/
def k7 : Class := { plain "java/lang/String" (some 0) with
  accessFlags := 49
  interfaces := #[2, 3, 4, 5, 6]
  cf := some (fileOf pool7 10 #[.nestMembers #[1103]] #[{ accessFlags := 1, nameIndex := 5, descriptorIndex := 6, attributes := #[] }, { accessFlags := 1, nameIndex := 5, descriptorIndex := 1010, attributes := #[] }, { accessFlags := 1, nameIndex := 507, descriptorIndex := 334, attributes := #[] }, { accessFlags := 1, nameIndex := 497, descriptorIndex := 427, attributes := #[] }, { accessFlags := 1, nameIndex := 635, descriptorIndex := 765, attributes := #[] }, { accessFlags := 1, nameIndex := 635, descriptorIndex := 636, attributes := #[] }, { accessFlags := 1, nameIndex := 683, descriptorIndex := 684, attributes := #[] }, { accessFlags := 2, nameIndex := 5, descriptorIndex := 29, attributes := #[] }, { accessFlags := 0, nameIndex := 5, descriptorIndex := 211, attributes := #[] }, { accessFlags := 0, nameIndex := 17, descriptorIndex := 337, attributes := #[] }, { accessFlags := 0, nameIndex := 494, descriptorIndex := 142, attributes := #[] }, { accessFlags := 8, nameIndex := 501, descriptorIndex := 391, attributes := #[] }, { accessFlags := 8, nameIndex := 523, descriptorIndex := 524, attributes := #[] }] 49 2 #[1106, 1108, 575, 1110, 1112] #[{ accessFlags := 18, nameIndex := 13, descriptorIndex := 14, attributes := #[] }, { accessFlags := 18, nameIndex := 17, descriptorIndex := 18, attributes := #[] }, { accessFlags := 2, nameIndex := 21, descriptorIndex := 22, attributes := #[] }, { accessFlags := 2, nameIndex := 25, descriptorIndex := 26, attributes := #[] }, { accessFlags := 26, nameIndex := 1116, descriptorIndex := 1117, attributes := #[] }, { accessFlags := 24, nameIndex := 40, descriptorIndex := 26, attributes := #[] }, { accessFlags := 26, nameIndex := 1101, descriptorIndex := 1102, attributes := #[] }, { accessFlags := 26, nameIndex := 1121, descriptorIndex := 1122, attributes := #[] }, { accessFlags := 25, nameIndex := 599, descriptorIndex := 600, attributes := #[] }, { accessFlags := 24, nameIndex := 1125, descriptorIndex := 18, attributes := #[] }, { accessFlags := 24, nameIndex := 1127, descriptorIndex := 18, attributes := #[] }])
  fields := #[{ name := "value", type := (.array .byte), accessFlags := 18, slot := 0, constantValue := 0 }, { name := "coder", type := .byte, accessFlags := 18, slot := 1, constantValue := 0 }, { name := "hash", type := .int, accessFlags := 2, slot := 2, constantValue := 0 }, { name := "hashIsZero", type := .boolean, accessFlags := 2, slot := 3, constantValue := 0 }, { name := "serialVersionUID", type := .long, accessFlags := 26, slot := 0, constantValue := 0 }, { name := "COMPACT_STRINGS", type := .boolean, accessFlags := 24, slot := 1, constantValue := 0 }, { name := "serialPersistentFields", type := (.array (.object "java/io/ObjectStreamField")), accessFlags := 26, slot := 2, constantValue := 0 }, { name := "REPL", type := .char, accessFlags := 26, slot := 3, constantValue := 0 }, { name := "CASE_INSENSITIVE_ORDER", type := (.object "java/util/Comparator"), accessFlags := 25, slot := 4, constantValue := 0 }, { name := "LATIN1", type := .byte, accessFlags := 24, slot := 5, constantValue := 0 }, { name := "UTF16", type := .byte, accessFlags := 24, slot := 6, constantValue := 0 }]
  methods := #[k7m0, k7m1, k7m2, k7m3, k7m4, k7m5, k7m6, k7m7, k7m8, k7m9, k7m10, k7m11, k7m12]
  instanceTypes := #[(.array .byte), .byte, .int, .boolean]
  staticTypes := #[.long, .boolean, (.array (.object "java/io/ObjectStreamField")), .char, (.object "java/util/Comparator"), .byte, .byte]
  resolved := Array.replicate 1451 none
  statics := some 0 }

def pool8 : Array CpInfo := pool [(6, .class_ 8), (1, u "java/lang/Object"), (0, u "<init>"), (0, u "()V"), (1, .class_ 14), (1, u "java/lang/StringUTF16"), (31, u "$assertionsDisabled"), (0, u "Z"), (13, u "HI_BYTE_SHIFT"), (0, u "I"), (2, u "LO_BYTE_SHIFT"), (49, .methodref 12 116), (0, .nameAndType 117 118), (0, u "compress"), (0, u "([CI[BII)I"), (3, u "([CII)[B"), (138, u "coderFromArrayLen"), (0, u "([BI)B"), (106, .class_ 371), (1, u "java/lang/StringUTF16$LinesSpliterator"), (58, u "MAX_LENGTH"), (196, .class_ 628), (0, u "java/lang/StringUTF16$CodePointsSpliterator"), (0, .class_ 630), (0, u "java/lang/StringUTF16$CharsSpliterator")] 4

def k8m0 : Method := { name := "<init>", desc := "()V", sig := { parameters := [], returnType := none }, accessFlags := 0, code := none }
def k8c1 : Code := { maxStack := 2, maxLocals := 2, code := jdk_52_method_15_code, exceptionTable := #[], attributes := #[] }
def k8m1 : Method := { name := "coderFromArrayLen", desc := "([BI)B", sig := { parameters := [(.array .byte), .int], returnType := some .byte }, accessFlags := 8, code := some k8c1 }
def k8c2 : Code := { maxStack := 5, maxLocals := 6, code := jdk_52_method_16_code, exceptionTable := #[], attributes := #[] }
def k8m2 : Method := { name := "compress", desc := "([CII)[B", sig := { parameters := [(.array .char), .int, .int], returnType := some (.array .byte) }, accessFlags := 9, code := some k8c2 }
def k8c3 : Code := { maxStack := 3, maxLocals := 7, code := jdk_52_method_21_code, exceptionTable := #[], attributes := #[] }
def k8m3 : Method := { name := "compress", desc := "([CI[BII)I", sig := { parameters := [(.array .char), .int, (.array .byte), .int, .int], returnType := some .int }, accessFlags := 9, code := some k8c3 }
/-- java/lang/StringUTF16 -/
def k8 : Class := { plain "java/lang/StringUTF16" (some 0) with
  accessFlags := 48
  interfaces := #[]
  cf := some (fileOf pool8 12 #[.nestMembers #[627, 629, 369]] #[{ accessFlags := 0, nameIndex := 9, descriptorIndex := 10, attributes := #[] }, { accessFlags := 8, nameIndex := 261, descriptorIndex := 262, attributes := #[] }, { accessFlags := 9, nameIndex := 117, descriptorIndex := 122, attributes := #[] }, { accessFlags := 9, nameIndex := 117, descriptorIndex := 118, attributes := #[] }] 48 6 #[] #[{ accessFlags := 26, nameIndex := 61, descriptorIndex := 62, attributes := #[] }, { accessFlags := 26, nameIndex := 65, descriptorIndex := 62, attributes := #[] }, { accessFlags := 24, nameIndex := 430, descriptorIndex := 62, attributes := #[] }, { accessFlags := 4120, nameIndex := 46, descriptorIndex := 47, attributes := #[] }])
  fields := #[{ name := "HI_BYTE_SHIFT", type := .int, accessFlags := 26, slot := 0, constantValue := 0 }, { name := "LO_BYTE_SHIFT", type := .int, accessFlags := 26, slot := 1, constantValue := 0 }, { name := "MAX_LENGTH", type := .int, accessFlags := 24, slot := 2, constantValue := 0 }, { name := "$assertionsDisabled", type := .boolean, accessFlags := 4120, slot := 3, constantValue := 0 }]
  methods := #[k8m0, k8m1, k8m2, k8m3]
  instanceTypes := #[]
  staticTypes := #[.int, .int, .int, .boolean]
  resolved := Array.replicate 635 none
  statics := none }

def pool9 : Array CpInfo := pool [(1, .methodref 2 3), (0, .class_ 4), (0, .nameAndType 5 6), (0, u "java/lang/Object"), (0, u "<init>"), (0, u "()V"), (0, .class_ 8), (0, u "java/lang/Record")] 13

def k9c0 : Code := { maxStack := 1, maxLocals := 1, code := jdk_30_method_1_code, exceptionTable := #[], attributes := #[] }
def k9m0 : Method := { name := "<init>", desc := "()V", sig := { parameters := [], returnType := none }, accessFlags := 4, code := some k9c0 }
/-- java/lang/Record -/
def k9 : Class := { plain "java/lang/Record" (some 0) with
  accessFlags := 1057
  interfaces := #[]
  cf := some (fileOf pool9 7 #[] #[{ accessFlags := 4, nameIndex := 5, descriptorIndex := 6, attributes := #[] }] 1057 2 #[] #[])
  fields := #[]
  methods := #[k9m0]
  instanceTypes := #[]
  staticTypes := #[]
  resolved := Array.replicate 22 none
  statics := none }

def pool10 : Array CpInfo := pool [(1, .methodref 2 3), (0, .class_ 4), (0, .nameAndType 5 6), (0, u "java/lang/Record"), (0, u "<init>"), (0, u "()V"), (0, .fieldref 8 9), (0, .class_ 10), (0, .nameAndType 11 12), (0, u "com/example/travessia/travessia/isis/IsisField"), (0, u "tag"), (0, u "I"), (0, .fieldref 8 14), (0, .nameAndType 15 16), (0, u "data"), (0, u "Ljava/lang/String;"), (0, .fieldref 8 18), (0, .nameAndType 19 20), (0, u "badEncoding"), (0, u "Z"), (2, u "(ILjava/lang/String;Z)V"), (0, .methodref 25 26), (0, .class_ 27), (0, .nameAndType 28 29), (0, u "java/lang/String"), (0, u "indexOf"), (0, u "(I)I"), (0, .methodref 25 31), (0, .nameAndType 32 33), (0, u "substring"), (0, u "(II)Ljava/lang/String;"), (40, u "()Ljava/lang/String;"), (11, u "SUBFIELD_MARK"), (0, u "C"), (6, u "leadingText")] 30

def k10c0 : Code := { maxStack := 2, maxLocals := 4, code := prog_8_method_2_code, exceptionTable := #[], attributes := #[] }
def k10m0 : Method := { name := "<init>", desc := "(ILjava/lang/String;Z)V", sig := { parameters := [.int, (.object "java/lang/String"), .boolean], returnType := none }, accessFlags := 1, code := some k10c0 }
def k10c1 : Code := { maxStack := 3, maxLocals := 2, code := prog_8_method_3_code, exceptionTable := #[], attributes := #[] }
def k10m1 : Method := { name := "leadingText", desc := "()Ljava/lang/String;", sig := { parameters := [], returnType := some (.object "java/lang/String") }, accessFlags := 1, code := some k10c1 }
/-- com/example/travessia/travessia/isis/IsisField -/
def k10 : Class := { plain "com/example/travessia/travessia/isis/IsisField" (some 9) with
  accessFlags := 49
  interfaces := #[]
  cf := some (fileOf pool10 8 #[] #[{ accessFlags := 1, nameIndex := 5, descriptorIndex := 23, attributes := #[] }, { accessFlags := 1, nameIndex := 94, descriptorIndex := 74, attributes := #[] }] 49 2 #[] #[{ accessFlags := 18, nameIndex := 11, descriptorIndex := 12, attributes := #[] }, { accessFlags := 18, nameIndex := 15, descriptorIndex := 16, attributes := #[] }, { accessFlags := 18, nameIndex := 19, descriptorIndex := 20, attributes := #[] }, { accessFlags := 26, nameIndex := 86, descriptorIndex := 87, attributes := #[] }])
  fields := #[{ name := "tag", type := .int, accessFlags := 18, slot := 0, constantValue := 0 }, { name := "data", type := (.object "java/lang/String"), accessFlags := 18, slot := 1, constantValue := 0 }, { name := "badEncoding", type := .boolean, accessFlags := 18, slot := 2, constantValue := 0 }, { name := "SUBFIELD_MARK", type := .char, accessFlags := 26, slot := 0, constantValue := 0 }]
  methods := #[k10m0, k10m1]
  instanceTypes := #[.int, (.object "java/lang/String"), .boolean]
  staticTypes := #[.char]
  resolved := Array.replicate 125 none
  statics := none }

def pool11 : Array CpInfo := pool [(1, .class_ 2), (0, u "java/lang/String"), (1, .class_ 6), (1, u "java/lang/Object"), (0, u "<init>"), (0, u "()V"), (0, .methodref 1 10), (0, .nameAndType 11 12), (0, u "checkIndex"), (0, u "(II)V"), (1, .class_ 16), (1, u "java/lang/StringLatin1"), (21, .methodref 39 40), (0, .class_ 41), (0, .nameAndType 42 43), (0, u "java/lang/Math"), (0, u "min"), (0, u "(II)I"), (9, u "([BI)C"), (34, .methodref 14 89), (0, .nameAndType 90 91), (0, u "canEncode"), (0, u "(I)Z"), (0, .methodref 39 93), (0, .nameAndType 94 43), (0, u "max"), (0, .methodref 14 96), (0, .nameAndType 97 98), (0, u "indexOfChar"), (0, u "([BIII)I"), (2, u "indexOf"), (10, .methodref 1 113), (0, .nameAndType 7 114), (0, u "([BB)V"), (6, u "$assertionsDisabled"), (0, u "Z"), (8, .class_ 133), (1, u "java/util/Arrays"), (17, .string 152), (0, u ""), (43, u "newString"), (0, u "([BII)Ljava/lang/String;"), (23, .class_ 223), (1, u "java/lang/StringLatin1$LinesSpliterator"), (8, .methodref 131 233), (0, .nameAndType 234 235), (0, u "copyOfRange"), (0, u "([BII)[B"), (16, u "charAt"), (137, .class_ 391), (0, u "java/lang/StringLatin1$CharsSpliterator")] 3

def k11m0 : Method := { name := "<init>", desc := "()V", sig := { parameters := [], returnType := none }, accessFlags := 0, code := none }
def k11c1 : Code := { maxStack := 2, maxLocals := 2, code := jdk_43_method_2_code, exceptionTable := #[], attributes := #[] }
def k11m1 : Method := { name := "charAt", desc := "([BI)C", sig := { parameters := [(.array .byte), .int], returnType := some .char }, accessFlags := 9, code := some k11c1 }
def k11c2 : Code := { maxStack := 2, maxLocals := 1, code := jdk_43_method_4_code, exceptionTable := #[], attributes := #[] }
def k11m2 : Method := { name := "canEncode", desc := "(I)Z", sig := { parameters := [.int], returnType := some .boolean }, accessFlags := 9, code := some k11c2 }
def k11c3 : Code := { maxStack := 4, maxLocals := 4, code := jdk_43_method_22_code, exceptionTable := #[], attributes := #[] }
def k11m3 : Method := { name := "indexOf", desc := "([BIII)I", sig := { parameters := [(.array .byte), .int, .int, .int], returnType := some .int }, accessFlags := 9, code := some k11c3 }
def k11c4 : Code := { maxStack := 2, maxLocals := 6, code := jdk_43_method_23_code, exceptionTable := #[], attributes := #[] }
def k11m4 : Method := { name := "indexOfChar", desc := "([BIII)I", sig := { parameters := [(.array .byte), .int, .int, .int], returnType := some .int }, accessFlags := 10, code := some k11c4 }
def k11c5 : Code := { maxStack := 6, maxLocals := 3, code := jdk_43_method_47_code, exceptionTable := #[], attributes := #[] }
def k11m5 : Method := { name := "newString", desc := "([BII)Ljava/lang/String;", sig := { parameters := [(.array .byte), .int, .int], returnType := some (.object "java/lang/String") }, accessFlags := 9, code := some k11c5 }
/-- java/lang/StringLatin1 -/
def k11 : Class := { plain "java/lang/StringLatin1" (some 0) with
  accessFlags := 48
  interfaces := #[]
  cf := some (fileOf pool11 14 #[.nestMembers #[390, 221]] #[{ accessFlags := 0, nameIndex := 7, descriptorIndex := 8, attributes := #[] }, { accessFlags := 9, nameIndex := 252, descriptorIndex := 53, attributes := #[] }, { accessFlags := 9, nameIndex := 90, descriptorIndex := 91, attributes := #[] }, { accessFlags := 9, nameIndex := 101, descriptorIndex := 98, attributes := #[] }, { accessFlags := 10, nameIndex := 97, descriptorIndex := 98, attributes := #[] }, { accessFlags := 9, nameIndex := 196, descriptorIndex := 197, attributes := #[] }] 48 4 #[] #[{ accessFlags := 4120, nameIndex := 121, descriptorIndex := 122, attributes := #[] }])
  fields := #[{ name := "$assertionsDisabled", type := .boolean, accessFlags := 4120, slot := 0, constantValue := 0 }]
  methods := #[k11m0, k11m1, k11m2, k11m3, k11m4, k11m5]
  instanceTypes := #[]
  staticTypes := #[.boolean]
  resolved := Array.replicate 395 none
  statics := none }

def pool12 : Array CpInfo := pool [(1, .class_ 2), (0, u "java/lang/Math"), (1, .class_ 6), (1, u "java/lang/Object"), (0, u "<init>"), (0, u "()V"), (89, .class_ 100), (1, u "java/lang/Math$RandomNumberGeneratorHolder"), (71, u "negativeZeroFloatBits"), (0, u "J"), (2, u "negativeZeroDoubleBits"), (21, u "max"), (2, u "min"), (43, u "$assertionsDisabled"), (0, u "Z"), (88, u "(II)I"), (2, u "twoToTheDoubleScaleDown"), (0, u "D"), (4, u "twoToTheDoubleScaleUp"), (9, u "E"), (3, u "PI"), (2, u "TAU"), (2, u "DEGREES_TO_RADIANS"), (0, u "RADIANS_TO_DEGREES")] 94

def k12m0 : Method := { name := "<init>", desc := "()V", sig := { parameters := [], returnType := none }, accessFlags := 2, code := none }
def k12c1 : Code := { maxStack := 2, maxLocals := 2, code := jdk_29_method_65_code, exceptionTable := #[], attributes := #[] }
def k12m1 : Method := { name := "max", desc := "(II)I", sig := { parameters := [.int, .int], returnType := some .int }, accessFlags := 9, code := some k12c1 }
def k12c2 : Code := { maxStack := 2, maxLocals := 2, code := jdk_29_method_69_code, exceptionTable := #[], attributes := #[] }
def k12m2 : Method := { name := "min", desc := "(II)I", sig := { parameters := [.int, .int], returnType := some .int }, accessFlags := 9, code := some k12c2 }
/-- java/lang/Math -/
def k12 : Class := { plain "java/lang/Math" (some 0) with
  accessFlags := 49
  interfaces := #[]
  cf := some (fileOf pool12 1 #[.nestMembers #[98]] #[{ accessFlags := 2, nameIndex := 7, descriptorIndex := 8, attributes := #[] }, { accessFlags := 9, nameIndex := 198, descriptorIndex := 335, attributes := #[] }, { accessFlags := 9, nameIndex := 201, descriptorIndex := 335, attributes := #[] }] 49 4 #[] #[{ accessFlags := 25, nameIndex := 354, descriptorIndex := 339, attributes := #[] }, { accessFlags := 25, nameIndex := 358, descriptorIndex := 339, attributes := #[] }, { accessFlags := 25, nameIndex := 361, descriptorIndex := 339, attributes := #[] }, { accessFlags := 26, nameIndex := 364, descriptorIndex := 339, attributes := #[] }, { accessFlags := 26, nameIndex := 365, descriptorIndex := 339, attributes := #[] }, { accessFlags := 26, nameIndex := 172, descriptorIndex := 173, attributes := #[] }, { accessFlags := 26, nameIndex := 176, descriptorIndex := 173, attributes := #[] }, { accessFlags := 8, nameIndex := 344, descriptorIndex := 339, attributes := #[] }, { accessFlags := 8, nameIndex := 338, descriptorIndex := 339, attributes := #[] }, { accessFlags := 4120, nameIndex := 245, descriptorIndex := 246, attributes := #[] }])
  fields := #[{ name := "E", type := .double, accessFlags := 25, slot := 0, constantValue := 0 }, { name := "PI", type := .double, accessFlags := 25, slot := 1, constantValue := 0 }, { name := "TAU", type := .double, accessFlags := 25, slot := 2, constantValue := 0 }, { name := "DEGREES_TO_RADIANS", type := .double, accessFlags := 26, slot := 3, constantValue := 0 }, { name := "RADIANS_TO_DEGREES", type := .double, accessFlags := 26, slot := 4, constantValue := 0 }, { name := "negativeZeroFloatBits", type := .long, accessFlags := 26, slot := 5, constantValue := 0 }, { name := "negativeZeroDoubleBits", type := .long, accessFlags := 26, slot := 6, constantValue := 0 }, { name := "twoToTheDoubleScaleUp", type := .double, accessFlags := 8, slot := 7, constantValue := 0 }, { name := "twoToTheDoubleScaleDown", type := .double, accessFlags := 8, slot := 8, constantValue := 0 }, { name := "$assertionsDisabled", type := .boolean, accessFlags := 4120, slot := 9, constantValue := 0 }]
  methods := #[k12m0, k12m1, k12m2]
  instanceTypes := #[]
  staticTypes := #[.double, .double, .double, .double, .double, .long, .long, .double, .double, .boolean]
  resolved := Array.replicate 460 none
  statics := none }

def pool13 : Array CpInfo := pool [(2, .class_ 4), (1, u "java/lang/Object"), (0, u "<init>"), (0, u "()V"), (17, .class_ 26), (1, u "jdk/internal/util/Preconditions"), (6, u "checkIndex"), (13, u "checkFromToIndex"), (7, .class_ 56), (0, u "jdk/internal/util/Preconditions$4"), (57, .class_ 115), (0, u "jdk/internal/util/Preconditions$1"), (7, u "SIOOBE_FORMATTER"), (0, u "Ljava/util/function/BiFunction;"), (0, .class_ 126), (0, u "jdk/internal/util/Preconditions$2"), (3, u "AIOOBE_FORMATTER"), (0, .class_ 132), (0, u "jdk/internal/util/Preconditions$3"), (3, u "IOOBE_FORMATTER"), (41, u "(IILjava/util/function/BiFunction;)I"), (4, u "(IIILjava/util/function/BiFunction;)I")] 10

def k13m0 : Method := { name := "<init>", desc := "()V", sig := { parameters := [], returnType := none }, accessFlags := 1, code := none }
def k13c1 : Code := { maxStack := 3, maxLocals := 3, code := jdk_41_method_11_code, exceptionTable := #[], attributes := #[] }
def k13m1 : Method := { name := "checkIndex", desc := "(IILjava/util/function/BiFunction;)I", sig := { parameters := [.int, .int, (.object "java/util/function/BiFunction")], returnType := some .int }, accessFlags := 9, code := some k13c1 }
def k13c2 : Code := { maxStack := 4, maxLocals := 4, code := jdk_41_method_12_code, exceptionTable := #[], attributes := #[] }
def k13m2 : Method := { name := "checkFromToIndex", desc := "(IIILjava/util/function/BiFunction;)I", sig := { parameters := [.int, .int, .int, (.object "java/util/function/BiFunction")], returnType := some .int }, accessFlags := 9, code := some k13c2 }
/-- jdk/internal/util/Preconditions -/
def k13 : Class := { plain "jdk/internal/util/Preconditions" (some 0) with
  accessFlags := 33
  interfaces := #[]
  cf := some (fileOf pool13 24 #[.nestMembers #[55, 131, 125, 114]] #[{ accessFlags := 1, nameIndex := 5, descriptorIndex := 6, attributes := #[] }, { accessFlags := 9, nameIndex := 33, descriptorIndex := 178, attributes := #[] }, { accessFlags := 9, nameIndex := 47, descriptorIndex := 183, attributes := #[] }] 33 2 #[] #[{ accessFlags := 25, nameIndex := 123, descriptorIndex := 124, attributes := #[] }, { accessFlags := 25, nameIndex := 130, descriptorIndex := 124, attributes := #[] }, { accessFlags := 25, nameIndex := 136, descriptorIndex := 124, attributes := #[] }])
  fields := #[{ name := "SIOOBE_FORMATTER", type := (.object "java/util/function/BiFunction"), accessFlags := 25, slot := 0, constantValue := 0 }, { name := "AIOOBE_FORMATTER", type := (.object "java/util/function/BiFunction"), accessFlags := 25, slot := 1, constantValue := 0 }, { name := "IOOBE_FORMATTER", type := (.object "java/util/function/BiFunction"), accessFlags := 25, slot := 2, constantValue := 0 }]
  methods := #[k13m0, k13m1, k13m2]
  instanceTypes := #[]
  staticTypes := #[(.object "java/util/function/BiFunction"), (.object "java/util/function/BiFunction"), (.object "java/util/function/BiFunction")]
  resolved := Array.replicate 194 none
  statics := some 1 }

def pool14 : Array CpInfo := pool [(2, .class_ 4), (1, u "java/lang/Object"), (0, u "<init>"), (0, u "()V"), (7, .class_ 16), (1, u "java/util/Arrays"), (57, .class_ 76), (1, u "java/util/Arrays$NaturalOrder"), (36, .class_ 115), (1, u "java/util/Arrays$LegacyMergeSort"), (1, u "Z"), (21, u "copyOfRange"), (10, .methodref 151 152), (0, .class_ 153), (0, .nameAndType 154 155), (0, u "java/lang/System"), (0, u "arraycopy"), (0, u "(Ljava/lang/Object;ILjava/lang/Object;II)V"), (148, .methodref 305 306), (0, .class_ 307), (0, .nameAndType 308 309), (0, u "java/lang/Math"), (0, u "min"), (0, u "(II)I"), (29, .methodref 14 340), (0, .nameAndType 341 342), (0, u "copyOfRangeByte"), (0, u "([BII)[B"), (0, .methodref 14 344), (0, .nameAndType 345 346), (0, u "checkLength"), (0, u "(II)V"), (28, .class_ 376), (0, u "java/util/Arrays$ArrayList"), (68, u "$assertionsDisabled"), (269, u "MIN_ARRAY_SORT_GRAN"), (0, u "I"), (2, u "INSERTIONSORT_THRESHOLD"), (255, .class_ 976), (0, u "java/util/Arrays$ArrayItr")] 52

def k14m0 : Method := { name := "<init>", desc := "()V", sig := { parameters := [], returnType := none }, accessFlags := 2, code := none }
def k14c1 : Code := { maxStack := 4, maxLocals := 2, code := jdk_65_method_131_code, exceptionTable := #[], attributes := #[] }
def k14m1 : Method := { name := "checkLength", desc := "(II)V", sig := { parameters := [.int, .int], returnType := none }, accessFlags := 10, code := some k14c1 }
def k14c2 : Code := { maxStack := 3, maxLocals := 3, code := jdk_65_method_132_code, exceptionTable := #[], attributes := #[] }
def k14m2 : Method := { name := "copyOfRange", desc := "([BII)[B", sig := { parameters := [(.array .byte), .int, .int], returnType := some (.array .byte) }, accessFlags := 9, code := some k14c2 }
def k14c3 : Code := { maxStack := 6, maxLocals := 5, code := jdk_65_method_133_code, exceptionTable := #[], attributes := #[] }
def k14m3 : Method := { name := "copyOfRangeByte", desc := "([BII)[B", sig := { parameters := [(.array .byte), .int, .int], returnType := some (.array .byte) }, accessFlags := 10, code := some k14c3 }
/-- java/util/Arrays -/
def k14 : Class := { plain "java/util/Arrays" (some 0) with
  accessFlags := 49
  interfaces := #[]
  cf := some (fileOf pool14 14 #[.nestMembers #[975, 375, 113, 74]] #[{ accessFlags := 2, nameIndex := 5, descriptorIndex := 6, attributes := #[] }, { accessFlags := 10, nameIndex := 345, descriptorIndex := 346, attributes := #[] }, { accessFlags := 9, nameIndex := 139, descriptorIndex := 342, attributes := #[] }, { accessFlags := 10, nameIndex := 341, descriptorIndex := 342, attributes := #[] }] 49 2 #[] #[{ accessFlags := 26, nameIndex := 715, descriptorIndex := 716, attributes := #[] }, { accessFlags := 26, nameIndex := 719, descriptorIndex := 716, attributes := #[] }, { accessFlags := 4120, nameIndex := 445, descriptorIndex := 117, attributes := #[] }])
  fields := #[{ name := "MIN_ARRAY_SORT_GRAN", type := .int, accessFlags := 26, slot := 0, constantValue := 0 }, { name := "INSERTIONSORT_THRESHOLD", type := .int, accessFlags := 26, slot := 1, constantValue := 0 }, { name := "$assertionsDisabled", type := .boolean, accessFlags := 4120, slot := 2, constantValue := 0 }]
  methods := #[k14m0, k14m1, k14m2, k14m3]
  instanceTypes := #[]
  staticTypes := #[.int, .int, .boolean]
  resolved := Array.replicate 1029 none
  statics := none }

def pool15 : Array CpInfo := pool [(2, .class_ 4), (1, u "java/lang/Object"), (0, u "<init>"), (0, u "()V"), (1, .class_ 10), (1, u "java/lang/System"), (0, u "allowSecurityManager"), (0, u "I"), (16, u "cons"), (0, u "Ljava/io/Console;"), (77, .class_ 110), (1, u "java/lang/System$CallersHolder"), (43, u "initialErrStream"), (0, u "Ljava/io/PrintStream;"), (19, u "security"), (0, u "Ljava/lang/SecurityManager;"), (31, .class_ 209), (0, u "java/lang/System$1"), (7, u "props"), (0, u "Ljava/util/Properties;"), (2, u "lineSeparator"), (0, u "Ljava/lang/String;"), (96, .class_ 321), (1, u "java/lang/System$LoggerFinder"), (5, .class_ 328), (0, u "java/lang/System$Logger"), (67, u "err"), (2, u "out"), (91, u "notSupportedJnuEncoding"), (15, u "in"), (17, u "initialIn"), (0, u "Ljava/io/InputStream;"), (35, u "bootLayer"), (0, u "Ljava/lang/ModuleLayer;"), (99, .class_ 664), (0, u "java/lang/System$2"), (9, u "NEVER"), (2, u "MAYBE"), (49, u "arraycopy"), (0, u "(Ljava/lang/Object;ILjava/lang/Object;II)V"), (72, .class_ 802), (0, u "java/lang/System$Logger$Level")] 31

def k15m0 : Method := { name := "<init>", desc := "()V", sig := { parameters := [], returnType := none }, accessFlags := 2, code := none }
def k15m1 : Method := { name := "arraycopy", desc := "(Ljava/lang/Object;ILjava/lang/Object;II)V", sig := { parameters := [(.object "java/lang/Object"), .int, (.object "java/lang/Object"), .int, .int], returnType := none }, accessFlags := 265, code := none }
/-- java/lang/System -/
def k15 : Class := { plain "java/lang/System" (some 0) with
  accessFlags := 49
  interfaces := #[]
  cf := some (fileOf pool15 8 #[.nestMembers #[319, 327, 801, 108, 663, 208]] #[{ accessFlags := 2, nameIndex := 5, descriptorIndex := 6, attributes := #[] }, { accessFlags := 265, nameIndex := 727, descriptorIndex := 728, attributes := #[] }] 49 2 #[] #[{ accessFlags := 25, nameIndex := 507, descriptorIndex := 526, attributes := #[] }, { accessFlags := 25, nameIndex := 399, descriptorIndex := 155, attributes := #[] }, { accessFlags := 25, nameIndex := 396, descriptorIndex := 155, attributes := #[] }, { accessFlags := 10, nameIndex := 525, descriptorIndex := 526, attributes := #[] }, { accessFlags := 26, nameIndex := 674, descriptorIndex := 12, attributes := #[] }, { accessFlags := 26, nameIndex := 677, descriptorIndex := 12, attributes := #[] }, { accessFlags := 10, nameIndex := 11, descriptorIndex := 12, attributes := #[] }, { accessFlags := 74, nameIndex := 175, descriptorIndex := 176, attributes := #[] }, { accessFlags := 10, nameIndex := 491, descriptorIndex := 222, attributes := #[] }, { accessFlags := 74, nameIndex := 29, descriptorIndex := 30, attributes := #[] }, { accessFlags := 74, nameIndex := 154, descriptorIndex := 155, attributes := #[] }, { accessFlags := 10, nameIndex := 217, descriptorIndex := 218, attributes := #[] }, { accessFlags := 10, nameIndex := 221, descriptorIndex := 222, attributes := #[] }, { accessFlags := 8, nameIndex := 562, descriptorIndex := 563, attributes := #[] }])
  fields := #[{ name := "in", type := (.object "java/io/InputStream"), accessFlags := 25, slot := 0, constantValue := 0 }, { name := "out", type := (.object "java/io/PrintStream"), accessFlags := 25, slot := 1, constantValue := 0 }, { name := "err", type := (.object "java/io/PrintStream"), accessFlags := 25, slot := 2, constantValue := 0 }, { name := "initialIn", type := (.object "java/io/InputStream"), accessFlags := 10, slot := 3, constantValue := 0 }, { name := "NEVER", type := .int, accessFlags := 26, slot := 4, constantValue := 0 }, { name := "MAYBE", type := .int, accessFlags := 26, slot := 5, constantValue := 0 }, { name := "allowSecurityManager", type := .int, accessFlags := 10, slot := 6, constantValue := 0 }, { name := "security", type := (.object "java/lang/SecurityManager"), accessFlags := 74, slot := 7, constantValue := 0 }, { name := "notSupportedJnuEncoding", type := (.object "java/lang/String"), accessFlags := 10, slot := 8, constantValue := 0 }, { name := "cons", type := (.object "java/io/Console"), accessFlags := 74, slot := 9, constantValue := 0 }, { name := "initialErrStream", type := (.object "java/io/PrintStream"), accessFlags := 74, slot := 10, constantValue := 0 }, { name := "props", type := (.object "java/util/Properties"), accessFlags := 10, slot := 11, constantValue := 0 }, { name := "lineSeparator", type := (.object "java/lang/String"), accessFlags := 10, slot := 12, constantValue := 0 }, { name := "bootLayer", type := (.object "java/lang/ModuleLayer"), accessFlags := 8, slot := 13, constantValue := 0 }]
  methods := #[k15m0, k15m1]
  instanceTypes := #[]
  staticTypes := #[(.object "java/io/InputStream"), (.object "java/io/PrintStream"), (.object "java/io/PrintStream"), (.object "java/io/InputStream"), .int, .int, .int, (.object "java/lang/SecurityManager"), (.object "java/lang/String"), (.object "java/io/Console"), (.object "java/io/PrintStream"), (.object "java/util/Properties"), (.object "java/lang/String"), (.object "java/lang/ModuleLayer")]
  resolved := Array.replicate 834 none
  statics := none }

def pool16 : Array CpInfo := pool [(9, u "<init>"), (6, .class_ 18), (1, u "java/lang/Object"), (0, u "()V"), (1, .class_ 23), (1, u "jdk/internal/util/ArraysSupport"), (0, u "LOG2_ARRAY_LONG_INDEX_SCALE"), (0, u "I"), (2, u "U"), (0, u "Ljdk/internal/misc/Unsafe;"), (8, u "BIG_ENDIAN"), (0, u "Z"), (8, u "LOG2_BYTE_BIT_SIZE"), (4, u "LOG2_ARRAY_INT_INDEX_SCALE"), (54, u "JLA"), (0, u "Ljdk/internal/access/JavaLangAccess;"), (11, u "LOG2_ARRAY_BOOLEAN_INDEX_SCALE"), (9, u "LOG2_ARRAY_BYTE_INDEX_SCALE"), (5, u "LOG2_ARRAY_CHAR_INDEX_SCALE"), (5, u "LOG2_ARRAY_SHORT_INDEX_SCALE"), (18, u "LOG2_ARRAY_FLOAT_INDEX_SCALE"), (24, u "LOG2_ARRAY_DOUBLE_INDEX_SCALE"), (89, u "T_BOOLEAN"), (2, u "T_CHAR"), (1, u "T_FLOAT"), (1, u "T_DOUBLE"), (1, u "T_BYTE"), (1, u "T_SHORT"), (1, u "T_INT"), (1, u "T_LONG"), (1, u "SOFT_MAX_ARRAY_LENGTH")] 83

def k16m0 : Method := { name := "<init>", desc := "()V", sig := { parameters := [], returnType := none }, accessFlags := 2, code := none }
/-- jdk/internal/util/ArraysSupport -/
def k16 : Class := { plain "jdk/internal/util/ArraysSupport" (some 0) with
  accessFlags := 33
  interfaces := #[]
  cf := some (fileOf pool16 21 #[] #[{ accessFlags := 2, nameIndex := 9, descriptorIndex := 19, attributes := #[] }] 33 16 #[] #[{ accessFlags := 24, nameIndex := 28, descriptorIndex := 29, attributes := #[] }, { accessFlags := 26, nameIndex := 38, descriptorIndex := 39, attributes := #[] }, { accessFlags := 25, nameIndex := 121, descriptorIndex := 25, attributes := #[] }, { accessFlags := 25, nameIndex := 131, descriptorIndex := 25, attributes := #[] }, { accessFlags := 25, nameIndex := 137, descriptorIndex := 25, attributes := #[] }, { accessFlags := 25, nameIndex := 143, descriptorIndex := 25, attributes := #[] }, { accessFlags := 25, nameIndex := 53, descriptorIndex := 25, attributes := #[] }, { accessFlags := 25, nameIndex := 24, descriptorIndex := 25, attributes := #[] }, { accessFlags := 25, nameIndex := 162, descriptorIndex := 25, attributes := #[] }, { accessFlags := 25, nameIndex := 187, descriptorIndex := 25, attributes := #[] }, { accessFlags := 26, nameIndex := 48, descriptorIndex := 25, attributes := #[] }, { accessFlags := 25, nameIndex := 277, descriptorIndex := 25, attributes := #[] }, { accessFlags := 25, nameIndex := 280, descriptorIndex := 25, attributes := #[] }, { accessFlags := 25, nameIndex := 282, descriptorIndex := 25, attributes := #[] }, { accessFlags := 25, nameIndex := 284, descriptorIndex := 25, attributes := #[] }, { accessFlags := 25, nameIndex := 286, descriptorIndex := 25, attributes := #[] }, { accessFlags := 25, nameIndex := 288, descriptorIndex := 25, attributes := #[] }, { accessFlags := 25, nameIndex := 290, descriptorIndex := 25, attributes := #[] }, { accessFlags := 25, nameIndex := 292, descriptorIndex := 25, attributes := #[] }, { accessFlags := 26, nameIndex := 108, descriptorIndex := 109, attributes := #[] }, { accessFlags := 25, nameIndex := 294, descriptorIndex := 25, attributes := #[] }])
  fields := #[{ name := "U", type := (.object "jdk/internal/misc/Unsafe"), accessFlags := 24, slot := 0, constantValue := 0 }, { name := "BIG_ENDIAN", type := .boolean, accessFlags := 26, slot := 1, constantValue := 0 }, { name := "LOG2_ARRAY_BOOLEAN_INDEX_SCALE", type := .int, accessFlags := 25, slot := 2, constantValue := 0 }, { name := "LOG2_ARRAY_BYTE_INDEX_SCALE", type := .int, accessFlags := 25, slot := 3, constantValue := 0 }, { name := "LOG2_ARRAY_CHAR_INDEX_SCALE", type := .int, accessFlags := 25, slot := 4, constantValue := 0 }, { name := "LOG2_ARRAY_SHORT_INDEX_SCALE", type := .int, accessFlags := 25, slot := 5, constantValue := 0 }, { name := "LOG2_ARRAY_INT_INDEX_SCALE", type := .int, accessFlags := 25, slot := 6, constantValue := 0 }, { name := "LOG2_ARRAY_LONG_INDEX_SCALE", type := .int, accessFlags := 25, slot := 7, constantValue := 0 }, { name := "LOG2_ARRAY_FLOAT_INDEX_SCALE", type := .int, accessFlags := 25, slot := 8, constantValue := 0 }, { name := "LOG2_ARRAY_DOUBLE_INDEX_SCALE", type := .int, accessFlags := 25, slot := 9, constantValue := 0 }, { name := "LOG2_BYTE_BIT_SIZE", type := .int, accessFlags := 26, slot := 10, constantValue := 0 }, { name := "T_BOOLEAN", type := .int, accessFlags := 25, slot := 11, constantValue := 0 }, { name := "T_CHAR", type := .int, accessFlags := 25, slot := 12, constantValue := 0 }, { name := "T_FLOAT", type := .int, accessFlags := 25, slot := 13, constantValue := 0 }, { name := "T_DOUBLE", type := .int, accessFlags := 25, slot := 14, constantValue := 0 }, { name := "T_BYTE", type := .int, accessFlags := 25, slot := 15, constantValue := 0 }, { name := "T_SHORT", type := .int, accessFlags := 25, slot := 16, constantValue := 0 }, { name := "T_INT", type := .int, accessFlags := 25, slot := 17, constantValue := 0 }, { name := "T_LONG", type := .int, accessFlags := 25, slot := 18, constantValue := 0 }, { name := "JLA", type := (.object "jdk/internal/access/JavaLangAccess"), accessFlags := 26, slot := 19, constantValue := 0 }, { name := "SOFT_MAX_ARRAY_LENGTH", type := .int, accessFlags := 25, slot := 20, constantValue := 0 }]
  methods := #[k16m0]
  instanceTypes := #[]
  staticTypes := #[(.object "jdk/internal/misc/Unsafe"), .boolean, .int, .int, .int, .int, .int, .int, .int, .int, .int, .int, .int, .int, .int, .int, .int, .int, .int, (.object "jdk/internal/access/JavaLangAccess"), .int]
  resolved := Array.replicate 378 none
  statics := none }

def pool17 : Array CpInfo := pool [(1, u "java/lang/Cloneable"), (0, .class_ 1), (0, u "java/lang/Object"), (0, .class_ 3)] 3

/-- java/lang/Cloneable -/
def k17 : Class := { plain "java/lang/Cloneable" (some 0) with
  accessFlags := 1537
  interfaces := #[]
  cf := some (fileOf pool17 2 #[] #[] 1537 4 #[] #[])
  fields := #[]
  methods := #[]
  instanceTypes := #[]
  staticTypes := #[]
  resolved := Array.replicate 8 none
  statics := none }

/-- the primitive byte -/
def k18 : Class := { plain "byte" none with kind := .primitive 'B', accessFlags := 0x411 }
/-- [B -/
def k19 : Class := { plain "[B" (some 0) with kind := .array 18 .byte, interfaces := #[17, 2], accessFlags := 1041 }

/-- the primitive char -/
def k20 : Class := { plain "char" none with kind := .primitive 'C', accessFlags := 0x411 }
/-- [C -/
def k21 : Class := { plain "[C" (some 0) with kind := .array 20 .char, interfaces := #[17, 2], accessFlags := 1041 }

/-- the primitive int -/
def k22 : Class := { plain "int" none with kind := .primitive 'I', accessFlags := 0x411 }
/-- [I -/
def k23 : Class := { plain "[I" (some 0) with kind := .array 22 .int, interfaces := #[17, 2], accessFlags := 1041 }

def heap : Heap := #[{ cls := 7, slots := #[.long 0, .int 1, .null, .int 0, .null, .int 0, .int 0], vm := .statics 7 },
  { cls := 13, slots := #[.null, .null, .null], vm := .statics 13 }]
def classes : Array Class := #[k0, k1, k2, k3, k4, k5, k6, k7, k8, k9, k10, k11, k12, k13, k14, k15, k16, k17, k18, k19, k20, k21, k22, k23]
def interned : List (Array UInt16 × Addr) := []
def slotsUsed : Nat := 10
def theMethod : MethodId := ⟨1, 2⟩
def args0 : Array Value := #[.int 4, .int 8, .int 12, .int 16, .int 7, .int 2]
def aboutOver (below : List Frame) : State where
  vm := { classes := classes, interned := interned.toArray }
  heap := heap
  slotsUsed := slotsUsed
  threads := #[{ frames := .invoking theMethod args0 :: below }]
def below0 : List Frame := [.native { method := ⟨0, 0⟩, args := #[] }]
def about1 : State := aboutOver below0
def p0 : Program := .bare "" "" ""
def e0 : Env := launch0.env 0 0 0
theorem w_frames : about1.frames = Frame.invoking theMethod args0 :: below0 := rfl
set_option maxRecDepth 65536 in
theorem w_args : argsFit about1.vm theMethod args0 = true := by decide +kernel
set_option maxRecDepth 65536 in
theorem w_heap : heapFits about1 = true := by decide +kernel
set_option maxRecDepth 65536 in
theorem w_runnable : about1.curStatus? = some .runnable := by decide +kernel
set_option maxRecDepth 65536 in
theorem w_alone : about1.alone = true := by decide +kernel
set_option maxRecDepth 65536 in
theorem w_named : about1.methodNamed? x = some theMethod := by decide +kernel
set_option maxRecDepth 65536 in
theorem w_hears : about1.hears theMethod below0 = true := by decide +kernel
set_option maxRecDepth 65536 in
theorem w_ripe : about1.ripe theMethod args0 below0 = true := by decide +kernel
theorem w_running : about1.status = .running := rfl
set_option maxRecDepth 65536 in
theorem w_room : about1.hasRoom e0.platform room_1 = true :=
  launch0.hasRoom_least _ room_1 (by decide +kernel) (by decide +kernel) (by decide +kernel) (by decide +kernel) (by decide +kernel) (by decide +kernel)
theorem allAtoms_all (ts : List Jvm.Cond) (a : Array Jvm.Value) (st : Jvm.State) : (allAtoms ts).before a st = ts.all (fun c => c.before a st) := by
  induction ts with
  | nil => rfl
  | cons c t ih =>
    show (Jvm.Cond.and c (allAtoms t)).before a st = _
    rw [Jvm.Cond.before_and, ih, List.all_cons]
def words1 : List Jvm.Cond := Jvm.Cond.code x code maxLocals ret :: tables_1
/-- a 'code' word, met by the world's own term for the bytes: nothing is compared byte by byte -/
theorem code_word {y : MethodName} {bytes : ByteArray} {mx : Nat} {rt : Option FieldType} {a : Array Value} {s : State} {m : MethodId} {meth : Method} {c : Code} (h1 : s.methodNamed? y = some m) (h2 : s.vm.method? m = some meth) (h3 : meth.code = some c) (h4 : c.code = bytes)
    (h5 : (c.maxLocals == mx && c.exceptionTable.isEmpty && decide (c.maxStack ≤ mostOperands) && decide (meth.sig.returnType = rt) && !meth.locks && decide (parseMethodDescriptor y.desc = some meth.sig)) = true) : (Jvm.Cond.code y bytes mx rt).before a s = true := by
  simp only [Bool.and_eq_true, beq_iff_eq, Bool.not_eq_true', decide_eq_true_eq] at h5
  obtain ⟨⟨⟨⟨⟨g1, g2⟩, g3⟩, g4⟩, g5⟩, g6⟩ := h5
  simp [Cond.before, Cond.holds, Cond.value, h1, h2, h3, h4, g1, g2, g3, g4, g5, g6]
def isCode : Jvm.Cond → Bool
  | .code _ _ _ _ => true
  | _ => false
theorem all_split {L : List Jvm.Cond} {P : Jvm.Cond → Bool} (h1 : L.all (fun c => isCode c || P c) = true) (h2 : ∀ c ∈ L.filter isCode, P c = true) : L.all P = true := by
  refine List.all_eq_true.mpr fun c hc => ?_
  have h := List.all_eq_true.mp h1 c hc
  rcases Bool.eq_false_or_eq_true (isCode c) with hi | hi
  · exact h2 c (List.mem_filter.mpr ⟨hc, hi⟩)
  · simpa [hi] using h
set_option maxRecDepth 65536 in
theorem w_c0 : (Jvm.Cond.code x code maxLocals ret).before args0 about1 = true := code_word (m := ⟨1, 2⟩) (meth := k1m2) (c := k1c2) (by decide +kernel) rfl rfl rfl (by decide +kernel)
set_option maxRecDepth 65536 in
theorem w_c1 : (Jvm.Cond.code ({ cls := "com/example/travessia/travessia/isis/IsisFieldLeadingTextPinLaw", name := "draw", desc := "(I)C" } : Jvm.MethodName) method_2_code (1 : Nat) (Option.some Jvm.ClassFile.FieldType.char)).before args0 about1 = true := code_word (m := ⟨1, 1⟩) (meth := k1m1) (c := k1c1) (by decide +kernel) rfl rfl rfl (by decide +kernel)
set_option maxRecDepth 65536 in
theorem w_c2 : (Jvm.Cond.code ({ cls := "java/lang/String", name := "<init>", desc := "([C)V" } : Jvm.MethodName) jdk_42_method_3_code (2 : Nat) (Option.none : Option Jvm.ClassFile.FieldType)).before args0 about1 = true := code_word (m := ⟨7, 1⟩) (meth := k7m1) (c := k7c1) (by decide +kernel) rfl rfl rfl (by decide +kernel)
set_option maxRecDepth 65536 in
theorem w_c3 : (Jvm.Cond.code ({ cls := "java/lang/String", name := "<init>", desc := "([CIILjava/lang/Void;)V" } : Jvm.MethodName) jdk_42_method_149_code (6 : Nat) (Option.none : Option Jvm.ClassFile.FieldType)).before args0 about1 = true := code_word (m := ⟨7, 7⟩) (meth := k7m7) (c := k7c7) (by decide +kernel) rfl rfl rfl (by decide +kernel)
set_option maxRecDepth 65536 in
theorem w_c4 : (Jvm.Cond.code ({ cls := "java/lang/Object", name := "<init>", desc := "()V" } : Jvm.MethodName) object_method_1_code (1 : Nat) (Option.none : Option Jvm.ClassFile.FieldType)).before args0 about1 = true := code_word (m := ⟨0, 0⟩) (meth := k0m0) (c := k0c0) (by decide +kernel) rfl rfl rfl (by decide +kernel)
set_option maxRecDepth 65536 in
theorem w_c5 : (Jvm.Cond.code ({ cls := "java/lang/StringUTF16", name := "compress", desc := "([CII)[B" } : Jvm.MethodName) jdk_52_method_16_code (6 : Nat) (Option.some (Jvm.ClassFile.FieldType.array Jvm.ClassFile.FieldType.byte))).before args0 about1 = true := code_word (m := ⟨8, 2⟩) (meth := k8m2) (c := k8c2) (by decide +kernel) rfl rfl rfl (by decide +kernel)
set_option maxRecDepth 65536 in
theorem w_c6 : (Jvm.Cond.code ({ cls := "java/lang/StringUTF16", name := "compress", desc := "([CI[BII)I" } : Jvm.MethodName) jdk_52_method_21_code (7 : Nat) (Option.some Jvm.ClassFile.FieldType.int)).before args0 about1 = true := code_word (m := ⟨8, 3⟩) (meth := k8m3) (c := k8c3) (by decide +kernel) rfl rfl rfl (by decide +kernel)
set_option maxRecDepth 65536 in
theorem w_c7 : (Jvm.Cond.code ({ cls := "java/lang/StringUTF16", name := "coderFromArrayLen", desc := "([BI)B" } : Jvm.MethodName) jdk_52_method_15_code (2 : Nat) (Option.some Jvm.ClassFile.FieldType.byte)).before args0 about1 = true := code_word (m := ⟨8, 1⟩) (meth := k8m1) (c := k8c1) (by decide +kernel) rfl rfl rfl (by decide +kernel)
set_option maxRecDepth 65536 in
theorem w_c8 : (Jvm.Cond.code ({ cls := "com/example/travessia/travessia/isis/IsisField", name := "<init>", desc := "(ILjava/lang/String;Z)V" } : Jvm.MethodName) prog_8_method_2_code (4 : Nat) (Option.none : Option Jvm.ClassFile.FieldType)).before args0 about1 = true := code_word (m := ⟨10, 0⟩) (meth := k10m0) (c := k10c0) (by decide +kernel) rfl rfl rfl (by decide +kernel)
set_option maxRecDepth 65536 in
theorem w_c9 : (Jvm.Cond.code ({ cls := "java/lang/Record", name := "<init>", desc := "()V" } : Jvm.MethodName) jdk_30_method_1_code (1 : Nat) (Option.none : Option Jvm.ClassFile.FieldType)).before args0 about1 = true := code_word (m := ⟨9, 0⟩) (meth := k9m0) (c := k9c0) (by decide +kernel) rfl rfl rfl (by decide +kernel)
set_option maxRecDepth 65536 in
theorem w_c10 : (Jvm.Cond.code ({ cls := "com/example/travessia/travessia/isis/IsisField", name := "leadingText", desc := "()Ljava/lang/String;" } : Jvm.MethodName) prog_8_method_3_code (2 : Nat) (Option.some (Jvm.ClassFile.FieldType.object "java/lang/String"))).before args0 about1 = true := code_word (m := ⟨10, 1⟩) (meth := k10m1) (c := k10c1) (by decide +kernel) rfl rfl rfl (by decide +kernel)
set_option maxRecDepth 65536 in
theorem w_c11 : (Jvm.Cond.code ({ cls := "java/lang/String", name := "indexOf", desc := "(I)I" } : Jvm.MethodName) jdk_42_method_79_code (2 : Nat) (Option.some Jvm.ClassFile.FieldType.int)).before args0 about1 = true := code_word (m := ⟨7, 4⟩) (meth := k7m4) (c := k7c4) (by decide +kernel) rfl rfl rfl (by decide +kernel)
set_option maxRecDepth 65536 in
theorem w_c12 : (Jvm.Cond.code ({ cls := "java/lang/String", name := "indexOf", desc := "(II)I" } : Jvm.MethodName) jdk_42_method_80_code (3 : Nat) (Option.some Jvm.ClassFile.FieldType.int)).before args0 about1 = true := code_word (m := ⟨7, 5⟩) (meth := k7m5) (c := k7c5) (by decide +kernel) rfl rfl rfl (by decide +kernel)
set_option maxRecDepth 65536 in
theorem w_c13 : (Jvm.Cond.code ({ cls := "java/lang/String", name := "isLatin1", desc := "()Z" } : Jvm.MethodName) jdk_42_method_154_code (1 : Nat) (Option.some Jvm.ClassFile.FieldType.boolean)).before args0 about1 = true := code_word (m := ⟨7, 10⟩) (meth := k7m10) (c := k7c10) (by decide +kernel) rfl rfl rfl (by decide +kernel)
set_option maxRecDepth 65536 in
theorem w_c14 : (Jvm.Cond.code ({ cls := "java/lang/String", name := "length", desc := "()I" } : Jvm.MethodName) jdk_42_method_54_code (1 : Nat) (Option.some Jvm.ClassFile.FieldType.int)).before args0 about1 = true := code_word (m := ⟨7, 2⟩) (meth := k7m2) (c := k7c2) (by decide +kernel) rfl rfl rfl (by decide +kernel)
set_option maxRecDepth 65536 in
theorem w_c15 : (Jvm.Cond.code ({ cls := "java/lang/String", name := "coder", desc := "()B" } : Jvm.MethodName) jdk_42_method_152_code (1 : Nat) (Option.some Jvm.ClassFile.FieldType.byte)).before args0 about1 = true := code_word (m := ⟨7, 9⟩) (meth := k7m9) (c := k7c9) (by decide +kernel) rfl rfl rfl (by decide +kernel)
set_option maxRecDepth 65536 in
theorem w_c16 : (Jvm.Cond.code ({ cls := "java/lang/StringLatin1", name := "indexOf", desc := "([BIII)I" } : Jvm.MethodName) jdk_43_method_22_code (4 : Nat) (Option.some Jvm.ClassFile.FieldType.int)).before args0 about1 = true := code_word (m := ⟨11, 3⟩) (meth := k11m3) (c := k11c3) (by decide +kernel) rfl rfl rfl (by decide +kernel)
set_option maxRecDepth 65536 in
theorem w_c17 : (Jvm.Cond.code ({ cls := "java/lang/StringLatin1", name := "canEncode", desc := "(I)Z" } : Jvm.MethodName) jdk_43_method_4_code (1 : Nat) (Option.some Jvm.ClassFile.FieldType.boolean)).before args0 about1 = true := code_word (m := ⟨11, 2⟩) (meth := k11m2) (c := k11c2) (by decide +kernel) rfl rfl rfl (by decide +kernel)
set_option maxRecDepth 65536 in
theorem w_c18 : (Jvm.Cond.code ({ cls := "java/lang/Math", name := "max", desc := "(II)I" } : Jvm.MethodName) jdk_29_method_65_code (2 : Nat) (Option.some Jvm.ClassFile.FieldType.int)).before args0 about1 = true := code_word (m := ⟨12, 1⟩) (meth := k12m1) (c := k12c1) (by decide +kernel) rfl rfl rfl (by decide +kernel)
set_option maxRecDepth 65536 in
theorem w_c19 : (Jvm.Cond.code ({ cls := "java/lang/Math", name := "min", desc := "(II)I" } : Jvm.MethodName) jdk_29_method_69_code (2 : Nat) (Option.some Jvm.ClassFile.FieldType.int)).before args0 about1 = true := code_word (m := ⟨12, 2⟩) (meth := k12m2) (c := k12c2) (by decide +kernel) rfl rfl rfl (by decide +kernel)
set_option maxRecDepth 65536 in
theorem w_c20 : (Jvm.Cond.code ({ cls := "java/lang/StringLatin1", name := "indexOfChar", desc := "([BIII)I" } : Jvm.MethodName) jdk_43_method_23_code (6 : Nat) (Option.some Jvm.ClassFile.FieldType.int)).before args0 about1 = true := code_word (m := ⟨11, 4⟩) (meth := k11m4) (c := k11c4) (by decide +kernel) rfl rfl rfl (by decide +kernel)
set_option maxRecDepth 65536 in
theorem w_c21 : (Jvm.Cond.code ({ cls := "java/lang/String", name := "substring", desc := "(II)Ljava/lang/String;" } : Jvm.MethodName) jdk_42_method_92_code (5 : Nat) (Option.some (Jvm.ClassFile.FieldType.object "java/lang/String"))).before args0 about1 = true := code_word (m := ⟨7, 6⟩) (meth := k7m6) (c := k7c6) (by decide +kernel) rfl rfl rfl (by decide +kernel)
set_option maxRecDepth 65536 in
theorem w_c22 : (Jvm.Cond.code ({ cls := "java/lang/String", name := "checkBoundsBeginEnd", desc := "(III)V" } : Jvm.MethodName) jdk_42_method_158_code (3 : Nat) (Option.none : Option Jvm.ClassFile.FieldType)).before args0 about1 = true := code_word (m := ⟨7, 12⟩) (meth := k7m12) (c := k7c12) (by decide +kernel) rfl rfl rfl (by decide +kernel)
set_option maxRecDepth 65536 in
theorem w_c23 : (Jvm.Cond.code ({ cls := "jdk/internal/util/Preconditions", name := "checkFromToIndex", desc := "(IIILjava/util/function/BiFunction;)I" } : Jvm.MethodName) jdk_41_method_12_code (4 : Nat) (Option.some Jvm.ClassFile.FieldType.int)).before args0 about1 = true := code_word (m := ⟨13, 2⟩) (meth := k13m2) (c := k13c2) (by decide +kernel) rfl rfl rfl (by decide +kernel)
set_option maxRecDepth 65536 in
theorem w_c24 : (Jvm.Cond.code ({ cls := "java/lang/StringLatin1", name := "newString", desc := "([BII)Ljava/lang/String;" } : Jvm.MethodName) jdk_43_method_47_code (3 : Nat) (Option.some (Jvm.ClassFile.FieldType.object "java/lang/String"))).before args0 about1 = true := code_word (m := ⟨11, 5⟩) (meth := k11m5) (c := k11c5) (by decide +kernel) rfl rfl rfl (by decide +kernel)
set_option maxRecDepth 65536 in
theorem w_c25 : (Jvm.Cond.code ({ cls := "java/util/Arrays", name := "copyOfRange", desc := "([BII)[B" } : Jvm.MethodName) jdk_65_method_132_code (3 : Nat) (Option.some (Jvm.ClassFile.FieldType.array Jvm.ClassFile.FieldType.byte))).before args0 about1 = true := code_word (m := ⟨14, 2⟩) (meth := k14m2) (c := k14c2) (by decide +kernel) rfl rfl rfl (by decide +kernel)
set_option maxRecDepth 65536 in
theorem w_c26 : (Jvm.Cond.code ({ cls := "java/util/Arrays", name := "copyOfRangeByte", desc := "([BII)[B" } : Jvm.MethodName) jdk_65_method_133_code (5 : Nat) (Option.some (Jvm.ClassFile.FieldType.array Jvm.ClassFile.FieldType.byte))).before args0 about1 = true := code_word (m := ⟨14, 3⟩) (meth := k14m3) (c := k14c3) (by decide +kernel) rfl rfl rfl (by decide +kernel)
set_option maxRecDepth 65536 in
theorem w_c27 : (Jvm.Cond.code ({ cls := "java/util/Arrays", name := "checkLength", desc := "(II)V" } : Jvm.MethodName) jdk_65_method_131_code (2 : Nat) (Option.none : Option Jvm.ClassFile.FieldType)).before args0 about1 = true := code_word (m := ⟨14, 1⟩) (meth := k14m1) (c := k14c1) (by decide +kernel) rfl rfl rfl (by decide +kernel)
set_option maxRecDepth 65536 in
theorem w_c28 : (Jvm.Cond.code ({ cls := "java/lang/String", name := "<init>", desc := "([BB)V" } : Jvm.MethodName) jdk_42_method_151_code (3 : Nat) (Option.none : Option Jvm.ClassFile.FieldType)).before args0 about1 = true := code_word (m := ⟨7, 8⟩) (meth := k7m8) (c := k7c8) (by decide +kernel) rfl rfl rfl (by decide +kernel)
set_option maxRecDepth 65536 in
theorem w_c29 : (Jvm.Cond.code ({ cls := "java/lang/String", name := "charAt", desc := "(I)C" } : Jvm.MethodName) jdk_42_method_56_code (2 : Nat) (Option.some Jvm.ClassFile.FieldType.char)).before args0 about1 = true := code_word (m := ⟨7, 3⟩) (meth := k7m3) (c := k7c3) (by decide +kernel) rfl rfl rfl (by decide +kernel)
set_option maxRecDepth 65536 in
theorem w_c30 : (Jvm.Cond.code ({ cls := "java/lang/StringLatin1", name := "charAt", desc := "([BI)C" } : Jvm.MethodName) jdk_43_method_2_code (2 : Nat) (Option.some Jvm.ClassFile.FieldType.char)).before args0 about1 = true := code_word (m := ⟨11, 1⟩) (meth := k11m1) (c := k11c1) (by decide +kernel) rfl rfl rfl (by decide +kernel)
set_option maxRecDepth 65536 in
theorem w_c31 : (Jvm.Cond.code ({ cls := "java/lang/String", name := "checkIndex", desc := "(II)V" } : Jvm.MethodName) jdk_42_method_155_code (2 : Nat) (Option.none : Option Jvm.ClassFile.FieldType)).before args0 about1 = true := code_word (m := ⟨7, 11⟩) (meth := k7m11) (c := k7c11) (by decide +kernel) rfl rfl rfl (by decide +kernel)
set_option maxRecDepth 65536 in
theorem w_c32 : (Jvm.Cond.code ({ cls := "jdk/internal/util/Preconditions", name := "checkIndex", desc := "(IILjava/util/function/BiFunction;)I" } : Jvm.MethodName) jdk_41_method_11_code (3 : Nat) (Option.some Jvm.ClassFile.FieldType.int)).before args0 about1 = true := code_word (m := ⟨13, 1⟩) (meth := k13m1) (c := k13c1) (by decide +kernel) rfl rfl rfl (by decide +kernel)
def codes1 : List Jvm.Cond := [Jvm.Cond.code x code maxLocals ret, Jvm.Cond.code ({ cls := "com/example/travessia/travessia/isis/IsisFieldLeadingTextPinLaw", name := "draw", desc := "(I)C" } : Jvm.MethodName) method_2_code (1 : Nat) (Option.some Jvm.ClassFile.FieldType.char), Jvm.Cond.code ({ cls := "java/lang/String", name := "<init>", desc := "([C)V" } : Jvm.MethodName) jdk_42_method_3_code (2 : Nat) (Option.none : Option Jvm.ClassFile.FieldType), Jvm.Cond.code ({ cls := "java/lang/String", name := "<init>", desc := "([CIILjava/lang/Void;)V" } : Jvm.MethodName) jdk_42_method_149_code (6 : Nat) (Option.none : Option Jvm.ClassFile.FieldType), Jvm.Cond.code ({ cls := "java/lang/Object", name := "<init>", desc := "()V" } : Jvm.MethodName) object_method_1_code (1 : Nat) (Option.none : Option Jvm.ClassFile.FieldType), Jvm.Cond.code ({ cls := "java/lang/StringUTF16", name := "compress", desc := "([CII)[B" } : Jvm.MethodName) jdk_52_method_16_code (6 : Nat) (Option.some (Jvm.ClassFile.FieldType.array Jvm.ClassFile.FieldType.byte)), Jvm.Cond.code ({ cls := "java/lang/StringUTF16", name := "compress", desc := "([CI[BII)I" } : Jvm.MethodName) jdk_52_method_21_code (7 : Nat) (Option.some Jvm.ClassFile.FieldType.int), Jvm.Cond.code ({ cls := "java/lang/StringUTF16", name := "coderFromArrayLen", desc := "([BI)B" } : Jvm.MethodName) jdk_52_method_15_code (2 : Nat) (Option.some Jvm.ClassFile.FieldType.byte), Jvm.Cond.code ({ cls := "com/example/travessia/travessia/isis/IsisField", name := "<init>", desc := "(ILjava/lang/String;Z)V" } : Jvm.MethodName) prog_8_method_2_code (4 : Nat) (Option.none : Option Jvm.ClassFile.FieldType), Jvm.Cond.code ({ cls := "java/lang/Record", name := "<init>", desc := "()V" } : Jvm.MethodName) jdk_30_method_1_code (1 : Nat) (Option.none : Option Jvm.ClassFile.FieldType), Jvm.Cond.code ({ cls := "com/example/travessia/travessia/isis/IsisField", name := "leadingText", desc := "()Ljava/lang/String;" } : Jvm.MethodName) prog_8_method_3_code (2 : Nat) (Option.some (Jvm.ClassFile.FieldType.object "java/lang/String")), Jvm.Cond.code ({ cls := "java/lang/String", name := "indexOf", desc := "(I)I" } : Jvm.MethodName) jdk_42_method_79_code (2 : Nat) (Option.some Jvm.ClassFile.FieldType.int), Jvm.Cond.code ({ cls := "java/lang/String", name := "indexOf", desc := "(II)I" } : Jvm.MethodName) jdk_42_method_80_code (3 : Nat) (Option.some Jvm.ClassFile.FieldType.int), Jvm.Cond.code ({ cls := "java/lang/String", name := "isLatin1", desc := "()Z" } : Jvm.MethodName) jdk_42_method_154_code (1 : Nat) (Option.some Jvm.ClassFile.FieldType.boolean), Jvm.Cond.code ({ cls := "java/lang/String", name := "length", desc := "()I" } : Jvm.MethodName) jdk_42_method_54_code (1 : Nat) (Option.some Jvm.ClassFile.FieldType.int), Jvm.Cond.code ({ cls := "java/lang/String", name := "coder", desc := "()B" } : Jvm.MethodName) jdk_42_method_152_code (1 : Nat) (Option.some Jvm.ClassFile.FieldType.byte), Jvm.Cond.code ({ cls := "java/lang/StringLatin1", name := "indexOf", desc := "([BIII)I" } : Jvm.MethodName) jdk_43_method_22_code (4 : Nat) (Option.some Jvm.ClassFile.FieldType.int), Jvm.Cond.code ({ cls := "java/lang/StringLatin1", name := "canEncode", desc := "(I)Z" } : Jvm.MethodName) jdk_43_method_4_code (1 : Nat) (Option.some Jvm.ClassFile.FieldType.boolean), Jvm.Cond.code ({ cls := "java/lang/Math", name := "max", desc := "(II)I" } : Jvm.MethodName) jdk_29_method_65_code (2 : Nat) (Option.some Jvm.ClassFile.FieldType.int), Jvm.Cond.code ({ cls := "java/lang/Math", name := "min", desc := "(II)I" } : Jvm.MethodName) jdk_29_method_69_code (2 : Nat) (Option.some Jvm.ClassFile.FieldType.int), Jvm.Cond.code ({ cls := "java/lang/StringLatin1", name := "indexOfChar", desc := "([BIII)I" } : Jvm.MethodName) jdk_43_method_23_code (6 : Nat) (Option.some Jvm.ClassFile.FieldType.int), Jvm.Cond.code ({ cls := "java/lang/String", name := "substring", desc := "(II)Ljava/lang/String;" } : Jvm.MethodName) jdk_42_method_92_code (5 : Nat) (Option.some (Jvm.ClassFile.FieldType.object "java/lang/String")), Jvm.Cond.code ({ cls := "java/lang/String", name := "checkBoundsBeginEnd", desc := "(III)V" } : Jvm.MethodName) jdk_42_method_158_code (3 : Nat) (Option.none : Option Jvm.ClassFile.FieldType), Jvm.Cond.code ({ cls := "jdk/internal/util/Preconditions", name := "checkFromToIndex", desc := "(IIILjava/util/function/BiFunction;)I" } : Jvm.MethodName) jdk_41_method_12_code (4 : Nat) (Option.some Jvm.ClassFile.FieldType.int), Jvm.Cond.code ({ cls := "java/lang/StringLatin1", name := "newString", desc := "([BII)Ljava/lang/String;" } : Jvm.MethodName) jdk_43_method_47_code (3 : Nat) (Option.some (Jvm.ClassFile.FieldType.object "java/lang/String")), Jvm.Cond.code ({ cls := "java/util/Arrays", name := "copyOfRange", desc := "([BII)[B" } : Jvm.MethodName) jdk_65_method_132_code (3 : Nat) (Option.some (Jvm.ClassFile.FieldType.array Jvm.ClassFile.FieldType.byte)), Jvm.Cond.code ({ cls := "java/util/Arrays", name := "copyOfRangeByte", desc := "([BII)[B" } : Jvm.MethodName) jdk_65_method_133_code (5 : Nat) (Option.some (Jvm.ClassFile.FieldType.array Jvm.ClassFile.FieldType.byte)), Jvm.Cond.code ({ cls := "java/util/Arrays", name := "checkLength", desc := "(II)V" } : Jvm.MethodName) jdk_65_method_131_code (2 : Nat) (Option.none : Option Jvm.ClassFile.FieldType), Jvm.Cond.code ({ cls := "java/lang/String", name := "<init>", desc := "([BB)V" } : Jvm.MethodName) jdk_42_method_151_code (3 : Nat) (Option.none : Option Jvm.ClassFile.FieldType), Jvm.Cond.code ({ cls := "java/lang/String", name := "charAt", desc := "(I)C" } : Jvm.MethodName) jdk_42_method_56_code (2 : Nat) (Option.some Jvm.ClassFile.FieldType.char), Jvm.Cond.code ({ cls := "java/lang/StringLatin1", name := "charAt", desc := "([BI)C" } : Jvm.MethodName) jdk_43_method_2_code (2 : Nat) (Option.some Jvm.ClassFile.FieldType.char), Jvm.Cond.code ({ cls := "java/lang/String", name := "checkIndex", desc := "(II)V" } : Jvm.MethodName) jdk_42_method_155_code (2 : Nat) (Option.none : Option Jvm.ClassFile.FieldType), Jvm.Cond.code ({ cls := "jdk/internal/util/Preconditions", name := "checkIndex", desc := "(IILjava/util/function/BiFunction;)I" } : Jvm.MethodName) jdk_41_method_11_code (3 : Nat) (Option.some Jvm.ClassFile.FieldType.int)]
set_option maxRecDepth 65536 in
theorem codes_eq : words1.filter isCode = codes1 := rfl
theorem w_codes : ∀ c ∈ words1.filter isCode, c.before args0 about1 = true := by
  rw [codes_eq]
  intro c hc
  simp only [codes1, List.mem_cons, List.not_mem_nil, or_false] at hc
  rcases hc with rfl | rfl | rfl | rfl | rfl | rfl | rfl | rfl | rfl | rfl | rfl | rfl | rfl | rfl | rfl | rfl | rfl | rfl | rfl | rfl | rfl | rfl | rfl | rfl | rfl | rfl | rfl | rfl | rfl | rfl | rfl | rfl | rfl
  · exact w_c0
  · exact w_c1
  · exact w_c2
  · exact w_c3
  · exact w_c4
  · exact w_c5
  · exact w_c6
  · exact w_c7
  · exact w_c8
  · exact w_c9
  · exact w_c10
  · exact w_c11
  · exact w_c12
  · exact w_c13
  · exact w_c14
  · exact w_c15
  · exact w_c16
  · exact w_c17
  · exact w_c18
  · exact w_c19
  · exact w_c20
  · exact w_c21
  · exact w_c22
  · exact w_c23
  · exact w_c24
  · exact w_c25
  · exact w_c26
  · exact w_c27
  · exact w_c28
  · exact w_c29
  · exact w_c30
  · exact w_c31
  · exact w_c32
set_option maxRecDepth 65536 in
theorem w_t1 : (words1.take 24).all (fun c => isCode c || c.before args0 about1) = true := by decide +kernel
set_option maxRecDepth 65536 in
theorem w_t2 : ((words1.drop 24).take 24).all (fun c => isCode c || c.before args0 about1) = true := by decide +kernel
set_option maxRecDepth 65536 in
theorem w_t3 : (((words1.drop 24).drop 24).take 24).all (fun c => isCode c || c.before args0 about1) = true := by decide +kernel
set_option maxRecDepth 65536 in
theorem w_t4 : ((((words1.drop 24).drop 24).drop 24).take 24).all (fun c => isCode c || c.before args0 about1) = true := by decide +kernel
set_option maxRecDepth 65536 in
theorem w_t5 : (((((words1.drop 24).drop 24).drop 24).drop 24).take 24).all (fun c => isCode c || c.before args0 about1) = true := by decide +kernel
set_option maxRecDepth 65536 in
theorem w_t6 : ((((((words1.drop 24).drop 24).drop 24).drop 24).drop 24).take 24).all (fun c => isCode c || c.before args0 about1) = true := by decide +kernel
set_option maxRecDepth 65536 in
theorem w_t7 : ((((((words1.drop 24).drop 24).drop 24).drop 24).drop 24).drop 24).all (fun c => isCode c || c.before args0 about1) = true := by decide +kernel
theorem w_tables : (allAtoms (Jvm.Cond.code x code maxLocals ret :: tables_1)).before args0 about1 = true := by
  rw [allAtoms_all]
  show words1.all (fun c => c.before args0 about1) = true
  refine all_split ?_ w_codes
  rw [← List.take_append_drop 24 words1, List.all_append, w_t1, ← List.take_append_drop 24 (words1.drop 24), List.all_append, w_t2, ← List.take_append_drop 24 ((words1.drop 24).drop 24), List.all_append, w_t3, ← List.take_append_drop 24 (((words1.drop 24).drop 24).drop 24), List.all_append, w_t4, ← List.take_append_drop 24 ((((words1.drop 24).drop 24).drop 24).drop 24), List.all_append, w_t5, ← List.take_append_drop 24 (((((words1.drop 24).drop 24).drop 24).drop 24).drop 24), List.all_append, w_t6, w_t7]
  rfl
set_option maxRecDepth 65536 in
theorem w_rest : rest_1_c.before args0 about1 = true := by decide +kernel
set_option maxRecDepth 65536 in
theorem w_case : (Jvm.Cond.and given_1 narrow_1).before args0 about1 = true := by decide +kernel
set_option maxRecDepth 65536 in
theorem w_consts : constsHeld consts_1 about1 := Jvm.Lit.constsHeldB_iff.mp (by decide +kernel)
theorem w_applies : (headSpec (Jvm.Cond.code x code maxLocals ret :: tables_1) room_1).applies x e0.platform about1 = true :=
  (Spec.applies_iff w_frames).mpr ⟨w_running, w_runnable, w_alone, w_named, w_hears, w_ripe, w_room, w_tables⟩
theorem atStart : AtStart classFile x code maxLocals ret World_1 tables_1 room_1 Calls_1 rest_1 Pre_1 launch0 p0 e0 about1 theMethod args0 below0 :=
  ⟨lists_1, trivial, launch0.admits_env _ _ _, launch0.least_env, fairChoices_fair.cas, fairChoices_fair.clock, w_frames, w_args, w_heap, w_applies, ⟨w_consts, trivial⟩, w_rest, w_case⟩
end start1
theorem witness_1 : WitnessClaimed_1 := ⟨start1.p0, start1.e0, start1.about1, start1.theMethod, start1.args0, start1.below0, start1.atStart⟩
end Jvm.Pilot.@@N@@
