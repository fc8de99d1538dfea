import JvmDerived
import JvmDerived.Pilot.@@N@@Statement
import JvmDerived.Pilot.@@N@@Code
set_option linter.unusedVariables false
set_option linter.unusedSimpArgs false
namespace Jvm.RoadKit
open Sem ClassFile Op Lib Jvm.Stand Jvm.Free Jvm.LawKit
section New
variable {p : Program} {l : Launch} {e : Env} {R : Room} {s : State} {m : MethodId} {args : Array Value} {below : List Frame} {meth : Method} {c : Code} {T : State} {locs : List Loc} {cells slots : Nat}
theorem retI (X : Stand p l e R s m args below meth c T locs cells slots) (hx : p.tables.exec = Jvm.exec) {pc : Nat} {Ls : Array Slot} {z : Int32} {rest : List Value} (hret : meth.sig.returnType = some .int) (hd : decode c.code pc = .ok (.ireturn, 1)) {fs : List Frame}
    (hl : ∀ (f : JFrame) (acts : List Action), f.method = m → f.locked = none → f.entered = [] → (doReturn e (T.setTop f) acts (some (.int z))).1 = T.setFrames fs) : Steps p.tables e below (T.setTop (mkF m pc Ls (.int z :: rest))) (T.setFrames fs) := by
  have hm' : T.vm.method? m = some meth := X.method'
  have hn : narrow .int (.int z) = .int z := rfl
  show Steps p.tables e below (T.setTop { method := m, pc := pc, locals := Ls, stack := _ :: rest, locked := none }) _
  jvm_step X.here [X.here.top, hx, hd, hm', hret, hn]
  first | (intro acts; rw [hl _ acts rfl rfl rfl]) | rw [hl _ _ rfl rfl rfl]
  exact Steps.refl _
end New
end Jvm.RoadKit
namespace Jvm.Pilot.@@N@@
open Jvm Jvm.ClassFile Sem Op Lib Jvm.Free Jvm.Stand Jvm.LawKit Jvm.RoadKit Bundle Jvm.Pilot.@@N@@.Jvm.D
theorem pd_0 : parseMethodDescriptor "()V" = some ⟨[], none⟩ := by decide +kernel
theorem pd_1 : parseMethodDescriptor "()Z" = some ⟨[], some .boolean⟩ := by decide +kernel
theorem pd_2 : parseMethodDescriptor "(I)V" = some ⟨[.int], none⟩ := by decide +kernel
theorem pd_3 : parseMethodDescriptor "()I" = some ⟨[], some .int⟩ := by decide +kernel
def own_emp (w : Int32) : Int32 := if w = 0 then 1 else 0
theorem own_and3 (x : Int32) : (x &&& (3 : Int32)) = 0 ∨ (x &&& (3 : Int32)) = 1 ∨ (x &&& (3 : Int32)) = 2 ∨ (x &&& (3 : Int32)) = 3 := by
  have h1 : (x &&& (3 : Int32)).toInt = x.toInt % (2 ^ 2 : Nat) := c_mask x 3 2 (by decide) (by decide)
  simp only [← Int32.toInt_inj, Int32.reduceToInt]
  simp only [Nat.reducePow] at h1
  omega
theorem own_e0 : own_emp (0 : Int32) = (1 : Int32) := by decide
theorem own_e1 : own_emp (1 : Int32) = (0 : Int32) := by decide
theorem own_e2 : own_emp (2 : Int32) = (0 : Int32) := by decide
theorem own_e3 : own_emp (3 : Int32) = (0 : Int32) := by decide
def own_tab (Z : State) (h : Heap) (b : Addr) : Prop := ∃ c : Cell, Arr Z h b c .int ∧ c.slots.size = (16 : Int32).toNatClampNeg ∧ ∀ i, i < c.slots.size → ∃ x : Int32, c.slots[i]? = some (.int x)
theorem own_tab_new {Z : State} {h : Heap} {b : Addr} {k : ClassId} (A : Arr Z h b (newA k .int (16 : Int32)) .int) : own_tab Z h b := by
  refine ⟨_, A, sz_new _ _ _, fun i hi => ⟨0, ?_⟩⟩
  have e : (newA k .int (16 : Int32)).slots = Array.replicate (16 : Int32).toNatClampNeg (.int 0) := rfl
  rw [e] at hi ⊢
  rw [Array.getElem?_replicate]
  rw [Array.size_replicate] at hi
  exact if_pos hi
theorem own_tab_other {Z : State} {h h' : Heap} {a b : Addr} {sl : Nat} {v : Value} (F : own_tab Z h b) (W : Wr h h' a sl v) (q : b ≠ a) : own_tab Z h' b := by
  obtain ⟨c, A, r⟩ := F
  exact ⟨c, A.other W q, r⟩
theorem own_tab_set {Z : State} {h h' : Heap} {b : Addr} {sl : Nat} {x : Int32} (F : own_tab Z h b) (W : Wr h h' b sl (.int x)) : own_tab Z h' b := by
  obtain ⟨c, A, S, H⟩ := F
  refine ⟨_, A.same W, (sz_set _ _ _).trans S, fun i hi => ?_⟩
  rw [sz_set] at hi
  obtain ⟨y, hy⟩ := H i hi
  by_cases e : sl = i
  · subst e
    exact ⟨x, by simp [Cell.setSlot, hi]⟩
  · exact ⟨y, by rw [← hy]; exact Array.getElem?_setIfInBounds_ne e⟩
def own_st (Z : State) (h : Heap) (a b : Addr) (w : Int32) : Prop := Exa Z h a "com/example/brisk_tableau/brisktableau/ltl/IntStack" ∧ Fld Z h a "com/example/brisk_tableau/brisktableau/ltl/IntStack" "size" "I" (.int w) ∧ Fld Z h a "com/example/brisk_tableau/brisktableau/ltl/IntStack" "items" "[I" (.ref b) ∧ own_tab Z h b ∧ b ≠ a
theorem d1_0 : decode prog_61_method_1_code 0 = .ok (.aload_n 0, 1) := by decide +kernel
theorem d1_1 : decode prog_61_method_1_code 1 = .ok (.invokespecial 1, 3) := by decide +kernel
theorem d1_4 : decode prog_61_method_1_code 4 = .ok (.aload_n 0, 1) := by decide +kernel
theorem d1_5 : decode prog_61_method_1_code 5 = .ok (.bipush 16, 2) := by decide +kernel
theorem d1_7 : decode prog_61_method_1_code 7 = .ok (.newarray .int, 2) := by decide +kernel
theorem d1_9 : decode prog_61_method_1_code 9 = .ok (.putfield 7, 3) := by decide +kernel
theorem d1_12 : decode prog_61_method_1_code 12 = .ok (.return_, 1) := by decide +kernel
theorem pn_1 : plainName "com/example/brisk_tableau/brisktableau/ltl/IntStack" = true := by first | (simp [plainName, overriddenIn]; done) | decide +kernel
theorem ef_1 (m : MethodId) (a1 : Addr) : entryFrame m #[(.ref a1)] 1 = (mkF m 0 #[.val (.ref a1)] []) := by first | (simp [entryFrame, mkF, argsToLocals, Value.category, maxLocals]; done) | rfl
def Q1 (Z : State) (a1 : Addr) (u1 : Value) (h0 : Heap) (n0 : Nat) (v : Option Value) (h : Heap) (L : List Loc) : Prop := v = none ∧ Fr n0 L ∧ Keep h0 h [a1] ∧ ∃ b, n0 ≤ b ∧ own_st Z h a1 b (0 : Int32)
set_option maxRecDepth 65536 in
set_option maxHeartbeats 40000000 in
theorem rm1 (l : Launch) (Z : State) (a0 : Array Value) (hw : ∀ d ∈ tables_1, d.before a0 Z = true) (ws : List Jvm.Cond) (a1 : Addr) (u1 : Value) (h0 : Heap) (n0 : Nat) (Z0 : n0 ≤ h0.size) (E1 : Exa Z h0 a1 "com/example/brisk_tableau/brisktableau/ltl/IntStack") (F1 : Fld Z h0 a1 "com/example/brisk_tableau/brisktableau/ltl/IntStack" "size" "I" (.int (0 : Int32))) (F2 : Fld Z h0 a1 "com/example/brisk_tableau/brisktableau/ltl/IntStack" "items" "[I" u1) (g1 : n0 ≤ a1) :
    MetFree l (⟨"com/example/brisk_tableau/brisktableau/ltl/IntStack", "<init>", "()V"⟩ : MethodName) (head1 (Jvm.Cond.code (⟨"com/example/brisk_tableau/brisktableau/ltl/IntStack", "<init>", "()V"⟩ : MethodName) prog_61_method_1_code 1 none :: ws) ({ frames := 1, cells := 1, slots := 16, locals := 12 } : Room)) (fun a U => a = #[(.ref a1)] ∧ Z.Warmed39 U.vm ∧ U.heap = h0) (fun _ _ _ _ _ => True) (fun _ U o U' => ∃ v L, o = .returned v ∧ Q1 Z a1 u1 h0 n0 v U'.heap L ∧ FrameEnd U o U' L ({ frames := 1, cells := 1, slots := 16, locals := 12 } : Room).cells ({ frames := 1, cells := 1, slots := 16, locals := 12 } : Room).slots) := by
  refine MetFree.of_bodySF (plainFor_of_name pn_1) hisR ?_
  intro p e s m args below meth c s₁ Bd hml0 hP hK
  obtain ⟨rfl, hZ, hh⟩ := hP
  have hx := Bd.exec
  have hby := Bd.bytes
  have hml : c.maxLocals = 1 := hml0
  have hown : s.vm.findClass "com/example/brisk_tableau/brisktableau/ltl/IntStack" = some m.cls := findClass_of_methodNamed Bd.named
  have hnm := (name_of_methodNamed Bd.named Bd.method).1
  have X0 : Stand p l e ({ frames := 1, cells := 1, slots := 16, locals := 12 } : Room) s m #[(.ref a1)] below meth c s₁ [] 0 0 := Stand.of_body Bd
  have e0 : s₁.heap = h0 := by rw [← hh, Bd.state]; rfl
  have N0 := Fr.nil n0
  have pre0 : Steps p.tables e below (s₁.setTop (entryFrame m #[(.ref a1)] 1)) (s₁.setTop (mkF m 0 #[.val (.ref a1)] [])) := castTop (ef_1 m a1) (Steps.refl _)
  obtain ⟨T1, X1, e1, st1⟩ := initO X0 hx hZ hown (hw _ (List.mem_of_getElem? (i := 6) rfl)) (hw _ (List.mem_of_getElem? (i := 7) rfl)) (hw _ (List.mem_of_getElem? (i := 8) rfl)) e0 (g := (mkF m 1 #[.val (.ref a1)] [(.ref a1)])) rfl (by rw [hml]; rfl) rfl (hb hby d1_1) (by decide) (W := 0) (by show 2 * 0 + _ ≤ _; exact Nat.le_of_eq rfl) (by decide)
  have pre1 : Steps p.tables e below (s₁.setTop (entryFrame m #[(.ref a1)] 1)) (T1.setTop (mkF m 4 #[.val (.ref a1)] [])) := by
    refine pre0.trans ?_
    refine XS.aloadN X0.here hx rfl (hb hby d1_0) rfl rfl ?_
    show Steps p.tables e below (s₁.setTop (mkF m 1 #[.val (.ref a1)] [(.ref a1)])) _
    exact st1 _ (Steps.refl _)
  obtain ⟨T2, h2, k2, X2, e2, E2, A2, st2⟩ := newP X1 hx hZ (hw _ (List.mem_of_getElem? (i := 9) rfl)) e1 (g := (mkF m 7 #[.val (.ref a1)] [(.int (16 : Int32)), (.ref a1)])) rfl (hb hby d1_7) rfl (by decide) (cap := 16) (by decide) (by decide) (by decide) (by decide)
  obtain ⟨b2, g2⟩ : ∃ z, z = h0.size := ⟨_, rfl⟩
  rw [← g2] at A2 st2
  have pre2 : Steps p.tables e below (s₁.setTop (entryFrame m #[(.ref a1)] 1)) (T2.setTop (mkF m 9 #[.val (.ref a1)] [(.ref b2), (.ref a1)])) := by
    refine pre1.trans ?_
    refine XS.aloadN X1.here hx rfl (hb hby d1_4) rfl rfl ?_
    show Steps p.tables e below (T1.setTop (mkF m 5 #[.val (.ref a1)] [(.ref a1)])) _
    refine XS.bipush X1.here hx rfl (hb hby d1_5) ?_
    show Steps p.tables e below (T1.setTop (mkF m 7 #[.val (.ref a1)] [(.int (16 : Int32)), (.ref a1)])) _
    exact st2 _ (Steps.refl _)
  have gb : n0 ≤ b2 := Nat.le_trans Z0 (Nat.le_of_eq g2.symm)
  have nb : b2 ≠ a1 := Nat.ne_of_gt (Nat.lt_of_lt_of_le E1.lt (Nat.le_of_eq g2.symm))
  have tb : own_tab Z h2 b2 := own_tab_new A2
  obtain ⟨T3, h3, X3, e3, W3, st3⟩ := putF X2 hx hZ hown (host := "") (Or.inl (hw _ (List.mem_of_getElem? (i := 10) rfl))) Via.refl e2 (F2.ext E2) (E1.ext E2) (Or.inl (hw _ (List.mem_of_getElem? (i := 11) rfl))) (hw _ (List.mem_of_getElem? (i := 1) rfl)) (ty := (.array .int)) (by decide) rfl rfl (g := (mkF m 9 #[.val (.ref a1)] [(.ref b2), (.ref a1)])) rfl rfl (hb hby d1_9)
  have N3 := Fr.snoc X3 N0 g1
  have pre3 : Steps p.tables e below (s₁.setTop (entryFrame m #[(.ref a1)] 1)) (T3.setTop (mkF m 12 #[.val (.ref a1)] [])) := by
    refine pre2.trans ?_
    exact st3 _ (Steps.refl _)
  have K5 : Keep h0 h3 [a1] := ((Keep.refl h0 [a1]).ext E2).wr W3 (Or.inl (List.mem_singleton.mpr rfl))
  obtain ⟨fs, hr, hrun, hended, hW, hsame⟩ := X3.leave (v := none) (fun _ => rfl)
  refine ⟨_, _, pre3.trans ?_, hrun, hended, _, _, rfl, ?_, ⟨_, rfl⟩, hW, hsame.mono (by decide) (by decide)⟩
  · skip
    exact X3.returnOut hx Bd.returns (hb hby d1_12) hr
  · show Q1 Z a1 u1 h0 n0 _ T3.heap _
    rw [e3]
    exact ⟨rfl, N3, K5, b2, gb, (E1.ext E2).wr W3, (F1.ext E2).other W3 (Or.inr (slot_ne (Or.inl (hw _ (List.mem_of_getElem? (i := 18) rfl))) (Or.inl (hw _ (List.mem_of_getElem? (i := 11) rfl))) (by decide) (t := .int) (t' := (.array .int)) (by decide) (by decide))), (F2.ext E2).same W3, own_tab_other tb W3 nb, nb⟩
theorem d3_0 : decode prog_61_method_5_code 0 = .ok (.aload_n 0, 1) := by decide +kernel
theorem d3_1 : decode prog_61_method_5_code 1 = .ok (.getfield 13, 3) := by decide +kernel
theorem d3_4 : decode prog_61_method_5_code 4 = .ok (.ifCond .ne 7, 3) := by decide +kernel
theorem d3_7 : decode prog_61_method_5_code 7 = .ok (.iconst 1, 1) := by decide +kernel
theorem d3_8 : decode prog_61_method_5_code 8 = .ok (.goto 4, 3) := by decide +kernel
theorem d3_11 : decode prog_61_method_5_code 11 = .ok (.iconst 0, 1) := by decide +kernel
theorem d3_12 : decode prog_61_method_5_code 12 = .ok (.ireturn, 1) := by decide +kernel
theorem ef_3 (m : MethodId) (a1 : Addr) : entryFrame m #[(.ref a1)] 1 = (mkF m 0 #[.val (.ref a1)] []) := by first | (simp [entryFrame, mkF, argsToLocals, Value.category, maxLocals]; done) | rfl
def Q3 (Z : State) (a1 : Addr) (w2 : Int32) (b : Addr) (h0 : Heap) (n0 : Nat) (v : Option Value) (h : Heap) (L : List Loc) : Prop := v = some (.int (own_emp w2)) ∧ Fr n0 L ∧ h = h0
set_option maxRecDepth 65536 in
set_option maxHeartbeats 40000000 in
theorem rm3 (l : Launch) (Z : State) (a0 : Array Value) (hw : ∀ d ∈ tables_1, d.before a0 Z = true) (ws : List Jvm.Cond) (a1 : Addr) (w2 : Int32) (b : Addr) (h0 : Heap) (n0 : Nat) (Z0 : n0 ≤ h0.size) (S1 : own_st Z h0 a1 b w2) :
    MetFree l (⟨"com/example/brisk_tableau/brisktableau/ltl/IntStack", "isEmpty", "()Z"⟩ : MethodName) (head1 (Jvm.Cond.code (⟨"com/example/brisk_tableau/brisktableau/ltl/IntStack", "isEmpty", "()Z"⟩ : MethodName) prog_61_method_5_code 1 (some .boolean) :: ws) ({ frames := 0, cells := 0, slots := 0, locals := 0 } : Room)) (fun a U => a = #[(.ref a1)] ∧ Z.Warmed39 U.vm ∧ U.heap = h0) (fun _ _ _ _ _ => True) (fun _ U o U' => ∃ v L, o = .returned v ∧ Q3 Z a1 w2 b h0 n0 v U'.heap L ∧ FrameEnd U o U' L ({ frames := 0, cells := 0, slots := 0, locals := 0 } : Room).cells ({ frames := 0, cells := 0, slots := 0, locals := 0 } : Room).slots) := by
  refine MetFree.of_bodySF (plainFor_of_name pn_1) hisR ?_
  intro p e s m args below meth c s₁ Bd hml0 hP hK
  obtain ⟨rfl, hZ, hh⟩ := hP
  have hx := Bd.exec
  have hby := Bd.bytes
  have hml : c.maxLocals = 1 := hml0
  have hown : s.vm.findClass "com/example/brisk_tableau/brisktableau/ltl/IntStack" = some m.cls := findClass_of_methodNamed Bd.named
  have hnm := (name_of_methodNamed Bd.named Bd.method).1
  have X0 : Stand p l e ({ frames := 0, cells := 0, slots := 0, locals := 0 } : Room) s m #[(.ref a1)] below meth c s₁ [] 0 0 := Stand.of_body Bd
  have e0 : s₁.heap = h0 := by rw [← hh, Bd.state]; rfl
  have N0 := Fr.nil n0
  have pre0 : Steps p.tables e below (s₁.setTop (entryFrame m #[(.ref a1)] 1)) (s₁.setTop (mkF m 0 #[.val (.ref a1)] [])) := castTop (ef_3 m a1) (Steps.refl _)
  obtain ⟨T1, X1, e1, st1⟩ := getF X0 hx hZ hown (host := "") (Or.inl (hw _ (List.mem_of_getElem? (i := 17) rfl))) Via.refl e0 S1.2.1 (g := (mkF m 1 #[.val (.ref a1)] [(.ref a1)])) rfl rfl (hb hby d3_1)
  have pre1 : Steps p.tables e below (s₁.setTop (entryFrame m #[(.ref a1)] 1)) (T1.setTop (mkF m 4 #[.val (.ref a1)] [(.int w2)])) := by
    refine pre0.trans ?_
    refine XS.aloadN X0.here hx rfl (hb hby d3_0) rfl rfl ?_
    show Steps p.tables e below (s₁.setTop (mkF m 1 #[.val (.ref a1)] [(.ref a1)])) _
    exact st1 _ (Steps.refl _)
  by_cases hc4 : w2 = (0 : Int32)
  · skip
    obtain ⟨fs, hr, hrun, hended, hW, hsame⟩ := X1.leave (v := some (.int (1 : Int32))) (fun h => by rw [Bd.returns] at h; cases h)
    refine ⟨_, _, pre1.trans ?_, hrun, hended, _, _, rfl, ?_, ⟨_, rfl⟩, hW, hsame.mono (by decide) (by decide)⟩
    · skip
      refine XS.ifNo X1.here hx rfl (hb hby d3_4) rfl ((if0 _ _).trans (teq hc4).2) ?_
      show Steps p.tables e below (T1.setTop (mkF m 7 #[.val (.ref a1)] [])) _
      refine XS.iconst X1.here hx rfl (hb hby d3_7) ?_
      show Steps p.tables e below (T1.setTop (mkF m 8 #[.val (.ref a1)] [(.int (1 : Int32))])) _
      refine XS.goto X1.here hx rfl (pc0 := 8) (pc' := 12) rfl (hb hby d3_8) (by decide) (by decide) ?_
      show Steps p.tables e below (T1.setTop (mkF m 12 #[.val (.ref a1)] [(.int (1 : Int32))])) _
      exact retN X1 hx (t := .boolean) Bd.returns (by simp) (hb hby d3_12) hr
    · show Q3 Z a1 w2 b h0 n0 _ T1.heap _
      rw [e1]
      exact ⟨by simp [own_emp, hc4], N0, rfl⟩
  · skip
    obtain ⟨fs, hr, hrun, hended, hW, hsame⟩ := X1.leave (v := some (.int (0 : Int32))) (fun h => by rw [Bd.returns] at h; cases h)
    refine ⟨_, _, pre1.trans ?_, hrun, hended, _, _, rfl, ?_, ⟨_, rfl⟩, hW, hsame.mono (by decide) (by decide)⟩
    · skip
      refine XS.ifYes X1.here hx rfl (pc0 := 4) (pc' := 11) rfl (hb hby d3_4) rfl ((if0 _ _).trans (feq hc4).2) (by decide) (by decide) ?_
      show Steps p.tables e below (T1.setTop (mkF m 11 #[.val (.ref a1)] [])) _
      refine XS.iconst X1.here hx rfl (hb hby d3_11) ?_
      show Steps p.tables e below (T1.setTop (mkF m 12 #[.val (.ref a1)] [(.int (0 : Int32))])) _
      exact retN X1 hx (t := .boolean) Bd.returns (by simp) (hb hby d3_12) hr
    · show Q3 Z a1 w2 b h0 n0 _ T1.heap _
      rw [e1]
      exact ⟨by simp [own_emp, hc4], N0, rfl⟩
theorem d4_0 : decode prog_61_method_2_code 0 = .ok (.aload_n 0, 1) := by decide +kernel
theorem d4_1 : decode prog_61_method_2_code 1 = .ok (.getfield 13, 3) := by decide +kernel
theorem d4_4 : decode prog_61_method_2_code 4 = .ok (.aload_n 0, 1) := by decide +kernel
theorem d4_5 : decode prog_61_method_2_code 5 = .ok (.getfield 7, 3) := by decide +kernel
theorem d4_8 : decode prog_61_method_2_code 8 = .ok (.arraylength, 1) := by decide +kernel
theorem d4_9 : decode prog_61_method_2_code 9 = .ok (.if_icmp .ne 20, 3) := by decide +kernel
theorem d4_12 : decode prog_61_method_2_code 12 = .ok (.aload_n 0, 1) := by decide +kernel
theorem d4_13 : decode prog_61_method_2_code 13 = .ok (.aload_n 0, 1) := by decide +kernel
theorem d4_14 : decode prog_61_method_2_code 14 = .ok (.getfield 7, 3) := by decide +kernel
theorem d4_17 : decode prog_61_method_2_code 17 = .ok (.iconst 2, 1) := by decide +kernel
theorem d4_18 : decode prog_61_method_2_code 18 = .ok (.aload_n 0, 1) := by decide +kernel
theorem d4_19 : decode prog_61_method_2_code 19 = .ok (.getfield 13, 3) := by decide +kernel
theorem d4_22 : decode prog_61_method_2_code 22 = .ok (.imul, 1) := by decide +kernel
theorem d4_23 : decode prog_61_method_2_code 23 = .ok (.invokestatic 17, 3) := by decide +kernel
theorem d4_26 : decode prog_61_method_2_code 26 = .ok (.putfield 7, 3) := by decide +kernel
theorem d4_29 : decode prog_61_method_2_code 29 = .ok (.aload_n 0, 1) := by decide +kernel
theorem d4_30 : decode prog_61_method_2_code 30 = .ok (.getfield 7, 3) := by decide +kernel
theorem d4_33 : decode prog_61_method_2_code 33 = .ok (.aload_n 0, 1) := by decide +kernel
theorem d4_34 : decode prog_61_method_2_code 34 = .ok (.dup, 1) := by decide +kernel
theorem d4_35 : decode prog_61_method_2_code 35 = .ok (.getfield 13, 3) := by decide +kernel
theorem d4_38 : decode prog_61_method_2_code 38 = .ok (.dup_x1, 1) := by decide +kernel
theorem d4_39 : decode prog_61_method_2_code 39 = .ok (.iconst 1, 1) := by decide +kernel
theorem d4_40 : decode prog_61_method_2_code 40 = .ok (.iadd, 1) := by decide +kernel
theorem d4_41 : decode prog_61_method_2_code 41 = .ok (.putfield 13, 3) := by decide +kernel
theorem d4_44 : decode prog_61_method_2_code 44 = .ok (.iload_n 1, 1) := by decide +kernel
theorem d4_45 : decode prog_61_method_2_code 45 = .ok (.iastore, 1) := by decide +kernel
theorem d4_46 : decode prog_61_method_2_code 46 = .ok (.return_, 1) := by decide +kernel
theorem ef_4 (m : MethodId) (a1 : Addr) (p2 : Int32) : entryFrame m #[(.ref a1), (.int p2)] 2 = (mkF m 0 #[.val (.ref a1), .val (.int p2)] []) := by first | (simp [entryFrame, mkF, argsToLocals, Value.category, maxLocals]; done) | rfl
def Q4 (Z : State) (a1 : Addr) (p2 : Int32) (w2 : Int32) (w3 : Int32) (b : Addr) (h0 : Heap) (n0 : Nat) (v : Option Value) (h : Heap) (L : List Loc) : Prop := v = none ∧ Fr n0 L ∧ Keep h0 h [a1, b] ∧ own_st Z h a1 b w3
set_option maxRecDepth 65536 in
set_option maxHeartbeats 40000000 in
theorem rm4 (l : Launch) (Z : State) (a0 : Array Value) (hw : ∀ d ∈ tables_1, d.before a0 Z = true) (ws : List Jvm.Cond) (a1 : Addr) (p2 : Int32) (w2 : Int32) (w3 : Int32) (b : Addr) (h0 : Heap) (n0 : Nat) (Z0 : n0 ≤ h0.size) (S1 : own_st Z h0 a1 b w2) (g1 : n0 ≤ a1) (gb : n0 ≤ b) (hw3 : w2 + (1 : Int32) = w3) (lo : ¬ w2 < 0 ∧ w2 < (16 : Int32)) :
    MetFree l (⟨"com/example/brisk_tableau/brisktableau/ltl/IntStack", "push", "(I)V"⟩ : MethodName) (head1 (Jvm.Cond.code (⟨"com/example/brisk_tableau/brisktableau/ltl/IntStack", "push", "(I)V"⟩ : MethodName) prog_61_method_2_code 2 none :: ws) ({ frames := 0, cells := 0, slots := 0, locals := 0 } : Room)) (fun a U => a = #[(.ref a1), (.int p2)] ∧ Z.Warmed39 U.vm ∧ U.heap = h0) (fun _ _ _ _ _ => True) (fun _ U o U' => ∃ v L, o = .returned v ∧ Q4 Z a1 p2 w2 w3 b h0 n0 v U'.heap L ∧ FrameEnd U o U' L ({ frames := 0, cells := 0, slots := 0, locals := 0 } : Room).cells ({ frames := 0, cells := 0, slots := 0, locals := 0 } : Room).slots) := by
  refine MetFree.of_bodySF (plainFor_of_name pn_1) hisR ?_
  intro p e s m args below meth c s₁ Bd hml0 hP hK
  obtain ⟨rfl, hZ, hh⟩ := hP
  have hx := Bd.exec
  have hby := Bd.bytes
  have hml : c.maxLocals = 2 := hml0
  have hown : s.vm.findClass "com/example/brisk_tableau/brisktableau/ltl/IntStack" = some m.cls := findClass_of_methodNamed Bd.named
  have hnm := (name_of_methodNamed Bd.named Bd.method).1
  have X0 : Stand p l e ({ frames := 0, cells := 0, slots := 0, locals := 0 } : Room) s m #[(.ref a1), (.int p2)] below meth c s₁ [] 0 0 := Stand.of_body Bd
  have e0 : s₁.heap = h0 := by rw [← hh, Bd.state]; rfl
  have N0 := Fr.nil n0
  have pre0 : Steps p.tables e below (s₁.setTop (entryFrame m #[(.ref a1), (.int p2)] 2)) (s₁.setTop (mkF m 0 #[.val (.ref a1), .val (.int p2)] [])) := castTop (ef_4 m a1 p2) (Steps.refl _)
  obtain ⟨E1, F1, F2, ⟨cl, Ar, Sz, Hs⟩, nb⟩ := S1
  have nz : ¬ ((16 : Int32) < 0) := by decide
  have n16 : ¬ (w2 = (16 : Int32)) := fun q => by rw [q] at lo; exact absurd lo.2 (by decide)
  obtain ⟨T1, X1, e1, st1⟩ := getF X0 hx hZ hown (host := "") (Or.inl (hw _ (List.mem_of_getElem? (i := 17) rfl))) Via.refl e0 F1 (g := (mkF m 1 #[.val (.ref a1), .val (.int p2)] [(.ref a1)])) rfl rfl (hb hby d4_1)
  have pre1 : Steps p.tables e below (s₁.setTop (entryFrame m #[(.ref a1), (.int p2)] 2)) (T1.setTop (mkF m 4 #[.val (.ref a1), .val (.int p2)] [(.int w2)])) := by
    refine pre0.trans ?_
    refine XS.aloadN X0.here hx rfl (hb hby d4_0) rfl rfl ?_
    show Steps p.tables e below (s₁.setTop (mkF m 1 #[.val (.ref a1), .val (.int p2)] [(.ref a1)])) _
    exact st1 _ (Steps.refl _)
  obtain ⟨T2, X2, e2, st2⟩ := getF X1 hx hZ hown (host := "") (Or.inl (hw _ (List.mem_of_getElem? (i := 10) rfl))) Via.refl e1 F2 (g := (mkF m 5 #[.val (.ref a1), .val (.int p2)] [(.ref a1), (.int w2)])) rfl rfl (hb hby d4_5)
  have pre2 : Steps p.tables e below (s₁.setTop (entryFrame m #[(.ref a1), (.int p2)] 2)) (T2.setTop (mkF m 8 #[.val (.ref a1), .val (.int p2)] [(.ref b), (.int w2)])) := by
    refine pre1.trans ?_
    refine XS.aloadN X1.here hx rfl (hb hby d4_4) rfl rfl ?_
    show Steps p.tables e below (T1.setTop (mkF m 5 #[.val (.ref a1), .val (.int p2)] [(.ref a1), (.int w2)])) _
    exact st2 _ (Steps.refl _)
  obtain ⟨T3, X3, e3, st3⟩ := getF X2 hx hZ hown (host := "") (Or.inl (hw _ (List.mem_of_getElem? (i := 10) rfl))) Via.refl e2 F2 (g := (mkF m 30 #[.val (.ref a1), .val (.int p2)] [(.ref a1)])) rfl rfl (hb hby d4_30)
  have pre3 : Steps p.tables e below (s₁.setTop (entryFrame m #[(.ref a1), (.int p2)] 2)) (T3.setTop (mkF m 33 #[.val (.ref a1), .val (.int p2)] [(.ref b)])) := by
    refine pre2.trans ?_
    refine X2.arraylength hx (by rw [e2]; exact Ar.1) (State.isArrayOf_alike hZ.alike Ar.2.1) (g := (mkF m 8 #[.val (.ref a1), .val (.int p2)] [(.ref b), (.int w2)])) rfl rfl (hb hby d4_8) _ ?_
    rw [len_of Sz nz]
    show Steps p.tables e below (T2.setTop (mkF m 9 #[.val (.ref a1), .val (.int p2)] [(.int (16 : Int32)), (.int w2)])) _
    refine XS.icmpYes X2.here hx rfl (pc0 := 9) (pc' := 29) rfl (hb hby d4_9) rfl (feq n16).2 (by decide) (by decide) ?_
    show Steps p.tables e below (T2.setTop (mkF m 29 #[.val (.ref a1), .val (.int p2)] [])) _
    refine XS.aloadN X2.here hx rfl (hb hby d4_29) rfl rfl ?_
    show Steps p.tables e below (T2.setTop (mkF m 30 #[.val (.ref a1), .val (.int p2)] [(.ref a1)])) _
    exact st3 _ (Steps.refl _)
  obtain ⟨T4, X4, e4, st4⟩ := getF X3 hx hZ hown (host := "") (Or.inl (hw _ (List.mem_of_getElem? (i := 17) rfl))) Via.refl e3 F1 (g := (mkF m 35 #[.val (.ref a1), .val (.int p2)] [(.ref a1), (.ref a1), (.ref b)])) rfl rfl (hb hby d4_35)
  have pre4 : Steps p.tables e below (s₁.setTop (entryFrame m #[(.ref a1), (.int p2)] 2)) (T4.setTop (mkF m 38 #[.val (.ref a1), .val (.int p2)] [(.int w2), (.ref a1), (.ref b)])) := by
    refine pre3.trans ?_
    refine XS.aloadN X3.here hx rfl (hb hby d4_33) rfl rfl ?_
    show Steps p.tables e below (T3.setTop (mkF m 34 #[.val (.ref a1), .val (.int p2)] [(.ref a1), (.ref b)])) _
    refine XS.dup X3.here hx rfl (hb hby d4_34) rfl rfl ?_
    show Steps p.tables e below (T3.setTop (mkF m 35 #[.val (.ref a1), .val (.int p2)] [(.ref a1), (.ref a1), (.ref b)])) _
    exact st4 _ (Steps.refl _)
  obtain ⟨T5, h5, X5, e5, W5, st5⟩ := putF X4 hx hZ hown (host := "") (Or.inl (hw _ (List.mem_of_getElem? (i := 17) rfl))) Via.refl e4 F1 E1 (Or.inl (hw _ (List.mem_of_getElem? (i := 18) rfl))) (hw _ (List.mem_of_getElem? (i := 1) rfl)) (ty := .int) (by decide) rfl rfl (g := (mkF m 41 #[.val (.ref a1), .val (.int p2)] [(.int (w2 + (1 : Int32))), (.ref a1), (.int w2), (.ref b)])) rfl rfl (hb hby d4_41)
  have N5 := Fr.snoc X5 N0 g1
  have pre5 : Steps p.tables e below (s₁.setTop (entryFrame m #[(.ref a1), (.int p2)] 2)) (T5.setTop (mkF m 44 #[.val (.ref a1), .val (.int p2)] [(.int w2), (.ref b)])) := by
    refine pre4.trans ?_
    refine XS.dupX1 X4.here hx rfl (hb hby d4_38) rfl rfl rfl ?_
    show Steps p.tables e below (T4.setTop (mkF m 39 #[.val (.ref a1), .val (.int p2)] [(.int w2), (.ref a1), (.int w2), (.ref b)])) _
    refine XS.iconst X4.here hx rfl (hb hby d4_39) ?_
    show Steps p.tables e below (T4.setTop (mkF m 40 #[.val (.ref a1), .val (.int p2)] [(.int (1 : Int32)), (.int w2), (.ref a1), (.int w2), (.ref b)])) _
    refine XS.iadd X4.here hx rfl (hb hby d4_40) rfl ?_
    show Steps p.tables e below (T4.setTop (mkF m 41 #[.val (.ref a1), .val (.int p2)] [(.int (w2 + (1 : Int32))), (.ref a1), (.int w2), (.ref b)])) _
    exact st5 _ (Steps.refl _)
  have Ar2 : Arr Z h5 b cl .int := Ar.other W5 nb
  obtain ⟨T6, h6, X6, e6, W6, st6⟩ := stI X5 hx hZ e5 Ar2 (j := w2) (inb_of Sz lo) (g := (mkF m 45 #[.val (.ref a1), .val (.int p2)] [(.int p2), (.int w2), (.ref b)])) rfl rfl (hb hby d4_45)
  have N6 := Fr.snoc X6 N5 gb
  have pre6 : Steps p.tables e below (s₁.setTop (entryFrame m #[(.ref a1), (.int p2)] 2)) (T6.setTop (mkF m 46 #[.val (.ref a1), .val (.int p2)] [])) := by
    refine pre5.trans ?_
    refine XS.iloadN X5.here hx rfl (hb hby d4_44) rfl ?_
    show Steps p.tables e below (T5.setTop (mkF m 45 #[.val (.ref a1), .val (.int p2)] [(.int p2), (.int w2), (.ref b)])) _
    exact st6 _ (Steps.refl _)
  have tb : own_tab Z h6 b := own_tab_set ⟨cl, Ar2, Sz, Hs⟩ W6
  have K5 : Keep h0 h6 [a1, b] := ((Keep.refl h0 [a1, b]).wr W5 (Or.inl (List.mem_of_getElem? (i := 0) rfl))).wr W6 (Or.inl (List.mem_of_getElem? (i := 1) rfl))
  obtain ⟨fs, hr, hrun, hended, hW, hsame⟩ := X6.leave (v := none) (fun _ => rfl)
  refine ⟨_, _, pre6.trans ?_, hrun, hended, _, _, rfl, ?_, ⟨_, rfl⟩, hW, hsame.mono (by decide) (by decide)⟩
  · skip
    exact X6.returnOut hx Bd.returns (hb hby d4_46) hr
  · show Q4 Z a1 p2 w2 w3 b h0 n0 _ T6.heap _
    rw [e6]
    exact ⟨rfl, N6, K5, (E1.wr W5).wr W6, hw3 ▸ (F1.same W5).other W6 (Or.inl (Ne.symm nb)), ((F2.other W5 (Or.inr (Ne.symm (slot_ne (Or.inl (hw _ (List.mem_of_getElem? (i := 18) rfl))) (Or.inl (hw _ (List.mem_of_getElem? (i := 11) rfl))) (by decide) (t := .int) (t' := (.array .int)) (by decide) (by decide))))).other W6 (Or.inl (Ne.symm nb))), tb, nb⟩
theorem d5_0 : decode prog_61_method_4_code 0 = .ok (.aload_n 0, 1) := by decide +kernel
theorem d5_1 : decode prog_61_method_4_code 1 = .ok (.getfield 7, 3) := by decide +kernel
theorem d5_4 : decode prog_61_method_4_code 4 = .ok (.aload_n 0, 1) := by decide +kernel
theorem d5_5 : decode prog_61_method_4_code 5 = .ok (.dup, 1) := by decide +kernel
theorem d5_6 : decode prog_61_method_4_code 6 = .ok (.getfield 13, 3) := by decide +kernel
theorem d5_9 : decode prog_61_method_4_code 9 = .ok (.iconst 1, 1) := by decide +kernel
theorem d5_10 : decode prog_61_method_4_code 10 = .ok (.isub, 1) := by decide +kernel
theorem d5_11 : decode prog_61_method_4_code 11 = .ok (.dup_x1, 1) := by decide +kernel
theorem d5_12 : decode prog_61_method_4_code 12 = .ok (.putfield 13, 3) := by decide +kernel
theorem d5_15 : decode prog_61_method_4_code 15 = .ok (.iaload, 1) := by decide +kernel
theorem d5_16 : decode prog_61_method_4_code 16 = .ok (.ireturn, 1) := by decide +kernel
theorem ef_5 (m : MethodId) (a1 : Addr) : entryFrame m #[(.ref a1)] 1 = (mkF m 0 #[.val (.ref a1)] []) := by first | (simp [entryFrame, mkF, argsToLocals, Value.category, maxLocals]; done) | rfl
def Q5 (Z : State) (a1 : Addr) (w2 : Int32) (w3 : Int32) (b : Addr) (h0 : Heap) (n0 : Nat) (v : Option Value) (h : Heap) (L : List Loc) : Prop := (∃ x : Int32, v = some (.int x)) ∧ Fr n0 L ∧ Keep h0 h [a1, b] ∧ own_st Z h a1 b w3
set_option maxRecDepth 65536 in
set_option maxHeartbeats 40000000 in
theorem rm5 (l : Launch) (Z : State) (a0 : Array Value) (hw : ∀ d ∈ tables_1, d.before a0 Z = true) (ws : List Jvm.Cond) (a1 : Addr) (w2 : Int32) (w3 : Int32) (b : Addr) (h0 : Heap) (n0 : Nat) (Z0 : n0 ≤ h0.size) (S1 : own_st Z h0 a1 b w2) (g1 : n0 ≤ a1) (gb : n0 ≤ b) (hw3 : w2 - (1 : Int32) = w3) (lo : ¬ w3 < 0 ∧ w3 < (16 : Int32)) :
    MetFree l (⟨"com/example/brisk_tableau/brisktableau/ltl/IntStack", "pop", "()I"⟩ : MethodName) (head1 (Jvm.Cond.code (⟨"com/example/brisk_tableau/brisktableau/ltl/IntStack", "pop", "()I"⟩ : MethodName) prog_61_method_4_code 1 (some .int) :: ws) ({ frames := 0, cells := 0, slots := 0, locals := 0 } : Room)) (fun a U => a = #[(.ref a1)] ∧ Z.Warmed39 U.vm ∧ U.heap = h0) (fun _ _ _ _ _ => True) (fun _ U o U' => ∃ v L, o = .returned v ∧ Q5 Z a1 w2 w3 b h0 n0 v U'.heap L ∧ FrameEnd U o U' L ({ frames := 0, cells := 0, slots := 0, locals := 0 } : Room).cells ({ frames := 0, cells := 0, slots := 0, locals := 0 } : Room).slots) := by
  refine MetFree.of_bodySF (plainFor_of_name pn_1) hisR ?_
  intro p e s m args below meth c s₁ Bd hml0 hP hK
  obtain ⟨rfl, hZ, hh⟩ := hP
  have hx := Bd.exec
  have hby := Bd.bytes
  have hml : c.maxLocals = 1 := hml0
  have hown : s.vm.findClass "com/example/brisk_tableau/brisktableau/ltl/IntStack" = some m.cls := findClass_of_methodNamed Bd.named
  have hnm := (name_of_methodNamed Bd.named Bd.method).1
  have X0 : Stand p l e ({ frames := 0, cells := 0, slots := 0, locals := 0 } : Room) s m #[(.ref a1)] below meth c s₁ [] 0 0 := Stand.of_body Bd
  have e0 : s₁.heap = h0 := by rw [← hh, Bd.state]; rfl
  have N0 := Fr.nil n0
  have pre0 : Steps p.tables e below (s₁.setTop (entryFrame m #[(.ref a1)] 1)) (s₁.setTop (mkF m 0 #[.val (.ref a1)] [])) := castTop (ef_5 m a1) (Steps.refl _)
  rw [← hw3] at lo
  obtain ⟨E1, F1, F2, ⟨cl, Ar, Sz, Hs⟩, nb⟩ := S1
  obtain ⟨xv, hxv⟩ := Hs (w2 - (1 : Int32)).toNatClampNeg (Nat.lt_of_not_le fun y => inb_of Sz lo (Or.inr y))
  obtain ⟨T1, X1, e1, st1⟩ := getF X0 hx hZ hown (host := "") (Or.inl (hw _ (List.mem_of_getElem? (i := 10) rfl))) Via.refl e0 F2 (g := (mkF m 1 #[.val (.ref a1)] [(.ref a1)])) rfl rfl (hb hby d5_1)
  have pre1 : Steps p.tables e below (s₁.setTop (entryFrame m #[(.ref a1)] 1)) (T1.setTop (mkF m 4 #[.val (.ref a1)] [(.ref b)])) := by
    refine pre0.trans ?_
    refine XS.aloadN X0.here hx rfl (hb hby d5_0) rfl rfl ?_
    show Steps p.tables e below (s₁.setTop (mkF m 1 #[.val (.ref a1)] [(.ref a1)])) _
    exact st1 _ (Steps.refl _)
  obtain ⟨T2, X2, e2, st2⟩ := getF X1 hx hZ hown (host := "") (Or.inl (hw _ (List.mem_of_getElem? (i := 17) rfl))) Via.refl e1 F1 (g := (mkF m 6 #[.val (.ref a1)] [(.ref a1), (.ref a1), (.ref b)])) rfl rfl (hb hby d5_6)
  have pre2 : Steps p.tables e below (s₁.setTop (entryFrame m #[(.ref a1)] 1)) (T2.setTop (mkF m 9 #[.val (.ref a1)] [(.int w2), (.ref a1), (.ref b)])) := by
    refine pre1.trans ?_
    refine XS.aloadN X1.here hx rfl (hb hby d5_4) rfl rfl ?_
    show Steps p.tables e below (T1.setTop (mkF m 5 #[.val (.ref a1)] [(.ref a1), (.ref b)])) _
    refine XS.dup X1.here hx rfl (hb hby d5_5) rfl rfl ?_
    show Steps p.tables e below (T1.setTop (mkF m 6 #[.val (.ref a1)] [(.ref a1), (.ref a1), (.ref b)])) _
    exact st2 _ (Steps.refl _)
  obtain ⟨T3, h3, X3, e3, W3, st3⟩ := putF X2 hx hZ hown (host := "") (Or.inl (hw _ (List.mem_of_getElem? (i := 17) rfl))) Via.refl e2 F1 E1 (Or.inl (hw _ (List.mem_of_getElem? (i := 18) rfl))) (hw _ (List.mem_of_getElem? (i := 1) rfl)) (ty := .int) (by decide) rfl rfl (g := (mkF m 12 #[.val (.ref a1)] [(.int (w2 - (1 : Int32))), (.ref a1), (.int (w2 - (1 : Int32))), (.ref b)])) rfl rfl (hb hby d5_12)
  have N3 := Fr.snoc X3 N0 g1
  have pre3 : Steps p.tables e below (s₁.setTop (entryFrame m #[(.ref a1)] 1)) (T3.setTop (mkF m 15 #[.val (.ref a1)] [(.int (w2 - (1 : Int32))), (.ref b)])) := by
    refine pre2.trans ?_
    refine XS.iconst X2.here hx rfl (hb hby d5_9) ?_
    show Steps p.tables e below (T2.setTop (mkF m 10 #[.val (.ref a1)] [(.int (1 : Int32)), (.int w2), (.ref a1), (.ref b)])) _
    refine XS.isub X2.here hx rfl (hb hby d5_10) rfl ?_
    show Steps p.tables e below (T2.setTop (mkF m 11 #[.val (.ref a1)] [(.int (w2 - (1 : Int32))), (.ref a1), (.ref b)])) _
    refine XS.dupX1 X2.here hx rfl (hb hby d5_11) rfl rfl rfl ?_
    show Steps p.tables e below (T2.setTop (mkF m 12 #[.val (.ref a1)] [(.int (w2 - (1 : Int32))), (.ref a1), (.int (w2 - (1 : Int32))), (.ref b)])) _
    exact st3 _ (Steps.refl _)
  have Ar2 : Arr Z h3 b cl .int := Ar.other W3 nb
  have K5 : Keep h0 h3 [a1, b] := (Keep.refl h0 [a1, b]).wr W3 (Or.inl (List.mem_of_getElem? (i := 0) rfl))
  obtain ⟨fs, hr, hrun, hended, hW, hsame⟩ := X3.leave (v := some (.int xv)) (fun h => by rw [Bd.returns] at h; cases h)
  refine ⟨_, _, pre3.trans ?_, hrun, hended, _, _, rfl, ?_, ⟨_, rfl⟩, hW, hsame.mono (by decide) (by decide)⟩
  · skip
    refine X3.iaload hx (j := (w2 - (1 : Int32))) (v := (.int xv)) (by rw [e3]; exact Ar2.1) (State.isArrayOf_alike hZ.alike Ar2.2.1) Ar2.2.2 (inb_of Sz lo) hxv (g := (mkF m 15 #[.val (.ref a1)] [(.int (w2 - (1 : Int32))), (.ref b)])) rfl rfl (hb hby d5_15) _ ?_
    show Steps p.tables e below (T3.setTop (mkF m 16 #[.val (.ref a1)] [(.int xv)])) _
    exact retI X3 hx Bd.returns (hb hby d5_16) hr
  · show Q5 Z a1 w2 w3 b h0 n0 _ T3.heap _
    rw [e3]
    exact ⟨⟨xv, rfl⟩, N3, K5, E1.wr W3, hw3 ▸ F1.same W3, F2.other W3 (Or.inr (Ne.symm (slot_ne (Or.inl (hw _ (List.mem_of_getElem? (i := 18) rfl))) (Or.inl (hw _ (List.mem_of_getElem? (i := 11) rfl))) (by decide) (t := .int) (t' := (.array .int)) (by decide) (by decide)))), ⟨cl, Ar2, Sz, Hs⟩, nb⟩
theorem pn_0 : plainName "com/example/brisk_tableau/brisktableau/ltl/IntStackIsEmptyPinLaw" = true := by first | (simp [plainName, overriddenIn]; done) | decide +kernel
theorem ef_0 (m : MethodId) (p1 : Int32) (p2 : Int32) (p3 : Int32) (p4 : Int32) (p5 : Int32) : entryFrame m #[(.int p1), (.int p2), (.int p3), (.int p4), (.int p5)] maxLocals = (mkF m 0 #[.val (.int p1), .val (.int p2), .val (.int p3), .val (.int p4), .val (.int p5), .unset, .unset, .unset, .unset] []) := by first | (simp [entryFrame, mkF, argsToLocals, Value.category, maxLocals]; done) | rfl
def Q0 (Z : State) (p1 : Int32) (p2 : Int32) (p3 : Int32) (p4 : Int32) (p5 : Int32)  (h0 : Heap) (n0 : Nat) (v : Option Value) (h : Heap) (L : List Loc) : Prop := v = some (.int (1 : Int32)) ∧ Fr n0 L
set_option maxRecDepth 65536 in
set_option maxHeartbeats 40000000 in
theorem rm0 (l : Launch) (Z : State) (a0 : Array Value) (hw : ∀ d ∈ tables_1, d.before a0 Z = true) (ws : List Jvm.Cond) (p1 : Int32) (p2 : Int32) (p3 : Int32) (p4 : Int32) (p5 : Int32)  (h0 : Heap) (n0 : Nat) (Z0 : n0 ≤ h0.size)  :
    MetFree l x (head1 (Jvm.Cond.code x code maxLocals ret :: ws) room_1) (fun a U => a = #[(.int p1), (.int p2), (.int p3), (.int p4), (.int p5)] ∧ Z.Warmed39 U.vm ∧ U.heap = h0) (fun _ _ _ _ _ => True) (fun _ U o U' => ∃ v L, o = .returned v ∧ Q0 Z p1 p2 p3 p4 p5  h0 n0 v U'.heap L ∧ FrameEnd U o U' L room_1.cells room_1.slots) := by
  refine MetFree.of_bodySF (plainFor_of_name pn_0) hisR ?_
  intro p e s m args below meth c s₁ Bd hml0 hP hK
  obtain ⟨rfl, hZ, hh⟩ := hP
  have hx := Bd.exec
  have hby := Bd.bytes
  have hml : c.maxLocals = 9 := hml0
  have hown : s.vm.findClass "com/example/brisk_tableau/brisktableau/ltl/IntStackIsEmptyPinLaw" = some m.cls := findClass_of_methodNamed Bd.named
  have hnm := (name_of_methodNamed Bd.named Bd.method).1
  have X0 : Stand p l e room_1 s m #[(.int p1), (.int p2), (.int p3), (.int p4), (.int p5)] below meth c s₁ [] 0 0 := Stand.of_body Bd
  have e0 : s₁.heap = h0 := by rw [← hh, Bd.state]; rfl
  have N0 := Fr.nil n0
  have pre0 : Steps p.tables e below (s₁.setTop (entryFrame m #[(.int p1), (.int p2), (.int p3), (.int p4), (.int p5)] maxLocals)) (s₁.setTop (mkF m 0 #[.val (.int p1), .val (.int p2), .val (.int p3), .val (.int p4), .val (.int p5), .unset, .unset, .unset, .unset] [])) := castTop (ef_0 m p1 p2 p3 p4 p5) (Steps.refl _)
  have pre1 : Steps p.tables e below (s₁.setTop (entryFrame m #[(.int p1), (.int p2), (.int p3), (.int p4), (.int p5)] maxLocals)) (s₁.setTop (mkF m 14 #[.val (.int p1), .val (.int p2), .val (.int p3), .val (.int p4), .val (.int p5), .val (.int (p1 &&& (3 : Int32))), .val (.int (p2 &&& (3 : Int32))), .unset, .unset] [(.int (p1 &&& (3 : Int32))), (.int (p2 &&& (3 : Int32)))])) := by
    refine pre0.trans ?_
    refine XS.iloadN X0.here hx rfl (hb hby at_0) rfl ?_
    show Steps p.tables e below (s₁.setTop (mkF m 1 #[.val (.int p1), .val (.int p2), .val (.int p3), .val (.int p4), .val (.int p5), .unset, .unset, .unset, .unset] [(.int p1)])) _
    refine XS.iconst X0.here hx rfl (hb hby at_1) ?_
    show Steps p.tables e below (s₁.setTop (mkF m 2 #[.val (.int p1), .val (.int p2), .val (.int p3), .val (.int p4), .val (.int p5), .unset, .unset, .unset, .unset] [(.int (3 : Int32)), (.int p1)])) _
    refine XS.iand X0.here hx rfl (hb hby at_2) rfl ?_
    show Steps p.tables e below (s₁.setTop (mkF m 3 #[.val (.int p1), .val (.int p2), .val (.int p3), .val (.int p4), .val (.int p5), .unset, .unset, .unset, .unset] [(.int (p1 &&& (3 : Int32)))])) _
    refine XS.istore X0.here hx rfl (hb hby at_3) rfl (l' := #[.val (.int p1), .val (.int p2), .val (.int p3), .val (.int p4), .val (.int p5), .val (.int (p1 &&& (3 : Int32))), .unset, .unset, .unset]) rfl ?_
    show Steps p.tables e below (s₁.setTop (mkF m 5 #[.val (.int p1), .val (.int p2), .val (.int p3), .val (.int p4), .val (.int p5), .val (.int (p1 &&& (3 : Int32))), .unset, .unset, .unset] [])) _
    refine XS.iloadN X0.here hx rfl (hb hby at_5) rfl ?_
    show Steps p.tables e below (s₁.setTop (mkF m 6 #[.val (.int p1), .val (.int p2), .val (.int p3), .val (.int p4), .val (.int p5), .val (.int (p1 &&& (3 : Int32))), .unset, .unset, .unset] [(.int p2)])) _
    refine XS.iconst X0.here hx rfl (hb hby at_6) ?_
    show Steps p.tables e below (s₁.setTop (mkF m 7 #[.val (.int p1), .val (.int p2), .val (.int p3), .val (.int p4), .val (.int p5), .val (.int (p1 &&& (3 : Int32))), .unset, .unset, .unset] [(.int (3 : Int32)), (.int p2)])) _
    refine XS.iand X0.here hx rfl (hb hby at_7) rfl ?_
    show Steps p.tables e below (s₁.setTop (mkF m 8 #[.val (.int p1), .val (.int p2), .val (.int p3), .val (.int p4), .val (.int p5), .val (.int (p1 &&& (3 : Int32))), .unset, .unset, .unset] [(.int (p2 &&& (3 : Int32)))])) _
    refine XS.istore X0.here hx rfl (hb hby at_8) rfl (l' := #[.val (.int p1), .val (.int p2), .val (.int p3), .val (.int p4), .val (.int p5), .val (.int (p1 &&& (3 : Int32))), .val (.int (p2 &&& (3 : Int32))), .unset, .unset]) rfl ?_
    show Steps p.tables e below (s₁.setTop (mkF m 10 #[.val (.int p1), .val (.int p2), .val (.int p3), .val (.int p4), .val (.int p5), .val (.int (p1 &&& (3 : Int32))), .val (.int (p2 &&& (3 : Int32))), .unset, .unset] [])) _
    refine XS.iload X0.here hx rfl (hb hby at_10) rfl ?_
    show Steps p.tables e below (s₁.setTop (mkF m 12 #[.val (.int p1), .val (.int p2), .val (.int p3), .val (.int p4), .val (.int p5), .val (.int (p1 &&& (3 : Int32))), .val (.int (p2 &&& (3 : Int32))), .unset, .unset] [(.int (p2 &&& (3 : Int32)))])) _
    refine XS.iload X0.here hx rfl (hb hby at_12) rfl ?_
    show Steps p.tables e below (s₁.setTop (mkF m 14 #[.val (.int p1), .val (.int p2), .val (.int p3), .val (.int p4), .val (.int p5), .val (.int (p1 &&& (3 : Int32))), .val (.int (p2 &&& (3 : Int32))), .unset, .unset] [(.int (p1 &&& (3 : Int32))), (.int (p2 &&& (3 : Int32)))])) _
    exact Steps.refl _
  have hk0 := own_and3 p2
  obtain ⟨k6, q2, pre2⟩ : ∃ (k6 : Int32), ((k6 = 0 ∨ k6 = 1 ∨ k6 = 2 ∨ k6 = 3) ∧ ¬ (p1 &&& (3 : Int32)) < k6) ∧ Steps p.tables e below (s₁.setTop (entryFrame m #[(.int p1), (.int p2), (.int p3), (.int p4), (.int p5)] maxLocals)) (s₁.setTop (mkF m 21 #[.val (.int p1), .val (.int p2), .val (.int p3), .val (.int p4), .val (.int p5), .val (.int (p1 &&& (3 : Int32))), .val (.int k6), .unset, .unset] [])) := by
    by_cases hc14 : (p1 &&& (3 : Int32)) < (p2 &&& (3 : Int32))
    · skip
      refine ⟨(p1 &&& (3 : Int32)), ⟨own_and3 p1, Int32.lt_irrefl⟩, ?_⟩
      refine pre1.trans ?_
      refine XS.icmpNo X0.here hx rfl (hb hby at_14) rfl (tlt hc14).2.2.2 ?_
      show Steps p.tables e below (s₁.setTop (mkF m 17 #[.val (.int p1), .val (.int p2), .val (.int p3), .val (.int p4), .val (.int p5), .val (.int (p1 &&& (3 : Int32))), .val (.int (p2 &&& (3 : Int32))), .unset, .unset] [])) _
      refine XS.iload X0.here hx rfl (hb hby at_17) rfl ?_
      show Steps p.tables e below (s₁.setTop (mkF m 19 #[.val (.int p1), .val (.int p2), .val (.int p3), .val (.int p4), .val (.int p5), .val (.int (p1 &&& (3 : Int32))), .val (.int (p2 &&& (3 : Int32))), .unset, .unset] [(.int (p1 &&& (3 : Int32)))])) _
      refine XS.istore X0.here hx rfl (hb hby at_19) rfl (l' := #[.val (.int p1), .val (.int p2), .val (.int p3), .val (.int p4), .val (.int p5), .val (.int (p1 &&& (3 : Int32))), .val (.int (p1 &&& (3 : Int32))), .unset, .unset]) rfl ?_
      show Steps p.tables e below (s₁.setTop (mkF m 21 #[.val (.int p1), .val (.int p2), .val (.int p3), .val (.int p4), .val (.int p5), .val (.int (p1 &&& (3 : Int32))), .val (.int (p1 &&& (3 : Int32))), .unset, .unset] [])) _
      exact Steps.refl _
    · skip
      refine ⟨(p2 &&& (3 : Int32)), ⟨hk0, hc14⟩, ?_⟩
      refine pre1.trans ?_
      refine XS.icmpYes X0.here hx rfl (pc0 := 14) (pc' := 21) rfl (hb hby at_14) rfl (flt hc14).2.2.2 (by decide) (by decide) ?_
      show Steps p.tables e below (s₁.setTop (mkF m 21 #[.val (.int p1), .val (.int p2), .val (.int p3), .val (.int p4), .val (.int p5), .val (.int (p1 &&& (3 : Int32))), .val (.int (p2 &&& (3 : Int32))), .unset, .unset] [])) _
      exact Steps.refl _
  obtain ⟨hk, hle⟩ := q2
  rcases own_and3 p1 with hn | hn | hn | hn
  · skip
    rw [hn] at hle
    rw [hn] at pre2
    rcases hk with rfl | rfl | rfl | rfl
    · skip
      obtain ⟨T3, h3, X3, e3, E3, A3, D3, -, st3⟩ := newO X0 hx hZ hown (hw _ (List.mem_of_getElem? (i := 0) rfl)) (hw _ (List.mem_of_getElem? (i := 1) rfl)) (hw _ (List.mem_of_getElem? (i := 2) rfl)) e0 (g := (mkF m 21 #[.val (.int p1), .val (.int p2), .val (.int p3), .val (.int p4), .val (.int p5), .val (.int (0 : Int32)), .val (.int (0 : Int32)), .unset, .unset] [])) rfl (hb hby at_21) (by decide) (by decide)
      obtain ⟨b3, g3⟩ : ∃ z, z = h0.size := ⟨_, rfl⟩
      rw [← g3] at A3 D3 st3
      have pre3 : Steps p.tables e below (s₁.setTop (entryFrame m #[(.int p1), (.int p2), (.int p3), (.int p4), (.int p5)] maxLocals)) (T3.setTop (mkF m 24 #[.val (.int p1), .val (.int p2), .val (.int p3), .val (.int p4), .val (.int p5), .val (.int (0 : Int32)), .val (.int (0 : Int32)), .unset, .unset] [(.ref b3)])) := by
        refine pre2.trans ?_
        exact st3 _ (Steps.refl _)
      have gg : n0 ≤ b3 := Nat.le_trans Z0 (Nat.le_of_eq g3.symm)
      have Y3 : n0 ≤ h3.size := Nat.le_trans Z0 E3.1
      have FA := D3 (Or.inl (hw _ (List.mem_of_getElem? (i := 18) rfl))) (ty := .int) (by decide)
      have FB := D3 (Or.inl (hw _ (List.mem_of_getElem? (i := 11) rfl))) (ty := (.array .int)) (by decide)
      obtain ⟨_, _, ⟨T4, L4, k4, n4⟩, -, X4, ⟨Lc4, hQ4, l4, y4, z4⟩, st4⟩ := X3.specialBack hx (y := (⟨"com/example/brisk_tableau/brisktableau/ltl/IntStack", "<init>", "()V"⟩ : MethodName)) rfl hown (mvT hZ (hw _ (List.mem_of_getElem? (i := 3) rfl))) (mvT hZ (hw _ (List.mem_of_getElem? (i := 4) rfl))) (mvT hZ (hw _ (List.mem_of_getElem? (i := 5) rfl))) (by decide) (backOf (W := 1) (rm1 l Z a0 hw [] b3 _ h3 n0 Y3 A3 FA FB gg) hZ (hw _ (List.mem_of_getElem? (i := 5) rfl)) (hw _ (List.mem_of_getElem? (i := 2) rfl)) (by decide) (by decide)) (g := (mkF m 25 #[.val (.int p1), .val (.int p2), .val (.int p3), .val (.int p4), .val (.int p5), .val (.int (0 : Int32)), .val (.int (0 : Int32)), .unset, .unset] [(.ref b3), (.ref b3)])) rfl (by rw [hml]; rfl) (Steps.refl _) (a := b3) (argsL := []) (rest := [(.ref b3)]) (lenOf pd_0 rfl) rfl (by show 2 * 0 + _ ≤ _; exact Nat.le_of_eq rfl) (hb hby at_25) (fun _ _ => ⟨rfl, e3, (by decide : 1 + 1 ≤ _), (by decide : 2 + 16 ≤ _)⟩)
      dsimp only [Pt.U, Pt.locs, Pt.cells, Pt.slots] at X4 l4 y4 z4 st4 hQ4
      subst l4 y4 z4
      obtain ⟨rfl, M4, K4, bb, gb, S4⟩ := hQ4
      have N4 := Fr.app N0 M4
      have pre4 : Steps p.tables e below (s₁.setTop (entryFrame m #[(.int p1), (.int p2), (.int p3), (.int p4), (.int p5)] maxLocals)) (T4.setTop (mkF m 28 #[.val (.int p1), .val (.int p2), .val (.int p3), .val (.int p4), .val (.int p5), .val (.int (0 : Int32)), .val (.int (0 : Int32)), .unset, .unset] [(.ref b3)])) := by
        refine pre3.trans ?_
        refine XS.dup X3.here hx rfl (hb hby at_24) rfl rfl ?_
        show Steps p.tables e below (T3.setTop (mkF m 25 #[.val (.int p1), .val (.int p2), .val (.int p3), .val (.int p4), .val (.int p5), .val (.int (0 : Int32)), .val (.int (0 : Int32)), .unset, .unset] [(.ref b3), (.ref b3)])) _
        exact st4
      have Y4 : n0 ≤ T4.heap.size := Nat.le_trans Y3 K4.1
      obtain ⟨cq5, kq5, q5a, q5b, q5c⟩ := isOf hZ rfl S4.1
      obtain ⟨_, _, ⟨T5, L5, k5, n5⟩, -, X5, ⟨Lc5, hQ5, l5, y5, z5⟩, st5⟩ := X4.virtualBack hx (y := (⟨"com/example/brisk_tableau/brisktableau/ltl/IntStack", "isEmpty", "()Z"⟩ : MethodName)) (z := (⟨"com/example/brisk_tableau/brisktableau/ltl/IntStack", "isEmpty", "()Z"⟩ : MethodName)) hown (mvT hZ (hw _ (List.mem_of_getElem? (i := 12) rfl))) (mvT hZ (hw _ (List.mem_of_getElem? (i := 13) rfl))) (notFace_of_selects (args := #[]) (mvT hZ (hw _ (List.mem_of_getElem? (i := 15) rfl)))) (mvT hZ (hw _ (List.mem_of_getElem? (i := 15) rfl))) (mvT hZ (hw _ (List.mem_of_getElem? (i := 14) rfl))) (by decide) (backOf (W := 0) (rm3 l Z a0 hw [] b3 (0 : Int32) bb T4.heap n0 Y4 S4) hZ (hw _ (List.mem_of_getElem? (i := 16) rfl)) (hw _ (List.mem_of_getElem? (i := 2) rfl)) (by decide) (by decide)) q5a q5c (g := (mkF m 32 #[.val (.int p1), .val (.int p2), .val (.int p3), .val (.int p4), .val (.int p5), .val (.int (0 : Int32)), .val (.int (0 : Int32)), .val (.ref b3), .unset] [(.ref b3)])) rfl (by rw [hml]; rfl) (Steps.refl _) (argsL := []) (rest := []) (lenOf pd_1 rfl) rfl (by show 2 * 0 + _ ≤ _; exact Nat.le_of_eq rfl) (hb hby at_32) (fun _ _ => ⟨rfl, rfl, (by decide : 2 + 0 ≤ _), (by decide : 18 + 0 ≤ _)⟩)
      dsimp only [Pt.U, Pt.locs, Pt.cells, Pt.slots] at X5 l5 y5 z5 st5 hQ5
      subst l5 y5 z5
      obtain ⟨rfl, M5, e5⟩ := hQ5
      have N5 := Fr.app N4 M5
      have pre5 : Steps p.tables e below (s₁.setTop (entryFrame m #[(.int p1), (.int p2), (.int p3), (.int p4), (.int p5)] maxLocals)) (T5.setTop (mkF m 35 #[.val (.int p1), .val (.int p2), .val (.int p3), .val (.int p4), .val (.int p5), .val (.int (0 : Int32)), .val (.int (0 : Int32)), .val (.ref b3), .unset] [(.int (own_emp (0 : Int32)))])) := by
        refine pre4.trans ?_
        refine XS.astore X4.here hx rfl (hb hby at_28) rfl rfl (l' := #[.val (.int p1), .val (.int p2), .val (.int p3), .val (.int p4), .val (.int p5), .val (.int (0 : Int32)), .val (.int (0 : Int32)), .val (.ref b3), .unset]) rfl ?_
        show Steps p.tables e below (T4.setTop (mkF m 30 #[.val (.int p1), .val (.int p2), .val (.int p3), .val (.int p4), .val (.int p5), .val (.int (0 : Int32)), .val (.int (0 : Int32)), .val (.ref b3), .unset] [])) _
        refine XS.aload X4.here hx rfl (hb hby at_30) rfl rfl ?_
        show Steps p.tables e below (T4.setTop (mkF m 32 #[.val (.int p1), .val (.int p2), .val (.int p3), .val (.int p4), .val (.int p5), .val (.int (0 : Int32)), .val (.int (0 : Int32)), .val (.ref b3), .unset] [(.ref b3)])) _
        exact st5
      rw [own_e0] at pre5
      obtain ⟨cq6, kq6, q6a, q6b, q6c⟩ := isOf hZ e5 S4.1
      obtain ⟨_, _, ⟨T6, L6, k6, n6⟩, -, X6, ⟨Lc6, hQ6, l6, y6, z6⟩, st6⟩ := X5.virtualBack hx (y := (⟨"com/example/brisk_tableau/brisktableau/ltl/IntStack", "isEmpty", "()Z"⟩ : MethodName)) (z := (⟨"com/example/brisk_tableau/brisktableau/ltl/IntStack", "isEmpty", "()Z"⟩ : MethodName)) hown (mvT hZ (hw _ (List.mem_of_getElem? (i := 12) rfl))) (mvT hZ (hw _ (List.mem_of_getElem? (i := 13) rfl))) (notFace_of_selects (args := #[]) (mvT hZ (hw _ (List.mem_of_getElem? (i := 15) rfl)))) (mvT hZ (hw _ (List.mem_of_getElem? (i := 15) rfl))) (mvT hZ (hw _ (List.mem_of_getElem? (i := 14) rfl))) (by decide) (backOf (W := 0) (rm3 l Z a0 hw [] b3 (0 : Int32) bb T4.heap n0 Y4 S4) hZ (hw _ (List.mem_of_getElem? (i := 16) rfl)) (hw _ (List.mem_of_getElem? (i := 2) rfl)) (by decide) (by decide)) q6a q6c (g := (mkF m 81 #[.val (.int p1), .val (.int p2), .val (.int p3), .val (.int p4), .val (.int p5), .val (.int (0 : Int32)), .val (.int (0 : Int32)), .val (.ref b3), .val (.int (1 : Int32))] [(.ref b3)])) rfl (by rw [hml]; rfl) (Steps.refl _) (argsL := []) (rest := []) (lenOf pd_1 rfl) rfl (by show 2 * 0 + _ ≤ _; exact Nat.le_of_eq rfl) (hb hby at_81) (fun _ _ => ⟨rfl, e5, (by decide : 2 + 0 ≤ _), (by decide : 18 + 0 ≤ _)⟩)
      dsimp only [Pt.U, Pt.locs, Pt.cells, Pt.slots] at X6 l6 y6 z6 st6 hQ6
      subst l6 y6 z6
      obtain ⟨rfl, M6, e6⟩ := hQ6
      have N6 := Fr.app N5 M6
      have pre6 : Steps p.tables e below (s₁.setTop (entryFrame m #[(.int p1), (.int p2), (.int p3), (.int p4), (.int p5)] maxLocals)) (T6.setTop (mkF m 84 #[.val (.int p1), .val (.int p2), .val (.int p3), .val (.int p4), .val (.int p5), .val (.int (0 : Int32)), .val (.int (0 : Int32)), .val (.ref b3), .val (.int (1 : Int32))] [(.int (own_emp (0 : Int32)))])) := by
        refine pre5.trans ?_
        refine XS.istore X5.here hx rfl (hb hby at_35) rfl (l' := #[.val (.int p1), .val (.int p2), .val (.int p3), .val (.int p4), .val (.int p5), .val (.int (0 : Int32)), .val (.int (0 : Int32)), .val (.ref b3), .val (.int (1 : Int32))]) rfl ?_
        show Steps p.tables e below (T5.setTop (mkF m 37 #[.val (.int p1), .val (.int p2), .val (.int p3), .val (.int p4), .val (.int p5), .val (.int (0 : Int32)), .val (.int (0 : Int32)), .val (.ref b3), .val (.int (1 : Int32))] [])) _
        refine XS.iload X5.here hx rfl (hb hby at_37) rfl ?_
        show Steps p.tables e below (T5.setTop (mkF m 39 #[.val (.int p1), .val (.int p2), .val (.int p3), .val (.int p4), .val (.int p5), .val (.int (0 : Int32)), .val (.int (0 : Int32)), .val (.ref b3), .val (.int (1 : Int32))] [(.int (0 : Int32))])) _
        refine XS.iconst X5.here hx rfl (hb hby at_39) ?_
        show Steps p.tables e below (T5.setTop (mkF m 40 #[.val (.int p1), .val (.int p2), .val (.int p3), .val (.int p4), .val (.int p5), .val (.int (0 : Int32)), .val (.int (0 : Int32)), .val (.ref b3), .val (.int (1 : Int32))] [(.int (1 : Int32)), (.int (0 : Int32))])) _
        refine XS.icmpYes X5.here hx rfl (pc0 := 40) (pc' := 49) rfl (hb hby at_40) rfl (by decide) (by decide) (by decide) ?_
        show Steps p.tables e below (T5.setTop (mkF m 49 #[.val (.int p1), .val (.int p2), .val (.int p3), .val (.int p4), .val (.int p5), .val (.int (0 : Int32)), .val (.int (0 : Int32)), .val (.ref b3), .val (.int (1 : Int32))] [])) _
        refine XS.iload X5.here hx rfl (hb hby at_49) rfl ?_
        show Steps p.tables e below (T5.setTop (mkF m 51 #[.val (.int p1), .val (.int p2), .val (.int p3), .val (.int p4), .val (.int p5), .val (.int (0 : Int32)), .val (.int (0 : Int32)), .val (.ref b3), .val (.int (1 : Int32))] [(.int (0 : Int32))])) _
        refine XS.iconst X5.here hx rfl (hb hby at_51) ?_
        show Steps p.tables e below (T5.setTop (mkF m 52 #[.val (.int p1), .val (.int p2), .val (.int p3), .val (.int p4), .val (.int p5), .val (.int (0 : Int32)), .val (.int (0 : Int32)), .val (.ref b3), .val (.int (1 : Int32))] [(.int (2 : Int32)), (.int (0 : Int32))])) _
        refine XS.icmpYes X5.here hx rfl (pc0 := 52) (pc' := 61) rfl (hb hby at_52) rfl (by decide) (by decide) (by decide) ?_
        show Steps p.tables e below (T5.setTop (mkF m 61 #[.val (.int p1), .val (.int p2), .val (.int p3), .val (.int p4), .val (.int p5), .val (.int (0 : Int32)), .val (.int (0 : Int32)), .val (.ref b3), .val (.int (1 : Int32))] [])) _
        refine XS.iload X5.here hx rfl (hb hby at_61) rfl ?_
        show Steps p.tables e below (T5.setTop (mkF m 63 #[.val (.int p1), .val (.int p2), .val (.int p3), .val (.int p4), .val (.int p5), .val (.int (0 : Int32)), .val (.int (0 : Int32)), .val (.ref b3), .val (.int (1 : Int32))] [(.int (0 : Int32))])) _
        refine XS.iconst X5.here hx rfl (hb hby at_63) ?_
        show Steps p.tables e below (T5.setTop (mkF m 64 #[.val (.int p1), .val (.int p2), .val (.int p3), .val (.int p4), .val (.int p5), .val (.int (0 : Int32)), .val (.int (0 : Int32)), .val (.ref b3), .val (.int (1 : Int32))] [(.int (3 : Int32)), (.int (0 : Int32))])) _
        refine XS.icmpYes X5.here hx rfl (pc0 := 64) (pc' := 74) rfl (hb hby at_64) rfl (by decide) (by decide) (by decide) ?_
        show Steps p.tables e below (T5.setTop (mkF m 74 #[.val (.int p1), .val (.int p2), .val (.int p3), .val (.int p4), .val (.int p5), .val (.int (0 : Int32)), .val (.int (0 : Int32)), .val (.ref b3), .val (.int (1 : Int32))] [])) _
        refine XS.iload X5.here hx rfl (hb hby at_74) rfl ?_
        show Steps p.tables e below (T5.setTop (mkF m 76 #[.val (.int p1), .val (.int p2), .val (.int p3), .val (.int p4), .val (.int p5), .val (.int (0 : Int32)), .val (.int (0 : Int32)), .val (.ref b3), .val (.int (1 : Int32))] [(.int (1 : Int32))])) _
        refine XS.ifNo X5.here hx rfl (hb hby at_76) rfl (by decide) ?_
        show Steps p.tables e below (T5.setTop (mkF m 79 #[.val (.int p1), .val (.int p2), .val (.int p3), .val (.int p4), .val (.int p5), .val (.int (0 : Int32)), .val (.int (0 : Int32)), .val (.ref b3), .val (.int (1 : Int32))] [])) _
        refine XS.aload X5.here hx rfl (hb hby at_79) rfl rfl ?_
        show Steps p.tables e below (T5.setTop (mkF m 81 #[.val (.int p1), .val (.int p2), .val (.int p3), .val (.int p4), .val (.int p5), .val (.int (0 : Int32)), .val (.int (0 : Int32)), .val (.ref b3), .val (.int (1 : Int32))] [(.ref b3)])) _
        exact st6
      rw [own_e0] at pre6
      obtain ⟨cq7, kq7, q7a, q7b, q7c⟩ := isOf hZ e6 S4.1
      obtain ⟨_, _, ⟨T7, L7, k7, n7⟩, -, X7, ⟨Lc7, hQ7, l7, y7, z7⟩, st7⟩ := X6.virtualBack hx (y := (⟨"com/example/brisk_tableau/brisktableau/ltl/IntStack", "isEmpty", "()Z"⟩ : MethodName)) (z := (⟨"com/example/brisk_tableau/brisktableau/ltl/IntStack", "isEmpty", "()Z"⟩ : MethodName)) hown (mvT hZ (hw _ (List.mem_of_getElem? (i := 12) rfl))) (mvT hZ (hw _ (List.mem_of_getElem? (i := 13) rfl))) (notFace_of_selects (args := #[]) (mvT hZ (hw _ (List.mem_of_getElem? (i := 15) rfl)))) (mvT hZ (hw _ (List.mem_of_getElem? (i := 15) rfl))) (mvT hZ (hw _ (List.mem_of_getElem? (i := 14) rfl))) (by decide) (backOf (W := 0) (rm3 l Z a0 hw [] b3 (0 : Int32) bb T4.heap n0 Y4 S4) hZ (hw _ (List.mem_of_getElem? (i := 16) rfl)) (hw _ (List.mem_of_getElem? (i := 2) rfl)) (by decide) (by decide)) q7a q7c (g := (mkF m 147 #[.val (.int p1), .val (.int p2), .val (.int p3), .val (.int p4), .val (.int p5), .val (.int (0 : Int32)), .val (.int (0 : Int32)), .val (.ref b3), .val (.int (1 : Int32))] [(.ref b3)])) rfl (by rw [hml]; rfl) (Steps.refl _) (argsL := []) (rest := []) (lenOf pd_1 rfl) rfl (by show 2 * 0 + _ ≤ _; exact Nat.le_of_eq rfl) (hb hby at_147) (fun _ _ => ⟨rfl, e6, (by decide : 2 + 0 ≤ _), (by decide : 18 + 0 ≤ _)⟩)
      dsimp only [Pt.U, Pt.locs, Pt.cells, Pt.slots] at X7 l7 y7 z7 st7 hQ7
      subst l7 y7 z7
      obtain ⟨rfl, M7, e7⟩ := hQ7
      have N7 := Fr.app N6 M7
      have pre7 : Steps p.tables e below (s₁.setTop (entryFrame m #[(.int p1), (.int p2), (.int p3), (.int p4), (.int p5)] maxLocals)) (T7.setTop (mkF m 150 #[.val (.int p1), .val (.int p2), .val (.int p3), .val (.int p4), .val (.int p5), .val (.int (0 : Int32)), .val (.int (0 : Int32)), .val (.ref b3), .val (.int (1 : Int32))] [(.int (own_emp (0 : Int32)))])) := by
        refine pre6.trans ?_
        refine XS.iload X6.here hx rfl (hb hby at_84) rfl ?_
        show Steps p.tables e below (T6.setTop (mkF m 86 #[.val (.int p1), .val (.int p2), .val (.int p3), .val (.int p4), .val (.int p5), .val (.int (0 : Int32)), .val (.int (0 : Int32)), .val (.ref b3), .val (.int (1 : Int32))] [(.int (0 : Int32)), (.int (1 : Int32))])) _
        refine XS.ifNo X6.here hx rfl (hb hby at_86) rfl (by decide) ?_
        show Steps p.tables e below (T6.setTop (mkF m 89 #[.val (.int p1), .val (.int p2), .val (.int p3), .val (.int p4), .val (.int p5), .val (.int (0 : Int32)), .val (.int (0 : Int32)), .val (.ref b3), .val (.int (1 : Int32))] [(.int (1 : Int32))])) _
        refine XS.iconst X6.here hx rfl (hb hby at_89) ?_
        show Steps p.tables e below (T6.setTop (mkF m 90 #[.val (.int p1), .val (.int p2), .val (.int p3), .val (.int p4), .val (.int p5), .val (.int (0 : Int32)), .val (.int (0 : Int32)), .val (.ref b3), .val (.int (1 : Int32))] [(.int (1 : Int32)), (.int (1 : Int32))])) _
        refine XS.goto X6.here hx rfl (pc0 := 90) (pc' := 94) rfl (hb hby at_90) (by decide) (by decide) ?_
        show Steps p.tables e below (T6.setTop (mkF m 94 #[.val (.int p1), .val (.int p2), .val (.int p3), .val (.int p4), .val (.int p5), .val (.int (0 : Int32)), .val (.int (0 : Int32)), .val (.ref b3), .val (.int (1 : Int32))] [(.int (1 : Int32)), (.int (1 : Int32))])) _
        refine XS.icmpNo X6.here hx rfl (hb hby at_94) rfl (by decide) ?_
        show Steps p.tables e below (T6.setTop (mkF m 97 #[.val (.int p1), .val (.int p2), .val (.int p3), .val (.int p4), .val (.int p5), .val (.int (0 : Int32)), .val (.int (0 : Int32)), .val (.ref b3), .val (.int (1 : Int32))] [])) _
        refine XS.iconst X6.here hx rfl (hb hby at_97) ?_
        show Steps p.tables e below (T6.setTop (mkF m 98 #[.val (.int p1), .val (.int p2), .val (.int p3), .val (.int p4), .val (.int p5), .val (.int (0 : Int32)), .val (.int (0 : Int32)), .val (.ref b3), .val (.int (1 : Int32))] [(.int (1 : Int32))])) _
        refine XS.goto X6.here hx rfl (pc0 := 98) (pc' := 102) rfl (hb hby at_98) (by decide) (by decide) ?_
        show Steps p.tables e below (T6.setTop (mkF m 102 #[.val (.int p1), .val (.int p2), .val (.int p3), .val (.int p4), .val (.int p5), .val (.int (0 : Int32)), .val (.int (0 : Int32)), .val (.ref b3), .val (.int (1 : Int32))] [(.int (1 : Int32))])) _
        refine XS.istore X6.here hx rfl (hb hby at_102) rfl (l' := #[.val (.int p1), .val (.int p2), .val (.int p3), .val (.int p4), .val (.int p5), .val (.int (0 : Int32)), .val (.int (0 : Int32)), .val (.ref b3), .val (.int (1 : Int32))]) rfl ?_
        show Steps p.tables e below (T6.setTop (mkF m 104 #[.val (.int p1), .val (.int p2), .val (.int p3), .val (.int p4), .val (.int p5), .val (.int (0 : Int32)), .val (.int (0 : Int32)), .val (.ref b3), .val (.int (1 : Int32))] [])) _
        refine XS.iload X6.here hx rfl (hb hby at_104) rfl ?_
        show Steps p.tables e below (T6.setTop (mkF m 106 #[.val (.int p1), .val (.int p2), .val (.int p3), .val (.int p4), .val (.int p5), .val (.int (0 : Int32)), .val (.int (0 : Int32)), .val (.ref b3), .val (.int (1 : Int32))] [(.int (0 : Int32))])) _
        refine XS.iconst X6.here hx rfl (hb hby at_106) ?_
        show Steps p.tables e below (T6.setTop (mkF m 107 #[.val (.int p1), .val (.int p2), .val (.int p3), .val (.int p4), .val (.int p5), .val (.int (0 : Int32)), .val (.int (0 : Int32)), .val (.ref b3), .val (.int (1 : Int32))] [(.int (1 : Int32)), (.int (0 : Int32))])) _
        refine XS.icmpYes X6.here hx rfl (pc0 := 107) (pc' := 116) rfl (hb hby at_107) rfl (by decide) (by decide) (by decide) ?_
        show Steps p.tables e below (T6.setTop (mkF m 116 #[.val (.int p1), .val (.int p2), .val (.int p3), .val (.int p4), .val (.int p5), .val (.int (0 : Int32)), .val (.int (0 : Int32)), .val (.ref b3), .val (.int (1 : Int32))] [])) _
        refine XS.iload X6.here hx rfl (hb hby at_116) rfl ?_
        show Steps p.tables e below (T6.setTop (mkF m 118 #[.val (.int p1), .val (.int p2), .val (.int p3), .val (.int p4), .val (.int p5), .val (.int (0 : Int32)), .val (.int (0 : Int32)), .val (.ref b3), .val (.int (1 : Int32))] [(.int (0 : Int32))])) _
        refine XS.iconst X6.here hx rfl (hb hby at_118) ?_
        show Steps p.tables e below (T6.setTop (mkF m 119 #[.val (.int p1), .val (.int p2), .val (.int p3), .val (.int p4), .val (.int p5), .val (.int (0 : Int32)), .val (.int (0 : Int32)), .val (.ref b3), .val (.int (1 : Int32))] [(.int (2 : Int32)), (.int (0 : Int32))])) _
        refine XS.icmpYes X6.here hx rfl (pc0 := 119) (pc' := 128) rfl (hb hby at_119) rfl (by decide) (by decide) (by decide) ?_
        show Steps p.tables e below (T6.setTop (mkF m 128 #[.val (.int p1), .val (.int p2), .val (.int p3), .val (.int p4), .val (.int p5), .val (.int (0 : Int32)), .val (.int (0 : Int32)), .val (.ref b3), .val (.int (1 : Int32))] [])) _
        refine XS.iload X6.here hx rfl (hb hby at_128) rfl ?_
        show Steps p.tables e below (T6.setTop (mkF m 130 #[.val (.int p1), .val (.int p2), .val (.int p3), .val (.int p4), .val (.int p5), .val (.int (0 : Int32)), .val (.int (0 : Int32)), .val (.ref b3), .val (.int (1 : Int32))] [(.int (0 : Int32))])) _
        refine XS.iconst X6.here hx rfl (hb hby at_130) ?_
        show Steps p.tables e below (T6.setTop (mkF m 131 #[.val (.int p1), .val (.int p2), .val (.int p3), .val (.int p4), .val (.int p5), .val (.int (0 : Int32)), .val (.int (0 : Int32)), .val (.ref b3), .val (.int (1 : Int32))] [(.int (3 : Int32)), (.int (0 : Int32))])) _
        refine XS.icmpYes X6.here hx rfl (pc0 := 131) (pc' := 140) rfl (hb hby at_131) rfl (by decide) (by decide) (by decide) ?_
        show Steps p.tables e below (T6.setTop (mkF m 140 #[.val (.int p1), .val (.int p2), .val (.int p3), .val (.int p4), .val (.int p5), .val (.int (0 : Int32)), .val (.int (0 : Int32)), .val (.ref b3), .val (.int (1 : Int32))] [])) _
        refine XS.iload X6.here hx rfl (hb hby at_140) rfl ?_
        show Steps p.tables e below (T6.setTop (mkF m 142 #[.val (.int p1), .val (.int p2), .val (.int p3), .val (.int p4), .val (.int p5), .val (.int (0 : Int32)), .val (.int (0 : Int32)), .val (.ref b3), .val (.int (1 : Int32))] [(.int (1 : Int32))])) _
        refine XS.ifNo X6.here hx rfl (hb hby at_142) rfl (by decide) ?_
        show Steps p.tables e below (T6.setTop (mkF m 145 #[.val (.int p1), .val (.int p2), .val (.int p3), .val (.int p4), .val (.int p5), .val (.int (0 : Int32)), .val (.int (0 : Int32)), .val (.ref b3), .val (.int (1 : Int32))] [])) _
        refine XS.aload X6.here hx rfl (hb hby at_145) rfl rfl ?_
        show Steps p.tables e below (T6.setTop (mkF m 147 #[.val (.int p1), .val (.int p2), .val (.int p3), .val (.int p4), .val (.int p5), .val (.int (0 : Int32)), .val (.int (0 : Int32)), .val (.ref b3), .val (.int (1 : Int32))] [(.ref b3)])) _
        exact st7
      rw [own_e0] at pre7
      obtain ⟨fs, hr, hrun, hended, hW, hsame⟩ := X7.leave (v := some (.int (1 : Int32))) (fun h => by rw [Bd.returns] at h; cases h)
      refine ⟨_, _, pre7.trans ?_, hrun, hended, _, _, rfl, ?_, ⟨_, rfl⟩, hW, hsame.mono (by decide) (by decide)⟩
      · skip
        refine XS.iload X7.here hx rfl (hb hby at_150) rfl ?_
        show Steps p.tables e below (T7.setTop (mkF m 152 #[.val (.int p1), .val (.int p2), .val (.int p3), .val (.int p4), .val (.int p5), .val (.int (0 : Int32)), .val (.int (0 : Int32)), .val (.ref b3), .val (.int (1 : Int32))] [(.int (0 : Int32)), (.int (1 : Int32))])) _
        refine XS.iload X7.here hx rfl (hb hby at_152) rfl ?_
        show Steps p.tables e below (T7.setTop (mkF m 154 #[.val (.int p1), .val (.int p2), .val (.int p3), .val (.int p4), .val (.int p5), .val (.int (0 : Int32)), .val (.int (0 : Int32)), .val (.ref b3), .val (.int (1 : Int32))] [(.int (0 : Int32)), (.int (0 : Int32)), (.int (1 : Int32))])) _
        refine XS.icmpNo X7.here hx rfl (hb hby at_154) rfl (by decide) ?_
        show Steps p.tables e below (T7.setTop (mkF m 157 #[.val (.int p1), .val (.int p2), .val (.int p3), .val (.int p4), .val (.int p5), .val (.int (0 : Int32)), .val (.int (0 : Int32)), .val (.ref b3), .val (.int (1 : Int32))] [(.int (1 : Int32))])) _
        refine XS.iconst X7.here hx rfl (hb hby at_157) ?_
        show Steps p.tables e below (T7.setTop (mkF m 158 #[.val (.int p1), .val (.int p2), .val (.int p3), .val (.int p4), .val (.int p5), .val (.int (0 : Int32)), .val (.int (0 : Int32)), .val (.ref b3), .val (.int (1 : Int32))] [(.int (1 : Int32)), (.int (1 : Int32))])) _
        refine XS.goto X7.here hx rfl (pc0 := 158) (pc' := 162) rfl (hb hby at_158) (by decide) (by decide) ?_
        show Steps p.tables e below (T7.setTop (mkF m 162 #[.val (.int p1), .val (.int p2), .val (.int p3), .val (.int p4), .val (.int p5), .val (.int (0 : Int32)), .val (.int (0 : Int32)), .val (.ref b3), .val (.int (1 : Int32))] [(.int (1 : Int32)), (.int (1 : Int32))])) _
        refine XS.icmpNo X7.here hx rfl (hb hby at_162) rfl (by decide) ?_
        show Steps p.tables e below (T7.setTop (mkF m 165 #[.val (.int p1), .val (.int p2), .val (.int p3), .val (.int p4), .val (.int p5), .val (.int (0 : Int32)), .val (.int (0 : Int32)), .val (.ref b3), .val (.int (1 : Int32))] [])) _
        refine XS.iconst X7.here hx rfl (hb hby at_165) ?_
        show Steps p.tables e below (T7.setTop (mkF m 166 #[.val (.int p1), .val (.int p2), .val (.int p3), .val (.int p4), .val (.int p5), .val (.int (0 : Int32)), .val (.int (0 : Int32)), .val (.ref b3), .val (.int (1 : Int32))] [(.int (1 : Int32))])) _
        refine XS.goto X7.here hx rfl (pc0 := 166) (pc' := 170) rfl (hb hby at_166) (by decide) (by decide) ?_
        show Steps p.tables e below (T7.setTop (mkF m 170 #[.val (.int p1), .val (.int p2), .val (.int p3), .val (.int p4), .val (.int p5), .val (.int (0 : Int32)), .val (.int (0 : Int32)), .val (.ref b3), .val (.int (1 : Int32))] [(.int (1 : Int32))])) _
        exact retN X7 hx (t := .boolean) Bd.returns (by simp) (hb hby at_170) hr
      · show Q0 Z p1 p2 p3 p4 p5  h0 n0 _ T7.heap _
        rw [e7]
        exact ⟨rfl, N7⟩
    · exact absurd (by decide) hle
    · exact absurd (by decide) hle
    · exact absurd (by decide) hle
  · skip
    rw [hn] at hle
    rw [hn] at pre2
    rcases hk with rfl | rfl | rfl | rfl
    · skip
      obtain ⟨T8, h8, X8, e8, E8, A8, D8, -, st8⟩ := newO X0 hx hZ hown (hw _ (List.mem_of_getElem? (i := 0) rfl)) (hw _ (List.mem_of_getElem? (i := 1) rfl)) (hw _ (List.mem_of_getElem? (i := 2) rfl)) e0 (g := (mkF m 21 #[.val (.int p1), .val (.int p2), .val (.int p3), .val (.int p4), .val (.int p5), .val (.int (1 : Int32)), .val (.int (0 : Int32)), .unset, .unset] [])) rfl (hb hby at_21) (by decide) (by decide)
      obtain ⟨b8, g8⟩ : ∃ z, z = h0.size := ⟨_, rfl⟩
      rw [← g8] at A8 D8 st8
      have pre8 : Steps p.tables e below (s₁.setTop (entryFrame m #[(.int p1), (.int p2), (.int p3), (.int p4), (.int p5)] maxLocals)) (T8.setTop (mkF m 24 #[.val (.int p1), .val (.int p2), .val (.int p3), .val (.int p4), .val (.int p5), .val (.int (1 : Int32)), .val (.int (0 : Int32)), .unset, .unset] [(.ref b8)])) := by
        refine pre2.trans ?_
        exact st8 _ (Steps.refl _)
      have gg : n0 ≤ b8 := Nat.le_trans Z0 (Nat.le_of_eq g8.symm)
      have Y8 : n0 ≤ h8.size := Nat.le_trans Z0 E8.1
      have FA := D8 (Or.inl (hw _ (List.mem_of_getElem? (i := 18) rfl))) (ty := .int) (by decide)
      have FB := D8 (Or.inl (hw _ (List.mem_of_getElem? (i := 11) rfl))) (ty := (.array .int)) (by decide)
      obtain ⟨_, _, ⟨T9, L9, k9, n9⟩, -, X9, ⟨Lc9, hQ9, l9, y9, z9⟩, st9⟩ := X8.specialBack hx (y := (⟨"com/example/brisk_tableau/brisktableau/ltl/IntStack", "<init>", "()V"⟩ : MethodName)) rfl hown (mvT hZ (hw _ (List.mem_of_getElem? (i := 3) rfl))) (mvT hZ (hw _ (List.mem_of_getElem? (i := 4) rfl))) (mvT hZ (hw _ (List.mem_of_getElem? (i := 5) rfl))) (by decide) (backOf (W := 1) (rm1 l Z a0 hw [] b8 _ h8 n0 Y8 A8 FA FB gg) hZ (hw _ (List.mem_of_getElem? (i := 5) rfl)) (hw _ (List.mem_of_getElem? (i := 2) rfl)) (by decide) (by decide)) (g := (mkF m 25 #[.val (.int p1), .val (.int p2), .val (.int p3), .val (.int p4), .val (.int p5), .val (.int (1 : Int32)), .val (.int (0 : Int32)), .unset, .unset] [(.ref b8), (.ref b8)])) rfl (by rw [hml]; rfl) (Steps.refl _) (a := b8) (argsL := []) (rest := [(.ref b8)]) (lenOf pd_0 rfl) rfl (by show 2 * 0 + _ ≤ _; exact Nat.le_of_eq rfl) (hb hby at_25) (fun _ _ => ⟨rfl, e8, (by decide : 1 + 1 ≤ _), (by decide : 2 + 16 ≤ _)⟩)
      dsimp only [Pt.U, Pt.locs, Pt.cells, Pt.slots] at X9 l9 y9 z9 st9 hQ9
      subst l9 y9 z9
      obtain ⟨rfl, M9, K9, bb, gb, S9⟩ := hQ9
      have N9 := Fr.app N0 M9
      have pre9 : Steps p.tables e below (s₁.setTop (entryFrame m #[(.int p1), (.int p2), (.int p3), (.int p4), (.int p5)] maxLocals)) (T9.setTop (mkF m 28 #[.val (.int p1), .val (.int p2), .val (.int p3), .val (.int p4), .val (.int p5), .val (.int (1 : Int32)), .val (.int (0 : Int32)), .unset, .unset] [(.ref b8)])) := by
        refine pre8.trans ?_
        refine XS.dup X8.here hx rfl (hb hby at_24) rfl rfl ?_
        show Steps p.tables e below (T8.setTop (mkF m 25 #[.val (.int p1), .val (.int p2), .val (.int p3), .val (.int p4), .val (.int p5), .val (.int (1 : Int32)), .val (.int (0 : Int32)), .unset, .unset] [(.ref b8), (.ref b8)])) _
        exact st9
      have Y9 : n0 ≤ T9.heap.size := Nat.le_trans Y8 K9.1
      obtain ⟨cq10, kq10, q10a, q10b, q10c⟩ := isOf hZ rfl S9.1
      obtain ⟨_, _, ⟨T10, L10, k10, n10⟩, -, X10, ⟨Lc10, hQ10, l10, y10, z10⟩, st10⟩ := X9.virtualBack hx (y := (⟨"com/example/brisk_tableau/brisktableau/ltl/IntStack", "isEmpty", "()Z"⟩ : MethodName)) (z := (⟨"com/example/brisk_tableau/brisktableau/ltl/IntStack", "isEmpty", "()Z"⟩ : MethodName)) hown (mvT hZ (hw _ (List.mem_of_getElem? (i := 12) rfl))) (mvT hZ (hw _ (List.mem_of_getElem? (i := 13) rfl))) (notFace_of_selects (args := #[]) (mvT hZ (hw _ (List.mem_of_getElem? (i := 15) rfl)))) (mvT hZ (hw _ (List.mem_of_getElem? (i := 15) rfl))) (mvT hZ (hw _ (List.mem_of_getElem? (i := 14) rfl))) (by decide) (backOf (W := 0) (rm3 l Z a0 hw [] b8 (0 : Int32) bb T9.heap n0 Y9 S9) hZ (hw _ (List.mem_of_getElem? (i := 16) rfl)) (hw _ (List.mem_of_getElem? (i := 2) rfl)) (by decide) (by decide)) q10a q10c (g := (mkF m 32 #[.val (.int p1), .val (.int p2), .val (.int p3), .val (.int p4), .val (.int p5), .val (.int (1 : Int32)), .val (.int (0 : Int32)), .val (.ref b8), .unset] [(.ref b8)])) rfl (by rw [hml]; rfl) (Steps.refl _) (argsL := []) (rest := []) (lenOf pd_1 rfl) rfl (by show 2 * 0 + _ ≤ _; exact Nat.le_of_eq rfl) (hb hby at_32) (fun _ _ => ⟨rfl, rfl, (by decide : 2 + 0 ≤ _), (by decide : 18 + 0 ≤ _)⟩)
      dsimp only [Pt.U, Pt.locs, Pt.cells, Pt.slots] at X10 l10 y10 z10 st10 hQ10
      subst l10 y10 z10
      obtain ⟨rfl, M10, e10⟩ := hQ10
      have N10 := Fr.app N9 M10
      have pre10 : Steps p.tables e below (s₁.setTop (entryFrame m #[(.int p1), (.int p2), (.int p3), (.int p4), (.int p5)] maxLocals)) (T10.setTop (mkF m 35 #[.val (.int p1), .val (.int p2), .val (.int p3), .val (.int p4), .val (.int p5), .val (.int (1 : Int32)), .val (.int (0 : Int32)), .val (.ref b8), .unset] [(.int (own_emp (0 : Int32)))])) := by
        refine pre9.trans ?_
        refine XS.astore X9.here hx rfl (hb hby at_28) rfl rfl (l' := #[.val (.int p1), .val (.int p2), .val (.int p3), .val (.int p4), .val (.int p5), .val (.int (1 : Int32)), .val (.int (0 : Int32)), .val (.ref b8), .unset]) rfl ?_
        show Steps p.tables e below (T9.setTop (mkF m 30 #[.val (.int p1), .val (.int p2), .val (.int p3), .val (.int p4), .val (.int p5), .val (.int (1 : Int32)), .val (.int (0 : Int32)), .val (.ref b8), .unset] [])) _
        refine XS.aload X9.here hx rfl (hb hby at_30) rfl rfl ?_
        show Steps p.tables e below (T9.setTop (mkF m 32 #[.val (.int p1), .val (.int p2), .val (.int p3), .val (.int p4), .val (.int p5), .val (.int (1 : Int32)), .val (.int (0 : Int32)), .val (.ref b8), .unset] [(.ref b8)])) _
        exact st10
      rw [own_e0] at pre10
      obtain ⟨cq11, kq11, q11a, q11b, q11c⟩ := isOf hZ e10 S9.1
      obtain ⟨_, _, ⟨T11, L11, k11, n11⟩, -, X11, ⟨Lc11, hQ11, l11, y11, z11⟩, st11⟩ := X10.virtualBack hx (y := (⟨"com/example/brisk_tableau/brisktableau/ltl/IntStack", "push", "(I)V"⟩ : MethodName)) (z := (⟨"com/example/brisk_tableau/brisktableau/ltl/IntStack", "push", "(I)V"⟩ : MethodName)) hown (mvT hZ (hw _ (List.mem_of_getElem? (i := 19) rfl))) (mvT hZ (hw _ (List.mem_of_getElem? (i := 20) rfl))) (notFace_of_selects (args := #[]) (mvT hZ (hw _ (List.mem_of_getElem? (i := 22) rfl)))) (mvT hZ (hw _ (List.mem_of_getElem? (i := 22) rfl))) (mvT hZ (hw _ (List.mem_of_getElem? (i := 21) rfl))) (by decide) (backOf (W := 0) (rm4 l Z a0 hw [] b8 p3 (0 : Int32) (1 : Int32) bb T9.heap n0 Y9 S9 gg gb (by decide) (by decide)) hZ (hw _ (List.mem_of_getElem? (i := 23) rfl)) (hw _ (List.mem_of_getElem? (i := 2) rfl)) (by decide) (by decide)) q11a q11c (g := (mkF m 46 #[.val (.int p1), .val (.int p2), .val (.int p3), .val (.int p4), .val (.int p5), .val (.int (1 : Int32)), .val (.int (0 : Int32)), .val (.ref b8), .val (.int (1 : Int32))] [(.int p3), (.ref b8)])) rfl (by rw [hml]; rfl) (Steps.refl _) (argsL := [(.int p3)]) (rest := []) (lenOf pd_2 rfl) rfl (by show 2 * 0 + _ ≤ _; exact Nat.le_of_eq rfl) (hb hby at_46) (fun _ _ => ⟨rfl, e10, (by decide : 2 + 0 ≤ _), (by decide : 18 + 0 ≤ _)⟩)
      dsimp only [Pt.U, Pt.locs, Pt.cells, Pt.slots] at X11 l11 y11 z11 st11 hQ11
      subst l11 y11 z11
      obtain ⟨rfl, M11, K11, S11⟩ := hQ11
      have N11 := Fr.app N10 M11
      have pre11 : Steps p.tables e below (s₁.setTop (entryFrame m #[(.int p1), (.int p2), (.int p3), (.int p4), (.int p5)] maxLocals)) (T11.setTop (mkF m 49 #[.val (.int p1), .val (.int p2), .val (.int p3), .val (.int p4), .val (.int p5), .val (.int (1 : Int32)), .val (.int (0 : Int32)), .val (.ref b8), .val (.int (1 : Int32))] [])) := by
        refine pre10.trans ?_
        refine XS.istore X10.here hx rfl (hb hby at_35) rfl (l' := #[.val (.int p1), .val (.int p2), .val (.int p3), .val (.int p4), .val (.int p5), .val (.int (1 : Int32)), .val (.int (0 : Int32)), .val (.ref b8), .val (.int (1 : Int32))]) rfl ?_
        show Steps p.tables e below (T10.setTop (mkF m 37 #[.val (.int p1), .val (.int p2), .val (.int p3), .val (.int p4), .val (.int p5), .val (.int (1 : Int32)), .val (.int (0 : Int32)), .val (.ref b8), .val (.int (1 : Int32))] [])) _
        refine XS.iload X10.here hx rfl (hb hby at_37) rfl ?_
        show Steps p.tables e below (T10.setTop (mkF m 39 #[.val (.int p1), .val (.int p2), .val (.int p3), .val (.int p4), .val (.int p5), .val (.int (1 : Int32)), .val (.int (0 : Int32)), .val (.ref b8), .val (.int (1 : Int32))] [(.int (1 : Int32))])) _
        refine XS.iconst X10.here hx rfl (hb hby at_39) ?_
        show Steps p.tables e below (T10.setTop (mkF m 40 #[.val (.int p1), .val (.int p2), .val (.int p3), .val (.int p4), .val (.int p5), .val (.int (1 : Int32)), .val (.int (0 : Int32)), .val (.ref b8), .val (.int (1 : Int32))] [(.int (1 : Int32)), (.int (1 : Int32))])) _
        refine XS.icmpNo X10.here hx rfl (hb hby at_40) rfl (by decide) ?_
        show Steps p.tables e below (T10.setTop (mkF m 43 #[.val (.int p1), .val (.int p2), .val (.int p3), .val (.int p4), .val (.int p5), .val (.int (1 : Int32)), .val (.int (0 : Int32)), .val (.ref b8), .val (.int (1 : Int32))] [])) _
        refine XS.aload X10.here hx rfl (hb hby at_43) rfl rfl ?_
        show Steps p.tables e below (T10.setTop (mkF m 45 #[.val (.int p1), .val (.int p2), .val (.int p3), .val (.int p4), .val (.int p5), .val (.int (1 : Int32)), .val (.int (0 : Int32)), .val (.ref b8), .val (.int (1 : Int32))] [(.ref b8)])) _
        refine XS.iloadN X10.here hx rfl (hb hby at_45) rfl ?_
        show Steps p.tables e below (T10.setTop (mkF m 46 #[.val (.int p1), .val (.int p2), .val (.int p3), .val (.int p4), .val (.int p5), .val (.int (1 : Int32)), .val (.int (0 : Int32)), .val (.ref b8), .val (.int (1 : Int32))] [(.int p3), (.ref b8)])) _
        exact st11
      have Y11 : n0 ≤ T11.heap.size := Nat.le_trans Y9 K11.1
      obtain ⟨cq12, kq12, q12a, q12b, q12c⟩ := isOf hZ rfl S11.1
      obtain ⟨_, _, ⟨T12, L12, k12, n12⟩, -, X12, ⟨Lc12, hQ12, l12, y12, z12⟩, st12⟩ := X11.virtualBack hx (y := (⟨"com/example/brisk_tableau/brisktableau/ltl/IntStack", "isEmpty", "()Z"⟩ : MethodName)) (z := (⟨"com/example/brisk_tableau/brisktableau/ltl/IntStack", "isEmpty", "()Z"⟩ : MethodName)) hown (mvT hZ (hw _ (List.mem_of_getElem? (i := 12) rfl))) (mvT hZ (hw _ (List.mem_of_getElem? (i := 13) rfl))) (notFace_of_selects (args := #[]) (mvT hZ (hw _ (List.mem_of_getElem? (i := 15) rfl)))) (mvT hZ (hw _ (List.mem_of_getElem? (i := 15) rfl))) (mvT hZ (hw _ (List.mem_of_getElem? (i := 14) rfl))) (by decide) (backOf (W := 0) (rm3 l Z a0 hw [] b8 (1 : Int32) bb T11.heap n0 Y11 S11) hZ (hw _ (List.mem_of_getElem? (i := 16) rfl)) (hw _ (List.mem_of_getElem? (i := 2) rfl)) (by decide) (by decide)) q12a q12c (g := (mkF m 81 #[.val (.int p1), .val (.int p2), .val (.int p3), .val (.int p4), .val (.int p5), .val (.int (1 : Int32)), .val (.int (0 : Int32)), .val (.ref b8), .val (.int (1 : Int32))] [(.ref b8)])) rfl (by rw [hml]; rfl) (Steps.refl _) (argsL := []) (rest := []) (lenOf pd_1 rfl) rfl (by show 2 * 0 + _ ≤ _; exact Nat.le_of_eq rfl) (hb hby at_81) (fun _ _ => ⟨rfl, rfl, (by decide : 2 + 0 ≤ _), (by decide : 18 + 0 ≤ _)⟩)
      dsimp only [Pt.U, Pt.locs, Pt.cells, Pt.slots] at X12 l12 y12 z12 st12 hQ12
      subst l12 y12 z12
      obtain ⟨rfl, M12, e12⟩ := hQ12
      have N12 := Fr.app N11 M12
      have pre12 : Steps p.tables e below (s₁.setTop (entryFrame m #[(.int p1), (.int p2), (.int p3), (.int p4), (.int p5)] maxLocals)) (T12.setTop (mkF m 84 #[.val (.int p1), .val (.int p2), .val (.int p3), .val (.int p4), .val (.int p5), .val (.int (1 : Int32)), .val (.int (0 : Int32)), .val (.ref b8), .val (.int (1 : Int32))] [(.int (own_emp (1 : Int32)))])) := by
        refine pre11.trans ?_
        refine XS.iload X11.here hx rfl (hb hby at_49) rfl ?_
        show Steps p.tables e below (T11.setTop (mkF m 51 #[.val (.int p1), .val (.int p2), .val (.int p3), .val (.int p4), .val (.int p5), .val (.int (1 : Int32)), .val (.int (0 : Int32)), .val (.ref b8), .val (.int (1 : Int32))] [(.int (1 : Int32))])) _
        refine XS.iconst X11.here hx rfl (hb hby at_51) ?_
        show Steps p.tables e below (T11.setTop (mkF m 52 #[.val (.int p1), .val (.int p2), .val (.int p3), .val (.int p4), .val (.int p5), .val (.int (1 : Int32)), .val (.int (0 : Int32)), .val (.ref b8), .val (.int (1 : Int32))] [(.int (2 : Int32)), (.int (1 : Int32))])) _
        refine XS.icmpYes X11.here hx rfl (pc0 := 52) (pc' := 61) rfl (hb hby at_52) rfl (by decide) (by decide) (by decide) ?_
        show Steps p.tables e below (T11.setTop (mkF m 61 #[.val (.int p1), .val (.int p2), .val (.int p3), .val (.int p4), .val (.int p5), .val (.int (1 : Int32)), .val (.int (0 : Int32)), .val (.ref b8), .val (.int (1 : Int32))] [])) _
        refine XS.iload X11.here hx rfl (hb hby at_61) rfl ?_
        show Steps p.tables e below (T11.setTop (mkF m 63 #[.val (.int p1), .val (.int p2), .val (.int p3), .val (.int p4), .val (.int p5), .val (.int (1 : Int32)), .val (.int (0 : Int32)), .val (.ref b8), .val (.int (1 : Int32))] [(.int (1 : Int32))])) _
        refine XS.iconst X11.here hx rfl (hb hby at_63) ?_
        show Steps p.tables e below (T11.setTop (mkF m 64 #[.val (.int p1), .val (.int p2), .val (.int p3), .val (.int p4), .val (.int p5), .val (.int (1 : Int32)), .val (.int (0 : Int32)), .val (.ref b8), .val (.int (1 : Int32))] [(.int (3 : Int32)), (.int (1 : Int32))])) _
        refine XS.icmpYes X11.here hx rfl (pc0 := 64) (pc' := 74) rfl (hb hby at_64) rfl (by decide) (by decide) (by decide) ?_
        show Steps p.tables e below (T11.setTop (mkF m 74 #[.val (.int p1), .val (.int p2), .val (.int p3), .val (.int p4), .val (.int p5), .val (.int (1 : Int32)), .val (.int (0 : Int32)), .val (.ref b8), .val (.int (1 : Int32))] [])) _
        refine XS.iload X11.here hx rfl (hb hby at_74) rfl ?_
        show Steps p.tables e below (T11.setTop (mkF m 76 #[.val (.int p1), .val (.int p2), .val (.int p3), .val (.int p4), .val (.int p5), .val (.int (1 : Int32)), .val (.int (0 : Int32)), .val (.ref b8), .val (.int (1 : Int32))] [(.int (1 : Int32))])) _
        refine XS.ifNo X11.here hx rfl (hb hby at_76) rfl (by decide) ?_
        show Steps p.tables e below (T11.setTop (mkF m 79 #[.val (.int p1), .val (.int p2), .val (.int p3), .val (.int p4), .val (.int p5), .val (.int (1 : Int32)), .val (.int (0 : Int32)), .val (.ref b8), .val (.int (1 : Int32))] [])) _
        refine XS.aload X11.here hx rfl (hb hby at_79) rfl rfl ?_
        show Steps p.tables e below (T11.setTop (mkF m 81 #[.val (.int p1), .val (.int p2), .val (.int p3), .val (.int p4), .val (.int p5), .val (.int (1 : Int32)), .val (.int (0 : Int32)), .val (.ref b8), .val (.int (1 : Int32))] [(.ref b8)])) _
        exact st12
      rw [own_e1] at pre12
      obtain ⟨cq13, kq13, q13a, q13b, q13c⟩ := isOf hZ e12 S11.1
      obtain ⟨_, _, ⟨T13, L13, k13, n13⟩, -, X13, ⟨Lc13, hQ13, l13, y13, z13⟩, st13⟩ := X12.virtualBack hx (y := (⟨"com/example/brisk_tableau/brisktableau/ltl/IntStack", "isEmpty", "()Z"⟩ : MethodName)) (z := (⟨"com/example/brisk_tableau/brisktableau/ltl/IntStack", "isEmpty", "()Z"⟩ : MethodName)) hown (mvT hZ (hw _ (List.mem_of_getElem? (i := 12) rfl))) (mvT hZ (hw _ (List.mem_of_getElem? (i := 13) rfl))) (notFace_of_selects (args := #[]) (mvT hZ (hw _ (List.mem_of_getElem? (i := 15) rfl)))) (mvT hZ (hw _ (List.mem_of_getElem? (i := 15) rfl))) (mvT hZ (hw _ (List.mem_of_getElem? (i := 14) rfl))) (by decide) (backOf (W := 0) (rm3 l Z a0 hw [] b8 (1 : Int32) bb T11.heap n0 Y11 S11) hZ (hw _ (List.mem_of_getElem? (i := 16) rfl)) (hw _ (List.mem_of_getElem? (i := 2) rfl)) (by decide) (by decide)) q13a q13c (g := (mkF m 147 #[.val (.int p1), .val (.int p2), .val (.int p3), .val (.int p4), .val (.int p5), .val (.int (1 : Int32)), .val (.int (0 : Int32)), .val (.ref b8), .val (.int (1 : Int32))] [(.ref b8)])) rfl (by rw [hml]; rfl) (Steps.refl _) (argsL := []) (rest := []) (lenOf pd_1 rfl) rfl (by show 2 * 0 + _ ≤ _; exact Nat.le_of_eq rfl) (hb hby at_147) (fun _ _ => ⟨rfl, e12, (by decide : 2 + 0 ≤ _), (by decide : 18 + 0 ≤ _)⟩)
      dsimp only [Pt.U, Pt.locs, Pt.cells, Pt.slots] at X13 l13 y13 z13 st13 hQ13
      subst l13 y13 z13
      obtain ⟨rfl, M13, e13⟩ := hQ13
      have N13 := Fr.app N12 M13
      have pre13 : Steps p.tables e below (s₁.setTop (entryFrame m #[(.int p1), (.int p2), (.int p3), (.int p4), (.int p5)] maxLocals)) (T13.setTop (mkF m 150 #[.val (.int p1), .val (.int p2), .val (.int p3), .val (.int p4), .val (.int p5), .val (.int (1 : Int32)), .val (.int (0 : Int32)), .val (.ref b8), .val (.int (1 : Int32))] [(.int (own_emp (1 : Int32)))])) := by
        refine pre12.trans ?_
        refine XS.iload X12.here hx rfl (hb hby at_84) rfl ?_
        show Steps p.tables e below (T12.setTop (mkF m 86 #[.val (.int p1), .val (.int p2), .val (.int p3), .val (.int p4), .val (.int p5), .val (.int (1 : Int32)), .val (.int (0 : Int32)), .val (.ref b8), .val (.int (1 : Int32))] [(.int (1 : Int32)), (.int (0 : Int32))])) _
        refine XS.ifYes X12.here hx rfl (pc0 := 86) (pc' := 93) rfl (hb hby at_86) rfl (by decide) (by decide) (by decide) ?_
        show Steps p.tables e below (T12.setTop (mkF m 93 #[.val (.int p1), .val (.int p2), .val (.int p3), .val (.int p4), .val (.int p5), .val (.int (1 : Int32)), .val (.int (0 : Int32)), .val (.ref b8), .val (.int (1 : Int32))] [(.int (0 : Int32))])) _
        refine XS.iconst X12.here hx rfl (hb hby at_93) ?_
        show Steps p.tables e below (T12.setTop (mkF m 94 #[.val (.int p1), .val (.int p2), .val (.int p3), .val (.int p4), .val (.int p5), .val (.int (1 : Int32)), .val (.int (0 : Int32)), .val (.ref b8), .val (.int (1 : Int32))] [(.int (0 : Int32)), (.int (0 : Int32))])) _
        refine XS.icmpNo X12.here hx rfl (hb hby at_94) rfl (by decide) ?_
        show Steps p.tables e below (T12.setTop (mkF m 97 #[.val (.int p1), .val (.int p2), .val (.int p3), .val (.int p4), .val (.int p5), .val (.int (1 : Int32)), .val (.int (0 : Int32)), .val (.ref b8), .val (.int (1 : Int32))] [])) _
        refine XS.iconst X12.here hx rfl (hb hby at_97) ?_
        show Steps p.tables e below (T12.setTop (mkF m 98 #[.val (.int p1), .val (.int p2), .val (.int p3), .val (.int p4), .val (.int p5), .val (.int (1 : Int32)), .val (.int (0 : Int32)), .val (.ref b8), .val (.int (1 : Int32))] [(.int (1 : Int32))])) _
        refine XS.goto X12.here hx rfl (pc0 := 98) (pc' := 102) rfl (hb hby at_98) (by decide) (by decide) ?_
        show Steps p.tables e below (T12.setTop (mkF m 102 #[.val (.int p1), .val (.int p2), .val (.int p3), .val (.int p4), .val (.int p5), .val (.int (1 : Int32)), .val (.int (0 : Int32)), .val (.ref b8), .val (.int (1 : Int32))] [(.int (1 : Int32))])) _
        refine XS.istore X12.here hx rfl (hb hby at_102) rfl (l' := #[.val (.int p1), .val (.int p2), .val (.int p3), .val (.int p4), .val (.int p5), .val (.int (1 : Int32)), .val (.int (0 : Int32)), .val (.ref b8), .val (.int (1 : Int32))]) rfl ?_
        show Steps p.tables e below (T12.setTop (mkF m 104 #[.val (.int p1), .val (.int p2), .val (.int p3), .val (.int p4), .val (.int p5), .val (.int (1 : Int32)), .val (.int (0 : Int32)), .val (.ref b8), .val (.int (1 : Int32))] [])) _
        refine XS.iload X12.here hx rfl (hb hby at_104) rfl ?_
        show Steps p.tables e below (T12.setTop (mkF m 106 #[.val (.int p1), .val (.int p2), .val (.int p3), .val (.int p4), .val (.int p5), .val (.int (1 : Int32)), .val (.int (0 : Int32)), .val (.ref b8), .val (.int (1 : Int32))] [(.int (0 : Int32))])) _
        refine XS.iconst X12.here hx rfl (hb hby at_106) ?_
        show Steps p.tables e below (T12.setTop (mkF m 107 #[.val (.int p1), .val (.int p2), .val (.int p3), .val (.int p4), .val (.int p5), .val (.int (1 : Int32)), .val (.int (0 : Int32)), .val (.ref b8), .val (.int (1 : Int32))] [(.int (1 : Int32)), (.int (0 : Int32))])) _
        refine XS.icmpYes X12.here hx rfl (pc0 := 107) (pc' := 116) rfl (hb hby at_107) rfl (by decide) (by decide) (by decide) ?_
        show Steps p.tables e below (T12.setTop (mkF m 116 #[.val (.int p1), .val (.int p2), .val (.int p3), .val (.int p4), .val (.int p5), .val (.int (1 : Int32)), .val (.int (0 : Int32)), .val (.ref b8), .val (.int (1 : Int32))] [])) _
        refine XS.iload X12.here hx rfl (hb hby at_116) rfl ?_
        show Steps p.tables e below (T12.setTop (mkF m 118 #[.val (.int p1), .val (.int p2), .val (.int p3), .val (.int p4), .val (.int p5), .val (.int (1 : Int32)), .val (.int (0 : Int32)), .val (.ref b8), .val (.int (1 : Int32))] [(.int (0 : Int32))])) _
        refine XS.iconst X12.here hx rfl (hb hby at_118) ?_
        show Steps p.tables e below (T12.setTop (mkF m 119 #[.val (.int p1), .val (.int p2), .val (.int p3), .val (.int p4), .val (.int p5), .val (.int (1 : Int32)), .val (.int (0 : Int32)), .val (.ref b8), .val (.int (1 : Int32))] [(.int (2 : Int32)), (.int (0 : Int32))])) _
        refine XS.icmpYes X12.here hx rfl (pc0 := 119) (pc' := 128) rfl (hb hby at_119) rfl (by decide) (by decide) (by decide) ?_
        show Steps p.tables e below (T12.setTop (mkF m 128 #[.val (.int p1), .val (.int p2), .val (.int p3), .val (.int p4), .val (.int p5), .val (.int (1 : Int32)), .val (.int (0 : Int32)), .val (.ref b8), .val (.int (1 : Int32))] [])) _
        refine XS.iload X12.here hx rfl (hb hby at_128) rfl ?_
        show Steps p.tables e below (T12.setTop (mkF m 130 #[.val (.int p1), .val (.int p2), .val (.int p3), .val (.int p4), .val (.int p5), .val (.int (1 : Int32)), .val (.int (0 : Int32)), .val (.ref b8), .val (.int (1 : Int32))] [(.int (0 : Int32))])) _
        refine XS.iconst X12.here hx rfl (hb hby at_130) ?_
        show Steps p.tables e below (T12.setTop (mkF m 131 #[.val (.int p1), .val (.int p2), .val (.int p3), .val (.int p4), .val (.int p5), .val (.int (1 : Int32)), .val (.int (0 : Int32)), .val (.ref b8), .val (.int (1 : Int32))] [(.int (3 : Int32)), (.int (0 : Int32))])) _
        refine XS.icmpYes X12.here hx rfl (pc0 := 131) (pc' := 140) rfl (hb hby at_131) rfl (by decide) (by decide) (by decide) ?_
        show Steps p.tables e below (T12.setTop (mkF m 140 #[.val (.int p1), .val (.int p2), .val (.int p3), .val (.int p4), .val (.int p5), .val (.int (1 : Int32)), .val (.int (0 : Int32)), .val (.ref b8), .val (.int (1 : Int32))] [])) _
        refine XS.iload X12.here hx rfl (hb hby at_140) rfl ?_
        show Steps p.tables e below (T12.setTop (mkF m 142 #[.val (.int p1), .val (.int p2), .val (.int p3), .val (.int p4), .val (.int p5), .val (.int (1 : Int32)), .val (.int (0 : Int32)), .val (.ref b8), .val (.int (1 : Int32))] [(.int (1 : Int32))])) _
        refine XS.ifNo X12.here hx rfl (hb hby at_142) rfl (by decide) ?_
        show Steps p.tables e below (T12.setTop (mkF m 145 #[.val (.int p1), .val (.int p2), .val (.int p3), .val (.int p4), .val (.int p5), .val (.int (1 : Int32)), .val (.int (0 : Int32)), .val (.ref b8), .val (.int (1 : Int32))] [])) _
        refine XS.aload X12.here hx rfl (hb hby at_145) rfl rfl ?_
        show Steps p.tables e below (T12.setTop (mkF m 147 #[.val (.int p1), .val (.int p2), .val (.int p3), .val (.int p4), .val (.int p5), .val (.int (1 : Int32)), .val (.int (0 : Int32)), .val (.ref b8), .val (.int (1 : Int32))] [(.ref b8)])) _
        exact st13
      rw [own_e1] at pre13
      obtain ⟨fs, hr, hrun, hended, hW, hsame⟩ := X13.leave (v := some (.int (1 : Int32))) (fun h => by rw [Bd.returns] at h; cases h)
      refine ⟨_, _, pre13.trans ?_, hrun, hended, _, _, rfl, ?_, ⟨_, rfl⟩, hW, hsame.mono (by decide) (by decide)⟩
      · skip
        refine XS.iload X13.here hx rfl (hb hby at_150) rfl ?_
        show Steps p.tables e below (T13.setTop (mkF m 152 #[.val (.int p1), .val (.int p2), .val (.int p3), .val (.int p4), .val (.int p5), .val (.int (1 : Int32)), .val (.int (0 : Int32)), .val (.ref b8), .val (.int (1 : Int32))] [(.int (1 : Int32)), (.int (0 : Int32))])) _
        refine XS.iload X13.here hx rfl (hb hby at_152) rfl ?_
        show Steps p.tables e below (T13.setTop (mkF m 154 #[.val (.int p1), .val (.int p2), .val (.int p3), .val (.int p4), .val (.int p5), .val (.int (1 : Int32)), .val (.int (0 : Int32)), .val (.ref b8), .val (.int (1 : Int32))] [(.int (0 : Int32)), (.int (1 : Int32)), (.int (0 : Int32))])) _
        refine XS.icmpYes X13.here hx rfl (pc0 := 154) (pc' := 161) rfl (hb hby at_154) rfl (by decide) (by decide) (by decide) ?_
        show Steps p.tables e below (T13.setTop (mkF m 161 #[.val (.int p1), .val (.int p2), .val (.int p3), .val (.int p4), .val (.int p5), .val (.int (1 : Int32)), .val (.int (0 : Int32)), .val (.ref b8), .val (.int (1 : Int32))] [(.int (0 : Int32))])) _
        refine XS.iconst X13.here hx rfl (hb hby at_161) ?_
        show Steps p.tables e below (T13.setTop (mkF m 162 #[.val (.int p1), .val (.int p2), .val (.int p3), .val (.int p4), .val (.int p5), .val (.int (1 : Int32)), .val (.int (0 : Int32)), .val (.ref b8), .val (.int (1 : Int32))] [(.int (0 : Int32)), (.int (0 : Int32))])) _
        refine XS.icmpNo X13.here hx rfl (hb hby at_162) rfl (by decide) ?_
        show Steps p.tables e below (T13.setTop (mkF m 165 #[.val (.int p1), .val (.int p2), .val (.int p3), .val (.int p4), .val (.int p5), .val (.int (1 : Int32)), .val (.int (0 : Int32)), .val (.ref b8), .val (.int (1 : Int32))] [])) _
        refine XS.iconst X13.here hx rfl (hb hby at_165) ?_
        show Steps p.tables e below (T13.setTop (mkF m 166 #[.val (.int p1), .val (.int p2), .val (.int p3), .val (.int p4), .val (.int p5), .val (.int (1 : Int32)), .val (.int (0 : Int32)), .val (.ref b8), .val (.int (1 : Int32))] [(.int (1 : Int32))])) _
        refine XS.goto X13.here hx rfl (pc0 := 166) (pc' := 170) rfl (hb hby at_166) (by decide) (by decide) ?_
        show Steps p.tables e below (T13.setTop (mkF m 170 #[.val (.int p1), .val (.int p2), .val (.int p3), .val (.int p4), .val (.int p5), .val (.int (1 : Int32)), .val (.int (0 : Int32)), .val (.ref b8), .val (.int (1 : Int32))] [(.int (1 : Int32))])) _
        exact retN X13 hx (t := .boolean) Bd.returns (by simp) (hb hby at_170) hr
      · show Q0 Z p1 p2 p3 p4 p5  h0 n0 _ T13.heap _
        rw [e13]
        exact ⟨rfl, N13⟩
    · skip
      obtain ⟨T14, h14, X14, e14, E14, A14, D14, -, st14⟩ := newO X0 hx hZ hown (hw _ (List.mem_of_getElem? (i := 0) rfl)) (hw _ (List.mem_of_getElem? (i := 1) rfl)) (hw _ (List.mem_of_getElem? (i := 2) rfl)) e0 (g := (mkF m 21 #[.val (.int p1), .val (.int p2), .val (.int p3), .val (.int p4), .val (.int p5), .val (.int (1 : Int32)), .val (.int (1 : Int32)), .unset, .unset] [])) rfl (hb hby at_21) (by decide) (by decide)
      obtain ⟨b14, g14⟩ : ∃ z, z = h0.size := ⟨_, rfl⟩
      rw [← g14] at A14 D14 st14
      have pre14 : Steps p.tables e below (s₁.setTop (entryFrame m #[(.int p1), (.int p2), (.int p3), (.int p4), (.int p5)] maxLocals)) (T14.setTop (mkF m 24 #[.val (.int p1), .val (.int p2), .val (.int p3), .val (.int p4), .val (.int p5), .val (.int (1 : Int32)), .val (.int (1 : Int32)), .unset, .unset] [(.ref b14)])) := by
        refine pre2.trans ?_
        exact st14 _ (Steps.refl _)
      have gg : n0 ≤ b14 := Nat.le_trans Z0 (Nat.le_of_eq g14.symm)
      have Y14 : n0 ≤ h14.size := Nat.le_trans Z0 E14.1
      have FA := D14 (Or.inl (hw _ (List.mem_of_getElem? (i := 18) rfl))) (ty := .int) (by decide)
      have FB := D14 (Or.inl (hw _ (List.mem_of_getElem? (i := 11) rfl))) (ty := (.array .int)) (by decide)
      obtain ⟨_, _, ⟨T15, L15, k15, n15⟩, -, X15, ⟨Lc15, hQ15, l15, y15, z15⟩, st15⟩ := X14.specialBack hx (y := (⟨"com/example/brisk_tableau/brisktableau/ltl/IntStack", "<init>", "()V"⟩ : MethodName)) rfl hown (mvT hZ (hw _ (List.mem_of_getElem? (i := 3) rfl))) (mvT hZ (hw _ (List.mem_of_getElem? (i := 4) rfl))) (mvT hZ (hw _ (List.mem_of_getElem? (i := 5) rfl))) (by decide) (backOf (W := 1) (rm1 l Z a0 hw [] b14 _ h14 n0 Y14 A14 FA FB gg) hZ (hw _ (List.mem_of_getElem? (i := 5) rfl)) (hw _ (List.mem_of_getElem? (i := 2) rfl)) (by decide) (by decide)) (g := (mkF m 25 #[.val (.int p1), .val (.int p2), .val (.int p3), .val (.int p4), .val (.int p5), .val (.int (1 : Int32)), .val (.int (1 : Int32)), .unset, .unset] [(.ref b14), (.ref b14)])) rfl (by rw [hml]; rfl) (Steps.refl _) (a := b14) (argsL := []) (rest := [(.ref b14)]) (lenOf pd_0 rfl) rfl (by show 2 * 0 + _ ≤ _; exact Nat.le_of_eq rfl) (hb hby at_25) (fun _ _ => ⟨rfl, e14, (by decide : 1 + 1 ≤ _), (by decide : 2 + 16 ≤ _)⟩)
      dsimp only [Pt.U, Pt.locs, Pt.cells, Pt.slots] at X15 l15 y15 z15 st15 hQ15
      subst l15 y15 z15
      obtain ⟨rfl, M15, K15, bb, gb, S15⟩ := hQ15
      have N15 := Fr.app N0 M15
      have pre15 : Steps p.tables e below (s₁.setTop (entryFrame m #[(.int p1), (.int p2), (.int p3), (.int p4), (.int p5)] maxLocals)) (T15.setTop (mkF m 28 #[.val (.int p1), .val (.int p2), .val (.int p3), .val (.int p4), .val (.int p5), .val (.int (1 : Int32)), .val (.int (1 : Int32)), .unset, .unset] [(.ref b14)])) := by
        refine pre14.trans ?_
        refine XS.dup X14.here hx rfl (hb hby at_24) rfl rfl ?_
        show Steps p.tables e below (T14.setTop (mkF m 25 #[.val (.int p1), .val (.int p2), .val (.int p3), .val (.int p4), .val (.int p5), .val (.int (1 : Int32)), .val (.int (1 : Int32)), .unset, .unset] [(.ref b14), (.ref b14)])) _
        exact st15
      have Y15 : n0 ≤ T15.heap.size := Nat.le_trans Y14 K15.1
      obtain ⟨cq16, kq16, q16a, q16b, q16c⟩ := isOf hZ rfl S15.1
      obtain ⟨_, _, ⟨T16, L16, k16, n16⟩, -, X16, ⟨Lc16, hQ16, l16, y16, z16⟩, st16⟩ := X15.virtualBack hx (y := (⟨"com/example/brisk_tableau/brisktableau/ltl/IntStack", "isEmpty", "()Z"⟩ : MethodName)) (z := (⟨"com/example/brisk_tableau/brisktableau/ltl/IntStack", "isEmpty", "()Z"⟩ : MethodName)) hown (mvT hZ (hw _ (List.mem_of_getElem? (i := 12) rfl))) (mvT hZ (hw _ (List.mem_of_getElem? (i := 13) rfl))) (notFace_of_selects (args := #[]) (mvT hZ (hw _ (List.mem_of_getElem? (i := 15) rfl)))) (mvT hZ (hw _ (List.mem_of_getElem? (i := 15) rfl))) (mvT hZ (hw _ (List.mem_of_getElem? (i := 14) rfl))) (by decide) (backOf (W := 0) (rm3 l Z a0 hw [] b14 (0 : Int32) bb T15.heap n0 Y15 S15) hZ (hw _ (List.mem_of_getElem? (i := 16) rfl)) (hw _ (List.mem_of_getElem? (i := 2) rfl)) (by decide) (by decide)) q16a q16c (g := (mkF m 32 #[.val (.int p1), .val (.int p2), .val (.int p3), .val (.int p4), .val (.int p5), .val (.int (1 : Int32)), .val (.int (1 : Int32)), .val (.ref b14), .unset] [(.ref b14)])) rfl (by rw [hml]; rfl) (Steps.refl _) (argsL := []) (rest := []) (lenOf pd_1 rfl) rfl (by show 2 * 0 + _ ≤ _; exact Nat.le_of_eq rfl) (hb hby at_32) (fun _ _ => ⟨rfl, rfl, (by decide : 2 + 0 ≤ _), (by decide : 18 + 0 ≤ _)⟩)
      dsimp only [Pt.U, Pt.locs, Pt.cells, Pt.slots] at X16 l16 y16 z16 st16 hQ16
      subst l16 y16 z16
      obtain ⟨rfl, M16, e16⟩ := hQ16
      have N16 := Fr.app N15 M16
      have pre16 : Steps p.tables e below (s₁.setTop (entryFrame m #[(.int p1), (.int p2), (.int p3), (.int p4), (.int p5)] maxLocals)) (T16.setTop (mkF m 35 #[.val (.int p1), .val (.int p2), .val (.int p3), .val (.int p4), .val (.int p5), .val (.int (1 : Int32)), .val (.int (1 : Int32)), .val (.ref b14), .unset] [(.int (own_emp (0 : Int32)))])) := by
        refine pre15.trans ?_
        refine XS.astore X15.here hx rfl (hb hby at_28) rfl rfl (l' := #[.val (.int p1), .val (.int p2), .val (.int p3), .val (.int p4), .val (.int p5), .val (.int (1 : Int32)), .val (.int (1 : Int32)), .val (.ref b14), .unset]) rfl ?_
        show Steps p.tables e below (T15.setTop (mkF m 30 #[.val (.int p1), .val (.int p2), .val (.int p3), .val (.int p4), .val (.int p5), .val (.int (1 : Int32)), .val (.int (1 : Int32)), .val (.ref b14), .unset] [])) _
        refine XS.aload X15.here hx rfl (hb hby at_30) rfl rfl ?_
        show Steps p.tables e below (T15.setTop (mkF m 32 #[.val (.int p1), .val (.int p2), .val (.int p3), .val (.int p4), .val (.int p5), .val (.int (1 : Int32)), .val (.int (1 : Int32)), .val (.ref b14), .unset] [(.ref b14)])) _
        exact st16
      rw [own_e0] at pre16
      obtain ⟨cq17, kq17, q17a, q17b, q17c⟩ := isOf hZ e16 S15.1
      obtain ⟨_, _, ⟨T17, L17, k17, n17⟩, -, X17, ⟨Lc17, hQ17, l17, y17, z17⟩, st17⟩ := X16.virtualBack hx (y := (⟨"com/example/brisk_tableau/brisktableau/ltl/IntStack", "push", "(I)V"⟩ : MethodName)) (z := (⟨"com/example/brisk_tableau/brisktableau/ltl/IntStack", "push", "(I)V"⟩ : MethodName)) hown (mvT hZ (hw _ (List.mem_of_getElem? (i := 19) rfl))) (mvT hZ (hw _ (List.mem_of_getElem? (i := 20) rfl))) (notFace_of_selects (args := #[]) (mvT hZ (hw _ (List.mem_of_getElem? (i := 22) rfl)))) (mvT hZ (hw _ (List.mem_of_getElem? (i := 22) rfl))) (mvT hZ (hw _ (List.mem_of_getElem? (i := 21) rfl))) (by decide) (backOf (W := 0) (rm4 l Z a0 hw [] b14 p3 (0 : Int32) (1 : Int32) bb T15.heap n0 Y15 S15 gg gb (by decide) (by decide)) hZ (hw _ (List.mem_of_getElem? (i := 23) rfl)) (hw _ (List.mem_of_getElem? (i := 2) rfl)) (by decide) (by decide)) q17a q17c (g := (mkF m 46 #[.val (.int p1), .val (.int p2), .val (.int p3), .val (.int p4), .val (.int p5), .val (.int (1 : Int32)), .val (.int (1 : Int32)), .val (.ref b14), .val (.int (1 : Int32))] [(.int p3), (.ref b14)])) rfl (by rw [hml]; rfl) (Steps.refl _) (argsL := [(.int p3)]) (rest := []) (lenOf pd_2 rfl) rfl (by show 2 * 0 + _ ≤ _; exact Nat.le_of_eq rfl) (hb hby at_46) (fun _ _ => ⟨rfl, e16, (by decide : 2 + 0 ≤ _), (by decide : 18 + 0 ≤ _)⟩)
      dsimp only [Pt.U, Pt.locs, Pt.cells, Pt.slots] at X17 l17 y17 z17 st17 hQ17
      subst l17 y17 z17
      obtain ⟨rfl, M17, K17, S17⟩ := hQ17
      have N17 := Fr.app N16 M17
      have pre17 : Steps p.tables e below (s₁.setTop (entryFrame m #[(.int p1), (.int p2), (.int p3), (.int p4), (.int p5)] maxLocals)) (T17.setTop (mkF m 49 #[.val (.int p1), .val (.int p2), .val (.int p3), .val (.int p4), .val (.int p5), .val (.int (1 : Int32)), .val (.int (1 : Int32)), .val (.ref b14), .val (.int (1 : Int32))] [])) := by
        refine pre16.trans ?_
        refine XS.istore X16.here hx rfl (hb hby at_35) rfl (l' := #[.val (.int p1), .val (.int p2), .val (.int p3), .val (.int p4), .val (.int p5), .val (.int (1 : Int32)), .val (.int (1 : Int32)), .val (.ref b14), .val (.int (1 : Int32))]) rfl ?_
        show Steps p.tables e below (T16.setTop (mkF m 37 #[.val (.int p1), .val (.int p2), .val (.int p3), .val (.int p4), .val (.int p5), .val (.int (1 : Int32)), .val (.int (1 : Int32)), .val (.ref b14), .val (.int (1 : Int32))] [])) _
        refine XS.iload X16.here hx rfl (hb hby at_37) rfl ?_
        show Steps p.tables e below (T16.setTop (mkF m 39 #[.val (.int p1), .val (.int p2), .val (.int p3), .val (.int p4), .val (.int p5), .val (.int (1 : Int32)), .val (.int (1 : Int32)), .val (.ref b14), .val (.int (1 : Int32))] [(.int (1 : Int32))])) _
        refine XS.iconst X16.here hx rfl (hb hby at_39) ?_
        show Steps p.tables e below (T16.setTop (mkF m 40 #[.val (.int p1), .val (.int p2), .val (.int p3), .val (.int p4), .val (.int p5), .val (.int (1 : Int32)), .val (.int (1 : Int32)), .val (.ref b14), .val (.int (1 : Int32))] [(.int (1 : Int32)), (.int (1 : Int32))])) _
        refine XS.icmpNo X16.here hx rfl (hb hby at_40) rfl (by decide) ?_
        show Steps p.tables e below (T16.setTop (mkF m 43 #[.val (.int p1), .val (.int p2), .val (.int p3), .val (.int p4), .val (.int p5), .val (.int (1 : Int32)), .val (.int (1 : Int32)), .val (.ref b14), .val (.int (1 : Int32))] [])) _
        refine XS.aload X16.here hx rfl (hb hby at_43) rfl rfl ?_
        show Steps p.tables e below (T16.setTop (mkF m 45 #[.val (.int p1), .val (.int p2), .val (.int p3), .val (.int p4), .val (.int p5), .val (.int (1 : Int32)), .val (.int (1 : Int32)), .val (.ref b14), .val (.int (1 : Int32))] [(.ref b14)])) _
        refine XS.iloadN X16.here hx rfl (hb hby at_45) rfl ?_
        show Steps p.tables e below (T16.setTop (mkF m 46 #[.val (.int p1), .val (.int p2), .val (.int p3), .val (.int p4), .val (.int p5), .val (.int (1 : Int32)), .val (.int (1 : Int32)), .val (.ref b14), .val (.int (1 : Int32))] [(.int p3), (.ref b14)])) _
        exact st17
      have Y17 : n0 ≤ T17.heap.size := Nat.le_trans Y15 K17.1
      obtain ⟨cq18, kq18, q18a, q18b, q18c⟩ := isOf hZ rfl S17.1
      obtain ⟨_, _, ⟨T18, L18, k18, n18⟩, -, X18, ⟨Lc18, hQ18, l18, y18, z18⟩, st18⟩ := X17.virtualBack hx (y := (⟨"com/example/brisk_tableau/brisktableau/ltl/IntStack", "isEmpty", "()Z"⟩ : MethodName)) (z := (⟨"com/example/brisk_tableau/brisktableau/ltl/IntStack", "isEmpty", "()Z"⟩ : MethodName)) hown (mvT hZ (hw _ (List.mem_of_getElem? (i := 12) rfl))) (mvT hZ (hw _ (List.mem_of_getElem? (i := 13) rfl))) (notFace_of_selects (args := #[]) (mvT hZ (hw _ (List.mem_of_getElem? (i := 15) rfl)))) (mvT hZ (hw _ (List.mem_of_getElem? (i := 15) rfl))) (mvT hZ (hw _ (List.mem_of_getElem? (i := 14) rfl))) (by decide) (backOf (W := 0) (rm3 l Z a0 hw [] b14 (1 : Int32) bb T17.heap n0 Y17 S17) hZ (hw _ (List.mem_of_getElem? (i := 16) rfl)) (hw _ (List.mem_of_getElem? (i := 2) rfl)) (by decide) (by decide)) q18a q18c (g := (mkF m 81 #[.val (.int p1), .val (.int p2), .val (.int p3), .val (.int p4), .val (.int p5), .val (.int (1 : Int32)), .val (.int (1 : Int32)), .val (.ref b14), .val (.int (1 : Int32))] [(.ref b14)])) rfl (by rw [hml]; rfl) (Steps.refl _) (argsL := []) (rest := []) (lenOf pd_1 rfl) rfl (by show 2 * 0 + _ ≤ _; exact Nat.le_of_eq rfl) (hb hby at_81) (fun _ _ => ⟨rfl, rfl, (by decide : 2 + 0 ≤ _), (by decide : 18 + 0 ≤ _)⟩)
      dsimp only [Pt.U, Pt.locs, Pt.cells, Pt.slots] at X18 l18 y18 z18 st18 hQ18
      subst l18 y18 z18
      obtain ⟨rfl, M18, e18⟩ := hQ18
      have N18 := Fr.app N17 M18
      have pre18 : Steps p.tables e below (s₁.setTop (entryFrame m #[(.int p1), (.int p2), (.int p3), (.int p4), (.int p5)] maxLocals)) (T18.setTop (mkF m 84 #[.val (.int p1), .val (.int p2), .val (.int p3), .val (.int p4), .val (.int p5), .val (.int (1 : Int32)), .val (.int (1 : Int32)), .val (.ref b14), .val (.int (1 : Int32))] [(.int (own_emp (1 : Int32)))])) := by
        refine pre17.trans ?_
        refine XS.iload X17.here hx rfl (hb hby at_49) rfl ?_
        show Steps p.tables e below (T17.setTop (mkF m 51 #[.val (.int p1), .val (.int p2), .val (.int p3), .val (.int p4), .val (.int p5), .val (.int (1 : Int32)), .val (.int (1 : Int32)), .val (.ref b14), .val (.int (1 : Int32))] [(.int (1 : Int32))])) _
        refine XS.iconst X17.here hx rfl (hb hby at_51) ?_
        show Steps p.tables e below (T17.setTop (mkF m 52 #[.val (.int p1), .val (.int p2), .val (.int p3), .val (.int p4), .val (.int p5), .val (.int (1 : Int32)), .val (.int (1 : Int32)), .val (.ref b14), .val (.int (1 : Int32))] [(.int (2 : Int32)), (.int (1 : Int32))])) _
        refine XS.icmpYes X17.here hx rfl (pc0 := 52) (pc' := 61) rfl (hb hby at_52) rfl (by decide) (by decide) (by decide) ?_
        show Steps p.tables e below (T17.setTop (mkF m 61 #[.val (.int p1), .val (.int p2), .val (.int p3), .val (.int p4), .val (.int p5), .val (.int (1 : Int32)), .val (.int (1 : Int32)), .val (.ref b14), .val (.int (1 : Int32))] [])) _
        refine XS.iload X17.here hx rfl (hb hby at_61) rfl ?_
        show Steps p.tables e below (T17.setTop (mkF m 63 #[.val (.int p1), .val (.int p2), .val (.int p3), .val (.int p4), .val (.int p5), .val (.int (1 : Int32)), .val (.int (1 : Int32)), .val (.ref b14), .val (.int (1 : Int32))] [(.int (1 : Int32))])) _
        refine XS.iconst X17.here hx rfl (hb hby at_63) ?_
        show Steps p.tables e below (T17.setTop (mkF m 64 #[.val (.int p1), .val (.int p2), .val (.int p3), .val (.int p4), .val (.int p5), .val (.int (1 : Int32)), .val (.int (1 : Int32)), .val (.ref b14), .val (.int (1 : Int32))] [(.int (3 : Int32)), (.int (1 : Int32))])) _
        refine XS.icmpYes X17.here hx rfl (pc0 := 64) (pc' := 74) rfl (hb hby at_64) rfl (by decide) (by decide) (by decide) ?_
        show Steps p.tables e below (T17.setTop (mkF m 74 #[.val (.int p1), .val (.int p2), .val (.int p3), .val (.int p4), .val (.int p5), .val (.int (1 : Int32)), .val (.int (1 : Int32)), .val (.ref b14), .val (.int (1 : Int32))] [])) _
        refine XS.iload X17.here hx rfl (hb hby at_74) rfl ?_
        show Steps p.tables e below (T17.setTop (mkF m 76 #[.val (.int p1), .val (.int p2), .val (.int p3), .val (.int p4), .val (.int p5), .val (.int (1 : Int32)), .val (.int (1 : Int32)), .val (.ref b14), .val (.int (1 : Int32))] [(.int (1 : Int32))])) _
        refine XS.ifNo X17.here hx rfl (hb hby at_76) rfl (by decide) ?_
        show Steps p.tables e below (T17.setTop (mkF m 79 #[.val (.int p1), .val (.int p2), .val (.int p3), .val (.int p4), .val (.int p5), .val (.int (1 : Int32)), .val (.int (1 : Int32)), .val (.ref b14), .val (.int (1 : Int32))] [])) _
        refine XS.aload X17.here hx rfl (hb hby at_79) rfl rfl ?_
        show Steps p.tables e below (T17.setTop (mkF m 81 #[.val (.int p1), .val (.int p2), .val (.int p3), .val (.int p4), .val (.int p5), .val (.int (1 : Int32)), .val (.int (1 : Int32)), .val (.ref b14), .val (.int (1 : Int32))] [(.ref b14)])) _
        exact st18
      rw [own_e1] at pre18
      obtain ⟨cq19, kq19, q19a, q19b, q19c⟩ := isOf hZ e18 S17.1
      obtain ⟨_, _, ⟨T19, L19, k19, n19⟩, -, X19, ⟨Lc19, hQ19, l19, y19, z19⟩, st19⟩ := X18.virtualBack hx (y := (⟨"com/example/brisk_tableau/brisktableau/ltl/IntStack", "pop", "()I"⟩ : MethodName)) (z := (⟨"com/example/brisk_tableau/brisktableau/ltl/IntStack", "pop", "()I"⟩ : MethodName)) hown (mvT hZ (hw _ (List.mem_of_getElem? (i := 24) rfl))) (mvT hZ (hw _ (List.mem_of_getElem? (i := 25) rfl))) (notFace_of_selects (args := #[]) (mvT hZ (hw _ (List.mem_of_getElem? (i := 27) rfl)))) (mvT hZ (hw _ (List.mem_of_getElem? (i := 27) rfl))) (mvT hZ (hw _ (List.mem_of_getElem? (i := 26) rfl))) (by decide) (backOf (W := 0) (rm5 l Z a0 hw [] b14 (1 : Int32) (0 : Int32) bb T17.heap n0 Y17 S17 gg gb (by decide) (by decide)) hZ (hw _ (List.mem_of_getElem? (i := 28) rfl)) (hw _ (List.mem_of_getElem? (i := 2) rfl)) (by decide) (by decide)) q19a q19c (g := (mkF m 112 #[.val (.int p1), .val (.int p2), .val (.int p3), .val (.int p4), .val (.int p5), .val (.int (1 : Int32)), .val (.int (1 : Int32)), .val (.ref b14), .val (.int (1 : Int32))] [(.ref b14)])) rfl (by rw [hml]; rfl) (Steps.refl _) (argsL := []) (rest := []) (lenOf pd_3 rfl) rfl (by show 2 * 0 + _ ≤ _; exact Nat.le_of_eq rfl) (hb hby at_112) (fun _ _ => ⟨rfl, e18, (by decide : 2 + 0 ≤ _), (by decide : 18 + 0 ≤ _)⟩)
      dsimp only [Pt.U, Pt.locs, Pt.cells, Pt.slots] at X19 l19 y19 z19 st19 hQ19
      subst l19 y19 z19
      obtain ⟨⟨x19, rfl⟩, M19, K19, S19⟩ := hQ19
      have N19 := Fr.app N18 M19
      have pre19 : Steps p.tables e below (s₁.setTop (entryFrame m #[(.int p1), (.int p2), (.int p3), (.int p4), (.int p5)] maxLocals)) (T19.setTop (mkF m 115 #[.val (.int p1), .val (.int p2), .val (.int p3), .val (.int p4), .val (.int p5), .val (.int (1 : Int32)), .val (.int (1 : Int32)), .val (.ref b14), .val (.int (1 : Int32))] [(.int x19)])) := by
        refine pre18.trans ?_
        refine XS.iload X18.here hx rfl (hb hby at_84) rfl ?_
        show Steps p.tables e below (T18.setTop (mkF m 86 #[.val (.int p1), .val (.int p2), .val (.int p3), .val (.int p4), .val (.int p5), .val (.int (1 : Int32)), .val (.int (1 : Int32)), .val (.ref b14), .val (.int (1 : Int32))] [(.int (1 : Int32)), (.int (0 : Int32))])) _
        refine XS.ifYes X18.here hx rfl (pc0 := 86) (pc' := 93) rfl (hb hby at_86) rfl (by decide) (by decide) (by decide) ?_
        show Steps p.tables e below (T18.setTop (mkF m 93 #[.val (.int p1), .val (.int p2), .val (.int p3), .val (.int p4), .val (.int p5), .val (.int (1 : Int32)), .val (.int (1 : Int32)), .val (.ref b14), .val (.int (1 : Int32))] [(.int (0 : Int32))])) _
        refine XS.iconst X18.here hx rfl (hb hby at_93) ?_
        show Steps p.tables e below (T18.setTop (mkF m 94 #[.val (.int p1), .val (.int p2), .val (.int p3), .val (.int p4), .val (.int p5), .val (.int (1 : Int32)), .val (.int (1 : Int32)), .val (.ref b14), .val (.int (1 : Int32))] [(.int (0 : Int32)), (.int (0 : Int32))])) _
        refine XS.icmpNo X18.here hx rfl (hb hby at_94) rfl (by decide) ?_
        show Steps p.tables e below (T18.setTop (mkF m 97 #[.val (.int p1), .val (.int p2), .val (.int p3), .val (.int p4), .val (.int p5), .val (.int (1 : Int32)), .val (.int (1 : Int32)), .val (.ref b14), .val (.int (1 : Int32))] [])) _
        refine XS.iconst X18.here hx rfl (hb hby at_97) ?_
        show Steps p.tables e below (T18.setTop (mkF m 98 #[.val (.int p1), .val (.int p2), .val (.int p3), .val (.int p4), .val (.int p5), .val (.int (1 : Int32)), .val (.int (1 : Int32)), .val (.ref b14), .val (.int (1 : Int32))] [(.int (1 : Int32))])) _
        refine XS.goto X18.here hx rfl (pc0 := 98) (pc' := 102) rfl (hb hby at_98) (by decide) (by decide) ?_
        show Steps p.tables e below (T18.setTop (mkF m 102 #[.val (.int p1), .val (.int p2), .val (.int p3), .val (.int p4), .val (.int p5), .val (.int (1 : Int32)), .val (.int (1 : Int32)), .val (.ref b14), .val (.int (1 : Int32))] [(.int (1 : Int32))])) _
        refine XS.istore X18.here hx rfl (hb hby at_102) rfl (l' := #[.val (.int p1), .val (.int p2), .val (.int p3), .val (.int p4), .val (.int p5), .val (.int (1 : Int32)), .val (.int (1 : Int32)), .val (.ref b14), .val (.int (1 : Int32))]) rfl ?_
        show Steps p.tables e below (T18.setTop (mkF m 104 #[.val (.int p1), .val (.int p2), .val (.int p3), .val (.int p4), .val (.int p5), .val (.int (1 : Int32)), .val (.int (1 : Int32)), .val (.ref b14), .val (.int (1 : Int32))] [])) _
        refine XS.iload X18.here hx rfl (hb hby at_104) rfl ?_
        show Steps p.tables e below (T18.setTop (mkF m 106 #[.val (.int p1), .val (.int p2), .val (.int p3), .val (.int p4), .val (.int p5), .val (.int (1 : Int32)), .val (.int (1 : Int32)), .val (.ref b14), .val (.int (1 : Int32))] [(.int (1 : Int32))])) _
        refine XS.iconst X18.here hx rfl (hb hby at_106) ?_
        show Steps p.tables e below (T18.setTop (mkF m 107 #[.val (.int p1), .val (.int p2), .val (.int p3), .val (.int p4), .val (.int p5), .val (.int (1 : Int32)), .val (.int (1 : Int32)), .val (.ref b14), .val (.int (1 : Int32))] [(.int (1 : Int32)), (.int (1 : Int32))])) _
        refine XS.icmpNo X18.here hx rfl (hb hby at_107) rfl (by decide) ?_
        show Steps p.tables e below (T18.setTop (mkF m 110 #[.val (.int p1), .val (.int p2), .val (.int p3), .val (.int p4), .val (.int p5), .val (.int (1 : Int32)), .val (.int (1 : Int32)), .val (.ref b14), .val (.int (1 : Int32))] [])) _
        refine XS.aload X18.here hx rfl (hb hby at_110) rfl rfl ?_
        show Steps p.tables e below (T18.setTop (mkF m 112 #[.val (.int p1), .val (.int p2), .val (.int p3), .val (.int p4), .val (.int p5), .val (.int (1 : Int32)), .val (.int (1 : Int32)), .val (.ref b14), .val (.int (1 : Int32))] [(.ref b14)])) _
        exact st19
      have Y19 : n0 ≤ T19.heap.size := Nat.le_trans Y17 K19.1
      obtain ⟨cq20, kq20, q20a, q20b, q20c⟩ := isOf hZ rfl S19.1
      obtain ⟨_, _, ⟨T20, L20, k20, n20⟩, -, X20, ⟨Lc20, hQ20, l20, y20, z20⟩, st20⟩ := X19.virtualBack hx (y := (⟨"com/example/brisk_tableau/brisktableau/ltl/IntStack", "isEmpty", "()Z"⟩ : MethodName)) (z := (⟨"com/example/brisk_tableau/brisktableau/ltl/IntStack", "isEmpty", "()Z"⟩ : MethodName)) hown (mvT hZ (hw _ (List.mem_of_getElem? (i := 12) rfl))) (mvT hZ (hw _ (List.mem_of_getElem? (i := 13) rfl))) (notFace_of_selects (args := #[]) (mvT hZ (hw _ (List.mem_of_getElem? (i := 15) rfl)))) (mvT hZ (hw _ (List.mem_of_getElem? (i := 15) rfl))) (mvT hZ (hw _ (List.mem_of_getElem? (i := 14) rfl))) (by decide) (backOf (W := 0) (rm3 l Z a0 hw [] b14 (0 : Int32) bb T19.heap n0 Y19 S19) hZ (hw _ (List.mem_of_getElem? (i := 16) rfl)) (hw _ (List.mem_of_getElem? (i := 2) rfl)) (by decide) (by decide)) q20a q20c (g := (mkF m 147 #[.val (.int p1), .val (.int p2), .val (.int p3), .val (.int p4), .val (.int p5), .val (.int (1 : Int32)), .val (.int (1 : Int32)), .val (.ref b14), .val (.int (1 : Int32))] [(.ref b14)])) rfl (by rw [hml]; rfl) (Steps.refl _) (argsL := []) (rest := []) (lenOf pd_1 rfl) rfl (by show 2 * 0 + _ ≤ _; exact Nat.le_of_eq rfl) (hb hby at_147) (fun _ _ => ⟨rfl, rfl, (by decide : 2 + 0 ≤ _), (by decide : 18 + 0 ≤ _)⟩)
      dsimp only [Pt.U, Pt.locs, Pt.cells, Pt.slots] at X20 l20 y20 z20 st20 hQ20
      subst l20 y20 z20
      obtain ⟨rfl, M20, e20⟩ := hQ20
      have N20 := Fr.app N19 M20
      have pre20 : Steps p.tables e below (s₁.setTop (entryFrame m #[(.int p1), (.int p2), (.int p3), (.int p4), (.int p5)] maxLocals)) (T20.setTop (mkF m 150 #[.val (.int p1), .val (.int p2), .val (.int p3), .val (.int p4), .val (.int p5), .val (.int (1 : Int32)), .val (.int (1 : Int32)), .val (.ref b14), .val (.int (1 : Int32))] [(.int (own_emp (0 : Int32)))])) := by
        refine pre19.trans ?_
        refine XS.pop X19.here hx rfl (hb hby at_115) rfl rfl ?_
        show Steps p.tables e below (T19.setTop (mkF m 116 #[.val (.int p1), .val (.int p2), .val (.int p3), .val (.int p4), .val (.int p5), .val (.int (1 : Int32)), .val (.int (1 : Int32)), .val (.ref b14), .val (.int (1 : Int32))] [])) _
        refine XS.iload X19.here hx rfl (hb hby at_116) rfl ?_
        show Steps p.tables e below (T19.setTop (mkF m 118 #[.val (.int p1), .val (.int p2), .val (.int p3), .val (.int p4), .val (.int p5), .val (.int (1 : Int32)), .val (.int (1 : Int32)), .val (.ref b14), .val (.int (1 : Int32))] [(.int (1 : Int32))])) _
        refine XS.iconst X19.here hx rfl (hb hby at_118) ?_
        show Steps p.tables e below (T19.setTop (mkF m 119 #[.val (.int p1), .val (.int p2), .val (.int p3), .val (.int p4), .val (.int p5), .val (.int (1 : Int32)), .val (.int (1 : Int32)), .val (.ref b14), .val (.int (1 : Int32))] [(.int (2 : Int32)), (.int (1 : Int32))])) _
        refine XS.icmpYes X19.here hx rfl (pc0 := 119) (pc' := 128) rfl (hb hby at_119) rfl (by decide) (by decide) (by decide) ?_
        show Steps p.tables e below (T19.setTop (mkF m 128 #[.val (.int p1), .val (.int p2), .val (.int p3), .val (.int p4), .val (.int p5), .val (.int (1 : Int32)), .val (.int (1 : Int32)), .val (.ref b14), .val (.int (1 : Int32))] [])) _
        refine XS.iload X19.here hx rfl (hb hby at_128) rfl ?_
        show Steps p.tables e below (T19.setTop (mkF m 130 #[.val (.int p1), .val (.int p2), .val (.int p3), .val (.int p4), .val (.int p5), .val (.int (1 : Int32)), .val (.int (1 : Int32)), .val (.ref b14), .val (.int (1 : Int32))] [(.int (1 : Int32))])) _
        refine XS.iconst X19.here hx rfl (hb hby at_130) ?_
        show Steps p.tables e below (T19.setTop (mkF m 131 #[.val (.int p1), .val (.int p2), .val (.int p3), .val (.int p4), .val (.int p5), .val (.int (1 : Int32)), .val (.int (1 : Int32)), .val (.ref b14), .val (.int (1 : Int32))] [(.int (3 : Int32)), (.int (1 : Int32))])) _
        refine XS.icmpYes X19.here hx rfl (pc0 := 131) (pc' := 140) rfl (hb hby at_131) rfl (by decide) (by decide) (by decide) ?_
        show Steps p.tables e below (T19.setTop (mkF m 140 #[.val (.int p1), .val (.int p2), .val (.int p3), .val (.int p4), .val (.int p5), .val (.int (1 : Int32)), .val (.int (1 : Int32)), .val (.ref b14), .val (.int (1 : Int32))] [])) _
        refine XS.iload X19.here hx rfl (hb hby at_140) rfl ?_
        show Steps p.tables e below (T19.setTop (mkF m 142 #[.val (.int p1), .val (.int p2), .val (.int p3), .val (.int p4), .val (.int p5), .val (.int (1 : Int32)), .val (.int (1 : Int32)), .val (.ref b14), .val (.int (1 : Int32))] [(.int (1 : Int32))])) _
        refine XS.ifNo X19.here hx rfl (hb hby at_142) rfl (by decide) ?_
        show Steps p.tables e below (T19.setTop (mkF m 145 #[.val (.int p1), .val (.int p2), .val (.int p3), .val (.int p4), .val (.int p5), .val (.int (1 : Int32)), .val (.int (1 : Int32)), .val (.ref b14), .val (.int (1 : Int32))] [])) _
        refine XS.aload X19.here hx rfl (hb hby at_145) rfl rfl ?_
        show Steps p.tables e below (T19.setTop (mkF m 147 #[.val (.int p1), .val (.int p2), .val (.int p3), .val (.int p4), .val (.int p5), .val (.int (1 : Int32)), .val (.int (1 : Int32)), .val (.ref b14), .val (.int (1 : Int32))] [(.ref b14)])) _
        exact st20
      rw [own_e0] at pre20
      obtain ⟨fs, hr, hrun, hended, hW, hsame⟩ := X20.leave (v := some (.int (1 : Int32))) (fun h => by rw [Bd.returns] at h; cases h)
      refine ⟨_, _, pre20.trans ?_, hrun, hended, _, _, rfl, ?_, ⟨_, rfl⟩, hW, hsame.mono (by decide) (by decide)⟩
      · skip
        refine XS.iload X20.here hx rfl (hb hby at_150) rfl ?_
        show Steps p.tables e below (T20.setTop (mkF m 152 #[.val (.int p1), .val (.int p2), .val (.int p3), .val (.int p4), .val (.int p5), .val (.int (1 : Int32)), .val (.int (1 : Int32)), .val (.ref b14), .val (.int (1 : Int32))] [(.int (1 : Int32)), (.int (1 : Int32))])) _
        refine XS.iload X20.here hx rfl (hb hby at_152) rfl ?_
        show Steps p.tables e below (T20.setTop (mkF m 154 #[.val (.int p1), .val (.int p2), .val (.int p3), .val (.int p4), .val (.int p5), .val (.int (1 : Int32)), .val (.int (1 : Int32)), .val (.ref b14), .val (.int (1 : Int32))] [(.int (1 : Int32)), (.int (1 : Int32)), (.int (1 : Int32))])) _
        refine XS.icmpNo X20.here hx rfl (hb hby at_154) rfl (by decide) ?_
        show Steps p.tables e below (T20.setTop (mkF m 157 #[.val (.int p1), .val (.int p2), .val (.int p3), .val (.int p4), .val (.int p5), .val (.int (1 : Int32)), .val (.int (1 : Int32)), .val (.ref b14), .val (.int (1 : Int32))] [(.int (1 : Int32))])) _
        refine XS.iconst X20.here hx rfl (hb hby at_157) ?_
        show Steps p.tables e below (T20.setTop (mkF m 158 #[.val (.int p1), .val (.int p2), .val (.int p3), .val (.int p4), .val (.int p5), .val (.int (1 : Int32)), .val (.int (1 : Int32)), .val (.ref b14), .val (.int (1 : Int32))] [(.int (1 : Int32)), (.int (1 : Int32))])) _
        refine XS.goto X20.here hx rfl (pc0 := 158) (pc' := 162) rfl (hb hby at_158) (by decide) (by decide) ?_
        show Steps p.tables e below (T20.setTop (mkF m 162 #[.val (.int p1), .val (.int p2), .val (.int p3), .val (.int p4), .val (.int p5), .val (.int (1 : Int32)), .val (.int (1 : Int32)), .val (.ref b14), .val (.int (1 : Int32))] [(.int (1 : Int32)), (.int (1 : Int32))])) _
        refine XS.icmpNo X20.here hx rfl (hb hby at_162) rfl (by decide) ?_
        show Steps p.tables e below (T20.setTop (mkF m 165 #[.val (.int p1), .val (.int p2), .val (.int p3), .val (.int p4), .val (.int p5), .val (.int (1 : Int32)), .val (.int (1 : Int32)), .val (.ref b14), .val (.int (1 : Int32))] [])) _
        refine XS.iconst X20.here hx rfl (hb hby at_165) ?_
        show Steps p.tables e below (T20.setTop (mkF m 166 #[.val (.int p1), .val (.int p2), .val (.int p3), .val (.int p4), .val (.int p5), .val (.int (1 : Int32)), .val (.int (1 : Int32)), .val (.ref b14), .val (.int (1 : Int32))] [(.int (1 : Int32))])) _
        refine XS.goto X20.here hx rfl (pc0 := 166) (pc' := 170) rfl (hb hby at_166) (by decide) (by decide) ?_
        show Steps p.tables e below (T20.setTop (mkF m 170 #[.val (.int p1), .val (.int p2), .val (.int p3), .val (.int p4), .val (.int p5), .val (.int (1 : Int32)), .val (.int (1 : Int32)), .val (.ref b14), .val (.int (1 : Int32))] [(.int (1 : Int32))])) _
        exact retN X20 hx (t := .boolean) Bd.returns (by simp) (hb hby at_170) hr
      · show Q0 Z p1 p2 p3 p4 p5  h0 n0 _ T20.heap _
        rw [e20]
        exact ⟨rfl, N20⟩
    · exact absurd (by decide) hle
    · exact absurd (by decide) hle
  · skip
    rw [hn] at hle
    rw [hn] at pre2
    rcases hk with rfl | rfl | rfl | rfl
    · skip
      obtain ⟨T21, h21, X21, e21, E21, A21, D21, -, st21⟩ := newO X0 hx hZ hown (hw _ (List.mem_of_getElem? (i := 0) rfl)) (hw _ (List.mem_of_getElem? (i := 1) rfl)) (hw _ (List.mem_of_getElem? (i := 2) rfl)) e0 (g := (mkF m 21 #[.val (.int p1), .val (.int p2), .val (.int p3), .val (.int p4), .val (.int p5), .val (.int (2 : Int32)), .val (.int (0 : Int32)), .unset, .unset] [])) rfl (hb hby at_21) (by decide) (by decide)
      obtain ⟨b21, g21⟩ : ∃ z, z = h0.size := ⟨_, rfl⟩
      rw [← g21] at A21 D21 st21
      have pre21 : Steps p.tables e below (s₁.setTop (entryFrame m #[(.int p1), (.int p2), (.int p3), (.int p4), (.int p5)] maxLocals)) (T21.setTop (mkF m 24 #[.val (.int p1), .val (.int p2), .val (.int p3), .val (.int p4), .val (.int p5), .val (.int (2 : Int32)), .val (.int (0 : Int32)), .unset, .unset] [(.ref b21)])) := by
        refine pre2.trans ?_
        exact st21 _ (Steps.refl _)
      have gg : n0 ≤ b21 := Nat.le_trans Z0 (Nat.le_of_eq g21.symm)
      have Y21 : n0 ≤ h21.size := Nat.le_trans Z0 E21.1
      have FA := D21 (Or.inl (hw _ (List.mem_of_getElem? (i := 18) rfl))) (ty := .int) (by decide)
      have FB := D21 (Or.inl (hw _ (List.mem_of_getElem? (i := 11) rfl))) (ty := (.array .int)) (by decide)
      obtain ⟨_, _, ⟨T22, L22, k22, n22⟩, -, X22, ⟨Lc22, hQ22, l22, y22, z22⟩, st22⟩ := X21.specialBack hx (y := (⟨"com/example/brisk_tableau/brisktableau/ltl/IntStack", "<init>", "()V"⟩ : MethodName)) rfl hown (mvT hZ (hw _ (List.mem_of_getElem? (i := 3) rfl))) (mvT hZ (hw _ (List.mem_of_getElem? (i := 4) rfl))) (mvT hZ (hw _ (List.mem_of_getElem? (i := 5) rfl))) (by decide) (backOf (W := 1) (rm1 l Z a0 hw [] b21 _ h21 n0 Y21 A21 FA FB gg) hZ (hw _ (List.mem_of_getElem? (i := 5) rfl)) (hw _ (List.mem_of_getElem? (i := 2) rfl)) (by decide) (by decide)) (g := (mkF m 25 #[.val (.int p1), .val (.int p2), .val (.int p3), .val (.int p4), .val (.int p5), .val (.int (2 : Int32)), .val (.int (0 : Int32)), .unset, .unset] [(.ref b21), (.ref b21)])) rfl (by rw [hml]; rfl) (Steps.refl _) (a := b21) (argsL := []) (rest := [(.ref b21)]) (lenOf pd_0 rfl) rfl (by show 2 * 0 + _ ≤ _; exact Nat.le_of_eq rfl) (hb hby at_25) (fun _ _ => ⟨rfl, e21, (by decide : 1 + 1 ≤ _), (by decide : 2 + 16 ≤ _)⟩)
      dsimp only [Pt.U, Pt.locs, Pt.cells, Pt.slots] at X22 l22 y22 z22 st22 hQ22
      subst l22 y22 z22
      obtain ⟨rfl, M22, K22, bb, gb, S22⟩ := hQ22
      have N22 := Fr.app N0 M22
      have pre22 : Steps p.tables e below (s₁.setTop (entryFrame m #[(.int p1), (.int p2), (.int p3), (.int p4), (.int p5)] maxLocals)) (T22.setTop (mkF m 28 #[.val (.int p1), .val (.int p2), .val (.int p3), .val (.int p4), .val (.int p5), .val (.int (2 : Int32)), .val (.int (0 : Int32)), .unset, .unset] [(.ref b21)])) := by
        refine pre21.trans ?_
        refine XS.dup X21.here hx rfl (hb hby at_24) rfl rfl ?_
        show Steps p.tables e below (T21.setTop (mkF m 25 #[.val (.int p1), .val (.int p2), .val (.int p3), .val (.int p4), .val (.int p5), .val (.int (2 : Int32)), .val (.int (0 : Int32)), .unset, .unset] [(.ref b21), (.ref b21)])) _
        exact st22
      have Y22 : n0 ≤ T22.heap.size := Nat.le_trans Y21 K22.1
      obtain ⟨cq23, kq23, q23a, q23b, q23c⟩ := isOf hZ rfl S22.1
      obtain ⟨_, _, ⟨T23, L23, k23, n23⟩, -, X23, ⟨Lc23, hQ23, l23, y23, z23⟩, st23⟩ := X22.virtualBack hx (y := (⟨"com/example/brisk_tableau/brisktableau/ltl/IntStack", "isEmpty", "()Z"⟩ : MethodName)) (z := (⟨"com/example/brisk_tableau/brisktableau/ltl/IntStack", "isEmpty", "()Z"⟩ : MethodName)) hown (mvT hZ (hw _ (List.mem_of_getElem? (i := 12) rfl))) (mvT hZ (hw _ (List.mem_of_getElem? (i := 13) rfl))) (notFace_of_selects (args := #[]) (mvT hZ (hw _ (List.mem_of_getElem? (i := 15) rfl)))) (mvT hZ (hw _ (List.mem_of_getElem? (i := 15) rfl))) (mvT hZ (hw _ (List.mem_of_getElem? (i := 14) rfl))) (by decide) (backOf (W := 0) (rm3 l Z a0 hw [] b21 (0 : Int32) bb T22.heap n0 Y22 S22) hZ (hw _ (List.mem_of_getElem? (i := 16) rfl)) (hw _ (List.mem_of_getElem? (i := 2) rfl)) (by decide) (by decide)) q23a q23c (g := (mkF m 32 #[.val (.int p1), .val (.int p2), .val (.int p3), .val (.int p4), .val (.int p5), .val (.int (2 : Int32)), .val (.int (0 : Int32)), .val (.ref b21), .unset] [(.ref b21)])) rfl (by rw [hml]; rfl) (Steps.refl _) (argsL := []) (rest := []) (lenOf pd_1 rfl) rfl (by show 2 * 0 + _ ≤ _; exact Nat.le_of_eq rfl) (hb hby at_32) (fun _ _ => ⟨rfl, rfl, (by decide : 2 + 0 ≤ _), (by decide : 18 + 0 ≤ _)⟩)
      dsimp only [Pt.U, Pt.locs, Pt.cells, Pt.slots] at X23 l23 y23 z23 st23 hQ23
      subst l23 y23 z23
      obtain ⟨rfl, M23, e23⟩ := hQ23
      have N23 := Fr.app N22 M23
      have pre23 : Steps p.tables e below (s₁.setTop (entryFrame m #[(.int p1), (.int p2), (.int p3), (.int p4), (.int p5)] maxLocals)) (T23.setTop (mkF m 35 #[.val (.int p1), .val (.int p2), .val (.int p3), .val (.int p4), .val (.int p5), .val (.int (2 : Int32)), .val (.int (0 : Int32)), .val (.ref b21), .unset] [(.int (own_emp (0 : Int32)))])) := by
        refine pre22.trans ?_
        refine XS.astore X22.here hx rfl (hb hby at_28) rfl rfl (l' := #[.val (.int p1), .val (.int p2), .val (.int p3), .val (.int p4), .val (.int p5), .val (.int (2 : Int32)), .val (.int (0 : Int32)), .val (.ref b21), .unset]) rfl ?_
        show Steps p.tables e below (T22.setTop (mkF m 30 #[.val (.int p1), .val (.int p2), .val (.int p3), .val (.int p4), .val (.int p5), .val (.int (2 : Int32)), .val (.int (0 : Int32)), .val (.ref b21), .unset] [])) _
        refine XS.aload X22.here hx rfl (hb hby at_30) rfl rfl ?_
        show Steps p.tables e below (T22.setTop (mkF m 32 #[.val (.int p1), .val (.int p2), .val (.int p3), .val (.int p4), .val (.int p5), .val (.int (2 : Int32)), .val (.int (0 : Int32)), .val (.ref b21), .unset] [(.ref b21)])) _
        exact st23
      rw [own_e0] at pre23
      obtain ⟨cq24, kq24, q24a, q24b, q24c⟩ := isOf hZ e23 S22.1
      obtain ⟨_, _, ⟨T24, L24, k24, n24⟩, -, X24, ⟨Lc24, hQ24, l24, y24, z24⟩, st24⟩ := X23.virtualBack hx (y := (⟨"com/example/brisk_tableau/brisktableau/ltl/IntStack", "push", "(I)V"⟩ : MethodName)) (z := (⟨"com/example/brisk_tableau/brisktableau/ltl/IntStack", "push", "(I)V"⟩ : MethodName)) hown (mvT hZ (hw _ (List.mem_of_getElem? (i := 19) rfl))) (mvT hZ (hw _ (List.mem_of_getElem? (i := 20) rfl))) (notFace_of_selects (args := #[]) (mvT hZ (hw _ (List.mem_of_getElem? (i := 22) rfl)))) (mvT hZ (hw _ (List.mem_of_getElem? (i := 22) rfl))) (mvT hZ (hw _ (List.mem_of_getElem? (i := 21) rfl))) (by decide) (backOf (W := 0) (rm4 l Z a0 hw [] b21 p3 (0 : Int32) (1 : Int32) bb T22.heap n0 Y22 S22 gg gb (by decide) (by decide)) hZ (hw _ (List.mem_of_getElem? (i := 23) rfl)) (hw _ (List.mem_of_getElem? (i := 2) rfl)) (by decide) (by decide)) q24a q24c (g := (mkF m 46 #[.val (.int p1), .val (.int p2), .val (.int p3), .val (.int p4), .val (.int p5), .val (.int (2 : Int32)), .val (.int (0 : Int32)), .val (.ref b21), .val (.int (1 : Int32))] [(.int p3), (.ref b21)])) rfl (by rw [hml]; rfl) (Steps.refl _) (argsL := [(.int p3)]) (rest := []) (lenOf pd_2 rfl) rfl (by show 2 * 0 + _ ≤ _; exact Nat.le_of_eq rfl) (hb hby at_46) (fun _ _ => ⟨rfl, e23, (by decide : 2 + 0 ≤ _), (by decide : 18 + 0 ≤ _)⟩)
      dsimp only [Pt.U, Pt.locs, Pt.cells, Pt.slots] at X24 l24 y24 z24 st24 hQ24
      subst l24 y24 z24
      obtain ⟨rfl, M24, K24, S24⟩ := hQ24
      have N24 := Fr.app N23 M24
      have pre24 : Steps p.tables e below (s₁.setTop (entryFrame m #[(.int p1), (.int p2), (.int p3), (.int p4), (.int p5)] maxLocals)) (T24.setTop (mkF m 49 #[.val (.int p1), .val (.int p2), .val (.int p3), .val (.int p4), .val (.int p5), .val (.int (2 : Int32)), .val (.int (0 : Int32)), .val (.ref b21), .val (.int (1 : Int32))] [])) := by
        refine pre23.trans ?_
        refine XS.istore X23.here hx rfl (hb hby at_35) rfl (l' := #[.val (.int p1), .val (.int p2), .val (.int p3), .val (.int p4), .val (.int p5), .val (.int (2 : Int32)), .val (.int (0 : Int32)), .val (.ref b21), .val (.int (1 : Int32))]) rfl ?_
        show Steps p.tables e below (T23.setTop (mkF m 37 #[.val (.int p1), .val (.int p2), .val (.int p3), .val (.int p4), .val (.int p5), .val (.int (2 : Int32)), .val (.int (0 : Int32)), .val (.ref b21), .val (.int (1 : Int32))] [])) _
        refine XS.iload X23.here hx rfl (hb hby at_37) rfl ?_
        show Steps p.tables e below (T23.setTop (mkF m 39 #[.val (.int p1), .val (.int p2), .val (.int p3), .val (.int p4), .val (.int p5), .val (.int (2 : Int32)), .val (.int (0 : Int32)), .val (.ref b21), .val (.int (1 : Int32))] [(.int (2 : Int32))])) _
        refine XS.iconst X23.here hx rfl (hb hby at_39) ?_
        show Steps p.tables e below (T23.setTop (mkF m 40 #[.val (.int p1), .val (.int p2), .val (.int p3), .val (.int p4), .val (.int p5), .val (.int (2 : Int32)), .val (.int (0 : Int32)), .val (.ref b21), .val (.int (1 : Int32))] [(.int (1 : Int32)), (.int (2 : Int32))])) _
        refine XS.icmpNo X23.here hx rfl (hb hby at_40) rfl (by decide) ?_
        show Steps p.tables e below (T23.setTop (mkF m 43 #[.val (.int p1), .val (.int p2), .val (.int p3), .val (.int p4), .val (.int p5), .val (.int (2 : Int32)), .val (.int (0 : Int32)), .val (.ref b21), .val (.int (1 : Int32))] [])) _
        refine XS.aload X23.here hx rfl (hb hby at_43) rfl rfl ?_
        show Steps p.tables e below (T23.setTop (mkF m 45 #[.val (.int p1), .val (.int p2), .val (.int p3), .val (.int p4), .val (.int p5), .val (.int (2 : Int32)), .val (.int (0 : Int32)), .val (.ref b21), .val (.int (1 : Int32))] [(.ref b21)])) _
        refine XS.iloadN X23.here hx rfl (hb hby at_45) rfl ?_
        show Steps p.tables e below (T23.setTop (mkF m 46 #[.val (.int p1), .val (.int p2), .val (.int p3), .val (.int p4), .val (.int p5), .val (.int (2 : Int32)), .val (.int (0 : Int32)), .val (.ref b21), .val (.int (1 : Int32))] [(.int p3), (.ref b21)])) _
        exact st24
      have Y24 : n0 ≤ T24.heap.size := Nat.le_trans Y22 K24.1
      obtain ⟨cq25, kq25, q25a, q25b, q25c⟩ := isOf hZ rfl S24.1
      obtain ⟨_, _, ⟨T25, L25, k25, n25⟩, -, X25, ⟨Lc25, hQ25, l25, y25, z25⟩, st25⟩ := X24.virtualBack hx (y := (⟨"com/example/brisk_tableau/brisktableau/ltl/IntStack", "push", "(I)V"⟩ : MethodName)) (z := (⟨"com/example/brisk_tableau/brisktableau/ltl/IntStack", "push", "(I)V"⟩ : MethodName)) hown (mvT hZ (hw _ (List.mem_of_getElem? (i := 19) rfl))) (mvT hZ (hw _ (List.mem_of_getElem? (i := 20) rfl))) (notFace_of_selects (args := #[]) (mvT hZ (hw _ (List.mem_of_getElem? (i := 22) rfl)))) (mvT hZ (hw _ (List.mem_of_getElem? (i := 22) rfl))) (mvT hZ (hw _ (List.mem_of_getElem? (i := 21) rfl))) (by decide) (backOf (W := 0) (rm4 l Z a0 hw [] b21 p4 (1 : Int32) (2 : Int32) bb T24.heap n0 Y24 S24 gg gb (by decide) (by decide)) hZ (hw _ (List.mem_of_getElem? (i := 23) rfl)) (hw _ (List.mem_of_getElem? (i := 2) rfl)) (by decide) (by decide)) q25a q25c (g := (mkF m 58 #[.val (.int p1), .val (.int p2), .val (.int p3), .val (.int p4), .val (.int p5), .val (.int (2 : Int32)), .val (.int (0 : Int32)), .val (.ref b21), .val (.int (1 : Int32))] [(.int p4), (.ref b21)])) rfl (by rw [hml]; rfl) (Steps.refl _) (argsL := [(.int p4)]) (rest := []) (lenOf pd_2 rfl) rfl (by show 2 * 0 + _ ≤ _; exact Nat.le_of_eq rfl) (hb hby at_58) (fun _ _ => ⟨rfl, rfl, (by decide : 2 + 0 ≤ _), (by decide : 18 + 0 ≤ _)⟩)
      dsimp only [Pt.U, Pt.locs, Pt.cells, Pt.slots] at X25 l25 y25 z25 st25 hQ25
      subst l25 y25 z25
      obtain ⟨rfl, M25, K25, S25⟩ := hQ25
      have N25 := Fr.app N24 M25
      have pre25 : Steps p.tables e below (s₁.setTop (entryFrame m #[(.int p1), (.int p2), (.int p3), (.int p4), (.int p5)] maxLocals)) (T25.setTop (mkF m 61 #[.val (.int p1), .val (.int p2), .val (.int p3), .val (.int p4), .val (.int p5), .val (.int (2 : Int32)), .val (.int (0 : Int32)), .val (.ref b21), .val (.int (1 : Int32))] [])) := by
        refine pre24.trans ?_
        refine XS.iload X24.here hx rfl (hb hby at_49) rfl ?_
        show Steps p.tables e below (T24.setTop (mkF m 51 #[.val (.int p1), .val (.int p2), .val (.int p3), .val (.int p4), .val (.int p5), .val (.int (2 : Int32)), .val (.int (0 : Int32)), .val (.ref b21), .val (.int (1 : Int32))] [(.int (2 : Int32))])) _
        refine XS.iconst X24.here hx rfl (hb hby at_51) ?_
        show Steps p.tables e below (T24.setTop (mkF m 52 #[.val (.int p1), .val (.int p2), .val (.int p3), .val (.int p4), .val (.int p5), .val (.int (2 : Int32)), .val (.int (0 : Int32)), .val (.ref b21), .val (.int (1 : Int32))] [(.int (2 : Int32)), (.int (2 : Int32))])) _
        refine XS.icmpNo X24.here hx rfl (hb hby at_52) rfl (by decide) ?_
        show Steps p.tables e below (T24.setTop (mkF m 55 #[.val (.int p1), .val (.int p2), .val (.int p3), .val (.int p4), .val (.int p5), .val (.int (2 : Int32)), .val (.int (0 : Int32)), .val (.ref b21), .val (.int (1 : Int32))] [])) _
        refine XS.aload X24.here hx rfl (hb hby at_55) rfl rfl ?_
        show Steps p.tables e below (T24.setTop (mkF m 57 #[.val (.int p1), .val (.int p2), .val (.int p3), .val (.int p4), .val (.int p5), .val (.int (2 : Int32)), .val (.int (0 : Int32)), .val (.ref b21), .val (.int (1 : Int32))] [(.ref b21)])) _
        refine XS.iloadN X24.here hx rfl (hb hby at_57) rfl ?_
        show Steps p.tables e below (T24.setTop (mkF m 58 #[.val (.int p1), .val (.int p2), .val (.int p3), .val (.int p4), .val (.int p5), .val (.int (2 : Int32)), .val (.int (0 : Int32)), .val (.ref b21), .val (.int (1 : Int32))] [(.int p4), (.ref b21)])) _
        exact st25
      have Y25 : n0 ≤ T25.heap.size := Nat.le_trans Y24 K25.1
      obtain ⟨cq26, kq26, q26a, q26b, q26c⟩ := isOf hZ rfl S25.1
      obtain ⟨_, _, ⟨T26, L26, k26, n26⟩, -, X26, ⟨Lc26, hQ26, l26, y26, z26⟩, st26⟩ := X25.virtualBack hx (y := (⟨"com/example/brisk_tableau/brisktableau/ltl/IntStack", "isEmpty", "()Z"⟩ : MethodName)) (z := (⟨"com/example/brisk_tableau/brisktableau/ltl/IntStack", "isEmpty", "()Z"⟩ : MethodName)) hown (mvT hZ (hw _ (List.mem_of_getElem? (i := 12) rfl))) (mvT hZ (hw _ (List.mem_of_getElem? (i := 13) rfl))) (notFace_of_selects (args := #[]) (mvT hZ (hw _ (List.mem_of_getElem? (i := 15) rfl)))) (mvT hZ (hw _ (List.mem_of_getElem? (i := 15) rfl))) (mvT hZ (hw _ (List.mem_of_getElem? (i := 14) rfl))) (by decide) (backOf (W := 0) (rm3 l Z a0 hw [] b21 (2 : Int32) bb T25.heap n0 Y25 S25) hZ (hw _ (List.mem_of_getElem? (i := 16) rfl)) (hw _ (List.mem_of_getElem? (i := 2) rfl)) (by decide) (by decide)) q26a q26c (g := (mkF m 81 #[.val (.int p1), .val (.int p2), .val (.int p3), .val (.int p4), .val (.int p5), .val (.int (2 : Int32)), .val (.int (0 : Int32)), .val (.ref b21), .val (.int (1 : Int32))] [(.ref b21)])) rfl (by rw [hml]; rfl) (Steps.refl _) (argsL := []) (rest := []) (lenOf pd_1 rfl) rfl (by show 2 * 0 + _ ≤ _; exact Nat.le_of_eq rfl) (hb hby at_81) (fun _ _ => ⟨rfl, rfl, (by decide : 2 + 0 ≤ _), (by decide : 18 + 0 ≤ _)⟩)
      dsimp only [Pt.U, Pt.locs, Pt.cells, Pt.slots] at X26 l26 y26 z26 st26 hQ26
      subst l26 y26 z26
      obtain ⟨rfl, M26, e26⟩ := hQ26
      have N26 := Fr.app N25 M26
      have pre26 : Steps p.tables e below (s₁.setTop (entryFrame m #[(.int p1), (.int p2), (.int p3), (.int p4), (.int p5)] maxLocals)) (T26.setTop (mkF m 84 #[.val (.int p1), .val (.int p2), .val (.int p3), .val (.int p4), .val (.int p5), .val (.int (2 : Int32)), .val (.int (0 : Int32)), .val (.ref b21), .val (.int (1 : Int32))] [(.int (own_emp (2 : Int32)))])) := by
        refine pre25.trans ?_
        refine XS.iload X25.here hx rfl (hb hby at_61) rfl ?_
        show Steps p.tables e below (T25.setTop (mkF m 63 #[.val (.int p1), .val (.int p2), .val (.int p3), .val (.int p4), .val (.int p5), .val (.int (2 : Int32)), .val (.int (0 : Int32)), .val (.ref b21), .val (.int (1 : Int32))] [(.int (2 : Int32))])) _
        refine XS.iconst X25.here hx rfl (hb hby at_63) ?_
        show Steps p.tables e below (T25.setTop (mkF m 64 #[.val (.int p1), .val (.int p2), .val (.int p3), .val (.int p4), .val (.int p5), .val (.int (2 : Int32)), .val (.int (0 : Int32)), .val (.ref b21), .val (.int (1 : Int32))] [(.int (3 : Int32)), (.int (2 : Int32))])) _
        refine XS.icmpYes X25.here hx rfl (pc0 := 64) (pc' := 74) rfl (hb hby at_64) rfl (by decide) (by decide) (by decide) ?_
        show Steps p.tables e below (T25.setTop (mkF m 74 #[.val (.int p1), .val (.int p2), .val (.int p3), .val (.int p4), .val (.int p5), .val (.int (2 : Int32)), .val (.int (0 : Int32)), .val (.ref b21), .val (.int (1 : Int32))] [])) _
        refine XS.iload X25.here hx rfl (hb hby at_74) rfl ?_
        show Steps p.tables e below (T25.setTop (mkF m 76 #[.val (.int p1), .val (.int p2), .val (.int p3), .val (.int p4), .val (.int p5), .val (.int (2 : Int32)), .val (.int (0 : Int32)), .val (.ref b21), .val (.int (1 : Int32))] [(.int (1 : Int32))])) _
        refine XS.ifNo X25.here hx rfl (hb hby at_76) rfl (by decide) ?_
        show Steps p.tables e below (T25.setTop (mkF m 79 #[.val (.int p1), .val (.int p2), .val (.int p3), .val (.int p4), .val (.int p5), .val (.int (2 : Int32)), .val (.int (0 : Int32)), .val (.ref b21), .val (.int (1 : Int32))] [])) _
        refine XS.aload X25.here hx rfl (hb hby at_79) rfl rfl ?_
        show Steps p.tables e below (T25.setTop (mkF m 81 #[.val (.int p1), .val (.int p2), .val (.int p3), .val (.int p4), .val (.int p5), .val (.int (2 : Int32)), .val (.int (0 : Int32)), .val (.ref b21), .val (.int (1 : Int32))] [(.ref b21)])) _
        exact st26
      rw [own_e2] at pre26
      obtain ⟨cq27, kq27, q27a, q27b, q27c⟩ := isOf hZ e26 S25.1
      obtain ⟨_, _, ⟨T27, L27, k27, n27⟩, -, X27, ⟨Lc27, hQ27, l27, y27, z27⟩, st27⟩ := X26.virtualBack hx (y := (⟨"com/example/brisk_tableau/brisktableau/ltl/IntStack", "isEmpty", "()Z"⟩ : MethodName)) (z := (⟨"com/example/brisk_tableau/brisktableau/ltl/IntStack", "isEmpty", "()Z"⟩ : MethodName)) hown (mvT hZ (hw _ (List.mem_of_getElem? (i := 12) rfl))) (mvT hZ (hw _ (List.mem_of_getElem? (i := 13) rfl))) (notFace_of_selects (args := #[]) (mvT hZ (hw _ (List.mem_of_getElem? (i := 15) rfl)))) (mvT hZ (hw _ (List.mem_of_getElem? (i := 15) rfl))) (mvT hZ (hw _ (List.mem_of_getElem? (i := 14) rfl))) (by decide) (backOf (W := 0) (rm3 l Z a0 hw [] b21 (2 : Int32) bb T25.heap n0 Y25 S25) hZ (hw _ (List.mem_of_getElem? (i := 16) rfl)) (hw _ (List.mem_of_getElem? (i := 2) rfl)) (by decide) (by decide)) q27a q27c (g := (mkF m 147 #[.val (.int p1), .val (.int p2), .val (.int p3), .val (.int p4), .val (.int p5), .val (.int (2 : Int32)), .val (.int (0 : Int32)), .val (.ref b21), .val (.int (1 : Int32))] [(.ref b21)])) rfl (by rw [hml]; rfl) (Steps.refl _) (argsL := []) (rest := []) (lenOf pd_1 rfl) rfl (by show 2 * 0 + _ ≤ _; exact Nat.le_of_eq rfl) (hb hby at_147) (fun _ _ => ⟨rfl, e26, (by decide : 2 + 0 ≤ _), (by decide : 18 + 0 ≤ _)⟩)
      dsimp only [Pt.U, Pt.locs, Pt.cells, Pt.slots] at X27 l27 y27 z27 st27 hQ27
      subst l27 y27 z27
      obtain ⟨rfl, M27, e27⟩ := hQ27
      have N27 := Fr.app N26 M27
      have pre27 : Steps p.tables e below (s₁.setTop (entryFrame m #[(.int p1), (.int p2), (.int p3), (.int p4), (.int p5)] maxLocals)) (T27.setTop (mkF m 150 #[.val (.int p1), .val (.int p2), .val (.int p3), .val (.int p4), .val (.int p5), .val (.int (2 : Int32)), .val (.int (0 : Int32)), .val (.ref b21), .val (.int (1 : Int32))] [(.int (own_emp (2 : Int32)))])) := by
        refine pre26.trans ?_
        refine XS.iload X26.here hx rfl (hb hby at_84) rfl ?_
        show Steps p.tables e below (T26.setTop (mkF m 86 #[.val (.int p1), .val (.int p2), .val (.int p3), .val (.int p4), .val (.int p5), .val (.int (2 : Int32)), .val (.int (0 : Int32)), .val (.ref b21), .val (.int (1 : Int32))] [(.int (2 : Int32)), (.int (0 : Int32))])) _
        refine XS.ifYes X26.here hx rfl (pc0 := 86) (pc' := 93) rfl (hb hby at_86) rfl (by decide) (by decide) (by decide) ?_
        show Steps p.tables e below (T26.setTop (mkF m 93 #[.val (.int p1), .val (.int p2), .val (.int p3), .val (.int p4), .val (.int p5), .val (.int (2 : Int32)), .val (.int (0 : Int32)), .val (.ref b21), .val (.int (1 : Int32))] [(.int (0 : Int32))])) _
        refine XS.iconst X26.here hx rfl (hb hby at_93) ?_
        show Steps p.tables e below (T26.setTop (mkF m 94 #[.val (.int p1), .val (.int p2), .val (.int p3), .val (.int p4), .val (.int p5), .val (.int (2 : Int32)), .val (.int (0 : Int32)), .val (.ref b21), .val (.int (1 : Int32))] [(.int (0 : Int32)), (.int (0 : Int32))])) _
        refine XS.icmpNo X26.here hx rfl (hb hby at_94) rfl (by decide) ?_
        show Steps p.tables e below (T26.setTop (mkF m 97 #[.val (.int p1), .val (.int p2), .val (.int p3), .val (.int p4), .val (.int p5), .val (.int (2 : Int32)), .val (.int (0 : Int32)), .val (.ref b21), .val (.int (1 : Int32))] [])) _
        refine XS.iconst X26.here hx rfl (hb hby at_97) ?_
        show Steps p.tables e below (T26.setTop (mkF m 98 #[.val (.int p1), .val (.int p2), .val (.int p3), .val (.int p4), .val (.int p5), .val (.int (2 : Int32)), .val (.int (0 : Int32)), .val (.ref b21), .val (.int (1 : Int32))] [(.int (1 : Int32))])) _
        refine XS.goto X26.here hx rfl (pc0 := 98) (pc' := 102) rfl (hb hby at_98) (by decide) (by decide) ?_
        show Steps p.tables e below (T26.setTop (mkF m 102 #[.val (.int p1), .val (.int p2), .val (.int p3), .val (.int p4), .val (.int p5), .val (.int (2 : Int32)), .val (.int (0 : Int32)), .val (.ref b21), .val (.int (1 : Int32))] [(.int (1 : Int32))])) _
        refine XS.istore X26.here hx rfl (hb hby at_102) rfl (l' := #[.val (.int p1), .val (.int p2), .val (.int p3), .val (.int p4), .val (.int p5), .val (.int (2 : Int32)), .val (.int (0 : Int32)), .val (.ref b21), .val (.int (1 : Int32))]) rfl ?_
        show Steps p.tables e below (T26.setTop (mkF m 104 #[.val (.int p1), .val (.int p2), .val (.int p3), .val (.int p4), .val (.int p5), .val (.int (2 : Int32)), .val (.int (0 : Int32)), .val (.ref b21), .val (.int (1 : Int32))] [])) _
        refine XS.iload X26.here hx rfl (hb hby at_104) rfl ?_
        show Steps p.tables e below (T26.setTop (mkF m 106 #[.val (.int p1), .val (.int p2), .val (.int p3), .val (.int p4), .val (.int p5), .val (.int (2 : Int32)), .val (.int (0 : Int32)), .val (.ref b21), .val (.int (1 : Int32))] [(.int (0 : Int32))])) _
        refine XS.iconst X26.here hx rfl (hb hby at_106) ?_
        show Steps p.tables e below (T26.setTop (mkF m 107 #[.val (.int p1), .val (.int p2), .val (.int p3), .val (.int p4), .val (.int p5), .val (.int (2 : Int32)), .val (.int (0 : Int32)), .val (.ref b21), .val (.int (1 : Int32))] [(.int (1 : Int32)), (.int (0 : Int32))])) _
        refine XS.icmpYes X26.here hx rfl (pc0 := 107) (pc' := 116) rfl (hb hby at_107) rfl (by decide) (by decide) (by decide) ?_
        show Steps p.tables e below (T26.setTop (mkF m 116 #[.val (.int p1), .val (.int p2), .val (.int p3), .val (.int p4), .val (.int p5), .val (.int (2 : Int32)), .val (.int (0 : Int32)), .val (.ref b21), .val (.int (1 : Int32))] [])) _
        refine XS.iload X26.here hx rfl (hb hby at_116) rfl ?_
        show Steps p.tables e below (T26.setTop (mkF m 118 #[.val (.int p1), .val (.int p2), .val (.int p3), .val (.int p4), .val (.int p5), .val (.int (2 : Int32)), .val (.int (0 : Int32)), .val (.ref b21), .val (.int (1 : Int32))] [(.int (0 : Int32))])) _
        refine XS.iconst X26.here hx rfl (hb hby at_118) ?_
        show Steps p.tables e below (T26.setTop (mkF m 119 #[.val (.int p1), .val (.int p2), .val (.int p3), .val (.int p4), .val (.int p5), .val (.int (2 : Int32)), .val (.int (0 : Int32)), .val (.ref b21), .val (.int (1 : Int32))] [(.int (2 : Int32)), (.int (0 : Int32))])) _
        refine XS.icmpYes X26.here hx rfl (pc0 := 119) (pc' := 128) rfl (hb hby at_119) rfl (by decide) (by decide) (by decide) ?_
        show Steps p.tables e below (T26.setTop (mkF m 128 #[.val (.int p1), .val (.int p2), .val (.int p3), .val (.int p4), .val (.int p5), .val (.int (2 : Int32)), .val (.int (0 : Int32)), .val (.ref b21), .val (.int (1 : Int32))] [])) _
        refine XS.iload X26.here hx rfl (hb hby at_128) rfl ?_
        show Steps p.tables e below (T26.setTop (mkF m 130 #[.val (.int p1), .val (.int p2), .val (.int p3), .val (.int p4), .val (.int p5), .val (.int (2 : Int32)), .val (.int (0 : Int32)), .val (.ref b21), .val (.int (1 : Int32))] [(.int (0 : Int32))])) _
        refine XS.iconst X26.here hx rfl (hb hby at_130) ?_
        show Steps p.tables e below (T26.setTop (mkF m 131 #[.val (.int p1), .val (.int p2), .val (.int p3), .val (.int p4), .val (.int p5), .val (.int (2 : Int32)), .val (.int (0 : Int32)), .val (.ref b21), .val (.int (1 : Int32))] [(.int (3 : Int32)), (.int (0 : Int32))])) _
        refine XS.icmpYes X26.here hx rfl (pc0 := 131) (pc' := 140) rfl (hb hby at_131) rfl (by decide) (by decide) (by decide) ?_
        show Steps p.tables e below (T26.setTop (mkF m 140 #[.val (.int p1), .val (.int p2), .val (.int p3), .val (.int p4), .val (.int p5), .val (.int (2 : Int32)), .val (.int (0 : Int32)), .val (.ref b21), .val (.int (1 : Int32))] [])) _
        refine XS.iload X26.here hx rfl (hb hby at_140) rfl ?_
        show Steps p.tables e below (T26.setTop (mkF m 142 #[.val (.int p1), .val (.int p2), .val (.int p3), .val (.int p4), .val (.int p5), .val (.int (2 : Int32)), .val (.int (0 : Int32)), .val (.ref b21), .val (.int (1 : Int32))] [(.int (1 : Int32))])) _
        refine XS.ifNo X26.here hx rfl (hb hby at_142) rfl (by decide) ?_
        show Steps p.tables e below (T26.setTop (mkF m 145 #[.val (.int p1), .val (.int p2), .val (.int p3), .val (.int p4), .val (.int p5), .val (.int (2 : Int32)), .val (.int (0 : Int32)), .val (.ref b21), .val (.int (1 : Int32))] [])) _
        refine XS.aload X26.here hx rfl (hb hby at_145) rfl rfl ?_
        show Steps p.tables e below (T26.setTop (mkF m 147 #[.val (.int p1), .val (.int p2), .val (.int p3), .val (.int p4), .val (.int p5), .val (.int (2 : Int32)), .val (.int (0 : Int32)), .val (.ref b21), .val (.int (1 : Int32))] [(.ref b21)])) _
        exact st27
      rw [own_e2] at pre27
      obtain ⟨fs, hr, hrun, hended, hW, hsame⟩ := X27.leave (v := some (.int (1 : Int32))) (fun h => by rw [Bd.returns] at h; cases h)
      refine ⟨_, _, pre27.trans ?_, hrun, hended, _, _, rfl, ?_, ⟨_, rfl⟩, hW, hsame.mono (by decide) (by decide)⟩
      · skip
        refine XS.iload X27.here hx rfl (hb hby at_150) rfl ?_
        show Steps p.tables e below (T27.setTop (mkF m 152 #[.val (.int p1), .val (.int p2), .val (.int p3), .val (.int p4), .val (.int p5), .val (.int (2 : Int32)), .val (.int (0 : Int32)), .val (.ref b21), .val (.int (1 : Int32))] [(.int (2 : Int32)), (.int (0 : Int32))])) _
        refine XS.iload X27.here hx rfl (hb hby at_152) rfl ?_
        show Steps p.tables e below (T27.setTop (mkF m 154 #[.val (.int p1), .val (.int p2), .val (.int p3), .val (.int p4), .val (.int p5), .val (.int (2 : Int32)), .val (.int (0 : Int32)), .val (.ref b21), .val (.int (1 : Int32))] [(.int (0 : Int32)), (.int (2 : Int32)), (.int (0 : Int32))])) _
        refine XS.icmpYes X27.here hx rfl (pc0 := 154) (pc' := 161) rfl (hb hby at_154) rfl (by decide) (by decide) (by decide) ?_
        show Steps p.tables e below (T27.setTop (mkF m 161 #[.val (.int p1), .val (.int p2), .val (.int p3), .val (.int p4), .val (.int p5), .val (.int (2 : Int32)), .val (.int (0 : Int32)), .val (.ref b21), .val (.int (1 : Int32))] [(.int (0 : Int32))])) _
        refine XS.iconst X27.here hx rfl (hb hby at_161) ?_
        show Steps p.tables e below (T27.setTop (mkF m 162 #[.val (.int p1), .val (.int p2), .val (.int p3), .val (.int p4), .val (.int p5), .val (.int (2 : Int32)), .val (.int (0 : Int32)), .val (.ref b21), .val (.int (1 : Int32))] [(.int (0 : Int32)), (.int (0 : Int32))])) _
        refine XS.icmpNo X27.here hx rfl (hb hby at_162) rfl (by decide) ?_
        show Steps p.tables e below (T27.setTop (mkF m 165 #[.val (.int p1), .val (.int p2), .val (.int p3), .val (.int p4), .val (.int p5), .val (.int (2 : Int32)), .val (.int (0 : Int32)), .val (.ref b21), .val (.int (1 : Int32))] [])) _
        refine XS.iconst X27.here hx rfl (hb hby at_165) ?_
        show Steps p.tables e below (T27.setTop (mkF m 166 #[.val (.int p1), .val (.int p2), .val (.int p3), .val (.int p4), .val (.int p5), .val (.int (2 : Int32)), .val (.int (0 : Int32)), .val (.ref b21), .val (.int (1 : Int32))] [(.int (1 : Int32))])) _
        refine XS.goto X27.here hx rfl (pc0 := 166) (pc' := 170) rfl (hb hby at_166) (by decide) (by decide) ?_
        show Steps p.tables e below (T27.setTop (mkF m 170 #[.val (.int p1), .val (.int p2), .val (.int p3), .val (.int p4), .val (.int p5), .val (.int (2 : Int32)), .val (.int (0 : Int32)), .val (.ref b21), .val (.int (1 : Int32))] [(.int (1 : Int32))])) _
        exact retN X27 hx (t := .boolean) Bd.returns (by simp) (hb hby at_170) hr
      · show Q0 Z p1 p2 p3 p4 p5  h0 n0 _ T27.heap _
        rw [e27]
        exact ⟨rfl, N27⟩
    · skip
      obtain ⟨T28, h28, X28, e28, E28, A28, D28, -, st28⟩ := newO X0 hx hZ hown (hw _ (List.mem_of_getElem? (i := 0) rfl)) (hw _ (List.mem_of_getElem? (i := 1) rfl)) (hw _ (List.mem_of_getElem? (i := 2) rfl)) e0 (g := (mkF m 21 #[.val (.int p1), .val (.int p2), .val (.int p3), .val (.int p4), .val (.int p5), .val (.int (2 : Int32)), .val (.int (1 : Int32)), .unset, .unset] [])) rfl (hb hby at_21) (by decide) (by decide)
      obtain ⟨b28, g28⟩ : ∃ z, z = h0.size := ⟨_, rfl⟩
      rw [← g28] at A28 D28 st28
      have pre28 : Steps p.tables e below (s₁.setTop (entryFrame m #[(.int p1), (.int p2), (.int p3), (.int p4), (.int p5)] maxLocals)) (T28.setTop (mkF m 24 #[.val (.int p1), .val (.int p2), .val (.int p3), .val (.int p4), .val (.int p5), .val (.int (2 : Int32)), .val (.int (1 : Int32)), .unset, .unset] [(.ref b28)])) := by
        refine pre2.trans ?_
        exact st28 _ (Steps.refl _)
      have gg : n0 ≤ b28 := Nat.le_trans Z0 (Nat.le_of_eq g28.symm)
      have Y28 : n0 ≤ h28.size := Nat.le_trans Z0 E28.1
      have FA := D28 (Or.inl (hw _ (List.mem_of_getElem? (i := 18) rfl))) (ty := .int) (by decide)
      have FB := D28 (Or.inl (hw _ (List.mem_of_getElem? (i := 11) rfl))) (ty := (.array .int)) (by decide)
      obtain ⟨_, _, ⟨T29, L29, k29, n29⟩, -, X29, ⟨Lc29, hQ29, l29, y29, z29⟩, st29⟩ := X28.specialBack hx (y := (⟨"com/example/brisk_tableau/brisktableau/ltl/IntStack", "<init>", "()V"⟩ : MethodName)) rfl hown (mvT hZ (hw _ (List.mem_of_getElem? (i := 3) rfl))) (mvT hZ (hw _ (List.mem_of_getElem? (i := 4) rfl))) (mvT hZ (hw _ (List.mem_of_getElem? (i := 5) rfl))) (by decide) (backOf (W := 1) (rm1 l Z a0 hw [] b28 _ h28 n0 Y28 A28 FA FB gg) hZ (hw _ (List.mem_of_getElem? (i := 5) rfl)) (hw _ (List.mem_of_getElem? (i := 2) rfl)) (by decide) (by decide)) (g := (mkF m 25 #[.val (.int p1), .val (.int p2), .val (.int p3), .val (.int p4), .val (.int p5), .val (.int (2 : Int32)), .val (.int (1 : Int32)), .unset, .unset] [(.ref b28), (.ref b28)])) rfl (by rw [hml]; rfl) (Steps.refl _) (a := b28) (argsL := []) (rest := [(.ref b28)]) (lenOf pd_0 rfl) rfl (by show 2 * 0 + _ ≤ _; exact Nat.le_of_eq rfl) (hb hby at_25) (fun _ _ => ⟨rfl, e28, (by decide : 1 + 1 ≤ _), (by decide : 2 + 16 ≤ _)⟩)
      dsimp only [Pt.U, Pt.locs, Pt.cells, Pt.slots] at X29 l29 y29 z29 st29 hQ29
      subst l29 y29 z29
      obtain ⟨rfl, M29, K29, bb, gb, S29⟩ := hQ29
      have N29 := Fr.app N0 M29
      have pre29 : Steps p.tables e below (s₁.setTop (entryFrame m #[(.int p1), (.int p2), (.int p3), (.int p4), (.int p5)] maxLocals)) (T29.setTop (mkF m 28 #[.val (.int p1), .val (.int p2), .val (.int p3), .val (.int p4), .val (.int p5), .val (.int (2 : Int32)), .val (.int (1 : Int32)), .unset, .unset] [(.ref b28)])) := by
        refine pre28.trans ?_
        refine XS.dup X28.here hx rfl (hb hby at_24) rfl rfl ?_
        show Steps p.tables e below (T28.setTop (mkF m 25 #[.val (.int p1), .val (.int p2), .val (.int p3), .val (.int p4), .val (.int p5), .val (.int (2 : Int32)), .val (.int (1 : Int32)), .unset, .unset] [(.ref b28), (.ref b28)])) _
        exact st29
      have Y29 : n0 ≤ T29.heap.size := Nat.le_trans Y28 K29.1
      obtain ⟨cq30, kq30, q30a, q30b, q30c⟩ := isOf hZ rfl S29.1
      obtain ⟨_, _, ⟨T30, L30, k30, n30⟩, -, X30, ⟨Lc30, hQ30, l30, y30, z30⟩, st30⟩ := X29.virtualBack hx (y := (⟨"com/example/brisk_tableau/brisktableau/ltl/IntStack", "isEmpty", "()Z"⟩ : MethodName)) (z := (⟨"com/example/brisk_tableau/brisktableau/ltl/IntStack", "isEmpty", "()Z"⟩ : MethodName)) hown (mvT hZ (hw _ (List.mem_of_getElem? (i := 12) rfl))) (mvT hZ (hw _ (List.mem_of_getElem? (i := 13) rfl))) (notFace_of_selects (args := #[]) (mvT hZ (hw _ (List.mem_of_getElem? (i := 15) rfl)))) (mvT hZ (hw _ (List.mem_of_getElem? (i := 15) rfl))) (mvT hZ (hw _ (List.mem_of_getElem? (i := 14) rfl))) (by decide) (backOf (W := 0) (rm3 l Z a0 hw [] b28 (0 : Int32) bb T29.heap n0 Y29 S29) hZ (hw _ (List.mem_of_getElem? (i := 16) rfl)) (hw _ (List.mem_of_getElem? (i := 2) rfl)) (by decide) (by decide)) q30a q30c (g := (mkF m 32 #[.val (.int p1), .val (.int p2), .val (.int p3), .val (.int p4), .val (.int p5), .val (.int (2 : Int32)), .val (.int (1 : Int32)), .val (.ref b28), .unset] [(.ref b28)])) rfl (by rw [hml]; rfl) (Steps.refl _) (argsL := []) (rest := []) (lenOf pd_1 rfl) rfl (by show 2 * 0 + _ ≤ _; exact Nat.le_of_eq rfl) (hb hby at_32) (fun _ _ => ⟨rfl, rfl, (by decide : 2 + 0 ≤ _), (by decide : 18 + 0 ≤ _)⟩)
      dsimp only [Pt.U, Pt.locs, Pt.cells, Pt.slots] at X30 l30 y30 z30 st30 hQ30
      subst l30 y30 z30
      obtain ⟨rfl, M30, e30⟩ := hQ30
      have N30 := Fr.app N29 M30
      have pre30 : Steps p.tables e below (s₁.setTop (entryFrame m #[(.int p1), (.int p2), (.int p3), (.int p4), (.int p5)] maxLocals)) (T30.setTop (mkF m 35 #[.val (.int p1), .val (.int p2), .val (.int p3), .val (.int p4), .val (.int p5), .val (.int (2 : Int32)), .val (.int (1 : Int32)), .val (.ref b28), .unset] [(.int (own_emp (0 : Int32)))])) := by
        refine pre29.trans ?_
        refine XS.astore X29.here hx rfl (hb hby at_28) rfl rfl (l' := #[.val (.int p1), .val (.int p2), .val (.int p3), .val (.int p4), .val (.int p5), .val (.int (2 : Int32)), .val (.int (1 : Int32)), .val (.ref b28), .unset]) rfl ?_
        show Steps p.tables e below (T29.setTop (mkF m 30 #[.val (.int p1), .val (.int p2), .val (.int p3), .val (.int p4), .val (.int p5), .val (.int (2 : Int32)), .val (.int (1 : Int32)), .val (.ref b28), .unset] [])) _
        refine XS.aload X29.here hx rfl (hb hby at_30) rfl rfl ?_
        show Steps p.tables e below (T29.setTop (mkF m 32 #[.val (.int p1), .val (.int p2), .val (.int p3), .val (.int p4), .val (.int p5), .val (.int (2 : Int32)), .val (.int (1 : Int32)), .val (.ref b28), .unset] [(.ref b28)])) _
        exact st30
      rw [own_e0] at pre30
      obtain ⟨cq31, kq31, q31a, q31b, q31c⟩ := isOf hZ e30 S29.1
      obtain ⟨_, _, ⟨T31, L31, k31, n31⟩, -, X31, ⟨Lc31, hQ31, l31, y31, z31⟩, st31⟩ := X30.virtualBack hx (y := (⟨"com/example/brisk_tableau/brisktableau/ltl/IntStack", "push", "(I)V"⟩ : MethodName)) (z := (⟨"com/example/brisk_tableau/brisktableau/ltl/IntStack", "push", "(I)V"⟩ : MethodName)) hown (mvT hZ (hw _ (List.mem_of_getElem? (i := 19) rfl))) (mvT hZ (hw _ (List.mem_of_getElem? (i := 20) rfl))) (notFace_of_selects (args := #[]) (mvT hZ (hw _ (List.mem_of_getElem? (i := 22) rfl)))) (mvT hZ (hw _ (List.mem_of_getElem? (i := 22) rfl))) (mvT hZ (hw _ (List.mem_of_getElem? (i := 21) rfl))) (by decide) (backOf (W := 0) (rm4 l Z a0 hw [] b28 p3 (0 : Int32) (1 : Int32) bb T29.heap n0 Y29 S29 gg gb (by decide) (by decide)) hZ (hw _ (List.mem_of_getElem? (i := 23) rfl)) (hw _ (List.mem_of_getElem? (i := 2) rfl)) (by decide) (by decide)) q31a q31c (g := (mkF m 46 #[.val (.int p1), .val (.int p2), .val (.int p3), .val (.int p4), .val (.int p5), .val (.int (2 : Int32)), .val (.int (1 : Int32)), .val (.ref b28), .val (.int (1 : Int32))] [(.int p3), (.ref b28)])) rfl (by rw [hml]; rfl) (Steps.refl _) (argsL := [(.int p3)]) (rest := []) (lenOf pd_2 rfl) rfl (by show 2 * 0 + _ ≤ _; exact Nat.le_of_eq rfl) (hb hby at_46) (fun _ _ => ⟨rfl, e30, (by decide : 2 + 0 ≤ _), (by decide : 18 + 0 ≤ _)⟩)
      dsimp only [Pt.U, Pt.locs, Pt.cells, Pt.slots] at X31 l31 y31 z31 st31 hQ31
      subst l31 y31 z31
      obtain ⟨rfl, M31, K31, S31⟩ := hQ31
      have N31 := Fr.app N30 M31
      have pre31 : Steps p.tables e below (s₁.setTop (entryFrame m #[(.int p1), (.int p2), (.int p3), (.int p4), (.int p5)] maxLocals)) (T31.setTop (mkF m 49 #[.val (.int p1), .val (.int p2), .val (.int p3), .val (.int p4), .val (.int p5), .val (.int (2 : Int32)), .val (.int (1 : Int32)), .val (.ref b28), .val (.int (1 : Int32))] [])) := by
        refine pre30.trans ?_
        refine XS.istore X30.here hx rfl (hb hby at_35) rfl (l' := #[.val (.int p1), .val (.int p2), .val (.int p3), .val (.int p4), .val (.int p5), .val (.int (2 : Int32)), .val (.int (1 : Int32)), .val (.ref b28), .val (.int (1 : Int32))]) rfl ?_
        show Steps p.tables e below (T30.setTop (mkF m 37 #[.val (.int p1), .val (.int p2), .val (.int p3), .val (.int p4), .val (.int p5), .val (.int (2 : Int32)), .val (.int (1 : Int32)), .val (.ref b28), .val (.int (1 : Int32))] [])) _
        refine XS.iload X30.here hx rfl (hb hby at_37) rfl ?_
        show Steps p.tables e below (T30.setTop (mkF m 39 #[.val (.int p1), .val (.int p2), .val (.int p3), .val (.int p4), .val (.int p5), .val (.int (2 : Int32)), .val (.int (1 : Int32)), .val (.ref b28), .val (.int (1 : Int32))] [(.int (2 : Int32))])) _
        refine XS.iconst X30.here hx rfl (hb hby at_39) ?_
        show Steps p.tables e below (T30.setTop (mkF m 40 #[.val (.int p1), .val (.int p2), .val (.int p3), .val (.int p4), .val (.int p5), .val (.int (2 : Int32)), .val (.int (1 : Int32)), .val (.ref b28), .val (.int (1 : Int32))] [(.int (1 : Int32)), (.int (2 : Int32))])) _
        refine XS.icmpNo X30.here hx rfl (hb hby at_40) rfl (by decide) ?_
        show Steps p.tables e below (T30.setTop (mkF m 43 #[.val (.int p1), .val (.int p2), .val (.int p3), .val (.int p4), .val (.int p5), .val (.int (2 : Int32)), .val (.int (1 : Int32)), .val (.ref b28), .val (.int (1 : Int32))] [])) _
        refine XS.aload X30.here hx rfl (hb hby at_43) rfl rfl ?_
        show Steps p.tables e below (T30.setTop (mkF m 45 #[.val (.int p1), .val (.int p2), .val (.int p3), .val (.int p4), .val (.int p5), .val (.int (2 : Int32)), .val (.int (1 : Int32)), .val (.ref b28), .val (.int (1 : Int32))] [(.ref b28)])) _
        refine XS.iloadN X30.here hx rfl (hb hby at_45) rfl ?_
        show Steps p.tables e below (T30.setTop (mkF m 46 #[.val (.int p1), .val (.int p2), .val (.int p3), .val (.int p4), .val (.int p5), .val (.int (2 : Int32)), .val (.int (1 : Int32)), .val (.ref b28), .val (.int (1 : Int32))] [(.int p3), (.ref b28)])) _
        exact st31
      have Y31 : n0 ≤ T31.heap.size := Nat.le_trans Y29 K31.1
      obtain ⟨cq32, kq32, q32a, q32b, q32c⟩ := isOf hZ rfl S31.1
      obtain ⟨_, _, ⟨T32, L32, k32, n32⟩, -, X32, ⟨Lc32, hQ32, l32, y32, z32⟩, st32⟩ := X31.virtualBack hx (y := (⟨"com/example/brisk_tableau/brisktableau/ltl/IntStack", "push", "(I)V"⟩ : MethodName)) (z := (⟨"com/example/brisk_tableau/brisktableau/ltl/IntStack", "push", "(I)V"⟩ : MethodName)) hown (mvT hZ (hw _ (List.mem_of_getElem? (i := 19) rfl))) (mvT hZ (hw _ (List.mem_of_getElem? (i := 20) rfl))) (notFace_of_selects (args := #[]) (mvT hZ (hw _ (List.mem_of_getElem? (i := 22) rfl)))) (mvT hZ (hw _ (List.mem_of_getElem? (i := 22) rfl))) (mvT hZ (hw _ (List.mem_of_getElem? (i := 21) rfl))) (by decide) (backOf (W := 0) (rm4 l Z a0 hw [] b28 p4 (1 : Int32) (2 : Int32) bb T31.heap n0 Y31 S31 gg gb (by decide) (by decide)) hZ (hw _ (List.mem_of_getElem? (i := 23) rfl)) (hw _ (List.mem_of_getElem? (i := 2) rfl)) (by decide) (by decide)) q32a q32c (g := (mkF m 58 #[.val (.int p1), .val (.int p2), .val (.int p3), .val (.int p4), .val (.int p5), .val (.int (2 : Int32)), .val (.int (1 : Int32)), .val (.ref b28), .val (.int (1 : Int32))] [(.int p4), (.ref b28)])) rfl (by rw [hml]; rfl) (Steps.refl _) (argsL := [(.int p4)]) (rest := []) (lenOf pd_2 rfl) rfl (by show 2 * 0 + _ ≤ _; exact Nat.le_of_eq rfl) (hb hby at_58) (fun _ _ => ⟨rfl, rfl, (by decide : 2 + 0 ≤ _), (by decide : 18 + 0 ≤ _)⟩)
      dsimp only [Pt.U, Pt.locs, Pt.cells, Pt.slots] at X32 l32 y32 z32 st32 hQ32
      subst l32 y32 z32
      obtain ⟨rfl, M32, K32, S32⟩ := hQ32
      have N32 := Fr.app N31 M32
      have pre32 : Steps p.tables e below (s₁.setTop (entryFrame m #[(.int p1), (.int p2), (.int p3), (.int p4), (.int p5)] maxLocals)) (T32.setTop (mkF m 61 #[.val (.int p1), .val (.int p2), .val (.int p3), .val (.int p4), .val (.int p5), .val (.int (2 : Int32)), .val (.int (1 : Int32)), .val (.ref b28), .val (.int (1 : Int32))] [])) := by
        refine pre31.trans ?_
        refine XS.iload X31.here hx rfl (hb hby at_49) rfl ?_
        show Steps p.tables e below (T31.setTop (mkF m 51 #[.val (.int p1), .val (.int p2), .val (.int p3), .val (.int p4), .val (.int p5), .val (.int (2 : Int32)), .val (.int (1 : Int32)), .val (.ref b28), .val (.int (1 : Int32))] [(.int (2 : Int32))])) _
        refine XS.iconst X31.here hx rfl (hb hby at_51) ?_
        show Steps p.tables e below (T31.setTop (mkF m 52 #[.val (.int p1), .val (.int p2), .val (.int p3), .val (.int p4), .val (.int p5), .val (.int (2 : Int32)), .val (.int (1 : Int32)), .val (.ref b28), .val (.int (1 : Int32))] [(.int (2 : Int32)), (.int (2 : Int32))])) _
        refine XS.icmpNo X31.here hx rfl (hb hby at_52) rfl (by decide) ?_
        show Steps p.tables e below (T31.setTop (mkF m 55 #[.val (.int p1), .val (.int p2), .val (.int p3), .val (.int p4), .val (.int p5), .val (.int (2 : Int32)), .val (.int (1 : Int32)), .val (.ref b28), .val (.int (1 : Int32))] [])) _
        refine XS.aload X31.here hx rfl (hb hby at_55) rfl rfl ?_
        show Steps p.tables e below (T31.setTop (mkF m 57 #[.val (.int p1), .val (.int p2), .val (.int p3), .val (.int p4), .val (.int p5), .val (.int (2 : Int32)), .val (.int (1 : Int32)), .val (.ref b28), .val (.int (1 : Int32))] [(.ref b28)])) _
        refine XS.iloadN X31.here hx rfl (hb hby at_57) rfl ?_
        show Steps p.tables e below (T31.setTop (mkF m 58 #[.val (.int p1), .val (.int p2), .val (.int p3), .val (.int p4), .val (.int p5), .val (.int (2 : Int32)), .val (.int (1 : Int32)), .val (.ref b28), .val (.int (1 : Int32))] [(.int p4), (.ref b28)])) _
        exact st32
      have Y32 : n0 ≤ T32.heap.size := Nat.le_trans Y31 K32.1
      obtain ⟨cq33, kq33, q33a, q33b, q33c⟩ := isOf hZ rfl S32.1
      obtain ⟨_, _, ⟨T33, L33, k33, n33⟩, -, X33, ⟨Lc33, hQ33, l33, y33, z33⟩, st33⟩ := X32.virtualBack hx (y := (⟨"com/example/brisk_tableau/brisktableau/ltl/IntStack", "isEmpty", "()Z"⟩ : MethodName)) (z := (⟨"com/example/brisk_tableau/brisktableau/ltl/IntStack", "isEmpty", "()Z"⟩ : MethodName)) hown (mvT hZ (hw _ (List.mem_of_getElem? (i := 12) rfl))) (mvT hZ (hw _ (List.mem_of_getElem? (i := 13) rfl))) (notFace_of_selects (args := #[]) (mvT hZ (hw _ (List.mem_of_getElem? (i := 15) rfl)))) (mvT hZ (hw _ (List.mem_of_getElem? (i := 15) rfl))) (mvT hZ (hw _ (List.mem_of_getElem? (i := 14) rfl))) (by decide) (backOf (W := 0) (rm3 l Z a0 hw [] b28 (2 : Int32) bb T32.heap n0 Y32 S32) hZ (hw _ (List.mem_of_getElem? (i := 16) rfl)) (hw _ (List.mem_of_getElem? (i := 2) rfl)) (by decide) (by decide)) q33a q33c (g := (mkF m 81 #[.val (.int p1), .val (.int p2), .val (.int p3), .val (.int p4), .val (.int p5), .val (.int (2 : Int32)), .val (.int (1 : Int32)), .val (.ref b28), .val (.int (1 : Int32))] [(.ref b28)])) rfl (by rw [hml]; rfl) (Steps.refl _) (argsL := []) (rest := []) (lenOf pd_1 rfl) rfl (by show 2 * 0 + _ ≤ _; exact Nat.le_of_eq rfl) (hb hby at_81) (fun _ _ => ⟨rfl, rfl, (by decide : 2 + 0 ≤ _), (by decide : 18 + 0 ≤ _)⟩)
      dsimp only [Pt.U, Pt.locs, Pt.cells, Pt.slots] at X33 l33 y33 z33 st33 hQ33
      subst l33 y33 z33
      obtain ⟨rfl, M33, e33⟩ := hQ33
      have N33 := Fr.app N32 M33
      have pre33 : Steps p.tables e below (s₁.setTop (entryFrame m #[(.int p1), (.int p2), (.int p3), (.int p4), (.int p5)] maxLocals)) (T33.setTop (mkF m 84 #[.val (.int p1), .val (.int p2), .val (.int p3), .val (.int p4), .val (.int p5), .val (.int (2 : Int32)), .val (.int (1 : Int32)), .val (.ref b28), .val (.int (1 : Int32))] [(.int (own_emp (2 : Int32)))])) := by
        refine pre32.trans ?_
        refine XS.iload X32.here hx rfl (hb hby at_61) rfl ?_
        show Steps p.tables e below (T32.setTop (mkF m 63 #[.val (.int p1), .val (.int p2), .val (.int p3), .val (.int p4), .val (.int p5), .val (.int (2 : Int32)), .val (.int (1 : Int32)), .val (.ref b28), .val (.int (1 : Int32))] [(.int (2 : Int32))])) _
        refine XS.iconst X32.here hx rfl (hb hby at_63) ?_
        show Steps p.tables e below (T32.setTop (mkF m 64 #[.val (.int p1), .val (.int p2), .val (.int p3), .val (.int p4), .val (.int p5), .val (.int (2 : Int32)), .val (.int (1 : Int32)), .val (.ref b28), .val (.int (1 : Int32))] [(.int (3 : Int32)), (.int (2 : Int32))])) _
        refine XS.icmpYes X32.here hx rfl (pc0 := 64) (pc' := 74) rfl (hb hby at_64) rfl (by decide) (by decide) (by decide) ?_
        show Steps p.tables e below (T32.setTop (mkF m 74 #[.val (.int p1), .val (.int p2), .val (.int p3), .val (.int p4), .val (.int p5), .val (.int (2 : Int32)), .val (.int (1 : Int32)), .val (.ref b28), .val (.int (1 : Int32))] [])) _
        refine XS.iload X32.here hx rfl (hb hby at_74) rfl ?_
        show Steps p.tables e below (T32.setTop (mkF m 76 #[.val (.int p1), .val (.int p2), .val (.int p3), .val (.int p4), .val (.int p5), .val (.int (2 : Int32)), .val (.int (1 : Int32)), .val (.ref b28), .val (.int (1 : Int32))] [(.int (1 : Int32))])) _
        refine XS.ifNo X32.here hx rfl (hb hby at_76) rfl (by decide) ?_
        show Steps p.tables e below (T32.setTop (mkF m 79 #[.val (.int p1), .val (.int p2), .val (.int p3), .val (.int p4), .val (.int p5), .val (.int (2 : Int32)), .val (.int (1 : Int32)), .val (.ref b28), .val (.int (1 : Int32))] [])) _
        refine XS.aload X32.here hx rfl (hb hby at_79) rfl rfl ?_
        show Steps p.tables e below (T32.setTop (mkF m 81 #[.val (.int p1), .val (.int p2), .val (.int p3), .val (.int p4), .val (.int p5), .val (.int (2 : Int32)), .val (.int (1 : Int32)), .val (.ref b28), .val (.int (1 : Int32))] [(.ref b28)])) _
        exact st33
      rw [own_e2] at pre33
      obtain ⟨cq34, kq34, q34a, q34b, q34c⟩ := isOf hZ e33 S32.1
      obtain ⟨_, _, ⟨T34, L34, k34, n34⟩, -, X34, ⟨Lc34, hQ34, l34, y34, z34⟩, st34⟩ := X33.virtualBack hx (y := (⟨"com/example/brisk_tableau/brisktableau/ltl/IntStack", "pop", "()I"⟩ : MethodName)) (z := (⟨"com/example/brisk_tableau/brisktableau/ltl/IntStack", "pop", "()I"⟩ : MethodName)) hown (mvT hZ (hw _ (List.mem_of_getElem? (i := 24) rfl))) (mvT hZ (hw _ (List.mem_of_getElem? (i := 25) rfl))) (notFace_of_selects (args := #[]) (mvT hZ (hw _ (List.mem_of_getElem? (i := 27) rfl)))) (mvT hZ (hw _ (List.mem_of_getElem? (i := 27) rfl))) (mvT hZ (hw _ (List.mem_of_getElem? (i := 26) rfl))) (by decide) (backOf (W := 0) (rm5 l Z a0 hw [] b28 (2 : Int32) (1 : Int32) bb T32.heap n0 Y32 S32 gg gb (by decide) (by decide)) hZ (hw _ (List.mem_of_getElem? (i := 28) rfl)) (hw _ (List.mem_of_getElem? (i := 2) rfl)) (by decide) (by decide)) q34a q34c (g := (mkF m 112 #[.val (.int p1), .val (.int p2), .val (.int p3), .val (.int p4), .val (.int p5), .val (.int (2 : Int32)), .val (.int (1 : Int32)), .val (.ref b28), .val (.int (1 : Int32))] [(.ref b28)])) rfl (by rw [hml]; rfl) (Steps.refl _) (argsL := []) (rest := []) (lenOf pd_3 rfl) rfl (by show 2 * 0 + _ ≤ _; exact Nat.le_of_eq rfl) (hb hby at_112) (fun _ _ => ⟨rfl, e33, (by decide : 2 + 0 ≤ _), (by decide : 18 + 0 ≤ _)⟩)
      dsimp only [Pt.U, Pt.locs, Pt.cells, Pt.slots] at X34 l34 y34 z34 st34 hQ34
      subst l34 y34 z34
      obtain ⟨⟨x34, rfl⟩, M34, K34, S34⟩ := hQ34
      have N34 := Fr.app N33 M34
      have pre34 : Steps p.tables e below (s₁.setTop (entryFrame m #[(.int p1), (.int p2), (.int p3), (.int p4), (.int p5)] maxLocals)) (T34.setTop (mkF m 115 #[.val (.int p1), .val (.int p2), .val (.int p3), .val (.int p4), .val (.int p5), .val (.int (2 : Int32)), .val (.int (1 : Int32)), .val (.ref b28), .val (.int (1 : Int32))] [(.int x34)])) := by
        refine pre33.trans ?_
        refine XS.iload X33.here hx rfl (hb hby at_84) rfl ?_
        show Steps p.tables e below (T33.setTop (mkF m 86 #[.val (.int p1), .val (.int p2), .val (.int p3), .val (.int p4), .val (.int p5), .val (.int (2 : Int32)), .val (.int (1 : Int32)), .val (.ref b28), .val (.int (1 : Int32))] [(.int (2 : Int32)), (.int (0 : Int32))])) _
        refine XS.ifYes X33.here hx rfl (pc0 := 86) (pc' := 93) rfl (hb hby at_86) rfl (by decide) (by decide) (by decide) ?_
        show Steps p.tables e below (T33.setTop (mkF m 93 #[.val (.int p1), .val (.int p2), .val (.int p3), .val (.int p4), .val (.int p5), .val (.int (2 : Int32)), .val (.int (1 : Int32)), .val (.ref b28), .val (.int (1 : Int32))] [(.int (0 : Int32))])) _
        refine XS.iconst X33.here hx rfl (hb hby at_93) ?_
        show Steps p.tables e below (T33.setTop (mkF m 94 #[.val (.int p1), .val (.int p2), .val (.int p3), .val (.int p4), .val (.int p5), .val (.int (2 : Int32)), .val (.int (1 : Int32)), .val (.ref b28), .val (.int (1 : Int32))] [(.int (0 : Int32)), (.int (0 : Int32))])) _
        refine XS.icmpNo X33.here hx rfl (hb hby at_94) rfl (by decide) ?_
        show Steps p.tables e below (T33.setTop (mkF m 97 #[.val (.int p1), .val (.int p2), .val (.int p3), .val (.int p4), .val (.int p5), .val (.int (2 : Int32)), .val (.int (1 : Int32)), .val (.ref b28), .val (.int (1 : Int32))] [])) _
        refine XS.iconst X33.here hx rfl (hb hby at_97) ?_
        show Steps p.tables e below (T33.setTop (mkF m 98 #[.val (.int p1), .val (.int p2), .val (.int p3), .val (.int p4), .val (.int p5), .val (.int (2 : Int32)), .val (.int (1 : Int32)), .val (.ref b28), .val (.int (1 : Int32))] [(.int (1 : Int32))])) _
        refine XS.goto X33.here hx rfl (pc0 := 98) (pc' := 102) rfl (hb hby at_98) (by decide) (by decide) ?_
        show Steps p.tables e below (T33.setTop (mkF m 102 #[.val (.int p1), .val (.int p2), .val (.int p3), .val (.int p4), .val (.int p5), .val (.int (2 : Int32)), .val (.int (1 : Int32)), .val (.ref b28), .val (.int (1 : Int32))] [(.int (1 : Int32))])) _
        refine XS.istore X33.here hx rfl (hb hby at_102) rfl (l' := #[.val (.int p1), .val (.int p2), .val (.int p3), .val (.int p4), .val (.int p5), .val (.int (2 : Int32)), .val (.int (1 : Int32)), .val (.ref b28), .val (.int (1 : Int32))]) rfl ?_
        show Steps p.tables e below (T33.setTop (mkF m 104 #[.val (.int p1), .val (.int p2), .val (.int p3), .val (.int p4), .val (.int p5), .val (.int (2 : Int32)), .val (.int (1 : Int32)), .val (.ref b28), .val (.int (1 : Int32))] [])) _
        refine XS.iload X33.here hx rfl (hb hby at_104) rfl ?_
        show Steps p.tables e below (T33.setTop (mkF m 106 #[.val (.int p1), .val (.int p2), .val (.int p3), .val (.int p4), .val (.int p5), .val (.int (2 : Int32)), .val (.int (1 : Int32)), .val (.ref b28), .val (.int (1 : Int32))] [(.int (1 : Int32))])) _
        refine XS.iconst X33.here hx rfl (hb hby at_106) ?_
        show Steps p.tables e below (T33.setTop (mkF m 107 #[.val (.int p1), .val (.int p2), .val (.int p3), .val (.int p4), .val (.int p5), .val (.int (2 : Int32)), .val (.int (1 : Int32)), .val (.ref b28), .val (.int (1 : Int32))] [(.int (1 : Int32)), (.int (1 : Int32))])) _
        refine XS.icmpNo X33.here hx rfl (hb hby at_107) rfl (by decide) ?_
        show Steps p.tables e below (T33.setTop (mkF m 110 #[.val (.int p1), .val (.int p2), .val (.int p3), .val (.int p4), .val (.int p5), .val (.int (2 : Int32)), .val (.int (1 : Int32)), .val (.ref b28), .val (.int (1 : Int32))] [])) _
        refine XS.aload X33.here hx rfl (hb hby at_110) rfl rfl ?_
        show Steps p.tables e below (T33.setTop (mkF m 112 #[.val (.int p1), .val (.int p2), .val (.int p3), .val (.int p4), .val (.int p5), .val (.int (2 : Int32)), .val (.int (1 : Int32)), .val (.ref b28), .val (.int (1 : Int32))] [(.ref b28)])) _
        exact st34
      have Y34 : n0 ≤ T34.heap.size := Nat.le_trans Y32 K34.1
      obtain ⟨cq35, kq35, q35a, q35b, q35c⟩ := isOf hZ rfl S34.1
      obtain ⟨_, _, ⟨T35, L35, k35, n35⟩, -, X35, ⟨Lc35, hQ35, l35, y35, z35⟩, st35⟩ := X34.virtualBack hx (y := (⟨"com/example/brisk_tableau/brisktableau/ltl/IntStack", "isEmpty", "()Z"⟩ : MethodName)) (z := (⟨"com/example/brisk_tableau/brisktableau/ltl/IntStack", "isEmpty", "()Z"⟩ : MethodName)) hown (mvT hZ (hw _ (List.mem_of_getElem? (i := 12) rfl))) (mvT hZ (hw _ (List.mem_of_getElem? (i := 13) rfl))) (notFace_of_selects (args := #[]) (mvT hZ (hw _ (List.mem_of_getElem? (i := 15) rfl)))) (mvT hZ (hw _ (List.mem_of_getElem? (i := 15) rfl))) (mvT hZ (hw _ (List.mem_of_getElem? (i := 14) rfl))) (by decide) (backOf (W := 0) (rm3 l Z a0 hw [] b28 (1 : Int32) bb T34.heap n0 Y34 S34) hZ (hw _ (List.mem_of_getElem? (i := 16) rfl)) (hw _ (List.mem_of_getElem? (i := 2) rfl)) (by decide) (by decide)) q35a q35c (g := (mkF m 147 #[.val (.int p1), .val (.int p2), .val (.int p3), .val (.int p4), .val (.int p5), .val (.int (2 : Int32)), .val (.int (1 : Int32)), .val (.ref b28), .val (.int (1 : Int32))] [(.ref b28)])) rfl (by rw [hml]; rfl) (Steps.refl _) (argsL := []) (rest := []) (lenOf pd_1 rfl) rfl (by show 2 * 0 + _ ≤ _; exact Nat.le_of_eq rfl) (hb hby at_147) (fun _ _ => ⟨rfl, rfl, (by decide : 2 + 0 ≤ _), (by decide : 18 + 0 ≤ _)⟩)
      dsimp only [Pt.U, Pt.locs, Pt.cells, Pt.slots] at X35 l35 y35 z35 st35 hQ35
      subst l35 y35 z35
      obtain ⟨rfl, M35, e35⟩ := hQ35
      have N35 := Fr.app N34 M35
      have pre35 : Steps p.tables e below (s₁.setTop (entryFrame m #[(.int p1), (.int p2), (.int p3), (.int p4), (.int p5)] maxLocals)) (T35.setTop (mkF m 150 #[.val (.int p1), .val (.int p2), .val (.int p3), .val (.int p4), .val (.int p5), .val (.int (2 : Int32)), .val (.int (1 : Int32)), .val (.ref b28), .val (.int (1 : Int32))] [(.int (own_emp (1 : Int32)))])) := by
        refine pre34.trans ?_
        refine XS.pop X34.here hx rfl (hb hby at_115) rfl rfl ?_
        show Steps p.tables e below (T34.setTop (mkF m 116 #[.val (.int p1), .val (.int p2), .val (.int p3), .val (.int p4), .val (.int p5), .val (.int (2 : Int32)), .val (.int (1 : Int32)), .val (.ref b28), .val (.int (1 : Int32))] [])) _
        refine XS.iload X34.here hx rfl (hb hby at_116) rfl ?_
        show Steps p.tables e below (T34.setTop (mkF m 118 #[.val (.int p1), .val (.int p2), .val (.int p3), .val (.int p4), .val (.int p5), .val (.int (2 : Int32)), .val (.int (1 : Int32)), .val (.ref b28), .val (.int (1 : Int32))] [(.int (1 : Int32))])) _
        refine XS.iconst X34.here hx rfl (hb hby at_118) ?_
        show Steps p.tables e below (T34.setTop (mkF m 119 #[.val (.int p1), .val (.int p2), .val (.int p3), .val (.int p4), .val (.int p5), .val (.int (2 : Int32)), .val (.int (1 : Int32)), .val (.ref b28), .val (.int (1 : Int32))] [(.int (2 : Int32)), (.int (1 : Int32))])) _
        refine XS.icmpYes X34.here hx rfl (pc0 := 119) (pc' := 128) rfl (hb hby at_119) rfl (by decide) (by decide) (by decide) ?_
        show Steps p.tables e below (T34.setTop (mkF m 128 #[.val (.int p1), .val (.int p2), .val (.int p3), .val (.int p4), .val (.int p5), .val (.int (2 : Int32)), .val (.int (1 : Int32)), .val (.ref b28), .val (.int (1 : Int32))] [])) _
        refine XS.iload X34.here hx rfl (hb hby at_128) rfl ?_
        show Steps p.tables e below (T34.setTop (mkF m 130 #[.val (.int p1), .val (.int p2), .val (.int p3), .val (.int p4), .val (.int p5), .val (.int (2 : Int32)), .val (.int (1 : Int32)), .val (.ref b28), .val (.int (1 : Int32))] [(.int (1 : Int32))])) _
        refine XS.iconst X34.here hx rfl (hb hby at_130) ?_
        show Steps p.tables e below (T34.setTop (mkF m 131 #[.val (.int p1), .val (.int p2), .val (.int p3), .val (.int p4), .val (.int p5), .val (.int (2 : Int32)), .val (.int (1 : Int32)), .val (.ref b28), .val (.int (1 : Int32))] [(.int (3 : Int32)), (.int (1 : Int32))])) _
        refine XS.icmpYes X34.here hx rfl (pc0 := 131) (pc' := 140) rfl (hb hby at_131) rfl (by decide) (by decide) (by decide) ?_
        show Steps p.tables e below (T34.setTop (mkF m 140 #[.val (.int p1), .val (.int p2), .val (.int p3), .val (.int p4), .val (.int p5), .val (.int (2 : Int32)), .val (.int (1 : Int32)), .val (.ref b28), .val (.int (1 : Int32))] [])) _
        refine XS.iload X34.here hx rfl (hb hby at_140) rfl ?_
        show Steps p.tables e below (T34.setTop (mkF m 142 #[.val (.int p1), .val (.int p2), .val (.int p3), .val (.int p4), .val (.int p5), .val (.int (2 : Int32)), .val (.int (1 : Int32)), .val (.ref b28), .val (.int (1 : Int32))] [(.int (1 : Int32))])) _
        refine XS.ifNo X34.here hx rfl (hb hby at_142) rfl (by decide) ?_
        show Steps p.tables e below (T34.setTop (mkF m 145 #[.val (.int p1), .val (.int p2), .val (.int p3), .val (.int p4), .val (.int p5), .val (.int (2 : Int32)), .val (.int (1 : Int32)), .val (.ref b28), .val (.int (1 : Int32))] [])) _
        refine XS.aload X34.here hx rfl (hb hby at_145) rfl rfl ?_
        show Steps p.tables e below (T34.setTop (mkF m 147 #[.val (.int p1), .val (.int p2), .val (.int p3), .val (.int p4), .val (.int p5), .val (.int (2 : Int32)), .val (.int (1 : Int32)), .val (.ref b28), .val (.int (1 : Int32))] [(.ref b28)])) _
        exact st35
      rw [own_e1] at pre35
      obtain ⟨fs, hr, hrun, hended, hW, hsame⟩ := X35.leave (v := some (.int (1 : Int32))) (fun h => by rw [Bd.returns] at h; cases h)
      refine ⟨_, _, pre35.trans ?_, hrun, hended, _, _, rfl, ?_, ⟨_, rfl⟩, hW, hsame.mono (by decide) (by decide)⟩
      · skip
        refine XS.iload X35.here hx rfl (hb hby at_150) rfl ?_
        show Steps p.tables e below (T35.setTop (mkF m 152 #[.val (.int p1), .val (.int p2), .val (.int p3), .val (.int p4), .val (.int p5), .val (.int (2 : Int32)), .val (.int (1 : Int32)), .val (.ref b28), .val (.int (1 : Int32))] [(.int (2 : Int32)), (.int (0 : Int32))])) _
        refine XS.iload X35.here hx rfl (hb hby at_152) rfl ?_
        show Steps p.tables e below (T35.setTop (mkF m 154 #[.val (.int p1), .val (.int p2), .val (.int p3), .val (.int p4), .val (.int p5), .val (.int (2 : Int32)), .val (.int (1 : Int32)), .val (.ref b28), .val (.int (1 : Int32))] [(.int (1 : Int32)), (.int (2 : Int32)), (.int (0 : Int32))])) _
        refine XS.icmpYes X35.here hx rfl (pc0 := 154) (pc' := 161) rfl (hb hby at_154) rfl (by decide) (by decide) (by decide) ?_
        show Steps p.tables e below (T35.setTop (mkF m 161 #[.val (.int p1), .val (.int p2), .val (.int p3), .val (.int p4), .val (.int p5), .val (.int (2 : Int32)), .val (.int (1 : Int32)), .val (.ref b28), .val (.int (1 : Int32))] [(.int (0 : Int32))])) _
        refine XS.iconst X35.here hx rfl (hb hby at_161) ?_
        show Steps p.tables e below (T35.setTop (mkF m 162 #[.val (.int p1), .val (.int p2), .val (.int p3), .val (.int p4), .val (.int p5), .val (.int (2 : Int32)), .val (.int (1 : Int32)), .val (.ref b28), .val (.int (1 : Int32))] [(.int (0 : Int32)), (.int (0 : Int32))])) _
        refine XS.icmpNo X35.here hx rfl (hb hby at_162) rfl (by decide) ?_
        show Steps p.tables e below (T35.setTop (mkF m 165 #[.val (.int p1), .val (.int p2), .val (.int p3), .val (.int p4), .val (.int p5), .val (.int (2 : Int32)), .val (.int (1 : Int32)), .val (.ref b28), .val (.int (1 : Int32))] [])) _
        refine XS.iconst X35.here hx rfl (hb hby at_165) ?_
        show Steps p.tables e below (T35.setTop (mkF m 166 #[.val (.int p1), .val (.int p2), .val (.int p3), .val (.int p4), .val (.int p5), .val (.int (2 : Int32)), .val (.int (1 : Int32)), .val (.ref b28), .val (.int (1 : Int32))] [(.int (1 : Int32))])) _
        refine XS.goto X35.here hx rfl (pc0 := 166) (pc' := 170) rfl (hb hby at_166) (by decide) (by decide) ?_
        show Steps p.tables e below (T35.setTop (mkF m 170 #[.val (.int p1), .val (.int p2), .val (.int p3), .val (.int p4), .val (.int p5), .val (.int (2 : Int32)), .val (.int (1 : Int32)), .val (.ref b28), .val (.int (1 : Int32))] [(.int (1 : Int32))])) _
        exact retN X35 hx (t := .boolean) Bd.returns (by simp) (hb hby at_170) hr
      · show Q0 Z p1 p2 p3 p4 p5  h0 n0 _ T35.heap _
        rw [e35]
        exact ⟨rfl, N35⟩
    · skip
      obtain ⟨T36, h36, X36, e36, E36, A36, D36, -, st36⟩ := newO X0 hx hZ hown (hw _ (List.mem_of_getElem? (i := 0) rfl)) (hw _ (List.mem_of_getElem? (i := 1) rfl)) (hw _ (List.mem_of_getElem? (i := 2) rfl)) e0 (g := (mkF m 21 #[.val (.int p1), .val (.int p2), .val (.int p3), .val (.int p4), .val (.int p5), .val (.int (2 : Int32)), .val (.int (2 : Int32)), .unset, .unset] [])) rfl (hb hby at_21) (by decide) (by decide)
      obtain ⟨b36, g36⟩ : ∃ z, z = h0.size := ⟨_, rfl⟩
      rw [← g36] at A36 D36 st36
      have pre36 : Steps p.tables e below (s₁.setTop (entryFrame m #[(.int p1), (.int p2), (.int p3), (.int p4), (.int p5)] maxLocals)) (T36.setTop (mkF m 24 #[.val (.int p1), .val (.int p2), .val (.int p3), .val (.int p4), .val (.int p5), .val (.int (2 : Int32)), .val (.int (2 : Int32)), .unset, .unset] [(.ref b36)])) := by
        refine pre2.trans ?_
        exact st36 _ (Steps.refl _)
      have gg : n0 ≤ b36 := Nat.le_trans Z0 (Nat.le_of_eq g36.symm)
      have Y36 : n0 ≤ h36.size := Nat.le_trans Z0 E36.1
      have FA := D36 (Or.inl (hw _ (List.mem_of_getElem? (i := 18) rfl))) (ty := .int) (by decide)
      have FB := D36 (Or.inl (hw _ (List.mem_of_getElem? (i := 11) rfl))) (ty := (.array .int)) (by decide)
      obtain ⟨_, _, ⟨T37, L37, k37, n37⟩, -, X37, ⟨Lc37, hQ37, l37, y37, z37⟩, st37⟩ := X36.specialBack hx (y := (⟨"com/example/brisk_tableau/brisktableau/ltl/IntStack", "<init>", "()V"⟩ : MethodName)) rfl hown (mvT hZ (hw _ (List.mem_of_getElem? (i := 3) rfl))) (mvT hZ (hw _ (List.mem_of_getElem? (i := 4) rfl))) (mvT hZ (hw _ (List.mem_of_getElem? (i := 5) rfl))) (by decide) (backOf (W := 1) (rm1 l Z a0 hw [] b36 _ h36 n0 Y36 A36 FA FB gg) hZ (hw _ (List.mem_of_getElem? (i := 5) rfl)) (hw _ (List.mem_of_getElem? (i := 2) rfl)) (by decide) (by decide)) (g := (mkF m 25 #[.val (.int p1), .val (.int p2), .val (.int p3), .val (.int p4), .val (.int p5), .val (.int (2 : Int32)), .val (.int (2 : Int32)), .unset, .unset] [(.ref b36), (.ref b36)])) rfl (by rw [hml]; rfl) (Steps.refl _) (a := b36) (argsL := []) (rest := [(.ref b36)]) (lenOf pd_0 rfl) rfl (by show 2 * 0 + _ ≤ _; exact Nat.le_of_eq rfl) (hb hby at_25) (fun _ _ => ⟨rfl, e36, (by decide : 1 + 1 ≤ _), (by decide : 2 + 16 ≤ _)⟩)
      dsimp only [Pt.U, Pt.locs, Pt.cells, Pt.slots] at X37 l37 y37 z37 st37 hQ37
      subst l37 y37 z37
      obtain ⟨rfl, M37, K37, bb, gb, S37⟩ := hQ37
      have N37 := Fr.app N0 M37
      have pre37 : Steps p.tables e below (s₁.setTop (entryFrame m #[(.int p1), (.int p2), (.int p3), (.int p4), (.int p5)] maxLocals)) (T37.setTop (mkF m 28 #[.val (.int p1), .val (.int p2), .val (.int p3), .val (.int p4), .val (.int p5), .val (.int (2 : Int32)), .val (.int (2 : Int32)), .unset, .unset] [(.ref b36)])) := by
        refine pre36.trans ?_
        refine XS.dup X36.here hx rfl (hb hby at_24) rfl rfl ?_
        show Steps p.tables e below (T36.setTop (mkF m 25 #[.val (.int p1), .val (.int p2), .val (.int p3), .val (.int p4), .val (.int p5), .val (.int (2 : Int32)), .val (.int (2 : Int32)), .unset, .unset] [(.ref b36), (.ref b36)])) _
        exact st37
      have Y37 : n0 ≤ T37.heap.size := Nat.le_trans Y36 K37.1
      obtain ⟨cq38, kq38, q38a, q38b, q38c⟩ := isOf hZ rfl S37.1
      obtain ⟨_, _, ⟨T38, L38, k38, n38⟩, -, X38, ⟨Lc38, hQ38, l38, y38, z38⟩, st38⟩ := X37.virtualBack hx (y := (⟨"com/example/brisk_tableau/brisktableau/ltl/IntStack", "isEmpty", "()Z"⟩ : MethodName)) (z := (⟨"com/example/brisk_tableau/brisktableau/ltl/IntStack", "isEmpty", "()Z"⟩ : MethodName)) hown (mvT hZ (hw _ (List.mem_of_getElem? (i := 12) rfl))) (mvT hZ (hw _ (List.mem_of_getElem? (i := 13) rfl))) (notFace_of_selects (args := #[]) (mvT hZ (hw _ (List.mem_of_getElem? (i := 15) rfl)))) (mvT hZ (hw _ (List.mem_of_getElem? (i := 15) rfl))) (mvT hZ (hw _ (List.mem_of_getElem? (i := 14) rfl))) (by decide) (backOf (W := 0) (rm3 l Z a0 hw [] b36 (0 : Int32) bb T37.heap n0 Y37 S37) hZ (hw _ (List.mem_of_getElem? (i := 16) rfl)) (hw _ (List.mem_of_getElem? (i := 2) rfl)) (by decide) (by decide)) q38a q38c (g := (mkF m 32 #[.val (.int p1), .val (.int p2), .val (.int p3), .val (.int p4), .val (.int p5), .val (.int (2 : Int32)), .val (.int (2 : Int32)), .val (.ref b36), .unset] [(.ref b36)])) rfl (by rw [hml]; rfl) (Steps.refl _) (argsL := []) (rest := []) (lenOf pd_1 rfl) rfl (by show 2 * 0 + _ ≤ _; exact Nat.le_of_eq rfl) (hb hby at_32) (fun _ _ => ⟨rfl, rfl, (by decide : 2 + 0 ≤ _), (by decide : 18 + 0 ≤ _)⟩)
      dsimp only [Pt.U, Pt.locs, Pt.cells, Pt.slots] at X38 l38 y38 z38 st38 hQ38
      subst l38 y38 z38
      obtain ⟨rfl, M38, e38⟩ := hQ38
      have N38 := Fr.app N37 M38
      have pre38 : Steps p.tables e below (s₁.setTop (entryFrame m #[(.int p1), (.int p2), (.int p3), (.int p4), (.int p5)] maxLocals)) (T38.setTop (mkF m 35 #[.val (.int p1), .val (.int p2), .val (.int p3), .val (.int p4), .val (.int p5), .val (.int (2 : Int32)), .val (.int (2 : Int32)), .val (.ref b36), .unset] [(.int (own_emp (0 : Int32)))])) := by
        refine pre37.trans ?_
        refine XS.astore X37.here hx rfl (hb hby at_28) rfl rfl (l' := #[.val (.int p1), .val (.int p2), .val (.int p3), .val (.int p4), .val (.int p5), .val (.int (2 : Int32)), .val (.int (2 : Int32)), .val (.ref b36), .unset]) rfl ?_
        show Steps p.tables e below (T37.setTop (mkF m 30 #[.val (.int p1), .val (.int p2), .val (.int p3), .val (.int p4), .val (.int p5), .val (.int (2 : Int32)), .val (.int (2 : Int32)), .val (.ref b36), .unset] [])) _
        refine XS.aload X37.here hx rfl (hb hby at_30) rfl rfl ?_
        show Steps p.tables e below (T37.setTop (mkF m 32 #[.val (.int p1), .val (.int p2), .val (.int p3), .val (.int p4), .val (.int p5), .val (.int (2 : Int32)), .val (.int (2 : Int32)), .val (.ref b36), .unset] [(.ref b36)])) _
        exact st38
      rw [own_e0] at pre38
      obtain ⟨cq39, kq39, q39a, q39b, q39c⟩ := isOf hZ e38 S37.1
      obtain ⟨_, _, ⟨T39, L39, k39, n39⟩, -, X39, ⟨Lc39, hQ39, l39, y39, z39⟩, st39⟩ := X38.virtualBack hx (y := (⟨"com/example/brisk_tableau/brisktableau/ltl/IntStack", "push", "(I)V"⟩ : MethodName)) (z := (⟨"com/example/brisk_tableau/brisktableau/ltl/IntStack", "push", "(I)V"⟩ : MethodName)) hown (mvT hZ (hw _ (List.mem_of_getElem? (i := 19) rfl))) (mvT hZ (hw _ (List.mem_of_getElem? (i := 20) rfl))) (notFace_of_selects (args := #[]) (mvT hZ (hw _ (List.mem_of_getElem? (i := 22) rfl)))) (mvT hZ (hw _ (List.mem_of_getElem? (i := 22) rfl))) (mvT hZ (hw _ (List.mem_of_getElem? (i := 21) rfl))) (by decide) (backOf (W := 0) (rm4 l Z a0 hw [] b36 p3 (0 : Int32) (1 : Int32) bb T37.heap n0 Y37 S37 gg gb (by decide) (by decide)) hZ (hw _ (List.mem_of_getElem? (i := 23) rfl)) (hw _ (List.mem_of_getElem? (i := 2) rfl)) (by decide) (by decide)) q39a q39c (g := (mkF m 46 #[.val (.int p1), .val (.int p2), .val (.int p3), .val (.int p4), .val (.int p5), .val (.int (2 : Int32)), .val (.int (2 : Int32)), .val (.ref b36), .val (.int (1 : Int32))] [(.int p3), (.ref b36)])) rfl (by rw [hml]; rfl) (Steps.refl _) (argsL := [(.int p3)]) (rest := []) (lenOf pd_2 rfl) rfl (by show 2 * 0 + _ ≤ _; exact Nat.le_of_eq rfl) (hb hby at_46) (fun _ _ => ⟨rfl, e38, (by decide : 2 + 0 ≤ _), (by decide : 18 + 0 ≤ _)⟩)
      dsimp only [Pt.U, Pt.locs, Pt.cells, Pt.slots] at X39 l39 y39 z39 st39 hQ39
      subst l39 y39 z39
      obtain ⟨rfl, M39, K39, S39⟩ := hQ39
      have N39 := Fr.app N38 M39
      have pre39 : Steps p.tables e below (s₁.setTop (entryFrame m #[(.int p1), (.int p2), (.int p3), (.int p4), (.int p5)] maxLocals)) (T39.setTop (mkF m 49 #[.val (.int p1), .val (.int p2), .val (.int p3), .val (.int p4), .val (.int p5), .val (.int (2 : Int32)), .val (.int (2 : Int32)), .val (.ref b36), .val (.int (1 : Int32))] [])) := by
        refine pre38.trans ?_
        refine XS.istore X38.here hx rfl (hb hby at_35) rfl (l' := #[.val (.int p1), .val (.int p2), .val (.int p3), .val (.int p4), .val (.int p5), .val (.int (2 : Int32)), .val (.int (2 : Int32)), .val (.ref b36), .val (.int (1 : Int32))]) rfl ?_
        show Steps p.tables e below (T38.setTop (mkF m 37 #[.val (.int p1), .val (.int p2), .val (.int p3), .val (.int p4), .val (.int p5), .val (.int (2 : Int32)), .val (.int (2 : Int32)), .val (.ref b36), .val (.int (1 : Int32))] [])) _
        refine XS.iload X38.here hx rfl (hb hby at_37) rfl ?_
        show Steps p.tables e below (T38.setTop (mkF m 39 #[.val (.int p1), .val (.int p2), .val (.int p3), .val (.int p4), .val (.int p5), .val (.int (2 : Int32)), .val (.int (2 : Int32)), .val (.ref b36), .val (.int (1 : Int32))] [(.int (2 : Int32))])) _
        refine XS.iconst X38.here hx rfl (hb hby at_39) ?_
        show Steps p.tables e below (T38.setTop (mkF m 40 #[.val (.int p1), .val (.int p2), .val (.int p3), .val (.int p4), .val (.int p5), .val (.int (2 : Int32)), .val (.int (2 : Int32)), .val (.ref b36), .val (.int (1 : Int32))] [(.int (1 : Int32)), (.int (2 : Int32))])) _
        refine XS.icmpNo X38.here hx rfl (hb hby at_40) rfl (by decide) ?_
        show Steps p.tables e below (T38.setTop (mkF m 43 #[.val (.int p1), .val (.int p2), .val (.int p3), .val (.int p4), .val (.int p5), .val (.int (2 : Int32)), .val (.int (2 : Int32)), .val (.ref b36), .val (.int (1 : Int32))] [])) _
        refine XS.aload X38.here hx rfl (hb hby at_43) rfl rfl ?_
        show Steps p.tables e below (T38.setTop (mkF m 45 #[.val (.int p1), .val (.int p2), .val (.int p3), .val (.int p4), .val (.int p5), .val (.int (2 : Int32)), .val (.int (2 : Int32)), .val (.ref b36), .val (.int (1 : Int32))] [(.ref b36)])) _
        refine XS.iloadN X38.here hx rfl (hb hby at_45) rfl ?_
        show Steps p.tables e below (T38.setTop (mkF m 46 #[.val (.int p1), .val (.int p2), .val (.int p3), .val (.int p4), .val (.int p5), .val (.int (2 : Int32)), .val (.int (2 : Int32)), .val (.ref b36), .val (.int (1 : Int32))] [(.int p3), (.ref b36)])) _
        exact st39
      have Y39 : n0 ≤ T39.heap.size := Nat.le_trans Y37 K39.1
      obtain ⟨cq40, kq40, q40a, q40b, q40c⟩ := isOf hZ rfl S39.1
      obtain ⟨_, _, ⟨T40, L40, k40, n40⟩, -, X40, ⟨Lc40, hQ40, l40, y40, z40⟩, st40⟩ := X39.virtualBack hx (y := (⟨"com/example/brisk_tableau/brisktableau/ltl/IntStack", "push", "(I)V"⟩ : MethodName)) (z := (⟨"com/example/brisk_tableau/brisktableau/ltl/IntStack", "push", "(I)V"⟩ : MethodName)) hown (mvT hZ (hw _ (List.mem_of_getElem? (i := 19) rfl))) (mvT hZ (hw _ (List.mem_of_getElem? (i := 20) rfl))) (notFace_of_selects (args := #[]) (mvT hZ (hw _ (List.mem_of_getElem? (i := 22) rfl)))) (mvT hZ (hw _ (List.mem_of_getElem? (i := 22) rfl))) (mvT hZ (hw _ (List.mem_of_getElem? (i := 21) rfl))) (by decide) (backOf (W := 0) (rm4 l Z a0 hw [] b36 p4 (1 : Int32) (2 : Int32) bb T39.heap n0 Y39 S39 gg gb (by decide) (by decide)) hZ (hw _ (List.mem_of_getElem? (i := 23) rfl)) (hw _ (List.mem_of_getElem? (i := 2) rfl)) (by decide) (by decide)) q40a q40c (g := (mkF m 58 #[.val (.int p1), .val (.int p2), .val (.int p3), .val (.int p4), .val (.int p5), .val (.int (2 : Int32)), .val (.int (2 : Int32)), .val (.ref b36), .val (.int (1 : Int32))] [(.int p4), (.ref b36)])) rfl (by rw [hml]; rfl) (Steps.refl _) (argsL := [(.int p4)]) (rest := []) (lenOf pd_2 rfl) rfl (by show 2 * 0 + _ ≤ _; exact Nat.le_of_eq rfl) (hb hby at_58) (fun _ _ => ⟨rfl, rfl, (by decide : 2 + 0 ≤ _), (by decide : 18 + 0 ≤ _)⟩)
      dsimp only [Pt.U, Pt.locs, Pt.cells, Pt.slots] at X40 l40 y40 z40 st40 hQ40
      subst l40 y40 z40
      obtain ⟨rfl, M40, K40, S40⟩ := hQ40
      have N40 := Fr.app N39 M40
      have pre40 : Steps p.tables e below (s₁.setTop (entryFrame m #[(.int p1), (.int p2), (.int p3), (.int p4), (.int p5)] maxLocals)) (T40.setTop (mkF m 61 #[.val (.int p1), .val (.int p2), .val (.int p3), .val (.int p4), .val (.int p5), .val (.int (2 : Int32)), .val (.int (2 : Int32)), .val (.ref b36), .val (.int (1 : Int32))] [])) := by
        refine pre39.trans ?_
        refine XS.iload X39.here hx rfl (hb hby at_49) rfl ?_
        show Steps p.tables e below (T39.setTop (mkF m 51 #[.val (.int p1), .val (.int p2), .val (.int p3), .val (.int p4), .val (.int p5), .val (.int (2 : Int32)), .val (.int (2 : Int32)), .val (.ref b36), .val (.int (1 : Int32))] [(.int (2 : Int32))])) _
        refine XS.iconst X39.here hx rfl (hb hby at_51) ?_
        show Steps p.tables e below (T39.setTop (mkF m 52 #[.val (.int p1), .val (.int p2), .val (.int p3), .val (.int p4), .val (.int p5), .val (.int (2 : Int32)), .val (.int (2 : Int32)), .val (.ref b36), .val (.int (1 : Int32))] [(.int (2 : Int32)), (.int (2 : Int32))])) _
        refine XS.icmpNo X39.here hx rfl (hb hby at_52) rfl (by decide) ?_
        show Steps p.tables e below (T39.setTop (mkF m 55 #[.val (.int p1), .val (.int p2), .val (.int p3), .val (.int p4), .val (.int p5), .val (.int (2 : Int32)), .val (.int (2 : Int32)), .val (.ref b36), .val (.int (1 : Int32))] [])) _
        refine XS.aload X39.here hx rfl (hb hby at_55) rfl rfl ?_
        show Steps p.tables e below (T39.setTop (mkF m 57 #[.val (.int p1), .val (.int p2), .val (.int p3), .val (.int p4), .val (.int p5), .val (.int (2 : Int32)), .val (.int (2 : Int32)), .val (.ref b36), .val (.int (1 : Int32))] [(.ref b36)])) _
        refine XS.iloadN X39.here hx rfl (hb hby at_57) rfl ?_
        show Steps p.tables e below (T39.setTop (mkF m 58 #[.val (.int p1), .val (.int p2), .val (.int p3), .val (.int p4), .val (.int p5), .val (.int (2 : Int32)), .val (.int (2 : Int32)), .val (.ref b36), .val (.int (1 : Int32))] [(.int p4), (.ref b36)])) _
        exact st40
      have Y40 : n0 ≤ T40.heap.size := Nat.le_trans Y39 K40.1
      obtain ⟨cq41, kq41, q41a, q41b, q41c⟩ := isOf hZ rfl S40.1
      obtain ⟨_, _, ⟨T41, L41, k41, n41⟩, -, X41, ⟨Lc41, hQ41, l41, y41, z41⟩, st41⟩ := X40.virtualBack hx (y := (⟨"com/example/brisk_tableau/brisktableau/ltl/IntStack", "isEmpty", "()Z"⟩ : MethodName)) (z := (⟨"com/example/brisk_tableau/brisktableau/ltl/IntStack", "isEmpty", "()Z"⟩ : MethodName)) hown (mvT hZ (hw _ (List.mem_of_getElem? (i := 12) rfl))) (mvT hZ (hw _ (List.mem_of_getElem? (i := 13) rfl))) (notFace_of_selects (args := #[]) (mvT hZ (hw _ (List.mem_of_getElem? (i := 15) rfl)))) (mvT hZ (hw _ (List.mem_of_getElem? (i := 15) rfl))) (mvT hZ (hw _ (List.mem_of_getElem? (i := 14) rfl))) (by decide) (backOf (W := 0) (rm3 l Z a0 hw [] b36 (2 : Int32) bb T40.heap n0 Y40 S40) hZ (hw _ (List.mem_of_getElem? (i := 16) rfl)) (hw _ (List.mem_of_getElem? (i := 2) rfl)) (by decide) (by decide)) q41a q41c (g := (mkF m 81 #[.val (.int p1), .val (.int p2), .val (.int p3), .val (.int p4), .val (.int p5), .val (.int (2 : Int32)), .val (.int (2 : Int32)), .val (.ref b36), .val (.int (1 : Int32))] [(.ref b36)])) rfl (by rw [hml]; rfl) (Steps.refl _) (argsL := []) (rest := []) (lenOf pd_1 rfl) rfl (by show 2 * 0 + _ ≤ _; exact Nat.le_of_eq rfl) (hb hby at_81) (fun _ _ => ⟨rfl, rfl, (by decide : 2 + 0 ≤ _), (by decide : 18 + 0 ≤ _)⟩)
      dsimp only [Pt.U, Pt.locs, Pt.cells, Pt.slots] at X41 l41 y41 z41 st41 hQ41
      subst l41 y41 z41
      obtain ⟨rfl, M41, e41⟩ := hQ41
      have N41 := Fr.app N40 M41
      have pre41 : Steps p.tables e below (s₁.setTop (entryFrame m #[(.int p1), (.int p2), (.int p3), (.int p4), (.int p5)] maxLocals)) (T41.setTop (mkF m 84 #[.val (.int p1), .val (.int p2), .val (.int p3), .val (.int p4), .val (.int p5), .val (.int (2 : Int32)), .val (.int (2 : Int32)), .val (.ref b36), .val (.int (1 : Int32))] [(.int (own_emp (2 : Int32)))])) := by
        refine pre40.trans ?_
        refine XS.iload X40.here hx rfl (hb hby at_61) rfl ?_
        show Steps p.tables e below (T40.setTop (mkF m 63 #[.val (.int p1), .val (.int p2), .val (.int p3), .val (.int p4), .val (.int p5), .val (.int (2 : Int32)), .val (.int (2 : Int32)), .val (.ref b36), .val (.int (1 : Int32))] [(.int (2 : Int32))])) _
        refine XS.iconst X40.here hx rfl (hb hby at_63) ?_
        show Steps p.tables e below (T40.setTop (mkF m 64 #[.val (.int p1), .val (.int p2), .val (.int p3), .val (.int p4), .val (.int p5), .val (.int (2 : Int32)), .val (.int (2 : Int32)), .val (.ref b36), .val (.int (1 : Int32))] [(.int (3 : Int32)), (.int (2 : Int32))])) _
        refine XS.icmpYes X40.here hx rfl (pc0 := 64) (pc' := 74) rfl (hb hby at_64) rfl (by decide) (by decide) (by decide) ?_
        show Steps p.tables e below (T40.setTop (mkF m 74 #[.val (.int p1), .val (.int p2), .val (.int p3), .val (.int p4), .val (.int p5), .val (.int (2 : Int32)), .val (.int (2 : Int32)), .val (.ref b36), .val (.int (1 : Int32))] [])) _
        refine XS.iload X40.here hx rfl (hb hby at_74) rfl ?_
        show Steps p.tables e below (T40.setTop (mkF m 76 #[.val (.int p1), .val (.int p2), .val (.int p3), .val (.int p4), .val (.int p5), .val (.int (2 : Int32)), .val (.int (2 : Int32)), .val (.ref b36), .val (.int (1 : Int32))] [(.int (1 : Int32))])) _
        refine XS.ifNo X40.here hx rfl (hb hby at_76) rfl (by decide) ?_
        show Steps p.tables e below (T40.setTop (mkF m 79 #[.val (.int p1), .val (.int p2), .val (.int p3), .val (.int p4), .val (.int p5), .val (.int (2 : Int32)), .val (.int (2 : Int32)), .val (.ref b36), .val (.int (1 : Int32))] [])) _
        refine XS.aload X40.here hx rfl (hb hby at_79) rfl rfl ?_
        show Steps p.tables e below (T40.setTop (mkF m 81 #[.val (.int p1), .val (.int p2), .val (.int p3), .val (.int p4), .val (.int p5), .val (.int (2 : Int32)), .val (.int (2 : Int32)), .val (.ref b36), .val (.int (1 : Int32))] [(.ref b36)])) _
        exact st41
      rw [own_e2] at pre41
      obtain ⟨cq42, kq42, q42a, q42b, q42c⟩ := isOf hZ e41 S40.1
      obtain ⟨_, _, ⟨T42, L42, k42, n42⟩, -, X42, ⟨Lc42, hQ42, l42, y42, z42⟩, st42⟩ := X41.virtualBack hx (y := (⟨"com/example/brisk_tableau/brisktableau/ltl/IntStack", "pop", "()I"⟩ : MethodName)) (z := (⟨"com/example/brisk_tableau/brisktableau/ltl/IntStack", "pop", "()I"⟩ : MethodName)) hown (mvT hZ (hw _ (List.mem_of_getElem? (i := 24) rfl))) (mvT hZ (hw _ (List.mem_of_getElem? (i := 25) rfl))) (notFace_of_selects (args := #[]) (mvT hZ (hw _ (List.mem_of_getElem? (i := 27) rfl)))) (mvT hZ (hw _ (List.mem_of_getElem? (i := 27) rfl))) (mvT hZ (hw _ (List.mem_of_getElem? (i := 26) rfl))) (by decide) (backOf (W := 0) (rm5 l Z a0 hw [] b36 (2 : Int32) (1 : Int32) bb T40.heap n0 Y40 S40 gg gb (by decide) (by decide)) hZ (hw _ (List.mem_of_getElem? (i := 28) rfl)) (hw _ (List.mem_of_getElem? (i := 2) rfl)) (by decide) (by decide)) q42a q42c (g := (mkF m 112 #[.val (.int p1), .val (.int p2), .val (.int p3), .val (.int p4), .val (.int p5), .val (.int (2 : Int32)), .val (.int (2 : Int32)), .val (.ref b36), .val (.int (1 : Int32))] [(.ref b36)])) rfl (by rw [hml]; rfl) (Steps.refl _) (argsL := []) (rest := []) (lenOf pd_3 rfl) rfl (by show 2 * 0 + _ ≤ _; exact Nat.le_of_eq rfl) (hb hby at_112) (fun _ _ => ⟨rfl, e41, (by decide : 2 + 0 ≤ _), (by decide : 18 + 0 ≤ _)⟩)
      dsimp only [Pt.U, Pt.locs, Pt.cells, Pt.slots] at X42 l42 y42 z42 st42 hQ42
      subst l42 y42 z42
      obtain ⟨⟨x42, rfl⟩, M42, K42, S42⟩ := hQ42
      have N42 := Fr.app N41 M42
      have pre42 : Steps p.tables e below (s₁.setTop (entryFrame m #[(.int p1), (.int p2), (.int p3), (.int p4), (.int p5)] maxLocals)) (T42.setTop (mkF m 115 #[.val (.int p1), .val (.int p2), .val (.int p3), .val (.int p4), .val (.int p5), .val (.int (2 : Int32)), .val (.int (2 : Int32)), .val (.ref b36), .val (.int (1 : Int32))] [(.int x42)])) := by
        refine pre41.trans ?_
        refine XS.iload X41.here hx rfl (hb hby at_84) rfl ?_
        show Steps p.tables e below (T41.setTop (mkF m 86 #[.val (.int p1), .val (.int p2), .val (.int p3), .val (.int p4), .val (.int p5), .val (.int (2 : Int32)), .val (.int (2 : Int32)), .val (.ref b36), .val (.int (1 : Int32))] [(.int (2 : Int32)), (.int (0 : Int32))])) _
        refine XS.ifYes X41.here hx rfl (pc0 := 86) (pc' := 93) rfl (hb hby at_86) rfl (by decide) (by decide) (by decide) ?_
        show Steps p.tables e below (T41.setTop (mkF m 93 #[.val (.int p1), .val (.int p2), .val (.int p3), .val (.int p4), .val (.int p5), .val (.int (2 : Int32)), .val (.int (2 : Int32)), .val (.ref b36), .val (.int (1 : Int32))] [(.int (0 : Int32))])) _
        refine XS.iconst X41.here hx rfl (hb hby at_93) ?_
        show Steps p.tables e below (T41.setTop (mkF m 94 #[.val (.int p1), .val (.int p2), .val (.int p3), .val (.int p4), .val (.int p5), .val (.int (2 : Int32)), .val (.int (2 : Int32)), .val (.ref b36), .val (.int (1 : Int32))] [(.int (0 : Int32)), (.int (0 : Int32))])) _
        refine XS.icmpNo X41.here hx rfl (hb hby at_94) rfl (by decide) ?_
        show Steps p.tables e below (T41.setTop (mkF m 97 #[.val (.int p1), .val (.int p2), .val (.int p3), .val (.int p4), .val (.int p5), .val (.int (2 : Int32)), .val (.int (2 : Int32)), .val (.ref b36), .val (.int (1 : Int32))] [])) _
        refine XS.iconst X41.here hx rfl (hb hby at_97) ?_
        show Steps p.tables e below (T41.setTop (mkF m 98 #[.val (.int p1), .val (.int p2), .val (.int p3), .val (.int p4), .val (.int p5), .val (.int (2 : Int32)), .val (.int (2 : Int32)), .val (.ref b36), .val (.int (1 : Int32))] [(.int (1 : Int32))])) _
        refine XS.goto X41.here hx rfl (pc0 := 98) (pc' := 102) rfl (hb hby at_98) (by decide) (by decide) ?_
        show Steps p.tables e below (T41.setTop (mkF m 102 #[.val (.int p1), .val (.int p2), .val (.int p3), .val (.int p4), .val (.int p5), .val (.int (2 : Int32)), .val (.int (2 : Int32)), .val (.ref b36), .val (.int (1 : Int32))] [(.int (1 : Int32))])) _
        refine XS.istore X41.here hx rfl (hb hby at_102) rfl (l' := #[.val (.int p1), .val (.int p2), .val (.int p3), .val (.int p4), .val (.int p5), .val (.int (2 : Int32)), .val (.int (2 : Int32)), .val (.ref b36), .val (.int (1 : Int32))]) rfl ?_
        show Steps p.tables e below (T41.setTop (mkF m 104 #[.val (.int p1), .val (.int p2), .val (.int p3), .val (.int p4), .val (.int p5), .val (.int (2 : Int32)), .val (.int (2 : Int32)), .val (.ref b36), .val (.int (1 : Int32))] [])) _
        refine XS.iload X41.here hx rfl (hb hby at_104) rfl ?_
        show Steps p.tables e below (T41.setTop (mkF m 106 #[.val (.int p1), .val (.int p2), .val (.int p3), .val (.int p4), .val (.int p5), .val (.int (2 : Int32)), .val (.int (2 : Int32)), .val (.ref b36), .val (.int (1 : Int32))] [(.int (2 : Int32))])) _
        refine XS.iconst X41.here hx rfl (hb hby at_106) ?_
        show Steps p.tables e below (T41.setTop (mkF m 107 #[.val (.int p1), .val (.int p2), .val (.int p3), .val (.int p4), .val (.int p5), .val (.int (2 : Int32)), .val (.int (2 : Int32)), .val (.ref b36), .val (.int (1 : Int32))] [(.int (1 : Int32)), (.int (2 : Int32))])) _
        refine XS.icmpNo X41.here hx rfl (hb hby at_107) rfl (by decide) ?_
        show Steps p.tables e below (T41.setTop (mkF m 110 #[.val (.int p1), .val (.int p2), .val (.int p3), .val (.int p4), .val (.int p5), .val (.int (2 : Int32)), .val (.int (2 : Int32)), .val (.ref b36), .val (.int (1 : Int32))] [])) _
        refine XS.aload X41.here hx rfl (hb hby at_110) rfl rfl ?_
        show Steps p.tables e below (T41.setTop (mkF m 112 #[.val (.int p1), .val (.int p2), .val (.int p3), .val (.int p4), .val (.int p5), .val (.int (2 : Int32)), .val (.int (2 : Int32)), .val (.ref b36), .val (.int (1 : Int32))] [(.ref b36)])) _
        exact st42
      have Y42 : n0 ≤ T42.heap.size := Nat.le_trans Y40 K42.1
      obtain ⟨cq43, kq43, q43a, q43b, q43c⟩ := isOf hZ rfl S42.1
      obtain ⟨_, _, ⟨T43, L43, k43, n43⟩, -, X43, ⟨Lc43, hQ43, l43, y43, z43⟩, st43⟩ := X42.virtualBack hx (y := (⟨"com/example/brisk_tableau/brisktableau/ltl/IntStack", "pop", "()I"⟩ : MethodName)) (z := (⟨"com/example/brisk_tableau/brisktableau/ltl/IntStack", "pop", "()I"⟩ : MethodName)) hown (mvT hZ (hw _ (List.mem_of_getElem? (i := 24) rfl))) (mvT hZ (hw _ (List.mem_of_getElem? (i := 25) rfl))) (notFace_of_selects (args := #[]) (mvT hZ (hw _ (List.mem_of_getElem? (i := 27) rfl)))) (mvT hZ (hw _ (List.mem_of_getElem? (i := 27) rfl))) (mvT hZ (hw _ (List.mem_of_getElem? (i := 26) rfl))) (by decide) (backOf (W := 0) (rm5 l Z a0 hw [] b36 (1 : Int32) (0 : Int32) bb T42.heap n0 Y42 S42 gg gb (by decide) (by decide)) hZ (hw _ (List.mem_of_getElem? (i := 28) rfl)) (hw _ (List.mem_of_getElem? (i := 2) rfl)) (by decide) (by decide)) q43a q43c (g := (mkF m 124 #[.val (.int p1), .val (.int p2), .val (.int p3), .val (.int p4), .val (.int p5), .val (.int (2 : Int32)), .val (.int (2 : Int32)), .val (.ref b36), .val (.int (1 : Int32))] [(.ref b36)])) rfl (by rw [hml]; rfl) (Steps.refl _) (argsL := []) (rest := []) (lenOf pd_3 rfl) rfl (by show 2 * 0 + _ ≤ _; exact Nat.le_of_eq rfl) (hb hby at_124) (fun _ _ => ⟨rfl, rfl, (by decide : 2 + 0 ≤ _), (by decide : 18 + 0 ≤ _)⟩)
      dsimp only [Pt.U, Pt.locs, Pt.cells, Pt.slots] at X43 l43 y43 z43 st43 hQ43
      subst l43 y43 z43
      obtain ⟨⟨x43, rfl⟩, M43, K43, S43⟩ := hQ43
      have N43 := Fr.app N42 M43
      have pre43 : Steps p.tables e below (s₁.setTop (entryFrame m #[(.int p1), (.int p2), (.int p3), (.int p4), (.int p5)] maxLocals)) (T43.setTop (mkF m 127 #[.val (.int p1), .val (.int p2), .val (.int p3), .val (.int p4), .val (.int p5), .val (.int (2 : Int32)), .val (.int (2 : Int32)), .val (.ref b36), .val (.int (1 : Int32))] [(.int x43)])) := by
        refine pre42.trans ?_
        refine XS.pop X42.here hx rfl (hb hby at_115) rfl rfl ?_
        show Steps p.tables e below (T42.setTop (mkF m 116 #[.val (.int p1), .val (.int p2), .val (.int p3), .val (.int p4), .val (.int p5), .val (.int (2 : Int32)), .val (.int (2 : Int32)), .val (.ref b36), .val (.int (1 : Int32))] [])) _
        refine XS.iload X42.here hx rfl (hb hby at_116) rfl ?_
        show Steps p.tables e below (T42.setTop (mkF m 118 #[.val (.int p1), .val (.int p2), .val (.int p3), .val (.int p4), .val (.int p5), .val (.int (2 : Int32)), .val (.int (2 : Int32)), .val (.ref b36), .val (.int (1 : Int32))] [(.int (2 : Int32))])) _
        refine XS.iconst X42.here hx rfl (hb hby at_118) ?_
        show Steps p.tables e below (T42.setTop (mkF m 119 #[.val (.int p1), .val (.int p2), .val (.int p3), .val (.int p4), .val (.int p5), .val (.int (2 : Int32)), .val (.int (2 : Int32)), .val (.ref b36), .val (.int (1 : Int32))] [(.int (2 : Int32)), (.int (2 : Int32))])) _
        refine XS.icmpNo X42.here hx rfl (hb hby at_119) rfl (by decide) ?_
        show Steps p.tables e below (T42.setTop (mkF m 122 #[.val (.int p1), .val (.int p2), .val (.int p3), .val (.int p4), .val (.int p5), .val (.int (2 : Int32)), .val (.int (2 : Int32)), .val (.ref b36), .val (.int (1 : Int32))] [])) _
        refine XS.aload X42.here hx rfl (hb hby at_122) rfl rfl ?_
        show Steps p.tables e below (T42.setTop (mkF m 124 #[.val (.int p1), .val (.int p2), .val (.int p3), .val (.int p4), .val (.int p5), .val (.int (2 : Int32)), .val (.int (2 : Int32)), .val (.ref b36), .val (.int (1 : Int32))] [(.ref b36)])) _
        exact st43
      have Y43 : n0 ≤ T43.heap.size := Nat.le_trans Y42 K43.1
      obtain ⟨cq44, kq44, q44a, q44b, q44c⟩ := isOf hZ rfl S43.1
      obtain ⟨_, _, ⟨T44, L44, k44, n44⟩, -, X44, ⟨Lc44, hQ44, l44, y44, z44⟩, st44⟩ := X43.virtualBack hx (y := (⟨"com/example/brisk_tableau/brisktableau/ltl/IntStack", "isEmpty", "()Z"⟩ : MethodName)) (z := (⟨"com/example/brisk_tableau/brisktableau/ltl/IntStack", "isEmpty", "()Z"⟩ : MethodName)) hown (mvT hZ (hw _ (List.mem_of_getElem? (i := 12) rfl))) (mvT hZ (hw _ (List.mem_of_getElem? (i := 13) rfl))) (notFace_of_selects (args := #[]) (mvT hZ (hw _ (List.mem_of_getElem? (i := 15) rfl)))) (mvT hZ (hw _ (List.mem_of_getElem? (i := 15) rfl))) (mvT hZ (hw _ (List.mem_of_getElem? (i := 14) rfl))) (by decide) (backOf (W := 0) (rm3 l Z a0 hw [] b36 (0 : Int32) bb T43.heap n0 Y43 S43) hZ (hw _ (List.mem_of_getElem? (i := 16) rfl)) (hw _ (List.mem_of_getElem? (i := 2) rfl)) (by decide) (by decide)) q44a q44c (g := (mkF m 147 #[.val (.int p1), .val (.int p2), .val (.int p3), .val (.int p4), .val (.int p5), .val (.int (2 : Int32)), .val (.int (2 : Int32)), .val (.ref b36), .val (.int (1 : Int32))] [(.ref b36)])) rfl (by rw [hml]; rfl) (Steps.refl _) (argsL := []) (rest := []) (lenOf pd_1 rfl) rfl (by show 2 * 0 + _ ≤ _; exact Nat.le_of_eq rfl) (hb hby at_147) (fun _ _ => ⟨rfl, rfl, (by decide : 2 + 0 ≤ _), (by decide : 18 + 0 ≤ _)⟩)
      dsimp only [Pt.U, Pt.locs, Pt.cells, Pt.slots] at X44 l44 y44 z44 st44 hQ44
      subst l44 y44 z44
      obtain ⟨rfl, M44, e44⟩ := hQ44
      have N44 := Fr.app N43 M44
      have pre44 : Steps p.tables e below (s₁.setTop (entryFrame m #[(.int p1), (.int p2), (.int p3), (.int p4), (.int p5)] maxLocals)) (T44.setTop (mkF m 150 #[.val (.int p1), .val (.int p2), .val (.int p3), .val (.int p4), .val (.int p5), .val (.int (2 : Int32)), .val (.int (2 : Int32)), .val (.ref b36), .val (.int (1 : Int32))] [(.int (own_emp (0 : Int32)))])) := by
        refine pre43.trans ?_
        refine XS.pop X43.here hx rfl (hb hby at_127) rfl rfl ?_
        show Steps p.tables e below (T43.setTop (mkF m 128 #[.val (.int p1), .val (.int p2), .val (.int p3), .val (.int p4), .val (.int p5), .val (.int (2 : Int32)), .val (.int (2 : Int32)), .val (.ref b36), .val (.int (1 : Int32))] [])) _
        refine XS.iload X43.here hx rfl (hb hby at_128) rfl ?_
        show Steps p.tables e below (T43.setTop (mkF m 130 #[.val (.int p1), .val (.int p2), .val (.int p3), .val (.int p4), .val (.int p5), .val (.int (2 : Int32)), .val (.int (2 : Int32)), .val (.ref b36), .val (.int (1 : Int32))] [(.int (2 : Int32))])) _
        refine XS.iconst X43.here hx rfl (hb hby at_130) ?_
        show Steps p.tables e below (T43.setTop (mkF m 131 #[.val (.int p1), .val (.int p2), .val (.int p3), .val (.int p4), .val (.int p5), .val (.int (2 : Int32)), .val (.int (2 : Int32)), .val (.ref b36), .val (.int (1 : Int32))] [(.int (3 : Int32)), (.int (2 : Int32))])) _
        refine XS.icmpYes X43.here hx rfl (pc0 := 131) (pc' := 140) rfl (hb hby at_131) rfl (by decide) (by decide) (by decide) ?_
        show Steps p.tables e below (T43.setTop (mkF m 140 #[.val (.int p1), .val (.int p2), .val (.int p3), .val (.int p4), .val (.int p5), .val (.int (2 : Int32)), .val (.int (2 : Int32)), .val (.ref b36), .val (.int (1 : Int32))] [])) _
        refine XS.iload X43.here hx rfl (hb hby at_140) rfl ?_
        show Steps p.tables e below (T43.setTop (mkF m 142 #[.val (.int p1), .val (.int p2), .val (.int p3), .val (.int p4), .val (.int p5), .val (.int (2 : Int32)), .val (.int (2 : Int32)), .val (.ref b36), .val (.int (1 : Int32))] [(.int (1 : Int32))])) _
        refine XS.ifNo X43.here hx rfl (hb hby at_142) rfl (by decide) ?_
        show Steps p.tables e below (T43.setTop (mkF m 145 #[.val (.int p1), .val (.int p2), .val (.int p3), .val (.int p4), .val (.int p5), .val (.int (2 : Int32)), .val (.int (2 : Int32)), .val (.ref b36), .val (.int (1 : Int32))] [])) _
        refine XS.aload X43.here hx rfl (hb hby at_145) rfl rfl ?_
        show Steps p.tables e below (T43.setTop (mkF m 147 #[.val (.int p1), .val (.int p2), .val (.int p3), .val (.int p4), .val (.int p5), .val (.int (2 : Int32)), .val (.int (2 : Int32)), .val (.ref b36), .val (.int (1 : Int32))] [(.ref b36)])) _
        exact st44
      rw [own_e0] at pre44
      obtain ⟨fs, hr, hrun, hended, hW, hsame⟩ := X44.leave (v := some (.int (1 : Int32))) (fun h => by rw [Bd.returns] at h; cases h)
      refine ⟨_, _, pre44.trans ?_, hrun, hended, _, _, rfl, ?_, ⟨_, rfl⟩, hW, hsame.mono (by decide) (by decide)⟩
      · skip
        refine XS.iload X44.here hx rfl (hb hby at_150) rfl ?_
        show Steps p.tables e below (T44.setTop (mkF m 152 #[.val (.int p1), .val (.int p2), .val (.int p3), .val (.int p4), .val (.int p5), .val (.int (2 : Int32)), .val (.int (2 : Int32)), .val (.ref b36), .val (.int (1 : Int32))] [(.int (2 : Int32)), (.int (1 : Int32))])) _
        refine XS.iload X44.here hx rfl (hb hby at_152) rfl ?_
        show Steps p.tables e below (T44.setTop (mkF m 154 #[.val (.int p1), .val (.int p2), .val (.int p3), .val (.int p4), .val (.int p5), .val (.int (2 : Int32)), .val (.int (2 : Int32)), .val (.ref b36), .val (.int (1 : Int32))] [(.int (2 : Int32)), (.int (2 : Int32)), (.int (1 : Int32))])) _
        refine XS.icmpNo X44.here hx rfl (hb hby at_154) rfl (by decide) ?_
        show Steps p.tables e below (T44.setTop (mkF m 157 #[.val (.int p1), .val (.int p2), .val (.int p3), .val (.int p4), .val (.int p5), .val (.int (2 : Int32)), .val (.int (2 : Int32)), .val (.ref b36), .val (.int (1 : Int32))] [(.int (1 : Int32))])) _
        refine XS.iconst X44.here hx rfl (hb hby at_157) ?_
        show Steps p.tables e below (T44.setTop (mkF m 158 #[.val (.int p1), .val (.int p2), .val (.int p3), .val (.int p4), .val (.int p5), .val (.int (2 : Int32)), .val (.int (2 : Int32)), .val (.ref b36), .val (.int (1 : Int32))] [(.int (1 : Int32)), (.int (1 : Int32))])) _
        refine XS.goto X44.here hx rfl (pc0 := 158) (pc' := 162) rfl (hb hby at_158) (by decide) (by decide) ?_
        show Steps p.tables e below (T44.setTop (mkF m 162 #[.val (.int p1), .val (.int p2), .val (.int p3), .val (.int p4), .val (.int p5), .val (.int (2 : Int32)), .val (.int (2 : Int32)), .val (.ref b36), .val (.int (1 : Int32))] [(.int (1 : Int32)), (.int (1 : Int32))])) _
        refine XS.icmpNo X44.here hx rfl (hb hby at_162) rfl (by decide) ?_
        show Steps p.tables e below (T44.setTop (mkF m 165 #[.val (.int p1), .val (.int p2), .val (.int p3), .val (.int p4), .val (.int p5), .val (.int (2 : Int32)), .val (.int (2 : Int32)), .val (.ref b36), .val (.int (1 : Int32))] [])) _
        refine XS.iconst X44.here hx rfl (hb hby at_165) ?_
        show Steps p.tables e below (T44.setTop (mkF m 166 #[.val (.int p1), .val (.int p2), .val (.int p3), .val (.int p4), .val (.int p5), .val (.int (2 : Int32)), .val (.int (2 : Int32)), .val (.ref b36), .val (.int (1 : Int32))] [(.int (1 : Int32))])) _
        refine XS.goto X44.here hx rfl (pc0 := 166) (pc' := 170) rfl (hb hby at_166) (by decide) (by decide) ?_
        show Steps p.tables e below (T44.setTop (mkF m 170 #[.val (.int p1), .val (.int p2), .val (.int p3), .val (.int p4), .val (.int p5), .val (.int (2 : Int32)), .val (.int (2 : Int32)), .val (.ref b36), .val (.int (1 : Int32))] [(.int (1 : Int32))])) _
        exact retN X44 hx (t := .boolean) Bd.returns (by simp) (hb hby at_170) hr
      · show Q0 Z p1 p2 p3 p4 p5  h0 n0 _ T44.heap _
        rw [e44]
        exact ⟨rfl, N44⟩
    · exact absurd (by decide) hle
  · skip
    rw [hn] at hle
    rw [hn] at pre2
    rcases hk with rfl | rfl | rfl | rfl
    · skip
      obtain ⟨T45, h45, X45, e45, E45, A45, D45, -, st45⟩ := newO X0 hx hZ hown (hw _ (List.mem_of_getElem? (i := 0) rfl)) (hw _ (List.mem_of_getElem? (i := 1) rfl)) (hw _ (List.mem_of_getElem? (i := 2) rfl)) e0 (g := (mkF m 21 #[.val (.int p1), .val (.int p2), .val (.int p3), .val (.int p4), .val (.int p5), .val (.int (3 : Int32)), .val (.int (0 : Int32)), .unset, .unset] [])) rfl (hb hby at_21) (by decide) (by decide)
      obtain ⟨b45, g45⟩ : ∃ z, z = h0.size := ⟨_, rfl⟩
      rw [← g45] at A45 D45 st45
      have pre45 : Steps p.tables e below (s₁.setTop (entryFrame m #[(.int p1), (.int p2), (.int p3), (.int p4), (.int p5)] maxLocals)) (T45.setTop (mkF m 24 #[.val (.int p1), .val (.int p2), .val (.int p3), .val (.int p4), .val (.int p5), .val (.int (3 : Int32)), .val (.int (0 : Int32)), .unset, .unset] [(.ref b45)])) := by
        refine pre2.trans ?_
        exact st45 _ (Steps.refl _)
      have gg : n0 ≤ b45 := Nat.le_trans Z0 (Nat.le_of_eq g45.symm)
      have Y45 : n0 ≤ h45.size := Nat.le_trans Z0 E45.1
      have FA := D45 (Or.inl (hw _ (List.mem_of_getElem? (i := 18) rfl))) (ty := .int) (by decide)
      have FB := D45 (Or.inl (hw _ (List.mem_of_getElem? (i := 11) rfl))) (ty := (.array .int)) (by decide)
      obtain ⟨_, _, ⟨T46, L46, k46, n46⟩, -, X46, ⟨Lc46, hQ46, l46, y46, z46⟩, st46⟩ := X45.specialBack hx (y := (⟨"com/example/brisk_tableau/brisktableau/ltl/IntStack", "<init>", "()V"⟩ : MethodName)) rfl hown (mvT hZ (hw _ (List.mem_of_getElem? (i := 3) rfl))) (mvT hZ (hw _ (List.mem_of_getElem? (i := 4) rfl))) (mvT hZ (hw _ (List.mem_of_getElem? (i := 5) rfl))) (by decide) (backOf (W := 1) (rm1 l Z a0 hw [] b45 _ h45 n0 Y45 A45 FA FB gg) hZ (hw _ (List.mem_of_getElem? (i := 5) rfl)) (hw _ (List.mem_of_getElem? (i := 2) rfl)) (by decide) (by decide)) (g := (mkF m 25 #[.val (.int p1), .val (.int p2), .val (.int p3), .val (.int p4), .val (.int p5), .val (.int (3 : Int32)), .val (.int (0 : Int32)), .unset, .unset] [(.ref b45), (.ref b45)])) rfl (by rw [hml]; rfl) (Steps.refl _) (a := b45) (argsL := []) (rest := [(.ref b45)]) (lenOf pd_0 rfl) rfl (by show 2 * 0 + _ ≤ _; exact Nat.le_of_eq rfl) (hb hby at_25) (fun _ _ => ⟨rfl, e45, (by decide : 1 + 1 ≤ _), (by decide : 2 + 16 ≤ _)⟩)
      dsimp only [Pt.U, Pt.locs, Pt.cells, Pt.slots] at X46 l46 y46 z46 st46 hQ46
      subst l46 y46 z46
      obtain ⟨rfl, M46, K46, bb, gb, S46⟩ := hQ46
      have N46 := Fr.app N0 M46
      have pre46 : Steps p.tables e below (s₁.setTop (entryFrame m #[(.int p1), (.int p2), (.int p3), (.int p4), (.int p5)] maxLocals)) (T46.setTop (mkF m 28 #[.val (.int p1), .val (.int p2), .val (.int p3), .val (.int p4), .val (.int p5), .val (.int (3 : Int32)), .val (.int (0 : Int32)), .unset, .unset] [(.ref b45)])) := by
        refine pre45.trans ?_
        refine XS.dup X45.here hx rfl (hb hby at_24) rfl rfl ?_
        show Steps p.tables e below (T45.setTop (mkF m 25 #[.val (.int p1), .val (.int p2), .val (.int p3), .val (.int p4), .val (.int p5), .val (.int (3 : Int32)), .val (.int (0 : Int32)), .unset, .unset] [(.ref b45), (.ref b45)])) _
        exact st46
      have Y46 : n0 ≤ T46.heap.size := Nat.le_trans Y45 K46.1
      obtain ⟨cq47, kq47, q47a, q47b, q47c⟩ := isOf hZ rfl S46.1
      obtain ⟨_, _, ⟨T47, L47, k47, n47⟩, -, X47, ⟨Lc47, hQ47, l47, y47, z47⟩, st47⟩ := X46.virtualBack hx (y := (⟨"com/example/brisk_tableau/brisktableau/ltl/IntStack", "isEmpty", "()Z"⟩ : MethodName)) (z := (⟨"com/example/brisk_tableau/brisktableau/ltl/IntStack", "isEmpty", "()Z"⟩ : MethodName)) hown (mvT hZ (hw _ (List.mem_of_getElem? (i := 12) rfl))) (mvT hZ (hw _ (List.mem_of_getElem? (i := 13) rfl))) (notFace_of_selects (args := #[]) (mvT hZ (hw _ (List.mem_of_getElem? (i := 15) rfl)))) (mvT hZ (hw _ (List.mem_of_getElem? (i := 15) rfl))) (mvT hZ (hw _ (List.mem_of_getElem? (i := 14) rfl))) (by decide) (backOf (W := 0) (rm3 l Z a0 hw [] b45 (0 : Int32) bb T46.heap n0 Y46 S46) hZ (hw _ (List.mem_of_getElem? (i := 16) rfl)) (hw _ (List.mem_of_getElem? (i := 2) rfl)) (by decide) (by decide)) q47a q47c (g := (mkF m 32 #[.val (.int p1), .val (.int p2), .val (.int p3), .val (.int p4), .val (.int p5), .val (.int (3 : Int32)), .val (.int (0 : Int32)), .val (.ref b45), .unset] [(.ref b45)])) rfl (by rw [hml]; rfl) (Steps.refl _) (argsL := []) (rest := []) (lenOf pd_1 rfl) rfl (by show 2 * 0 + _ ≤ _; exact Nat.le_of_eq rfl) (hb hby at_32) (fun _ _ => ⟨rfl, rfl, (by decide : 2 + 0 ≤ _), (by decide : 18 + 0 ≤ _)⟩)
      dsimp only [Pt.U, Pt.locs, Pt.cells, Pt.slots] at X47 l47 y47 z47 st47 hQ47
      subst l47 y47 z47
      obtain ⟨rfl, M47, e47⟩ := hQ47
      have N47 := Fr.app N46 M47
      have pre47 : Steps p.tables e below (s₁.setTop (entryFrame m #[(.int p1), (.int p2), (.int p3), (.int p4), (.int p5)] maxLocals)) (T47.setTop (mkF m 35 #[.val (.int p1), .val (.int p2), .val (.int p3), .val (.int p4), .val (.int p5), .val (.int (3 : Int32)), .val (.int (0 : Int32)), .val (.ref b45), .unset] [(.int (own_emp (0 : Int32)))])) := by
        refine pre46.trans ?_
        refine XS.astore X46.here hx rfl (hb hby at_28) rfl rfl (l' := #[.val (.int p1), .val (.int p2), .val (.int p3), .val (.int p4), .val (.int p5), .val (.int (3 : Int32)), .val (.int (0 : Int32)), .val (.ref b45), .unset]) rfl ?_
        show Steps p.tables e below (T46.setTop (mkF m 30 #[.val (.int p1), .val (.int p2), .val (.int p3), .val (.int p4), .val (.int p5), .val (.int (3 : Int32)), .val (.int (0 : Int32)), .val (.ref b45), .unset] [])) _
        refine XS.aload X46.here hx rfl (hb hby at_30) rfl rfl ?_
        show Steps p.tables e below (T46.setTop (mkF m 32 #[.val (.int p1), .val (.int p2), .val (.int p3), .val (.int p4), .val (.int p5), .val (.int (3 : Int32)), .val (.int (0 : Int32)), .val (.ref b45), .unset] [(.ref b45)])) _
        exact st47
      rw [own_e0] at pre47
      obtain ⟨cq48, kq48, q48a, q48b, q48c⟩ := isOf hZ e47 S46.1
      obtain ⟨_, _, ⟨T48, L48, k48, n48⟩, -, X48, ⟨Lc48, hQ48, l48, y48, z48⟩, st48⟩ := X47.virtualBack hx (y := (⟨"com/example/brisk_tableau/brisktableau/ltl/IntStack", "push", "(I)V"⟩ : MethodName)) (z := (⟨"com/example/brisk_tableau/brisktableau/ltl/IntStack", "push", "(I)V"⟩ : MethodName)) hown (mvT hZ (hw _ (List.mem_of_getElem? (i := 19) rfl))) (mvT hZ (hw _ (List.mem_of_getElem? (i := 20) rfl))) (notFace_of_selects (args := #[]) (mvT hZ (hw _ (List.mem_of_getElem? (i := 22) rfl)))) (mvT hZ (hw _ (List.mem_of_getElem? (i := 22) rfl))) (mvT hZ (hw _ (List.mem_of_getElem? (i := 21) rfl))) (by decide) (backOf (W := 0) (rm4 l Z a0 hw [] b45 p3 (0 : Int32) (1 : Int32) bb T46.heap n0 Y46 S46 gg gb (by decide) (by decide)) hZ (hw _ (List.mem_of_getElem? (i := 23) rfl)) (hw _ (List.mem_of_getElem? (i := 2) rfl)) (by decide) (by decide)) q48a q48c (g := (mkF m 46 #[.val (.int p1), .val (.int p2), .val (.int p3), .val (.int p4), .val (.int p5), .val (.int (3 : Int32)), .val (.int (0 : Int32)), .val (.ref b45), .val (.int (1 : Int32))] [(.int p3), (.ref b45)])) rfl (by rw [hml]; rfl) (Steps.refl _) (argsL := [(.int p3)]) (rest := []) (lenOf pd_2 rfl) rfl (by show 2 * 0 + _ ≤ _; exact Nat.le_of_eq rfl) (hb hby at_46) (fun _ _ => ⟨rfl, e47, (by decide : 2 + 0 ≤ _), (by decide : 18 + 0 ≤ _)⟩)
      dsimp only [Pt.U, Pt.locs, Pt.cells, Pt.slots] at X48 l48 y48 z48 st48 hQ48
      subst l48 y48 z48
      obtain ⟨rfl, M48, K48, S48⟩ := hQ48
      have N48 := Fr.app N47 M48
      have pre48 : Steps p.tables e below (s₁.setTop (entryFrame m #[(.int p1), (.int p2), (.int p3), (.int p4), (.int p5)] maxLocals)) (T48.setTop (mkF m 49 #[.val (.int p1), .val (.int p2), .val (.int p3), .val (.int p4), .val (.int p5), .val (.int (3 : Int32)), .val (.int (0 : Int32)), .val (.ref b45), .val (.int (1 : Int32))] [])) := by
        refine pre47.trans ?_
        refine XS.istore X47.here hx rfl (hb hby at_35) rfl (l' := #[.val (.int p1), .val (.int p2), .val (.int p3), .val (.int p4), .val (.int p5), .val (.int (3 : Int32)), .val (.int (0 : Int32)), .val (.ref b45), .val (.int (1 : Int32))]) rfl ?_
        show Steps p.tables e below (T47.setTop (mkF m 37 #[.val (.int p1), .val (.int p2), .val (.int p3), .val (.int p4), .val (.int p5), .val (.int (3 : Int32)), .val (.int (0 : Int32)), .val (.ref b45), .val (.int (1 : Int32))] [])) _
        refine XS.iload X47.here hx rfl (hb hby at_37) rfl ?_
        show Steps p.tables e below (T47.setTop (mkF m 39 #[.val (.int p1), .val (.int p2), .val (.int p3), .val (.int p4), .val (.int p5), .val (.int (3 : Int32)), .val (.int (0 : Int32)), .val (.ref b45), .val (.int (1 : Int32))] [(.int (3 : Int32))])) _
        refine XS.iconst X47.here hx rfl (hb hby at_39) ?_
        show Steps p.tables e below (T47.setTop (mkF m 40 #[.val (.int p1), .val (.int p2), .val (.int p3), .val (.int p4), .val (.int p5), .val (.int (3 : Int32)), .val (.int (0 : Int32)), .val (.ref b45), .val (.int (1 : Int32))] [(.int (1 : Int32)), (.int (3 : Int32))])) _
        refine XS.icmpNo X47.here hx rfl (hb hby at_40) rfl (by decide) ?_
        show Steps p.tables e below (T47.setTop (mkF m 43 #[.val (.int p1), .val (.int p2), .val (.int p3), .val (.int p4), .val (.int p5), .val (.int (3 : Int32)), .val (.int (0 : Int32)), .val (.ref b45), .val (.int (1 : Int32))] [])) _
        refine XS.aload X47.here hx rfl (hb hby at_43) rfl rfl ?_
        show Steps p.tables e below (T47.setTop (mkF m 45 #[.val (.int p1), .val (.int p2), .val (.int p3), .val (.int p4), .val (.int p5), .val (.int (3 : Int32)), .val (.int (0 : Int32)), .val (.ref b45), .val (.int (1 : Int32))] [(.ref b45)])) _
        refine XS.iloadN X47.here hx rfl (hb hby at_45) rfl ?_
        show Steps p.tables e below (T47.setTop (mkF m 46 #[.val (.int p1), .val (.int p2), .val (.int p3), .val (.int p4), .val (.int p5), .val (.int (3 : Int32)), .val (.int (0 : Int32)), .val (.ref b45), .val (.int (1 : Int32))] [(.int p3), (.ref b45)])) _
        exact st48
      have Y48 : n0 ≤ T48.heap.size := Nat.le_trans Y46 K48.1
      obtain ⟨cq49, kq49, q49a, q49b, q49c⟩ := isOf hZ rfl S48.1
      obtain ⟨_, _, ⟨T49, L49, k49, n49⟩, -, X49, ⟨Lc49, hQ49, l49, y49, z49⟩, st49⟩ := X48.virtualBack hx (y := (⟨"com/example/brisk_tableau/brisktableau/ltl/IntStack", "push", "(I)V"⟩ : MethodName)) (z := (⟨"com/example/brisk_tableau/brisktableau/ltl/IntStack", "push", "(I)V"⟩ : MethodName)) hown (mvT hZ (hw _ (List.mem_of_getElem? (i := 19) rfl))) (mvT hZ (hw _ (List.mem_of_getElem? (i := 20) rfl))) (notFace_of_selects (args := #[]) (mvT hZ (hw _ (List.mem_of_getElem? (i := 22) rfl)))) (mvT hZ (hw _ (List.mem_of_getElem? (i := 22) rfl))) (mvT hZ (hw _ (List.mem_of_getElem? (i := 21) rfl))) (by decide) (backOf (W := 0) (rm4 l Z a0 hw [] b45 p4 (1 : Int32) (2 : Int32) bb T48.heap n0 Y48 S48 gg gb (by decide) (by decide)) hZ (hw _ (List.mem_of_getElem? (i := 23) rfl)) (hw _ (List.mem_of_getElem? (i := 2) rfl)) (by decide) (by decide)) q49a q49c (g := (mkF m 58 #[.val (.int p1), .val (.int p2), .val (.int p3), .val (.int p4), .val (.int p5), .val (.int (3 : Int32)), .val (.int (0 : Int32)), .val (.ref b45), .val (.int (1 : Int32))] [(.int p4), (.ref b45)])) rfl (by rw [hml]; rfl) (Steps.refl _) (argsL := [(.int p4)]) (rest := []) (lenOf pd_2 rfl) rfl (by show 2 * 0 + _ ≤ _; exact Nat.le_of_eq rfl) (hb hby at_58) (fun _ _ => ⟨rfl, rfl, (by decide : 2 + 0 ≤ _), (by decide : 18 + 0 ≤ _)⟩)
      dsimp only [Pt.U, Pt.locs, Pt.cells, Pt.slots] at X49 l49 y49 z49 st49 hQ49
      subst l49 y49 z49
      obtain ⟨rfl, M49, K49, S49⟩ := hQ49
      have N49 := Fr.app N48 M49
      have pre49 : Steps p.tables e below (s₁.setTop (entryFrame m #[(.int p1), (.int p2), (.int p3), (.int p4), (.int p5)] maxLocals)) (T49.setTop (mkF m 61 #[.val (.int p1), .val (.int p2), .val (.int p3), .val (.int p4), .val (.int p5), .val (.int (3 : Int32)), .val (.int (0 : Int32)), .val (.ref b45), .val (.int (1 : Int32))] [])) := by
        refine pre48.trans ?_
        refine XS.iload X48.here hx rfl (hb hby at_49) rfl ?_
        show Steps p.tables e below (T48.setTop (mkF m 51 #[.val (.int p1), .val (.int p2), .val (.int p3), .val (.int p4), .val (.int p5), .val (.int (3 : Int32)), .val (.int (0 : Int32)), .val (.ref b45), .val (.int (1 : Int32))] [(.int (3 : Int32))])) _
        refine XS.iconst X48.here hx rfl (hb hby at_51) ?_
        show Steps p.tables e below (T48.setTop (mkF m 52 #[.val (.int p1), .val (.int p2), .val (.int p3), .val (.int p4), .val (.int p5), .val (.int (3 : Int32)), .val (.int (0 : Int32)), .val (.ref b45), .val (.int (1 : Int32))] [(.int (2 : Int32)), (.int (3 : Int32))])) _
        refine XS.icmpNo X48.here hx rfl (hb hby at_52) rfl (by decide) ?_
        show Steps p.tables e below (T48.setTop (mkF m 55 #[.val (.int p1), .val (.int p2), .val (.int p3), .val (.int p4), .val (.int p5), .val (.int (3 : Int32)), .val (.int (0 : Int32)), .val (.ref b45), .val (.int (1 : Int32))] [])) _
        refine XS.aload X48.here hx rfl (hb hby at_55) rfl rfl ?_
        show Steps p.tables e below (T48.setTop (mkF m 57 #[.val (.int p1), .val (.int p2), .val (.int p3), .val (.int p4), .val (.int p5), .val (.int (3 : Int32)), .val (.int (0 : Int32)), .val (.ref b45), .val (.int (1 : Int32))] [(.ref b45)])) _
        refine XS.iloadN X48.here hx rfl (hb hby at_57) rfl ?_
        show Steps p.tables e below (T48.setTop (mkF m 58 #[.val (.int p1), .val (.int p2), .val (.int p3), .val (.int p4), .val (.int p5), .val (.int (3 : Int32)), .val (.int (0 : Int32)), .val (.ref b45), .val (.int (1 : Int32))] [(.int p4), (.ref b45)])) _
        exact st49
      have Y49 : n0 ≤ T49.heap.size := Nat.le_trans Y48 K49.1
      obtain ⟨cq50, kq50, q50a, q50b, q50c⟩ := isOf hZ rfl S49.1
      obtain ⟨_, _, ⟨T50, L50, k50, n50⟩, -, X50, ⟨Lc50, hQ50, l50, y50, z50⟩, st50⟩ := X49.virtualBack hx (y := (⟨"com/example/brisk_tableau/brisktableau/ltl/IntStack", "push", "(I)V"⟩ : MethodName)) (z := (⟨"com/example/brisk_tableau/brisktableau/ltl/IntStack", "push", "(I)V"⟩ : MethodName)) hown (mvT hZ (hw _ (List.mem_of_getElem? (i := 19) rfl))) (mvT hZ (hw _ (List.mem_of_getElem? (i := 20) rfl))) (notFace_of_selects (args := #[]) (mvT hZ (hw _ (List.mem_of_getElem? (i := 22) rfl)))) (mvT hZ (hw _ (List.mem_of_getElem? (i := 22) rfl))) (mvT hZ (hw _ (List.mem_of_getElem? (i := 21) rfl))) (by decide) (backOf (W := 0) (rm4 l Z a0 hw [] b45 p5 (2 : Int32) (3 : Int32) bb T49.heap n0 Y49 S49 gg gb (by decide) (by decide)) hZ (hw _ (List.mem_of_getElem? (i := 23) rfl)) (hw _ (List.mem_of_getElem? (i := 2) rfl)) (by decide) (by decide)) q50a q50c (g := (mkF m 71 #[.val (.int p1), .val (.int p2), .val (.int p3), .val (.int p4), .val (.int p5), .val (.int (3 : Int32)), .val (.int (0 : Int32)), .val (.ref b45), .val (.int (1 : Int32))] [(.int p5), (.ref b45)])) rfl (by rw [hml]; rfl) (Steps.refl _) (argsL := [(.int p5)]) (rest := []) (lenOf pd_2 rfl) rfl (by show 2 * 0 + _ ≤ _; exact Nat.le_of_eq rfl) (hb hby at_71) (fun _ _ => ⟨rfl, rfl, (by decide : 2 + 0 ≤ _), (by decide : 18 + 0 ≤ _)⟩)
      dsimp only [Pt.U, Pt.locs, Pt.cells, Pt.slots] at X50 l50 y50 z50 st50 hQ50
      subst l50 y50 z50
      obtain ⟨rfl, M50, K50, S50⟩ := hQ50
      have N50 := Fr.app N49 M50
      have pre50 : Steps p.tables e below (s₁.setTop (entryFrame m #[(.int p1), (.int p2), (.int p3), (.int p4), (.int p5)] maxLocals)) (T50.setTop (mkF m 74 #[.val (.int p1), .val (.int p2), .val (.int p3), .val (.int p4), .val (.int p5), .val (.int (3 : Int32)), .val (.int (0 : Int32)), .val (.ref b45), .val (.int (1 : Int32))] [])) := by
        refine pre49.trans ?_
        refine XS.iload X49.here hx rfl (hb hby at_61) rfl ?_
        show Steps p.tables e below (T49.setTop (mkF m 63 #[.val (.int p1), .val (.int p2), .val (.int p3), .val (.int p4), .val (.int p5), .val (.int (3 : Int32)), .val (.int (0 : Int32)), .val (.ref b45), .val (.int (1 : Int32))] [(.int (3 : Int32))])) _
        refine XS.iconst X49.here hx rfl (hb hby at_63) ?_
        show Steps p.tables e below (T49.setTop (mkF m 64 #[.val (.int p1), .val (.int p2), .val (.int p3), .val (.int p4), .val (.int p5), .val (.int (3 : Int32)), .val (.int (0 : Int32)), .val (.ref b45), .val (.int (1 : Int32))] [(.int (3 : Int32)), (.int (3 : Int32))])) _
        refine XS.icmpNo X49.here hx rfl (hb hby at_64) rfl (by decide) ?_
        show Steps p.tables e below (T49.setTop (mkF m 67 #[.val (.int p1), .val (.int p2), .val (.int p3), .val (.int p4), .val (.int p5), .val (.int (3 : Int32)), .val (.int (0 : Int32)), .val (.ref b45), .val (.int (1 : Int32))] [])) _
        refine XS.aload X49.here hx rfl (hb hby at_67) rfl rfl ?_
        show Steps p.tables e below (T49.setTop (mkF m 69 #[.val (.int p1), .val (.int p2), .val (.int p3), .val (.int p4), .val (.int p5), .val (.int (3 : Int32)), .val (.int (0 : Int32)), .val (.ref b45), .val (.int (1 : Int32))] [(.ref b45)])) _
        refine XS.iload X49.here hx rfl (hb hby at_69) rfl ?_
        show Steps p.tables e below (T49.setTop (mkF m 71 #[.val (.int p1), .val (.int p2), .val (.int p3), .val (.int p4), .val (.int p5), .val (.int (3 : Int32)), .val (.int (0 : Int32)), .val (.ref b45), .val (.int (1 : Int32))] [(.int p5), (.ref b45)])) _
        exact st50
      have Y50 : n0 ≤ T50.heap.size := Nat.le_trans Y49 K50.1
      obtain ⟨cq51, kq51, q51a, q51b, q51c⟩ := isOf hZ rfl S50.1
      obtain ⟨_, _, ⟨T51, L51, k51, n51⟩, -, X51, ⟨Lc51, hQ51, l51, y51, z51⟩, st51⟩ := X50.virtualBack hx (y := (⟨"com/example/brisk_tableau/brisktableau/ltl/IntStack", "isEmpty", "()Z"⟩ : MethodName)) (z := (⟨"com/example/brisk_tableau/brisktableau/ltl/IntStack", "isEmpty", "()Z"⟩ : MethodName)) hown (mvT hZ (hw _ (List.mem_of_getElem? (i := 12) rfl))) (mvT hZ (hw _ (List.mem_of_getElem? (i := 13) rfl))) (notFace_of_selects (args := #[]) (mvT hZ (hw _ (List.mem_of_getElem? (i := 15) rfl)))) (mvT hZ (hw _ (List.mem_of_getElem? (i := 15) rfl))) (mvT hZ (hw _ (List.mem_of_getElem? (i := 14) rfl))) (by decide) (backOf (W := 0) (rm3 l Z a0 hw [] b45 (3 : Int32) bb T50.heap n0 Y50 S50) hZ (hw _ (List.mem_of_getElem? (i := 16) rfl)) (hw _ (List.mem_of_getElem? (i := 2) rfl)) (by decide) (by decide)) q51a q51c (g := (mkF m 81 #[.val (.int p1), .val (.int p2), .val (.int p3), .val (.int p4), .val (.int p5), .val (.int (3 : Int32)), .val (.int (0 : Int32)), .val (.ref b45), .val (.int (1 : Int32))] [(.ref b45)])) rfl (by rw [hml]; rfl) (Steps.refl _) (argsL := []) (rest := []) (lenOf pd_1 rfl) rfl (by show 2 * 0 + _ ≤ _; exact Nat.le_of_eq rfl) (hb hby at_81) (fun _ _ => ⟨rfl, rfl, (by decide : 2 + 0 ≤ _), (by decide : 18 + 0 ≤ _)⟩)
      dsimp only [Pt.U, Pt.locs, Pt.cells, Pt.slots] at X51 l51 y51 z51 st51 hQ51
      subst l51 y51 z51
      obtain ⟨rfl, M51, e51⟩ := hQ51
      have N51 := Fr.app N50 M51
      have pre51 : Steps p.tables e below (s₁.setTop (entryFrame m #[(.int p1), (.int p2), (.int p3), (.int p4), (.int p5)] maxLocals)) (T51.setTop (mkF m 84 #[.val (.int p1), .val (.int p2), .val (.int p3), .val (.int p4), .val (.int p5), .val (.int (3 : Int32)), .val (.int (0 : Int32)), .val (.ref b45), .val (.int (1 : Int32))] [(.int (own_emp (3 : Int32)))])) := by
        refine pre50.trans ?_
        refine XS.iload X50.here hx rfl (hb hby at_74) rfl ?_
        show Steps p.tables e below (T50.setTop (mkF m 76 #[.val (.int p1), .val (.int p2), .val (.int p3), .val (.int p4), .val (.int p5), .val (.int (3 : Int32)), .val (.int (0 : Int32)), .val (.ref b45), .val (.int (1 : Int32))] [(.int (1 : Int32))])) _
        refine XS.ifNo X50.here hx rfl (hb hby at_76) rfl (by decide) ?_
        show Steps p.tables e below (T50.setTop (mkF m 79 #[.val (.int p1), .val (.int p2), .val (.int p3), .val (.int p4), .val (.int p5), .val (.int (3 : Int32)), .val (.int (0 : Int32)), .val (.ref b45), .val (.int (1 : Int32))] [])) _
        refine XS.aload X50.here hx rfl (hb hby at_79) rfl rfl ?_
        show Steps p.tables e below (T50.setTop (mkF m 81 #[.val (.int p1), .val (.int p2), .val (.int p3), .val (.int p4), .val (.int p5), .val (.int (3 : Int32)), .val (.int (0 : Int32)), .val (.ref b45), .val (.int (1 : Int32))] [(.ref b45)])) _
        exact st51
      rw [own_e3] at pre51
      obtain ⟨cq52, kq52, q52a, q52b, q52c⟩ := isOf hZ e51 S50.1
      obtain ⟨_, _, ⟨T52, L52, k52, n52⟩, -, X52, ⟨Lc52, hQ52, l52, y52, z52⟩, st52⟩ := X51.virtualBack hx (y := (⟨"com/example/brisk_tableau/brisktableau/ltl/IntStack", "isEmpty", "()Z"⟩ : MethodName)) (z := (⟨"com/example/brisk_tableau/brisktableau/ltl/IntStack", "isEmpty", "()Z"⟩ : MethodName)) hown (mvT hZ (hw _ (List.mem_of_getElem? (i := 12) rfl))) (mvT hZ (hw _ (List.mem_of_getElem? (i := 13) rfl))) (notFace_of_selects (args := #[]) (mvT hZ (hw _ (List.mem_of_getElem? (i := 15) rfl)))) (mvT hZ (hw _ (List.mem_of_getElem? (i := 15) rfl))) (mvT hZ (hw _ (List.mem_of_getElem? (i := 14) rfl))) (by decide) (backOf (W := 0) (rm3 l Z a0 hw [] b45 (3 : Int32) bb T50.heap n0 Y50 S50) hZ (hw _ (List.mem_of_getElem? (i := 16) rfl)) (hw _ (List.mem_of_getElem? (i := 2) rfl)) (by decide) (by decide)) q52a q52c (g := (mkF m 147 #[.val (.int p1), .val (.int p2), .val (.int p3), .val (.int p4), .val (.int p5), .val (.int (3 : Int32)), .val (.int (0 : Int32)), .val (.ref b45), .val (.int (1 : Int32))] [(.ref b45)])) rfl (by rw [hml]; rfl) (Steps.refl _) (argsL := []) (rest := []) (lenOf pd_1 rfl) rfl (by show 2 * 0 + _ ≤ _; exact Nat.le_of_eq rfl) (hb hby at_147) (fun _ _ => ⟨rfl, e51, (by decide : 2 + 0 ≤ _), (by decide : 18 + 0 ≤ _)⟩)
      dsimp only [Pt.U, Pt.locs, Pt.cells, Pt.slots] at X52 l52 y52 z52 st52 hQ52
      subst l52 y52 z52
      obtain ⟨rfl, M52, e52⟩ := hQ52
      have N52 := Fr.app N51 M52
      have pre52 : Steps p.tables e below (s₁.setTop (entryFrame m #[(.int p1), (.int p2), (.int p3), (.int p4), (.int p5)] maxLocals)) (T52.setTop (mkF m 150 #[.val (.int p1), .val (.int p2), .val (.int p3), .val (.int p4), .val (.int p5), .val (.int (3 : Int32)), .val (.int (0 : Int32)), .val (.ref b45), .val (.int (1 : Int32))] [(.int (own_emp (3 : Int32)))])) := by
        refine pre51.trans ?_
        refine XS.iload X51.here hx rfl (hb hby at_84) rfl ?_
        show Steps p.tables e below (T51.setTop (mkF m 86 #[.val (.int p1), .val (.int p2), .val (.int p3), .val (.int p4), .val (.int p5), .val (.int (3 : Int32)), .val (.int (0 : Int32)), .val (.ref b45), .val (.int (1 : Int32))] [(.int (3 : Int32)), (.int (0 : Int32))])) _
        refine XS.ifYes X51.here hx rfl (pc0 := 86) (pc' := 93) rfl (hb hby at_86) rfl (by decide) (by decide) (by decide) ?_
        show Steps p.tables e below (T51.setTop (mkF m 93 #[.val (.int p1), .val (.int p2), .val (.int p3), .val (.int p4), .val (.int p5), .val (.int (3 : Int32)), .val (.int (0 : Int32)), .val (.ref b45), .val (.int (1 : Int32))] [(.int (0 : Int32))])) _
        refine XS.iconst X51.here hx rfl (hb hby at_93) ?_
        show Steps p.tables e below (T51.setTop (mkF m 94 #[.val (.int p1), .val (.int p2), .val (.int p3), .val (.int p4), .val (.int p5), .val (.int (3 : Int32)), .val (.int (0 : Int32)), .val (.ref b45), .val (.int (1 : Int32))] [(.int (0 : Int32)), (.int (0 : Int32))])) _
        refine XS.icmpNo X51.here hx rfl (hb hby at_94) rfl (by decide) ?_
        show Steps p.tables e below (T51.setTop (mkF m 97 #[.val (.int p1), .val (.int p2), .val (.int p3), .val (.int p4), .val (.int p5), .val (.int (3 : Int32)), .val (.int (0 : Int32)), .val (.ref b45), .val (.int (1 : Int32))] [])) _
        refine XS.iconst X51.here hx rfl (hb hby at_97) ?_
        show Steps p.tables e below (T51.setTop (mkF m 98 #[.val (.int p1), .val (.int p2), .val (.int p3), .val (.int p4), .val (.int p5), .val (.int (3 : Int32)), .val (.int (0 : Int32)), .val (.ref b45), .val (.int (1 : Int32))] [(.int (1 : Int32))])) _
        refine XS.goto X51.here hx rfl (pc0 := 98) (pc' := 102) rfl (hb hby at_98) (by decide) (by decide) ?_
        show Steps p.tables e below (T51.setTop (mkF m 102 #[.val (.int p1), .val (.int p2), .val (.int p3), .val (.int p4), .val (.int p5), .val (.int (3 : Int32)), .val (.int (0 : Int32)), .val (.ref b45), .val (.int (1 : Int32))] [(.int (1 : Int32))])) _
        refine XS.istore X51.here hx rfl (hb hby at_102) rfl (l' := #[.val (.int p1), .val (.int p2), .val (.int p3), .val (.int p4), .val (.int p5), .val (.int (3 : Int32)), .val (.int (0 : Int32)), .val (.ref b45), .val (.int (1 : Int32))]) rfl ?_
        show Steps p.tables e below (T51.setTop (mkF m 104 #[.val (.int p1), .val (.int p2), .val (.int p3), .val (.int p4), .val (.int p5), .val (.int (3 : Int32)), .val (.int (0 : Int32)), .val (.ref b45), .val (.int (1 : Int32))] [])) _
        refine XS.iload X51.here hx rfl (hb hby at_104) rfl ?_
        show Steps p.tables e below (T51.setTop (mkF m 106 #[.val (.int p1), .val (.int p2), .val (.int p3), .val (.int p4), .val (.int p5), .val (.int (3 : Int32)), .val (.int (0 : Int32)), .val (.ref b45), .val (.int (1 : Int32))] [(.int (0 : Int32))])) _
        refine XS.iconst X51.here hx rfl (hb hby at_106) ?_
        show Steps p.tables e below (T51.setTop (mkF m 107 #[.val (.int p1), .val (.int p2), .val (.int p3), .val (.int p4), .val (.int p5), .val (.int (3 : Int32)), .val (.int (0 : Int32)), .val (.ref b45), .val (.int (1 : Int32))] [(.int (1 : Int32)), (.int (0 : Int32))])) _
        refine XS.icmpYes X51.here hx rfl (pc0 := 107) (pc' := 116) rfl (hb hby at_107) rfl (by decide) (by decide) (by decide) ?_
        show Steps p.tables e below (T51.setTop (mkF m 116 #[.val (.int p1), .val (.int p2), .val (.int p3), .val (.int p4), .val (.int p5), .val (.int (3 : Int32)), .val (.int (0 : Int32)), .val (.ref b45), .val (.int (1 : Int32))] [])) _
        refine XS.iload X51.here hx rfl (hb hby at_116) rfl ?_
        show Steps p.tables e below (T51.setTop (mkF m 118 #[.val (.int p1), .val (.int p2), .val (.int p3), .val (.int p4), .val (.int p5), .val (.int (3 : Int32)), .val (.int (0 : Int32)), .val (.ref b45), .val (.int (1 : Int32))] [(.int (0 : Int32))])) _
        refine XS.iconst X51.here hx rfl (hb hby at_118) ?_
        show Steps p.tables e below (T51.setTop (mkF m 119 #[.val (.int p1), .val (.int p2), .val (.int p3), .val (.int p4), .val (.int p5), .val (.int (3 : Int32)), .val (.int (0 : Int32)), .val (.ref b45), .val (.int (1 : Int32))] [(.int (2 : Int32)), (.int (0 : Int32))])) _
        refine XS.icmpYes X51.here hx rfl (pc0 := 119) (pc' := 128) rfl (hb hby at_119) rfl (by decide) (by decide) (by decide) ?_
        show Steps p.tables e below (T51.setTop (mkF m 128 #[.val (.int p1), .val (.int p2), .val (.int p3), .val (.int p4), .val (.int p5), .val (.int (3 : Int32)), .val (.int (0 : Int32)), .val (.ref b45), .val (.int (1 : Int32))] [])) _
        refine XS.iload X51.here hx rfl (hb hby at_128) rfl ?_
        show Steps p.tables e below (T51.setTop (mkF m 130 #[.val (.int p1), .val (.int p2), .val (.int p3), .val (.int p4), .val (.int p5), .val (.int (3 : Int32)), .val (.int (0 : Int32)), .val (.ref b45), .val (.int (1 : Int32))] [(.int (0 : Int32))])) _
        refine XS.iconst X51.here hx rfl (hb hby at_130) ?_
        show Steps p.tables e below (T51.setTop (mkF m 131 #[.val (.int p1), .val (.int p2), .val (.int p3), .val (.int p4), .val (.int p5), .val (.int (3 : Int32)), .val (.int (0 : Int32)), .val (.ref b45), .val (.int (1 : Int32))] [(.int (3 : Int32)), (.int (0 : Int32))])) _
        refine XS.icmpYes X51.here hx rfl (pc0 := 131) (pc' := 140) rfl (hb hby at_131) rfl (by decide) (by decide) (by decide) ?_
        show Steps p.tables e below (T51.setTop (mkF m 140 #[.val (.int p1), .val (.int p2), .val (.int p3), .val (.int p4), .val (.int p5), .val (.int (3 : Int32)), .val (.int (0 : Int32)), .val (.ref b45), .val (.int (1 : Int32))] [])) _
        refine XS.iload X51.here hx rfl (hb hby at_140) rfl ?_
        show Steps p.tables e below (T51.setTop (mkF m 142 #[.val (.int p1), .val (.int p2), .val (.int p3), .val (.int p4), .val (.int p5), .val (.int (3 : Int32)), .val (.int (0 : Int32)), .val (.ref b45), .val (.int (1 : Int32))] [(.int (1 : Int32))])) _
        refine XS.ifNo X51.here hx rfl (hb hby at_142) rfl (by decide) ?_
        show Steps p.tables e below (T51.setTop (mkF m 145 #[.val (.int p1), .val (.int p2), .val (.int p3), .val (.int p4), .val (.int p5), .val (.int (3 : Int32)), .val (.int (0 : Int32)), .val (.ref b45), .val (.int (1 : Int32))] [])) _
        refine XS.aload X51.here hx rfl (hb hby at_145) rfl rfl ?_
        show Steps p.tables e below (T51.setTop (mkF m 147 #[.val (.int p1), .val (.int p2), .val (.int p3), .val (.int p4), .val (.int p5), .val (.int (3 : Int32)), .val (.int (0 : Int32)), .val (.ref b45), .val (.int (1 : Int32))] [(.ref b45)])) _
        exact st52
      rw [own_e3] at pre52
      obtain ⟨fs, hr, hrun, hended, hW, hsame⟩ := X52.leave (v := some (.int (1 : Int32))) (fun h => by rw [Bd.returns] at h; cases h)
      refine ⟨_, _, pre52.trans ?_, hrun, hended, _, _, rfl, ?_, ⟨_, rfl⟩, hW, hsame.mono (by decide) (by decide)⟩
      · skip
        refine XS.iload X52.here hx rfl (hb hby at_150) rfl ?_
        show Steps p.tables e below (T52.setTop (mkF m 152 #[.val (.int p1), .val (.int p2), .val (.int p3), .val (.int p4), .val (.int p5), .val (.int (3 : Int32)), .val (.int (0 : Int32)), .val (.ref b45), .val (.int (1 : Int32))] [(.int (3 : Int32)), (.int (0 : Int32))])) _
        refine XS.iload X52.here hx rfl (hb hby at_152) rfl ?_
        show Steps p.tables e below (T52.setTop (mkF m 154 #[.val (.int p1), .val (.int p2), .val (.int p3), .val (.int p4), .val (.int p5), .val (.int (3 : Int32)), .val (.int (0 : Int32)), .val (.ref b45), .val (.int (1 : Int32))] [(.int (0 : Int32)), (.int (3 : Int32)), (.int (0 : Int32))])) _
        refine XS.icmpYes X52.here hx rfl (pc0 := 154) (pc' := 161) rfl (hb hby at_154) rfl (by decide) (by decide) (by decide) ?_
        show Steps p.tables e below (T52.setTop (mkF m 161 #[.val (.int p1), .val (.int p2), .val (.int p3), .val (.int p4), .val (.int p5), .val (.int (3 : Int32)), .val (.int (0 : Int32)), .val (.ref b45), .val (.int (1 : Int32))] [(.int (0 : Int32))])) _
        refine XS.iconst X52.here hx rfl (hb hby at_161) ?_
        show Steps p.tables e below (T52.setTop (mkF m 162 #[.val (.int p1), .val (.int p2), .val (.int p3), .val (.int p4), .val (.int p5), .val (.int (3 : Int32)), .val (.int (0 : Int32)), .val (.ref b45), .val (.int (1 : Int32))] [(.int (0 : Int32)), (.int (0 : Int32))])) _
        refine XS.icmpNo X52.here hx rfl (hb hby at_162) rfl (by decide) ?_
        show Steps p.tables e below (T52.setTop (mkF m 165 #[.val (.int p1), .val (.int p2), .val (.int p3), .val (.int p4), .val (.int p5), .val (.int (3 : Int32)), .val (.int (0 : Int32)), .val (.ref b45), .val (.int (1 : Int32))] [])) _
        refine XS.iconst X52.here hx rfl (hb hby at_165) ?_
        show Steps p.tables e below (T52.setTop (mkF m 166 #[.val (.int p1), .val (.int p2), .val (.int p3), .val (.int p4), .val (.int p5), .val (.int (3 : Int32)), .val (.int (0 : Int32)), .val (.ref b45), .val (.int (1 : Int32))] [(.int (1 : Int32))])) _
        refine XS.goto X52.here hx rfl (pc0 := 166) (pc' := 170) rfl (hb hby at_166) (by decide) (by decide) ?_
        show Steps p.tables e below (T52.setTop (mkF m 170 #[.val (.int p1), .val (.int p2), .val (.int p3), .val (.int p4), .val (.int p5), .val (.int (3 : Int32)), .val (.int (0 : Int32)), .val (.ref b45), .val (.int (1 : Int32))] [(.int (1 : Int32))])) _
        exact retN X52 hx (t := .boolean) Bd.returns (by simp) (hb hby at_170) hr
      · show Q0 Z p1 p2 p3 p4 p5  h0 n0 _ T52.heap _
        rw [e52]
        exact ⟨rfl, N52⟩
    · skip
      obtain ⟨T53, h53, X53, e53, E53, A53, D53, -, st53⟩ := newO X0 hx hZ hown (hw _ (List.mem_of_getElem? (i := 0) rfl)) (hw _ (List.mem_of_getElem? (i := 1) rfl)) (hw _ (List.mem_of_getElem? (i := 2) rfl)) e0 (g := (mkF m 21 #[.val (.int p1), .val (.int p2), .val (.int p3), .val (.int p4), .val (.int p5), .val (.int (3 : Int32)), .val (.int (1 : Int32)), .unset, .unset] [])) rfl (hb hby at_21) (by decide) (by decide)
      obtain ⟨b53, g53⟩ : ∃ z, z = h0.size := ⟨_, rfl⟩
      rw [← g53] at A53 D53 st53
      have pre53 : Steps p.tables e below (s₁.setTop (entryFrame m #[(.int p1), (.int p2), (.int p3), (.int p4), (.int p5)] maxLocals)) (T53.setTop (mkF m 24 #[.val (.int p1), .val (.int p2), .val (.int p3), .val (.int p4), .val (.int p5), .val (.int (3 : Int32)), .val (.int (1 : Int32)), .unset, .unset] [(.ref b53)])) := by
        refine pre2.trans ?_
        exact st53 _ (Steps.refl _)
      have gg : n0 ≤ b53 := Nat.le_trans Z0 (Nat.le_of_eq g53.symm)
      have Y53 : n0 ≤ h53.size := Nat.le_trans Z0 E53.1
      have FA := D53 (Or.inl (hw _ (List.mem_of_getElem? (i := 18) rfl))) (ty := .int) (by decide)
      have FB := D53 (Or.inl (hw _ (List.mem_of_getElem? (i := 11) rfl))) (ty := (.array .int)) (by decide)
      obtain ⟨_, _, ⟨T54, L54, k54, n54⟩, -, X54, ⟨Lc54, hQ54, l54, y54, z54⟩, st54⟩ := X53.specialBack hx (y := (⟨"com/example/brisk_tableau/brisktableau/ltl/IntStack", "<init>", "()V"⟩ : MethodName)) rfl hown (mvT hZ (hw _ (List.mem_of_getElem? (i := 3) rfl))) (mvT hZ (hw _ (List.mem_of_getElem? (i := 4) rfl))) (mvT hZ (hw _ (List.mem_of_getElem? (i := 5) rfl))) (by decide) (backOf (W := 1) (rm1 l Z a0 hw [] b53 _ h53 n0 Y53 A53 FA FB gg) hZ (hw _ (List.mem_of_getElem? (i := 5) rfl)) (hw _ (List.mem_of_getElem? (i := 2) rfl)) (by decide) (by decide)) (g := (mkF m 25 #[.val (.int p1), .val (.int p2), .val (.int p3), .val (.int p4), .val (.int p5), .val (.int (3 : Int32)), .val (.int (1 : Int32)), .unset, .unset] [(.ref b53), (.ref b53)])) rfl (by rw [hml]; rfl) (Steps.refl _) (a := b53) (argsL := []) (rest := [(.ref b53)]) (lenOf pd_0 rfl) rfl (by show 2 * 0 + _ ≤ _; exact Nat.le_of_eq rfl) (hb hby at_25) (fun _ _ => ⟨rfl, e53, (by decide : 1 + 1 ≤ _), (by decide : 2 + 16 ≤ _)⟩)
      dsimp only [Pt.U, Pt.locs, Pt.cells, Pt.slots] at X54 l54 y54 z54 st54 hQ54
      subst l54 y54 z54
      obtain ⟨rfl, M54, K54, bb, gb, S54⟩ := hQ54
      have N54 := Fr.app N0 M54
      have pre54 : Steps p.tables e below (s₁.setTop (entryFrame m #[(.int p1), (.int p2), (.int p3), (.int p4), (.int p5)] maxLocals)) (T54.setTop (mkF m 28 #[.val (.int p1), .val (.int p2), .val (.int p3), .val (.int p4), .val (.int p5), .val (.int (3 : Int32)), .val (.int (1 : Int32)), .unset, .unset] [(.ref b53)])) := by
        refine pre53.trans ?_
        refine XS.dup X53.here hx rfl (hb hby at_24) rfl rfl ?_
        show Steps p.tables e below (T53.setTop (mkF m 25 #[.val (.int p1), .val (.int p2), .val (.int p3), .val (.int p4), .val (.int p5), .val (.int (3 : Int32)), .val (.int (1 : Int32)), .unset, .unset] [(.ref b53), (.ref b53)])) _
        exact st54
      have Y54 : n0 ≤ T54.heap.size := Nat.le_trans Y53 K54.1
      obtain ⟨cq55, kq55, q55a, q55b, q55c⟩ := isOf hZ rfl S54.1
      obtain ⟨_, _, ⟨T55, L55, k55, n55⟩, -, X55, ⟨Lc55, hQ55, l55, y55, z55⟩, st55⟩ := X54.virtualBack hx (y := (⟨"com/example/brisk_tableau/brisktableau/ltl/IntStack", "isEmpty", "()Z"⟩ : MethodName)) (z := (⟨"com/example/brisk_tableau/brisktableau/ltl/IntStack", "isEmpty", "()Z"⟩ : MethodName)) hown (mvT hZ (hw _ (List.mem_of_getElem? (i := 12) rfl))) (mvT hZ (hw _ (List.mem_of_getElem? (i := 13) rfl))) (notFace_of_selects (args := #[]) (mvT hZ (hw _ (List.mem_of_getElem? (i := 15) rfl)))) (mvT hZ (hw _ (List.mem_of_getElem? (i := 15) rfl))) (mvT hZ (hw _ (List.mem_of_getElem? (i := 14) rfl))) (by decide) (backOf (W := 0) (rm3 l Z a0 hw [] b53 (0 : Int32) bb T54.heap n0 Y54 S54) hZ (hw _ (List.mem_of_getElem? (i := 16) rfl)) (hw _ (List.mem_of_getElem? (i := 2) rfl)) (by decide) (by decide)) q55a q55c (g := (mkF m 32 #[.val (.int p1), .val (.int p2), .val (.int p3), .val (.int p4), .val (.int p5), .val (.int (3 : Int32)), .val (.int (1 : Int32)), .val (.ref b53), .unset] [(.ref b53)])) rfl (by rw [hml]; rfl) (Steps.refl _) (argsL := []) (rest := []) (lenOf pd_1 rfl) rfl (by show 2 * 0 + _ ≤ _; exact Nat.le_of_eq rfl) (hb hby at_32) (fun _ _ => ⟨rfl, rfl, (by decide : 2 + 0 ≤ _), (by decide : 18 + 0 ≤ _)⟩)
      dsimp only [Pt.U, Pt.locs, Pt.cells, Pt.slots] at X55 l55 y55 z55 st55 hQ55
      subst l55 y55 z55
      obtain ⟨rfl, M55, e55⟩ := hQ55
      have N55 := Fr.app N54 M55
      have pre55 : Steps p.tables e below (s₁.setTop (entryFrame m #[(.int p1), (.int p2), (.int p3), (.int p4), (.int p5)] maxLocals)) (T55.setTop (mkF m 35 #[.val (.int p1), .val (.int p2), .val (.int p3), .val (.int p4), .val (.int p5), .val (.int (3 : Int32)), .val (.int (1 : Int32)), .val (.ref b53), .unset] [(.int (own_emp (0 : Int32)))])) := by
        refine pre54.trans ?_
        refine XS.astore X54.here hx rfl (hb hby at_28) rfl rfl (l' := #[.val (.int p1), .val (.int p2), .val (.int p3), .val (.int p4), .val (.int p5), .val (.int (3 : Int32)), .val (.int (1 : Int32)), .val (.ref b53), .unset]) rfl ?_
        show Steps p.tables e below (T54.setTop (mkF m 30 #[.val (.int p1), .val (.int p2), .val (.int p3), .val (.int p4), .val (.int p5), .val (.int (3 : Int32)), .val (.int (1 : Int32)), .val (.ref b53), .unset] [])) _
        refine XS.aload X54.here hx rfl (hb hby at_30) rfl rfl ?_
        show Steps p.tables e below (T54.setTop (mkF m 32 #[.val (.int p1), .val (.int p2), .val (.int p3), .val (.int p4), .val (.int p5), .val (.int (3 : Int32)), .val (.int (1 : Int32)), .val (.ref b53), .unset] [(.ref b53)])) _
        exact st55
      rw [own_e0] at pre55
      obtain ⟨cq56, kq56, q56a, q56b, q56c⟩ := isOf hZ e55 S54.1
      obtain ⟨_, _, ⟨T56, L56, k56, n56⟩, -, X56, ⟨Lc56, hQ56, l56, y56, z56⟩, st56⟩ := X55.virtualBack hx (y := (⟨"com/example/brisk_tableau/brisktableau/ltl/IntStack", "push", "(I)V"⟩ : MethodName)) (z := (⟨"com/example/brisk_tableau/brisktableau/ltl/IntStack", "push", "(I)V"⟩ : MethodName)) hown (mvT hZ (hw _ (List.mem_of_getElem? (i := 19) rfl))) (mvT hZ (hw _ (List.mem_of_getElem? (i := 20) rfl))) (notFace_of_selects (args := #[]) (mvT hZ (hw _ (List.mem_of_getElem? (i := 22) rfl)))) (mvT hZ (hw _ (List.mem_of_getElem? (i := 22) rfl))) (mvT hZ (hw _ (List.mem_of_getElem? (i := 21) rfl))) (by decide) (backOf (W := 0) (rm4 l Z a0 hw [] b53 p3 (0 : Int32) (1 : Int32) bb T54.heap n0 Y54 S54 gg gb (by decide) (by decide)) hZ (hw _ (List.mem_of_getElem? (i := 23) rfl)) (hw _ (List.mem_of_getElem? (i := 2) rfl)) (by decide) (by decide)) q56a q56c (g := (mkF m 46 #[.val (.int p1), .val (.int p2), .val (.int p3), .val (.int p4), .val (.int p5), .val (.int (3 : Int32)), .val (.int (1 : Int32)), .val (.ref b53), .val (.int (1 : Int32))] [(.int p3), (.ref b53)])) rfl (by rw [hml]; rfl) (Steps.refl _) (argsL := [(.int p3)]) (rest := []) (lenOf pd_2 rfl) rfl (by show 2 * 0 + _ ≤ _; exact Nat.le_of_eq rfl) (hb hby at_46) (fun _ _ => ⟨rfl, e55, (by decide : 2 + 0 ≤ _), (by decide : 18 + 0 ≤ _)⟩)
      dsimp only [Pt.U, Pt.locs, Pt.cells, Pt.slots] at X56 l56 y56 z56 st56 hQ56
      subst l56 y56 z56
      obtain ⟨rfl, M56, K56, S56⟩ := hQ56
      have N56 := Fr.app N55 M56
      have pre56 : Steps p.tables e below (s₁.setTop (entryFrame m #[(.int p1), (.int p2), (.int p3), (.int p4), (.int p5)] maxLocals)) (T56.setTop (mkF m 49 #[.val (.int p1), .val (.int p2), .val (.int p3), .val (.int p4), .val (.int p5), .val (.int (3 : Int32)), .val (.int (1 : Int32)), .val (.ref b53), .val (.int (1 : Int32))] [])) := by
        refine pre55.trans ?_
        refine XS.istore X55.here hx rfl (hb hby at_35) rfl (l' := #[.val (.int p1), .val (.int p2), .val (.int p3), .val (.int p4), .val (.int p5), .val (.int (3 : Int32)), .val (.int (1 : Int32)), .val (.ref b53), .val (.int (1 : Int32))]) rfl ?_
        show Steps p.tables e below (T55.setTop (mkF m 37 #[.val (.int p1), .val (.int p2), .val (.int p3), .val (.int p4), .val (.int p5), .val (.int (3 : Int32)), .val (.int (1 : Int32)), .val (.ref b53), .val (.int (1 : Int32))] [])) _
        refine XS.iload X55.here hx rfl (hb hby at_37) rfl ?_
        show Steps p.tables e below (T55.setTop (mkF m 39 #[.val (.int p1), .val (.int p2), .val (.int p3), .val (.int p4), .val (.int p5), .val (.int (3 : Int32)), .val (.int (1 : Int32)), .val (.ref b53), .val (.int (1 : Int32))] [(.int (3 : Int32))])) _
        refine XS.iconst X55.here hx rfl (hb hby at_39) ?_
        show Steps p.tables e below (T55.setTop (mkF m 40 #[.val (.int p1), .val (.int p2), .val (.int p3), .val (.int p4), .val (.int p5), .val (.int (3 : Int32)), .val (.int (1 : Int32)), .val (.ref b53), .val (.int (1 : Int32))] [(.int (1 : Int32)), (.int (3 : Int32))])) _
        refine XS.icmpNo X55.here hx rfl (hb hby at_40) rfl (by decide) ?_
        show Steps p.tables e below (T55.setTop (mkF m 43 #[.val (.int p1), .val (.int p2), .val (.int p3), .val (.int p4), .val (.int p5), .val (.int (3 : Int32)), .val (.int (1 : Int32)), .val (.ref b53), .val (.int (1 : Int32))] [])) _
        refine XS.aload X55.here hx rfl (hb hby at_43) rfl rfl ?_
        show Steps p.tables e below (T55.setTop (mkF m 45 #[.val (.int p1), .val (.int p2), .val (.int p3), .val (.int p4), .val (.int p5), .val (.int (3 : Int32)), .val (.int (1 : Int32)), .val (.ref b53), .val (.int (1 : Int32))] [(.ref b53)])) _
        refine XS.iloadN X55.here hx rfl (hb hby at_45) rfl ?_
        show Steps p.tables e below (T55.setTop (mkF m 46 #[.val (.int p1), .val (.int p2), .val (.int p3), .val (.int p4), .val (.int p5), .val (.int (3 : Int32)), .val (.int (1 : Int32)), .val (.ref b53), .val (.int (1 : Int32))] [(.int p3), (.ref b53)])) _
        exact st56
      have Y56 : n0 ≤ T56.heap.size := Nat.le_trans Y54 K56.1
      obtain ⟨cq57, kq57, q57a, q57b, q57c⟩ := isOf hZ rfl S56.1
      obtain ⟨_, _, ⟨T57, L57, k57, n57⟩, -, X57, ⟨Lc57, hQ57, l57, y57, z57⟩, st57⟩ := X56.virtualBack hx (y := (⟨"com/example/brisk_tableau/brisktableau/ltl/IntStack", "push", "(I)V"⟩ : MethodName)) (z := (⟨"com/example/brisk_tableau/brisktableau/ltl/IntStack", "push", "(I)V"⟩ : MethodName)) hown (mvT hZ (hw _ (List.mem_of_getElem? (i := 19) rfl))) (mvT hZ (hw _ (List.mem_of_getElem? (i := 20) rfl))) (notFace_of_selects (args := #[]) (mvT hZ (hw _ (List.mem_of_getElem? (i := 22) rfl)))) (mvT hZ (hw _ (List.mem_of_getElem? (i := 22) rfl))) (mvT hZ (hw _ (List.mem_of_getElem? (i := 21) rfl))) (by decide) (backOf (W := 0) (rm4 l Z a0 hw [] b53 p4 (1 : Int32) (2 : Int32) bb T56.heap n0 Y56 S56 gg gb (by decide) (by decide)) hZ (hw _ (List.mem_of_getElem? (i := 23) rfl)) (hw _ (List.mem_of_getElem? (i := 2) rfl)) (by decide) (by decide)) q57a q57c (g := (mkF m 58 #[.val (.int p1), .val (.int p2), .val (.int p3), .val (.int p4), .val (.int p5), .val (.int (3 : Int32)), .val (.int (1 : Int32)), .val (.ref b53), .val (.int (1 : Int32))] [(.int p4), (.ref b53)])) rfl (by rw [hml]; rfl) (Steps.refl _) (argsL := [(.int p4)]) (rest := []) (lenOf pd_2 rfl) rfl (by show 2 * 0 + _ ≤ _; exact Nat.le_of_eq rfl) (hb hby at_58) (fun _ _ => ⟨rfl, rfl, (by decide : 2 + 0 ≤ _), (by decide : 18 + 0 ≤ _)⟩)
      dsimp only [Pt.U, Pt.locs, Pt.cells, Pt.slots] at X57 l57 y57 z57 st57 hQ57
      subst l57 y57 z57
      obtain ⟨rfl, M57, K57, S57⟩ := hQ57
      have N57 := Fr.app N56 M57
      have pre57 : Steps p.tables e below (s₁.setTop (entryFrame m #[(.int p1), (.int p2), (.int p3), (.int p4), (.int p5)] maxLocals)) (T57.setTop (mkF m 61 #[.val (.int p1), .val (.int p2), .val (.int p3), .val (.int p4), .val (.int p5), .val (.int (3 : Int32)), .val (.int (1 : Int32)), .val (.ref b53), .val (.int (1 : Int32))] [])) := by
        refine pre56.trans ?_
        refine XS.iload X56.here hx rfl (hb hby at_49) rfl ?_
        show Steps p.tables e below (T56.setTop (mkF m 51 #[.val (.int p1), .val (.int p2), .val (.int p3), .val (.int p4), .val (.int p5), .val (.int (3 : Int32)), .val (.int (1 : Int32)), .val (.ref b53), .val (.int (1 : Int32))] [(.int (3 : Int32))])) _
        refine XS.iconst X56.here hx rfl (hb hby at_51) ?_
        show Steps p.tables e below (T56.setTop (mkF m 52 #[.val (.int p1), .val (.int p2), .val (.int p3), .val (.int p4), .val (.int p5), .val (.int (3 : Int32)), .val (.int (1 : Int32)), .val (.ref b53), .val (.int (1 : Int32))] [(.int (2 : Int32)), (.int (3 : Int32))])) _
        refine XS.icmpNo X56.here hx rfl (hb hby at_52) rfl (by decide) ?_
        show Steps p.tables e below (T56.setTop (mkF m 55 #[.val (.int p1), .val (.int p2), .val (.int p3), .val (.int p4), .val (.int p5), .val (.int (3 : Int32)), .val (.int (1 : Int32)), .val (.ref b53), .val (.int (1 : Int32))] [])) _
        refine XS.aload X56.here hx rfl (hb hby at_55) rfl rfl ?_
        show Steps p.tables e below (T56.setTop (mkF m 57 #[.val (.int p1), .val (.int p2), .val (.int p3), .val (.int p4), .val (.int p5), .val (.int (3 : Int32)), .val (.int (1 : Int32)), .val (.ref b53), .val (.int (1 : Int32))] [(.ref b53)])) _
        refine XS.iloadN X56.here hx rfl (hb hby at_57) rfl ?_
        show Steps p.tables e below (T56.setTop (mkF m 58 #[.val (.int p1), .val (.int p2), .val (.int p3), .val (.int p4), .val (.int p5), .val (.int (3 : Int32)), .val (.int (1 : Int32)), .val (.ref b53), .val (.int (1 : Int32))] [(.int p4), (.ref b53)])) _
        exact st57
      have Y57 : n0 ≤ T57.heap.size := Nat.le_trans Y56 K57.1
      obtain ⟨cq58, kq58, q58a, q58b, q58c⟩ := isOf hZ rfl S57.1
      obtain ⟨_, _, ⟨T58, L58, k58, n58⟩, -, X58, ⟨Lc58, hQ58, l58, y58, z58⟩, st58⟩ := X57.virtualBack hx (y := (⟨"com/example/brisk_tableau/brisktableau/ltl/IntStack", "push", "(I)V"⟩ : MethodName)) (z := (⟨"com/example/brisk_tableau/brisktableau/ltl/IntStack", "push", "(I)V"⟩ : MethodName)) hown (mvT hZ (hw _ (List.mem_of_getElem? (i := 19) rfl))) (mvT hZ (hw _ (List.mem_of_getElem? (i := 20) rfl))) (notFace_of_selects (args := #[]) (mvT hZ (hw _ (List.mem_of_getElem? (i := 22) rfl)))) (mvT hZ (hw _ (List.mem_of_getElem? (i := 22) rfl))) (mvT hZ (hw _ (List.mem_of_getElem? (i := 21) rfl))) (by decide) (backOf (W := 0) (rm4 l Z a0 hw [] b53 p5 (2 : Int32) (3 : Int32) bb T57.heap n0 Y57 S57 gg gb (by decide) (by decide)) hZ (hw _ (List.mem_of_getElem? (i := 23) rfl)) (hw _ (List.mem_of_getElem? (i := 2) rfl)) (by decide) (by decide)) q58a q58c (g := (mkF m 71 #[.val (.int p1), .val (.int p2), .val (.int p3), .val (.int p4), .val (.int p5), .val (.int (3 : Int32)), .val (.int (1 : Int32)), .val (.ref b53), .val (.int (1 : Int32))] [(.int p5), (.ref b53)])) rfl (by rw [hml]; rfl) (Steps.refl _) (argsL := [(.int p5)]) (rest := []) (lenOf pd_2 rfl) rfl (by show 2 * 0 + _ ≤ _; exact Nat.le_of_eq rfl) (hb hby at_71) (fun _ _ => ⟨rfl, rfl, (by decide : 2 + 0 ≤ _), (by decide : 18 + 0 ≤ _)⟩)
      dsimp only [Pt.U, Pt.locs, Pt.cells, Pt.slots] at X58 l58 y58 z58 st58 hQ58
      subst l58 y58 z58
      obtain ⟨rfl, M58, K58, S58⟩ := hQ58
      have N58 := Fr.app N57 M58
      have pre58 : Steps p.tables e below (s₁.setTop (entryFrame m #[(.int p1), (.int p2), (.int p3), (.int p4), (.int p5)] maxLocals)) (T58.setTop (mkF m 74 #[.val (.int p1), .val (.int p2), .val (.int p3), .val (.int p4), .val (.int p5), .val (.int (3 : Int32)), .val (.int (1 : Int32)), .val (.ref b53), .val (.int (1 : Int32))] [])) := by
        refine pre57.trans ?_
        refine XS.iload X57.here hx rfl (hb hby at_61) rfl ?_
        show Steps p.tables e below (T57.setTop (mkF m 63 #[.val (.int p1), .val (.int p2), .val (.int p3), .val (.int p4), .val (.int p5), .val (.int (3 : Int32)), .val (.int (1 : Int32)), .val (.ref b53), .val (.int (1 : Int32))] [(.int (3 : Int32))])) _
        refine XS.iconst X57.here hx rfl (hb hby at_63) ?_
        show Steps p.tables e below (T57.setTop (mkF m 64 #[.val (.int p1), .val (.int p2), .val (.int p3), .val (.int p4), .val (.int p5), .val (.int (3 : Int32)), .val (.int (1 : Int32)), .val (.ref b53), .val (.int (1 : Int32))] [(.int (3 : Int32)), (.int (3 : Int32))])) _
        refine XS.icmpNo X57.here hx rfl (hb hby at_64) rfl (by decide) ?_
        show Steps p.tables e below (T57.setTop (mkF m 67 #[.val (.int p1), .val (.int p2), .val (.int p3), .val (.int p4), .val (.int p5), .val (.int (3 : Int32)), .val (.int (1 : Int32)), .val (.ref b53), .val (.int (1 : Int32))] [])) _
        refine XS.aload X57.here hx rfl (hb hby at_67) rfl rfl ?_
        show Steps p.tables e below (T57.setTop (mkF m 69 #[.val (.int p1), .val (.int p2), .val (.int p3), .val (.int p4), .val (.int p5), .val (.int (3 : Int32)), .val (.int (1 : Int32)), .val (.ref b53), .val (.int (1 : Int32))] [(.ref b53)])) _
        refine XS.iload X57.here hx rfl (hb hby at_69) rfl ?_
        show Steps p.tables e below (T57.setTop (mkF m 71 #[.val (.int p1), .val (.int p2), .val (.int p3), .val (.int p4), .val (.int p5), .val (.int (3 : Int32)), .val (.int (1 : Int32)), .val (.ref b53), .val (.int (1 : Int32))] [(.int p5), (.ref b53)])) _
        exact st58
      have Y58 : n0 ≤ T58.heap.size := Nat.le_trans Y57 K58.1
      obtain ⟨cq59, kq59, q59a, q59b, q59c⟩ := isOf hZ rfl S58.1
      obtain ⟨_, _, ⟨T59, L59, k59, n59⟩, -, X59, ⟨Lc59, hQ59, l59, y59, z59⟩, st59⟩ := X58.virtualBack hx (y := (⟨"com/example/brisk_tableau/brisktableau/ltl/IntStack", "isEmpty", "()Z"⟩ : MethodName)) (z := (⟨"com/example/brisk_tableau/brisktableau/ltl/IntStack", "isEmpty", "()Z"⟩ : MethodName)) hown (mvT hZ (hw _ (List.mem_of_getElem? (i := 12) rfl))) (mvT hZ (hw _ (List.mem_of_getElem? (i := 13) rfl))) (notFace_of_selects (args := #[]) (mvT hZ (hw _ (List.mem_of_getElem? (i := 15) rfl)))) (mvT hZ (hw _ (List.mem_of_getElem? (i := 15) rfl))) (mvT hZ (hw _ (List.mem_of_getElem? (i := 14) rfl))) (by decide) (backOf (W := 0) (rm3 l Z a0 hw [] b53 (3 : Int32) bb T58.heap n0 Y58 S58) hZ (hw _ (List.mem_of_getElem? (i := 16) rfl)) (hw _ (List.mem_of_getElem? (i := 2) rfl)) (by decide) (by decide)) q59a q59c (g := (mkF m 81 #[.val (.int p1), .val (.int p2), .val (.int p3), .val (.int p4), .val (.int p5), .val (.int (3 : Int32)), .val (.int (1 : Int32)), .val (.ref b53), .val (.int (1 : Int32))] [(.ref b53)])) rfl (by rw [hml]; rfl) (Steps.refl _) (argsL := []) (rest := []) (lenOf pd_1 rfl) rfl (by show 2 * 0 + _ ≤ _; exact Nat.le_of_eq rfl) (hb hby at_81) (fun _ _ => ⟨rfl, rfl, (by decide : 2 + 0 ≤ _), (by decide : 18 + 0 ≤ _)⟩)
      dsimp only [Pt.U, Pt.locs, Pt.cells, Pt.slots] at X59 l59 y59 z59 st59 hQ59
      subst l59 y59 z59
      obtain ⟨rfl, M59, e59⟩ := hQ59
      have N59 := Fr.app N58 M59
      have pre59 : Steps p.tables e below (s₁.setTop (entryFrame m #[(.int p1), (.int p2), (.int p3), (.int p4), (.int p5)] maxLocals)) (T59.setTop (mkF m 84 #[.val (.int p1), .val (.int p2), .val (.int p3), .val (.int p4), .val (.int p5), .val (.int (3 : Int32)), .val (.int (1 : Int32)), .val (.ref b53), .val (.int (1 : Int32))] [(.int (own_emp (3 : Int32)))])) := by
        refine pre58.trans ?_
        refine XS.iload X58.here hx rfl (hb hby at_74) rfl ?_
        show Steps p.tables e below (T58.setTop (mkF m 76 #[.val (.int p1), .val (.int p2), .val (.int p3), .val (.int p4), .val (.int p5), .val (.int (3 : Int32)), .val (.int (1 : Int32)), .val (.ref b53), .val (.int (1 : Int32))] [(.int (1 : Int32))])) _
        refine XS.ifNo X58.here hx rfl (hb hby at_76) rfl (by decide) ?_
        show Steps p.tables e below (T58.setTop (mkF m 79 #[.val (.int p1), .val (.int p2), .val (.int p3), .val (.int p4), .val (.int p5), .val (.int (3 : Int32)), .val (.int (1 : Int32)), .val (.ref b53), .val (.int (1 : Int32))] [])) _
        refine XS.aload X58.here hx rfl (hb hby at_79) rfl rfl ?_
        show Steps p.tables e below (T58.setTop (mkF m 81 #[.val (.int p1), .val (.int p2), .val (.int p3), .val (.int p4), .val (.int p5), .val (.int (3 : Int32)), .val (.int (1 : Int32)), .val (.ref b53), .val (.int (1 : Int32))] [(.ref b53)])) _
        exact st59
      rw [own_e3] at pre59
      obtain ⟨cq60, kq60, q60a, q60b, q60c⟩ := isOf hZ e59 S58.1
      obtain ⟨_, _, ⟨T60, L60, k60, n60⟩, -, X60, ⟨Lc60, hQ60, l60, y60, z60⟩, st60⟩ := X59.virtualBack hx (y := (⟨"com/example/brisk_tableau/brisktableau/ltl/IntStack", "pop", "()I"⟩ : MethodName)) (z := (⟨"com/example/brisk_tableau/brisktableau/ltl/IntStack", "pop", "()I"⟩ : MethodName)) hown (mvT hZ (hw _ (List.mem_of_getElem? (i := 24) rfl))) (mvT hZ (hw _ (List.mem_of_getElem? (i := 25) rfl))) (notFace_of_selects (args := #[]) (mvT hZ (hw _ (List.mem_of_getElem? (i := 27) rfl)))) (mvT hZ (hw _ (List.mem_of_getElem? (i := 27) rfl))) (mvT hZ (hw _ (List.mem_of_getElem? (i := 26) rfl))) (by decide) (backOf (W := 0) (rm5 l Z a0 hw [] b53 (3 : Int32) (2 : Int32) bb T58.heap n0 Y58 S58 gg gb (by decide) (by decide)) hZ (hw _ (List.mem_of_getElem? (i := 28) rfl)) (hw _ (List.mem_of_getElem? (i := 2) rfl)) (by decide) (by decide)) q60a q60c (g := (mkF m 112 #[.val (.int p1), .val (.int p2), .val (.int p3), .val (.int p4), .val (.int p5), .val (.int (3 : Int32)), .val (.int (1 : Int32)), .val (.ref b53), .val (.int (1 : Int32))] [(.ref b53)])) rfl (by rw [hml]; rfl) (Steps.refl _) (argsL := []) (rest := []) (lenOf pd_3 rfl) rfl (by show 2 * 0 + _ ≤ _; exact Nat.le_of_eq rfl) (hb hby at_112) (fun _ _ => ⟨rfl, e59, (by decide : 2 + 0 ≤ _), (by decide : 18 + 0 ≤ _)⟩)
      dsimp only [Pt.U, Pt.locs, Pt.cells, Pt.slots] at X60 l60 y60 z60 st60 hQ60
      subst l60 y60 z60
      obtain ⟨⟨x60, rfl⟩, M60, K60, S60⟩ := hQ60
      have N60 := Fr.app N59 M60
      have pre60 : Steps p.tables e below (s₁.setTop (entryFrame m #[(.int p1), (.int p2), (.int p3), (.int p4), (.int p5)] maxLocals)) (T60.setTop (mkF m 115 #[.val (.int p1), .val (.int p2), .val (.int p3), .val (.int p4), .val (.int p5), .val (.int (3 : Int32)), .val (.int (1 : Int32)), .val (.ref b53), .val (.int (1 : Int32))] [(.int x60)])) := by
        refine pre59.trans ?_
        refine XS.iload X59.here hx rfl (hb hby at_84) rfl ?_
        show Steps p.tables e below (T59.setTop (mkF m 86 #[.val (.int p1), .val (.int p2), .val (.int p3), .val (.int p4), .val (.int p5), .val (.int (3 : Int32)), .val (.int (1 : Int32)), .val (.ref b53), .val (.int (1 : Int32))] [(.int (3 : Int32)), (.int (0 : Int32))])) _
        refine XS.ifYes X59.here hx rfl (pc0 := 86) (pc' := 93) rfl (hb hby at_86) rfl (by decide) (by decide) (by decide) ?_
        show Steps p.tables e below (T59.setTop (mkF m 93 #[.val (.int p1), .val (.int p2), .val (.int p3), .val (.int p4), .val (.int p5), .val (.int (3 : Int32)), .val (.int (1 : Int32)), .val (.ref b53), .val (.int (1 : Int32))] [(.int (0 : Int32))])) _
        refine XS.iconst X59.here hx rfl (hb hby at_93) ?_
        show Steps p.tables e below (T59.setTop (mkF m 94 #[.val (.int p1), .val (.int p2), .val (.int p3), .val (.int p4), .val (.int p5), .val (.int (3 : Int32)), .val (.int (1 : Int32)), .val (.ref b53), .val (.int (1 : Int32))] [(.int (0 : Int32)), (.int (0 : Int32))])) _
        refine XS.icmpNo X59.here hx rfl (hb hby at_94) rfl (by decide) ?_
        show Steps p.tables e below (T59.setTop (mkF m 97 #[.val (.int p1), .val (.int p2), .val (.int p3), .val (.int p4), .val (.int p5), .val (.int (3 : Int32)), .val (.int (1 : Int32)), .val (.ref b53), .val (.int (1 : Int32))] [])) _
        refine XS.iconst X59.here hx rfl (hb hby at_97) ?_
        show Steps p.tables e below (T59.setTop (mkF m 98 #[.val (.int p1), .val (.int p2), .val (.int p3), .val (.int p4), .val (.int p5), .val (.int (3 : Int32)), .val (.int (1 : Int32)), .val (.ref b53), .val (.int (1 : Int32))] [(.int (1 : Int32))])) _
        refine XS.goto X59.here hx rfl (pc0 := 98) (pc' := 102) rfl (hb hby at_98) (by decide) (by decide) ?_
        show Steps p.tables e below (T59.setTop (mkF m 102 #[.val (.int p1), .val (.int p2), .val (.int p3), .val (.int p4), .val (.int p5), .val (.int (3 : Int32)), .val (.int (1 : Int32)), .val (.ref b53), .val (.int (1 : Int32))] [(.int (1 : Int32))])) _
        refine XS.istore X59.here hx rfl (hb hby at_102) rfl (l' := #[.val (.int p1), .val (.int p2), .val (.int p3), .val (.int p4), .val (.int p5), .val (.int (3 : Int32)), .val (.int (1 : Int32)), .val (.ref b53), .val (.int (1 : Int32))]) rfl ?_
        show Steps p.tables e below (T59.setTop (mkF m 104 #[.val (.int p1), .val (.int p2), .val (.int p3), .val (.int p4), .val (.int p5), .val (.int (3 : Int32)), .val (.int (1 : Int32)), .val (.ref b53), .val (.int (1 : Int32))] [])) _
        refine XS.iload X59.here hx rfl (hb hby at_104) rfl ?_
        show Steps p.tables e below (T59.setTop (mkF m 106 #[.val (.int p1), .val (.int p2), .val (.int p3), .val (.int p4), .val (.int p5), .val (.int (3 : Int32)), .val (.int (1 : Int32)), .val (.ref b53), .val (.int (1 : Int32))] [(.int (1 : Int32))])) _
        refine XS.iconst X59.here hx rfl (hb hby at_106) ?_
        show Steps p.tables e below (T59.setTop (mkF m 107 #[.val (.int p1), .val (.int p2), .val (.int p3), .val (.int p4), .val (.int p5), .val (.int (3 : Int32)), .val (.int (1 : Int32)), .val (.ref b53), .val (.int (1 : Int32))] [(.int (1 : Int32)), (.int (1 : Int32))])) _
        refine XS.icmpNo X59.here hx rfl (hb hby at_107) rfl (by decide) ?_
        show Steps p.tables e below (T59.setTop (mkF m 110 #[.val (.int p1), .val (.int p2), .val (.int p3), .val (.int p4), .val (.int p5), .val (.int (3 : Int32)), .val (.int (1 : Int32)), .val (.ref b53), .val (.int (1 : Int32))] [])) _
        refine XS.aload X59.here hx rfl (hb hby at_110) rfl rfl ?_
        show Steps p.tables e below (T59.setTop (mkF m 112 #[.val (.int p1), .val (.int p2), .val (.int p3), .val (.int p4), .val (.int p5), .val (.int (3 : Int32)), .val (.int (1 : Int32)), .val (.ref b53), .val (.int (1 : Int32))] [(.ref b53)])) _
        exact st60
      have Y60 : n0 ≤ T60.heap.size := Nat.le_trans Y58 K60.1
      obtain ⟨cq61, kq61, q61a, q61b, q61c⟩ := isOf hZ rfl S60.1
      obtain ⟨_, _, ⟨T61, L61, k61, n61⟩, -, X61, ⟨Lc61, hQ61, l61, y61, z61⟩, st61⟩ := X60.virtualBack hx (y := (⟨"com/example/brisk_tableau/brisktableau/ltl/IntStack", "isEmpty", "()Z"⟩ : MethodName)) (z := (⟨"com/example/brisk_tableau/brisktableau/ltl/IntStack", "isEmpty", "()Z"⟩ : MethodName)) hown (mvT hZ (hw _ (List.mem_of_getElem? (i := 12) rfl))) (mvT hZ (hw _ (List.mem_of_getElem? (i := 13) rfl))) (notFace_of_selects (args := #[]) (mvT hZ (hw _ (List.mem_of_getElem? (i := 15) rfl)))) (mvT hZ (hw _ (List.mem_of_getElem? (i := 15) rfl))) (mvT hZ (hw _ (List.mem_of_getElem? (i := 14) rfl))) (by decide) (backOf (W := 0) (rm3 l Z a0 hw [] b53 (2 : Int32) bb T60.heap n0 Y60 S60) hZ (hw _ (List.mem_of_getElem? (i := 16) rfl)) (hw _ (List.mem_of_getElem? (i := 2) rfl)) (by decide) (by decide)) q61a q61c (g := (mkF m 147 #[.val (.int p1), .val (.int p2), .val (.int p3), .val (.int p4), .val (.int p5), .val (.int (3 : Int32)), .val (.int (1 : Int32)), .val (.ref b53), .val (.int (1 : Int32))] [(.ref b53)])) rfl (by rw [hml]; rfl) (Steps.refl _) (argsL := []) (rest := []) (lenOf pd_1 rfl) rfl (by show 2 * 0 + _ ≤ _; exact Nat.le_of_eq rfl) (hb hby at_147) (fun _ _ => ⟨rfl, rfl, (by decide : 2 + 0 ≤ _), (by decide : 18 + 0 ≤ _)⟩)
      dsimp only [Pt.U, Pt.locs, Pt.cells, Pt.slots] at X61 l61 y61 z61 st61 hQ61
      subst l61 y61 z61
      obtain ⟨rfl, M61, e61⟩ := hQ61
      have N61 := Fr.app N60 M61
      have pre61 : Steps p.tables e below (s₁.setTop (entryFrame m #[(.int p1), (.int p2), (.int p3), (.int p4), (.int p5)] maxLocals)) (T61.setTop (mkF m 150 #[.val (.int p1), .val (.int p2), .val (.int p3), .val (.int p4), .val (.int p5), .val (.int (3 : Int32)), .val (.int (1 : Int32)), .val (.ref b53), .val (.int (1 : Int32))] [(.int (own_emp (2 : Int32)))])) := by
        refine pre60.trans ?_
        refine XS.pop X60.here hx rfl (hb hby at_115) rfl rfl ?_
        show Steps p.tables e below (T60.setTop (mkF m 116 #[.val (.int p1), .val (.int p2), .val (.int p3), .val (.int p4), .val (.int p5), .val (.int (3 : Int32)), .val (.int (1 : Int32)), .val (.ref b53), .val (.int (1 : Int32))] [])) _
        refine XS.iload X60.here hx rfl (hb hby at_116) rfl ?_
        show Steps p.tables e below (T60.setTop (mkF m 118 #[.val (.int p1), .val (.int p2), .val (.int p3), .val (.int p4), .val (.int p5), .val (.int (3 : Int32)), .val (.int (1 : Int32)), .val (.ref b53), .val (.int (1 : Int32))] [(.int (1 : Int32))])) _
        refine XS.iconst X60.here hx rfl (hb hby at_118) ?_
        show Steps p.tables e below (T60.setTop (mkF m 119 #[.val (.int p1), .val (.int p2), .val (.int p3), .val (.int p4), .val (.int p5), .val (.int (3 : Int32)), .val (.int (1 : Int32)), .val (.ref b53), .val (.int (1 : Int32))] [(.int (2 : Int32)), (.int (1 : Int32))])) _
        refine XS.icmpYes X60.here hx rfl (pc0 := 119) (pc' := 128) rfl (hb hby at_119) rfl (by decide) (by decide) (by decide) ?_
        show Steps p.tables e below (T60.setTop (mkF m 128 #[.val (.int p1), .val (.int p2), .val (.int p3), .val (.int p4), .val (.int p5), .val (.int (3 : Int32)), .val (.int (1 : Int32)), .val (.ref b53), .val (.int (1 : Int32))] [])) _
        refine XS.iload X60.here hx rfl (hb hby at_128) rfl ?_
        show Steps p.tables e below (T60.setTop (mkF m 130 #[.val (.int p1), .val (.int p2), .val (.int p3), .val (.int p4), .val (.int p5), .val (.int (3 : Int32)), .val (.int (1 : Int32)), .val (.ref b53), .val (.int (1 : Int32))] [(.int (1 : Int32))])) _
        refine XS.iconst X60.here hx rfl (hb hby at_130) ?_
        show Steps p.tables e below (T60.setTop (mkF m 131 #[.val (.int p1), .val (.int p2), .val (.int p3), .val (.int p4), .val (.int p5), .val (.int (3 : Int32)), .val (.int (1 : Int32)), .val (.ref b53), .val (.int (1 : Int32))] [(.int (3 : Int32)), (.int (1 : Int32))])) _
        refine XS.icmpYes X60.here hx rfl (pc0 := 131) (pc' := 140) rfl (hb hby at_131) rfl (by decide) (by decide) (by decide) ?_
        show Steps p.tables e below (T60.setTop (mkF m 140 #[.val (.int p1), .val (.int p2), .val (.int p3), .val (.int p4), .val (.int p5), .val (.int (3 : Int32)), .val (.int (1 : Int32)), .val (.ref b53), .val (.int (1 : Int32))] [])) _
        refine XS.iload X60.here hx rfl (hb hby at_140) rfl ?_
        show Steps p.tables e below (T60.setTop (mkF m 142 #[.val (.int p1), .val (.int p2), .val (.int p3), .val (.int p4), .val (.int p5), .val (.int (3 : Int32)), .val (.int (1 : Int32)), .val (.ref b53), .val (.int (1 : Int32))] [(.int (1 : Int32))])) _
        refine XS.ifNo X60.here hx rfl (hb hby at_142) rfl (by decide) ?_
        show Steps p.tables e below (T60.setTop (mkF m 145 #[.val (.int p1), .val (.int p2), .val (.int p3), .val (.int p4), .val (.int p5), .val (.int (3 : Int32)), .val (.int (1 : Int32)), .val (.ref b53), .val (.int (1 : Int32))] [])) _
        refine XS.aload X60.here hx rfl (hb hby at_145) rfl rfl ?_
        show Steps p.tables e below (T60.setTop (mkF m 147 #[.val (.int p1), .val (.int p2), .val (.int p3), .val (.int p4), .val (.int p5), .val (.int (3 : Int32)), .val (.int (1 : Int32)), .val (.ref b53), .val (.int (1 : Int32))] [(.ref b53)])) _
        exact st61
      rw [own_e2] at pre61
      obtain ⟨fs, hr, hrun, hended, hW, hsame⟩ := X61.leave (v := some (.int (1 : Int32))) (fun h => by rw [Bd.returns] at h; cases h)
      refine ⟨_, _, pre61.trans ?_, hrun, hended, _, _, rfl, ?_, ⟨_, rfl⟩, hW, hsame.mono (by decide) (by decide)⟩
      · skip
        refine XS.iload X61.here hx rfl (hb hby at_150) rfl ?_
        show Steps p.tables e below (T61.setTop (mkF m 152 #[.val (.int p1), .val (.int p2), .val (.int p3), .val (.int p4), .val (.int p5), .val (.int (3 : Int32)), .val (.int (1 : Int32)), .val (.ref b53), .val (.int (1 : Int32))] [(.int (3 : Int32)), (.int (0 : Int32))])) _
        refine XS.iload X61.here hx rfl (hb hby at_152) rfl ?_
        show Steps p.tables e below (T61.setTop (mkF m 154 #[.val (.int p1), .val (.int p2), .val (.int p3), .val (.int p4), .val (.int p5), .val (.int (3 : Int32)), .val (.int (1 : Int32)), .val (.ref b53), .val (.int (1 : Int32))] [(.int (1 : Int32)), (.int (3 : Int32)), (.int (0 : Int32))])) _
        refine XS.icmpYes X61.here hx rfl (pc0 := 154) (pc' := 161) rfl (hb hby at_154) rfl (by decide) (by decide) (by decide) ?_
        show Steps p.tables e below (T61.setTop (mkF m 161 #[.val (.int p1), .val (.int p2), .val (.int p3), .val (.int p4), .val (.int p5), .val (.int (3 : Int32)), .val (.int (1 : Int32)), .val (.ref b53), .val (.int (1 : Int32))] [(.int (0 : Int32))])) _
        refine XS.iconst X61.here hx rfl (hb hby at_161) ?_
        show Steps p.tables e below (T61.setTop (mkF m 162 #[.val (.int p1), .val (.int p2), .val (.int p3), .val (.int p4), .val (.int p5), .val (.int (3 : Int32)), .val (.int (1 : Int32)), .val (.ref b53), .val (.int (1 : Int32))] [(.int (0 : Int32)), (.int (0 : Int32))])) _
        refine XS.icmpNo X61.here hx rfl (hb hby at_162) rfl (by decide) ?_
        show Steps p.tables e below (T61.setTop (mkF m 165 #[.val (.int p1), .val (.int p2), .val (.int p3), .val (.int p4), .val (.int p5), .val (.int (3 : Int32)), .val (.int (1 : Int32)), .val (.ref b53), .val (.int (1 : Int32))] [])) _
        refine XS.iconst X61.here hx rfl (hb hby at_165) ?_
        show Steps p.tables e below (T61.setTop (mkF m 166 #[.val (.int p1), .val (.int p2), .val (.int p3), .val (.int p4), .val (.int p5), .val (.int (3 : Int32)), .val (.int (1 : Int32)), .val (.ref b53), .val (.int (1 : Int32))] [(.int (1 : Int32))])) _
        refine XS.goto X61.here hx rfl (pc0 := 166) (pc' := 170) rfl (hb hby at_166) (by decide) (by decide) ?_
        show Steps p.tables e below (T61.setTop (mkF m 170 #[.val (.int p1), .val (.int p2), .val (.int p3), .val (.int p4), .val (.int p5), .val (.int (3 : Int32)), .val (.int (1 : Int32)), .val (.ref b53), .val (.int (1 : Int32))] [(.int (1 : Int32))])) _
        exact retN X61 hx (t := .boolean) Bd.returns (by simp) (hb hby at_170) hr
      · show Q0 Z p1 p2 p3 p4 p5  h0 n0 _ T61.heap _
        rw [e61]
        exact ⟨rfl, N61⟩
    · skip
      obtain ⟨T62, h62, X62, e62, E62, A62, D62, -, st62⟩ := newO X0 hx hZ hown (hw _ (List.mem_of_getElem? (i := 0) rfl)) (hw _ (List.mem_of_getElem? (i := 1) rfl)) (hw _ (List.mem_of_getElem? (i := 2) rfl)) e0 (g := (mkF m 21 #[.val (.int p1), .val (.int p2), .val (.int p3), .val (.int p4), .val (.int p5), .val (.int (3 : Int32)), .val (.int (2 : Int32)), .unset, .unset] [])) rfl (hb hby at_21) (by decide) (by decide)
      obtain ⟨b62, g62⟩ : ∃ z, z = h0.size := ⟨_, rfl⟩
      rw [← g62] at A62 D62 st62
      have pre62 : Steps p.tables e below (s₁.setTop (entryFrame m #[(.int p1), (.int p2), (.int p3), (.int p4), (.int p5)] maxLocals)) (T62.setTop (mkF m 24 #[.val (.int p1), .val (.int p2), .val (.int p3), .val (.int p4), .val (.int p5), .val (.int (3 : Int32)), .val (.int (2 : Int32)), .unset, .unset] [(.ref b62)])) := by
        refine pre2.trans ?_
        exact st62 _ (Steps.refl _)
      have gg : n0 ≤ b62 := Nat.le_trans Z0 (Nat.le_of_eq g62.symm)
      have Y62 : n0 ≤ h62.size := Nat.le_trans Z0 E62.1
      have FA := D62 (Or.inl (hw _ (List.mem_of_getElem? (i := 18) rfl))) (ty := .int) (by decide)
      have FB := D62 (Or.inl (hw _ (List.mem_of_getElem? (i := 11) rfl))) (ty := (.array .int)) (by decide)
      obtain ⟨_, _, ⟨T63, L63, k63, n63⟩, -, X63, ⟨Lc63, hQ63, l63, y63, z63⟩, st63⟩ := X62.specialBack hx (y := (⟨"com/example/brisk_tableau/brisktableau/ltl/IntStack", "<init>", "()V"⟩ : MethodName)) rfl hown (mvT hZ (hw _ (List.mem_of_getElem? (i := 3) rfl))) (mvT hZ (hw _ (List.mem_of_getElem? (i := 4) rfl))) (mvT hZ (hw _ (List.mem_of_getElem? (i := 5) rfl))) (by decide) (backOf (W := 1) (rm1 l Z a0 hw [] b62 _ h62 n0 Y62 A62 FA FB gg) hZ (hw _ (List.mem_of_getElem? (i := 5) rfl)) (hw _ (List.mem_of_getElem? (i := 2) rfl)) (by decide) (by decide)) (g := (mkF m 25 #[.val (.int p1), .val (.int p2), .val (.int p3), .val (.int p4), .val (.int p5), .val (.int (3 : Int32)), .val (.int (2 : Int32)), .unset, .unset] [(.ref b62), (.ref b62)])) rfl (by rw [hml]; rfl) (Steps.refl _) (a := b62) (argsL := []) (rest := [(.ref b62)]) (lenOf pd_0 rfl) rfl (by show 2 * 0 + _ ≤ _; exact Nat.le_of_eq rfl) (hb hby at_25) (fun _ _ => ⟨rfl, e62, (by decide : 1 + 1 ≤ _), (by decide : 2 + 16 ≤ _)⟩)
      dsimp only [Pt.U, Pt.locs, Pt.cells, Pt.slots] at X63 l63 y63 z63 st63 hQ63
      subst l63 y63 z63
      obtain ⟨rfl, M63, K63, bb, gb, S63⟩ := hQ63
      have N63 := Fr.app N0 M63
      have pre63 : Steps p.tables e below (s₁.setTop (entryFrame m #[(.int p1), (.int p2), (.int p3), (.int p4), (.int p5)] maxLocals)) (T63.setTop (mkF m 28 #[.val (.int p1), .val (.int p2), .val (.int p3), .val (.int p4), .val (.int p5), .val (.int (3 : Int32)), .val (.int (2 : Int32)), .unset, .unset] [(.ref b62)])) := by
        refine pre62.trans ?_
        refine XS.dup X62.here hx rfl (hb hby at_24) rfl rfl ?_
        show Steps p.tables e below (T62.setTop (mkF m 25 #[.val (.int p1), .val (.int p2), .val (.int p3), .val (.int p4), .val (.int p5), .val (.int (3 : Int32)), .val (.int (2 : Int32)), .unset, .unset] [(.ref b62), (.ref b62)])) _
        exact st63
      have Y63 : n0 ≤ T63.heap.size := Nat.le_trans Y62 K63.1
      obtain ⟨cq64, kq64, q64a, q64b, q64c⟩ := isOf hZ rfl S63.1
      obtain ⟨_, _, ⟨T64, L64, k64, n64⟩, -, X64, ⟨Lc64, hQ64, l64, y64, z64⟩, st64⟩ := X63.virtualBack hx (y := (⟨"com/example/brisk_tableau/brisktableau/ltl/IntStack", "isEmpty", "()Z"⟩ : MethodName)) (z := (⟨"com/example/brisk_tableau/brisktableau/ltl/IntStack", "isEmpty", "()Z"⟩ : MethodName)) hown (mvT hZ (hw _ (List.mem_of_getElem? (i := 12) rfl))) (mvT hZ (hw _ (List.mem_of_getElem? (i := 13) rfl))) (notFace_of_selects (args := #[]) (mvT hZ (hw _ (List.mem_of_getElem? (i := 15) rfl)))) (mvT hZ (hw _ (List.mem_of_getElem? (i := 15) rfl))) (mvT hZ (hw _ (List.mem_of_getElem? (i := 14) rfl))) (by decide) (backOf (W := 0) (rm3 l Z a0 hw [] b62 (0 : Int32) bb T63.heap n0 Y63 S63) hZ (hw _ (List.mem_of_getElem? (i := 16) rfl)) (hw _ (List.mem_of_getElem? (i := 2) rfl)) (by decide) (by decide)) q64a q64c (g := (mkF m 32 #[.val (.int p1), .val (.int p2), .val (.int p3), .val (.int p4), .val (.int p5), .val (.int (3 : Int32)), .val (.int (2 : Int32)), .val (.ref b62), .unset] [(.ref b62)])) rfl (by rw [hml]; rfl) (Steps.refl _) (argsL := []) (rest := []) (lenOf pd_1 rfl) rfl (by show 2 * 0 + _ ≤ _; exact Nat.le_of_eq rfl) (hb hby at_32) (fun _ _ => ⟨rfl, rfl, (by decide : 2 + 0 ≤ _), (by decide : 18 + 0 ≤ _)⟩)
      dsimp only [Pt.U, Pt.locs, Pt.cells, Pt.slots] at X64 l64 y64 z64 st64 hQ64
      subst l64 y64 z64
      obtain ⟨rfl, M64, e64⟩ := hQ64
      have N64 := Fr.app N63 M64
      have pre64 : Steps p.tables e below (s₁.setTop (entryFrame m #[(.int p1), (.int p2), (.int p3), (.int p4), (.int p5)] maxLocals)) (T64.setTop (mkF m 35 #[.val (.int p1), .val (.int p2), .val (.int p3), .val (.int p4), .val (.int p5), .val (.int (3 : Int32)), .val (.int (2 : Int32)), .val (.ref b62), .unset] [(.int (own_emp (0 : Int32)))])) := by
        refine pre63.trans ?_
        refine XS.astore X63.here hx rfl (hb hby at_28) rfl rfl (l' := #[.val (.int p1), .val (.int p2), .val (.int p3), .val (.int p4), .val (.int p5), .val (.int (3 : Int32)), .val (.int (2 : Int32)), .val (.ref b62), .unset]) rfl ?_
        show Steps p.tables e below (T63.setTop (mkF m 30 #[.val (.int p1), .val (.int p2), .val (.int p3), .val (.int p4), .val (.int p5), .val (.int (3 : Int32)), .val (.int (2 : Int32)), .val (.ref b62), .unset] [])) _
        refine XS.aload X63.here hx rfl (hb hby at_30) rfl rfl ?_
        show Steps p.tables e below (T63.setTop (mkF m 32 #[.val (.int p1), .val (.int p2), .val (.int p3), .val (.int p4), .val (.int p5), .val (.int (3 : Int32)), .val (.int (2 : Int32)), .val (.ref b62), .unset] [(.ref b62)])) _
        exact st64
      rw [own_e0] at pre64
      obtain ⟨cq65, kq65, q65a, q65b, q65c⟩ := isOf hZ e64 S63.1
      obtain ⟨_, _, ⟨T65, L65, k65, n65⟩, -, X65, ⟨Lc65, hQ65, l65, y65, z65⟩, st65⟩ := X64.virtualBack hx (y := (⟨"com/example/brisk_tableau/brisktableau/ltl/IntStack", "push", "(I)V"⟩ : MethodName)) (z := (⟨"com/example/brisk_tableau/brisktableau/ltl/IntStack", "push", "(I)V"⟩ : MethodName)) hown (mvT hZ (hw _ (List.mem_of_getElem? (i := 19) rfl))) (mvT hZ (hw _ (List.mem_of_getElem? (i := 20) rfl))) (notFace_of_selects (args := #[]) (mvT hZ (hw _ (List.mem_of_getElem? (i := 22) rfl)))) (mvT hZ (hw _ (List.mem_of_getElem? (i := 22) rfl))) (mvT hZ (hw _ (List.mem_of_getElem? (i := 21) rfl))) (by decide) (backOf (W := 0) (rm4 l Z a0 hw [] b62 p3 (0 : Int32) (1 : Int32) bb T63.heap n0 Y63 S63 gg gb (by decide) (by decide)) hZ (hw _ (List.mem_of_getElem? (i := 23) rfl)) (hw _ (List.mem_of_getElem? (i := 2) rfl)) (by decide) (by decide)) q65a q65c (g := (mkF m 46 #[.val (.int p1), .val (.int p2), .val (.int p3), .val (.int p4), .val (.int p5), .val (.int (3 : Int32)), .val (.int (2 : Int32)), .val (.ref b62), .val (.int (1 : Int32))] [(.int p3), (.ref b62)])) rfl (by rw [hml]; rfl) (Steps.refl _) (argsL := [(.int p3)]) (rest := []) (lenOf pd_2 rfl) rfl (by show 2 * 0 + _ ≤ _; exact Nat.le_of_eq rfl) (hb hby at_46) (fun _ _ => ⟨rfl, e64, (by decide : 2 + 0 ≤ _), (by decide : 18 + 0 ≤ _)⟩)
      dsimp only [Pt.U, Pt.locs, Pt.cells, Pt.slots] at X65 l65 y65 z65 st65 hQ65
      subst l65 y65 z65
      obtain ⟨rfl, M65, K65, S65⟩ := hQ65
      have N65 := Fr.app N64 M65
      have pre65 : Steps p.tables e below (s₁.setTop (entryFrame m #[(.int p1), (.int p2), (.int p3), (.int p4), (.int p5)] maxLocals)) (T65.setTop (mkF m 49 #[.val (.int p1), .val (.int p2), .val (.int p3), .val (.int p4), .val (.int p5), .val (.int (3 : Int32)), .val (.int (2 : Int32)), .val (.ref b62), .val (.int (1 : Int32))] [])) := by
        refine pre64.trans ?_
        refine XS.istore X64.here hx rfl (hb hby at_35) rfl (l' := #[.val (.int p1), .val (.int p2), .val (.int p3), .val (.int p4), .val (.int p5), .val (.int (3 : Int32)), .val (.int (2 : Int32)), .val (.ref b62), .val (.int (1 : Int32))]) rfl ?_
        show Steps p.tables e below (T64.setTop (mkF m 37 #[.val (.int p1), .val (.int p2), .val (.int p3), .val (.int p4), .val (.int p5), .val (.int (3 : Int32)), .val (.int (2 : Int32)), .val (.ref b62), .val (.int (1 : Int32))] [])) _
        refine XS.iload X64.here hx rfl (hb hby at_37) rfl ?_
        show Steps p.tables e below (T64.setTop (mkF m 39 #[.val (.int p1), .val (.int p2), .val (.int p3), .val (.int p4), .val (.int p5), .val (.int (3 : Int32)), .val (.int (2 : Int32)), .val (.ref b62), .val (.int (1 : Int32))] [(.int (3 : Int32))])) _
        refine XS.iconst X64.here hx rfl (hb hby at_39) ?_
        show Steps p.tables e below (T64.setTop (mkF m 40 #[.val (.int p1), .val (.int p2), .val (.int p3), .val (.int p4), .val (.int p5), .val (.int (3 : Int32)), .val (.int (2 : Int32)), .val (.ref b62), .val (.int (1 : Int32))] [(.int (1 : Int32)), (.int (3 : Int32))])) _
        refine XS.icmpNo X64.here hx rfl (hb hby at_40) rfl (by decide) ?_
        show Steps p.tables e below (T64.setTop (mkF m 43 #[.val (.int p1), .val (.int p2), .val (.int p3), .val (.int p4), .val (.int p5), .val (.int (3 : Int32)), .val (.int (2 : Int32)), .val (.ref b62), .val (.int (1 : Int32))] [])) _
        refine XS.aload X64.here hx rfl (hb hby at_43) rfl rfl ?_
        show Steps p.tables e below (T64.setTop (mkF m 45 #[.val (.int p1), .val (.int p2), .val (.int p3), .val (.int p4), .val (.int p5), .val (.int (3 : Int32)), .val (.int (2 : Int32)), .val (.ref b62), .val (.int (1 : Int32))] [(.ref b62)])) _
        refine XS.iloadN X64.here hx rfl (hb hby at_45) rfl ?_
        show Steps p.tables e below (T64.setTop (mkF m 46 #[.val (.int p1), .val (.int p2), .val (.int p3), .val (.int p4), .val (.int p5), .val (.int (3 : Int32)), .val (.int (2 : Int32)), .val (.ref b62), .val (.int (1 : Int32))] [(.int p3), (.ref b62)])) _
        exact st65
      have Y65 : n0 ≤ T65.heap.size := Nat.le_trans Y63 K65.1
      obtain ⟨cq66, kq66, q66a, q66b, q66c⟩ := isOf hZ rfl S65.1
      obtain ⟨_, _, ⟨T66, L66, k66, n66⟩, -, X66, ⟨Lc66, hQ66, l66, y66, z66⟩, st66⟩ := X65.virtualBack hx (y := (⟨"com/example/brisk_tableau/brisktableau/ltl/IntStack", "push", "(I)V"⟩ : MethodName)) (z := (⟨"com/example/brisk_tableau/brisktableau/ltl/IntStack", "push", "(I)V"⟩ : MethodName)) hown (mvT hZ (hw _ (List.mem_of_getElem? (i := 19) rfl))) (mvT hZ (hw _ (List.mem_of_getElem? (i := 20) rfl))) (notFace_of_selects (args := #[]) (mvT hZ (hw _ (List.mem_of_getElem? (i := 22) rfl)))) (mvT hZ (hw _ (List.mem_of_getElem? (i := 22) rfl))) (mvT hZ (hw _ (List.mem_of_getElem? (i := 21) rfl))) (by decide) (backOf (W := 0) (rm4 l Z a0 hw [] b62 p4 (1 : Int32) (2 : Int32) bb T65.heap n0 Y65 S65 gg gb (by decide) (by decide)) hZ (hw _ (List.mem_of_getElem? (i := 23) rfl)) (hw _ (List.mem_of_getElem? (i := 2) rfl)) (by decide) (by decide)) q66a q66c (g := (mkF m 58 #[.val (.int p1), .val (.int p2), .val (.int p3), .val (.int p4), .val (.int p5), .val (.int (3 : Int32)), .val (.int (2 : Int32)), .val (.ref b62), .val (.int (1 : Int32))] [(.int p4), (.ref b62)])) rfl (by rw [hml]; rfl) (Steps.refl _) (argsL := [(.int p4)]) (rest := []) (lenOf pd_2 rfl) rfl (by show 2 * 0 + _ ≤ _; exact Nat.le_of_eq rfl) (hb hby at_58) (fun _ _ => ⟨rfl, rfl, (by decide : 2 + 0 ≤ _), (by decide : 18 + 0 ≤ _)⟩)
      dsimp only [Pt.U, Pt.locs, Pt.cells, Pt.slots] at X66 l66 y66 z66 st66 hQ66
      subst l66 y66 z66
      obtain ⟨rfl, M66, K66, S66⟩ := hQ66
      have N66 := Fr.app N65 M66
      have pre66 : Steps p.tables e below (s₁.setTop (entryFrame m #[(.int p1), (.int p2), (.int p3), (.int p4), (.int p5)] maxLocals)) (T66.setTop (mkF m 61 #[.val (.int p1), .val (.int p2), .val (.int p3), .val (.int p4), .val (.int p5), .val (.int (3 : Int32)), .val (.int (2 : Int32)), .val (.ref b62), .val (.int (1 : Int32))] [])) := by
        refine pre65.trans ?_
        refine XS.iload X65.here hx rfl (hb hby at_49) rfl ?_
        show Steps p.tables e below (T65.setTop (mkF m 51 #[.val (.int p1), .val (.int p2), .val (.int p3), .val (.int p4), .val (.int p5), .val (.int (3 : Int32)), .val (.int (2 : Int32)), .val (.ref b62), .val (.int (1 : Int32))] [(.int (3 : Int32))])) _
        refine XS.iconst X65.here hx rfl (hb hby at_51) ?_
        show Steps p.tables e below (T65.setTop (mkF m 52 #[.val (.int p1), .val (.int p2), .val (.int p3), .val (.int p4), .val (.int p5), .val (.int (3 : Int32)), .val (.int (2 : Int32)), .val (.ref b62), .val (.int (1 : Int32))] [(.int (2 : Int32)), (.int (3 : Int32))])) _
        refine XS.icmpNo X65.here hx rfl (hb hby at_52) rfl (by decide) ?_
        show Steps p.tables e below (T65.setTop (mkF m 55 #[.val (.int p1), .val (.int p2), .val (.int p3), .val (.int p4), .val (.int p5), .val (.int (3 : Int32)), .val (.int (2 : Int32)), .val (.ref b62), .val (.int (1 : Int32))] [])) _
        refine XS.aload X65.here hx rfl (hb hby at_55) rfl rfl ?_
        show Steps p.tables e below (T65.setTop (mkF m 57 #[.val (.int p1), .val (.int p2), .val (.int p3), .val (.int p4), .val (.int p5), .val (.int (3 : Int32)), .val (.int (2 : Int32)), .val (.ref b62), .val (.int (1 : Int32))] [(.ref b62)])) _
        refine XS.iloadN X65.here hx rfl (hb hby at_57) rfl ?_
        show Steps p.tables e below (T65.setTop (mkF m 58 #[.val (.int p1), .val (.int p2), .val (.int p3), .val (.int p4), .val (.int p5), .val (.int (3 : Int32)), .val (.int (2 : Int32)), .val (.ref b62), .val (.int (1 : Int32))] [(.int p4), (.ref b62)])) _
        exact st66
      have Y66 : n0 ≤ T66.heap.size := Nat.le_trans Y65 K66.1
      obtain ⟨cq67, kq67, q67a, q67b, q67c⟩ := isOf hZ rfl S66.1
      obtain ⟨_, _, ⟨T67, L67, k67, n67⟩, -, X67, ⟨Lc67, hQ67, l67, y67, z67⟩, st67⟩ := X66.virtualBack hx (y := (⟨"com/example/brisk_tableau/brisktableau/ltl/IntStack", "push", "(I)V"⟩ : MethodName)) (z := (⟨"com/example/brisk_tableau/brisktableau/ltl/IntStack", "push", "(I)V"⟩ : MethodName)) hown (mvT hZ (hw _ (List.mem_of_getElem? (i := 19) rfl))) (mvT hZ (hw _ (List.mem_of_getElem? (i := 20) rfl))) (notFace_of_selects (args := #[]) (mvT hZ (hw _ (List.mem_of_getElem? (i := 22) rfl)))) (mvT hZ (hw _ (List.mem_of_getElem? (i := 22) rfl))) (mvT hZ (hw _ (List.mem_of_getElem? (i := 21) rfl))) (by decide) (backOf (W := 0) (rm4 l Z a0 hw [] b62 p5 (2 : Int32) (3 : Int32) bb T66.heap n0 Y66 S66 gg gb (by decide) (by decide)) hZ (hw _ (List.mem_of_getElem? (i := 23) rfl)) (hw _ (List.mem_of_getElem? (i := 2) rfl)) (by decide) (by decide)) q67a q67c (g := (mkF m 71 #[.val (.int p1), .val (.int p2), .val (.int p3), .val (.int p4), .val (.int p5), .val (.int (3 : Int32)), .val (.int (2 : Int32)), .val (.ref b62), .val (.int (1 : Int32))] [(.int p5), (.ref b62)])) rfl (by rw [hml]; rfl) (Steps.refl _) (argsL := [(.int p5)]) (rest := []) (lenOf pd_2 rfl) rfl (by show 2 * 0 + _ ≤ _; exact Nat.le_of_eq rfl) (hb hby at_71) (fun _ _ => ⟨rfl, rfl, (by decide : 2 + 0 ≤ _), (by decide : 18 + 0 ≤ _)⟩)
      dsimp only [Pt.U, Pt.locs, Pt.cells, Pt.slots] at X67 l67 y67 z67 st67 hQ67
      subst l67 y67 z67
      obtain ⟨rfl, M67, K67, S67⟩ := hQ67
      have N67 := Fr.app N66 M67
      have pre67 : Steps p.tables e below (s₁.setTop (entryFrame m #[(.int p1), (.int p2), (.int p3), (.int p4), (.int p5)] maxLocals)) (T67.setTop (mkF m 74 #[.val (.int p1), .val (.int p2), .val (.int p3), .val (.int p4), .val (.int p5), .val (.int (3 : Int32)), .val (.int (2 : Int32)), .val (.ref b62), .val (.int (1 : Int32))] [])) := by
        refine pre66.trans ?_
        refine XS.iload X66.here hx rfl (hb hby at_61) rfl ?_
        show Steps p.tables e below (T66.setTop (mkF m 63 #[.val (.int p1), .val (.int p2), .val (.int p3), .val (.int p4), .val (.int p5), .val (.int (3 : Int32)), .val (.int (2 : Int32)), .val (.ref b62), .val (.int (1 : Int32))] [(.int (3 : Int32))])) _
        refine XS.iconst X66.here hx rfl (hb hby at_63) ?_
        show Steps p.tables e below (T66.setTop (mkF m 64 #[.val (.int p1), .val (.int p2), .val (.int p3), .val (.int p4), .val (.int p5), .val (.int (3 : Int32)), .val (.int (2 : Int32)), .val (.ref b62), .val (.int (1 : Int32))] [(.int (3 : Int32)), (.int (3 : Int32))])) _
        refine XS.icmpNo X66.here hx rfl (hb hby at_64) rfl (by decide) ?_
        show Steps p.tables e below (T66.setTop (mkF m 67 #[.val (.int p1), .val (.int p2), .val (.int p3), .val (.int p4), .val (.int p5), .val (.int (3 : Int32)), .val (.int (2 : Int32)), .val (.ref b62), .val (.int (1 : Int32))] [])) _
        refine XS.aload X66.here hx rfl (hb hby at_67) rfl rfl ?_
        show Steps p.tables e below (T66.setTop (mkF m 69 #[.val (.int p1), .val (.int p2), .val (.int p3), .val (.int p4), .val (.int p5), .val (.int (3 : Int32)), .val (.int (2 : Int32)), .val (.ref b62), .val (.int (1 : Int32))] [(.ref b62)])) _
        refine XS.iload X66.here hx rfl (hb hby at_69) rfl ?_
        show Steps p.tables e below (T66.setTop (mkF m 71 #[.val (.int p1), .val (.int p2), .val (.int p3), .val (.int p4), .val (.int p5), .val (.int (3 : Int32)), .val (.int (2 : Int32)), .val (.ref b62), .val (.int (1 : Int32))] [(.int p5), (.ref b62)])) _
        exact st67
      have Y67 : n0 ≤ T67.heap.size := Nat.le_trans Y66 K67.1
      obtain ⟨cq68, kq68, q68a, q68b, q68c⟩ := isOf hZ rfl S67.1
      obtain ⟨_, _, ⟨T68, L68, k68, n68⟩, -, X68, ⟨Lc68, hQ68, l68, y68, z68⟩, st68⟩ := X67.virtualBack hx (y := (⟨"com/example/brisk_tableau/brisktableau/ltl/IntStack", "isEmpty", "()Z"⟩ : MethodName)) (z := (⟨"com/example/brisk_tableau/brisktableau/ltl/IntStack", "isEmpty", "()Z"⟩ : MethodName)) hown (mvT hZ (hw _ (List.mem_of_getElem? (i := 12) rfl))) (mvT hZ (hw _ (List.mem_of_getElem? (i := 13) rfl))) (notFace_of_selects (args := #[]) (mvT hZ (hw _ (List.mem_of_getElem? (i := 15) rfl)))) (mvT hZ (hw _ (List.mem_of_getElem? (i := 15) rfl))) (mvT hZ (hw _ (List.mem_of_getElem? (i := 14) rfl))) (by decide) (backOf (W := 0) (rm3 l Z a0 hw [] b62 (3 : Int32) bb T67.heap n0 Y67 S67) hZ (hw _ (List.mem_of_getElem? (i := 16) rfl)) (hw _ (List.mem_of_getElem? (i := 2) rfl)) (by decide) (by decide)) q68a q68c (g := (mkF m 81 #[.val (.int p1), .val (.int p2), .val (.int p3), .val (.int p4), .val (.int p5), .val (.int (3 : Int32)), .val (.int (2 : Int32)), .val (.ref b62), .val (.int (1 : Int32))] [(.ref b62)])) rfl (by rw [hml]; rfl) (Steps.refl _) (argsL := []) (rest := []) (lenOf pd_1 rfl) rfl (by show 2 * 0 + _ ≤ _; exact Nat.le_of_eq rfl) (hb hby at_81) (fun _ _ => ⟨rfl, rfl, (by decide : 2 + 0 ≤ _), (by decide : 18 + 0 ≤ _)⟩)
      dsimp only [Pt.U, Pt.locs, Pt.cells, Pt.slots] at X68 l68 y68 z68 st68 hQ68
      subst l68 y68 z68
      obtain ⟨rfl, M68, e68⟩ := hQ68
      have N68 := Fr.app N67 M68
      have pre68 : Steps p.tables e below (s₁.setTop (entryFrame m #[(.int p1), (.int p2), (.int p3), (.int p4), (.int p5)] maxLocals)) (T68.setTop (mkF m 84 #[.val (.int p1), .val (.int p2), .val (.int p3), .val (.int p4), .val (.int p5), .val (.int (3 : Int32)), .val (.int (2 : Int32)), .val (.ref b62), .val (.int (1 : Int32))] [(.int (own_emp (3 : Int32)))])) := by
        refine pre67.trans ?_
        refine XS.iload X67.here hx rfl (hb hby at_74) rfl ?_
        show Steps p.tables e below (T67.setTop (mkF m 76 #[.val (.int p1), .val (.int p2), .val (.int p3), .val (.int p4), .val (.int p5), .val (.int (3 : Int32)), .val (.int (2 : Int32)), .val (.ref b62), .val (.int (1 : Int32))] [(.int (1 : Int32))])) _
        refine XS.ifNo X67.here hx rfl (hb hby at_76) rfl (by decide) ?_
        show Steps p.tables e below (T67.setTop (mkF m 79 #[.val (.int p1), .val (.int p2), .val (.int p3), .val (.int p4), .val (.int p5), .val (.int (3 : Int32)), .val (.int (2 : Int32)), .val (.ref b62), .val (.int (1 : Int32))] [])) _
        refine XS.aload X67.here hx rfl (hb hby at_79) rfl rfl ?_
        show Steps p.tables e below (T67.setTop (mkF m 81 #[.val (.int p1), .val (.int p2), .val (.int p3), .val (.int p4), .val (.int p5), .val (.int (3 : Int32)), .val (.int (2 : Int32)), .val (.ref b62), .val (.int (1 : Int32))] [(.ref b62)])) _
        exact st68
      rw [own_e3] at pre68
      obtain ⟨cq69, kq69, q69a, q69b, q69c⟩ := isOf hZ e68 S67.1
      obtain ⟨_, _, ⟨T69, L69, k69, n69⟩, -, X69, ⟨Lc69, hQ69, l69, y69, z69⟩, st69⟩ := X68.virtualBack hx (y := (⟨"com/example/brisk_tableau/brisktableau/ltl/IntStack", "pop", "()I"⟩ : MethodName)) (z := (⟨"com/example/brisk_tableau/brisktableau/ltl/IntStack", "pop", "()I"⟩ : MethodName)) hown (mvT hZ (hw _ (List.mem_of_getElem? (i := 24) rfl))) (mvT hZ (hw _ (List.mem_of_getElem? (i := 25) rfl))) (notFace_of_selects (args := #[]) (mvT hZ (hw _ (List.mem_of_getElem? (i := 27) rfl)))) (mvT hZ (hw _ (List.mem_of_getElem? (i := 27) rfl))) (mvT hZ (hw _ (List.mem_of_getElem? (i := 26) rfl))) (by decide) (backOf (W := 0) (rm5 l Z a0 hw [] b62 (3 : Int32) (2 : Int32) bb T67.heap n0 Y67 S67 gg gb (by decide) (by decide)) hZ (hw _ (List.mem_of_getElem? (i := 28) rfl)) (hw _ (List.mem_of_getElem? (i := 2) rfl)) (by decide) (by decide)) q69a q69c (g := (mkF m 112 #[.val (.int p1), .val (.int p2), .val (.int p3), .val (.int p4), .val (.int p5), .val (.int (3 : Int32)), .val (.int (2 : Int32)), .val (.ref b62), .val (.int (1 : Int32))] [(.ref b62)])) rfl (by rw [hml]; rfl) (Steps.refl _) (argsL := []) (rest := []) (lenOf pd_3 rfl) rfl (by show 2 * 0 + _ ≤ _; exact Nat.le_of_eq rfl) (hb hby at_112) (fun _ _ => ⟨rfl, e68, (by decide : 2 + 0 ≤ _), (by decide : 18 + 0 ≤ _)⟩)
      dsimp only [Pt.U, Pt.locs, Pt.cells, Pt.slots] at X69 l69 y69 z69 st69 hQ69
      subst l69 y69 z69
      obtain ⟨⟨x69, rfl⟩, M69, K69, S69⟩ := hQ69
      have N69 := Fr.app N68 M69
      have pre69 : Steps p.tables e below (s₁.setTop (entryFrame m #[(.int p1), (.int p2), (.int p3), (.int p4), (.int p5)] maxLocals)) (T69.setTop (mkF m 115 #[.val (.int p1), .val (.int p2), .val (.int p3), .val (.int p4), .val (.int p5), .val (.int (3 : Int32)), .val (.int (2 : Int32)), .val (.ref b62), .val (.int (1 : Int32))] [(.int x69)])) := by
        refine pre68.trans ?_
        refine XS.iload X68.here hx rfl (hb hby at_84) rfl ?_
        show Steps p.tables e below (T68.setTop (mkF m 86 #[.val (.int p1), .val (.int p2), .val (.int p3), .val (.int p4), .val (.int p5), .val (.int (3 : Int32)), .val (.int (2 : Int32)), .val (.ref b62), .val (.int (1 : Int32))] [(.int (3 : Int32)), (.int (0 : Int32))])) _
        refine XS.ifYes X68.here hx rfl (pc0 := 86) (pc' := 93) rfl (hb hby at_86) rfl (by decide) (by decide) (by decide) ?_
        show Steps p.tables e below (T68.setTop (mkF m 93 #[.val (.int p1), .val (.int p2), .val (.int p3), .val (.int p4), .val (.int p5), .val (.int (3 : Int32)), .val (.int (2 : Int32)), .val (.ref b62), .val (.int (1 : Int32))] [(.int (0 : Int32))])) _
        refine XS.iconst X68.here hx rfl (hb hby at_93) ?_
        show Steps p.tables e below (T68.setTop (mkF m 94 #[.val (.int p1), .val (.int p2), .val (.int p3), .val (.int p4), .val (.int p5), .val (.int (3 : Int32)), .val (.int (2 : Int32)), .val (.ref b62), .val (.int (1 : Int32))] [(.int (0 : Int32)), (.int (0 : Int32))])) _
        refine XS.icmpNo X68.here hx rfl (hb hby at_94) rfl (by decide) ?_
        show Steps p.tables e below (T68.setTop (mkF m 97 #[.val (.int p1), .val (.int p2), .val (.int p3), .val (.int p4), .val (.int p5), .val (.int (3 : Int32)), .val (.int (2 : Int32)), .val (.ref b62), .val (.int (1 : Int32))] [])) _
        refine XS.iconst X68.here hx rfl (hb hby at_97) ?_
        show Steps p.tables e below (T68.setTop (mkF m 98 #[.val (.int p1), .val (.int p2), .val (.int p3), .val (.int p4), .val (.int p5), .val (.int (3 : Int32)), .val (.int (2 : Int32)), .val (.ref b62), .val (.int (1 : Int32))] [(.int (1 : Int32))])) _
        refine XS.goto X68.here hx rfl (pc0 := 98) (pc' := 102) rfl (hb hby at_98) (by decide) (by decide) ?_
        show Steps p.tables e below (T68.setTop (mkF m 102 #[.val (.int p1), .val (.int p2), .val (.int p3), .val (.int p4), .val (.int p5), .val (.int (3 : Int32)), .val (.int (2 : Int32)), .val (.ref b62), .val (.int (1 : Int32))] [(.int (1 : Int32))])) _
        refine XS.istore X68.here hx rfl (hb hby at_102) rfl (l' := #[.val (.int p1), .val (.int p2), .val (.int p3), .val (.int p4), .val (.int p5), .val (.int (3 : Int32)), .val (.int (2 : Int32)), .val (.ref b62), .val (.int (1 : Int32))]) rfl ?_
        show Steps p.tables e below (T68.setTop (mkF m 104 #[.val (.int p1), .val (.int p2), .val (.int p3), .val (.int p4), .val (.int p5), .val (.int (3 : Int32)), .val (.int (2 : Int32)), .val (.ref b62), .val (.int (1 : Int32))] [])) _
        refine XS.iload X68.here hx rfl (hb hby at_104) rfl ?_
        show Steps p.tables e below (T68.setTop (mkF m 106 #[.val (.int p1), .val (.int p2), .val (.int p3), .val (.int p4), .val (.int p5), .val (.int (3 : Int32)), .val (.int (2 : Int32)), .val (.ref b62), .val (.int (1 : Int32))] [(.int (2 : Int32))])) _
        refine XS.iconst X68.here hx rfl (hb hby at_106) ?_
        show Steps p.tables e below (T68.setTop (mkF m 107 #[.val (.int p1), .val (.int p2), .val (.int p3), .val (.int p4), .val (.int p5), .val (.int (3 : Int32)), .val (.int (2 : Int32)), .val (.ref b62), .val (.int (1 : Int32))] [(.int (1 : Int32)), (.int (2 : Int32))])) _
        refine XS.icmpNo X68.here hx rfl (hb hby at_107) rfl (by decide) ?_
        show Steps p.tables e below (T68.setTop (mkF m 110 #[.val (.int p1), .val (.int p2), .val (.int p3), .val (.int p4), .val (.int p5), .val (.int (3 : Int32)), .val (.int (2 : Int32)), .val (.ref b62), .val (.int (1 : Int32))] [])) _
        refine XS.aload X68.here hx rfl (hb hby at_110) rfl rfl ?_
        show Steps p.tables e below (T68.setTop (mkF m 112 #[.val (.int p1), .val (.int p2), .val (.int p3), .val (.int p4), .val (.int p5), .val (.int (3 : Int32)), .val (.int (2 : Int32)), .val (.ref b62), .val (.int (1 : Int32))] [(.ref b62)])) _
        exact st69
      have Y69 : n0 ≤ T69.heap.size := Nat.le_trans Y67 K69.1
      obtain ⟨cq70, kq70, q70a, q70b, q70c⟩ := isOf hZ rfl S69.1
      obtain ⟨_, _, ⟨T70, L70, k70, n70⟩, -, X70, ⟨Lc70, hQ70, l70, y70, z70⟩, st70⟩ := X69.virtualBack hx (y := (⟨"com/example/brisk_tableau/brisktableau/ltl/IntStack", "pop", "()I"⟩ : MethodName)) (z := (⟨"com/example/brisk_tableau/brisktableau/ltl/IntStack", "pop", "()I"⟩ : MethodName)) hown (mvT hZ (hw _ (List.mem_of_getElem? (i := 24) rfl))) (mvT hZ (hw _ (List.mem_of_getElem? (i := 25) rfl))) (notFace_of_selects (args := #[]) (mvT hZ (hw _ (List.mem_of_getElem? (i := 27) rfl)))) (mvT hZ (hw _ (List.mem_of_getElem? (i := 27) rfl))) (mvT hZ (hw _ (List.mem_of_getElem? (i := 26) rfl))) (by decide) (backOf (W := 0) (rm5 l Z a0 hw [] b62 (2 : Int32) (1 : Int32) bb T69.heap n0 Y69 S69 gg gb (by decide) (by decide)) hZ (hw _ (List.mem_of_getElem? (i := 28) rfl)) (hw _ (List.mem_of_getElem? (i := 2) rfl)) (by decide) (by decide)) q70a q70c (g := (mkF m 124 #[.val (.int p1), .val (.int p2), .val (.int p3), .val (.int p4), .val (.int p5), .val (.int (3 : Int32)), .val (.int (2 : Int32)), .val (.ref b62), .val (.int (1 : Int32))] [(.ref b62)])) rfl (by rw [hml]; rfl) (Steps.refl _) (argsL := []) (rest := []) (lenOf pd_3 rfl) rfl (by show 2 * 0 + _ ≤ _; exact Nat.le_of_eq rfl) (hb hby at_124) (fun _ _ => ⟨rfl, rfl, (by decide : 2 + 0 ≤ _), (by decide : 18 + 0 ≤ _)⟩)
      dsimp only [Pt.U, Pt.locs, Pt.cells, Pt.slots] at X70 l70 y70 z70 st70 hQ70
      subst l70 y70 z70
      obtain ⟨⟨x70, rfl⟩, M70, K70, S70⟩ := hQ70
      have N70 := Fr.app N69 M70
      have pre70 : Steps p.tables e below (s₁.setTop (entryFrame m #[(.int p1), (.int p2), (.int p3), (.int p4), (.int p5)] maxLocals)) (T70.setTop (mkF m 127 #[.val (.int p1), .val (.int p2), .val (.int p3), .val (.int p4), .val (.int p5), .val (.int (3 : Int32)), .val (.int (2 : Int32)), .val (.ref b62), .val (.int (1 : Int32))] [(.int x70)])) := by
        refine pre69.trans ?_
        refine XS.pop X69.here hx rfl (hb hby at_115) rfl rfl ?_
        show Steps p.tables e below (T69.setTop (mkF m 116 #[.val (.int p1), .val (.int p2), .val (.int p3), .val (.int p4), .val (.int p5), .val (.int (3 : Int32)), .val (.int (2 : Int32)), .val (.ref b62), .val (.int (1 : Int32))] [])) _
        refine XS.iload X69.here hx rfl (hb hby at_116) rfl ?_
        show Steps p.tables e below (T69.setTop (mkF m 118 #[.val (.int p1), .val (.int p2), .val (.int p3), .val (.int p4), .val (.int p5), .val (.int (3 : Int32)), .val (.int (2 : Int32)), .val (.ref b62), .val (.int (1 : Int32))] [(.int (2 : Int32))])) _
        refine XS.iconst X69.here hx rfl (hb hby at_118) ?_
        show Steps p.tables e below (T69.setTop (mkF m 119 #[.val (.int p1), .val (.int p2), .val (.int p3), .val (.int p4), .val (.int p5), .val (.int (3 : Int32)), .val (.int (2 : Int32)), .val (.ref b62), .val (.int (1 : Int32))] [(.int (2 : Int32)), (.int (2 : Int32))])) _
        refine XS.icmpNo X69.here hx rfl (hb hby at_119) rfl (by decide) ?_
        show Steps p.tables e below (T69.setTop (mkF m 122 #[.val (.int p1), .val (.int p2), .val (.int p3), .val (.int p4), .val (.int p5), .val (.int (3 : Int32)), .val (.int (2 : Int32)), .val (.ref b62), .val (.int (1 : Int32))] [])) _
        refine XS.aload X69.here hx rfl (hb hby at_122) rfl rfl ?_
        show Steps p.tables e below (T69.setTop (mkF m 124 #[.val (.int p1), .val (.int p2), .val (.int p3), .val (.int p4), .val (.int p5), .val (.int (3 : Int32)), .val (.int (2 : Int32)), .val (.ref b62), .val (.int (1 : Int32))] [(.ref b62)])) _
        exact st70
      have Y70 : n0 ≤ T70.heap.size := Nat.le_trans Y69 K70.1
      obtain ⟨cq71, kq71, q71a, q71b, q71c⟩ := isOf hZ rfl S70.1
      obtain ⟨_, _, ⟨T71, L71, k71, n71⟩, -, X71, ⟨Lc71, hQ71, l71, y71, z71⟩, st71⟩ := X70.virtualBack hx (y := (⟨"com/example/brisk_tableau/brisktableau/ltl/IntStack", "isEmpty", "()Z"⟩ : MethodName)) (z := (⟨"com/example/brisk_tableau/brisktableau/ltl/IntStack", "isEmpty", "()Z"⟩ : MethodName)) hown (mvT hZ (hw _ (List.mem_of_getElem? (i := 12) rfl))) (mvT hZ (hw _ (List.mem_of_getElem? (i := 13) rfl))) (notFace_of_selects (args := #[]) (mvT hZ (hw _ (List.mem_of_getElem? (i := 15) rfl)))) (mvT hZ (hw _ (List.mem_of_getElem? (i := 15) rfl))) (mvT hZ (hw _ (List.mem_of_getElem? (i := 14) rfl))) (by decide) (backOf (W := 0) (rm3 l Z a0 hw [] b62 (1 : Int32) bb T70.heap n0 Y70 S70) hZ (hw _ (List.mem_of_getElem? (i := 16) rfl)) (hw _ (List.mem_of_getElem? (i := 2) rfl)) (by decide) (by decide)) q71a q71c (g := (mkF m 147 #[.val (.int p1), .val (.int p2), .val (.int p3), .val (.int p4), .val (.int p5), .val (.int (3 : Int32)), .val (.int (2 : Int32)), .val (.ref b62), .val (.int (1 : Int32))] [(.ref b62)])) rfl (by rw [hml]; rfl) (Steps.refl _) (argsL := []) (rest := []) (lenOf pd_1 rfl) rfl (by show 2 * 0 + _ ≤ _; exact Nat.le_of_eq rfl) (hb hby at_147) (fun _ _ => ⟨rfl, rfl, (by decide : 2 + 0 ≤ _), (by decide : 18 + 0 ≤ _)⟩)
      dsimp only [Pt.U, Pt.locs, Pt.cells, Pt.slots] at X71 l71 y71 z71 st71 hQ71
      subst l71 y71 z71
      obtain ⟨rfl, M71, e71⟩ := hQ71
      have N71 := Fr.app N70 M71
      have pre71 : Steps p.tables e below (s₁.setTop (entryFrame m #[(.int p1), (.int p2), (.int p3), (.int p4), (.int p5)] maxLocals)) (T71.setTop (mkF m 150 #[.val (.int p1), .val (.int p2), .val (.int p3), .val (.int p4), .val (.int p5), .val (.int (3 : Int32)), .val (.int (2 : Int32)), .val (.ref b62), .val (.int (1 : Int32))] [(.int (own_emp (1 : Int32)))])) := by
        refine pre70.trans ?_
        refine XS.pop X70.here hx rfl (hb hby at_127) rfl rfl ?_
        show Steps p.tables e below (T70.setTop (mkF m 128 #[.val (.int p1), .val (.int p2), .val (.int p3), .val (.int p4), .val (.int p5), .val (.int (3 : Int32)), .val (.int (2 : Int32)), .val (.ref b62), .val (.int (1 : Int32))] [])) _
        refine XS.iload X70.here hx rfl (hb hby at_128) rfl ?_
        show Steps p.tables e below (T70.setTop (mkF m 130 #[.val (.int p1), .val (.int p2), .val (.int p3), .val (.int p4), .val (.int p5), .val (.int (3 : Int32)), .val (.int (2 : Int32)), .val (.ref b62), .val (.int (1 : Int32))] [(.int (2 : Int32))])) _
        refine XS.iconst X70.here hx rfl (hb hby at_130) ?_
        show Steps p.tables e below (T70.setTop (mkF m 131 #[.val (.int p1), .val (.int p2), .val (.int p3), .val (.int p4), .val (.int p5), .val (.int (3 : Int32)), .val (.int (2 : Int32)), .val (.ref b62), .val (.int (1 : Int32))] [(.int (3 : Int32)), (.int (2 : Int32))])) _
        refine XS.icmpYes X70.here hx rfl (pc0 := 131) (pc' := 140) rfl (hb hby at_131) rfl (by decide) (by decide) (by decide) ?_
        show Steps p.tables e below (T70.setTop (mkF m 140 #[.val (.int p1), .val (.int p2), .val (.int p3), .val (.int p4), .val (.int p5), .val (.int (3 : Int32)), .val (.int (2 : Int32)), .val (.ref b62), .val (.int (1 : Int32))] [])) _
        refine XS.iload X70.here hx rfl (hb hby at_140) rfl ?_
        show Steps p.tables e below (T70.setTop (mkF m 142 #[.val (.int p1), .val (.int p2), .val (.int p3), .val (.int p4), .val (.int p5), .val (.int (3 : Int32)), .val (.int (2 : Int32)), .val (.ref b62), .val (.int (1 : Int32))] [(.int (1 : Int32))])) _
        refine XS.ifNo X70.here hx rfl (hb hby at_142) rfl (by decide) ?_
        show Steps p.tables e below (T70.setTop (mkF m 145 #[.val (.int p1), .val (.int p2), .val (.int p3), .val (.int p4), .val (.int p5), .val (.int (3 : Int32)), .val (.int (2 : Int32)), .val (.ref b62), .val (.int (1 : Int32))] [])) _
        refine XS.aload X70.here hx rfl (hb hby at_145) rfl rfl ?_
        show Steps p.tables e below (T70.setTop (mkF m 147 #[.val (.int p1), .val (.int p2), .val (.int p3), .val (.int p4), .val (.int p5), .val (.int (3 : Int32)), .val (.int (2 : Int32)), .val (.ref b62), .val (.int (1 : Int32))] [(.ref b62)])) _
        exact st71
      rw [own_e1] at pre71
      obtain ⟨fs, hr, hrun, hended, hW, hsame⟩ := X71.leave (v := some (.int (1 : Int32))) (fun h => by rw [Bd.returns] at h; cases h)
      refine ⟨_, _, pre71.trans ?_, hrun, hended, _, _, rfl, ?_, ⟨_, rfl⟩, hW, hsame.mono (by decide) (by decide)⟩
      · skip
        refine XS.iload X71.here hx rfl (hb hby at_150) rfl ?_
        show Steps p.tables e below (T71.setTop (mkF m 152 #[.val (.int p1), .val (.int p2), .val (.int p3), .val (.int p4), .val (.int p5), .val (.int (3 : Int32)), .val (.int (2 : Int32)), .val (.ref b62), .val (.int (1 : Int32))] [(.int (3 : Int32)), (.int (0 : Int32))])) _
        refine XS.iload X71.here hx rfl (hb hby at_152) rfl ?_
        show Steps p.tables e below (T71.setTop (mkF m 154 #[.val (.int p1), .val (.int p2), .val (.int p3), .val (.int p4), .val (.int p5), .val (.int (3 : Int32)), .val (.int (2 : Int32)), .val (.ref b62), .val (.int (1 : Int32))] [(.int (2 : Int32)), (.int (3 : Int32)), (.int (0 : Int32))])) _
        refine XS.icmpYes X71.here hx rfl (pc0 := 154) (pc' := 161) rfl (hb hby at_154) rfl (by decide) (by decide) (by decide) ?_
        show Steps p.tables e below (T71.setTop (mkF m 161 #[.val (.int p1), .val (.int p2), .val (.int p3), .val (.int p4), .val (.int p5), .val (.int (3 : Int32)), .val (.int (2 : Int32)), .val (.ref b62), .val (.int (1 : Int32))] [(.int (0 : Int32))])) _
        refine XS.iconst X71.here hx rfl (hb hby at_161) ?_
        show Steps p.tables e below (T71.setTop (mkF m 162 #[.val (.int p1), .val (.int p2), .val (.int p3), .val (.int p4), .val (.int p5), .val (.int (3 : Int32)), .val (.int (2 : Int32)), .val (.ref b62), .val (.int (1 : Int32))] [(.int (0 : Int32)), (.int (0 : Int32))])) _
        refine XS.icmpNo X71.here hx rfl (hb hby at_162) rfl (by decide) ?_
        show Steps p.tables e below (T71.setTop (mkF m 165 #[.val (.int p1), .val (.int p2), .val (.int p3), .val (.int p4), .val (.int p5), .val (.int (3 : Int32)), .val (.int (2 : Int32)), .val (.ref b62), .val (.int (1 : Int32))] [])) _
        refine XS.iconst X71.here hx rfl (hb hby at_165) ?_
        show Steps p.tables e below (T71.setTop (mkF m 166 #[.val (.int p1), .val (.int p2), .val (.int p3), .val (.int p4), .val (.int p5), .val (.int (3 : Int32)), .val (.int (2 : Int32)), .val (.ref b62), .val (.int (1 : Int32))] [(.int (1 : Int32))])) _
        refine XS.goto X71.here hx rfl (pc0 := 166) (pc' := 170) rfl (hb hby at_166) (by decide) (by decide) ?_
        show Steps p.tables e below (T71.setTop (mkF m 170 #[.val (.int p1), .val (.int p2), .val (.int p3), .val (.int p4), .val (.int p5), .val (.int (3 : Int32)), .val (.int (2 : Int32)), .val (.ref b62), .val (.int (1 : Int32))] [(.int (1 : Int32))])) _
        exact retN X71 hx (t := .boolean) Bd.returns (by simp) (hb hby at_170) hr
      · show Q0 Z p1 p2 p3 p4 p5  h0 n0 _ T71.heap _
        rw [e71]
        exact ⟨rfl, N71⟩
    · skip
      obtain ⟨T72, h72, X72, e72, E72, A72, D72, -, st72⟩ := newO X0 hx hZ hown (hw _ (List.mem_of_getElem? (i := 0) rfl)) (hw _ (List.mem_of_getElem? (i := 1) rfl)) (hw _ (List.mem_of_getElem? (i := 2) rfl)) e0 (g := (mkF m 21 #[.val (.int p1), .val (.int p2), .val (.int p3), .val (.int p4), .val (.int p5), .val (.int (3 : Int32)), .val (.int (3 : Int32)), .unset, .unset] [])) rfl (hb hby at_21) (by decide) (by decide)
      obtain ⟨b72, g72⟩ : ∃ z, z = h0.size := ⟨_, rfl⟩
      rw [← g72] at A72 D72 st72
      have pre72 : Steps p.tables e below (s₁.setTop (entryFrame m #[(.int p1), (.int p2), (.int p3), (.int p4), (.int p5)] maxLocals)) (T72.setTop (mkF m 24 #[.val (.int p1), .val (.int p2), .val (.int p3), .val (.int p4), .val (.int p5), .val (.int (3 : Int32)), .val (.int (3 : Int32)), .unset, .unset] [(.ref b72)])) := by
        refine pre2.trans ?_
        exact st72 _ (Steps.refl _)
      have gg : n0 ≤ b72 := Nat.le_trans Z0 (Nat.le_of_eq g72.symm)
      have Y72 : n0 ≤ h72.size := Nat.le_trans Z0 E72.1
      have FA := D72 (Or.inl (hw _ (List.mem_of_getElem? (i := 18) rfl))) (ty := .int) (by decide)
      have FB := D72 (Or.inl (hw _ (List.mem_of_getElem? (i := 11) rfl))) (ty := (.array .int)) (by decide)
      obtain ⟨_, _, ⟨T73, L73, k73, n73⟩, -, X73, ⟨Lc73, hQ73, l73, y73, z73⟩, st73⟩ := X72.specialBack hx (y := (⟨"com/example/brisk_tableau/brisktableau/ltl/IntStack", "<init>", "()V"⟩ : MethodName)) rfl hown (mvT hZ (hw _ (List.mem_of_getElem? (i := 3) rfl))) (mvT hZ (hw _ (List.mem_of_getElem? (i := 4) rfl))) (mvT hZ (hw _ (List.mem_of_getElem? (i := 5) rfl))) (by decide) (backOf (W := 1) (rm1 l Z a0 hw [] b72 _ h72 n0 Y72 A72 FA FB gg) hZ (hw _ (List.mem_of_getElem? (i := 5) rfl)) (hw _ (List.mem_of_getElem? (i := 2) rfl)) (by decide) (by decide)) (g := (mkF m 25 #[.val (.int p1), .val (.int p2), .val (.int p3), .val (.int p4), .val (.int p5), .val (.int (3 : Int32)), .val (.int (3 : Int32)), .unset, .unset] [(.ref b72), (.ref b72)])) rfl (by rw [hml]; rfl) (Steps.refl _) (a := b72) (argsL := []) (rest := [(.ref b72)]) (lenOf pd_0 rfl) rfl (by show 2 * 0 + _ ≤ _; exact Nat.le_of_eq rfl) (hb hby at_25) (fun _ _ => ⟨rfl, e72, (by decide : 1 + 1 ≤ _), (by decide : 2 + 16 ≤ _)⟩)
      dsimp only [Pt.U, Pt.locs, Pt.cells, Pt.slots] at X73 l73 y73 z73 st73 hQ73
      subst l73 y73 z73
      obtain ⟨rfl, M73, K73, bb, gb, S73⟩ := hQ73
      have N73 := Fr.app N0 M73
      have pre73 : Steps p.tables e below (s₁.setTop (entryFrame m #[(.int p1), (.int p2), (.int p3), (.int p4), (.int p5)] maxLocals)) (T73.setTop (mkF m 28 #[.val (.int p1), .val (.int p2), .val (.int p3), .val (.int p4), .val (.int p5), .val (.int (3 : Int32)), .val (.int (3 : Int32)), .unset, .unset] [(.ref b72)])) := by
        refine pre72.trans ?_
        refine XS.dup X72.here hx rfl (hb hby at_24) rfl rfl ?_
        show Steps p.tables e below (T72.setTop (mkF m 25 #[.val (.int p1), .val (.int p2), .val (.int p3), .val (.int p4), .val (.int p5), .val (.int (3 : Int32)), .val (.int (3 : Int32)), .unset, .unset] [(.ref b72), (.ref b72)])) _
        exact st73
      have Y73 : n0 ≤ T73.heap.size := Nat.le_trans Y72 K73.1
      obtain ⟨cq74, kq74, q74a, q74b, q74c⟩ := isOf hZ rfl S73.1
      obtain ⟨_, _, ⟨T74, L74, k74, n74⟩, -, X74, ⟨Lc74, hQ74, l74, y74, z74⟩, st74⟩ := X73.virtualBack hx (y := (⟨"com/example/brisk_tableau/brisktableau/ltl/IntStack", "isEmpty", "()Z"⟩ : MethodName)) (z := (⟨"com/example/brisk_tableau/brisktableau/ltl/IntStack", "isEmpty", "()Z"⟩ : MethodName)) hown (mvT hZ (hw _ (List.mem_of_getElem? (i := 12) rfl))) (mvT hZ (hw _ (List.mem_of_getElem? (i := 13) rfl))) (notFace_of_selects (args := #[]) (mvT hZ (hw _ (List.mem_of_getElem? (i := 15) rfl)))) (mvT hZ (hw _ (List.mem_of_getElem? (i := 15) rfl))) (mvT hZ (hw _ (List.mem_of_getElem? (i := 14) rfl))) (by decide) (backOf (W := 0) (rm3 l Z a0 hw [] b72 (0 : Int32) bb T73.heap n0 Y73 S73) hZ (hw _ (List.mem_of_getElem? (i := 16) rfl)) (hw _ (List.mem_of_getElem? (i := 2) rfl)) (by decide) (by decide)) q74a q74c (g := (mkF m 32 #[.val (.int p1), .val (.int p2), .val (.int p3), .val (.int p4), .val (.int p5), .val (.int (3 : Int32)), .val (.int (3 : Int32)), .val (.ref b72), .unset] [(.ref b72)])) rfl (by rw [hml]; rfl) (Steps.refl _) (argsL := []) (rest := []) (lenOf pd_1 rfl) rfl (by show 2 * 0 + _ ≤ _; exact Nat.le_of_eq rfl) (hb hby at_32) (fun _ _ => ⟨rfl, rfl, (by decide : 2 + 0 ≤ _), (by decide : 18 + 0 ≤ _)⟩)
      dsimp only [Pt.U, Pt.locs, Pt.cells, Pt.slots] at X74 l74 y74 z74 st74 hQ74
      subst l74 y74 z74
      obtain ⟨rfl, M74, e74⟩ := hQ74
      have N74 := Fr.app N73 M74
      have pre74 : Steps p.tables e below (s₁.setTop (entryFrame m #[(.int p1), (.int p2), (.int p3), (.int p4), (.int p5)] maxLocals)) (T74.setTop (mkF m 35 #[.val (.int p1), .val (.int p2), .val (.int p3), .val (.int p4), .val (.int p5), .val (.int (3 : Int32)), .val (.int (3 : Int32)), .val (.ref b72), .unset] [(.int (own_emp (0 : Int32)))])) := by
        refine pre73.trans ?_
        refine XS.astore X73.here hx rfl (hb hby at_28) rfl rfl (l' := #[.val (.int p1), .val (.int p2), .val (.int p3), .val (.int p4), .val (.int p5), .val (.int (3 : Int32)), .val (.int (3 : Int32)), .val (.ref b72), .unset]) rfl ?_
        show Steps p.tables e below (T73.setTop (mkF m 30 #[.val (.int p1), .val (.int p2), .val (.int p3), .val (.int p4), .val (.int p5), .val (.int (3 : Int32)), .val (.int (3 : Int32)), .val (.ref b72), .unset] [])) _
        refine XS.aload X73.here hx rfl (hb hby at_30) rfl rfl ?_
        show Steps p.tables e below (T73.setTop (mkF m 32 #[.val (.int p1), .val (.int p2), .val (.int p3), .val (.int p4), .val (.int p5), .val (.int (3 : Int32)), .val (.int (3 : Int32)), .val (.ref b72), .unset] [(.ref b72)])) _
        exact st74
      rw [own_e0] at pre74
      obtain ⟨cq75, kq75, q75a, q75b, q75c⟩ := isOf hZ e74 S73.1
      obtain ⟨_, _, ⟨T75, L75, k75, n75⟩, -, X75, ⟨Lc75, hQ75, l75, y75, z75⟩, st75⟩ := X74.virtualBack hx (y := (⟨"com/example/brisk_tableau/brisktableau/ltl/IntStack", "push", "(I)V"⟩ : MethodName)) (z := (⟨"com/example/brisk_tableau/brisktableau/ltl/IntStack", "push", "(I)V"⟩ : MethodName)) hown (mvT hZ (hw _ (List.mem_of_getElem? (i := 19) rfl))) (mvT hZ (hw _ (List.mem_of_getElem? (i := 20) rfl))) (notFace_of_selects (args := #[]) (mvT hZ (hw _ (List.mem_of_getElem? (i := 22) rfl)))) (mvT hZ (hw _ (List.mem_of_getElem? (i := 22) rfl))) (mvT hZ (hw _ (List.mem_of_getElem? (i := 21) rfl))) (by decide) (backOf (W := 0) (rm4 l Z a0 hw [] b72 p3 (0 : Int32) (1 : Int32) bb T73.heap n0 Y73 S73 gg gb (by decide) (by decide)) hZ (hw _ (List.mem_of_getElem? (i := 23) rfl)) (hw _ (List.mem_of_getElem? (i := 2) rfl)) (by decide) (by decide)) q75a q75c (g := (mkF m 46 #[.val (.int p1), .val (.int p2), .val (.int p3), .val (.int p4), .val (.int p5), .val (.int (3 : Int32)), .val (.int (3 : Int32)), .val (.ref b72), .val (.int (1 : Int32))] [(.int p3), (.ref b72)])) rfl (by rw [hml]; rfl) (Steps.refl _) (argsL := [(.int p3)]) (rest := []) (lenOf pd_2 rfl) rfl (by show 2 * 0 + _ ≤ _; exact Nat.le_of_eq rfl) (hb hby at_46) (fun _ _ => ⟨rfl, e74, (by decide : 2 + 0 ≤ _), (by decide : 18 + 0 ≤ _)⟩)
      dsimp only [Pt.U, Pt.locs, Pt.cells, Pt.slots] at X75 l75 y75 z75 st75 hQ75
      subst l75 y75 z75
      obtain ⟨rfl, M75, K75, S75⟩ := hQ75
      have N75 := Fr.app N74 M75
      have pre75 : Steps p.tables e below (s₁.setTop (entryFrame m #[(.int p1), (.int p2), (.int p3), (.int p4), (.int p5)] maxLocals)) (T75.setTop (mkF m 49 #[.val (.int p1), .val (.int p2), .val (.int p3), .val (.int p4), .val (.int p5), .val (.int (3 : Int32)), .val (.int (3 : Int32)), .val (.ref b72), .val (.int (1 : Int32))] [])) := by
        refine pre74.trans ?_
        refine XS.istore X74.here hx rfl (hb hby at_35) rfl (l' := #[.val (.int p1), .val (.int p2), .val (.int p3), .val (.int p4), .val (.int p5), .val (.int (3 : Int32)), .val (.int (3 : Int32)), .val (.ref b72), .val (.int (1 : Int32))]) rfl ?_
        show Steps p.tables e below (T74.setTop (mkF m 37 #[.val (.int p1), .val (.int p2), .val (.int p3), .val (.int p4), .val (.int p5), .val (.int (3 : Int32)), .val (.int (3 : Int32)), .val (.ref b72), .val (.int (1 : Int32))] [])) _
        refine XS.iload X74.here hx rfl (hb hby at_37) rfl ?_
        show Steps p.tables e below (T74.setTop (mkF m 39 #[.val (.int p1), .val (.int p2), .val (.int p3), .val (.int p4), .val (.int p5), .val (.int (3 : Int32)), .val (.int (3 : Int32)), .val (.ref b72), .val (.int (1 : Int32))] [(.int (3 : Int32))])) _
        refine XS.iconst X74.here hx rfl (hb hby at_39) ?_
        show Steps p.tables e below (T74.setTop (mkF m 40 #[.val (.int p1), .val (.int p2), .val (.int p3), .val (.int p4), .val (.int p5), .val (.int (3 : Int32)), .val (.int (3 : Int32)), .val (.ref b72), .val (.int (1 : Int32))] [(.int (1 : Int32)), (.int (3 : Int32))])) _
        refine XS.icmpNo X74.here hx rfl (hb hby at_40) rfl (by decide) ?_
        show Steps p.tables e below (T74.setTop (mkF m 43 #[.val (.int p1), .val (.int p2), .val (.int p3), .val (.int p4), .val (.int p5), .val (.int (3 : Int32)), .val (.int (3 : Int32)), .val (.ref b72), .val (.int (1 : Int32))] [])) _
        refine XS.aload X74.here hx rfl (hb hby at_43) rfl rfl ?_
        show Steps p.tables e below (T74.setTop (mkF m 45 #[.val (.int p1), .val (.int p2), .val (.int p3), .val (.int p4), .val (.int p5), .val (.int (3 : Int32)), .val (.int (3 : Int32)), .val (.ref b72), .val (.int (1 : Int32))] [(.ref b72)])) _
        refine XS.iloadN X74.here hx rfl (hb hby at_45) rfl ?_
        show Steps p.tables e below (T74.setTop (mkF m 46 #[.val (.int p1), .val (.int p2), .val (.int p3), .val (.int p4), .val (.int p5), .val (.int (3 : Int32)), .val (.int (3 : Int32)), .val (.ref b72), .val (.int (1 : Int32))] [(.int p3), (.ref b72)])) _
        exact st75
      have Y75 : n0 ≤ T75.heap.size := Nat.le_trans Y73 K75.1
      obtain ⟨cq76, kq76, q76a, q76b, q76c⟩ := isOf hZ rfl S75.1
      obtain ⟨_, _, ⟨T76, L76, k76, n76⟩, -, X76, ⟨Lc76, hQ76, l76, y76, z76⟩, st76⟩ := X75.virtualBack hx (y := (⟨"com/example/brisk_tableau/brisktableau/ltl/IntStack", "push", "(I)V"⟩ : MethodName)) (z := (⟨"com/example/brisk_tableau/brisktableau/ltl/IntStack", "push", "(I)V"⟩ : MethodName)) hown (mvT hZ (hw _ (List.mem_of_getElem? (i := 19) rfl))) (mvT hZ (hw _ (List.mem_of_getElem? (i := 20) rfl))) (notFace_of_selects (args := #[]) (mvT hZ (hw _ (List.mem_of_getElem? (i := 22) rfl)))) (mvT hZ (hw _ (List.mem_of_getElem? (i := 22) rfl))) (mvT hZ (hw _ (List.mem_of_getElem? (i := 21) rfl))) (by decide) (backOf (W := 0) (rm4 l Z a0 hw [] b72 p4 (1 : Int32) (2 : Int32) bb T75.heap n0 Y75 S75 gg gb (by decide) (by decide)) hZ (hw _ (List.mem_of_getElem? (i := 23) rfl)) (hw _ (List.mem_of_getElem? (i := 2) rfl)) (by decide) (by decide)) q76a q76c (g := (mkF m 58 #[.val (.int p1), .val (.int p2), .val (.int p3), .val (.int p4), .val (.int p5), .val (.int (3 : Int32)), .val (.int (3 : Int32)), .val (.ref b72), .val (.int (1 : Int32))] [(.int p4), (.ref b72)])) rfl (by rw [hml]; rfl) (Steps.refl _) (argsL := [(.int p4)]) (rest := []) (lenOf pd_2 rfl) rfl (by show 2 * 0 + _ ≤ _; exact Nat.le_of_eq rfl) (hb hby at_58) (fun _ _ => ⟨rfl, rfl, (by decide : 2 + 0 ≤ _), (by decide : 18 + 0 ≤ _)⟩)
      dsimp only [Pt.U, Pt.locs, Pt.cells, Pt.slots] at X76 l76 y76 z76 st76 hQ76
      subst l76 y76 z76
      obtain ⟨rfl, M76, K76, S76⟩ := hQ76
      have N76 := Fr.app N75 M76
      have pre76 : Steps p.tables e below (s₁.setTop (entryFrame m #[(.int p1), (.int p2), (.int p3), (.int p4), (.int p5)] maxLocals)) (T76.setTop (mkF m 61 #[.val (.int p1), .val (.int p2), .val (.int p3), .val (.int p4), .val (.int p5), .val (.int (3 : Int32)), .val (.int (3 : Int32)), .val (.ref b72), .val (.int (1 : Int32))] [])) := by
        refine pre75.trans ?_
        refine XS.iload X75.here hx rfl (hb hby at_49) rfl ?_
        show Steps p.tables e below (T75.setTop (mkF m 51 #[.val (.int p1), .val (.int p2), .val (.int p3), .val (.int p4), .val (.int p5), .val (.int (3 : Int32)), .val (.int (3 : Int32)), .val (.ref b72), .val (.int (1 : Int32))] [(.int (3 : Int32))])) _
        refine XS.iconst X75.here hx rfl (hb hby at_51) ?_
        show Steps p.tables e below (T75.setTop (mkF m 52 #[.val (.int p1), .val (.int p2), .val (.int p3), .val (.int p4), .val (.int p5), .val (.int (3 : Int32)), .val (.int (3 : Int32)), .val (.ref b72), .val (.int (1 : Int32))] [(.int (2 : Int32)), (.int (3 : Int32))])) _
        refine XS.icmpNo X75.here hx rfl (hb hby at_52) rfl (by decide) ?_
        show Steps p.tables e below (T75.setTop (mkF m 55 #[.val (.int p1), .val (.int p2), .val (.int p3), .val (.int p4), .val (.int p5), .val (.int (3 : Int32)), .val (.int (3 : Int32)), .val (.ref b72), .val (.int (1 : Int32))] [])) _
        refine XS.aload X75.here hx rfl (hb hby at_55) rfl rfl ?_
        show Steps p.tables e below (T75.setTop (mkF m 57 #[.val (.int p1), .val (.int p2), .val (.int p3), .val (.int p4), .val (.int p5), .val (.int (3 : Int32)), .val (.int (3 : Int32)), .val (.ref b72), .val (.int (1 : Int32))] [(.ref b72)])) _
        refine XS.iloadN X75.here hx rfl (hb hby at_57) rfl ?_
        show Steps p.tables e below (T75.setTop (mkF m 58 #[.val (.int p1), .val (.int p2), .val (.int p3), .val (.int p4), .val (.int p5), .val (.int (3 : Int32)), .val (.int (3 : Int32)), .val (.ref b72), .val (.int (1 : Int32))] [(.int p4), (.ref b72)])) _
        exact st76
      have Y76 : n0 ≤ T76.heap.size := Nat.le_trans Y75 K76.1
      obtain ⟨cq77, kq77, q77a, q77b, q77c⟩ := isOf hZ rfl S76.1
      obtain ⟨_, _, ⟨T77, L77, k77, n77⟩, -, X77, ⟨Lc77, hQ77, l77, y77, z77⟩, st77⟩ := X76.virtualBack hx (y := (⟨"com/example/brisk_tableau/brisktableau/ltl/IntStack", "push", "(I)V"⟩ : MethodName)) (z := (⟨"com/example/brisk_tableau/brisktableau/ltl/IntStack", "push", "(I)V"⟩ : MethodName)) hown (mvT hZ (hw _ (List.mem_of_getElem? (i := 19) rfl))) (mvT hZ (hw _ (List.mem_of_getElem? (i := 20) rfl))) (notFace_of_selects (args := #[]) (mvT hZ (hw _ (List.mem_of_getElem? (i := 22) rfl)))) (mvT hZ (hw _ (List.mem_of_getElem? (i := 22) rfl))) (mvT hZ (hw _ (List.mem_of_getElem? (i := 21) rfl))) (by decide) (backOf (W := 0) (rm4 l Z a0 hw [] b72 p5 (2 : Int32) (3 : Int32) bb T76.heap n0 Y76 S76 gg gb (by decide) (by decide)) hZ (hw _ (List.mem_of_getElem? (i := 23) rfl)) (hw _ (List.mem_of_getElem? (i := 2) rfl)) (by decide) (by decide)) q77a q77c (g := (mkF m 71 #[.val (.int p1), .val (.int p2), .val (.int p3), .val (.int p4), .val (.int p5), .val (.int (3 : Int32)), .val (.int (3 : Int32)), .val (.ref b72), .val (.int (1 : Int32))] [(.int p5), (.ref b72)])) rfl (by rw [hml]; rfl) (Steps.refl _) (argsL := [(.int p5)]) (rest := []) (lenOf pd_2 rfl) rfl (by show 2 * 0 + _ ≤ _; exact Nat.le_of_eq rfl) (hb hby at_71) (fun _ _ => ⟨rfl, rfl, (by decide : 2 + 0 ≤ _), (by decide : 18 + 0 ≤ _)⟩)
      dsimp only [Pt.U, Pt.locs, Pt.cells, Pt.slots] at X77 l77 y77 z77 st77 hQ77
      subst l77 y77 z77
      obtain ⟨rfl, M77, K77, S77⟩ := hQ77
      have N77 := Fr.app N76 M77
      have pre77 : Steps p.tables e below (s₁.setTop (entryFrame m #[(.int p1), (.int p2), (.int p3), (.int p4), (.int p5)] maxLocals)) (T77.setTop (mkF m 74 #[.val (.int p1), .val (.int p2), .val (.int p3), .val (.int p4), .val (.int p5), .val (.int (3 : Int32)), .val (.int (3 : Int32)), .val (.ref b72), .val (.int (1 : Int32))] [])) := by
        refine pre76.trans ?_
        refine XS.iload X76.here hx rfl (hb hby at_61) rfl ?_
        show Steps p.tables e below (T76.setTop (mkF m 63 #[.val (.int p1), .val (.int p2), .val (.int p3), .val (.int p4), .val (.int p5), .val (.int (3 : Int32)), .val (.int (3 : Int32)), .val (.ref b72), .val (.int (1 : Int32))] [(.int (3 : Int32))])) _
        refine XS.iconst X76.here hx rfl (hb hby at_63) ?_
        show Steps p.tables e below (T76.setTop (mkF m 64 #[.val (.int p1), .val (.int p2), .val (.int p3), .val (.int p4), .val (.int p5), .val (.int (3 : Int32)), .val (.int (3 : Int32)), .val (.ref b72), .val (.int (1 : Int32))] [(.int (3 : Int32)), (.int (3 : Int32))])) _
        refine XS.icmpNo X76.here hx rfl (hb hby at_64) rfl (by decide) ?_
        show Steps p.tables e below (T76.setTop (mkF m 67 #[.val (.int p1), .val (.int p2), .val (.int p3), .val (.int p4), .val (.int p5), .val (.int (3 : Int32)), .val (.int (3 : Int32)), .val (.ref b72), .val (.int (1 : Int32))] [])) _
        refine XS.aload X76.here hx rfl (hb hby at_67) rfl rfl ?_
        show Steps p.tables e below (T76.setTop (mkF m 69 #[.val (.int p1), .val (.int p2), .val (.int p3), .val (.int p4), .val (.int p5), .val (.int (3 : Int32)), .val (.int (3 : Int32)), .val (.ref b72), .val (.int (1 : Int32))] [(.ref b72)])) _
        refine XS.iload X76.here hx rfl (hb hby at_69) rfl ?_
        show Steps p.tables e below (T76.setTop (mkF m 71 #[.val (.int p1), .val (.int p2), .val (.int p3), .val (.int p4), .val (.int p5), .val (.int (3 : Int32)), .val (.int (3 : Int32)), .val (.ref b72), .val (.int (1 : Int32))] [(.int p5), (.ref b72)])) _
        exact st77
      have Y77 : n0 ≤ T77.heap.size := Nat.le_trans Y76 K77.1
      obtain ⟨cq78, kq78, q78a, q78b, q78c⟩ := isOf hZ rfl S77.1
      obtain ⟨_, _, ⟨T78, L78, k78, n78⟩, -, X78, ⟨Lc78, hQ78, l78, y78, z78⟩, st78⟩ := X77.virtualBack hx (y := (⟨"com/example/brisk_tableau/brisktableau/ltl/IntStack", "isEmpty", "()Z"⟩ : MethodName)) (z := (⟨"com/example/brisk_tableau/brisktableau/ltl/IntStack", "isEmpty", "()Z"⟩ : MethodName)) hown (mvT hZ (hw _ (List.mem_of_getElem? (i := 12) rfl))) (mvT hZ (hw _ (List.mem_of_getElem? (i := 13) rfl))) (notFace_of_selects (args := #[]) (mvT hZ (hw _ (List.mem_of_getElem? (i := 15) rfl)))) (mvT hZ (hw _ (List.mem_of_getElem? (i := 15) rfl))) (mvT hZ (hw _ (List.mem_of_getElem? (i := 14) rfl))) (by decide) (backOf (W := 0) (rm3 l Z a0 hw [] b72 (3 : Int32) bb T77.heap n0 Y77 S77) hZ (hw _ (List.mem_of_getElem? (i := 16) rfl)) (hw _ (List.mem_of_getElem? (i := 2) rfl)) (by decide) (by decide)) q78a q78c (g := (mkF m 81 #[.val (.int p1), .val (.int p2), .val (.int p3), .val (.int p4), .val (.int p5), .val (.int (3 : Int32)), .val (.int (3 : Int32)), .val (.ref b72), .val (.int (1 : Int32))] [(.ref b72)])) rfl (by rw [hml]; rfl) (Steps.refl _) (argsL := []) (rest := []) (lenOf pd_1 rfl) rfl (by show 2 * 0 + _ ≤ _; exact Nat.le_of_eq rfl) (hb hby at_81) (fun _ _ => ⟨rfl, rfl, (by decide : 2 + 0 ≤ _), (by decide : 18 + 0 ≤ _)⟩)
      dsimp only [Pt.U, Pt.locs, Pt.cells, Pt.slots] at X78 l78 y78 z78 st78 hQ78
      subst l78 y78 z78
      obtain ⟨rfl, M78, e78⟩ := hQ78
      have N78 := Fr.app N77 M78
      have pre78 : Steps p.tables e below (s₁.setTop (entryFrame m #[(.int p1), (.int p2), (.int p3), (.int p4), (.int p5)] maxLocals)) (T78.setTop (mkF m 84 #[.val (.int p1), .val (.int p2), .val (.int p3), .val (.int p4), .val (.int p5), .val (.int (3 : Int32)), .val (.int (3 : Int32)), .val (.ref b72), .val (.int (1 : Int32))] [(.int (own_emp (3 : Int32)))])) := by
        refine pre77.trans ?_
        refine XS.iload X77.here hx rfl (hb hby at_74) rfl ?_
        show Steps p.tables e below (T77.setTop (mkF m 76 #[.val (.int p1), .val (.int p2), .val (.int p3), .val (.int p4), .val (.int p5), .val (.int (3 : Int32)), .val (.int (3 : Int32)), .val (.ref b72), .val (.int (1 : Int32))] [(.int (1 : Int32))])) _
        refine XS.ifNo X77.here hx rfl (hb hby at_76) rfl (by decide) ?_
        show Steps p.tables e below (T77.setTop (mkF m 79 #[.val (.int p1), .val (.int p2), .val (.int p3), .val (.int p4), .val (.int p5), .val (.int (3 : Int32)), .val (.int (3 : Int32)), .val (.ref b72), .val (.int (1 : Int32))] [])) _
        refine XS.aload X77.here hx rfl (hb hby at_79) rfl rfl ?_
        show Steps p.tables e below (T77.setTop (mkF m 81 #[.val (.int p1), .val (.int p2), .val (.int p3), .val (.int p4), .val (.int p5), .val (.int (3 : Int32)), .val (.int (3 : Int32)), .val (.ref b72), .val (.int (1 : Int32))] [(.ref b72)])) _
        exact st78
      rw [own_e3] at pre78
      obtain ⟨cq79, kq79, q79a, q79b, q79c⟩ := isOf hZ e78 S77.1
      obtain ⟨_, _, ⟨T79, L79, k79, n79⟩, -, X79, ⟨Lc79, hQ79, l79, y79, z79⟩, st79⟩ := X78.virtualBack hx (y := (⟨"com/example/brisk_tableau/brisktableau/ltl/IntStack", "pop", "()I"⟩ : MethodName)) (z := (⟨"com/example/brisk_tableau/brisktableau/ltl/IntStack", "pop", "()I"⟩ : MethodName)) hown (mvT hZ (hw _ (List.mem_of_getElem? (i := 24) rfl))) (mvT hZ (hw _ (List.mem_of_getElem? (i := 25) rfl))) (notFace_of_selects (args := #[]) (mvT hZ (hw _ (List.mem_of_getElem? (i := 27) rfl)))) (mvT hZ (hw _ (List.mem_of_getElem? (i := 27) rfl))) (mvT hZ (hw _ (List.mem_of_getElem? (i := 26) rfl))) (by decide) (backOf (W := 0) (rm5 l Z a0 hw [] b72 (3 : Int32) (2 : Int32) bb T77.heap n0 Y77 S77 gg gb (by decide) (by decide)) hZ (hw _ (List.mem_of_getElem? (i := 28) rfl)) (hw _ (List.mem_of_getElem? (i := 2) rfl)) (by decide) (by decide)) q79a q79c (g := (mkF m 112 #[.val (.int p1), .val (.int p2), .val (.int p3), .val (.int p4), .val (.int p5), .val (.int (3 : Int32)), .val (.int (3 : Int32)), .val (.ref b72), .val (.int (1 : Int32))] [(.ref b72)])) rfl (by rw [hml]; rfl) (Steps.refl _) (argsL := []) (rest := []) (lenOf pd_3 rfl) rfl (by show 2 * 0 + _ ≤ _; exact Nat.le_of_eq rfl) (hb hby at_112) (fun _ _ => ⟨rfl, e78, (by decide : 2 + 0 ≤ _), (by decide : 18 + 0 ≤ _)⟩)
      dsimp only [Pt.U, Pt.locs, Pt.cells, Pt.slots] at X79 l79 y79 z79 st79 hQ79
      subst l79 y79 z79
      obtain ⟨⟨x79, rfl⟩, M79, K79, S79⟩ := hQ79
      have N79 := Fr.app N78 M79
      have pre79 : Steps p.tables e below (s₁.setTop (entryFrame m #[(.int p1), (.int p2), (.int p3), (.int p4), (.int p5)] maxLocals)) (T79.setTop (mkF m 115 #[.val (.int p1), .val (.int p2), .val (.int p3), .val (.int p4), .val (.int p5), .val (.int (3 : Int32)), .val (.int (3 : Int32)), .val (.ref b72), .val (.int (1 : Int32))] [(.int x79)])) := by
        refine pre78.trans ?_
        refine XS.iload X78.here hx rfl (hb hby at_84) rfl ?_
        show Steps p.tables e below (T78.setTop (mkF m 86 #[.val (.int p1), .val (.int p2), .val (.int p3), .val (.int p4), .val (.int p5), .val (.int (3 : Int32)), .val (.int (3 : Int32)), .val (.ref b72), .val (.int (1 : Int32))] [(.int (3 : Int32)), (.int (0 : Int32))])) _
        refine XS.ifYes X78.here hx rfl (pc0 := 86) (pc' := 93) rfl (hb hby at_86) rfl (by decide) (by decide) (by decide) ?_
        show Steps p.tables e below (T78.setTop (mkF m 93 #[.val (.int p1), .val (.int p2), .val (.int p3), .val (.int p4), .val (.int p5), .val (.int (3 : Int32)), .val (.int (3 : Int32)), .val (.ref b72), .val (.int (1 : Int32))] [(.int (0 : Int32))])) _
        refine XS.iconst X78.here hx rfl (hb hby at_93) ?_
        show Steps p.tables e below (T78.setTop (mkF m 94 #[.val (.int p1), .val (.int p2), .val (.int p3), .val (.int p4), .val (.int p5), .val (.int (3 : Int32)), .val (.int (3 : Int32)), .val (.ref b72), .val (.int (1 : Int32))] [(.int (0 : Int32)), (.int (0 : Int32))])) _
        refine XS.icmpNo X78.here hx rfl (hb hby at_94) rfl (by decide) ?_
        show Steps p.tables e below (T78.setTop (mkF m 97 #[.val (.int p1), .val (.int p2), .val (.int p3), .val (.int p4), .val (.int p5), .val (.int (3 : Int32)), .val (.int (3 : Int32)), .val (.ref b72), .val (.int (1 : Int32))] [])) _
        refine XS.iconst X78.here hx rfl (hb hby at_97) ?_
        show Steps p.tables e below (T78.setTop (mkF m 98 #[.val (.int p1), .val (.int p2), .val (.int p3), .val (.int p4), .val (.int p5), .val (.int (3 : Int32)), .val (.int (3 : Int32)), .val (.ref b72), .val (.int (1 : Int32))] [(.int (1 : Int32))])) _
        refine XS.goto X78.here hx rfl (pc0 := 98) (pc' := 102) rfl (hb hby at_98) (by decide) (by decide) ?_
        show Steps p.tables e below (T78.setTop (mkF m 102 #[.val (.int p1), .val (.int p2), .val (.int p3), .val (.int p4), .val (.int p5), .val (.int (3 : Int32)), .val (.int (3 : Int32)), .val (.ref b72), .val (.int (1 : Int32))] [(.int (1 : Int32))])) _
        refine XS.istore X78.here hx rfl (hb hby at_102) rfl (l' := #[.val (.int p1), .val (.int p2), .val (.int p3), .val (.int p4), .val (.int p5), .val (.int (3 : Int32)), .val (.int (3 : Int32)), .val (.ref b72), .val (.int (1 : Int32))]) rfl ?_
        show Steps p.tables e below (T78.setTop (mkF m 104 #[.val (.int p1), .val (.int p2), .val (.int p3), .val (.int p4), .val (.int p5), .val (.int (3 : Int32)), .val (.int (3 : Int32)), .val (.ref b72), .val (.int (1 : Int32))] [])) _
        refine XS.iload X78.here hx rfl (hb hby at_104) rfl ?_
        show Steps p.tables e below (T78.setTop (mkF m 106 #[.val (.int p1), .val (.int p2), .val (.int p3), .val (.int p4), .val (.int p5), .val (.int (3 : Int32)), .val (.int (3 : Int32)), .val (.ref b72), .val (.int (1 : Int32))] [(.int (3 : Int32))])) _
        refine XS.iconst X78.here hx rfl (hb hby at_106) ?_
        show Steps p.tables e below (T78.setTop (mkF m 107 #[.val (.int p1), .val (.int p2), .val (.int p3), .val (.int p4), .val (.int p5), .val (.int (3 : Int32)), .val (.int (3 : Int32)), .val (.ref b72), .val (.int (1 : Int32))] [(.int (1 : Int32)), (.int (3 : Int32))])) _
        refine XS.icmpNo X78.here hx rfl (hb hby at_107) rfl (by decide) ?_
        show Steps p.tables e below (T78.setTop (mkF m 110 #[.val (.int p1), .val (.int p2), .val (.int p3), .val (.int p4), .val (.int p5), .val (.int (3 : Int32)), .val (.int (3 : Int32)), .val (.ref b72), .val (.int (1 : Int32))] [])) _
        refine XS.aload X78.here hx rfl (hb hby at_110) rfl rfl ?_
        show Steps p.tables e below (T78.setTop (mkF m 112 #[.val (.int p1), .val (.int p2), .val (.int p3), .val (.int p4), .val (.int p5), .val (.int (3 : Int32)), .val (.int (3 : Int32)), .val (.ref b72), .val (.int (1 : Int32))] [(.ref b72)])) _
        exact st79
      have Y79 : n0 ≤ T79.heap.size := Nat.le_trans Y77 K79.1
      obtain ⟨cq80, kq80, q80a, q80b, q80c⟩ := isOf hZ rfl S79.1
      obtain ⟨_, _, ⟨T80, L80, k80, n80⟩, -, X80, ⟨Lc80, hQ80, l80, y80, z80⟩, st80⟩ := X79.virtualBack hx (y := (⟨"com/example/brisk_tableau/brisktableau/ltl/IntStack", "pop", "()I"⟩ : MethodName)) (z := (⟨"com/example/brisk_tableau/brisktableau/ltl/IntStack", "pop", "()I"⟩ : MethodName)) hown (mvT hZ (hw _ (List.mem_of_getElem? (i := 24) rfl))) (mvT hZ (hw _ (List.mem_of_getElem? (i := 25) rfl))) (notFace_of_selects (args := #[]) (mvT hZ (hw _ (List.mem_of_getElem? (i := 27) rfl)))) (mvT hZ (hw _ (List.mem_of_getElem? (i := 27) rfl))) (mvT hZ (hw _ (List.mem_of_getElem? (i := 26) rfl))) (by decide) (backOf (W := 0) (rm5 l Z a0 hw [] b72 (2 : Int32) (1 : Int32) bb T79.heap n0 Y79 S79 gg gb (by decide) (by decide)) hZ (hw _ (List.mem_of_getElem? (i := 28) rfl)) (hw _ (List.mem_of_getElem? (i := 2) rfl)) (by decide) (by decide)) q80a q80c (g := (mkF m 124 #[.val (.int p1), .val (.int p2), .val (.int p3), .val (.int p4), .val (.int p5), .val (.int (3 : Int32)), .val (.int (3 : Int32)), .val (.ref b72), .val (.int (1 : Int32))] [(.ref b72)])) rfl (by rw [hml]; rfl) (Steps.refl _) (argsL := []) (rest := []) (lenOf pd_3 rfl) rfl (by show 2 * 0 + _ ≤ _; exact Nat.le_of_eq rfl) (hb hby at_124) (fun _ _ => ⟨rfl, rfl, (by decide : 2 + 0 ≤ _), (by decide : 18 + 0 ≤ _)⟩)
      dsimp only [Pt.U, Pt.locs, Pt.cells, Pt.slots] at X80 l80 y80 z80 st80 hQ80
      subst l80 y80 z80
      obtain ⟨⟨x80, rfl⟩, M80, K80, S80⟩ := hQ80
      have N80 := Fr.app N79 M80
      have pre80 : Steps p.tables e below (s₁.setTop (entryFrame m #[(.int p1), (.int p2), (.int p3), (.int p4), (.int p5)] maxLocals)) (T80.setTop (mkF m 127 #[.val (.int p1), .val (.int p2), .val (.int p3), .val (.int p4), .val (.int p5), .val (.int (3 : Int32)), .val (.int (3 : Int32)), .val (.ref b72), .val (.int (1 : Int32))] [(.int x80)])) := by
        refine pre79.trans ?_
        refine XS.pop X79.here hx rfl (hb hby at_115) rfl rfl ?_
        show Steps p.tables e below (T79.setTop (mkF m 116 #[.val (.int p1), .val (.int p2), .val (.int p3), .val (.int p4), .val (.int p5), .val (.int (3 : Int32)), .val (.int (3 : Int32)), .val (.ref b72), .val (.int (1 : Int32))] [])) _
        refine XS.iload X79.here hx rfl (hb hby at_116) rfl ?_
        show Steps p.tables e below (T79.setTop (mkF m 118 #[.val (.int p1), .val (.int p2), .val (.int p3), .val (.int p4), .val (.int p5), .val (.int (3 : Int32)), .val (.int (3 : Int32)), .val (.ref b72), .val (.int (1 : Int32))] [(.int (3 : Int32))])) _
        refine XS.iconst X79.here hx rfl (hb hby at_118) ?_
        show Steps p.tables e below (T79.setTop (mkF m 119 #[.val (.int p1), .val (.int p2), .val (.int p3), .val (.int p4), .val (.int p5), .val (.int (3 : Int32)), .val (.int (3 : Int32)), .val (.ref b72), .val (.int (1 : Int32))] [(.int (2 : Int32)), (.int (3 : Int32))])) _
        refine XS.icmpNo X79.here hx rfl (hb hby at_119) rfl (by decide) ?_
        show Steps p.tables e below (T79.setTop (mkF m 122 #[.val (.int p1), .val (.int p2), .val (.int p3), .val (.int p4), .val (.int p5), .val (.int (3 : Int32)), .val (.int (3 : Int32)), .val (.ref b72), .val (.int (1 : Int32))] [])) _
        refine XS.aload X79.here hx rfl (hb hby at_122) rfl rfl ?_
        show Steps p.tables e below (T79.setTop (mkF m 124 #[.val (.int p1), .val (.int p2), .val (.int p3), .val (.int p4), .val (.int p5), .val (.int (3 : Int32)), .val (.int (3 : Int32)), .val (.ref b72), .val (.int (1 : Int32))] [(.ref b72)])) _
        exact st80
      have Y80 : n0 ≤ T80.heap.size := Nat.le_trans Y79 K80.1
      obtain ⟨cq81, kq81, q81a, q81b, q81c⟩ := isOf hZ rfl S80.1
      obtain ⟨_, _, ⟨T81, L81, k81, n81⟩, -, X81, ⟨Lc81, hQ81, l81, y81, z81⟩, st81⟩ := X80.virtualBack hx (y := (⟨"com/example/brisk_tableau/brisktableau/ltl/IntStack", "pop", "()I"⟩ : MethodName)) (z := (⟨"com/example/brisk_tableau/brisktableau/ltl/IntStack", "pop", "()I"⟩ : MethodName)) hown (mvT hZ (hw _ (List.mem_of_getElem? (i := 24) rfl))) (mvT hZ (hw _ (List.mem_of_getElem? (i := 25) rfl))) (notFace_of_selects (args := #[]) (mvT hZ (hw _ (List.mem_of_getElem? (i := 27) rfl)))) (mvT hZ (hw _ (List.mem_of_getElem? (i := 27) rfl))) (mvT hZ (hw _ (List.mem_of_getElem? (i := 26) rfl))) (by decide) (backOf (W := 0) (rm5 l Z a0 hw [] b72 (1 : Int32) (0 : Int32) bb T80.heap n0 Y80 S80 gg gb (by decide) (by decide)) hZ (hw _ (List.mem_of_getElem? (i := 28) rfl)) (hw _ (List.mem_of_getElem? (i := 2) rfl)) (by decide) (by decide)) q81a q81c (g := (mkF m 136 #[.val (.int p1), .val (.int p2), .val (.int p3), .val (.int p4), .val (.int p5), .val (.int (3 : Int32)), .val (.int (3 : Int32)), .val (.ref b72), .val (.int (1 : Int32))] [(.ref b72)])) rfl (by rw [hml]; rfl) (Steps.refl _) (argsL := []) (rest := []) (lenOf pd_3 rfl) rfl (by show 2 * 0 + _ ≤ _; exact Nat.le_of_eq rfl) (hb hby at_136) (fun _ _ => ⟨rfl, rfl, (by decide : 2 + 0 ≤ _), (by decide : 18 + 0 ≤ _)⟩)
      dsimp only [Pt.U, Pt.locs, Pt.cells, Pt.slots] at X81 l81 y81 z81 st81 hQ81
      subst l81 y81 z81
      obtain ⟨⟨x81, rfl⟩, M81, K81, S81⟩ := hQ81
      have N81 := Fr.app N80 M81
      have pre81 : Steps p.tables e below (s₁.setTop (entryFrame m #[(.int p1), (.int p2), (.int p3), (.int p4), (.int p5)] maxLocals)) (T81.setTop (mkF m 139 #[.val (.int p1), .val (.int p2), .val (.int p3), .val (.int p4), .val (.int p5), .val (.int (3 : Int32)), .val (.int (3 : Int32)), .val (.ref b72), .val (.int (1 : Int32))] [(.int x81)])) := by
        refine pre80.trans ?_
        refine XS.pop X80.here hx rfl (hb hby at_127) rfl rfl ?_
        show Steps p.tables e below (T80.setTop (mkF m 128 #[.val (.int p1), .val (.int p2), .val (.int p3), .val (.int p4), .val (.int p5), .val (.int (3 : Int32)), .val (.int (3 : Int32)), .val (.ref b72), .val (.int (1 : Int32))] [])) _
        refine XS.iload X80.here hx rfl (hb hby at_128) rfl ?_
        show Steps p.tables e below (T80.setTop (mkF m 130 #[.val (.int p1), .val (.int p2), .val (.int p3), .val (.int p4), .val (.int p5), .val (.int (3 : Int32)), .val (.int (3 : Int32)), .val (.ref b72), .val (.int (1 : Int32))] [(.int (3 : Int32))])) _
        refine XS.iconst X80.here hx rfl (hb hby at_130) ?_
        show Steps p.tables e below (T80.setTop (mkF m 131 #[.val (.int p1), .val (.int p2), .val (.int p3), .val (.int p4), .val (.int p5), .val (.int (3 : Int32)), .val (.int (3 : Int32)), .val (.ref b72), .val (.int (1 : Int32))] [(.int (3 : Int32)), (.int (3 : Int32))])) _
        refine XS.icmpNo X80.here hx rfl (hb hby at_131) rfl (by decide) ?_
        show Steps p.tables e below (T80.setTop (mkF m 134 #[.val (.int p1), .val (.int p2), .val (.int p3), .val (.int p4), .val (.int p5), .val (.int (3 : Int32)), .val (.int (3 : Int32)), .val (.ref b72), .val (.int (1 : Int32))] [])) _
        refine XS.aload X80.here hx rfl (hb hby at_134) rfl rfl ?_
        show Steps p.tables e below (T80.setTop (mkF m 136 #[.val (.int p1), .val (.int p2), .val (.int p3), .val (.int p4), .val (.int p5), .val (.int (3 : Int32)), .val (.int (3 : Int32)), .val (.ref b72), .val (.int (1 : Int32))] [(.ref b72)])) _
        exact st81
      have Y81 : n0 ≤ T81.heap.size := Nat.le_trans Y80 K81.1
      obtain ⟨cq82, kq82, q82a, q82b, q82c⟩ := isOf hZ rfl S81.1
      obtain ⟨_, _, ⟨T82, L82, k82, n82⟩, -, X82, ⟨Lc82, hQ82, l82, y82, z82⟩, st82⟩ := X81.virtualBack hx (y := (⟨"com/example/brisk_tableau/brisktableau/ltl/IntStack", "isEmpty", "()Z"⟩ : MethodName)) (z := (⟨"com/example/brisk_tableau/brisktableau/ltl/IntStack", "isEmpty", "()Z"⟩ : MethodName)) hown (mvT hZ (hw _ (List.mem_of_getElem? (i := 12) rfl))) (mvT hZ (hw _ (List.mem_of_getElem? (i := 13) rfl))) (notFace_of_selects (args := #[]) (mvT hZ (hw _ (List.mem_of_getElem? (i := 15) rfl)))) (mvT hZ (hw _ (List.mem_of_getElem? (i := 15) rfl))) (mvT hZ (hw _ (List.mem_of_getElem? (i := 14) rfl))) (by decide) (backOf (W := 0) (rm3 l Z a0 hw [] b72 (0 : Int32) bb T81.heap n0 Y81 S81) hZ (hw _ (List.mem_of_getElem? (i := 16) rfl)) (hw _ (List.mem_of_getElem? (i := 2) rfl)) (by decide) (by decide)) q82a q82c (g := (mkF m 147 #[.val (.int p1), .val (.int p2), .val (.int p3), .val (.int p4), .val (.int p5), .val (.int (3 : Int32)), .val (.int (3 : Int32)), .val (.ref b72), .val (.int (1 : Int32))] [(.ref b72)])) rfl (by rw [hml]; rfl) (Steps.refl _) (argsL := []) (rest := []) (lenOf pd_1 rfl) rfl (by show 2 * 0 + _ ≤ _; exact Nat.le_of_eq rfl) (hb hby at_147) (fun _ _ => ⟨rfl, rfl, (by decide : 2 + 0 ≤ _), (by decide : 18 + 0 ≤ _)⟩)
      dsimp only [Pt.U, Pt.locs, Pt.cells, Pt.slots] at X82 l82 y82 z82 st82 hQ82
      subst l82 y82 z82
      obtain ⟨rfl, M82, e82⟩ := hQ82
      have N82 := Fr.app N81 M82
      have pre82 : Steps p.tables e below (s₁.setTop (entryFrame m #[(.int p1), (.int p2), (.int p3), (.int p4), (.int p5)] maxLocals)) (T82.setTop (mkF m 150 #[.val (.int p1), .val (.int p2), .val (.int p3), .val (.int p4), .val (.int p5), .val (.int (3 : Int32)), .val (.int (3 : Int32)), .val (.ref b72), .val (.int (1 : Int32))] [(.int (own_emp (0 : Int32)))])) := by
        refine pre81.trans ?_
        refine XS.pop X81.here hx rfl (hb hby at_139) rfl rfl ?_
        show Steps p.tables e below (T81.setTop (mkF m 140 #[.val (.int p1), .val (.int p2), .val (.int p3), .val (.int p4), .val (.int p5), .val (.int (3 : Int32)), .val (.int (3 : Int32)), .val (.ref b72), .val (.int (1 : Int32))] [])) _
        refine XS.iload X81.here hx rfl (hb hby at_140) rfl ?_
        show Steps p.tables e below (T81.setTop (mkF m 142 #[.val (.int p1), .val (.int p2), .val (.int p3), .val (.int p4), .val (.int p5), .val (.int (3 : Int32)), .val (.int (3 : Int32)), .val (.ref b72), .val (.int (1 : Int32))] [(.int (1 : Int32))])) _
        refine XS.ifNo X81.here hx rfl (hb hby at_142) rfl (by decide) ?_
        show Steps p.tables e below (T81.setTop (mkF m 145 #[.val (.int p1), .val (.int p2), .val (.int p3), .val (.int p4), .val (.int p5), .val (.int (3 : Int32)), .val (.int (3 : Int32)), .val (.ref b72), .val (.int (1 : Int32))] [])) _
        refine XS.aload X81.here hx rfl (hb hby at_145) rfl rfl ?_
        show Steps p.tables e below (T81.setTop (mkF m 147 #[.val (.int p1), .val (.int p2), .val (.int p3), .val (.int p4), .val (.int p5), .val (.int (3 : Int32)), .val (.int (3 : Int32)), .val (.ref b72), .val (.int (1 : Int32))] [(.ref b72)])) _
        exact st82
      rw [own_e0] at pre82
      obtain ⟨fs, hr, hrun, hended, hW, hsame⟩ := X82.leave (v := some (.int (1 : Int32))) (fun h => by rw [Bd.returns] at h; cases h)
      refine ⟨_, _, pre82.trans ?_, hrun, hended, _, _, rfl, ?_, ⟨_, rfl⟩, hW, hsame.mono (by decide) (by decide)⟩
      · skip
        refine XS.iload X82.here hx rfl (hb hby at_150) rfl ?_
        show Steps p.tables e below (T82.setTop (mkF m 152 #[.val (.int p1), .val (.int p2), .val (.int p3), .val (.int p4), .val (.int p5), .val (.int (3 : Int32)), .val (.int (3 : Int32)), .val (.ref b72), .val (.int (1 : Int32))] [(.int (3 : Int32)), (.int (1 : Int32))])) _
        refine XS.iload X82.here hx rfl (hb hby at_152) rfl ?_
        show Steps p.tables e below (T82.setTop (mkF m 154 #[.val (.int p1), .val (.int p2), .val (.int p3), .val (.int p4), .val (.int p5), .val (.int (3 : Int32)), .val (.int (3 : Int32)), .val (.ref b72), .val (.int (1 : Int32))] [(.int (3 : Int32)), (.int (3 : Int32)), (.int (1 : Int32))])) _
        refine XS.icmpNo X82.here hx rfl (hb hby at_154) rfl (by decide) ?_
        show Steps p.tables e below (T82.setTop (mkF m 157 #[.val (.int p1), .val (.int p2), .val (.int p3), .val (.int p4), .val (.int p5), .val (.int (3 : Int32)), .val (.int (3 : Int32)), .val (.ref b72), .val (.int (1 : Int32))] [(.int (1 : Int32))])) _
        refine XS.iconst X82.here hx rfl (hb hby at_157) ?_
        show Steps p.tables e below (T82.setTop (mkF m 158 #[.val (.int p1), .val (.int p2), .val (.int p3), .val (.int p4), .val (.int p5), .val (.int (3 : Int32)), .val (.int (3 : Int32)), .val (.ref b72), .val (.int (1 : Int32))] [(.int (1 : Int32)), (.int (1 : Int32))])) _
        refine XS.goto X82.here hx rfl (pc0 := 158) (pc' := 162) rfl (hb hby at_158) (by decide) (by decide) ?_
        show Steps p.tables e below (T82.setTop (mkF m 162 #[.val (.int p1), .val (.int p2), .val (.int p3), .val (.int p4), .val (.int p5), .val (.int (3 : Int32)), .val (.int (3 : Int32)), .val (.ref b72), .val (.int (1 : Int32))] [(.int (1 : Int32)), (.int (1 : Int32))])) _
        refine XS.icmpNo X82.here hx rfl (hb hby at_162) rfl (by decide) ?_
        show Steps p.tables e below (T82.setTop (mkF m 165 #[.val (.int p1), .val (.int p2), .val (.int p3), .val (.int p4), .val (.int p5), .val (.int (3 : Int32)), .val (.int (3 : Int32)), .val (.ref b72), .val (.int (1 : Int32))] [])) _
        refine XS.iconst X82.here hx rfl (hb hby at_165) ?_
        show Steps p.tables e below (T82.setTop (mkF m 166 #[.val (.int p1), .val (.int p2), .val (.int p3), .val (.int p4), .val (.int p5), .val (.int (3 : Int32)), .val (.int (3 : Int32)), .val (.ref b72), .val (.int (1 : Int32))] [(.int (1 : Int32))])) _
        refine XS.goto X82.here hx rfl (pc0 := 166) (pc' := 170) rfl (hb hby at_166) (by decide) (by decide) ?_
        show Steps p.tables e below (T82.setTop (mkF m 170 #[.val (.int p1), .val (.int p2), .val (.int p3), .val (.int p4), .val (.int p5), .val (.int (3 : Int32)), .val (.int (3 : Int32)), .val (.ref b72), .val (.int (1 : Int32))] [(.int (1 : Int32))])) _
        exact retN X82 hx (t := .boolean) Bd.returns (by simp) (hb hby at_170) hr
      · show Q0 Z p1 p2 p3 p4 p5  h0 n0 _ T82.heap _
        rw [e82]
        exact ⟨rfl, N82⟩
set_option maxRecDepth 65536 in
set_option maxHeartbeats 40000000 in
theorem comes_1 {Post : Tables → Env → Array Value → State → Outcome → State → Prop} (hpost : ∀ tb e args s v u, (limb_1_1.after args s (.returned v) u = true ∧ limb_1_2.after args s (.returned v) u = true ∧ True) → FrameEnd s (.returned v) u (Jvm.fieldLocs frame_1_writes args s ++ Jvm.arrayLocs frame_1_arrays args s ++ Jvm.staticLocs frame_1_statics s) 16 128 → Post tb e args s (.returned v) u) :
    ArmFor flags0 classFile x code maxLocals ret World_1 tables_1 room_1 Calls_1 rest_1 Pre_1 Post := by
  intro l hfl _ _ p e ha hc hk s m args below hf hA hF happ hP
  obtain ⟨hcalls, hrest, hpre⟩ := hP
  obtain ⟨-, -, -, hnamed, -, -, -, hat⟩ := (Spec.applies_iff hf).mp happ
  obtain ⟨hg, hn⟩ := and_e (Cond.before_iff.mp (show (Jvm.Cond.and given_1 narrow_1).before args s = true from hpre))
  obtain ⟨u0, r0⟩ := and_e hg
  obtain ⟨c0, r1⟩ := and_e r0
  obtain ⟨c1, r2⟩ := and_e r1
  obtain ⟨c2, r3⟩ := and_e r2
  obtain ⟨c3, r4⟩ := and_e r3
  obtain ⟨w0, w1, w2, w3, w4, rfl⟩ : ∃ w0 w1 w2 w3 w4 : Value, args = #[w0, w1, w2, w3, w4] := by
    have hs : args.size = 5 := by simpa [Cond.value, given_1] using u0
    obtain ⟨L⟩ := args
    match L, hs with
    | [w0, w1, w2, w3, w4], _ => exact ⟨w0, w1, w2, w3, w4, rfl⟩
  have hw := fun d (hd : d ∈ tables_1) => atoms_spec (ws := Jvm.Cond.code x code maxLocals ret :: tables_1) hat d (List.mem_cons_of_mem _ hd)
  obtain ⟨i0, ei0⟩ := is_v c0
  obtain rfl : w0 = (.int i0) := Option.some.inj ei0
  obtain ⟨i1, ei1⟩ := is_v c1
  obtain rfl : w1 = (.int i1) := Option.some.inj ei1
  obtain ⟨i2, ei2⟩ := is_v c2
  obtain rfl : w2 = (.int i2) := Option.some.inj ei2
  obtain ⟨i3, ei3⟩ := is_v c3
  obtain rfl : w3 = (.int i3) := Option.some.inj ei3
  obtain ⟨i4, ei4⟩ := is_v r4
  obtain rfl : w4 = (.int i4) := Option.some.inj ei4
  obtain ⟨n, o, h1, h2, h3, _, L, rfl, ⟨rfl, N⟩, hq⟩ := rm0 l s _ hw tables_1 i0 i1 i2 i3 i4 s.heap s.heap.size (Nat.le_refl _) p e ha hc hk s m _ below hf ((Spec.applies_iff_loose hf).mp happ).1 ⟨rfl, State.Warmed39.refl s, rfl⟩ trivial
  refine ⟨n, _, h1, h2, h3, hpost _ _ _ _ _ _ ⟨Cond.after_iff.mpr rfl, Cond.after_iff.mpr (eq_i res_at (Term.int_eval (1)) rfl), trivial⟩ ⟨hq.1, hq.2.1, (hq.2.2.sift fun y hy => Or.inr (N y hy)).mono (by decide) (by decide)⟩⟩
theorem main_1_1 : Claimed_1_1 := comes_1 fun _ _ _ _ _ _ h hF => ⟨h.1, hF⟩
theorem main_1_2 : Claimed_1_2 := comes_1 fun _ _ _ _ _ _ h hF => ⟨h.2.1, hF⟩
end Jvm.Pilot.@@N@@
namespace Jvm.Pilot.@@N@@
open Jvm Jvm.ClassFile Sem Op Lib Jvm.Free Jvm.Stand Jvm.Pilot.@@N@@.Jvm.D
/-! MADE BY PROGRAM (witnessworld.py) out of the Statement's table words and the real class files: 9 classes; the members and pool entries that the words name. The judged class is class 1, her method 1. -/
namespace start1
open Jvm.ClassFile
def u (s : String) : CpInfo := .utf8 (stringToUtf16 s)
/-- a pool by its gaps: so many unusable entries, then the entry; so many at the end -/
def gap : Nat → List CpInfo → List CpInfo
  | 0, r => r
  | n + 1, r => .unusable :: gap n r
def poolList (es : List (Nat × CpInfo)) (last : Nat) : List CpInfo := es.foldr (fun e r => gap e.1 (e.2 :: r)) (gap last [])
def pool (es : List (Nat × CpInfo)) (last : Nat) : Array CpInfo := ⟨poolList es last⟩
def fileOf (pool : Array CpInfo) (this : Nat) (attrs : Array Attribute := #[]) (ms : Array MethodInfo := #[]) (fl : Nat := 33) (sup : Nat := 0) (ifs : Array Nat := #[]) (fds : Array FieldInfo := #[]) : ClassFile where
  minorVersion := 0
  majorVersion := 65
  constantPool := pool
  accessFlags := fl
  thisClass := this
  superClass := sup
  interfaces := ifs
  fields := fds
  methods := ms
  attributes := attrs
def plain (name : String) (sup : Option ClassId) : Class where
  name := name
  kind := .ordinary
  loader := none
  accessFlags := 33
  super := sup
  interfaces := #[]
  cf := none
  fields := #[]
  methods := #[]
  instanceTypes := #[]
  staticTypes := #[]
  resolved := #[]
  callSites := []
  init := .initialized
  statics := none
  mirror := none

def pool0 : Array CpInfo := pool [(5, u "<init>"), (0, u "()V"), (1, .class_ 10), (1, u "java/lang/Object")] 113

def k0c0 : Code := { maxStack := 0, maxLocals := 1, code := object_method_1_code, exceptionTable := #[], attributes := #[] }
def k0m0 : Method := { name := "<init>", desc := "()V", sig := { parameters := [], returnType := none }, accessFlags := 1, code := some k0c0 }
/-- java/lang/Object -/
def k0 : Class := { plain "java/lang/Object" none with
  accessFlags := 33
  interfaces := #[]
  cf := some (fileOf pool0 8 #[] #[{ accessFlags := 1, nameIndex := 5, descriptorIndex := 6, attributes := #[] }] 33 0 #[] #[])
  fields := #[]
  methods := #[k0m0]
  instanceTypes := #[]
  staticTypes := #[]
  resolved := Array.replicate 124 none
  statics := none }

def pool1 : Array CpInfo := pool [(2, .class_ 4), (0, .nameAndType 5 6), (0, u "java/lang/Object"), (0, u "<init>"), (0, u "()V"), (0, .class_ 8), (0, u "com/example/brisk_tableau/brisktableau/ltl/IntStack"), (0, .methodref 7 3), (0, .methodref 7 11), (0, .nameAndType 12 13), (0, u "isEmpty"), (0, u "()Z"), (0, .methodref 7 15), (0, .nameAndType 16 17), (0, u "push"), (0, u "(I)V"), (0, .methodref 7 19), (0, .nameAndType 20 21), (0, u "pop"), (0, u "()I"), (0, .class_ 23), (0, u "com/example/brisk_tableau/brisktableau/ltl/IntStackIsEmptyPinLaw"), (2, u "law"), (0, u "(IIIII)Z")] 3

def k1m0 : Method := { name := "<init>", desc := "()V", sig := { parameters := [], returnType := none }, accessFlags := 2, code := none }
def k1c1 : Code := { maxStack := 3, maxLocals := 9, code := code, exceptionTable := #[], attributes := #[] }
def k1m1 : Method := { name := "law", desc := "(IIIII)Z", sig := { parameters := [.int, .int, .int, .int, .int], returnType := some .boolean }, accessFlags := 9, code := some k1c1 }
/-- com/example/brisk_tableau/brisktableau/ltl/IntStackIsEmptyPinLaw -/
def k1 : Class := { plain "com/example/brisk_tableau/brisktableau/ltl/IntStackIsEmptyPinLaw" (some 0) with
  accessFlags := 49
  interfaces := #[]
  cf := some (fileOf pool1 22 #[] #[{ accessFlags := 2, nameIndex := 5, descriptorIndex := 6, attributes := #[] }, { accessFlags := 9, nameIndex := 26, descriptorIndex := 27, attributes := #[] }] 49 2 #[] #[])
  fields := #[]
  methods := #[k1m0, k1m1]
  instanceTypes := #[]
  staticTypes := #[]
  resolved := Array.replicate 31 none
  statics := none }

def pool2 : Array CpInfo := pool [(1, .methodref 2 3), (0, .class_ 4), (0, .nameAndType 5 6), (0, u "java/lang/Object"), (0, u "<init>"), (0, u "()V"), (0, .fieldref 8 9), (0, .class_ 10), (0, .nameAndType 11 12), (0, u "com/example/brisk_tableau/brisktableau/ltl/IntStack"), (0, u "items"), (0, u "[I"), (0, .fieldref 8 14), (0, .nameAndType 15 16), (0, u "size"), (0, u "I"), (8, u "push"), (0, u "(I)V"), (6, u "pop"), (0, u "()I"), (0, u "isEmpty"), (0, u "()Z")] 2

def k2c0 : Code := { maxStack := 2, maxLocals := 1, code := prog_61_method_1_code, exceptionTable := #[], attributes := #[] }
def k2m0 : Method := { name := "<init>", desc := "()V", sig := { parameters := [], returnType := none }, accessFlags := 0, code := some k2c0 }
def k2c1 : Code := { maxStack := 5, maxLocals := 2, code := prog_61_method_2_code, exceptionTable := #[], attributes := #[] }
def k2m1 : Method := { name := "push", desc := "(I)V", sig := { parameters := [.int], returnType := none }, accessFlags := 0, code := some k2c1 }
def k2c2 : Code := { maxStack := 4, maxLocals := 1, code := prog_61_method_4_code, exceptionTable := #[], attributes := #[] }
def k2m2 : Method := { name := "pop", desc := "()I", sig := { parameters := [], returnType := some .int }, accessFlags := 0, code := some k2c2 }
def k2c3 : Code := { maxStack := 1, maxLocals := 1, code := prog_61_method_5_code, exceptionTable := #[], attributes := #[] }
def k2m3 : Method := { name := "isEmpty", desc := "()Z", sig := { parameters := [], returnType := some .boolean }, accessFlags := 0, code := some k2c3 }
/-- com/example/brisk_tableau/brisktableau/ltl/IntStack -/
def k2 : Class := { plain "com/example/brisk_tableau/brisktableau/ltl/IntStack" (some 0) with
  accessFlags := 48
  interfaces := #[]
  cf := some (fileOf pool2 8 #[] #[{ accessFlags := 0, nameIndex := 5, descriptorIndex := 6, attributes := #[] }, { accessFlags := 0, nameIndex := 25, descriptorIndex := 26, attributes := #[] }, { accessFlags := 0, nameIndex := 33, descriptorIndex := 34, attributes := #[] }, { accessFlags := 0, nameIndex := 35, descriptorIndex := 36, attributes := #[] }] 48 2 #[] #[{ accessFlags := 2, nameIndex := 11, descriptorIndex := 12, attributes := #[] }, { accessFlags := 2, nameIndex := 15, descriptorIndex := 16, attributes := #[] }])
  fields := #[{ name := "items", type := (.array .int), accessFlags := 2, slot := 0, constantValue := 0 }, { name := "size", type := .int, accessFlags := 2, slot := 1, constantValue := 0 }]
  methods := #[k2m0, k2m1, k2m2, k2m3]
  instanceTypes := #[(.array .int), .int]
  staticTypes := #[]
  resolved := Array.replicate 39 none
  statics := none }

def pool3 : Array CpInfo := pool [(1, u "java/lang/Cloneable"), (0, .class_ 1), (0, u "java/lang/Object"), (0, .class_ 3)] 3

/-- java/lang/Cloneable -/
def k3 : Class := { plain "java/lang/Cloneable" (some 0) with
  accessFlags := 1537
  interfaces := #[]
  cf := some (fileOf pool3 2 #[] #[] 1537 4 #[] #[])
  fields := #[]
  methods := #[]
  instanceTypes := #[]
  staticTypes := #[]
  resolved := Array.replicate 8 none
  statics := none }

def pool4 : Array CpInfo := pool [(1, u "java/io/Serializable"), (0, .class_ 1), (0, u "java/lang/Object"), (0, .class_ 3)] 3

/-- java/io/Serializable -/
def k4 : Class := { plain "java/io/Serializable" (some 0) with
  accessFlags := 1537
  interfaces := #[]
  cf := some (fileOf pool4 2 #[] #[] 1537 4 #[] #[])
  fields := #[]
  methods := #[]
  instanceTypes := #[]
  staticTypes := #[]
  resolved := Array.replicate 8 none
  statics := none }

/-- the primitive byte -/
def k5 : Class := { plain "byte" none with kind := .primitive 'B', accessFlags := 0x411 }
/-- [B -/
def k6 : Class := { plain "[B" (some 0) with kind := .array 5 .byte, interfaces := #[3, 4], accessFlags := 1041 }

/-- the primitive int -/
def k7 : Class := { plain "int" none with kind := .primitive 'I', accessFlags := 0x411 }
/-- [I -/
def k8 : Class := { plain "[I" (some 0) with kind := .array 7 .int, interfaces := #[3, 4], accessFlags := 1041 }

def heap : Heap := #[]
def classes : Array Class := #[k0, k1, k2, k3, k4, k5, k6, k7, k8]
def interned : List (Array UInt16 × Addr) := []
def slotsUsed : Nat := 0
def theMethod : MethodId := ⟨1, 1⟩
def args0 : Array Value := #[.int 2, .int 1, .int 7, .int 8, .int 9]
def aboutOver (below : List Frame) : State where
  vm := { classes := classes, interned := interned.toArray }
  heap := heap
  slotsUsed := slotsUsed
  threads := #[{ frames := .invoking theMethod args0 :: below }]
def below0 : List Frame := [.native { method := ⟨0, 0⟩, args := #[] }]
def about1 : State := aboutOver below0
def p0 : Program := .bare "" "" ""
def e0 : Env := launch0.env 0 0 0
theorem w_frames : about1.frames = Frame.invoking theMethod args0 :: below0 := rfl
set_option maxRecDepth 65536 in
theorem w_args : argsFit about1.vm theMethod args0 = true := by decide +kernel
set_option maxRecDepth 65536 in
theorem w_heap : heapFits about1 = true := by decide +kernel
set_option maxRecDepth 65536 in
theorem w_runnable : about1.curStatus? = some .runnable := by decide +kernel
set_option maxRecDepth 65536 in
theorem w_alone : about1.alone = true := by decide +kernel
set_option maxRecDepth 65536 in
theorem w_named : about1.methodNamed? x = some theMethod := by decide +kernel
set_option maxRecDepth 65536 in
theorem w_hears : about1.hears theMethod below0 = true := by decide +kernel
set_option maxRecDepth 65536 in
theorem w_ripe : about1.ripe theMethod args0 below0 = true := by decide +kernel
theorem w_running : about1.status = .running := rfl
set_option maxRecDepth 65536 in
theorem w_room : about1.hasRoom e0.platform room_1 = true :=
  launch0.hasRoom_least _ room_1 (by decide +kernel) (by decide +kernel) (by decide +kernel) (by decide +kernel) (by decide +kernel) (by decide +kernel)
theorem allAtoms_all (ts : List Jvm.Cond) (a : Array Jvm.Value) (st : Jvm.State) : (allAtoms ts).before a st = ts.all (fun c => c.before a st) := by
  induction ts with
  | nil => rfl
  | cons c t ih =>
    show (Jvm.Cond.and c (allAtoms t)).before a st = _
    rw [Jvm.Cond.before_and, ih, List.all_cons]
def words1 : List Jvm.Cond := Jvm.Cond.code x code maxLocals ret :: tables_1
/-- a 'code' word, met by the world's own term for the bytes: nothing is compared byte by byte -/
theorem code_word {y : MethodName} {bytes : ByteArray} {mx : Nat} {rt : Option FieldType} {a : Array Value} {s : State} {m : MethodId} {meth : Method} {c : Code} (h1 : s.methodNamed? y = some m) (h2 : s.vm.method? m = some meth) (h3 : meth.code = some c) (h4 : c.code = bytes)
    (h5 : (c.maxLocals == mx && c.exceptionTable.isEmpty && decide (c.maxStack ≤ mostOperands) && decide (meth.sig.returnType = rt) && !meth.locks && decide (parseMethodDescriptor y.desc = some meth.sig)) = true) : (Jvm.Cond.code y bytes mx rt).before a s = true := by
  simp only [Bool.and_eq_true, beq_iff_eq, Bool.not_eq_true', decide_eq_true_eq] at h5
  obtain ⟨⟨⟨⟨⟨g1, g2⟩, g3⟩, g4⟩, g5⟩, g6⟩ := h5
  simp [Cond.before, Cond.holds, Cond.value, h1, h2, h3, h4, g1, g2, g3, g4, g5, g6]
def isCode : Jvm.Cond → Bool
  | .code _ _ _ _ => true
  | _ => false
theorem all_split {L : List Jvm.Cond} {P : Jvm.Cond → Bool} (h1 : L.all (fun c => isCode c || P c) = true) (h2 : ∀ c ∈ L.filter isCode, P c = true) : L.all P = true := by
  refine List.all_eq_true.mpr fun c hc => ?_
  have h := List.all_eq_true.mp h1 c hc
  rcases Bool.eq_false_or_eq_true (isCode c) with hi | hi
  · exact h2 c (List.mem_filter.mpr ⟨hc, hi⟩)
  · simpa [hi] using h
set_option maxRecDepth 65536 in
theorem w_c0 : (Jvm.Cond.code x code maxLocals ret).before args0 about1 = true := code_word (m := ⟨1, 1⟩) (meth := k1m1) (c := k1c1) (by decide +kernel) rfl rfl rfl (by decide +kernel)
set_option maxRecDepth 65536 in
theorem w_c1 : (Jvm.Cond.code ({ cls := "com/example/brisk_tableau/brisktableau/ltl/IntStack", name := "<init>", desc := "()V" } : Jvm.MethodName) prog_61_method_1_code (1 : Nat) (Option.none : Option Jvm.ClassFile.FieldType)).before args0 about1 = true := code_word (m := ⟨2, 0⟩) (meth := k2m0) (c := k2c0) (by decide +kernel) rfl rfl rfl (by decide +kernel)
set_option maxRecDepth 65536 in
theorem w_c2 : (Jvm.Cond.code ({ cls := "java/lang/Object", name := "<init>", desc := "()V" } : Jvm.MethodName) object_method_1_code (1 : Nat) (Option.none : Option Jvm.ClassFile.FieldType)).before args0 about1 = true := code_word (m := ⟨0, 0⟩) (meth := k0m0) (c := k0c0) (by decide +kernel) rfl rfl rfl (by decide +kernel)
set_option maxRecDepth 65536 in
theorem w_c3 : (Jvm.Cond.code ({ cls := "com/example/brisk_tableau/brisktableau/ltl/IntStack", name := "isEmpty", desc := "()Z" } : Jvm.MethodName) prog_61_method_5_code (1 : Nat) (Option.some Jvm.ClassFile.FieldType.boolean)).before args0 about1 = true := code_word (m := ⟨2, 3⟩) (meth := k2m3) (c := k2c3) (by decide +kernel) rfl rfl rfl (by decide +kernel)
set_option maxRecDepth 65536 in
theorem w_c4 : (Jvm.Cond.code ({ cls := "com/example/brisk_tableau/brisktableau/ltl/IntStack", name := "push", desc := "(I)V" } : Jvm.MethodName) prog_61_method_2_code (2 : Nat) (Option.none : Option Jvm.ClassFile.FieldType)).before args0 about1 = true := code_word (m := ⟨2, 1⟩) (meth := k2m1) (c := k2c1) (by decide +kernel) rfl rfl rfl (by decide +kernel)
set_option maxRecDepth 65536 in
theorem w_c5 : (Jvm.Cond.code ({ cls := "com/example/brisk_tableau/brisktableau/ltl/IntStack", name := "pop", desc := "()I" } : Jvm.MethodName) prog_61_method_4_code (1 : Nat) (Option.some Jvm.ClassFile.FieldType.int)).before args0 about1 = true := code_word (m := ⟨2, 2⟩) (meth := k2m2) (c := k2c2) (by decide +kernel) rfl rfl rfl (by decide +kernel)
def codes1 : List Jvm.Cond := [Jvm.Cond.code x code maxLocals ret, Jvm.Cond.code ({ cls := "com/example/brisk_tableau/brisktableau/ltl/IntStack", name := "<init>", desc := "()V" } : Jvm.MethodName) prog_61_method_1_code (1 : Nat) (Option.none : Option Jvm.ClassFile.FieldType), Jvm.Cond.code ({ cls := "java/lang/Object", name := "<init>", desc := "()V" } : Jvm.MethodName) object_method_1_code (1 : Nat) (Option.none : Option Jvm.ClassFile.FieldType), Jvm.Cond.code ({ cls := "com/example/brisk_tableau/brisktableau/ltl/IntStack", name := "isEmpty", desc := "()Z" } : Jvm.MethodName) prog_61_method_5_code (1 : Nat) (Option.some Jvm.ClassFile.FieldType.boolean), Jvm.Cond.code ({ cls := "com/example/brisk_tableau/brisktableau/ltl/IntStack", name := "push", desc := "(I)V" } : Jvm.MethodName) prog_61_method_2_code (2 : Nat) (Option.none : Option Jvm.ClassFile.FieldType), Jvm.Cond.code ({ cls := "com/example/brisk_tableau/brisktableau/ltl/IntStack", name := "pop", desc := "()I" } : Jvm.MethodName) prog_61_method_4_code (1 : Nat) (Option.some Jvm.ClassFile.FieldType.int)]
set_option maxRecDepth 65536 in
theorem codes_eq : words1.filter isCode = codes1 := rfl
theorem w_codes : ∀ c ∈ words1.filter isCode, c.before args0 about1 = true := by
  rw [codes_eq]
  intro c hc
  simp only [codes1, List.mem_cons, List.not_mem_nil, or_false] at hc
  rcases hc with rfl | rfl | rfl | rfl | rfl | rfl
  · exact w_c0
  · exact w_c1
  · exact w_c2
  · exact w_c3
  · exact w_c4
  · exact w_c5
set_option maxRecDepth 65536 in
theorem w_t1 : (words1.take 24).all (fun c => isCode c || c.before args0 about1) = true := by decide +kernel
set_option maxRecDepth 65536 in
theorem w_t2 : (words1.drop 24).all (fun c => isCode c || c.before args0 about1) = true := by decide +kernel
theorem w_tables : (allAtoms (Jvm.Cond.code x code maxLocals ret :: tables_1)).before args0 about1 = true := by
  rw [allAtoms_all]
  show words1.all (fun c => c.before args0 about1) = true
  refine all_split ?_ w_codes
  rw [← List.take_append_drop 24 words1, List.all_append, w_t1, w_t2]
  rfl
set_option maxRecDepth 65536 in
theorem w_case : (Jvm.Cond.and given_1 narrow_1).before args0 about1 = true := by decide +kernel
theorem w_applies : (headSpec (Jvm.Cond.code x code maxLocals ret :: tables_1) room_1).applies x e0.platform about1 = true :=
  (Spec.applies_iff w_frames).mpr ⟨w_running, w_runnable, w_alone, w_named, w_hears, w_ripe, w_room, w_tables⟩
theorem atStart : AtStart classFile x code maxLocals ret World_1 tables_1 room_1 Calls_1 rest_1 Pre_1 launch0 p0 e0 about1 theMethod args0 below0 :=
  ⟨lists_1, trivial, launch0.admits_env _ _ _, launch0.least_env, fairChoices_fair.cas, fairChoices_fair.clock, w_frames, w_args, w_heap, w_applies, trivial, trivial, w_case⟩
end start1
theorem witness_1 : WitnessClaimed_1 := ⟨start1.p0, start1.e0, start1.about1, start1.theMethod, start1.args0, start1.below0, start1.atStart⟩
end Jvm.Pilot.@@N@@
