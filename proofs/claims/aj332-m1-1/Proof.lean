import JvmDerived
import JvmDerived.Pilot.@@N@@Statement
import JvmDerived.Pilot.@@N@@Code
set_option linter.unusedVariables false
set_option linter.unusedSimpArgs false
namespace Jvm.RoadKit
open Sem ClassFile Op Lib Jvm.Stand Jvm.Free Jvm.LawKit
section New
variable {p : Program} {l : Launch} {e : Env} {R : Room} {s : State} {m : MethodId} {args : Array Value} {below : List Frame} {meth : Method} {c : Code} {T : State} {locs : List Loc} {cells slots : Nat}
theorem retI (X : Stand p l e R s m args below meth c T locs cells slots) (hx : p.tables.exec = Jvm.exec) {pc : Nat} {Ls : Array Slot} {z : Int32} {rest : List Value} (hret : meth.sig.returnType = some .int) (hd : decode c.code pc = .ok (.ireturn, 1)) {fs : List Frame}
    (hl : ∀ (f : JFrame) (acts : List Action), f.method = m → f.locked = none → f.entered = [] → (doReturn e (T.setTop f) acts (some (.int z))).1 = T.setFrames fs) : Steps p.tables e below (T.setTop (mkF m pc Ls (.int z :: rest))) (T.setFrames fs) := by
  have hm' : T.vm.method? m = some meth := X.method'
  have hn : narrow .int (.int z) = .int z := rfl
  show Steps p.tables e below (T.setTop { method := m, pc := pc, locals := Ls, stack := _ :: rest, locked := none }) _
  jvm_step X.here [X.here.top, hx, hd, hm', hret, hn]
  first | (intro acts; rw [hl _ acts rfl rfl rfl]) | rw [hl _ _ rfl rfl rfl]
  exact Steps.refl _
end New
end Jvm.RoadKit
namespace Jvm.Pilot.@@N@@
open Jvm Jvm.ClassFile Sem Op Lib Jvm.Free Jvm.Stand Jvm.LawKit Jvm.RoadKit Bundle Jvm.Pilot.@@N@@.Jvm.D
theorem pd_0 : parseMethodDescriptor "(I)Z" = some ⟨[.int], some .boolean⟩ := by decide +kernel
theorem pd_1 : parseMethodDescriptor "([B)Z" = some ⟨[(.array .byte)], some .boolean⟩ := by decide +kernel
def own_end (c : Int32) : Int32 := if c = 13 then 1 else if c = 10 then 1 else 0
def own_in (c : Int32) : Int32 := if own_end c = 0 then 1 else 0
def own_exp (b : Int32) : Int32 := if (b &&& (255 : Int32)) = 13 then 0 else if (b &&& (255 : Int32)) = 10 then 0 else 1
theorem own_byte (b : Int32) : own_in (nar .byte (b.toInt8.toInt32)) = own_exp b := by
  have e : nar .byte (b.toInt8.toInt32) = b.toInt8.toInt32.toInt8.toInt32 := rfl
  rw [e]
  have h1 := c_i2b b
  have h2 := c_i2b (b.toInt8.toInt32)
  have h3 : (b &&& (255 : Int32)).toInt = b.toInt % (2 ^ 8 : Nat) := c_mask b 255 8 (by decide) (by decide)
  have k : ∀ x y : Int32, (x = y) = (x.toInt = y.toInt) := fun x y => propext Int32.toInt_inj.symm
  have k1 : (b.toInt8.toInt32.toInt8.toInt32 = 13) = ((b &&& (255 : Int32)) = 13) := by
    rw [k, k]; simp only [Int32.reduceToInt, Nat.reducePow] at *; exact propext ⟨fun _ => by omega, fun _ => by omega⟩
  have k2 : (b.toInt8.toInt32.toInt8.toInt32 = 10) = ((b &&& (255 : Int32)) = 10) := by
    rw [k, k]; simp only [Int32.reduceToInt, Nat.reducePow] at *; exact propext ⟨fun _ => by omega, fun _ => by omega⟩
  unfold own_in own_end own_exp
  simp only [k1, k2]
  by_cases q1 : (b &&& (255 : Int32)) = 13
  · simp only [if_pos q1]; decide
  · by_cases q2 : (b &&& (255 : Int32)) = 10
    · simp only [if_neg q1, if_pos q2]; decide
    · simp only [if_neg q1, if_neg q2]; decide
theorem own_rem (x : Int32) : ((x &&& (2147483647 : Int32)) - ((x &&& (2147483647 : Int32)) / (5 : Int32)) * (5 : Int32)) = 0 ∨ ((x &&& (2147483647 : Int32)) - ((x &&& (2147483647 : Int32)) / (5 : Int32)) * (5 : Int32)) = 1 ∨ ((x &&& (2147483647 : Int32)) - ((x &&& (2147483647 : Int32)) / (5 : Int32)) * (5 : Int32)) = 2 ∨ ((x &&& (2147483647 : Int32)) - ((x &&& (2147483647 : Int32)) / (5 : Int32)) * (5 : Int32)) = 3 ∨ ((x &&& (2147483647 : Int32)) - ((x &&& (2147483647 : Int32)) / (5 : Int32)) * (5 : Int32)) = 4 := by
  have h1 : (x &&& (2147483647 : Int32)).toInt = x.toInt % (2 ^ 31 : Nat) := c_mask x 2147483647 31 (by decide) (by decide)
  simp only [Nat.reducePow] at h1
  generalize (x &&& (2147483647 : Int32)) = y at *
  have h2 := (c_idiv y 5 5 rfl (by decide)).1
  have h3 := c_imul (y / 5) 5
  have h4 := c_isub y (y / 5 * 5)
  have h5 := rng32 (y / 5 * 5)
  have h6 := rng32 (y - y / 5 * 5)
  have h7 := rng32 y
  simp only [← Int32.toInt_inj, Int32.reduceToInt] at *
  omega
theorem d2_0 : decode prog_52_method_8_code 0 = .ok (.iload_n 0, 1) := by decide +kernel
theorem d2_1 : decode prog_52_method_8_code 1 = .ok (.bipush 13, 2) := by decide +kernel
theorem d2_3 : decode prog_52_method_8_code 3 = .ok (.if_icmp .eq 9, 3) := by decide +kernel
theorem d2_6 : decode prog_52_method_8_code 6 = .ok (.iload_n 0, 1) := by decide +kernel
theorem d2_7 : decode prog_52_method_8_code 7 = .ok (.bipush 10, 2) := by decide +kernel
theorem d2_9 : decode prog_52_method_8_code 9 = .ok (.if_icmp .ne 7, 3) := by decide +kernel
theorem d2_12 : decode prog_52_method_8_code 12 = .ok (.iconst 1, 1) := by decide +kernel
theorem d2_13 : decode prog_52_method_8_code 13 = .ok (.goto 4, 3) := by decide +kernel
theorem d2_16 : decode prog_52_method_8_code 16 = .ok (.iconst 0, 1) := by decide +kernel
theorem d2_17 : decode prog_52_method_8_code 17 = .ok (.ireturn, 1) := by decide +kernel
theorem pn_2 : plainName "com/example/tsumugi/tsumugi/Segments" = true := by first | (simp [plainName, overriddenIn]; done) | decide +kernel
theorem ef_2 (m : MethodId) (p1 : Int32) : entryFrame m #[(.int p1)] 1 = (mkF m 0 #[.val (.int p1)] []) := by first | (simp [entryFrame, mkF, argsToLocals, Value.category, maxLocals]; done) | rfl
def Q2 (Z : State) (p1 : Int32)  (h0 : Heap) (n0 : Nat) (v : Option Value) (h : Heap) (L : List Loc) : Prop := v = some (.int (own_end p1)) ∧ Fr n0 L ∧ h = h0
set_option maxRecDepth 65536 in
set_option maxHeartbeats 40000000 in
theorem rm2 (l : Launch) (Z : State) (a0 : Array Value) (hw : ∀ d ∈ tables_1, d.before a0 Z = true) (ws : List Jvm.Cond) (p1 : Int32)  (h0 : Heap) (n0 : Nat) (Z0 : n0 ≤ h0.size)  :
    MetFree l (⟨"com/example/tsumugi/tsumugi/Segments", "isSegmentEnd", "(I)Z"⟩ : MethodName) (head1 (Jvm.Cond.code (⟨"com/example/tsumugi/tsumugi/Segments", "isSegmentEnd", "(I)Z"⟩ : MethodName) prog_52_method_8_code 1 (some .boolean) :: ws) ({ frames := 0, cells := 0, slots := 0, locals := 0 } : Room)) (fun a U => a = #[(.int p1)] ∧ Z.Warmed39 U.vm ∧ U.heap = h0) (fun _ _ _ _ _ => True) (fun _ U o U' => ∃ v L, o = .returned v ∧ Q2 Z p1  h0 n0 v U'.heap L ∧ FrameEnd U o U' L ({ frames := 0, cells := 0, slots := 0, locals := 0 } : Room).cells ({ frames := 0, cells := 0, slots := 0, locals := 0 } : Room).slots) := by
  refine MetFree.of_bodySF (plainFor_of_name pn_2) hisR ?_
  intro p e s m args below meth c s₁ Bd hml0 hP hK
  obtain ⟨rfl, hZ, hh⟩ := hP
  have hx := Bd.exec
  have hby := Bd.bytes
  have hml : c.maxLocals = 1 := hml0
  have hown : s.vm.findClass "com/example/tsumugi/tsumugi/Segments" = some m.cls := findClass_of_methodNamed Bd.named
  have hnm := (name_of_methodNamed Bd.named Bd.method).1
  have X0 : Stand p l e ({ frames := 0, cells := 0, slots := 0, locals := 0 } : Room) s m #[(.int p1)] below meth c s₁ [] 0 0 := Stand.of_body Bd
  have e0 : s₁.heap = h0 := by rw [← hh, Bd.state]; rfl
  have N0 := Fr.nil n0
  have pre0 : Steps p.tables e below (s₁.setTop (entryFrame m #[(.int p1)] 1)) (s₁.setTop (mkF m 0 #[.val (.int p1)] [])) := castTop (ef_2 m p1) (Steps.refl _)
  have pre1 : Steps p.tables e below (s₁.setTop (entryFrame m #[(.int p1)] 1)) (s₁.setTop (mkF m 3 #[.val (.int p1)] [(.int (13 : Int32)), (.int p1)])) := by
    refine pre0.trans ?_
    refine XS.iloadN X0.here hx rfl (hb hby d2_0) rfl ?_
    show Steps p.tables e below (s₁.setTop (mkF m 1 #[.val (.int p1)] [(.int p1)])) _
    refine XS.bipush X0.here hx rfl (hb hby d2_1) ?_
    show Steps p.tables e below (s₁.setTop (mkF m 3 #[.val (.int p1)] [(.int (13 : Int32)), (.int p1)])) _
    exact Steps.refl _
  by_cases hc3 : p1 = (13 : Int32)
  · skip
    obtain ⟨fs, hr, hrun, hended, hW, hsame⟩ := X0.leave (v := some (.int (1 : Int32))) (fun h => by rw [Bd.returns] at h; cases h)
    refine ⟨_, _, pre1.trans ?_, hrun, hended, _, _, rfl, ?_, ⟨_, rfl⟩, hW, hsame.mono (by decide) (by decide)⟩
    · skip
      refine XS.icmpYes X0.here hx rfl (pc0 := 3) (pc' := 12) rfl (hb hby d2_3) rfl (teq hc3).1 (by decide) (by decide) ?_
      show Steps p.tables e below (s₁.setTop (mkF m 12 #[.val (.int p1)] [])) _
      refine XS.iconst X0.here hx rfl (hb hby d2_12) ?_
      show Steps p.tables e below (s₁.setTop (mkF m 13 #[.val (.int p1)] [(.int (1 : Int32))])) _
      refine XS.goto X0.here hx rfl (pc0 := 13) (pc' := 17) rfl (hb hby d2_13) (by decide) (by decide) ?_
      show Steps p.tables e below (s₁.setTop (mkF m 17 #[.val (.int p1)] [(.int (1 : Int32))])) _
      exact retN X0 hx (t := .boolean) Bd.returns (by simp) (hb hby d2_17) hr
    · show Q2 Z p1  h0 n0 _ s₁.heap _
      rw [e0]
      exact ⟨by simp [own_end, hc3], N0, rfl⟩
  · skip
    have pre2 : Steps p.tables e below (s₁.setTop (entryFrame m #[(.int p1)] 1)) (s₁.setTop (mkF m 9 #[.val (.int p1)] [(.int (10 : Int32)), (.int p1)])) := by
      refine pre1.trans ?_
      refine XS.icmpNo X0.here hx rfl (hb hby d2_3) rfl (feq hc3).1 ?_
      show Steps p.tables e below (s₁.setTop (mkF m 6 #[.val (.int p1)] [])) _
      refine XS.iloadN X0.here hx rfl (hb hby d2_6) rfl ?_
      show Steps p.tables e below (s₁.setTop (mkF m 7 #[.val (.int p1)] [(.int p1)])) _
      refine XS.bipush X0.here hx rfl (hb hby d2_7) ?_
      show Steps p.tables e below (s₁.setTop (mkF m 9 #[.val (.int p1)] [(.int (10 : Int32)), (.int p1)])) _
      exact Steps.refl _
    by_cases hc9 : p1 = (10 : Int32)
    · skip
      obtain ⟨fs, hr, hrun, hended, hW, hsame⟩ := X0.leave (v := some (.int (1 : Int32))) (fun h => by rw [Bd.returns] at h; cases h)
      refine ⟨_, _, pre2.trans ?_, hrun, hended, _, _, rfl, ?_, ⟨_, rfl⟩, hW, hsame.mono (by decide) (by decide)⟩
      · skip
        refine XS.icmpNo X0.here hx rfl (hb hby d2_9) rfl (teq hc9).2 ?_
        show Steps p.tables e below (s₁.setTop (mkF m 12 #[.val (.int p1)] [])) _
        refine XS.iconst X0.here hx rfl (hb hby d2_12) ?_
        show Steps p.tables e below (s₁.setTop (mkF m 13 #[.val (.int p1)] [(.int (1 : Int32))])) _
        refine XS.goto X0.here hx rfl (pc0 := 13) (pc' := 17) rfl (hb hby d2_13) (by decide) (by decide) ?_
        show Steps p.tables e below (s₁.setTop (mkF m 17 #[.val (.int p1)] [(.int (1 : Int32))])) _
        exact retN X0 hx (t := .boolean) Bd.returns (by simp) (hb hby d2_17) hr
      · show Q2 Z p1  h0 n0 _ s₁.heap _
        rw [e0]
        exact ⟨by simp [own_end, hc3, hc9], N0, rfl⟩
    · skip
      obtain ⟨fs, hr, hrun, hended, hW, hsame⟩ := X0.leave (v := some (.int (0 : Int32))) (fun h => by rw [Bd.returns] at h; cases h)
      refine ⟨_, _, pre2.trans ?_, hrun, hended, _, _, rfl, ?_, ⟨_, rfl⟩, hW, hsame.mono (by decide) (by decide)⟩
      · skip
        refine XS.icmpYes X0.here hx rfl (pc0 := 9) (pc' := 16) rfl (hb hby d2_9) rfl (feq hc9).2 (by decide) (by decide) ?_
        show Steps p.tables e below (s₁.setTop (mkF m 16 #[.val (.int p1)] [])) _
        refine XS.iconst X0.here hx rfl (hb hby d2_16) ?_
        show Steps p.tables e below (s₁.setTop (mkF m 17 #[.val (.int p1)] [(.int (0 : Int32))])) _
        exact retN X0 hx (t := .boolean) Bd.returns (by simp) (hb hby d2_17) hr
      · show Q2 Z p1  h0 n0 _ s₁.heap _
        rw [e0]
        exact ⟨by simp [own_end, hc3, hc9], N0, rfl⟩
theorem d1_0 : decode prog_52_method_9_code 0 = .ok (.aload_n 0, 1) := by decide +kernel
theorem d1_1 : decode prog_52_method_9_code 1 = .ok (.arraylength, 1) := by decide +kernel
theorem d1_2 : decode prog_52_method_9_code 2 = .ok (.ifCond .ne 5, 3) := by decide +kernel
theorem d1_5 : decode prog_52_method_9_code 5 = .ok (.iconst 0, 1) := by decide +kernel
theorem d1_6 : decode prog_52_method_9_code 6 = .ok (.ireturn, 1) := by decide +kernel
theorem d1_7 : decode prog_52_method_9_code 7 = .ok (.aload_n 0, 1) := by decide +kernel
theorem d1_8 : decode prog_52_method_9_code 8 = .ok (.aload_n 0, 1) := by decide +kernel
theorem d1_9 : decode prog_52_method_9_code 9 = .ok (.arraylength, 1) := by decide +kernel
theorem d1_10 : decode prog_52_method_9_code 10 = .ok (.iconst 1, 1) := by decide +kernel
theorem d1_11 : decode prog_52_method_9_code 11 = .ok (.isub, 1) := by decide +kernel
theorem d1_12 : decode prog_52_method_9_code 12 = .ok (.baload, 1) := by decide +kernel
theorem d1_13 : decode prog_52_method_9_code 13 = .ok (.invokestatic 95, 3) := by decide +kernel
theorem d1_16 : decode prog_52_method_9_code 16 = .ok (.ifCond .ne 7, 3) := by decide +kernel
theorem d1_19 : decode prog_52_method_9_code 19 = .ok (.iconst 1, 1) := by decide +kernel
theorem d1_20 : decode prog_52_method_9_code 20 = .ok (.goto 4, 3) := by decide +kernel
theorem d1_23 : decode prog_52_method_9_code 23 = .ok (.iconst 0, 1) := by decide +kernel
theorem d1_24 : decode prog_52_method_9_code 24 = .ok (.ireturn, 1) := by decide +kernel
theorem ef_1 (m : MethodId) (a1 : Addr) : entryFrame m #[(.ref a1)] 1 = (mkF m 0 #[.val (.ref a1)] []) := by first | (simp [entryFrame, mkF, argsToLocals, Value.category, maxLocals]; done) | rfl
def Q1 (Z : State) (a1 : Addr) (cl : Cell) (z : Int32) (w2 : Int32) (h0 : Heap) (n0 : Nat) (v : Option Value) (h : Heap) (L : List Loc) : Prop := v = some (.int (own_in w2)) ∧ Fr n0 L ∧ h = h0
set_option maxRecDepth 65536 in
set_option maxHeartbeats 40000000 in
theorem rm1 (l : Launch) (Z : State) (a0 : Array Value) (hw : ∀ d ∈ tables_1, d.before a0 Z = true) (ws : List Jvm.Cond) (a1 : Addr) (cl : Cell) (z : Int32) (w2 : Int32) (h0 : Heap) (n0 : Nat) (Z0 : n0 ≤ h0.size) (Ar : Arr Z h0 a1 cl .byte) (Sz : cl.slots.size = z.toNatClampNeg) (Nz : ¬ z < 0) (hin : ¬ ((z - (1 : Int32)) < 0 ∨ cl.slots.size ≤ ((z - (1 : Int32))).toNatClampNeg)) (hat : cl.slots[((z - (1 : Int32))).toNatClampNeg]? = some (.int w2)) (hz : ¬ (z = (0 : Int32))) :
    MetFree l (⟨"com/example/tsumugi/tsumugi/Segments", "endsInsideASegment", "([B)Z"⟩ : MethodName) (head1 (Jvm.Cond.code (⟨"com/example/tsumugi/tsumugi/Segments", "endsInsideASegment", "([B)Z"⟩ : MethodName) prog_52_method_9_code 1 (some .boolean) :: ws) ({ frames := 1, cells := 0, slots := 0, locals := 12 } : Room)) (fun a U => a = #[(.ref a1)] ∧ Z.Warmed39 U.vm ∧ U.heap = h0) (fun _ _ _ _ _ => True) (fun _ U o U' => ∃ v L, o = .returned v ∧ Q1 Z a1 cl z w2 h0 n0 v U'.heap L ∧ FrameEnd U o U' L ({ frames := 1, cells := 0, slots := 0, locals := 12 } : Room).cells ({ frames := 1, cells := 0, slots := 0, locals := 12 } : Room).slots) := by
  refine MetFree.of_bodySF (plainFor_of_name pn_2) hisR ?_
  intro p e s m args below meth c s₁ Bd hml0 hP hK
  obtain ⟨rfl, hZ, hh⟩ := hP
  have hx := Bd.exec
  have hby := Bd.bytes
  have hml : c.maxLocals = 1 := hml0
  have hown : s.vm.findClass "com/example/tsumugi/tsumugi/Segments" = some m.cls := findClass_of_methodNamed Bd.named
  have hnm := (name_of_methodNamed Bd.named Bd.method).1
  have X0 : Stand p l e ({ frames := 1, cells := 0, slots := 0, locals := 12 } : Room) s m #[(.ref a1)] below meth c s₁ [] 0 0 := Stand.of_body Bd
  have e0 : s₁.heap = h0 := by rw [← hh, Bd.state]; rfl
  have N0 := Fr.nil n0
  have pre0 : Steps p.tables e below (s₁.setTop (entryFrame m #[(.ref a1)] 1)) (s₁.setTop (mkF m 0 #[.val (.ref a1)] [])) := castTop (ef_1 m a1) (Steps.refl _)
  obtain ⟨_, _, ⟨T1, L1, k1, n1⟩, -, X1, ⟨Lc1, hQ1, l1, y1, z1⟩, st1⟩ := Jvm.LawKit.callS X0 hx (y := (⟨"com/example/tsumugi/tsumugi/Segments", "isSegmentEnd", "(I)Z"⟩ : MethodName)) hown (mvT hZ (hw _ (List.mem_of_getElem? (i := 6) rfl))) (mvT hZ (hw _ (List.mem_of_getElem? (i := 7) rfl))) (mvT hZ (hw _ (List.mem_of_getElem? (i := 4) rfl))) (mvT hZ (hw _ (List.mem_of_getElem? (i := 8) rfl))) (by decide) (backOf (W := 0) (rm2 l Z a0 hw [] w2 h0 n0 Z0) hZ (hw _ (List.mem_of_getElem? (i := 8) rfl)) (hw _ (List.mem_of_getElem? (i := 4) rfl)) (by decide) (by decide)) (g := (mkF m 13 #[.val (.ref a1)] [(.int w2)])) rfl (by rw [hml]; rfl) (argsL := [(.int w2)]) (rest := []) (lenOf pd_0 rfl) rfl (by show 2 * 0 + _ ≤ _; exact Nat.le_of_eq rfl) (hb hby d1_13) (fun _ _ => ⟨rfl, e0, (by decide : 0 + 0 ≤ _), (by decide : 0 + 0 ≤ _)⟩)
  dsimp only [Pt.U, Pt.locs, Pt.cells, Pt.slots] at X1 l1 y1 z1 st1 hQ1
  subst l1 y1 z1
  obtain ⟨rfl, M1, e1⟩ := hQ1
  have N1 := Fr.app N0 M1
  have pre1 : Steps p.tables e below (s₁.setTop (entryFrame m #[(.ref a1)] 1)) (T1.setTop (mkF m 16 #[.val (.ref a1)] [(.int (own_end w2))])) := by
    refine pre0.trans ?_
    refine XS.aloadN X0.here hx rfl (hb hby d1_0) rfl rfl ?_
    show Steps p.tables e below (s₁.setTop (mkF m 1 #[.val (.ref a1)] [(.ref a1)])) _
    refine X0.arraylength hx (by rw [e0]; exact Ar.1) (State.isArrayOf_alike hZ.alike Ar.2.1) (g := (mkF m 1 #[.val (.ref a1)] [(.ref a1)])) rfl rfl (hb hby d1_1) _ ?_
    rw [len_of Sz Nz]
    show Steps p.tables e below (s₁.setTop (mkF m 2 #[.val (.ref a1)] [(.int z)])) _
    refine XS.ifYes X0.here hx rfl (pc0 := 2) (pc' := 7) rfl (hb hby d1_2) rfl ((if0 _ _).trans (feq hz).2) (by decide) (by decide) ?_
    show Steps p.tables e below (s₁.setTop (mkF m 7 #[.val (.ref a1)] [])) _
    refine XS.aloadN X0.here hx rfl (hb hby d1_7) rfl rfl ?_
    show Steps p.tables e below (s₁.setTop (mkF m 8 #[.val (.ref a1)] [(.ref a1)])) _
    refine XS.aloadN X0.here hx rfl (hb hby d1_8) rfl rfl ?_
    show Steps p.tables e below (s₁.setTop (mkF m 9 #[.val (.ref a1)] [(.ref a1), (.ref a1)])) _
    refine X0.arraylength hx (by rw [e0]; exact Ar.1) (State.isArrayOf_alike hZ.alike Ar.2.1) (g := (mkF m 9 #[.val (.ref a1)] [(.ref a1), (.ref a1)])) rfl rfl (hb hby d1_9) _ ?_
    rw [len_of Sz Nz]
    show Steps p.tables e below (s₁.setTop (mkF m 10 #[.val (.ref a1)] [(.int z), (.ref a1)])) _
    refine XS.iconst X0.here hx rfl (hb hby d1_10) ?_
    show Steps p.tables e below (s₁.setTop (mkF m 11 #[.val (.ref a1)] [(.int (1 : Int32)), (.int z), (.ref a1)])) _
    refine XS.isub X0.here hx rfl (hb hby d1_11) rfl ?_
    show Steps p.tables e below (s₁.setTop (mkF m 12 #[.val (.ref a1)] [(.int (z - (1 : Int32))), (.ref a1)])) _
    refine X0.baloadBytes hx (j := (z - (1 : Int32))) (v := (.int w2)) (by rw [e0]; exact Ar.1) (State.isArrayOf_alike hZ.alike Ar.2.1) Ar.2.2 hin hat (g := (mkF m 12 #[.val (.ref a1)] [(.int (z - (1 : Int32))), (.ref a1)])) rfl rfl (hb hby d1_12) _ ?_
    show Steps p.tables e below (s₁.setTop (mkF m 13 #[.val (.ref a1)] [(.int w2)])) _
    exact st1 _ (Steps.refl _)
  by_cases hc16 : (own_end w2) = (0 : Int32)
  · skip
    obtain ⟨fs, hr, hrun, hended, hW, hsame⟩ := X1.leave (v := some (.int (1 : Int32))) (fun h => by rw [Bd.returns] at h; cases h)
    refine ⟨_, _, pre1.trans ?_, hrun, hended, _, _, rfl, ?_, ⟨_, rfl⟩, hW, hsame.mono (by decide) (by decide)⟩
    · skip
      refine XS.ifNo X1.here hx rfl (hb hby d1_16) rfl ((if0 _ _).trans (teq hc16).2) ?_
      show Steps p.tables e below (T1.setTop (mkF m 19 #[.val (.ref a1)] [])) _
      refine XS.iconst X1.here hx rfl (hb hby d1_19) ?_
      show Steps p.tables e below (T1.setTop (mkF m 20 #[.val (.ref a1)] [(.int (1 : Int32))])) _
      refine XS.goto X1.here hx rfl (pc0 := 20) (pc' := 24) rfl (hb hby d1_20) (by decide) (by decide) ?_
      show Steps p.tables e below (T1.setTop (mkF m 24 #[.val (.ref a1)] [(.int (1 : Int32))])) _
      exact retN X1 hx (t := .boolean) Bd.returns (by simp) (hb hby d1_24) hr
    · show Q1 Z a1 cl z w2 h0 n0 _ T1.heap _
      rw [e1]
      exact ⟨by simp [own_in, hc16], N1, rfl⟩
  · skip
    obtain ⟨fs, hr, hrun, hended, hW, hsame⟩ := X1.leave (v := some (.int (0 : Int32))) (fun h => by rw [Bd.returns] at h; cases h)
    refine ⟨_, _, pre1.trans ?_, hrun, hended, _, _, rfl, ?_, ⟨_, rfl⟩, hW, hsame.mono (by decide) (by decide)⟩
    · skip
      refine XS.ifYes X1.here hx rfl (pc0 := 16) (pc' := 23) rfl (hb hby d1_16) rfl ((if0 _ _).trans (feq hc16).2) (by decide) (by decide) ?_
      show Steps p.tables e below (T1.setTop (mkF m 23 #[.val (.ref a1)] [])) _
      refine XS.iconst X1.here hx rfl (hb hby d1_23) ?_
      show Steps p.tables e below (T1.setTop (mkF m 24 #[.val (.ref a1)] [(.int (0 : Int32))])) _
      exact retN X1 hx (t := .boolean) Bd.returns (by simp) (hb hby d1_24) hr
    · show Q1 Z a1 cl z w2 h0 n0 _ T1.heap _
      rw [e1]
      exact ⟨by simp [own_in, hc16], N1, rfl⟩
def Q1e (Z : State) (a1 : Addr) (cl : Cell) (z : Int32) (h0 : Heap) (n0 : Nat) (v : Option Value) (h : Heap) (L : List Loc) : Prop := v = some (.int (0 : Int32)) ∧ Fr n0 L ∧ h = h0
set_option maxRecDepth 65536 in
set_option maxHeartbeats 40000000 in
theorem rm1e (l : Launch) (Z : State) (a0 : Array Value) (hw : ∀ d ∈ tables_1, d.before a0 Z = true) (ws : List Jvm.Cond) (a1 : Addr) (cl : Cell) (z : Int32) (h0 : Heap) (n0 : Nat) (Z0 : n0 ≤ h0.size) (Ar : Arr Z h0 a1 cl .byte) (Sz : cl.slots.size = z.toNatClampNeg) (Nz : ¬ z < 0) (hz : z = (0 : Int32)) :
    MetFree l (⟨"com/example/tsumugi/tsumugi/Segments", "endsInsideASegment", "([B)Z"⟩ : MethodName) (head1 (Jvm.Cond.code (⟨"com/example/tsumugi/tsumugi/Segments", "endsInsideASegment", "([B)Z"⟩ : MethodName) prog_52_method_9_code 1 (some .boolean) :: ws) ({ frames := 1, cells := 0, slots := 0, locals := 12 } : Room)) (fun a U => a = #[(.ref a1)] ∧ Z.Warmed39 U.vm ∧ U.heap = h0) (fun _ _ _ _ _ => True) (fun _ U o U' => ∃ v L, o = .returned v ∧ Q1e Z a1 cl z h0 n0 v U'.heap L ∧ FrameEnd U o U' L ({ frames := 1, cells := 0, slots := 0, locals := 12 } : Room).cells ({ frames := 1, cells := 0, slots := 0, locals := 12 } : Room).slots) := by
  refine MetFree.of_bodySF (plainFor_of_name pn_2) hisR ?_
  intro p e s m args below meth c s₁ Bd hml0 hP hK
  obtain ⟨rfl, hZ, hh⟩ := hP
  have hx := Bd.exec
  have hby := Bd.bytes
  have hml : c.maxLocals = 1 := hml0
  have hown : s.vm.findClass "com/example/tsumugi/tsumugi/Segments" = some m.cls := findClass_of_methodNamed Bd.named
  have hnm := (name_of_methodNamed Bd.named Bd.method).1
  have X0 : Stand p l e ({ frames := 1, cells := 0, slots := 0, locals := 12 } : Room) s m #[(.ref a1)] below meth c s₁ [] 0 0 := Stand.of_body Bd
  have e0 : s₁.heap = h0 := by rw [← hh, Bd.state]; rfl
  have N0 := Fr.nil n0
  have pre0 : Steps p.tables e below (s₁.setTop (entryFrame m #[(.ref a1)] 1)) (s₁.setTop (mkF m 0 #[.val (.ref a1)] [])) := castTop (ef_1 m a1) (Steps.refl _)
  obtain ⟨fs, hr, hrun, hended, hW, hsame⟩ := X0.leave (v := some (.int (0 : Int32))) (fun h => by rw [Bd.returns] at h; cases h)
  refine ⟨_, _, pre0.trans ?_, hrun, hended, _, _, rfl, ?_, ⟨_, rfl⟩, hW, hsame.mono (by decide) (by decide)⟩
  · skip
    refine XS.aloadN X0.here hx rfl (hb hby d1_0) rfl rfl ?_
    show Steps p.tables e below (s₁.setTop (mkF m 1 #[.val (.ref a1)] [(.ref a1)])) _
    refine X0.arraylength hx (by rw [e0]; exact Ar.1) (State.isArrayOf_alike hZ.alike Ar.2.1) (g := (mkF m 1 #[.val (.ref a1)] [(.ref a1)])) rfl rfl (hb hby d1_1) _ ?_
    rw [len_of Sz Nz]
    show Steps p.tables e below (s₁.setTop (mkF m 2 #[.val (.ref a1)] [(.int z)])) _
    refine XS.ifNo X0.here hx rfl (hb hby d1_2) rfl ((if0 _ _).trans (teq hz).2) ?_
    show Steps p.tables e below (s₁.setTop (mkF m 5 #[.val (.ref a1)] [])) _
    refine XS.iconst X0.here hx rfl (hb hby d1_5) ?_
    show Steps p.tables e below (s₁.setTop (mkF m 6 #[.val (.ref a1)] [(.int (0 : Int32))])) _
    exact retN X0 hx (t := .boolean) Bd.returns (by simp) (hb hby d1_6) hr
  · show Q1e Z a1 cl z h0 n0 _ s₁.heap _
    rw [e0]
    exact ⟨rfl, N0, rfl⟩
theorem pn_0 : plainName "com/example/tsumugi/tsumugi/SegmentsEndsInsideASegmentPinLaw" = true := by first | (simp [plainName, overriddenIn]; done) | decide +kernel
theorem ef_0 (m : MethodId) (p1 : Int32) (p2 : Int32) (p3 : Int32) (p4 : Int32) (p5 : Int32) : entryFrame m #[(.int p1), (.int p2), (.int p3), (.int p4), (.int p5)] maxLocals = (mkF m 0 #[.val (.int p1), .val (.int p2), .val (.int p3), .val (.int p4), .val (.int p5), .unset, .unset, .unset, .unset, .unset] []) := by first | (simp [entryFrame, mkF, argsToLocals, Value.category, maxLocals]; done) | rfl
def Q0 (Z : State) (p1 : Int32) (p2 : Int32) (p3 : Int32) (p4 : Int32) (p5 : Int32)  (h0 : Heap) (n0 : Nat) (v : Option Value) (h : Heap) (L : List Loc) : Prop := v = some (.int (1 : Int32)) ∧ Fr n0 L
set_option maxRecDepth 65536 in
set_option maxHeartbeats 40000000 in
theorem rm0 (l : Launch) (Z : State) (a0 : Array Value) (hw : ∀ d ∈ tables_1, d.before a0 Z = true) (ws : List Jvm.Cond) (p1 : Int32) (p2 : Int32) (p3 : Int32) (p4 : Int32) (p5 : Int32)  (h0 : Heap) (n0 : Nat) (Z0 : n0 ≤ h0.size)  :
    MetFree l x (head1 (Jvm.Cond.code x code maxLocals ret :: ws) room_1) (fun a U => a = #[(.int p1), (.int p2), (.int p3), (.int p4), (.int p5)] ∧ Z.Warmed39 U.vm ∧ U.heap = h0) (fun _ _ _ _ _ => True) (fun _ U o U' => ∃ v L, o = .returned v ∧ Q0 Z p1 p2 p3 p4 p5  h0 n0 v U'.heap L ∧ FrameEnd U o U' L room_1.cells room_1.slots) := by
  refine MetFree.of_bodySF (plainFor_of_name pn_0) hisR ?_
  intro p e s m args below meth c s₁ Bd hml0 hP hK
  obtain ⟨rfl, hZ, hh⟩ := hP
  have hx := Bd.exec
  have hby := Bd.bytes
  have hml : c.maxLocals = 10 := hml0
  have hown : s.vm.findClass "com/example/tsumugi/tsumugi/SegmentsEndsInsideASegmentPinLaw" = some m.cls := findClass_of_methodNamed Bd.named
  have hnm := (name_of_methodNamed Bd.named Bd.method).1
  have X0 : Stand p l e room_1 s m #[(.int p1), (.int p2), (.int p3), (.int p4), (.int p5)] below meth c s₁ [] 0 0 := Stand.of_body Bd
  have e0 : s₁.heap = h0 := by rw [← hh, Bd.state]; rfl
  have N0 := Fr.nil n0
  have pre0 : Steps p.tables e below (s₁.setTop (entryFrame m #[(.int p1), (.int p2), (.int p3), (.int p4), (.int p5)] maxLocals)) (s₁.setTop (mkF m 0 #[.val (.int p1), .val (.int p2), .val (.int p3), .val (.int p4), .val (.int p5), .unset, .unset, .unset, .unset, .unset] [])) := castTop (ef_0 m p1 p2 p3 p4 p5) (Steps.refl _)
  have pre1 : Steps p.tables e below (s₁.setTop (entryFrame m #[(.int p1), (.int p2), (.int p3), (.int p4), (.int p5)] maxLocals)) (s₁.setTop (mkF m 8 #[.val (.int p1), .val (.int p2), .val (.int p3), .val (.int p4), .val (.int p5), .val (.int ((p1 &&& (2147483647 : Int32)) - ((p1 &&& (2147483647 : Int32)) / (5 : Int32)) * (5 : Int32))), .unset, .unset, .unset, .unset] [])) := by
    refine pre0.trans ?_
    refine XS.iloadN X0.here hx rfl (hb hby at_0) rfl ?_
    show Steps p.tables e below (s₁.setTop (mkF m 1 #[.val (.int p1), .val (.int p2), .val (.int p3), .val (.int p4), .val (.int p5), .unset, .unset, .unset, .unset, .unset] [(.int p1)])) _
    refine X0.ldcInt hx hown (mvT hZ (hw _ (List.mem_of_getElem? (i := 0) rfl))) (g := (mkF m 1 #[.val (.int p1), .val (.int p2), .val (.int p3), .val (.int p4), .val (.int p5), .unset, .unset, .unset, .unset, .unset] [(.int p1)])) rfl (hb hby at_1) _ ?_
    show Steps p.tables e below (s₁.setTop (mkF m 3 #[.val (.int p1), .val (.int p2), .val (.int p3), .val (.int p4), .val (.int p5), .unset, .unset, .unset, .unset, .unset] [(.int (2147483647 : Int32)), (.int p1)])) _
    refine XS.iand X0.here hx rfl (hb hby at_3) rfl ?_
    show Steps p.tables e below (s₁.setTop (mkF m 4 #[.val (.int p1), .val (.int p2), .val (.int p3), .val (.int p4), .val (.int p5), .unset, .unset, .unset, .unset, .unset] [(.int (p1 &&& (2147483647 : Int32)))])) _
    refine XS.iconst X0.here hx rfl (hb hby at_4) ?_
    show Steps p.tables e below (s₁.setTop (mkF m 5 #[.val (.int p1), .val (.int p2), .val (.int p3), .val (.int p4), .val (.int p5), .unset, .unset, .unset, .unset, .unset] [(.int (5 : Int32)), (.int (p1 &&& (2147483647 : Int32)))])) _
    refine XS.irem X0.here hx rfl (hb hby at_5) rfl (by decide) ?_
    show Steps p.tables e below (s₁.setTop (mkF m 6 #[.val (.int p1), .val (.int p2), .val (.int p3), .val (.int p4), .val (.int p5), .unset, .unset, .unset, .unset, .unset] [(.int ((p1 &&& (2147483647 : Int32)) - ((p1 &&& (2147483647 : Int32)) / (5 : Int32)) * (5 : Int32)))])) _
    refine XS.istore X0.here hx rfl (hb hby at_6) rfl (l' := #[.val (.int p1), .val (.int p2), .val (.int p3), .val (.int p4), .val (.int p5), .val (.int ((p1 &&& (2147483647 : Int32)) - ((p1 &&& (2147483647 : Int32)) / (5 : Int32)) * (5 : Int32))), .unset, .unset, .unset, .unset]) rfl ?_
    show Steps p.tables e below (s₁.setTop (mkF m 8 #[.val (.int p1), .val (.int p2), .val (.int p3), .val (.int p4), .val (.int p5), .val (.int ((p1 &&& (2147483647 : Int32)) - ((p1 &&& (2147483647 : Int32)) / (5 : Int32)) * (5 : Int32))), .unset, .unset, .unset, .unset] [])) _
    exact Steps.refl _
  rcases own_rem p1 with hn | hn | hn | hn | hn
  · skip
    rw [hn] at pre1
    obtain ⟨T2, h2, k2, X2, e2, E2, A2, st2⟩ := newP X0 hx hZ (hw _ (List.mem_of_getElem? (i := 1) rfl)) e0 (g := (mkF m 10 #[.val (.int p1), .val (.int p2), .val (.int p3), .val (.int p4), .val (.int p5), .val (.int (0 : Int32)), .unset, .unset, .unset, .unset] [(.int (0 : Int32))])) rfl (hb hby at_10) rfl (by decide) (cap := 0) (by decide) (by decide) (by decide) (by decide)
    obtain ⟨b2, g2⟩ : ∃ z, z = h0.size := ⟨_, rfl⟩
    rw [← g2] at A2 st2
    have pre2 : Steps p.tables e below (s₁.setTop (entryFrame m #[(.int p1), (.int p2), (.int p3), (.int p4), (.int p5)] maxLocals)) (T2.setTop (mkF m 12 #[.val (.int p1), .val (.int p2), .val (.int p3), .val (.int p4), .val (.int p5), .val (.int (0 : Int32)), .unset, .unset, .unset, .unset] [(.ref b2)])) := by
      refine pre1.trans ?_
      refine XS.iload X0.here hx rfl (hb hby at_8) rfl ?_
      show Steps p.tables e below (s₁.setTop (mkF m 10 #[.val (.int p1), .val (.int p2), .val (.int p3), .val (.int p4), .val (.int p5), .val (.int (0 : Int32)), .unset, .unset, .unset, .unset] [(.int (0 : Int32))])) _
      exact st2 _ (Steps.refl _)
    have gb : n0 ≤ b2 := Nat.le_trans Z0 (Nat.le_of_eq g2.symm)
    have ZA : n0 ≤ h2.size := Nat.le_trans Z0 E2.1
    have Ar2 : Arr Z h2 b2 (newA k2 .byte (0 : Int32)) .byte := A2
    obtain ⟨_, _, ⟨T3, L3, k3, n3⟩, -, X3, ⟨Lc3, hQ3, l3, y3, z3⟩, st3⟩ := Jvm.LawKit.callS X2 hx (y := (⟨"com/example/tsumugi/tsumugi/Segments", "endsInsideASegment", "([B)Z"⟩ : MethodName)) hown (mvT hZ (hw _ (List.mem_of_getElem? (i := 2) rfl))) (mvT hZ (hw _ (List.mem_of_getElem? (i := 3) rfl))) (mvT hZ (hw _ (List.mem_of_getElem? (i := 4) rfl))) (mvT hZ (hw _ (List.mem_of_getElem? (i := 5) rfl))) (by decide) (backOf (W := 0) (rm1e l Z a0 hw [] b2 (newA k2 .byte (0 : Int32)) (0 : Int32) h2 n0 ZA Ar2 (by simp only [sz_set, sz_new] <;> decide) (by decide) rfl) hZ (hw _ (List.mem_of_getElem? (i := 5) rfl)) (hw _ (List.mem_of_getElem? (i := 4) rfl)) (by decide) (by decide)) (g := (mkF m 138 #[.val (.int p1), .val (.int p2), .val (.int p3), .val (.int p4), .val (.int p5), .val (.int (0 : Int32)), .val (.ref b2), .val (.int p2), .val (.int (p2 &&& (255 : Int32))), .val (.int (0 : Int32))] [(.ref b2)])) rfl (by rw [hml]; rfl) (argsL := [(.ref b2)]) (rest := []) (lenOf pd_1 rfl) rfl (by show 2 * 0 + _ ≤ _; exact Nat.le_of_eq rfl) (hb hby at_138) (fun _ _ => ⟨rfl, e2, (by decide : 1 + 0 ≤ _), (by decide : 0 + 0 ≤ _)⟩)
    dsimp only [Pt.U, Pt.locs, Pt.cells, Pt.slots] at X3 l3 y3 z3 st3 hQ3
    subst l3 y3 z3
    obtain ⟨rfl, M3, e3⟩ := hQ3
    have N3 := Fr.app N0 M3
    have pre3 : Steps p.tables e below (s₁.setTop (entryFrame m #[(.int p1), (.int p2), (.int p3), (.int p4), (.int p5)] maxLocals)) (T3.setTop (mkF m 141 #[.val (.int p1), .val (.int p2), .val (.int p3), .val (.int p4), .val (.int p5), .val (.int (0 : Int32)), .val (.ref b2), .val (.int p2), .val (.int (p2 &&& (255 : Int32))), .val (.int (0 : Int32))] [(.int (0 : Int32))])) := by
      refine pre2.trans ?_
      refine XS.astore X2.here hx rfl (hb hby at_12) rfl rfl (l' := #[.val (.int p1), .val (.int p2), .val (.int p3), .val (.int p4), .val (.int p5), .val (.int (0 : Int32)), .val (.ref b2), .unset, .unset, .unset]) rfl ?_
      show Steps p.tables e below (T2.setTop (mkF m 14 #[.val (.int p1), .val (.int p2), .val (.int p3), .val (.int p4), .val (.int p5), .val (.int (0 : Int32)), .val (.ref b2), .unset, .unset, .unset] [])) _
      refine XS.iload X2.here hx rfl (hb hby at_14) rfl ?_
      show Steps p.tables e below (T2.setTop (mkF m 16 #[.val (.int p1), .val (.int p2), .val (.int p3), .val (.int p4), .val (.int p5), .val (.int (0 : Int32)), .val (.ref b2), .unset, .unset, .unset] [(.int (0 : Int32))])) _
      refine XS.ifYes X2.here hx rfl (pc0 := 16) (pc' := 25) rfl (hb hby at_16) rfl (by decide) (by decide) (by decide) ?_
      show Steps p.tables e below (T2.setTop (mkF m 25 #[.val (.int p1), .val (.int p2), .val (.int p3), .val (.int p4), .val (.int p5), .val (.int (0 : Int32)), .val (.ref b2), .unset, .unset, .unset] [])) _
      refine XS.iload X2.here hx rfl (hb hby at_25) rfl ?_
      show Steps p.tables e below (T2.setTop (mkF m 27 #[.val (.int p1), .val (.int p2), .val (.int p3), .val (.int p4), .val (.int p5), .val (.int (0 : Int32)), .val (.ref b2), .unset, .unset, .unset] [(.int (0 : Int32))])) _
      refine XS.iconst X2.here hx rfl (hb hby at_27) ?_
      show Steps p.tables e below (T2.setTop (mkF m 28 #[.val (.int p1), .val (.int p2), .val (.int p3), .val (.int p4), .val (.int p5), .val (.int (0 : Int32)), .val (.ref b2), .unset, .unset, .unset] [(.int (1 : Int32)), (.int (0 : Int32))])) _
      refine XS.icmpYes X2.here hx rfl (pc0 := 28) (pc' := 37) rfl (hb hby at_28) rfl (by decide) (by decide) (by decide) ?_
      show Steps p.tables e below (T2.setTop (mkF m 37 #[.val (.int p1), .val (.int p2), .val (.int p3), .val (.int p4), .val (.int p5), .val (.int (0 : Int32)), .val (.ref b2), .unset, .unset, .unset] [])) _
      refine XS.iload X2.here hx rfl (hb hby at_37) rfl ?_
      show Steps p.tables e below (T2.setTop (mkF m 39 #[.val (.int p1), .val (.int p2), .val (.int p3), .val (.int p4), .val (.int p5), .val (.int (0 : Int32)), .val (.ref b2), .unset, .unset, .unset] [(.int (0 : Int32))])) _
      refine XS.iconst X2.here hx rfl (hb hby at_39) ?_
      show Steps p.tables e below (T2.setTop (mkF m 40 #[.val (.int p1), .val (.int p2), .val (.int p3), .val (.int p4), .val (.int p5), .val (.int (0 : Int32)), .val (.ref b2), .unset, .unset, .unset] [(.int (2 : Int32)), (.int (0 : Int32))])) _
      refine XS.icmpYes X2.here hx rfl (pc0 := 40) (pc' := 49) rfl (hb hby at_40) rfl (by decide) (by decide) (by decide) ?_
      show Steps p.tables e below (T2.setTop (mkF m 49 #[.val (.int p1), .val (.int p2), .val (.int p3), .val (.int p4), .val (.int p5), .val (.int (0 : Int32)), .val (.ref b2), .unset, .unset, .unset] [])) _
      refine XS.iload X2.here hx rfl (hb hby at_49) rfl ?_
      show Steps p.tables e below (T2.setTop (mkF m 51 #[.val (.int p1), .val (.int p2), .val (.int p3), .val (.int p4), .val (.int p5), .val (.int (0 : Int32)), .val (.ref b2), .unset, .unset, .unset] [(.int (0 : Int32))])) _
      refine XS.iconst X2.here hx rfl (hb hby at_51) ?_
      show Steps p.tables e below (T2.setTop (mkF m 52 #[.val (.int p1), .val (.int p2), .val (.int p3), .val (.int p4), .val (.int p5), .val (.int (0 : Int32)), .val (.ref b2), .unset, .unset, .unset] [(.int (3 : Int32)), (.int (0 : Int32))])) _
      refine XS.icmpYes X2.here hx rfl (pc0 := 52) (pc' := 62) rfl (hb hby at_52) rfl (by decide) (by decide) (by decide) ?_
      show Steps p.tables e below (T2.setTop (mkF m 62 #[.val (.int p1), .val (.int p2), .val (.int p3), .val (.int p4), .val (.int p5), .val (.int (0 : Int32)), .val (.ref b2), .unset, .unset, .unset] [])) _
      refine XS.iload X2.here hx rfl (hb hby at_62) rfl ?_
      show Steps p.tables e below (T2.setTop (mkF m 64 #[.val (.int p1), .val (.int p2), .val (.int p3), .val (.int p4), .val (.int p5), .val (.int (0 : Int32)), .val (.ref b2), .unset, .unset, .unset] [(.int (0 : Int32))])) _
      refine XS.iconst X2.here hx rfl (hb hby at_64) ?_
      show Steps p.tables e below (T2.setTop (mkF m 65 #[.val (.int p1), .val (.int p2), .val (.int p3), .val (.int p4), .val (.int p5), .val (.int (0 : Int32)), .val (.ref b2), .unset, .unset, .unset] [(.int (4 : Int32)), (.int (0 : Int32))])) _
      refine XS.icmpYes X2.here hx rfl (pc0 := 65) (pc' := 75) rfl (hb hby at_65) rfl (by decide) (by decide) (by decide) ?_
      show Steps p.tables e below (T2.setTop (mkF m 75 #[.val (.int p1), .val (.int p2), .val (.int p3), .val (.int p4), .val (.int p5), .val (.int (0 : Int32)), .val (.ref b2), .unset, .unset, .unset] [])) _
      refine XS.iload X2.here hx rfl (hb hby at_75) rfl ?_
      show Steps p.tables e below (T2.setTop (mkF m 77 #[.val (.int p1), .val (.int p2), .val (.int p3), .val (.int p4), .val (.int p5), .val (.int (0 : Int32)), .val (.ref b2), .unset, .unset, .unset] [(.int (0 : Int32))])) _
      refine XS.iconst X2.here hx rfl (hb hby at_77) ?_
      show Steps p.tables e below (T2.setTop (mkF m 78 #[.val (.int p1), .val (.int p2), .val (.int p3), .val (.int p4), .val (.int p5), .val (.int (0 : Int32)), .val (.ref b2), .unset, .unset, .unset] [(.int (3 : Int32)), (.int (0 : Int32))])) _
      refine XS.icmpYes X2.here hx rfl (pc0 := 78) (pc' := 87) rfl (hb hby at_78) rfl (by decide) (by decide) (by decide) ?_
      show Steps p.tables e below (T2.setTop (mkF m 87 #[.val (.int p1), .val (.int p2), .val (.int p3), .val (.int p4), .val (.int p5), .val (.int (0 : Int32)), .val (.ref b2), .unset, .unset, .unset] [])) _
      refine XS.iload X2.here hx rfl (hb hby at_87) rfl ?_
      show Steps p.tables e below (T2.setTop (mkF m 89 #[.val (.int p1), .val (.int p2), .val (.int p3), .val (.int p4), .val (.int p5), .val (.int (0 : Int32)), .val (.ref b2), .unset, .unset, .unset] [(.int (0 : Int32))])) _
      refine XS.iconst X2.here hx rfl (hb hby at_89) ?_
      show Steps p.tables e below (T2.setTop (mkF m 90 #[.val (.int p1), .val (.int p2), .val (.int p3), .val (.int p4), .val (.int p5), .val (.int (0 : Int32)), .val (.ref b2), .unset, .unset, .unset] [(.int (2 : Int32)), (.int (0 : Int32))])) _
      refine XS.icmpYes X2.here hx rfl (pc0 := 90) (pc' := 99) rfl (hb hby at_90) rfl (by decide) (by decide) (by decide) ?_
      show Steps p.tables e below (T2.setTop (mkF m 99 #[.val (.int p1), .val (.int p2), .val (.int p3), .val (.int p4), .val (.int p5), .val (.int (0 : Int32)), .val (.ref b2), .unset, .unset, .unset] [])) _
      refine XS.iloadN X2.here hx rfl (hb hby at_99) rfl ?_
      show Steps p.tables e below (T2.setTop (mkF m 100 #[.val (.int p1), .val (.int p2), .val (.int p3), .val (.int p4), .val (.int p5), .val (.int (0 : Int32)), .val (.ref b2), .unset, .unset, .unset] [(.int p2)])) _
      refine XS.istore X2.here hx rfl (hb hby at_100) rfl (l' := #[.val (.int p1), .val (.int p2), .val (.int p3), .val (.int p4), .val (.int p5), .val (.int (0 : Int32)), .val (.ref b2), .val (.int p2), .unset, .unset]) rfl ?_
      show Steps p.tables e below (T2.setTop (mkF m 102 #[.val (.int p1), .val (.int p2), .val (.int p3), .val (.int p4), .val (.int p5), .val (.int (0 : Int32)), .val (.ref b2), .val (.int p2), .unset, .unset] [])) _
      refine XS.iload X2.here hx rfl (hb hby at_102) rfl ?_
      show Steps p.tables e below (T2.setTop (mkF m 104 #[.val (.int p1), .val (.int p2), .val (.int p3), .val (.int p4), .val (.int p5), .val (.int (0 : Int32)), .val (.ref b2), .val (.int p2), .unset, .unset] [(.int p2)])) _
      refine XS.sipush X2.here hx rfl (hb hby at_104) ?_
      show Steps p.tables e below (T2.setTop (mkF m 107 #[.val (.int p1), .val (.int p2), .val (.int p3), .val (.int p4), .val (.int p5), .val (.int (0 : Int32)), .val (.ref b2), .val (.int p2), .unset, .unset] [(.int (255 : Int32)), (.int p2)])) _
      refine XS.iand X2.here hx rfl (hb hby at_107) rfl ?_
      show Steps p.tables e below (T2.setTop (mkF m 108 #[.val (.int p1), .val (.int p2), .val (.int p3), .val (.int p4), .val (.int p5), .val (.int (0 : Int32)), .val (.ref b2), .val (.int p2), .unset, .unset] [(.int (p2 &&& (255 : Int32)))])) _
      refine XS.istore X2.here hx rfl (hb hby at_108) rfl (l' := #[.val (.int p1), .val (.int p2), .val (.int p3), .val (.int p4), .val (.int p5), .val (.int (0 : Int32)), .val (.ref b2), .val (.int p2), .val (.int (p2 &&& (255 : Int32))), .unset]) rfl ?_
      show Steps p.tables e below (T2.setTop (mkF m 110 #[.val (.int p1), .val (.int p2), .val (.int p3), .val (.int p4), .val (.int p5), .val (.int (0 : Int32)), .val (.ref b2), .val (.int p2), .val (.int (p2 &&& (255 : Int32))), .unset] [])) _
      refine XS.iload X2.here hx rfl (hb hby at_110) rfl ?_
      show Steps p.tables e below (T2.setTop (mkF m 112 #[.val (.int p1), .val (.int p2), .val (.int p3), .val (.int p4), .val (.int p5), .val (.int (0 : Int32)), .val (.ref b2), .val (.int p2), .val (.int (p2 &&& (255 : Int32))), .unset] [(.int (0 : Int32))])) _
      refine XS.ifYes X2.here hx rfl (pc0 := 112) (pc' := 133) rfl (hb hby at_112) rfl (by decide) (by decide) (by decide) ?_
      show Steps p.tables e below (T2.setTop (mkF m 133 #[.val (.int p1), .val (.int p2), .val (.int p3), .val (.int p4), .val (.int p5), .val (.int (0 : Int32)), .val (.ref b2), .val (.int p2), .val (.int (p2 &&& (255 : Int32))), .unset] [])) _
      refine XS.iconst X2.here hx rfl (hb hby at_133) ?_
      show Steps p.tables e below (T2.setTop (mkF m 134 #[.val (.int p1), .val (.int p2), .val (.int p3), .val (.int p4), .val (.int p5), .val (.int (0 : Int32)), .val (.ref b2), .val (.int p2), .val (.int (p2 &&& (255 : Int32))), .unset] [(.int (0 : Int32))])) _
      refine XS.istore X2.here hx rfl (hb hby at_134) rfl (l' := #[.val (.int p1), .val (.int p2), .val (.int p3), .val (.int p4), .val (.int p5), .val (.int (0 : Int32)), .val (.ref b2), .val (.int p2), .val (.int (p2 &&& (255 : Int32))), .val (.int (0 : Int32))]) rfl ?_
      show Steps p.tables e below (T2.setTop (mkF m 136 #[.val (.int p1), .val (.int p2), .val (.int p3), .val (.int p4), .val (.int p5), .val (.int (0 : Int32)), .val (.ref b2), .val (.int p2), .val (.int (p2 &&& (255 : Int32))), .val (.int (0 : Int32))] [])) _
      refine XS.aload X2.here hx rfl (hb hby at_136) rfl rfl ?_
      show Steps p.tables e below (T2.setTop (mkF m 138 #[.val (.int p1), .val (.int p2), .val (.int p3), .val (.int p4), .val (.int p5), .val (.int (0 : Int32)), .val (.ref b2), .val (.int p2), .val (.int (p2 &&& (255 : Int32))), .val (.int (0 : Int32))] [(.ref b2)])) _
      exact st3 _ (Steps.refl _)
    obtain ⟨fs, hr, hrun, hended, hW, hsame⟩ := X3.leave (v := some (.int (1 : Int32))) (fun h => by rw [Bd.returns] at h; cases h)
    refine ⟨_, _, pre3.trans ?_, hrun, hended, _, _, rfl, ?_, ⟨_, rfl⟩, hW, hsame.mono (by decide) (by decide)⟩
    · skip
      refine XS.iload X3.here hx rfl (hb hby at_141) rfl ?_
      show Steps p.tables e below (T3.setTop (mkF m 143 #[.val (.int p1), .val (.int p2), .val (.int p3), .val (.int p4), .val (.int p5), .val (.int (0 : Int32)), .val (.ref b2), .val (.int p2), .val (.int (p2 &&& (255 : Int32))), .val (.int (0 : Int32))] [(.int (0 : Int32)), (.int (0 : Int32))])) _
      refine XS.icmpNo X3.here hx rfl (hb hby at_143) rfl (by decide) ?_
      show Steps p.tables e below (T3.setTop (mkF m 146 #[.val (.int p1), .val (.int p2), .val (.int p3), .val (.int p4), .val (.int p5), .val (.int (0 : Int32)), .val (.ref b2), .val (.int p2), .val (.int (p2 &&& (255 : Int32))), .val (.int (0 : Int32))] [])) _
      refine XS.iconst X3.here hx rfl (hb hby at_146) ?_
      show Steps p.tables e below (T3.setTop (mkF m 147 #[.val (.int p1), .val (.int p2), .val (.int p3), .val (.int p4), .val (.int p5), .val (.int (0 : Int32)), .val (.ref b2), .val (.int p2), .val (.int (p2 &&& (255 : Int32))), .val (.int (0 : Int32))] [(.int (1 : Int32))])) _
      refine XS.goto X3.here hx rfl (pc0 := 147) (pc' := 151) rfl (hb hby at_147) (by decide) (by decide) ?_
      show Steps p.tables e below (T3.setTop (mkF m 151 #[.val (.int p1), .val (.int p2), .val (.int p3), .val (.int p4), .val (.int p5), .val (.int (0 : Int32)), .val (.ref b2), .val (.int p2), .val (.int (p2 &&& (255 : Int32))), .val (.int (0 : Int32))] [(.int (1 : Int32))])) _
      exact retN X3 hx (t := .boolean) Bd.returns (by simp) (hb hby at_151) hr
    · show Q0 Z p1 p2 p3 p4 p5  h0 n0 _ T3.heap _
      rw [e3]
      exact ⟨rfl, N3⟩
  · skip
    rw [hn] at pre1
    obtain ⟨T4, h4, k4, X4, e4, E4, A4, st4⟩ := newP X0 hx hZ (hw _ (List.mem_of_getElem? (i := 1) rfl)) e0 (g := (mkF m 10 #[.val (.int p1), .val (.int p2), .val (.int p3), .val (.int p4), .val (.int p5), .val (.int (1 : Int32)), .unset, .unset, .unset, .unset] [(.int (1 : Int32))])) rfl (hb hby at_10) rfl (by decide) (cap := 1) (by decide) (by decide) (by decide) (by decide)
    obtain ⟨b4, g4⟩ : ∃ z, z = h0.size := ⟨_, rfl⟩
    rw [← g4] at A4 st4
    have pre4 : Steps p.tables e below (s₁.setTop (entryFrame m #[(.int p1), (.int p2), (.int p3), (.int p4), (.int p5)] maxLocals)) (T4.setTop (mkF m 12 #[.val (.int p1), .val (.int p2), .val (.int p3), .val (.int p4), .val (.int p5), .val (.int (1 : Int32)), .unset, .unset, .unset, .unset] [(.ref b4)])) := by
      refine pre1.trans ?_
      refine XS.iload X0.here hx rfl (hb hby at_8) rfl ?_
      show Steps p.tables e below (s₁.setTop (mkF m 10 #[.val (.int p1), .val (.int p2), .val (.int p3), .val (.int p4), .val (.int p5), .val (.int (1 : Int32)), .unset, .unset, .unset, .unset] [(.int (1 : Int32))])) _
      exact st4 _ (Steps.refl _)
    have gb : n0 ≤ b4 := Nat.le_trans Z0 (Nat.le_of_eq g4.symm)
    have ZA : n0 ≤ h4.size := Nat.le_trans Z0 E4.1
    have Ar4 : Arr Z h4 b4 (newA k4 .byte (1 : Int32)) .byte := A4
    obtain ⟨T5, h5, X5, e5, W5, st5⟩ := stB X4 hx hZ e4 Ar4 (j := (0 : Int32)) (by simp only [sz_set, sz_new] <;> decide) (g := (mkF m 24 #[.val (.int p1), .val (.int p2), .val (.int p3), .val (.int p4), .val (.int p5), .val (.int (1 : Int32)), .val (.ref b4), .unset, .unset, .unset] [(.int (p2.toInt8.toInt32)), (.int (0 : Int32)), (.ref b4)])) rfl rfl (hb hby at_24)
    have N5 := Fr.snoc X5 N0 gb
    have pre5 : Steps p.tables e below (s₁.setTop (entryFrame m #[(.int p1), (.int p2), (.int p3), (.int p4), (.int p5)] maxLocals)) (T5.setTop (mkF m 25 #[.val (.int p1), .val (.int p2), .val (.int p3), .val (.int p4), .val (.int p5), .val (.int (1 : Int32)), .val (.ref b4), .unset, .unset, .unset] [])) := by
      refine pre4.trans ?_
      refine XS.astore X4.here hx rfl (hb hby at_12) rfl rfl (l' := #[.val (.int p1), .val (.int p2), .val (.int p3), .val (.int p4), .val (.int p5), .val (.int (1 : Int32)), .val (.ref b4), .unset, .unset, .unset]) rfl ?_
      show Steps p.tables e below (T4.setTop (mkF m 14 #[.val (.int p1), .val (.int p2), .val (.int p3), .val (.int p4), .val (.int p5), .val (.int (1 : Int32)), .val (.ref b4), .unset, .unset, .unset] [])) _
      refine XS.iload X4.here hx rfl (hb hby at_14) rfl ?_
      show Steps p.tables e below (T4.setTop (mkF m 16 #[.val (.int p1), .val (.int p2), .val (.int p3), .val (.int p4), .val (.int p5), .val (.int (1 : Int32)), .val (.ref b4), .unset, .unset, .unset] [(.int (1 : Int32))])) _
      refine XS.ifNo X4.here hx rfl (hb hby at_16) rfl (by decide) ?_
      show Steps p.tables e below (T4.setTop (mkF m 19 #[.val (.int p1), .val (.int p2), .val (.int p3), .val (.int p4), .val (.int p5), .val (.int (1 : Int32)), .val (.ref b4), .unset, .unset, .unset] [])) _
      refine XS.aload X4.here hx rfl (hb hby at_19) rfl rfl ?_
      show Steps p.tables e below (T4.setTop (mkF m 21 #[.val (.int p1), .val (.int p2), .val (.int p3), .val (.int p4), .val (.int p5), .val (.int (1 : Int32)), .val (.ref b4), .unset, .unset, .unset] [(.ref b4)])) _
      refine XS.iconst X4.here hx rfl (hb hby at_21) ?_
      show Steps p.tables e below (T4.setTop (mkF m 22 #[.val (.int p1), .val (.int p2), .val (.int p3), .val (.int p4), .val (.int p5), .val (.int (1 : Int32)), .val (.ref b4), .unset, .unset, .unset] [(.int (0 : Int32)), (.ref b4)])) _
      refine XS.iloadN X4.here hx rfl (hb hby at_22) rfl ?_
      show Steps p.tables e below (T4.setTop (mkF m 23 #[.val (.int p1), .val (.int p2), .val (.int p3), .val (.int p4), .val (.int p5), .val (.int (1 : Int32)), .val (.ref b4), .unset, .unset, .unset] [(.int p2), (.int (0 : Int32)), (.ref b4)])) _
      refine XS.i2b X4.here hx rfl (hb hby at_23) rfl ?_
      show Steps p.tables e below (T4.setTop (mkF m 24 #[.val (.int p1), .val (.int p2), .val (.int p3), .val (.int p4), .val (.int p5), .val (.int (1 : Int32)), .val (.ref b4), .unset, .unset, .unset] [(.int (p2.toInt8.toInt32)), (.int (0 : Int32)), (.ref b4)])) _
      exact st5 _ (Steps.refl _)
    have Ar5 : Arr Z h5 b4 ((newA k4 .byte (1 : Int32)).setSlot ((0 : Int32) : Int32).toNatClampNeg (.int (nar .byte (p2.toInt8.toInt32)))) .byte := Ar4.same W5
    have ZA5 : n0 ≤ h5.size := by rw [W5.size]; exact ZA
    have pre6 : Steps p.tables e below (s₁.setTop (entryFrame m #[(.int p1), (.int p2), (.int p3), (.int p4), (.int p5)] maxLocals)) (T5.setTop (mkF m 119 #[.val (.int p1), .val (.int p2), .val (.int p3), .val (.int p4), .val (.int p5), .val (.int (1 : Int32)), .val (.ref b4), .val (.int p2), .val (.int (p2 &&& (255 : Int32))), .unset] [(.int (13 : Int32)), (.int (p2 &&& (255 : Int32)))])) := by
      refine pre5.trans ?_
      refine XS.iload X5.here hx rfl (hb hby at_25) rfl ?_
      show Steps p.tables e below (T5.setTop (mkF m 27 #[.val (.int p1), .val (.int p2), .val (.int p3), .val (.int p4), .val (.int p5), .val (.int (1 : Int32)), .val (.ref b4), .unset, .unset, .unset] [(.int (1 : Int32))])) _
      refine XS.iconst X5.here hx rfl (hb hby at_27) ?_
      show Steps p.tables e below (T5.setTop (mkF m 28 #[.val (.int p1), .val (.int p2), .val (.int p3), .val (.int p4), .val (.int p5), .val (.int (1 : Int32)), .val (.ref b4), .unset, .unset, .unset] [(.int (1 : Int32)), (.int (1 : Int32))])) _
      refine XS.icmpYes X5.here hx rfl (pc0 := 28) (pc' := 37) rfl (hb hby at_28) rfl (by decide) (by decide) (by decide) ?_
      show Steps p.tables e below (T5.setTop (mkF m 37 #[.val (.int p1), .val (.int p2), .val (.int p3), .val (.int p4), .val (.int p5), .val (.int (1 : Int32)), .val (.ref b4), .unset, .unset, .unset] [])) _
      refine XS.iload X5.here hx rfl (hb hby at_37) rfl ?_
      show Steps p.tables e below (T5.setTop (mkF m 39 #[.val (.int p1), .val (.int p2), .val (.int p3), .val (.int p4), .val (.int p5), .val (.int (1 : Int32)), .val (.ref b4), .unset, .unset, .unset] [(.int (1 : Int32))])) _
      refine XS.iconst X5.here hx rfl (hb hby at_39) ?_
      show Steps p.tables e below (T5.setTop (mkF m 40 #[.val (.int p1), .val (.int p2), .val (.int p3), .val (.int p4), .val (.int p5), .val (.int (1 : Int32)), .val (.ref b4), .unset, .unset, .unset] [(.int (2 : Int32)), (.int (1 : Int32))])) _
      refine XS.icmpYes X5.here hx rfl (pc0 := 40) (pc' := 49) rfl (hb hby at_40) rfl (by decide) (by decide) (by decide) ?_
      show Steps p.tables e below (T5.setTop (mkF m 49 #[.val (.int p1), .val (.int p2), .val (.int p3), .val (.int p4), .val (.int p5), .val (.int (1 : Int32)), .val (.ref b4), .unset, .unset, .unset] [])) _
      refine XS.iload X5.here hx rfl (hb hby at_49) rfl ?_
      show Steps p.tables e below (T5.setTop (mkF m 51 #[.val (.int p1), .val (.int p2), .val (.int p3), .val (.int p4), .val (.int p5), .val (.int (1 : Int32)), .val (.ref b4), .unset, .unset, .unset] [(.int (1 : Int32))])) _
      refine XS.iconst X5.here hx rfl (hb hby at_51) ?_
      show Steps p.tables e below (T5.setTop (mkF m 52 #[.val (.int p1), .val (.int p2), .val (.int p3), .val (.int p4), .val (.int p5), .val (.int (1 : Int32)), .val (.ref b4), .unset, .unset, .unset] [(.int (3 : Int32)), (.int (1 : Int32))])) _
      refine XS.icmpYes X5.here hx rfl (pc0 := 52) (pc' := 62) rfl (hb hby at_52) rfl (by decide) (by decide) (by decide) ?_
      show Steps p.tables e below (T5.setTop (mkF m 62 #[.val (.int p1), .val (.int p2), .val (.int p3), .val (.int p4), .val (.int p5), .val (.int (1 : Int32)), .val (.ref b4), .unset, .unset, .unset] [])) _
      refine XS.iload X5.here hx rfl (hb hby at_62) rfl ?_
      show Steps p.tables e below (T5.setTop (mkF m 64 #[.val (.int p1), .val (.int p2), .val (.int p3), .val (.int p4), .val (.int p5), .val (.int (1 : Int32)), .val (.ref b4), .unset, .unset, .unset] [(.int (1 : Int32))])) _
      refine XS.iconst X5.here hx rfl (hb hby at_64) ?_
      show Steps p.tables e below (T5.setTop (mkF m 65 #[.val (.int p1), .val (.int p2), .val (.int p3), .val (.int p4), .val (.int p5), .val (.int (1 : Int32)), .val (.ref b4), .unset, .unset, .unset] [(.int (4 : Int32)), (.int (1 : Int32))])) _
      refine XS.icmpYes X5.here hx rfl (pc0 := 65) (pc' := 75) rfl (hb hby at_65) rfl (by decide) (by decide) (by decide) ?_
      show Steps p.tables e below (T5.setTop (mkF m 75 #[.val (.int p1), .val (.int p2), .val (.int p3), .val (.int p4), .val (.int p5), .val (.int (1 : Int32)), .val (.ref b4), .unset, .unset, .unset] [])) _
      refine XS.iload X5.here hx rfl (hb hby at_75) rfl ?_
      show Steps p.tables e below (T5.setTop (mkF m 77 #[.val (.int p1), .val (.int p2), .val (.int p3), .val (.int p4), .val (.int p5), .val (.int (1 : Int32)), .val (.ref b4), .unset, .unset, .unset] [(.int (1 : Int32))])) _
      refine XS.iconst X5.here hx rfl (hb hby at_77) ?_
      show Steps p.tables e below (T5.setTop (mkF m 78 #[.val (.int p1), .val (.int p2), .val (.int p3), .val (.int p4), .val (.int p5), .val (.int (1 : Int32)), .val (.ref b4), .unset, .unset, .unset] [(.int (3 : Int32)), (.int (1 : Int32))])) _
      refine XS.icmpYes X5.here hx rfl (pc0 := 78) (pc' := 87) rfl (hb hby at_78) rfl (by decide) (by decide) (by decide) ?_
      show Steps p.tables e below (T5.setTop (mkF m 87 #[.val (.int p1), .val (.int p2), .val (.int p3), .val (.int p4), .val (.int p5), .val (.int (1 : Int32)), .val (.ref b4), .unset, .unset, .unset] [])) _
      refine XS.iload X5.here hx rfl (hb hby at_87) rfl ?_
      show Steps p.tables e below (T5.setTop (mkF m 89 #[.val (.int p1), .val (.int p2), .val (.int p3), .val (.int p4), .val (.int p5), .val (.int (1 : Int32)), .val (.ref b4), .unset, .unset, .unset] [(.int (1 : Int32))])) _
      refine XS.iconst X5.here hx rfl (hb hby at_89) ?_
      show Steps p.tables e below (T5.setTop (mkF m 90 #[.val (.int p1), .val (.int p2), .val (.int p3), .val (.int p4), .val (.int p5), .val (.int (1 : Int32)), .val (.ref b4), .unset, .unset, .unset] [(.int (2 : Int32)), (.int (1 : Int32))])) _
      refine XS.icmpYes X5.here hx rfl (pc0 := 90) (pc' := 99) rfl (hb hby at_90) rfl (by decide) (by decide) (by decide) ?_
      show Steps p.tables e below (T5.setTop (mkF m 99 #[.val (.int p1), .val (.int p2), .val (.int p3), .val (.int p4), .val (.int p5), .val (.int (1 : Int32)), .val (.ref b4), .unset, .unset, .unset] [])) _
      refine XS.iloadN X5.here hx rfl (hb hby at_99) rfl ?_
      show Steps p.tables e below (T5.setTop (mkF m 100 #[.val (.int p1), .val (.int p2), .val (.int p3), .val (.int p4), .val (.int p5), .val (.int (1 : Int32)), .val (.ref b4), .unset, .unset, .unset] [(.int p2)])) _
      refine XS.istore X5.here hx rfl (hb hby at_100) rfl (l' := #[.val (.int p1), .val (.int p2), .val (.int p3), .val (.int p4), .val (.int p5), .val (.int (1 : Int32)), .val (.ref b4), .val (.int p2), .unset, .unset]) rfl ?_
      show Steps p.tables e below (T5.setTop (mkF m 102 #[.val (.int p1), .val (.int p2), .val (.int p3), .val (.int p4), .val (.int p5), .val (.int (1 : Int32)), .val (.ref b4), .val (.int p2), .unset, .unset] [])) _
      refine XS.iload X5.here hx rfl (hb hby at_102) rfl ?_
      show Steps p.tables e below (T5.setTop (mkF m 104 #[.val (.int p1), .val (.int p2), .val (.int p3), .val (.int p4), .val (.int p5), .val (.int (1 : Int32)), .val (.ref b4), .val (.int p2), .unset, .unset] [(.int p2)])) _
      refine XS.sipush X5.here hx rfl (hb hby at_104) ?_
      show Steps p.tables e below (T5.setTop (mkF m 107 #[.val (.int p1), .val (.int p2), .val (.int p3), .val (.int p4), .val (.int p5), .val (.int (1 : Int32)), .val (.ref b4), .val (.int p2), .unset, .unset] [(.int (255 : Int32)), (.int p2)])) _
      refine XS.iand X5.here hx rfl (hb hby at_107) rfl ?_
      show Steps p.tables e below (T5.setTop (mkF m 108 #[.val (.int p1), .val (.int p2), .val (.int p3), .val (.int p4), .val (.int p5), .val (.int (1 : Int32)), .val (.ref b4), .val (.int p2), .unset, .unset] [(.int (p2 &&& (255 : Int32)))])) _
      refine XS.istore X5.here hx rfl (hb hby at_108) rfl (l' := #[.val (.int p1), .val (.int p2), .val (.int p3), .val (.int p4), .val (.int p5), .val (.int (1 : Int32)), .val (.ref b4), .val (.int p2), .val (.int (p2 &&& (255 : Int32))), .unset]) rfl ?_
      show Steps p.tables e below (T5.setTop (mkF m 110 #[.val (.int p1), .val (.int p2), .val (.int p3), .val (.int p4), .val (.int p5), .val (.int (1 : Int32)), .val (.ref b4), .val (.int p2), .val (.int (p2 &&& (255 : Int32))), .unset] [])) _
      refine XS.iload X5.here hx rfl (hb hby at_110) rfl ?_
      show Steps p.tables e below (T5.setTop (mkF m 112 #[.val (.int p1), .val (.int p2), .val (.int p3), .val (.int p4), .val (.int p5), .val (.int (1 : Int32)), .val (.ref b4), .val (.int p2), .val (.int (p2 &&& (255 : Int32))), .unset] [(.int (1 : Int32))])) _
      refine XS.ifNo X5.here hx rfl (hb hby at_112) rfl (by decide) ?_
      show Steps p.tables e below (T5.setTop (mkF m 115 #[.val (.int p1), .val (.int p2), .val (.int p3), .val (.int p4), .val (.int p5), .val (.int (1 : Int32)), .val (.ref b4), .val (.int p2), .val (.int (p2 &&& (255 : Int32))), .unset] [])) _
      refine XS.iload X5.here hx rfl (hb hby at_115) rfl ?_
      show Steps p.tables e below (T5.setTop (mkF m 117 #[.val (.int p1), .val (.int p2), .val (.int p3), .val (.int p4), .val (.int p5), .val (.int (1 : Int32)), .val (.ref b4), .val (.int p2), .val (.int (p2 &&& (255 : Int32))), .unset] [(.int (p2 &&& (255 : Int32)))])) _
      refine XS.bipush X5.here hx rfl (hb hby at_117) ?_
      show Steps p.tables e below (T5.setTop (mkF m 119 #[.val (.int p1), .val (.int p2), .val (.int p3), .val (.int p4), .val (.int p5), .val (.int (1 : Int32)), .val (.ref b4), .val (.int p2), .val (.int (p2 &&& (255 : Int32))), .unset] [(.int (13 : Int32)), (.int (p2 &&& (255 : Int32)))])) _
      exact Steps.refl _
    obtain ⟨ex9, q7, pre7⟩ : ∃ (ex9 : Int32), (own_exp p2 = ex9) ∧ Steps p.tables e below (s₁.setTop (entryFrame m #[(.int p1), (.int p2), (.int p3), (.int p4), (.int p5)] maxLocals)) (T5.setTop (mkF m 136 #[.val (.int p1), .val (.int p2), .val (.int p3), .val (.int p4), .val (.int p5), .val (.int (1 : Int32)), .val (.ref b4), .val (.int p2), .val (.int (p2 &&& (255 : Int32))), .val (.int ex9)] [])) := by
      by_cases hc119 : (p2 &&& (255 : Int32)) = (13 : Int32)
      · skip
        refine ⟨(0 : Int32), by simp [own_exp, hc119], ?_⟩
        refine pre6.trans ?_
        refine XS.icmpYes X5.here hx rfl (pc0 := 119) (pc' := 133) rfl (hb hby at_119) rfl (teq hc119).1 (by decide) (by decide) ?_
        show Steps p.tables e below (T5.setTop (mkF m 133 #[.val (.int p1), .val (.int p2), .val (.int p3), .val (.int p4), .val (.int p5), .val (.int (1 : Int32)), .val (.ref b4), .val (.int p2), .val (.int (p2 &&& (255 : Int32))), .unset] [])) _
        refine XS.iconst X5.here hx rfl (hb hby at_133) ?_
        show Steps p.tables e below (T5.setTop (mkF m 134 #[.val (.int p1), .val (.int p2), .val (.int p3), .val (.int p4), .val (.int p5), .val (.int (1 : Int32)), .val (.ref b4), .val (.int p2), .val (.int (p2 &&& (255 : Int32))), .unset] [(.int (0 : Int32))])) _
        refine XS.istore X5.here hx rfl (hb hby at_134) rfl (l' := #[.val (.int p1), .val (.int p2), .val (.int p3), .val (.int p4), .val (.int p5), .val (.int (1 : Int32)), .val (.ref b4), .val (.int p2), .val (.int (p2 &&& (255 : Int32))), .val (.int (0 : Int32))]) rfl ?_
        show Steps p.tables e below (T5.setTop (mkF m 136 #[.val (.int p1), .val (.int p2), .val (.int p3), .val (.int p4), .val (.int p5), .val (.int (1 : Int32)), .val (.ref b4), .val (.int p2), .val (.int (p2 &&& (255 : Int32))), .val (.int (0 : Int32))] [])) _
        exact Steps.refl _
      · skip
        have pre8 : Steps p.tables e below (s₁.setTop (entryFrame m #[(.int p1), (.int p2), (.int p3), (.int p4), (.int p5)] maxLocals)) (T5.setTop (mkF m 126 #[.val (.int p1), .val (.int p2), .val (.int p3), .val (.int p4), .val (.int p5), .val (.int (1 : Int32)), .val (.ref b4), .val (.int p2), .val (.int (p2 &&& (255 : Int32))), .unset] [(.int (10 : Int32)), (.int (p2 &&& (255 : Int32)))])) := by
          refine pre6.trans ?_
          refine XS.icmpNo X5.here hx rfl (hb hby at_119) rfl (feq hc119).1 ?_
          show Steps p.tables e below (T5.setTop (mkF m 122 #[.val (.int p1), .val (.int p2), .val (.int p3), .val (.int p4), .val (.int p5), .val (.int (1 : Int32)), .val (.ref b4), .val (.int p2), .val (.int (p2 &&& (255 : Int32))), .unset] [])) _
          refine XS.iload X5.here hx rfl (hb hby at_122) rfl ?_
          show Steps p.tables e below (T5.setTop (mkF m 124 #[.val (.int p1), .val (.int p2), .val (.int p3), .val (.int p4), .val (.int p5), .val (.int (1 : Int32)), .val (.ref b4), .val (.int p2), .val (.int (p2 &&& (255 : Int32))), .unset] [(.int (p2 &&& (255 : Int32)))])) _
          refine XS.bipush X5.here hx rfl (hb hby at_124) ?_
          show Steps p.tables e below (T5.setTop (mkF m 126 #[.val (.int p1), .val (.int p2), .val (.int p3), .val (.int p4), .val (.int p5), .val (.int (1 : Int32)), .val (.ref b4), .val (.int p2), .val (.int (p2 &&& (255 : Int32))), .unset] [(.int (10 : Int32)), (.int (p2 &&& (255 : Int32)))])) _
          exact Steps.refl _
        by_cases hc126 : (p2 &&& (255 : Int32)) = (10 : Int32)
        · skip
          refine ⟨(0 : Int32), by simp [own_exp, hc119, hc126], ?_⟩
          refine pre8.trans ?_
          refine XS.icmpYes X5.here hx rfl (pc0 := 126) (pc' := 133) rfl (hb hby at_126) rfl (teq hc126).1 (by decide) (by decide) ?_
          show Steps p.tables e below (T5.setTop (mkF m 133 #[.val (.int p1), .val (.int p2), .val (.int p3), .val (.int p4), .val (.int p5), .val (.int (1 : Int32)), .val (.ref b4), .val (.int p2), .val (.int (p2 &&& (255 : Int32))), .unset] [])) _
          refine XS.iconst X5.here hx rfl (hb hby at_133) ?_
          show Steps p.tables e below (T5.setTop (mkF m 134 #[.val (.int p1), .val (.int p2), .val (.int p3), .val (.int p4), .val (.int p5), .val (.int (1 : Int32)), .val (.ref b4), .val (.int p2), .val (.int (p2 &&& (255 : Int32))), .unset] [(.int (0 : Int32))])) _
          refine XS.istore X5.here hx rfl (hb hby at_134) rfl (l' := #[.val (.int p1), .val (.int p2), .val (.int p3), .val (.int p4), .val (.int p5), .val (.int (1 : Int32)), .val (.ref b4), .val (.int p2), .val (.int (p2 &&& (255 : Int32))), .val (.int (0 : Int32))]) rfl ?_
          show Steps p.tables e below (T5.setTop (mkF m 136 #[.val (.int p1), .val (.int p2), .val (.int p3), .val (.int p4), .val (.int p5), .val (.int (1 : Int32)), .val (.ref b4), .val (.int p2), .val (.int (p2 &&& (255 : Int32))), .val (.int (0 : Int32))] [])) _
          exact Steps.refl _
        · skip
          refine ⟨(1 : Int32), by simp [own_exp, hc119, hc126], ?_⟩
          refine pre8.trans ?_
          refine XS.icmpNo X5.here hx rfl (hb hby at_126) rfl (feq hc126).1 ?_
          show Steps p.tables e below (T5.setTop (mkF m 129 #[.val (.int p1), .val (.int p2), .val (.int p3), .val (.int p4), .val (.int p5), .val (.int (1 : Int32)), .val (.ref b4), .val (.int p2), .val (.int (p2 &&& (255 : Int32))), .unset] [])) _
          refine XS.iconst X5.here hx rfl (hb hby at_129) ?_
          show Steps p.tables e below (T5.setTop (mkF m 130 #[.val (.int p1), .val (.int p2), .val (.int p3), .val (.int p4), .val (.int p5), .val (.int (1 : Int32)), .val (.ref b4), .val (.int p2), .val (.int (p2 &&& (255 : Int32))), .unset] [(.int (1 : Int32))])) _
          refine XS.goto X5.here hx rfl (pc0 := 130) (pc' := 134) rfl (hb hby at_130) (by decide) (by decide) ?_
          show Steps p.tables e below (T5.setTop (mkF m 134 #[.val (.int p1), .val (.int p2), .val (.int p3), .val (.int p4), .val (.int p5), .val (.int (1 : Int32)), .val (.ref b4), .val (.int p2), .val (.int (p2 &&& (255 : Int32))), .unset] [(.int (1 : Int32))])) _
          refine XS.istore X5.here hx rfl (hb hby at_134) rfl (l' := #[.val (.int p1), .val (.int p2), .val (.int p3), .val (.int p4), .val (.int p5), .val (.int (1 : Int32)), .val (.ref b4), .val (.int p2), .val (.int (p2 &&& (255 : Int32))), .val (.int (1 : Int32))]) rfl ?_
          show Steps p.tables e below (T5.setTop (mkF m 136 #[.val (.int p1), .val (.int p2), .val (.int p3), .val (.int p4), .val (.int p5), .val (.int (1 : Int32)), .val (.ref b4), .val (.int p2), .val (.int (p2 &&& (255 : Int32))), .val (.int (1 : Int32))] [])) _
          exact Steps.refl _
    obtain ⟨_, _, ⟨T9, L9, k9, n9⟩, -, X9, ⟨Lc9, hQ9, l9, y9, z9⟩, st9⟩ := Jvm.LawKit.callS X5 hx (y := (⟨"com/example/tsumugi/tsumugi/Segments", "endsInsideASegment", "([B)Z"⟩ : MethodName)) hown (mvT hZ (hw _ (List.mem_of_getElem? (i := 2) rfl))) (mvT hZ (hw _ (List.mem_of_getElem? (i := 3) rfl))) (mvT hZ (hw _ (List.mem_of_getElem? (i := 4) rfl))) (mvT hZ (hw _ (List.mem_of_getElem? (i := 5) rfl))) (by decide) (backOf (W := 0) (rm1 l Z a0 hw [] b4 ((newA k4 .byte (1 : Int32)).setSlot ((0 : Int32) : Int32).toNatClampNeg (.int (nar .byte (p2.toInt8.toInt32)))) (1 : Int32) (nar .byte (p2.toInt8.toInt32)) h5 n0 ZA5 Ar5 (by simp only [sz_set, sz_new] <;> decide) (by decide) (by simp only [sz_set, sz_new] <;> decide) (get_hit (j := (0 : Int32)) (by simp only [sz_set, sz_new] <;> decide) (by decide)) (by decide)) hZ (hw _ (List.mem_of_getElem? (i := 5) rfl)) (hw _ (List.mem_of_getElem? (i := 4) rfl)) (by decide) (by decide)) (g := (mkF m 138 #[.val (.int p1), .val (.int p2), .val (.int p3), .val (.int p4), .val (.int p5), .val (.int (1 : Int32)), .val (.ref b4), .val (.int p2), .val (.int (p2 &&& (255 : Int32))), .val (.int ex9)] [(.ref b4)])) rfl (by rw [hml]; rfl) (argsL := [(.ref b4)]) (rest := []) (lenOf pd_1 rfl) rfl (by show 2 * 0 + _ ≤ _; exact Nat.le_of_eq rfl) (hb hby at_138) (fun _ _ => ⟨rfl, e5, (by decide : 1 + 0 ≤ _), (by decide : 1 + 0 ≤ _)⟩)
    dsimp only [Pt.U, Pt.locs, Pt.cells, Pt.slots] at X9 l9 y9 z9 st9 hQ9
    subst l9 y9 z9
    obtain ⟨rfl, M9, e9⟩ := hQ9
    have N9 := Fr.app N5 M9
    have pre9 : Steps p.tables e below (s₁.setTop (entryFrame m #[(.int p1), (.int p2), (.int p3), (.int p4), (.int p5)] maxLocals)) (T9.setTop (mkF m 141 #[.val (.int p1), .val (.int p2), .val (.int p3), .val (.int p4), .val (.int p5), .val (.int (1 : Int32)), .val (.ref b4), .val (.int p2), .val (.int (p2 &&& (255 : Int32))), .val (.int ex9)] [(.int (own_in (nar .byte (p2.toInt8.toInt32))))])) := by
      refine pre7.trans ?_
      refine XS.aload X5.here hx rfl (hb hby at_136) rfl rfl ?_
      show Steps p.tables e below (T5.setTop (mkF m 138 #[.val (.int p1), .val (.int p2), .val (.int p3), .val (.int p4), .val (.int p5), .val (.int (1 : Int32)), .val (.ref b4), .val (.int p2), .val (.int (p2 &&& (255 : Int32))), .val (.int ex9)] [(.ref b4)])) _
      exact st9 _ (Steps.refl _)
    rw [own_byte, q7] at pre9
    obtain ⟨fs, hr, hrun, hended, hW, hsame⟩ := X9.leave (v := some (.int (1 : Int32))) (fun h => by rw [Bd.returns] at h; cases h)
    refine ⟨_, _, pre9.trans ?_, hrun, hended, _, _, rfl, ?_, ⟨_, rfl⟩, hW, hsame.mono (by decide) (by decide)⟩
    · skip
      refine XS.iload X9.here hx rfl (hb hby at_141) rfl ?_
      show Steps p.tables e below (T9.setTop (mkF m 143 #[.val (.int p1), .val (.int p2), .val (.int p3), .val (.int p4), .val (.int p5), .val (.int (1 : Int32)), .val (.ref b4), .val (.int p2), .val (.int (p2 &&& (255 : Int32))), .val (.int ex9)] [(.int ex9), (.int ex9)])) _
      refine XS.icmpNo X9.here hx rfl (hb hby at_143) rfl (teq (rfl : ex9 = ex9)).2 ?_
      show Steps p.tables e below (T9.setTop (mkF m 146 #[.val (.int p1), .val (.int p2), .val (.int p3), .val (.int p4), .val (.int p5), .val (.int (1 : Int32)), .val (.ref b4), .val (.int p2), .val (.int (p2 &&& (255 : Int32))), .val (.int ex9)] [])) _
      refine XS.iconst X9.here hx rfl (hb hby at_146) ?_
      show Steps p.tables e below (T9.setTop (mkF m 147 #[.val (.int p1), .val (.int p2), .val (.int p3), .val (.int p4), .val (.int p5), .val (.int (1 : Int32)), .val (.ref b4), .val (.int p2), .val (.int (p2 &&& (255 : Int32))), .val (.int ex9)] [(.int (1 : Int32))])) _
      refine XS.goto X9.here hx rfl (pc0 := 147) (pc' := 151) rfl (hb hby at_147) (by decide) (by decide) ?_
      show Steps p.tables e below (T9.setTop (mkF m 151 #[.val (.int p1), .val (.int p2), .val (.int p3), .val (.int p4), .val (.int p5), .val (.int (1 : Int32)), .val (.ref b4), .val (.int p2), .val (.int (p2 &&& (255 : Int32))), .val (.int ex9)] [(.int (1 : Int32))])) _
      exact retN X9 hx (t := .boolean) Bd.returns (by simp) (hb hby at_151) hr
    · show Q0 Z p1 p2 p3 p4 p5  h0 n0 _ T9.heap _
      rw [e9]
      exact ⟨rfl, N9⟩
  · skip
    rw [hn] at pre1
    obtain ⟨T10, h10, k10, X10, e10, E10, A10, st10⟩ := newP X0 hx hZ (hw _ (List.mem_of_getElem? (i := 1) rfl)) e0 (g := (mkF m 10 #[.val (.int p1), .val (.int p2), .val (.int p3), .val (.int p4), .val (.int p5), .val (.int (2 : Int32)), .unset, .unset, .unset, .unset] [(.int (2 : Int32))])) rfl (hb hby at_10) rfl (by decide) (cap := 2) (by decide) (by decide) (by decide) (by decide)
    obtain ⟨b10, g10⟩ : ∃ z, z = h0.size := ⟨_, rfl⟩
    rw [← g10] at A10 st10
    have pre10 : Steps p.tables e below (s₁.setTop (entryFrame m #[(.int p1), (.int p2), (.int p3), (.int p4), (.int p5)] maxLocals)) (T10.setTop (mkF m 12 #[.val (.int p1), .val (.int p2), .val (.int p3), .val (.int p4), .val (.int p5), .val (.int (2 : Int32)), .unset, .unset, .unset, .unset] [(.ref b10)])) := by
      refine pre1.trans ?_
      refine XS.iload X0.here hx rfl (hb hby at_8) rfl ?_
      show Steps p.tables e below (s₁.setTop (mkF m 10 #[.val (.int p1), .val (.int p2), .val (.int p3), .val (.int p4), .val (.int p5), .val (.int (2 : Int32)), .unset, .unset, .unset, .unset] [(.int (2 : Int32))])) _
      exact st10 _ (Steps.refl _)
    have gb : n0 ≤ b10 := Nat.le_trans Z0 (Nat.le_of_eq g10.symm)
    have ZA : n0 ≤ h10.size := Nat.le_trans Z0 E10.1
    have Ar10 : Arr Z h10 b10 (newA k10 .byte (2 : Int32)) .byte := A10
    obtain ⟨T11, h11, X11, e11, W11, st11⟩ := stB X10 hx hZ e10 Ar10 (j := (0 : Int32)) (by simp only [sz_set, sz_new] <;> decide) (g := (mkF m 24 #[.val (.int p1), .val (.int p2), .val (.int p3), .val (.int p4), .val (.int p5), .val (.int (2 : Int32)), .val (.ref b10), .unset, .unset, .unset] [(.int (p2.toInt8.toInt32)), (.int (0 : Int32)), (.ref b10)])) rfl rfl (hb hby at_24)
    have N11 := Fr.snoc X11 N0 gb
    have pre11 : Steps p.tables e below (s₁.setTop (entryFrame m #[(.int p1), (.int p2), (.int p3), (.int p4), (.int p5)] maxLocals)) (T11.setTop (mkF m 25 #[.val (.int p1), .val (.int p2), .val (.int p3), .val (.int p4), .val (.int p5), .val (.int (2 : Int32)), .val (.ref b10), .unset, .unset, .unset] [])) := by
      refine pre10.trans ?_
      refine XS.astore X10.here hx rfl (hb hby at_12) rfl rfl (l' := #[.val (.int p1), .val (.int p2), .val (.int p3), .val (.int p4), .val (.int p5), .val (.int (2 : Int32)), .val (.ref b10), .unset, .unset, .unset]) rfl ?_
      show Steps p.tables e below (T10.setTop (mkF m 14 #[.val (.int p1), .val (.int p2), .val (.int p3), .val (.int p4), .val (.int p5), .val (.int (2 : Int32)), .val (.ref b10), .unset, .unset, .unset] [])) _
      refine XS.iload X10.here hx rfl (hb hby at_14) rfl ?_
      show Steps p.tables e below (T10.setTop (mkF m 16 #[.val (.int p1), .val (.int p2), .val (.int p3), .val (.int p4), .val (.int p5), .val (.int (2 : Int32)), .val (.ref b10), .unset, .unset, .unset] [(.int (2 : Int32))])) _
      refine XS.ifNo X10.here hx rfl (hb hby at_16) rfl (by decide) ?_
      show Steps p.tables e below (T10.setTop (mkF m 19 #[.val (.int p1), .val (.int p2), .val (.int p3), .val (.int p4), .val (.int p5), .val (.int (2 : Int32)), .val (.ref b10), .unset, .unset, .unset] [])) _
      refine XS.aload X10.here hx rfl (hb hby at_19) rfl rfl ?_
      show Steps p.tables e below (T10.setTop (mkF m 21 #[.val (.int p1), .val (.int p2), .val (.int p3), .val (.int p4), .val (.int p5), .val (.int (2 : Int32)), .val (.ref b10), .unset, .unset, .unset] [(.ref b10)])) _
      refine XS.iconst X10.here hx rfl (hb hby at_21) ?_
      show Steps p.tables e below (T10.setTop (mkF m 22 #[.val (.int p1), .val (.int p2), .val (.int p3), .val (.int p4), .val (.int p5), .val (.int (2 : Int32)), .val (.ref b10), .unset, .unset, .unset] [(.int (0 : Int32)), (.ref b10)])) _
      refine XS.iloadN X10.here hx rfl (hb hby at_22) rfl ?_
      show Steps p.tables e below (T10.setTop (mkF m 23 #[.val (.int p1), .val (.int p2), .val (.int p3), .val (.int p4), .val (.int p5), .val (.int (2 : Int32)), .val (.ref b10), .unset, .unset, .unset] [(.int p2), (.int (0 : Int32)), (.ref b10)])) _
      refine XS.i2b X10.here hx rfl (hb hby at_23) rfl ?_
      show Steps p.tables e below (T10.setTop (mkF m 24 #[.val (.int p1), .val (.int p2), .val (.int p3), .val (.int p4), .val (.int p5), .val (.int (2 : Int32)), .val (.ref b10), .unset, .unset, .unset] [(.int (p2.toInt8.toInt32)), (.int (0 : Int32)), (.ref b10)])) _
      exact st11 _ (Steps.refl _)
    have Ar11 : Arr Z h11 b10 ((newA k10 .byte (2 : Int32)).setSlot ((0 : Int32) : Int32).toNatClampNeg (.int (nar .byte (p2.toInt8.toInt32)))) .byte := Ar10.same W11
    have ZA11 : n0 ≤ h11.size := by rw [W11.size]; exact ZA
    obtain ⟨T12, h12, X12, e12, W12, st12⟩ := stB X11 hx hZ e11 Ar11 (j := (1 : Int32)) (by simp only [sz_set, sz_new] <;> decide) (g := (mkF m 36 #[.val (.int p1), .val (.int p2), .val (.int p3), .val (.int p4), .val (.int p5), .val (.int (2 : Int32)), .val (.ref b10), .unset, .unset, .unset] [(.int (p3.toInt8.toInt32)), (.int (1 : Int32)), (.ref b10)])) rfl rfl (hb hby at_36)
    have N12 := Fr.snoc X12 N11 gb
    have pre12 : Steps p.tables e below (s₁.setTop (entryFrame m #[(.int p1), (.int p2), (.int p3), (.int p4), (.int p5)] maxLocals)) (T12.setTop (mkF m 37 #[.val (.int p1), .val (.int p2), .val (.int p3), .val (.int p4), .val (.int p5), .val (.int (2 : Int32)), .val (.ref b10), .unset, .unset, .unset] [])) := by
      refine pre11.trans ?_
      refine XS.iload X11.here hx rfl (hb hby at_25) rfl ?_
      show Steps p.tables e below (T11.setTop (mkF m 27 #[.val (.int p1), .val (.int p2), .val (.int p3), .val (.int p4), .val (.int p5), .val (.int (2 : Int32)), .val (.ref b10), .unset, .unset, .unset] [(.int (2 : Int32))])) _
      refine XS.iconst X11.here hx rfl (hb hby at_27) ?_
      show Steps p.tables e below (T11.setTop (mkF m 28 #[.val (.int p1), .val (.int p2), .val (.int p3), .val (.int p4), .val (.int p5), .val (.int (2 : Int32)), .val (.ref b10), .unset, .unset, .unset] [(.int (1 : Int32)), (.int (2 : Int32))])) _
      refine XS.icmpNo X11.here hx rfl (hb hby at_28) rfl (by decide) ?_
      show Steps p.tables e below (T11.setTop (mkF m 31 #[.val (.int p1), .val (.int p2), .val (.int p3), .val (.int p4), .val (.int p5), .val (.int (2 : Int32)), .val (.ref b10), .unset, .unset, .unset] [])) _
      refine XS.aload X11.here hx rfl (hb hby at_31) rfl rfl ?_
      show Steps p.tables e below (T11.setTop (mkF m 33 #[.val (.int p1), .val (.int p2), .val (.int p3), .val (.int p4), .val (.int p5), .val (.int (2 : Int32)), .val (.ref b10), .unset, .unset, .unset] [(.ref b10)])) _
      refine XS.iconst X11.here hx rfl (hb hby at_33) ?_
      show Steps p.tables e below (T11.setTop (mkF m 34 #[.val (.int p1), .val (.int p2), .val (.int p3), .val (.int p4), .val (.int p5), .val (.int (2 : Int32)), .val (.ref b10), .unset, .unset, .unset] [(.int (1 : Int32)), (.ref b10)])) _
      refine XS.iloadN X11.here hx rfl (hb hby at_34) rfl ?_
      show Steps p.tables e below (T11.setTop (mkF m 35 #[.val (.int p1), .val (.int p2), .val (.int p3), .val (.int p4), .val (.int p5), .val (.int (2 : Int32)), .val (.ref b10), .unset, .unset, .unset] [(.int p3), (.int (1 : Int32)), (.ref b10)])) _
      refine XS.i2b X11.here hx rfl (hb hby at_35) rfl ?_
      show Steps p.tables e below (T11.setTop (mkF m 36 #[.val (.int p1), .val (.int p2), .val (.int p3), .val (.int p4), .val (.int p5), .val (.int (2 : Int32)), .val (.ref b10), .unset, .unset, .unset] [(.int (p3.toInt8.toInt32)), (.int (1 : Int32)), (.ref b10)])) _
      exact st12 _ (Steps.refl _)
    have Ar12 : Arr Z h12 b10 (((newA k10 .byte (2 : Int32)).setSlot ((0 : Int32) : Int32).toNatClampNeg (.int (nar .byte (p2.toInt8.toInt32)))).setSlot ((1 : Int32) : Int32).toNatClampNeg (.int (nar .byte (p3.toInt8.toInt32)))) .byte := Ar11.same W12
    have ZA12 : n0 ≤ h12.size := by rw [W12.size]; exact ZA11
    have pre13 : Steps p.tables e below (s₁.setTop (entryFrame m #[(.int p1), (.int p2), (.int p3), (.int p4), (.int p5)] maxLocals)) (T12.setTop (mkF m 119 #[.val (.int p1), .val (.int p2), .val (.int p3), .val (.int p4), .val (.int p5), .val (.int (2 : Int32)), .val (.ref b10), .val (.int p3), .val (.int (p3 &&& (255 : Int32))), .unset] [(.int (13 : Int32)), (.int (p3 &&& (255 : Int32)))])) := by
      refine pre12.trans ?_
      refine XS.iload X12.here hx rfl (hb hby at_37) rfl ?_
      show Steps p.tables e below (T12.setTop (mkF m 39 #[.val (.int p1), .val (.int p2), .val (.int p3), .val (.int p4), .val (.int p5), .val (.int (2 : Int32)), .val (.ref b10), .unset, .unset, .unset] [(.int (2 : Int32))])) _
      refine XS.iconst X12.here hx rfl (hb hby at_39) ?_
      show Steps p.tables e below (T12.setTop (mkF m 40 #[.val (.int p1), .val (.int p2), .val (.int p3), .val (.int p4), .val (.int p5), .val (.int (2 : Int32)), .val (.ref b10), .unset, .unset, .unset] [(.int (2 : Int32)), (.int (2 : Int32))])) _
      refine XS.icmpYes X12.here hx rfl (pc0 := 40) (pc' := 49) rfl (hb hby at_40) rfl (by decide) (by decide) (by decide) ?_
      show Steps p.tables e below (T12.setTop (mkF m 49 #[.val (.int p1), .val (.int p2), .val (.int p3), .val (.int p4), .val (.int p5), .val (.int (2 : Int32)), .val (.ref b10), .unset, .unset, .unset] [])) _
      refine XS.iload X12.here hx rfl (hb hby at_49) rfl ?_
      show Steps p.tables e below (T12.setTop (mkF m 51 #[.val (.int p1), .val (.int p2), .val (.int p3), .val (.int p4), .val (.int p5), .val (.int (2 : Int32)), .val (.ref b10), .unset, .unset, .unset] [(.int (2 : Int32))])) _
      refine XS.iconst X12.here hx rfl (hb hby at_51) ?_
      show Steps p.tables e below (T12.setTop (mkF m 52 #[.val (.int p1), .val (.int p2), .val (.int p3), .val (.int p4), .val (.int p5), .val (.int (2 : Int32)), .val (.ref b10), .unset, .unset, .unset] [(.int (3 : Int32)), (.int (2 : Int32))])) _
      refine XS.icmpYes X12.here hx rfl (pc0 := 52) (pc' := 62) rfl (hb hby at_52) rfl (by decide) (by decide) (by decide) ?_
      show Steps p.tables e below (T12.setTop (mkF m 62 #[.val (.int p1), .val (.int p2), .val (.int p3), .val (.int p4), .val (.int p5), .val (.int (2 : Int32)), .val (.ref b10), .unset, .unset, .unset] [])) _
      refine XS.iload X12.here hx rfl (hb hby at_62) rfl ?_
      show Steps p.tables e below (T12.setTop (mkF m 64 #[.val (.int p1), .val (.int p2), .val (.int p3), .val (.int p4), .val (.int p5), .val (.int (2 : Int32)), .val (.ref b10), .unset, .unset, .unset] [(.int (2 : Int32))])) _
      refine XS.iconst X12.here hx rfl (hb hby at_64) ?_
      show Steps p.tables e below (T12.setTop (mkF m 65 #[.val (.int p1), .val (.int p2), .val (.int p3), .val (.int p4), .val (.int p5), .val (.int (2 : Int32)), .val (.ref b10), .unset, .unset, .unset] [(.int (4 : Int32)), (.int (2 : Int32))])) _
      refine XS.icmpYes X12.here hx rfl (pc0 := 65) (pc' := 75) rfl (hb hby at_65) rfl (by decide) (by decide) (by decide) ?_
      show Steps p.tables e below (T12.setTop (mkF m 75 #[.val (.int p1), .val (.int p2), .val (.int p3), .val (.int p4), .val (.int p5), .val (.int (2 : Int32)), .val (.ref b10), .unset, .unset, .unset] [])) _
      refine XS.iload X12.here hx rfl (hb hby at_75) rfl ?_
      show Steps p.tables e below (T12.setTop (mkF m 77 #[.val (.int p1), .val (.int p2), .val (.int p3), .val (.int p4), .val (.int p5), .val (.int (2 : Int32)), .val (.ref b10), .unset, .unset, .unset] [(.int (2 : Int32))])) _
      refine XS.iconst X12.here hx rfl (hb hby at_77) ?_
      show Steps p.tables e below (T12.setTop (mkF m 78 #[.val (.int p1), .val (.int p2), .val (.int p3), .val (.int p4), .val (.int p5), .val (.int (2 : Int32)), .val (.ref b10), .unset, .unset, .unset] [(.int (3 : Int32)), (.int (2 : Int32))])) _
      refine XS.icmpYes X12.here hx rfl (pc0 := 78) (pc' := 87) rfl (hb hby at_78) rfl (by decide) (by decide) (by decide) ?_
      show Steps p.tables e below (T12.setTop (mkF m 87 #[.val (.int p1), .val (.int p2), .val (.int p3), .val (.int p4), .val (.int p5), .val (.int (2 : Int32)), .val (.ref b10), .unset, .unset, .unset] [])) _
      refine XS.iload X12.here hx rfl (hb hby at_87) rfl ?_
      show Steps p.tables e below (T12.setTop (mkF m 89 #[.val (.int p1), .val (.int p2), .val (.int p3), .val (.int p4), .val (.int p5), .val (.int (2 : Int32)), .val (.ref b10), .unset, .unset, .unset] [(.int (2 : Int32))])) _
      refine XS.iconst X12.here hx rfl (hb hby at_89) ?_
      show Steps p.tables e below (T12.setTop (mkF m 90 #[.val (.int p1), .val (.int p2), .val (.int p3), .val (.int p4), .val (.int p5), .val (.int (2 : Int32)), .val (.ref b10), .unset, .unset, .unset] [(.int (2 : Int32)), (.int (2 : Int32))])) _
      refine XS.icmpNo X12.here hx rfl (hb hby at_90) rfl (by decide) ?_
      show Steps p.tables e below (T12.setTop (mkF m 93 #[.val (.int p1), .val (.int p2), .val (.int p3), .val (.int p4), .val (.int p5), .val (.int (2 : Int32)), .val (.ref b10), .unset, .unset, .unset] [])) _
      refine XS.iloadN X12.here hx rfl (hb hby at_93) rfl ?_
      show Steps p.tables e below (T12.setTop (mkF m 94 #[.val (.int p1), .val (.int p2), .val (.int p3), .val (.int p4), .val (.int p5), .val (.int (2 : Int32)), .val (.ref b10), .unset, .unset, .unset] [(.int p3)])) _
      refine XS.istore X12.here hx rfl (hb hby at_94) rfl (l' := #[.val (.int p1), .val (.int p2), .val (.int p3), .val (.int p4), .val (.int p5), .val (.int (2 : Int32)), .val (.ref b10), .val (.int p3), .unset, .unset]) rfl ?_
      show Steps p.tables e below (T12.setTop (mkF m 96 #[.val (.int p1), .val (.int p2), .val (.int p3), .val (.int p4), .val (.int p5), .val (.int (2 : Int32)), .val (.ref b10), .val (.int p3), .unset, .unset] [])) _
      refine XS.goto X12.here hx rfl (pc0 := 96) (pc' := 102) rfl (hb hby at_96) (by decide) (by decide) ?_
      show Steps p.tables e below (T12.setTop (mkF m 102 #[.val (.int p1), .val (.int p2), .val (.int p3), .val (.int p4), .val (.int p5), .val (.int (2 : Int32)), .val (.ref b10), .val (.int p3), .unset, .unset] [])) _
      refine XS.iload X12.here hx rfl (hb hby at_102) rfl ?_
      show Steps p.tables e below (T12.setTop (mkF m 104 #[.val (.int p1), .val (.int p2), .val (.int p3), .val (.int p4), .val (.int p5), .val (.int (2 : Int32)), .val (.ref b10), .val (.int p3), .unset, .unset] [(.int p3)])) _
      refine XS.sipush X12.here hx rfl (hb hby at_104) ?_
      show Steps p.tables e below (T12.setTop (mkF m 107 #[.val (.int p1), .val (.int p2), .val (.int p3), .val (.int p4), .val (.int p5), .val (.int (2 : Int32)), .val (.ref b10), .val (.int p3), .unset, .unset] [(.int (255 : Int32)), (.int p3)])) _
      refine XS.iand X12.here hx rfl (hb hby at_107) rfl ?_
      show Steps p.tables e below (T12.setTop (mkF m 108 #[.val (.int p1), .val (.int p2), .val (.int p3), .val (.int p4), .val (.int p5), .val (.int (2 : Int32)), .val (.ref b10), .val (.int p3), .unset, .unset] [(.int (p3 &&& (255 : Int32)))])) _
      refine XS.istore X12.here hx rfl (hb hby at_108) rfl (l' := #[.val (.int p1), .val (.int p2), .val (.int p3), .val (.int p4), .val (.int p5), .val (.int (2 : Int32)), .val (.ref b10), .val (.int p3), .val (.int (p3 &&& (255 : Int32))), .unset]) rfl ?_
      show Steps p.tables e below (T12.setTop (mkF m 110 #[.val (.int p1), .val (.int p2), .val (.int p3), .val (.int p4), .val (.int p5), .val (.int (2 : Int32)), .val (.ref b10), .val (.int p3), .val (.int (p3 &&& (255 : Int32))), .unset] [])) _
      refine XS.iload X12.here hx rfl (hb hby at_110) rfl ?_
      show Steps p.tables e below (T12.setTop (mkF m 112 #[.val (.int p1), .val (.int p2), .val (.int p3), .val (.int p4), .val (.int p5), .val (.int (2 : Int32)), .val (.ref b10), .val (.int p3), .val (.int (p3 &&& (255 : Int32))), .unset] [(.int (2 : Int32))])) _
      refine XS.ifNo X12.here hx rfl (hb hby at_112) rfl (by decide) ?_
      show Steps p.tables e below (T12.setTop (mkF m 115 #[.val (.int p1), .val (.int p2), .val (.int p3), .val (.int p4), .val (.int p5), .val (.int (2 : Int32)), .val (.ref b10), .val (.int p3), .val (.int (p3 &&& (255 : Int32))), .unset] [])) _
      refine XS.iload X12.here hx rfl (hb hby at_115) rfl ?_
      show Steps p.tables e below (T12.setTop (mkF m 117 #[.val (.int p1), .val (.int p2), .val (.int p3), .val (.int p4), .val (.int p5), .val (.int (2 : Int32)), .val (.ref b10), .val (.int p3), .val (.int (p3 &&& (255 : Int32))), .unset] [(.int (p3 &&& (255 : Int32)))])) _
      refine XS.bipush X12.here hx rfl (hb hby at_117) ?_
      show Steps p.tables e below (T12.setTop (mkF m 119 #[.val (.int p1), .val (.int p2), .val (.int p3), .val (.int p4), .val (.int p5), .val (.int (2 : Int32)), .val (.ref b10), .val (.int p3), .val (.int (p3 &&& (255 : Int32))), .unset] [(.int (13 : Int32)), (.int (p3 &&& (255 : Int32)))])) _
      exact Steps.refl _
    obtain ⟨ex9, q14, pre14⟩ : ∃ (ex9 : Int32), (own_exp p3 = ex9) ∧ Steps p.tables e below (s₁.setTop (entryFrame m #[(.int p1), (.int p2), (.int p3), (.int p4), (.int p5)] maxLocals)) (T12.setTop (mkF m 136 #[.val (.int p1), .val (.int p2), .val (.int p3), .val (.int p4), .val (.int p5), .val (.int (2 : Int32)), .val (.ref b10), .val (.int p3), .val (.int (p3 &&& (255 : Int32))), .val (.int ex9)] [])) := by
      by_cases hc119 : (p3 &&& (255 : Int32)) = (13 : Int32)
      · skip
        refine ⟨(0 : Int32), by simp [own_exp, hc119], ?_⟩
        refine pre13.trans ?_
        refine XS.icmpYes X12.here hx rfl (pc0 := 119) (pc' := 133) rfl (hb hby at_119) rfl (teq hc119).1 (by decide) (by decide) ?_
        show Steps p.tables e below (T12.setTop (mkF m 133 #[.val (.int p1), .val (.int p2), .val (.int p3), .val (.int p4), .val (.int p5), .val (.int (2 : Int32)), .val (.ref b10), .val (.int p3), .val (.int (p3 &&& (255 : Int32))), .unset] [])) _
        refine XS.iconst X12.here hx rfl (hb hby at_133) ?_
        show Steps p.tables e below (T12.setTop (mkF m 134 #[.val (.int p1), .val (.int p2), .val (.int p3), .val (.int p4), .val (.int p5), .val (.int (2 : Int32)), .val (.ref b10), .val (.int p3), .val (.int (p3 &&& (255 : Int32))), .unset] [(.int (0 : Int32))])) _
        refine XS.istore X12.here hx rfl (hb hby at_134) rfl (l' := #[.val (.int p1), .val (.int p2), .val (.int p3), .val (.int p4), .val (.int p5), .val (.int (2 : Int32)), .val (.ref b10), .val (.int p3), .val (.int (p3 &&& (255 : Int32))), .val (.int (0 : Int32))]) rfl ?_
        show Steps p.tables e below (T12.setTop (mkF m 136 #[.val (.int p1), .val (.int p2), .val (.int p3), .val (.int p4), .val (.int p5), .val (.int (2 : Int32)), .val (.ref b10), .val (.int p3), .val (.int (p3 &&& (255 : Int32))), .val (.int (0 : Int32))] [])) _
        exact Steps.refl _
      · skip
        have pre15 : Steps p.tables e below (s₁.setTop (entryFrame m #[(.int p1), (.int p2), (.int p3), (.int p4), (.int p5)] maxLocals)) (T12.setTop (mkF m 126 #[.val (.int p1), .val (.int p2), .val (.int p3), .val (.int p4), .val (.int p5), .val (.int (2 : Int32)), .val (.ref b10), .val (.int p3), .val (.int (p3 &&& (255 : Int32))), .unset] [(.int (10 : Int32)), (.int (p3 &&& (255 : Int32)))])) := by
          refine pre13.trans ?_
          refine XS.icmpNo X12.here hx rfl (hb hby at_119) rfl (feq hc119).1 ?_
          show Steps p.tables e below (T12.setTop (mkF m 122 #[.val (.int p1), .val (.int p2), .val (.int p3), .val (.int p4), .val (.int p5), .val (.int (2 : Int32)), .val (.ref b10), .val (.int p3), .val (.int (p3 &&& (255 : Int32))), .unset] [])) _
          refine XS.iload X12.here hx rfl (hb hby at_122) rfl ?_
          show Steps p.tables e below (T12.setTop (mkF m 124 #[.val (.int p1), .val (.int p2), .val (.int p3), .val (.int p4), .val (.int p5), .val (.int (2 : Int32)), .val (.ref b10), .val (.int p3), .val (.int (p3 &&& (255 : Int32))), .unset] [(.int (p3 &&& (255 : Int32)))])) _
          refine XS.bipush X12.here hx rfl (hb hby at_124) ?_
          show Steps p.tables e below (T12.setTop (mkF m 126 #[.val (.int p1), .val (.int p2), .val (.int p3), .val (.int p4), .val (.int p5), .val (.int (2 : Int32)), .val (.ref b10), .val (.int p3), .val (.int (p3 &&& (255 : Int32))), .unset] [(.int (10 : Int32)), (.int (p3 &&& (255 : Int32)))])) _
          exact Steps.refl _
        by_cases hc126 : (p3 &&& (255 : Int32)) = (10 : Int32)
        · skip
          refine ⟨(0 : Int32), by simp [own_exp, hc119, hc126], ?_⟩
          refine pre15.trans ?_
          refine XS.icmpYes X12.here hx rfl (pc0 := 126) (pc' := 133) rfl (hb hby at_126) rfl (teq hc126).1 (by decide) (by decide) ?_
          show Steps p.tables e below (T12.setTop (mkF m 133 #[.val (.int p1), .val (.int p2), .val (.int p3), .val (.int p4), .val (.int p5), .val (.int (2 : Int32)), .val (.ref b10), .val (.int p3), .val (.int (p3 &&& (255 : Int32))), .unset] [])) _
          refine XS.iconst X12.here hx rfl (hb hby at_133) ?_
          show Steps p.tables e below (T12.setTop (mkF m 134 #[.val (.int p1), .val (.int p2), .val (.int p3), .val (.int p4), .val (.int p5), .val (.int (2 : Int32)), .val (.ref b10), .val (.int p3), .val (.int (p3 &&& (255 : Int32))), .unset] [(.int (0 : Int32))])) _
          refine XS.istore X12.here hx rfl (hb hby at_134) rfl (l' := #[.val (.int p1), .val (.int p2), .val (.int p3), .val (.int p4), .val (.int p5), .val (.int (2 : Int32)), .val (.ref b10), .val (.int p3), .val (.int (p3 &&& (255 : Int32))), .val (.int (0 : Int32))]) rfl ?_
          show Steps p.tables e below (T12.setTop (mkF m 136 #[.val (.int p1), .val (.int p2), .val (.int p3), .val (.int p4), .val (.int p5), .val (.int (2 : Int32)), .val (.ref b10), .val (.int p3), .val (.int (p3 &&& (255 : Int32))), .val (.int (0 : Int32))] [])) _
          exact Steps.refl _
        · skip
          refine ⟨(1 : Int32), by simp [own_exp, hc119, hc126], ?_⟩
          refine pre15.trans ?_
          refine XS.icmpNo X12.here hx rfl (hb hby at_126) rfl (feq hc126).1 ?_
          show Steps p.tables e below (T12.setTop (mkF m 129 #[.val (.int p1), .val (.int p2), .val (.int p3), .val (.int p4), .val (.int p5), .val (.int (2 : Int32)), .val (.ref b10), .val (.int p3), .val (.int (p3 &&& (255 : Int32))), .unset] [])) _
          refine XS.iconst X12.here hx rfl (hb hby at_129) ?_
          show Steps p.tables e below (T12.setTop (mkF m 130 #[.val (.int p1), .val (.int p2), .val (.int p3), .val (.int p4), .val (.int p5), .val (.int (2 : Int32)), .val (.ref b10), .val (.int p3), .val (.int (p3 &&& (255 : Int32))), .unset] [(.int (1 : Int32))])) _
          refine XS.goto X12.here hx rfl (pc0 := 130) (pc' := 134) rfl (hb hby at_130) (by decide) (by decide) ?_
          show Steps p.tables e below (T12.setTop (mkF m 134 #[.val (.int p1), .val (.int p2), .val (.int p3), .val (.int p4), .val (.int p5), .val (.int (2 : Int32)), .val (.ref b10), .val (.int p3), .val (.int (p3 &&& (255 : Int32))), .unset] [(.int (1 : Int32))])) _
          refine XS.istore X12.here hx rfl (hb hby at_134) rfl (l' := #[.val (.int p1), .val (.int p2), .val (.int p3), .val (.int p4), .val (.int p5), .val (.int (2 : Int32)), .val (.ref b10), .val (.int p3), .val (.int (p3 &&& (255 : Int32))), .val (.int (1 : Int32))]) rfl ?_
          show Steps p.tables e below (T12.setTop (mkF m 136 #[.val (.int p1), .val (.int p2), .val (.int p3), .val (.int p4), .val (.int p5), .val (.int (2 : Int32)), .val (.ref b10), .val (.int p3), .val (.int (p3 &&& (255 : Int32))), .val (.int (1 : Int32))] [])) _
          exact Steps.refl _
    obtain ⟨_, _, ⟨T16, L16, k16, n16⟩, -, X16, ⟨Lc16, hQ16, l16, y16, z16⟩, st16⟩ := Jvm.LawKit.callS X12 hx (y := (⟨"com/example/tsumugi/tsumugi/Segments", "endsInsideASegment", "([B)Z"⟩ : MethodName)) hown (mvT hZ (hw _ (List.mem_of_getElem? (i := 2) rfl))) (mvT hZ (hw _ (List.mem_of_getElem? (i := 3) rfl))) (mvT hZ (hw _ (List.mem_of_getElem? (i := 4) rfl))) (mvT hZ (hw _ (List.mem_of_getElem? (i := 5) rfl))) (by decide) (backOf (W := 0) (rm1 l Z a0 hw [] b10 (((newA k10 .byte (2 : Int32)).setSlot ((0 : Int32) : Int32).toNatClampNeg (.int (nar .byte (p2.toInt8.toInt32)))).setSlot ((1 : Int32) : Int32).toNatClampNeg (.int (nar .byte (p3.toInt8.toInt32)))) (2 : Int32) (nar .byte (p3.toInt8.toInt32)) h12 n0 ZA12 Ar12 (by simp only [sz_set, sz_new] <;> decide) (by decide) (by simp only [sz_set, sz_new] <;> decide) (get_hit (j := (1 : Int32)) (by simp only [sz_set, sz_new] <;> decide) (by decide)) (by decide)) hZ (hw _ (List.mem_of_getElem? (i := 5) rfl)) (hw _ (List.mem_of_getElem? (i := 4) rfl)) (by decide) (by decide)) (g := (mkF m 138 #[.val (.int p1), .val (.int p2), .val (.int p3), .val (.int p4), .val (.int p5), .val (.int (2 : Int32)), .val (.ref b10), .val (.int p3), .val (.int (p3 &&& (255 : Int32))), .val (.int ex9)] [(.ref b10)])) rfl (by rw [hml]; rfl) (argsL := [(.ref b10)]) (rest := []) (lenOf pd_1 rfl) rfl (by show 2 * 0 + _ ≤ _; exact Nat.le_of_eq rfl) (hb hby at_138) (fun _ _ => ⟨rfl, e12, (by decide : 1 + 0 ≤ _), (by decide : 2 + 0 ≤ _)⟩)
    dsimp only [Pt.U, Pt.locs, Pt.cells, Pt.slots] at X16 l16 y16 z16 st16 hQ16
    subst l16 y16 z16
    obtain ⟨rfl, M16, e16⟩ := hQ16
    have N16 := Fr.app N12 M16
    have pre16 : Steps p.tables e below (s₁.setTop (entryFrame m #[(.int p1), (.int p2), (.int p3), (.int p4), (.int p5)] maxLocals)) (T16.setTop (mkF m 141 #[.val (.int p1), .val (.int p2), .val (.int p3), .val (.int p4), .val (.int p5), .val (.int (2 : Int32)), .val (.ref b10), .val (.int p3), .val (.int (p3 &&& (255 : Int32))), .val (.int ex9)] [(.int (own_in (nar .byte (p3.toInt8.toInt32))))])) := by
      refine pre14.trans ?_
      refine XS.aload X12.here hx rfl (hb hby at_136) rfl rfl ?_
      show Steps p.tables e below (T12.setTop (mkF m 138 #[.val (.int p1), .val (.int p2), .val (.int p3), .val (.int p4), .val (.int p5), .val (.int (2 : Int32)), .val (.ref b10), .val (.int p3), .val (.int (p3 &&& (255 : Int32))), .val (.int ex9)] [(.ref b10)])) _
      exact st16 _ (Steps.refl _)
    rw [own_byte, q14] at pre16
    obtain ⟨fs, hr, hrun, hended, hW, hsame⟩ := X16.leave (v := some (.int (1 : Int32))) (fun h => by rw [Bd.returns] at h; cases h)
    refine ⟨_, _, pre16.trans ?_, hrun, hended, _, _, rfl, ?_, ⟨_, rfl⟩, hW, hsame.mono (by decide) (by decide)⟩
    · skip
      refine XS.iload X16.here hx rfl (hb hby at_141) rfl ?_
      show Steps p.tables e below (T16.setTop (mkF m 143 #[.val (.int p1), .val (.int p2), .val (.int p3), .val (.int p4), .val (.int p5), .val (.int (2 : Int32)), .val (.ref b10), .val (.int p3), .val (.int (p3 &&& (255 : Int32))), .val (.int ex9)] [(.int ex9), (.int ex9)])) _
      refine XS.icmpNo X16.here hx rfl (hb hby at_143) rfl (teq (rfl : ex9 = ex9)).2 ?_
      show Steps p.tables e below (T16.setTop (mkF m 146 #[.val (.int p1), .val (.int p2), .val (.int p3), .val (.int p4), .val (.int p5), .val (.int (2 : Int32)), .val (.ref b10), .val (.int p3), .val (.int (p3 &&& (255 : Int32))), .val (.int ex9)] [])) _
      refine XS.iconst X16.here hx rfl (hb hby at_146) ?_
      show Steps p.tables e below (T16.setTop (mkF m 147 #[.val (.int p1), .val (.int p2), .val (.int p3), .val (.int p4), .val (.int p5), .val (.int (2 : Int32)), .val (.ref b10), .val (.int p3), .val (.int (p3 &&& (255 : Int32))), .val (.int ex9)] [(.int (1 : Int32))])) _
      refine XS.goto X16.here hx rfl (pc0 := 147) (pc' := 151) rfl (hb hby at_147) (by decide) (by decide) ?_
      show Steps p.tables e below (T16.setTop (mkF m 151 #[.val (.int p1), .val (.int p2), .val (.int p3), .val (.int p4), .val (.int p5), .val (.int (2 : Int32)), .val (.ref b10), .val (.int p3), .val (.int (p3 &&& (255 : Int32))), .val (.int ex9)] [(.int (1 : Int32))])) _
      exact retN X16 hx (t := .boolean) Bd.returns (by simp) (hb hby at_151) hr
    · show Q0 Z p1 p2 p3 p4 p5  h0 n0 _ T16.heap _
      rw [e16]
      exact ⟨rfl, N16⟩
  · skip
    rw [hn] at pre1
    obtain ⟨T17, h17, k17, X17, e17, E17, A17, st17⟩ := newP X0 hx hZ (hw _ (List.mem_of_getElem? (i := 1) rfl)) e0 (g := (mkF m 10 #[.val (.int p1), .val (.int p2), .val (.int p3), .val (.int p4), .val (.int p5), .val (.int (3 : Int32)), .unset, .unset, .unset, .unset] [(.int (3 : Int32))])) rfl (hb hby at_10) rfl (by decide) (cap := 3) (by decide) (by decide) (by decide) (by decide)
    obtain ⟨b17, g17⟩ : ∃ z, z = h0.size := ⟨_, rfl⟩
    rw [← g17] at A17 st17
    have pre17 : Steps p.tables e below (s₁.setTop (entryFrame m #[(.int p1), (.int p2), (.int p3), (.int p4), (.int p5)] maxLocals)) (T17.setTop (mkF m 12 #[.val (.int p1), .val (.int p2), .val (.int p3), .val (.int p4), .val (.int p5), .val (.int (3 : Int32)), .unset, .unset, .unset, .unset] [(.ref b17)])) := by
      refine pre1.trans ?_
      refine XS.iload X0.here hx rfl (hb hby at_8) rfl ?_
      show Steps p.tables e below (s₁.setTop (mkF m 10 #[.val (.int p1), .val (.int p2), .val (.int p3), .val (.int p4), .val (.int p5), .val (.int (3 : Int32)), .unset, .unset, .unset, .unset] [(.int (3 : Int32))])) _
      exact st17 _ (Steps.refl _)
    have gb : n0 ≤ b17 := Nat.le_trans Z0 (Nat.le_of_eq g17.symm)
    have ZA : n0 ≤ h17.size := Nat.le_trans Z0 E17.1
    have Ar17 : Arr Z h17 b17 (newA k17 .byte (3 : Int32)) .byte := A17
    obtain ⟨T18, h18, X18, e18, W18, st18⟩ := stB X17 hx hZ e17 Ar17 (j := (0 : Int32)) (by simp only [sz_set, sz_new] <;> decide) (g := (mkF m 24 #[.val (.int p1), .val (.int p2), .val (.int p3), .val (.int p4), .val (.int p5), .val (.int (3 : Int32)), .val (.ref b17), .unset, .unset, .unset] [(.int (p2.toInt8.toInt32)), (.int (0 : Int32)), (.ref b17)])) rfl rfl (hb hby at_24)
    have N18 := Fr.snoc X18 N0 gb
    have pre18 : Steps p.tables e below (s₁.setTop (entryFrame m #[(.int p1), (.int p2), (.int p3), (.int p4), (.int p5)] maxLocals)) (T18.setTop (mkF m 25 #[.val (.int p1), .val (.int p2), .val (.int p3), .val (.int p4), .val (.int p5), .val (.int (3 : Int32)), .val (.ref b17), .unset, .unset, .unset] [])) := by
      refine pre17.trans ?_
      refine XS.astore X17.here hx rfl (hb hby at_12) rfl rfl (l' := #[.val (.int p1), .val (.int p2), .val (.int p3), .val (.int p4), .val (.int p5), .val (.int (3 : Int32)), .val (.ref b17), .unset, .unset, .unset]) rfl ?_
      show Steps p.tables e below (T17.setTop (mkF m 14 #[.val (.int p1), .val (.int p2), .val (.int p3), .val (.int p4), .val (.int p5), .val (.int (3 : Int32)), .val (.ref b17), .unset, .unset, .unset] [])) _
      refine XS.iload X17.here hx rfl (hb hby at_14) rfl ?_
      show Steps p.tables e below (T17.setTop (mkF m 16 #[.val (.int p1), .val (.int p2), .val (.int p3), .val (.int p4), .val (.int p5), .val (.int (3 : Int32)), .val (.ref b17), .unset, .unset, .unset] [(.int (3 : Int32))])) _
      refine XS.ifNo X17.here hx rfl (hb hby at_16) rfl (by decide) ?_
      show Steps p.tables e below (T17.setTop (mkF m 19 #[.val (.int p1), .val (.int p2), .val (.int p3), .val (.int p4), .val (.int p5), .val (.int (3 : Int32)), .val (.ref b17), .unset, .unset, .unset] [])) _
      refine XS.aload X17.here hx rfl (hb hby at_19) rfl rfl ?_
      show Steps p.tables e below (T17.setTop (mkF m 21 #[.val (.int p1), .val (.int p2), .val (.int p3), .val (.int p4), .val (.int p5), .val (.int (3 : Int32)), .val (.ref b17), .unset, .unset, .unset] [(.ref b17)])) _
      refine XS.iconst X17.here hx rfl (hb hby at_21) ?_
      show Steps p.tables e below (T17.setTop (mkF m 22 #[.val (.int p1), .val (.int p2), .val (.int p3), .val (.int p4), .val (.int p5), .val (.int (3 : Int32)), .val (.ref b17), .unset, .unset, .unset] [(.int (0 : Int32)), (.ref b17)])) _
      refine XS.iloadN X17.here hx rfl (hb hby at_22) rfl ?_
      show Steps p.tables e below (T17.setTop (mkF m 23 #[.val (.int p1), .val (.int p2), .val (.int p3), .val (.int p4), .val (.int p5), .val (.int (3 : Int32)), .val (.ref b17), .unset, .unset, .unset] [(.int p2), (.int (0 : Int32)), (.ref b17)])) _
      refine XS.i2b X17.here hx rfl (hb hby at_23) rfl ?_
      show Steps p.tables e below (T17.setTop (mkF m 24 #[.val (.int p1), .val (.int p2), .val (.int p3), .val (.int p4), .val (.int p5), .val (.int (3 : Int32)), .val (.ref b17), .unset, .unset, .unset] [(.int (p2.toInt8.toInt32)), (.int (0 : Int32)), (.ref b17)])) _
      exact st18 _ (Steps.refl _)
    have Ar18 : Arr Z h18 b17 ((newA k17 .byte (3 : Int32)).setSlot ((0 : Int32) : Int32).toNatClampNeg (.int (nar .byte (p2.toInt8.toInt32)))) .byte := Ar17.same W18
    have ZA18 : n0 ≤ h18.size := by rw [W18.size]; exact ZA
    obtain ⟨T19, h19, X19, e19, W19, st19⟩ := stB X18 hx hZ e18 Ar18 (j := (1 : Int32)) (by simp only [sz_set, sz_new] <;> decide) (g := (mkF m 36 #[.val (.int p1), .val (.int p2), .val (.int p3), .val (.int p4), .val (.int p5), .val (.int (3 : Int32)), .val (.ref b17), .unset, .unset, .unset] [(.int (p3.toInt8.toInt32)), (.int (1 : Int32)), (.ref b17)])) rfl rfl (hb hby at_36)
    have N19 := Fr.snoc X19 N18 gb
    have pre19 : Steps p.tables e below (s₁.setTop (entryFrame m #[(.int p1), (.int p2), (.int p3), (.int p4), (.int p5)] maxLocals)) (T19.setTop (mkF m 37 #[.val (.int p1), .val (.int p2), .val (.int p3), .val (.int p4), .val (.int p5), .val (.int (3 : Int32)), .val (.ref b17), .unset, .unset, .unset] [])) := by
      refine pre18.trans ?_
      refine XS.iload X18.here hx rfl (hb hby at_25) rfl ?_
      show Steps p.tables e below (T18.setTop (mkF m 27 #[.val (.int p1), .val (.int p2), .val (.int p3), .val (.int p4), .val (.int p5), .val (.int (3 : Int32)), .val (.ref b17), .unset, .unset, .unset] [(.int (3 : Int32))])) _
      refine XS.iconst X18.here hx rfl (hb hby at_27) ?_
      show Steps p.tables e below (T18.setTop (mkF m 28 #[.val (.int p1), .val (.int p2), .val (.int p3), .val (.int p4), .val (.int p5), .val (.int (3 : Int32)), .val (.ref b17), .unset, .unset, .unset] [(.int (1 : Int32)), (.int (3 : Int32))])) _
      refine XS.icmpNo X18.here hx rfl (hb hby at_28) rfl (by decide) ?_
      show Steps p.tables e below (T18.setTop (mkF m 31 #[.val (.int p1), .val (.int p2), .val (.int p3), .val (.int p4), .val (.int p5), .val (.int (3 : Int32)), .val (.ref b17), .unset, .unset, .unset] [])) _
      refine XS.aload X18.here hx rfl (hb hby at_31) rfl rfl ?_
      show Steps p.tables e below (T18.setTop (mkF m 33 #[.val (.int p1), .val (.int p2), .val (.int p3), .val (.int p4), .val (.int p5), .val (.int (3 : Int32)), .val (.ref b17), .unset, .unset, .unset] [(.ref b17)])) _
      refine XS.iconst X18.here hx rfl (hb hby at_33) ?_
      show Steps p.tables e below (T18.setTop (mkF m 34 #[.val (.int p1), .val (.int p2), .val (.int p3), .val (.int p4), .val (.int p5), .val (.int (3 : Int32)), .val (.ref b17), .unset, .unset, .unset] [(.int (1 : Int32)), (.ref b17)])) _
      refine XS.iloadN X18.here hx rfl (hb hby at_34) rfl ?_
      show Steps p.tables e below (T18.setTop (mkF m 35 #[.val (.int p1), .val (.int p2), .val (.int p3), .val (.int p4), .val (.int p5), .val (.int (3 : Int32)), .val (.ref b17), .unset, .unset, .unset] [(.int p3), (.int (1 : Int32)), (.ref b17)])) _
      refine XS.i2b X18.here hx rfl (hb hby at_35) rfl ?_
      show Steps p.tables e below (T18.setTop (mkF m 36 #[.val (.int p1), .val (.int p2), .val (.int p3), .val (.int p4), .val (.int p5), .val (.int (3 : Int32)), .val (.ref b17), .unset, .unset, .unset] [(.int (p3.toInt8.toInt32)), (.int (1 : Int32)), (.ref b17)])) _
      exact st19 _ (Steps.refl _)
    have Ar19 : Arr Z h19 b17 (((newA k17 .byte (3 : Int32)).setSlot ((0 : Int32) : Int32).toNatClampNeg (.int (nar .byte (p2.toInt8.toInt32)))).setSlot ((1 : Int32) : Int32).toNatClampNeg (.int (nar .byte (p3.toInt8.toInt32)))) .byte := Ar18.same W19
    have ZA19 : n0 ≤ h19.size := by rw [W19.size]; exact ZA18
    obtain ⟨T20, h20, X20, e20, W20, st20⟩ := stB X19 hx hZ e19 Ar19 (j := (2 : Int32)) (by simp only [sz_set, sz_new] <;> decide) (g := (mkF m 48 #[.val (.int p1), .val (.int p2), .val (.int p3), .val (.int p4), .val (.int p5), .val (.int (3 : Int32)), .val (.ref b17), .unset, .unset, .unset] [(.int (p4.toInt8.toInt32)), (.int (2 : Int32)), (.ref b17)])) rfl rfl (hb hby at_48)
    have N20 := Fr.snoc X20 N19 gb
    have pre20 : Steps p.tables e below (s₁.setTop (entryFrame m #[(.int p1), (.int p2), (.int p3), (.int p4), (.int p5)] maxLocals)) (T20.setTop (mkF m 49 #[.val (.int p1), .val (.int p2), .val (.int p3), .val (.int p4), .val (.int p5), .val (.int (3 : Int32)), .val (.ref b17), .unset, .unset, .unset] [])) := by
      refine pre19.trans ?_
      refine XS.iload X19.here hx rfl (hb hby at_37) rfl ?_
      show Steps p.tables e below (T19.setTop (mkF m 39 #[.val (.int p1), .val (.int p2), .val (.int p3), .val (.int p4), .val (.int p5), .val (.int (3 : Int32)), .val (.ref b17), .unset, .unset, .unset] [(.int (3 : Int32))])) _
      refine XS.iconst X19.here hx rfl (hb hby at_39) ?_
      show Steps p.tables e below (T19.setTop (mkF m 40 #[.val (.int p1), .val (.int p2), .val (.int p3), .val (.int p4), .val (.int p5), .val (.int (3 : Int32)), .val (.ref b17), .unset, .unset, .unset] [(.int (2 : Int32)), (.int (3 : Int32))])) _
      refine XS.icmpNo X19.here hx rfl (hb hby at_40) rfl (by decide) ?_
      show Steps p.tables e below (T19.setTop (mkF m 43 #[.val (.int p1), .val (.int p2), .val (.int p3), .val (.int p4), .val (.int p5), .val (.int (3 : Int32)), .val (.ref b17), .unset, .unset, .unset] [])) _
      refine XS.aload X19.here hx rfl (hb hby at_43) rfl rfl ?_
      show Steps p.tables e below (T19.setTop (mkF m 45 #[.val (.int p1), .val (.int p2), .val (.int p3), .val (.int p4), .val (.int p5), .val (.int (3 : Int32)), .val (.ref b17), .unset, .unset, .unset] [(.ref b17)])) _
      refine XS.iconst X19.here hx rfl (hb hby at_45) ?_
      show Steps p.tables e below (T19.setTop (mkF m 46 #[.val (.int p1), .val (.int p2), .val (.int p3), .val (.int p4), .val (.int p5), .val (.int (3 : Int32)), .val (.ref b17), .unset, .unset, .unset] [(.int (2 : Int32)), (.ref b17)])) _
      refine XS.iloadN X19.here hx rfl (hb hby at_46) rfl ?_
      show Steps p.tables e below (T19.setTop (mkF m 47 #[.val (.int p1), .val (.int p2), .val (.int p3), .val (.int p4), .val (.int p5), .val (.int (3 : Int32)), .val (.ref b17), .unset, .unset, .unset] [(.int p4), (.int (2 : Int32)), (.ref b17)])) _
      refine XS.i2b X19.here hx rfl (hb hby at_47) rfl ?_
      show Steps p.tables e below (T19.setTop (mkF m 48 #[.val (.int p1), .val (.int p2), .val (.int p3), .val (.int p4), .val (.int p5), .val (.int (3 : Int32)), .val (.ref b17), .unset, .unset, .unset] [(.int (p4.toInt8.toInt32)), (.int (2 : Int32)), (.ref b17)])) _
      exact st20 _ (Steps.refl _)
    have Ar20 : Arr Z h20 b17 ((((newA k17 .byte (3 : Int32)).setSlot ((0 : Int32) : Int32).toNatClampNeg (.int (nar .byte (p2.toInt8.toInt32)))).setSlot ((1 : Int32) : Int32).toNatClampNeg (.int (nar .byte (p3.toInt8.toInt32)))).setSlot ((2 : Int32) : Int32).toNatClampNeg (.int (nar .byte (p4.toInt8.toInt32)))) .byte := Ar19.same W20
    have ZA20 : n0 ≤ h20.size := by rw [W20.size]; exact ZA19
    have pre21 : Steps p.tables e below (s₁.setTop (entryFrame m #[(.int p1), (.int p2), (.int p3), (.int p4), (.int p5)] maxLocals)) (T20.setTop (mkF m 119 #[.val (.int p1), .val (.int p2), .val (.int p3), .val (.int p4), .val (.int p5), .val (.int (3 : Int32)), .val (.ref b17), .val (.int p4), .val (.int (p4 &&& (255 : Int32))), .unset] [(.int (13 : Int32)), (.int (p4 &&& (255 : Int32)))])) := by
      refine pre20.trans ?_
      refine XS.iload X20.here hx rfl (hb hby at_49) rfl ?_
      show Steps p.tables e below (T20.setTop (mkF m 51 #[.val (.int p1), .val (.int p2), .val (.int p3), .val (.int p4), .val (.int p5), .val (.int (3 : Int32)), .val (.ref b17), .unset, .unset, .unset] [(.int (3 : Int32))])) _
      refine XS.iconst X20.here hx rfl (hb hby at_51) ?_
      show Steps p.tables e below (T20.setTop (mkF m 52 #[.val (.int p1), .val (.int p2), .val (.int p3), .val (.int p4), .val (.int p5), .val (.int (3 : Int32)), .val (.ref b17), .unset, .unset, .unset] [(.int (3 : Int32)), (.int (3 : Int32))])) _
      refine XS.icmpYes X20.here hx rfl (pc0 := 52) (pc' := 62) rfl (hb hby at_52) rfl (by decide) (by decide) (by decide) ?_
      show Steps p.tables e below (T20.setTop (mkF m 62 #[.val (.int p1), .val (.int p2), .val (.int p3), .val (.int p4), .val (.int p5), .val (.int (3 : Int32)), .val (.ref b17), .unset, .unset, .unset] [])) _
      refine XS.iload X20.here hx rfl (hb hby at_62) rfl ?_
      show Steps p.tables e below (T20.setTop (mkF m 64 #[.val (.int p1), .val (.int p2), .val (.int p3), .val (.int p4), .val (.int p5), .val (.int (3 : Int32)), .val (.ref b17), .unset, .unset, .unset] [(.int (3 : Int32))])) _
      refine XS.iconst X20.here hx rfl (hb hby at_64) ?_
      show Steps p.tables e below (T20.setTop (mkF m 65 #[.val (.int p1), .val (.int p2), .val (.int p3), .val (.int p4), .val (.int p5), .val (.int (3 : Int32)), .val (.ref b17), .unset, .unset, .unset] [(.int (4 : Int32)), (.int (3 : Int32))])) _
      refine XS.icmpYes X20.here hx rfl (pc0 := 65) (pc' := 75) rfl (hb hby at_65) rfl (by decide) (by decide) (by decide) ?_
      show Steps p.tables e below (T20.setTop (mkF m 75 #[.val (.int p1), .val (.int p2), .val (.int p3), .val (.int p4), .val (.int p5), .val (.int (3 : Int32)), .val (.ref b17), .unset, .unset, .unset] [])) _
      refine XS.iload X20.here hx rfl (hb hby at_75) rfl ?_
      show Steps p.tables e below (T20.setTop (mkF m 77 #[.val (.int p1), .val (.int p2), .val (.int p3), .val (.int p4), .val (.int p5), .val (.int (3 : Int32)), .val (.ref b17), .unset, .unset, .unset] [(.int (3 : Int32))])) _
      refine XS.iconst X20.here hx rfl (hb hby at_77) ?_
      show Steps p.tables e below (T20.setTop (mkF m 78 #[.val (.int p1), .val (.int p2), .val (.int p3), .val (.int p4), .val (.int p5), .val (.int (3 : Int32)), .val (.ref b17), .unset, .unset, .unset] [(.int (3 : Int32)), (.int (3 : Int32))])) _
      refine XS.icmpNo X20.here hx rfl (hb hby at_78) rfl (by decide) ?_
      show Steps p.tables e below (T20.setTop (mkF m 81 #[.val (.int p1), .val (.int p2), .val (.int p3), .val (.int p4), .val (.int p5), .val (.int (3 : Int32)), .val (.ref b17), .unset, .unset, .unset] [])) _
      refine XS.iloadN X20.here hx rfl (hb hby at_81) rfl ?_
      show Steps p.tables e below (T20.setTop (mkF m 82 #[.val (.int p1), .val (.int p2), .val (.int p3), .val (.int p4), .val (.int p5), .val (.int (3 : Int32)), .val (.ref b17), .unset, .unset, .unset] [(.int p4)])) _
      refine XS.istore X20.here hx rfl (hb hby at_82) rfl (l' := #[.val (.int p1), .val (.int p2), .val (.int p3), .val (.int p4), .val (.int p5), .val (.int (3 : Int32)), .val (.ref b17), .val (.int p4), .unset, .unset]) rfl ?_
      show Steps p.tables e below (T20.setTop (mkF m 84 #[.val (.int p1), .val (.int p2), .val (.int p3), .val (.int p4), .val (.int p5), .val (.int (3 : Int32)), .val (.ref b17), .val (.int p4), .unset, .unset] [])) _
      refine XS.goto X20.here hx rfl (pc0 := 84) (pc' := 102) rfl (hb hby at_84) (by decide) (by decide) ?_
      show Steps p.tables e below (T20.setTop (mkF m 102 #[.val (.int p1), .val (.int p2), .val (.int p3), .val (.int p4), .val (.int p5), .val (.int (3 : Int32)), .val (.ref b17), .val (.int p4), .unset, .unset] [])) _
      refine XS.iload X20.here hx rfl (hb hby at_102) rfl ?_
      show Steps p.tables e below (T20.setTop (mkF m 104 #[.val (.int p1), .val (.int p2), .val (.int p3), .val (.int p4), .val (.int p5), .val (.int (3 : Int32)), .val (.ref b17), .val (.int p4), .unset, .unset] [(.int p4)])) _
      refine XS.sipush X20.here hx rfl (hb hby at_104) ?_
      show Steps p.tables e below (T20.setTop (mkF m 107 #[.val (.int p1), .val (.int p2), .val (.int p3), .val (.int p4), .val (.int p5), .val (.int (3 : Int32)), .val (.ref b17), .val (.int p4), .unset, .unset] [(.int (255 : Int32)), (.int p4)])) _
      refine XS.iand X20.here hx rfl (hb hby at_107) rfl ?_
      show Steps p.tables e below (T20.setTop (mkF m 108 #[.val (.int p1), .val (.int p2), .val (.int p3), .val (.int p4), .val (.int p5), .val (.int (3 : Int32)), .val (.ref b17), .val (.int p4), .unset, .unset] [(.int (p4 &&& (255 : Int32)))])) _
      refine XS.istore X20.here hx rfl (hb hby at_108) rfl (l' := #[.val (.int p1), .val (.int p2), .val (.int p3), .val (.int p4), .val (.int p5), .val (.int (3 : Int32)), .val (.ref b17), .val (.int p4), .val (.int (p4 &&& (255 : Int32))), .unset]) rfl ?_
      show Steps p.tables e below (T20.setTop (mkF m 110 #[.val (.int p1), .val (.int p2), .val (.int p3), .val (.int p4), .val (.int p5), .val (.int (3 : Int32)), .val (.ref b17), .val (.int p4), .val (.int (p4 &&& (255 : Int32))), .unset] [])) _
      refine XS.iload X20.here hx rfl (hb hby at_110) rfl ?_
      show Steps p.tables e below (T20.setTop (mkF m 112 #[.val (.int p1), .val (.int p2), .val (.int p3), .val (.int p4), .val (.int p5), .val (.int (3 : Int32)), .val (.ref b17), .val (.int p4), .val (.int (p4 &&& (255 : Int32))), .unset] [(.int (3 : Int32))])) _
      refine XS.ifNo X20.here hx rfl (hb hby at_112) rfl (by decide) ?_
      show Steps p.tables e below (T20.setTop (mkF m 115 #[.val (.int p1), .val (.int p2), .val (.int p3), .val (.int p4), .val (.int p5), .val (.int (3 : Int32)), .val (.ref b17), .val (.int p4), .val (.int (p4 &&& (255 : Int32))), .unset] [])) _
      refine XS.iload X20.here hx rfl (hb hby at_115) rfl ?_
      show Steps p.tables e below (T20.setTop (mkF m 117 #[.val (.int p1), .val (.int p2), .val (.int p3), .val (.int p4), .val (.int p5), .val (.int (3 : Int32)), .val (.ref b17), .val (.int p4), .val (.int (p4 &&& (255 : Int32))), .unset] [(.int (p4 &&& (255 : Int32)))])) _
      refine XS.bipush X20.here hx rfl (hb hby at_117) ?_
      show Steps p.tables e below (T20.setTop (mkF m 119 #[.val (.int p1), .val (.int p2), .val (.int p3), .val (.int p4), .val (.int p5), .val (.int (3 : Int32)), .val (.ref b17), .val (.int p4), .val (.int (p4 &&& (255 : Int32))), .unset] [(.int (13 : Int32)), (.int (p4 &&& (255 : Int32)))])) _
      exact Steps.refl _
    obtain ⟨ex9, q22, pre22⟩ : ∃ (ex9 : Int32), (own_exp p4 = ex9) ∧ Steps p.tables e below (s₁.setTop (entryFrame m #[(.int p1), (.int p2), (.int p3), (.int p4), (.int p5)] maxLocals)) (T20.setTop (mkF m 136 #[.val (.int p1), .val (.int p2), .val (.int p3), .val (.int p4), .val (.int p5), .val (.int (3 : Int32)), .val (.ref b17), .val (.int p4), .val (.int (p4 &&& (255 : Int32))), .val (.int ex9)] [])) := by
      by_cases hc119 : (p4 &&& (255 : Int32)) = (13 : Int32)
      · skip
        refine ⟨(0 : Int32), by simp [own_exp, hc119], ?_⟩
        refine pre21.trans ?_
        refine XS.icmpYes X20.here hx rfl (pc0 := 119) (pc' := 133) rfl (hb hby at_119) rfl (teq hc119).1 (by decide) (by decide) ?_
        show Steps p.tables e below (T20.setTop (mkF m 133 #[.val (.int p1), .val (.int p2), .val (.int p3), .val (.int p4), .val (.int p5), .val (.int (3 : Int32)), .val (.ref b17), .val (.int p4), .val (.int (p4 &&& (255 : Int32))), .unset] [])) _
        refine XS.iconst X20.here hx rfl (hb hby at_133) ?_
        show Steps p.tables e below (T20.setTop (mkF m 134 #[.val (.int p1), .val (.int p2), .val (.int p3), .val (.int p4), .val (.int p5), .val (.int (3 : Int32)), .val (.ref b17), .val (.int p4), .val (.int (p4 &&& (255 : Int32))), .unset] [(.int (0 : Int32))])) _
        refine XS.istore X20.here hx rfl (hb hby at_134) rfl (l' := #[.val (.int p1), .val (.int p2), .val (.int p3), .val (.int p4), .val (.int p5), .val (.int (3 : Int32)), .val (.ref b17), .val (.int p4), .val (.int (p4 &&& (255 : Int32))), .val (.int (0 : Int32))]) rfl ?_
        show Steps p.tables e below (T20.setTop (mkF m 136 #[.val (.int p1), .val (.int p2), .val (.int p3), .val (.int p4), .val (.int p5), .val (.int (3 : Int32)), .val (.ref b17), .val (.int p4), .val (.int (p4 &&& (255 : Int32))), .val (.int (0 : Int32))] [])) _
        exact Steps.refl _
      · skip
        have pre23 : Steps p.tables e below (s₁.setTop (entryFrame m #[(.int p1), (.int p2), (.int p3), (.int p4), (.int p5)] maxLocals)) (T20.setTop (mkF m 126 #[.val (.int p1), .val (.int p2), .val (.int p3), .val (.int p4), .val (.int p5), .val (.int (3 : Int32)), .val (.ref b17), .val (.int p4), .val (.int (p4 &&& (255 : Int32))), .unset] [(.int (10 : Int32)), (.int (p4 &&& (255 : Int32)))])) := by
          refine pre21.trans ?_
          refine XS.icmpNo X20.here hx rfl (hb hby at_119) rfl (feq hc119).1 ?_
          show Steps p.tables e below (T20.setTop (mkF m 122 #[.val (.int p1), .val (.int p2), .val (.int p3), .val (.int p4), .val (.int p5), .val (.int (3 : Int32)), .val (.ref b17), .val (.int p4), .val (.int (p4 &&& (255 : Int32))), .unset] [])) _
          refine XS.iload X20.here hx rfl (hb hby at_122) rfl ?_
          show Steps p.tables e below (T20.setTop (mkF m 124 #[.val (.int p1), .val (.int p2), .val (.int p3), .val (.int p4), .val (.int p5), .val (.int (3 : Int32)), .val (.ref b17), .val (.int p4), .val (.int (p4 &&& (255 : Int32))), .unset] [(.int (p4 &&& (255 : Int32)))])) _
          refine XS.bipush X20.here hx rfl (hb hby at_124) ?_
          show Steps p.tables e below (T20.setTop (mkF m 126 #[.val (.int p1), .val (.int p2), .val (.int p3), .val (.int p4), .val (.int p5), .val (.int (3 : Int32)), .val (.ref b17), .val (.int p4), .val (.int (p4 &&& (255 : Int32))), .unset] [(.int (10 : Int32)), (.int (p4 &&& (255 : Int32)))])) _
          exact Steps.refl _
        by_cases hc126 : (p4 &&& (255 : Int32)) = (10 : Int32)
        · skip
          refine ⟨(0 : Int32), by simp [own_exp, hc119, hc126], ?_⟩
          refine pre23.trans ?_
          refine XS.icmpYes X20.here hx rfl (pc0 := 126) (pc' := 133) rfl (hb hby at_126) rfl (teq hc126).1 (by decide) (by decide) ?_
          show Steps p.tables e below (T20.setTop (mkF m 133 #[.val (.int p1), .val (.int p2), .val (.int p3), .val (.int p4), .val (.int p5), .val (.int (3 : Int32)), .val (.ref b17), .val (.int p4), .val (.int (p4 &&& (255 : Int32))), .unset] [])) _
          refine XS.iconst X20.here hx rfl (hb hby at_133) ?_
          show Steps p.tables e below (T20.setTop (mkF m 134 #[.val (.int p1), .val (.int p2), .val (.int p3), .val (.int p4), .val (.int p5), .val (.int (3 : Int32)), .val (.ref b17), .val (.int p4), .val (.int (p4 &&& (255 : Int32))), .unset] [(.int (0 : Int32))])) _
          refine XS.istore X20.here hx rfl (hb hby at_134) rfl (l' := #[.val (.int p1), .val (.int p2), .val (.int p3), .val (.int p4), .val (.int p5), .val (.int (3 : Int32)), .val (.ref b17), .val (.int p4), .val (.int (p4 &&& (255 : Int32))), .val (.int (0 : Int32))]) rfl ?_
          show Steps p.tables e below (T20.setTop (mkF m 136 #[.val (.int p1), .val (.int p2), .val (.int p3), .val (.int p4), .val (.int p5), .val (.int (3 : Int32)), .val (.ref b17), .val (.int p4), .val (.int (p4 &&& (255 : Int32))), .val (.int (0 : Int32))] [])) _
          exact Steps.refl _
        · skip
          refine ⟨(1 : Int32), by simp [own_exp, hc119, hc126], ?_⟩
          refine pre23.trans ?_
          refine XS.icmpNo X20.here hx rfl (hb hby at_126) rfl (feq hc126).1 ?_
          show Steps p.tables e below (T20.setTop (mkF m 129 #[.val (.int p1), .val (.int p2), .val (.int p3), .val (.int p4), .val (.int p5), .val (.int (3 : Int32)), .val (.ref b17), .val (.int p4), .val (.int (p4 &&& (255 : Int32))), .unset] [])) _
          refine XS.iconst X20.here hx rfl (hb hby at_129) ?_
          show Steps p.tables e below (T20.setTop (mkF m 130 #[.val (.int p1), .val (.int p2), .val (.int p3), .val (.int p4), .val (.int p5), .val (.int (3 : Int32)), .val (.ref b17), .val (.int p4), .val (.int (p4 &&& (255 : Int32))), .unset] [(.int (1 : Int32))])) _
          refine XS.goto X20.here hx rfl (pc0 := 130) (pc' := 134) rfl (hb hby at_130) (by decide) (by decide) ?_
          show Steps p.tables e below (T20.setTop (mkF m 134 #[.val (.int p1), .val (.int p2), .val (.int p3), .val (.int p4), .val (.int p5), .val (.int (3 : Int32)), .val (.ref b17), .val (.int p4), .val (.int (p4 &&& (255 : Int32))), .unset] [(.int (1 : Int32))])) _
          refine XS.istore X20.here hx rfl (hb hby at_134) rfl (l' := #[.val (.int p1), .val (.int p2), .val (.int p3), .val (.int p4), .val (.int p5), .val (.int (3 : Int32)), .val (.ref b17), .val (.int p4), .val (.int (p4 &&& (255 : Int32))), .val (.int (1 : Int32))]) rfl ?_
          show Steps p.tables e below (T20.setTop (mkF m 136 #[.val (.int p1), .val (.int p2), .val (.int p3), .val (.int p4), .val (.int p5), .val (.int (3 : Int32)), .val (.ref b17), .val (.int p4), .val (.int (p4 &&& (255 : Int32))), .val (.int (1 : Int32))] [])) _
          exact Steps.refl _
    obtain ⟨_, _, ⟨T24, L24, k24, n24⟩, -, X24, ⟨Lc24, hQ24, l24, y24, z24⟩, st24⟩ := Jvm.LawKit.callS X20 hx (y := (⟨"com/example/tsumugi/tsumugi/Segments", "endsInsideASegment", "([B)Z"⟩ : MethodName)) hown (mvT hZ (hw _ (List.mem_of_getElem? (i := 2) rfl))) (mvT hZ (hw _ (List.mem_of_getElem? (i := 3) rfl))) (mvT hZ (hw _ (List.mem_of_getElem? (i := 4) rfl))) (mvT hZ (hw _ (List.mem_of_getElem? (i := 5) rfl))) (by decide) (backOf (W := 0) (rm1 l Z a0 hw [] b17 ((((newA k17 .byte (3 : Int32)).setSlot ((0 : Int32) : Int32).toNatClampNeg (.int (nar .byte (p2.toInt8.toInt32)))).setSlot ((1 : Int32) : Int32).toNatClampNeg (.int (nar .byte (p3.toInt8.toInt32)))).setSlot ((2 : Int32) : Int32).toNatClampNeg (.int (nar .byte (p4.toInt8.toInt32)))) (3 : Int32) (nar .byte (p4.toInt8.toInt32)) h20 n0 ZA20 Ar20 (by simp only [sz_set, sz_new] <;> decide) (by decide) (by simp only [sz_set, sz_new] <;> decide) (get_hit (j := (2 : Int32)) (by simp only [sz_set, sz_new] <;> decide) (by decide)) (by decide)) hZ (hw _ (List.mem_of_getElem? (i := 5) rfl)) (hw _ (List.mem_of_getElem? (i := 4) rfl)) (by decide) (by decide)) (g := (mkF m 138 #[.val (.int p1), .val (.int p2), .val (.int p3), .val (.int p4), .val (.int p5), .val (.int (3 : Int32)), .val (.ref b17), .val (.int p4), .val (.int (p4 &&& (255 : Int32))), .val (.int ex9)] [(.ref b17)])) rfl (by rw [hml]; rfl) (argsL := [(.ref b17)]) (rest := []) (lenOf pd_1 rfl) rfl (by show 2 * 0 + _ ≤ _; exact Nat.le_of_eq rfl) (hb hby at_138) (fun _ _ => ⟨rfl, e20, (by decide : 1 + 0 ≤ _), (by decide : 3 + 0 ≤ _)⟩)
    dsimp only [Pt.U, Pt.locs, Pt.cells, Pt.slots] at X24 l24 y24 z24 st24 hQ24
    subst l24 y24 z24
    obtain ⟨rfl, M24, e24⟩ := hQ24
    have N24 := Fr.app N20 M24
    have pre24 : Steps p.tables e below (s₁.setTop (entryFrame m #[(.int p1), (.int p2), (.int p3), (.int p4), (.int p5)] maxLocals)) (T24.setTop (mkF m 141 #[.val (.int p1), .val (.int p2), .val (.int p3), .val (.int p4), .val (.int p5), .val (.int (3 : Int32)), .val (.ref b17), .val (.int p4), .val (.int (p4 &&& (255 : Int32))), .val (.int ex9)] [(.int (own_in (nar .byte (p4.toInt8.toInt32))))])) := by
      refine pre22.trans ?_
      refine XS.aload X20.here hx rfl (hb hby at_136) rfl rfl ?_
      show Steps p.tables e below (T20.setTop (mkF m 138 #[.val (.int p1), .val (.int p2), .val (.int p3), .val (.int p4), .val (.int p5), .val (.int (3 : Int32)), .val (.ref b17), .val (.int p4), .val (.int (p4 &&& (255 : Int32))), .val (.int ex9)] [(.ref b17)])) _
      exact st24 _ (Steps.refl _)
    rw [own_byte, q22] at pre24
    obtain ⟨fs, hr, hrun, hended, hW, hsame⟩ := X24.leave (v := some (.int (1 : Int32))) (fun h => by rw [Bd.returns] at h; cases h)
    refine ⟨_, _, pre24.trans ?_, hrun, hended, _, _, rfl, ?_, ⟨_, rfl⟩, hW, hsame.mono (by decide) (by decide)⟩
    · skip
      refine XS.iload X24.here hx rfl (hb hby at_141) rfl ?_
      show Steps p.tables e below (T24.setTop (mkF m 143 #[.val (.int p1), .val (.int p2), .val (.int p3), .val (.int p4), .val (.int p5), .val (.int (3 : Int32)), .val (.ref b17), .val (.int p4), .val (.int (p4 &&& (255 : Int32))), .val (.int ex9)] [(.int ex9), (.int ex9)])) _
      refine XS.icmpNo X24.here hx rfl (hb hby at_143) rfl (teq (rfl : ex9 = ex9)).2 ?_
      show Steps p.tables e below (T24.setTop (mkF m 146 #[.val (.int p1), .val (.int p2), .val (.int p3), .val (.int p4), .val (.int p5), .val (.int (3 : Int32)), .val (.ref b17), .val (.int p4), .val (.int (p4 &&& (255 : Int32))), .val (.int ex9)] [])) _
      refine XS.iconst X24.here hx rfl (hb hby at_146) ?_
      show Steps p.tables e below (T24.setTop (mkF m 147 #[.val (.int p1), .val (.int p2), .val (.int p3), .val (.int p4), .val (.int p5), .val (.int (3 : Int32)), .val (.ref b17), .val (.int p4), .val (.int (p4 &&& (255 : Int32))), .val (.int ex9)] [(.int (1 : Int32))])) _
      refine XS.goto X24.here hx rfl (pc0 := 147) (pc' := 151) rfl (hb hby at_147) (by decide) (by decide) ?_
      show Steps p.tables e below (T24.setTop (mkF m 151 #[.val (.int p1), .val (.int p2), .val (.int p3), .val (.int p4), .val (.int p5), .val (.int (3 : Int32)), .val (.ref b17), .val (.int p4), .val (.int (p4 &&& (255 : Int32))), .val (.int ex9)] [(.int (1 : Int32))])) _
      exact retN X24 hx (t := .boolean) Bd.returns (by simp) (hb hby at_151) hr
    · show Q0 Z p1 p2 p3 p4 p5  h0 n0 _ T24.heap _
      rw [e24]
      exact ⟨rfl, N24⟩
  · skip
    rw [hn] at pre1
    obtain ⟨T25, h25, k25, X25, e25, E25, A25, st25⟩ := newP X0 hx hZ (hw _ (List.mem_of_getElem? (i := 1) rfl)) e0 (g := (mkF m 10 #[.val (.int p1), .val (.int p2), .val (.int p3), .val (.int p4), .val (.int p5), .val (.int (4 : Int32)), .unset, .unset, .unset, .unset] [(.int (4 : Int32))])) rfl (hb hby at_10) rfl (by decide) (cap := 4) (by decide) (by decide) (by decide) (by decide)
    obtain ⟨b25, g25⟩ : ∃ z, z = h0.size := ⟨_, rfl⟩
    rw [← g25] at A25 st25
    have pre25 : Steps p.tables e below (s₁.setTop (entryFrame m #[(.int p1), (.int p2), (.int p3), (.int p4), (.int p5)] maxLocals)) (T25.setTop (mkF m 12 #[.val (.int p1), .val (.int p2), .val (.int p3), .val (.int p4), .val (.int p5), .val (.int (4 : Int32)), .unset, .unset, .unset, .unset] [(.ref b25)])) := by
      refine pre1.trans ?_
      refine XS.iload X0.here hx rfl (hb hby at_8) rfl ?_
      show Steps p.tables e below (s₁.setTop (mkF m 10 #[.val (.int p1), .val (.int p2), .val (.int p3), .val (.int p4), .val (.int p5), .val (.int (4 : Int32)), .unset, .unset, .unset, .unset] [(.int (4 : Int32))])) _
      exact st25 _ (Steps.refl _)
    have gb : n0 ≤ b25 := Nat.le_trans Z0 (Nat.le_of_eq g25.symm)
    have ZA : n0 ≤ h25.size := Nat.le_trans Z0 E25.1
    have Ar25 : Arr Z h25 b25 (newA k25 .byte (4 : Int32)) .byte := A25
    obtain ⟨T26, h26, X26, e26, W26, st26⟩ := stB X25 hx hZ e25 Ar25 (j := (0 : Int32)) (by simp only [sz_set, sz_new] <;> decide) (g := (mkF m 24 #[.val (.int p1), .val (.int p2), .val (.int p3), .val (.int p4), .val (.int p5), .val (.int (4 : Int32)), .val (.ref b25), .unset, .unset, .unset] [(.int (p2.toInt8.toInt32)), (.int (0 : Int32)), (.ref b25)])) rfl rfl (hb hby at_24)
    have N26 := Fr.snoc X26 N0 gb
    have pre26 : Steps p.tables e below (s₁.setTop (entryFrame m #[(.int p1), (.int p2), (.int p3), (.int p4), (.int p5)] maxLocals)) (T26.setTop (mkF m 25 #[.val (.int p1), .val (.int p2), .val (.int p3), .val (.int p4), .val (.int p5), .val (.int (4 : Int32)), .val (.ref b25), .unset, .unset, .unset] [])) := by
      refine pre25.trans ?_
      refine XS.astore X25.here hx rfl (hb hby at_12) rfl rfl (l' := #[.val (.int p1), .val (.int p2), .val (.int p3), .val (.int p4), .val (.int p5), .val (.int (4 : Int32)), .val (.ref b25), .unset, .unset, .unset]) rfl ?_
      show Steps p.tables e below (T25.setTop (mkF m 14 #[.val (.int p1), .val (.int p2), .val (.int p3), .val (.int p4), .val (.int p5), .val (.int (4 : Int32)), .val (.ref b25), .unset, .unset, .unset] [])) _
      refine XS.iload X25.here hx rfl (hb hby at_14) rfl ?_
      show Steps p.tables e below (T25.setTop (mkF m 16 #[.val (.int p1), .val (.int p2), .val (.int p3), .val (.int p4), .val (.int p5), .val (.int (4 : Int32)), .val (.ref b25), .unset, .unset, .unset] [(.int (4 : Int32))])) _
      refine XS.ifNo X25.here hx rfl (hb hby at_16) rfl (by decide) ?_
      show Steps p.tables e below (T25.setTop (mkF m 19 #[.val (.int p1), .val (.int p2), .val (.int p3), .val (.int p4), .val (.int p5), .val (.int (4 : Int32)), .val (.ref b25), .unset, .unset, .unset] [])) _
      refine XS.aload X25.here hx rfl (hb hby at_19) rfl rfl ?_
      show Steps p.tables e below (T25.setTop (mkF m 21 #[.val (.int p1), .val (.int p2), .val (.int p3), .val (.int p4), .val (.int p5), .val (.int (4 : Int32)), .val (.ref b25), .unset, .unset, .unset] [(.ref b25)])) _
      refine XS.iconst X25.here hx rfl (hb hby at_21) ?_
      show Steps p.tables e below (T25.setTop (mkF m 22 #[.val (.int p1), .val (.int p2), .val (.int p3), .val (.int p4), .val (.int p5), .val (.int (4 : Int32)), .val (.ref b25), .unset, .unset, .unset] [(.int (0 : Int32)), (.ref b25)])) _
      refine XS.iloadN X25.here hx rfl (hb hby at_22) rfl ?_
      show Steps p.tables e below (T25.setTop (mkF m 23 #[.val (.int p1), .val (.int p2), .val (.int p3), .val (.int p4), .val (.int p5), .val (.int (4 : Int32)), .val (.ref b25), .unset, .unset, .unset] [(.int p2), (.int (0 : Int32)), (.ref b25)])) _
      refine XS.i2b X25.here hx rfl (hb hby at_23) rfl ?_
      show Steps p.tables e below (T25.setTop (mkF m 24 #[.val (.int p1), .val (.int p2), .val (.int p3), .val (.int p4), .val (.int p5), .val (.int (4 : Int32)), .val (.ref b25), .unset, .unset, .unset] [(.int (p2.toInt8.toInt32)), (.int (0 : Int32)), (.ref b25)])) _
      exact st26 _ (Steps.refl _)
    have Ar26 : Arr Z h26 b25 ((newA k25 .byte (4 : Int32)).setSlot ((0 : Int32) : Int32).toNatClampNeg (.int (nar .byte (p2.toInt8.toInt32)))) .byte := Ar25.same W26
    have ZA26 : n0 ≤ h26.size := by rw [W26.size]; exact ZA
    obtain ⟨T27, h27, X27, e27, W27, st27⟩ := stB X26 hx hZ e26 Ar26 (j := (1 : Int32)) (by simp only [sz_set, sz_new] <;> decide) (g := (mkF m 36 #[.val (.int p1), .val (.int p2), .val (.int p3), .val (.int p4), .val (.int p5), .val (.int (4 : Int32)), .val (.ref b25), .unset, .unset, .unset] [(.int (p3.toInt8.toInt32)), (.int (1 : Int32)), (.ref b25)])) rfl rfl (hb hby at_36)
    have N27 := Fr.snoc X27 N26 gb
    have pre27 : Steps p.tables e below (s₁.setTop (entryFrame m #[(.int p1), (.int p2), (.int p3), (.int p4), (.int p5)] maxLocals)) (T27.setTop (mkF m 37 #[.val (.int p1), .val (.int p2), .val (.int p3), .val (.int p4), .val (.int p5), .val (.int (4 : Int32)), .val (.ref b25), .unset, .unset, .unset] [])) := by
      refine pre26.trans ?_
      refine XS.iload X26.here hx rfl (hb hby at_25) rfl ?_
      show Steps p.tables e below (T26.setTop (mkF m 27 #[.val (.int p1), .val (.int p2), .val (.int p3), .val (.int p4), .val (.int p5), .val (.int (4 : Int32)), .val (.ref b25), .unset, .unset, .unset] [(.int (4 : Int32))])) _
      refine XS.iconst X26.here hx rfl (hb hby at_27) ?_
      show Steps p.tables e below (T26.setTop (mkF m 28 #[.val (.int p1), .val (.int p2), .val (.int p3), .val (.int p4), .val (.int p5), .val (.int (4 : Int32)), .val (.ref b25), .unset, .unset, .unset] [(.int (1 : Int32)), (.int (4 : Int32))])) _
      refine XS.icmpNo X26.here hx rfl (hb hby at_28) rfl (by decide) ?_
      show Steps p.tables e below (T26.setTop (mkF m 31 #[.val (.int p1), .val (.int p2), .val (.int p3), .val (.int p4), .val (.int p5), .val (.int (4 : Int32)), .val (.ref b25), .unset, .unset, .unset] [])) _
      refine XS.aload X26.here hx rfl (hb hby at_31) rfl rfl ?_
      show Steps p.tables e below (T26.setTop (mkF m 33 #[.val (.int p1), .val (.int p2), .val (.int p3), .val (.int p4), .val (.int p5), .val (.int (4 : Int32)), .val (.ref b25), .unset, .unset, .unset] [(.ref b25)])) _
      refine XS.iconst X26.here hx rfl (hb hby at_33) ?_
      show Steps p.tables e below (T26.setTop (mkF m 34 #[.val (.int p1), .val (.int p2), .val (.int p3), .val (.int p4), .val (.int p5), .val (.int (4 : Int32)), .val (.ref b25), .unset, .unset, .unset] [(.int (1 : Int32)), (.ref b25)])) _
      refine XS.iloadN X26.here hx rfl (hb hby at_34) rfl ?_
      show Steps p.tables e below (T26.setTop (mkF m 35 #[.val (.int p1), .val (.int p2), .val (.int p3), .val (.int p4), .val (.int p5), .val (.int (4 : Int32)), .val (.ref b25), .unset, .unset, .unset] [(.int p3), (.int (1 : Int32)), (.ref b25)])) _
      refine XS.i2b X26.here hx rfl (hb hby at_35) rfl ?_
      show Steps p.tables e below (T26.setTop (mkF m 36 #[.val (.int p1), .val (.int p2), .val (.int p3), .val (.int p4), .val (.int p5), .val (.int (4 : Int32)), .val (.ref b25), .unset, .unset, .unset] [(.int (p3.toInt8.toInt32)), (.int (1 : Int32)), (.ref b25)])) _
      exact st27 _ (Steps.refl _)
    have Ar27 : Arr Z h27 b25 (((newA k25 .byte (4 : Int32)).setSlot ((0 : Int32) : Int32).toNatClampNeg (.int (nar .byte (p2.toInt8.toInt32)))).setSlot ((1 : Int32) : Int32).toNatClampNeg (.int (nar .byte (p3.toInt8.toInt32)))) .byte := Ar26.same W27
    have ZA27 : n0 ≤ h27.size := by rw [W27.size]; exact ZA26
    obtain ⟨T28, h28, X28, e28, W28, st28⟩ := stB X27 hx hZ e27 Ar27 (j := (2 : Int32)) (by simp only [sz_set, sz_new] <;> decide) (g := (mkF m 48 #[.val (.int p1), .val (.int p2), .val (.int p3), .val (.int p4), .val (.int p5), .val (.int (4 : Int32)), .val (.ref b25), .unset, .unset, .unset] [(.int (p4.toInt8.toInt32)), (.int (2 : Int32)), (.ref b25)])) rfl rfl (hb hby at_48)
    have N28 := Fr.snoc X28 N27 gb
    have pre28 : Steps p.tables e below (s₁.setTop (entryFrame m #[(.int p1), (.int p2), (.int p3), (.int p4), (.int p5)] maxLocals)) (T28.setTop (mkF m 49 #[.val (.int p1), .val (.int p2), .val (.int p3), .val (.int p4), .val (.int p5), .val (.int (4 : Int32)), .val (.ref b25), .unset, .unset, .unset] [])) := by
      refine pre27.trans ?_
      refine XS.iload X27.here hx rfl (hb hby at_37) rfl ?_
      show Steps p.tables e below (T27.setTop (mkF m 39 #[.val (.int p1), .val (.int p2), .val (.int p3), .val (.int p4), .val (.int p5), .val (.int (4 : Int32)), .val (.ref b25), .unset, .unset, .unset] [(.int (4 : Int32))])) _
      refine XS.iconst X27.here hx rfl (hb hby at_39) ?_
      show Steps p.tables e below (T27.setTop (mkF m 40 #[.val (.int p1), .val (.int p2), .val (.int p3), .val (.int p4), .val (.int p5), .val (.int (4 : Int32)), .val (.ref b25), .unset, .unset, .unset] [(.int (2 : Int32)), (.int (4 : Int32))])) _
      refine XS.icmpNo X27.here hx rfl (hb hby at_40) rfl (by decide) ?_
      show Steps p.tables e below (T27.setTop (mkF m 43 #[.val (.int p1), .val (.int p2), .val (.int p3), .val (.int p4), .val (.int p5), .val (.int (4 : Int32)), .val (.ref b25), .unset, .unset, .unset] [])) _
      refine XS.aload X27.here hx rfl (hb hby at_43) rfl rfl ?_
      show Steps p.tables e below (T27.setTop (mkF m 45 #[.val (.int p1), .val (.int p2), .val (.int p3), .val (.int p4), .val (.int p5), .val (.int (4 : Int32)), .val (.ref b25), .unset, .unset, .unset] [(.ref b25)])) _
      refine XS.iconst X27.here hx rfl (hb hby at_45) ?_
      show Steps p.tables e below (T27.setTop (mkF m 46 #[.val (.int p1), .val (.int p2), .val (.int p3), .val (.int p4), .val (.int p5), .val (.int (4 : Int32)), .val (.ref b25), .unset, .unset, .unset] [(.int (2 : Int32)), (.ref b25)])) _
      refine XS.iloadN X27.here hx rfl (hb hby at_46) rfl ?_
      show Steps p.tables e below (T27.setTop (mkF m 47 #[.val (.int p1), .val (.int p2), .val (.int p3), .val (.int p4), .val (.int p5), .val (.int (4 : Int32)), .val (.ref b25), .unset, .unset, .unset] [(.int p4), (.int (2 : Int32)), (.ref b25)])) _
      refine XS.i2b X27.here hx rfl (hb hby at_47) rfl ?_
      show Steps p.tables e below (T27.setTop (mkF m 48 #[.val (.int p1), .val (.int p2), .val (.int p3), .val (.int p4), .val (.int p5), .val (.int (4 : Int32)), .val (.ref b25), .unset, .unset, .unset] [(.int (p4.toInt8.toInt32)), (.int (2 : Int32)), (.ref b25)])) _
      exact st28 _ (Steps.refl _)
    have Ar28 : Arr Z h28 b25 ((((newA k25 .byte (4 : Int32)).setSlot ((0 : Int32) : Int32).toNatClampNeg (.int (nar .byte (p2.toInt8.toInt32)))).setSlot ((1 : Int32) : Int32).toNatClampNeg (.int (nar .byte (p3.toInt8.toInt32)))).setSlot ((2 : Int32) : Int32).toNatClampNeg (.int (nar .byte (p4.toInt8.toInt32)))) .byte := Ar27.same W28
    have ZA28 : n0 ≤ h28.size := by rw [W28.size]; exact ZA27
    obtain ⟨T29, h29, X29, e29, W29, st29⟩ := stB X28 hx hZ e28 Ar28 (j := (3 : Int32)) (by simp only [sz_set, sz_new] <;> decide) (g := (mkF m 61 #[.val (.int p1), .val (.int p2), .val (.int p3), .val (.int p4), .val (.int p5), .val (.int (4 : Int32)), .val (.ref b25), .unset, .unset, .unset] [(.int (p5.toInt8.toInt32)), (.int (3 : Int32)), (.ref b25)])) rfl rfl (hb hby at_61)
    have N29 := Fr.snoc X29 N28 gb
    have pre29 : Steps p.tables e below (s₁.setTop (entryFrame m #[(.int p1), (.int p2), (.int p3), (.int p4), (.int p5)] maxLocals)) (T29.setTop (mkF m 62 #[.val (.int p1), .val (.int p2), .val (.int p3), .val (.int p4), .val (.int p5), .val (.int (4 : Int32)), .val (.ref b25), .unset, .unset, .unset] [])) := by
      refine pre28.trans ?_
      refine XS.iload X28.here hx rfl (hb hby at_49) rfl ?_
      show Steps p.tables e below (T28.setTop (mkF m 51 #[.val (.int p1), .val (.int p2), .val (.int p3), .val (.int p4), .val (.int p5), .val (.int (4 : Int32)), .val (.ref b25), .unset, .unset, .unset] [(.int (4 : Int32))])) _
      refine XS.iconst X28.here hx rfl (hb hby at_51) ?_
      show Steps p.tables e below (T28.setTop (mkF m 52 #[.val (.int p1), .val (.int p2), .val (.int p3), .val (.int p4), .val (.int p5), .val (.int (4 : Int32)), .val (.ref b25), .unset, .unset, .unset] [(.int (3 : Int32)), (.int (4 : Int32))])) _
      refine XS.icmpNo X28.here hx rfl (hb hby at_52) rfl (by decide) ?_
      show Steps p.tables e below (T28.setTop (mkF m 55 #[.val (.int p1), .val (.int p2), .val (.int p3), .val (.int p4), .val (.int p5), .val (.int (4 : Int32)), .val (.ref b25), .unset, .unset, .unset] [])) _
      refine XS.aload X28.here hx rfl (hb hby at_55) rfl rfl ?_
      show Steps p.tables e below (T28.setTop (mkF m 57 #[.val (.int p1), .val (.int p2), .val (.int p3), .val (.int p4), .val (.int p5), .val (.int (4 : Int32)), .val (.ref b25), .unset, .unset, .unset] [(.ref b25)])) _
      refine XS.iconst X28.here hx rfl (hb hby at_57) ?_
      show Steps p.tables e below (T28.setTop (mkF m 58 #[.val (.int p1), .val (.int p2), .val (.int p3), .val (.int p4), .val (.int p5), .val (.int (4 : Int32)), .val (.ref b25), .unset, .unset, .unset] [(.int (3 : Int32)), (.ref b25)])) _
      refine XS.iload X28.here hx rfl (hb hby at_58) rfl ?_
      show Steps p.tables e below (T28.setTop (mkF m 60 #[.val (.int p1), .val (.int p2), .val (.int p3), .val (.int p4), .val (.int p5), .val (.int (4 : Int32)), .val (.ref b25), .unset, .unset, .unset] [(.int p5), (.int (3 : Int32)), (.ref b25)])) _
      refine XS.i2b X28.here hx rfl (hb hby at_60) rfl ?_
      show Steps p.tables e below (T28.setTop (mkF m 61 #[.val (.int p1), .val (.int p2), .val (.int p3), .val (.int p4), .val (.int p5), .val (.int (4 : Int32)), .val (.ref b25), .unset, .unset, .unset] [(.int (p5.toInt8.toInt32)), (.int (3 : Int32)), (.ref b25)])) _
      exact st29 _ (Steps.refl _)
    have Ar29 : Arr Z h29 b25 (((((newA k25 .byte (4 : Int32)).setSlot ((0 : Int32) : Int32).toNatClampNeg (.int (nar .byte (p2.toInt8.toInt32)))).setSlot ((1 : Int32) : Int32).toNatClampNeg (.int (nar .byte (p3.toInt8.toInt32)))).setSlot ((2 : Int32) : Int32).toNatClampNeg (.int (nar .byte (p4.toInt8.toInt32)))).setSlot ((3 : Int32) : Int32).toNatClampNeg (.int (nar .byte (p5.toInt8.toInt32)))) .byte := Ar28.same W29
    have ZA29 : n0 ≤ h29.size := by rw [W29.size]; exact ZA28
    have pre30 : Steps p.tables e below (s₁.setTop (entryFrame m #[(.int p1), (.int p2), (.int p3), (.int p4), (.int p5)] maxLocals)) (T29.setTop (mkF m 119 #[.val (.int p1), .val (.int p2), .val (.int p3), .val (.int p4), .val (.int p5), .val (.int (4 : Int32)), .val (.ref b25), .val (.int p5), .val (.int (p5 &&& (255 : Int32))), .unset] [(.int (13 : Int32)), (.int (p5 &&& (255 : Int32)))])) := by
      refine pre29.trans ?_
      refine XS.iload X29.here hx rfl (hb hby at_62) rfl ?_
      show Steps p.tables e below (T29.setTop (mkF m 64 #[.val (.int p1), .val (.int p2), .val (.int p3), .val (.int p4), .val (.int p5), .val (.int (4 : Int32)), .val (.ref b25), .unset, .unset, .unset] [(.int (4 : Int32))])) _
      refine XS.iconst X29.here hx rfl (hb hby at_64) ?_
      show Steps p.tables e below (T29.setTop (mkF m 65 #[.val (.int p1), .val (.int p2), .val (.int p3), .val (.int p4), .val (.int p5), .val (.int (4 : Int32)), .val (.ref b25), .unset, .unset, .unset] [(.int (4 : Int32)), (.int (4 : Int32))])) _
      refine XS.icmpNo X29.here hx rfl (hb hby at_65) rfl (by decide) ?_
      show Steps p.tables e below (T29.setTop (mkF m 68 #[.val (.int p1), .val (.int p2), .val (.int p3), .val (.int p4), .val (.int p5), .val (.int (4 : Int32)), .val (.ref b25), .unset, .unset, .unset] [])) _
      refine XS.iload X29.here hx rfl (hb hby at_68) rfl ?_
      show Steps p.tables e below (T29.setTop (mkF m 70 #[.val (.int p1), .val (.int p2), .val (.int p3), .val (.int p4), .val (.int p5), .val (.int (4 : Int32)), .val (.ref b25), .unset, .unset, .unset] [(.int p5)])) _
      refine XS.istore X29.here hx rfl (hb hby at_70) rfl (l' := #[.val (.int p1), .val (.int p2), .val (.int p3), .val (.int p4), .val (.int p5), .val (.int (4 : Int32)), .val (.ref b25), .val (.int p5), .unset, .unset]) rfl ?_
      show Steps p.tables e below (T29.setTop (mkF m 72 #[.val (.int p1), .val (.int p2), .val (.int p3), .val (.int p4), .val (.int p5), .val (.int (4 : Int32)), .val (.ref b25), .val (.int p5), .unset, .unset] [])) _
      refine XS.goto X29.here hx rfl (pc0 := 72) (pc' := 102) rfl (hb hby at_72) (by decide) (by decide) ?_
      show Steps p.tables e below (T29.setTop (mkF m 102 #[.val (.int p1), .val (.int p2), .val (.int p3), .val (.int p4), .val (.int p5), .val (.int (4 : Int32)), .val (.ref b25), .val (.int p5), .unset, .unset] [])) _
      refine XS.iload X29.here hx rfl (hb hby at_102) rfl ?_
      show Steps p.tables e below (T29.setTop (mkF m 104 #[.val (.int p1), .val (.int p2), .val (.int p3), .val (.int p4), .val (.int p5), .val (.int (4 : Int32)), .val (.ref b25), .val (.int p5), .unset, .unset] [(.int p5)])) _
      refine XS.sipush X29.here hx rfl (hb hby at_104) ?_
      show Steps p.tables e below (T29.setTop (mkF m 107 #[.val (.int p1), .val (.int p2), .val (.int p3), .val (.int p4), .val (.int p5), .val (.int (4 : Int32)), .val (.ref b25), .val (.int p5), .unset, .unset] [(.int (255 : Int32)), (.int p5)])) _
      refine XS.iand X29.here hx rfl (hb hby at_107) rfl ?_
      show Steps p.tables e below (T29.setTop (mkF m 108 #[.val (.int p1), .val (.int p2), .val (.int p3), .val (.int p4), .val (.int p5), .val (.int (4 : Int32)), .val (.ref b25), .val (.int p5), .unset, .unset] [(.int (p5 &&& (255 : Int32)))])) _
      refine XS.istore X29.here hx rfl (hb hby at_108) rfl (l' := #[.val (.int p1), .val (.int p2), .val (.int p3), .val (.int p4), .val (.int p5), .val (.int (4 : Int32)), .val (.ref b25), .val (.int p5), .val (.int (p5 &&& (255 : Int32))), .unset]) rfl ?_
      show Steps p.tables e below (T29.setTop (mkF m 110 #[.val (.int p1), .val (.int p2), .val (.int p3), .val (.int p4), .val (.int p5), .val (.int (4 : Int32)), .val (.ref b25), .val (.int p5), .val (.int (p5 &&& (255 : Int32))), .unset] [])) _
      refine XS.iload X29.here hx rfl (hb hby at_110) rfl ?_
      show Steps p.tables e below (T29.setTop (mkF m 112 #[.val (.int p1), .val (.int p2), .val (.int p3), .val (.int p4), .val (.int p5), .val (.int (4 : Int32)), .val (.ref b25), .val (.int p5), .val (.int (p5 &&& (255 : Int32))), .unset] [(.int (4 : Int32))])) _
      refine XS.ifNo X29.here hx rfl (hb hby at_112) rfl (by decide) ?_
      show Steps p.tables e below (T29.setTop (mkF m 115 #[.val (.int p1), .val (.int p2), .val (.int p3), .val (.int p4), .val (.int p5), .val (.int (4 : Int32)), .val (.ref b25), .val (.int p5), .val (.int (p5 &&& (255 : Int32))), .unset] [])) _
      refine XS.iload X29.here hx rfl (hb hby at_115) rfl ?_
      show Steps p.tables e below (T29.setTop (mkF m 117 #[.val (.int p1), .val (.int p2), .val (.int p3), .val (.int p4), .val (.int p5), .val (.int (4 : Int32)), .val (.ref b25), .val (.int p5), .val (.int (p5 &&& (255 : Int32))), .unset] [(.int (p5 &&& (255 : Int32)))])) _
      refine XS.bipush X29.here hx rfl (hb hby at_117) ?_
      show Steps p.tables e below (T29.setTop (mkF m 119 #[.val (.int p1), .val (.int p2), .val (.int p3), .val (.int p4), .val (.int p5), .val (.int (4 : Int32)), .val (.ref b25), .val (.int p5), .val (.int (p5 &&& (255 : Int32))), .unset] [(.int (13 : Int32)), (.int (p5 &&& (255 : Int32)))])) _
      exact Steps.refl _
    obtain ⟨ex9, q31, pre31⟩ : ∃ (ex9 : Int32), (own_exp p5 = ex9) ∧ Steps p.tables e below (s₁.setTop (entryFrame m #[(.int p1), (.int p2), (.int p3), (.int p4), (.int p5)] maxLocals)) (T29.setTop (mkF m 136 #[.val (.int p1), .val (.int p2), .val (.int p3), .val (.int p4), .val (.int p5), .val (.int (4 : Int32)), .val (.ref b25), .val (.int p5), .val (.int (p5 &&& (255 : Int32))), .val (.int ex9)] [])) := by
      by_cases hc119 : (p5 &&& (255 : Int32)) = (13 : Int32)
      · skip
        refine ⟨(0 : Int32), by simp [own_exp, hc119], ?_⟩
        refine pre30.trans ?_
        refine XS.icmpYes X29.here hx rfl (pc0 := 119) (pc' := 133) rfl (hb hby at_119) rfl (teq hc119).1 (by decide) (by decide) ?_
        show Steps p.tables e below (T29.setTop (mkF m 133 #[.val (.int p1), .val (.int p2), .val (.int p3), .val (.int p4), .val (.int p5), .val (.int (4 : Int32)), .val (.ref b25), .val (.int p5), .val (.int (p5 &&& (255 : Int32))), .unset] [])) _
        refine XS.iconst X29.here hx rfl (hb hby at_133) ?_
        show Steps p.tables e below (T29.setTop (mkF m 134 #[.val (.int p1), .val (.int p2), .val (.int p3), .val (.int p4), .val (.int p5), .val (.int (4 : Int32)), .val (.ref b25), .val (.int p5), .val (.int (p5 &&& (255 : Int32))), .unset] [(.int (0 : Int32))])) _
        refine XS.istore X29.here hx rfl (hb hby at_134) rfl (l' := #[.val (.int p1), .val (.int p2), .val (.int p3), .val (.int p4), .val (.int p5), .val (.int (4 : Int32)), .val (.ref b25), .val (.int p5), .val (.int (p5 &&& (255 : Int32))), .val (.int (0 : Int32))]) rfl ?_
        show Steps p.tables e below (T29.setTop (mkF m 136 #[.val (.int p1), .val (.int p2), .val (.int p3), .val (.int p4), .val (.int p5), .val (.int (4 : Int32)), .val (.ref b25), .val (.int p5), .val (.int (p5 &&& (255 : Int32))), .val (.int (0 : Int32))] [])) _
        exact Steps.refl _
      · skip
        have pre32 : Steps p.tables e below (s₁.setTop (entryFrame m #[(.int p1), (.int p2), (.int p3), (.int p4), (.int p5)] maxLocals)) (T29.setTop (mkF m 126 #[.val (.int p1), .val (.int p2), .val (.int p3), .val (.int p4), .val (.int p5), .val (.int (4 : Int32)), .val (.ref b25), .val (.int p5), .val (.int (p5 &&& (255 : Int32))), .unset] [(.int (10 : Int32)), (.int (p5 &&& (255 : Int32)))])) := by
          refine pre30.trans ?_
          refine XS.icmpNo X29.here hx rfl (hb hby at_119) rfl (feq hc119).1 ?_
          show Steps p.tables e below (T29.setTop (mkF m 122 #[.val (.int p1), .val (.int p2), .val (.int p3), .val (.int p4), .val (.int p5), .val (.int (4 : Int32)), .val (.ref b25), .val (.int p5), .val (.int (p5 &&& (255 : Int32))), .unset] [])) _
          refine XS.iload X29.here hx rfl (hb hby at_122) rfl ?_
          show Steps p.tables e below (T29.setTop (mkF m 124 #[.val (.int p1), .val (.int p2), .val (.int p3), .val (.int p4), .val (.int p5), .val (.int (4 : Int32)), .val (.ref b25), .val (.int p5), .val (.int (p5 &&& (255 : Int32))), .unset] [(.int (p5 &&& (255 : Int32)))])) _
          refine XS.bipush X29.here hx rfl (hb hby at_124) ?_
          show Steps p.tables e below (T29.setTop (mkF m 126 #[.val (.int p1), .val (.int p2), .val (.int p3), .val (.int p4), .val (.int p5), .val (.int (4 : Int32)), .val (.ref b25), .val (.int p5), .val (.int (p5 &&& (255 : Int32))), .unset] [(.int (10 : Int32)), (.int (p5 &&& (255 : Int32)))])) _
          exact Steps.refl _
        by_cases hc126 : (p5 &&& (255 : Int32)) = (10 : Int32)
        · skip
          refine ⟨(0 : Int32), by simp [own_exp, hc119, hc126], ?_⟩
          refine pre32.trans ?_
          refine XS.icmpYes X29.here hx rfl (pc0 := 126) (pc' := 133) rfl (hb hby at_126) rfl (teq hc126).1 (by decide) (by decide) ?_
          show Steps p.tables e below (T29.setTop (mkF m 133 #[.val (.int p1), .val (.int p2), .val (.int p3), .val (.int p4), .val (.int p5), .val (.int (4 : Int32)), .val (.ref b25), .val (.int p5), .val (.int (p5 &&& (255 : Int32))), .unset] [])) _
          refine XS.iconst X29.here hx rfl (hb hby at_133) ?_
          show Steps p.tables e below (T29.setTop (mkF m 134 #[.val (.int p1), .val (.int p2), .val (.int p3), .val (.int p4), .val (.int p5), .val (.int (4 : Int32)), .val (.ref b25), .val (.int p5), .val (.int (p5 &&& (255 : Int32))), .unset] [(.int (0 : Int32))])) _
          refine XS.istore X29.here hx rfl (hb hby at_134) rfl (l' := #[.val (.int p1), .val (.int p2), .val (.int p3), .val (.int p4), .val (.int p5), .val (.int (4 : Int32)), .val (.ref b25), .val (.int p5), .val (.int (p5 &&& (255 : Int32))), .val (.int (0 : Int32))]) rfl ?_
          show Steps p.tables e below (T29.setTop (mkF m 136 #[.val (.int p1), .val (.int p2), .val (.int p3), .val (.int p4), .val (.int p5), .val (.int (4 : Int32)), .val (.ref b25), .val (.int p5), .val (.int (p5 &&& (255 : Int32))), .val (.int (0 : Int32))] [])) _
          exact Steps.refl _
        · skip
          refine ⟨(1 : Int32), by simp [own_exp, hc119, hc126], ?_⟩
          refine pre32.trans ?_
          refine XS.icmpNo X29.here hx rfl (hb hby at_126) rfl (feq hc126).1 ?_
          show Steps p.tables e below (T29.setTop (mkF m 129 #[.val (.int p1), .val (.int p2), .val (.int p3), .val (.int p4), .val (.int p5), .val (.int (4 : Int32)), .val (.ref b25), .val (.int p5), .val (.int (p5 &&& (255 : Int32))), .unset] [])) _
          refine XS.iconst X29.here hx rfl (hb hby at_129) ?_
          show Steps p.tables e below (T29.setTop (mkF m 130 #[.val (.int p1), .val (.int p2), .val (.int p3), .val (.int p4), .val (.int p5), .val (.int (4 : Int32)), .val (.ref b25), .val (.int p5), .val (.int (p5 &&& (255 : Int32))), .unset] [(.int (1 : Int32))])) _
          refine XS.goto X29.here hx rfl (pc0 := 130) (pc' := 134) rfl (hb hby at_130) (by decide) (by decide) ?_
          show Steps p.tables e below (T29.setTop (mkF m 134 #[.val (.int p1), .val (.int p2), .val (.int p3), .val (.int p4), .val (.int p5), .val (.int (4 : Int32)), .val (.ref b25), .val (.int p5), .val (.int (p5 &&& (255 : Int32))), .unset] [(.int (1 : Int32))])) _
          refine XS.istore X29.here hx rfl (hb hby at_134) rfl (l' := #[.val (.int p1), .val (.int p2), .val (.int p3), .val (.int p4), .val (.int p5), .val (.int (4 : Int32)), .val (.ref b25), .val (.int p5), .val (.int (p5 &&& (255 : Int32))), .val (.int (1 : Int32))]) rfl ?_
          show Steps p.tables e below (T29.setTop (mkF m 136 #[.val (.int p1), .val (.int p2), .val (.int p3), .val (.int p4), .val (.int p5), .val (.int (4 : Int32)), .val (.ref b25), .val (.int p5), .val (.int (p5 &&& (255 : Int32))), .val (.int (1 : Int32))] [])) _
          exact Steps.refl _
    obtain ⟨_, _, ⟨T33, L33, k33, n33⟩, -, X33, ⟨Lc33, hQ33, l33, y33, z33⟩, st33⟩ := Jvm.LawKit.callS X29 hx (y := (⟨"com/example/tsumugi/tsumugi/Segments", "endsInsideASegment", "([B)Z"⟩ : MethodName)) hown (mvT hZ (hw _ (List.mem_of_getElem? (i := 2) rfl))) (mvT hZ (hw _ (List.mem_of_getElem? (i := 3) rfl))) (mvT hZ (hw _ (List.mem_of_getElem? (i := 4) rfl))) (mvT hZ (hw _ (List.mem_of_getElem? (i := 5) rfl))) (by decide) (backOf (W := 0) (rm1 l Z a0 hw [] b25 (((((newA k25 .byte (4 : Int32)).setSlot ((0 : Int32) : Int32).toNatClampNeg (.int (nar .byte (p2.toInt8.toInt32)))).setSlot ((1 : Int32) : Int32).toNatClampNeg (.int (nar .byte (p3.toInt8.toInt32)))).setSlot ((2 : Int32) : Int32).toNatClampNeg (.int (nar .byte (p4.toInt8.toInt32)))).setSlot ((3 : Int32) : Int32).toNatClampNeg (.int (nar .byte (p5.toInt8.toInt32)))) (4 : Int32) (nar .byte (p5.toInt8.toInt32)) h29 n0 ZA29 Ar29 (by simp only [sz_set, sz_new] <;> decide) (by decide) (by simp only [sz_set, sz_new] <;> decide) (get_hit (j := (3 : Int32)) (by simp only [sz_set, sz_new] <;> decide) (by decide)) (by decide)) hZ (hw _ (List.mem_of_getElem? (i := 5) rfl)) (hw _ (List.mem_of_getElem? (i := 4) rfl)) (by decide) (by decide)) (g := (mkF m 138 #[.val (.int p1), .val (.int p2), .val (.int p3), .val (.int p4), .val (.int p5), .val (.int (4 : Int32)), .val (.ref b25), .val (.int p5), .val (.int (p5 &&& (255 : Int32))), .val (.int ex9)] [(.ref b25)])) rfl (by rw [hml]; rfl) (argsL := [(.ref b25)]) (rest := []) (lenOf pd_1 rfl) rfl (by show 2 * 0 + _ ≤ _; exact Nat.le_of_eq rfl) (hb hby at_138) (fun _ _ => ⟨rfl, e29, (by decide : 1 + 0 ≤ _), (by decide : 4 + 0 ≤ _)⟩)
    dsimp only [Pt.U, Pt.locs, Pt.cells, Pt.slots] at X33 l33 y33 z33 st33 hQ33
    subst l33 y33 z33
    obtain ⟨rfl, M33, e33⟩ := hQ33
    have N33 := Fr.app N29 M33
    have pre33 : Steps p.tables e below (s₁.setTop (entryFrame m #[(.int p1), (.int p2), (.int p3), (.int p4), (.int p5)] maxLocals)) (T33.setTop (mkF m 141 #[.val (.int p1), .val (.int p2), .val (.int p3), .val (.int p4), .val (.int p5), .val (.int (4 : Int32)), .val (.ref b25), .val (.int p5), .val (.int (p5 &&& (255 : Int32))), .val (.int ex9)] [(.int (own_in (nar .byte (p5.toInt8.toInt32))))])) := by
      refine pre31.trans ?_
      refine XS.aload X29.here hx rfl (hb hby at_136) rfl rfl ?_
      show Steps p.tables e below (T29.setTop (mkF m 138 #[.val (.int p1), .val (.int p2), .val (.int p3), .val (.int p4), .val (.int p5), .val (.int (4 : Int32)), .val (.ref b25), .val (.int p5), .val (.int (p5 &&& (255 : Int32))), .val (.int ex9)] [(.ref b25)])) _
      exact st33 _ (Steps.refl _)
    rw [own_byte, q31] at pre33
    obtain ⟨fs, hr, hrun, hended, hW, hsame⟩ := X33.leave (v := some (.int (1 : Int32))) (fun h => by rw [Bd.returns] at h; cases h)
    refine ⟨_, _, pre33.trans ?_, hrun, hended, _, _, rfl, ?_, ⟨_, rfl⟩, hW, hsame.mono (by decide) (by decide)⟩
    · skip
      refine XS.iload X33.here hx rfl (hb hby at_141) rfl ?_
      show Steps p.tables e below (T33.setTop (mkF m 143 #[.val (.int p1), .val (.int p2), .val (.int p3), .val (.int p4), .val (.int p5), .val (.int (4 : Int32)), .val (.ref b25), .val (.int p5), .val (.int (p5 &&& (255 : Int32))), .val (.int ex9)] [(.int ex9), (.int ex9)])) _
      refine XS.icmpNo X33.here hx rfl (hb hby at_143) rfl (teq (rfl : ex9 = ex9)).2 ?_
      show Steps p.tables e below (T33.setTop (mkF m 146 #[.val (.int p1), .val (.int p2), .val (.int p3), .val (.int p4), .val (.int p5), .val (.int (4 : Int32)), .val (.ref b25), .val (.int p5), .val (.int (p5 &&& (255 : Int32))), .val (.int ex9)] [])) _
      refine XS.iconst X33.here hx rfl (hb hby at_146) ?_
      show Steps p.tables e below (T33.setTop (mkF m 147 #[.val (.int p1), .val (.int p2), .val (.int p3), .val (.int p4), .val (.int p5), .val (.int (4 : Int32)), .val (.ref b25), .val (.int p5), .val (.int (p5 &&& (255 : Int32))), .val (.int ex9)] [(.int (1 : Int32))])) _
      refine XS.goto X33.here hx rfl (pc0 := 147) (pc' := 151) rfl (hb hby at_147) (by decide) (by decide) ?_
      show Steps p.tables e below (T33.setTop (mkF m 151 #[.val (.int p1), .val (.int p2), .val (.int p3), .val (.int p4), .val (.int p5), .val (.int (4 : Int32)), .val (.ref b25), .val (.int p5), .val (.int (p5 &&& (255 : Int32))), .val (.int ex9)] [(.int (1 : Int32))])) _
      exact retN X33 hx (t := .boolean) Bd.returns (by simp) (hb hby at_151) hr
    · show Q0 Z p1 p2 p3 p4 p5  h0 n0 _ T33.heap _
      rw [e33]
      exact ⟨rfl, N33⟩
set_option maxRecDepth 65536 in
set_option maxHeartbeats 40000000 in
theorem comes_1 {Post : Tables → Env → Array Value → State → Outcome → State → Prop} (hpost : ∀ tb e args s v u, (limb_1_1.after args s (.returned v) u = true ∧ limb_1_2.after args s (.returned v) u = true ∧ True) → FrameEnd s (.returned v) u (Jvm.fieldLocs frame_1_writes args s ++ Jvm.arrayLocs frame_1_arrays args s ++ Jvm.staticLocs frame_1_statics s) 16 128 → Post tb e args s (.returned v) u) :
    ArmFor flags0 classFile x code maxLocals ret World_1 tables_1 room_1 Calls_1 rest_1 Pre_1 Post := by
  intro l hfl _ _ p e ha hc hk s m args below hf hA hF happ hP
  obtain ⟨hcalls, hrest, hpre⟩ := hP
  obtain ⟨-, -, -, hnamed, -, -, -, hat⟩ := (Spec.applies_iff hf).mp happ
  obtain ⟨hg, hn⟩ := and_e (Cond.before_iff.mp (show (Jvm.Cond.and given_1 narrow_1).before args s = true from hpre))
  obtain ⟨u0, r0⟩ := and_e hg
  obtain ⟨c0, r1⟩ := and_e r0
  obtain ⟨c1, r2⟩ := and_e r1
  obtain ⟨c2, r3⟩ := and_e r2
  obtain ⟨c3, r4⟩ := and_e r3
  obtain ⟨w0, w1, w2, w3, w4, rfl⟩ : ∃ w0 w1 w2 w3 w4 : Value, args = #[w0, w1, w2, w3, w4] := by
    have hs : args.size = 5 := by simpa [Cond.value, given_1] using u0
    obtain ⟨L⟩ := args
    match L, hs with
    | [w0, w1, w2, w3, w4], _ => exact ⟨w0, w1, w2, w3, w4, rfl⟩
  have hw := fun d (hd : d ∈ tables_1) => atoms_spec (ws := Jvm.Cond.code x code maxLocals ret :: tables_1) hat d (List.mem_cons_of_mem _ hd)
  obtain ⟨i0, ei0⟩ := is_v c0
  obtain rfl : w0 = (.int i0) := Option.some.inj ei0
  obtain ⟨i1, ei1⟩ := is_v c1
  obtain rfl : w1 = (.int i1) := Option.some.inj ei1
  obtain ⟨i2, ei2⟩ := is_v c2
  obtain rfl : w2 = (.int i2) := Option.some.inj ei2
  obtain ⟨i3, ei3⟩ := is_v c3
  obtain rfl : w3 = (.int i3) := Option.some.inj ei3
  obtain ⟨i4, ei4⟩ := is_v r4
  obtain rfl : w4 = (.int i4) := Option.some.inj ei4
  obtain ⟨n, o, h1, h2, h3, _, L, rfl, ⟨rfl, N⟩, hq⟩ := rm0 l s _ hw tables_1 i0 i1 i2 i3 i4 s.heap s.heap.size (Nat.le_refl _) p e ha hc hk s m _ below hf ((Spec.applies_iff_loose hf).mp happ).1 ⟨rfl, State.Warmed39.refl s, rfl⟩ trivial
  refine ⟨n, _, h1, h2, h3, hpost _ _ _ _ _ _ ⟨Cond.after_iff.mpr rfl, Cond.after_iff.mpr (eq_i res_at (Term.int_eval (1)) rfl), trivial⟩ ⟨hq.1, hq.2.1, (hq.2.2.sift fun y hy => Or.inr (N y hy)).mono (by decide) (by decide)⟩⟩
theorem main_1_1 : Claimed_1_1 := comes_1 fun _ _ _ _ _ _ h hF => ⟨h.1, hF⟩
theorem main_1_2 : Claimed_1_2 := comes_1 fun _ _ _ _ _ _ h hF => ⟨h.2.1, hF⟩
end Jvm.Pilot.@@N@@
namespace Jvm.Pilot.@@N@@
open Jvm Jvm.ClassFile Sem Op Lib Jvm.Free Jvm.Stand Jvm.Pilot.@@N@@.Jvm.D
/-! MADE BY PROGRAM (witnessworld.py) out of the Statement's table words and the real class files: 9 classes; the members and pool entries that the words name. The judged class is class 1, her method 1. -/
namespace start1
open Jvm.ClassFile
def u (s : String) : CpInfo := .utf8 (stringToUtf16 s)
/-- a pool by its gaps: so many unusable entries, then the entry; so many at the end -/
def gap : Nat → List CpInfo → List CpInfo
  | 0, r => r
  | n + 1, r => .unusable :: gap n r
def poolList (es : List (Nat × CpInfo)) (last : Nat) : List CpInfo := es.foldr (fun e r => gap e.1 (e.2 :: r)) (gap last [])
def pool (es : List (Nat × CpInfo)) (last : Nat) : Array CpInfo := ⟨poolList es last⟩
def fileOf (pool : Array CpInfo) (this : Nat) (attrs : Array Attribute := #[]) (ms : Array MethodInfo := #[]) (fl : Nat := 33) (sup : Nat := 0) (ifs : Array Nat := #[]) (fds : Array FieldInfo := #[]) : ClassFile where
  minorVersion := 0
  majorVersion := 65
  constantPool := pool
  accessFlags := fl
  thisClass := this
  superClass := sup
  interfaces := ifs
  fields := fds
  methods := ms
  attributes := attrs
def plain (name : String) (sup : Option ClassId) : Class where
  name := name
  kind := .ordinary
  loader := none
  accessFlags := 33
  super := sup
  interfaces := #[]
  cf := none
  fields := #[]
  methods := #[]
  instanceTypes := #[]
  staticTypes := #[]
  resolved := #[]
  callSites := []
  init := .initialized
  statics := none
  mirror := none

def pool0 : Array CpInfo := pool [(5, u "<init>"), (0, u "()V"), (1, .class_ 10), (1, u "java/lang/Object")] 113

def k0m0 : Method := { name := "<init>", desc := "()V", sig := { parameters := [], returnType := none }, accessFlags := 1, code := none }
/-- java/lang/Object -/
def k0 : Class := { plain "java/lang/Object" none with
  accessFlags := 33
  interfaces := #[]
  cf := some (fileOf pool0 8 #[] #[{ accessFlags := 1, nameIndex := 5, descriptorIndex := 6, attributes := #[] }] 33 0 #[] #[])
  fields := #[]
  methods := #[k0m0]
  instanceTypes := #[]
  staticTypes := #[]
  resolved := Array.replicate 124 none
  statics := none }

def pool1 : Array CpInfo := pool [(2, .class_ 4), (1, u "java/lang/Object"), (0, u "<init>"), (0, u "()V"), (0, .integer 2147483647), (0, .methodref 9 10), (0, .class_ 11), (0, .nameAndType 12 13), (0, u "com/example/tsumugi/tsumugi/Segments"), (0, u "endsInsideASegment"), (0, u "([B)Z"), (0, .class_ 15), (0, u "com/example/tsumugi/tsumugi/SegmentsEndsInsideASegmentPinLaw"), (2, u "law"), (0, u "(IIIII)Z")] 5

def k1m0 : Method := { name := "<init>", desc := "()V", sig := { parameters := [], returnType := none }, accessFlags := 1, code := none }
def k1c1 : Code := { maxStack := 3, maxLocals := 10, code := code, exceptionTable := #[], attributes := #[] }
def k1m1 : Method := { name := "law", desc := "(IIIII)Z", sig := { parameters := [.int, .int, .int, .int, .int], returnType := some .boolean }, accessFlags := 9, code := some k1c1 }
/-- com/example/tsumugi/tsumugi/SegmentsEndsInsideASegmentPinLaw -/
def k1 : Class := { plain "com/example/tsumugi/tsumugi/SegmentsEndsInsideASegmentPinLaw" (some 0) with
  accessFlags := 49
  interfaces := #[]
  cf := some (fileOf pool1 14 #[] #[{ accessFlags := 1, nameIndex := 5, descriptorIndex := 6, attributes := #[] }, { accessFlags := 9, nameIndex := 18, descriptorIndex := 19, attributes := #[] }] 49 2 #[] #[])
  fields := #[]
  methods := #[k1m0, k1m1]
  instanceTypes := #[]
  staticTypes := #[]
  resolved := Array.replicate 25 none
  statics := none }

def pool2 : Array CpInfo := pool [(4, .class_ 6), (1, u "java/lang/Object"), (9, .class_ 18), (1, u "com/example/tsumugi/tsumugi/Segments"), (0, u "list"), (0, u "Ljava/util/List;"), (2, u "endings"), (2, u "departures"), (2, u "startsWithMshSegment"), (0, u "Z"), (18, u "([B)Z"), (35, u "MSH"), (9, .methodref 16 96), (0, .nameAndType 97 98), (0, u "isSegmentEnd"), (0, u "(I)Z"), (9, .class_ 110), (1, u "com/example/tsumugi/tsumugi/Segments$Ending"), (0, u "LF"), (6, u "CR"), (18, .class_ 139), (1, u "com/example/tsumugi/tsumugi/Segments$SegmentText"), (28, .class_ 169), (0, u "com/example/tsumugi/tsumugi/Segments$Segment"), (38, .class_ 209), (0, u "com/example/tsumugi/tsumugi/Segments$NoMshSegmentException"), (24, u "B"), (3, u "Ljava/lang/String;"), (0, u "EVERY_SEGMENT"), (0, u "I"), (11, u "endsInsideASegment")] 68

def k2c0 : Code := { maxStack := 2, maxLocals := 1, code := prog_52_method_8_code, exceptionTable := #[], attributes := #[] }
def k2m0 : Method := { name := "isSegmentEnd", desc := "(I)Z", sig := { parameters := [.int], returnType := some .boolean }, accessFlags := 10, code := some k2c0 }
def k2c1 : Code := { maxStack := 3, maxLocals := 1, code := prog_52_method_9_code, exceptionTable := #[], attributes := #[] }
def k2m1 : Method := { name := "endsInsideASegment", desc := "([B)Z", sig := { parameters := [(.array .byte)], returnType := some .boolean }, accessFlags := 8, code := some k2c1 }
/-- com/example/tsumugi/tsumugi/Segments -/
def k2 : Class := { plain "com/example/tsumugi/tsumugi/Segments" (some 0) with
  accessFlags := 49
  interfaces := #[]
  cf := some (fileOf pool2 16 #[.nestMembers #[208, 108, 168, 137]] #[{ accessFlags := 10, nameIndex := 97, descriptorIndex := 98, attributes := #[] }, { accessFlags := 8, nameIndex := 252, descriptorIndex := 49, attributes := #[] }] 49 4 #[] #[{ accessFlags := 26, nameIndex := 118, descriptorIndex := 234, attributes := #[] }, { accessFlags := 26, nameIndex := 111, descriptorIndex := 234, attributes := #[] }, { accessFlags := 26, nameIndex := 85, descriptorIndex := 238, attributes := #[] }, { accessFlags := 26, nameIndex := 239, descriptorIndex := 240, attributes := #[] }, { accessFlags := 18, nameIndex := 19, descriptorIndex := 20, attributes := #[] }, { accessFlags := 18, nameIndex := 23, descriptorIndex := 20, attributes := #[] }, { accessFlags := 18, nameIndex := 26, descriptorIndex := 20, attributes := #[] }, { accessFlags := 18, nameIndex := 29, descriptorIndex := 30, attributes := #[] }])
  fields := #[{ name := "CR", type := .byte, accessFlags := 26, slot := 0, constantValue := 0 }, { name := "LF", type := .byte, accessFlags := 26, slot := 1, constantValue := 0 }, { name := "MSH", type := (.object "java/lang/String"), accessFlags := 26, slot := 2, constantValue := 0 }, { name := "EVERY_SEGMENT", type := .int, accessFlags := 26, slot := 3, constantValue := 0 }, { name := "list", type := (.object "java/util/List"), accessFlags := 18, slot := 0, constantValue := 0 }, { name := "endings", type := (.object "java/util/List"), accessFlags := 18, slot := 1, constantValue := 0 }, { name := "departures", type := (.object "java/util/List"), accessFlags := 18, slot := 2, constantValue := 0 }, { name := "startsWithMshSegment", type := .boolean, accessFlags := 18, slot := 3, constantValue := 0 }]
  methods := #[k2m0, k2m1]
  instanceTypes := #[(.object "java/util/List"), (.object "java/util/List"), (.object "java/util/List"), .boolean]
  staticTypes := #[.byte, .byte, (.object "java/lang/String"), .int]
  resolved := Array.replicate 321 none
  statics := none }

def pool3 : Array CpInfo := pool [(1, u "java/lang/Cloneable"), (0, .class_ 1), (0, u "java/lang/Object"), (0, .class_ 3)] 3

/-- java/lang/Cloneable -/
def k3 : Class := { plain "java/lang/Cloneable" (some 0) with
  accessFlags := 1537
  interfaces := #[]
  cf := some (fileOf pool3 2 #[] #[] 1537 4 #[] #[])
  fields := #[]
  methods := #[]
  instanceTypes := #[]
  staticTypes := #[]
  resolved := Array.replicate 8 none
  statics := none }

def pool4 : Array CpInfo := pool [(1, u "java/io/Serializable"), (0, .class_ 1), (0, u "java/lang/Object"), (0, .class_ 3)] 3

/-- java/io/Serializable -/
def k4 : Class := { plain "java/io/Serializable" (some 0) with
  accessFlags := 1537
  interfaces := #[]
  cf := some (fileOf pool4 2 #[] #[] 1537 4 #[] #[])
  fields := #[]
  methods := #[]
  instanceTypes := #[]
  staticTypes := #[]
  resolved := Array.replicate 8 none
  statics := none }

/-- the primitive byte -/
def k5 : Class := { plain "byte" none with kind := .primitive 'B', accessFlags := 0x411 }
/-- [B -/
def k6 : Class := { plain "[B" (some 0) with kind := .array 5 .byte, interfaces := #[3, 4], accessFlags := 1041 }

/-- the primitive int -/
def k7 : Class := { plain "int" none with kind := .primitive 'I', accessFlags := 0x411 }
/-- [I -/
def k8 : Class := { plain "[I" (some 0) with kind := .array 7 .int, interfaces := #[3, 4], accessFlags := 1041 }

def heap : Heap := #[]
def classes : Array Class := #[k0, k1, k2, k3, k4, k5, k6, k7, k8]
def interned : List (Array UInt16 × Addr) := []
def slotsUsed : Nat := 0
def theMethod : MethodId := ⟨1, 1⟩
def args0 : Array Value := #[.int 3, .int 1, .int 2, .int 3, .int 4]
def aboutOver (below : List Frame) : State where
  vm := { classes := classes, interned := interned.toArray }
  heap := heap
  slotsUsed := slotsUsed
  threads := #[{ frames := .invoking theMethod args0 :: below }]
def below0 : List Frame := [.native { method := ⟨0, 0⟩, args := #[] }]
def about1 : State := aboutOver below0
def p0 : Program := .bare "" "" ""
def e0 : Env := launch0.env 0 0 0
theorem w_frames : about1.frames = Frame.invoking theMethod args0 :: below0 := rfl
set_option maxRecDepth 65536 in
theorem w_args : argsFit about1.vm theMethod args0 = true := by decide +kernel
set_option maxRecDepth 65536 in
theorem w_heap : heapFits about1 = true := by decide +kernel
set_option maxRecDepth 65536 in
theorem w_runnable : about1.curStatus? = some .runnable := by decide +kernel
set_option maxRecDepth 65536 in
theorem w_alone : about1.alone = true := by decide +kernel
set_option maxRecDepth 65536 in
theorem w_named : about1.methodNamed? x = some theMethod := by decide +kernel
set_option maxRecDepth 65536 in
theorem w_hears : about1.hears theMethod below0 = true := by decide +kernel
set_option maxRecDepth 65536 in
theorem w_ripe : about1.ripe theMethod args0 below0 = true := by decide +kernel
theorem w_running : about1.status = .running := rfl
set_option maxRecDepth 65536 in
theorem w_room : about1.hasRoom e0.platform room_1 = true :=
  launch0.hasRoom_least _ room_1 (by decide +kernel) (by decide +kernel) (by decide +kernel) (by decide +kernel) (by decide +kernel) (by decide +kernel)
theorem allAtoms_all (ts : List Jvm.Cond) (a : Array Jvm.Value) (st : Jvm.State) : (allAtoms ts).before a st = ts.all (fun c => c.before a st) := by
  induction ts with
  | nil => rfl
  | cons c t ih =>
    show (Jvm.Cond.and c (allAtoms t)).before a st = _
    rw [Jvm.Cond.before_and, ih, List.all_cons]
def words1 : List Jvm.Cond := Jvm.Cond.code x code maxLocals ret :: tables_1
/-- a 'code' word, met by the world's own term for the bytes: nothing is compared byte by byte -/
theorem code_word {y : MethodName} {bytes : ByteArray} {mx : Nat} {rt : Option FieldType} {a : Array Value} {s : State} {m : MethodId} {meth : Method} {c : Code} (h1 : s.methodNamed? y = some m) (h2 : s.vm.method? m = some meth) (h3 : meth.code = some c) (h4 : c.code = bytes)
    (h5 : (c.maxLocals == mx && c.exceptionTable.isEmpty && decide (c.maxStack ≤ mostOperands) && decide (meth.sig.returnType = rt) && !meth.locks && decide (parseMethodDescriptor y.desc = some meth.sig)) = true) : (Jvm.Cond.code y bytes mx rt).before a s = true := by
  simp only [Bool.and_eq_true, beq_iff_eq, Bool.not_eq_true', decide_eq_true_eq] at h5
  obtain ⟨⟨⟨⟨⟨g1, g2⟩, g3⟩, g4⟩, g5⟩, g6⟩ := h5
  simp [Cond.before, Cond.holds, Cond.value, h1, h2, h3, h4, g1, g2, g3, g4, g5, g6]
def isCode : Jvm.Cond → Bool
  | .code _ _ _ _ => true
  | _ => false
theorem all_split {L : List Jvm.Cond} {P : Jvm.Cond → Bool} (h1 : L.all (fun c => isCode c || P c) = true) (h2 : ∀ c ∈ L.filter isCode, P c = true) : L.all P = true := by
  refine List.all_eq_true.mpr fun c hc => ?_
  have h := List.all_eq_true.mp h1 c hc
  rcases Bool.eq_false_or_eq_true (isCode c) with hi | hi
  · exact h2 c (List.mem_filter.mpr ⟨hc, hi⟩)
  · simpa [hi] using h
set_option maxRecDepth 65536 in
theorem w_c0 : (Jvm.Cond.code x code maxLocals ret).before args0 about1 = true := code_word (m := ⟨1, 1⟩) (meth := k1m1) (c := k1c1) (by decide +kernel) rfl rfl rfl (by decide +kernel)
set_option maxRecDepth 65536 in
theorem w_c1 : (Jvm.Cond.code ({ cls := "com/example/tsumugi/tsumugi/Segments", name := "endsInsideASegment", desc := "([B)Z" } : Jvm.MethodName) prog_52_method_9_code (1 : Nat) (Option.some Jvm.ClassFile.FieldType.boolean)).before args0 about1 = true := code_word (m := ⟨2, 1⟩) (meth := k2m1) (c := k2c1) (by decide +kernel) rfl rfl rfl (by decide +kernel)
set_option maxRecDepth 65536 in
theorem w_c2 : (Jvm.Cond.code ({ cls := "com/example/tsumugi/tsumugi/Segments", name := "isSegmentEnd", desc := "(I)Z" } : Jvm.MethodName) prog_52_method_8_code (1 : Nat) (Option.some Jvm.ClassFile.FieldType.boolean)).before args0 about1 = true := code_word (m := ⟨2, 0⟩) (meth := k2m0) (c := k2c0) (by decide +kernel) rfl rfl rfl (by decide +kernel)
def codes1 : List Jvm.Cond := [Jvm.Cond.code x code maxLocals ret, Jvm.Cond.code ({ cls := "com/example/tsumugi/tsumugi/Segments", name := "endsInsideASegment", desc := "([B)Z" } : Jvm.MethodName) prog_52_method_9_code (1 : Nat) (Option.some Jvm.ClassFile.FieldType.boolean), Jvm.Cond.code ({ cls := "com/example/tsumugi/tsumugi/Segments", name := "isSegmentEnd", desc := "(I)Z" } : Jvm.MethodName) prog_52_method_8_code (1 : Nat) (Option.some Jvm.ClassFile.FieldType.boolean)]
set_option maxRecDepth 65536 in
theorem codes_eq : words1.filter isCode = codes1 := rfl
theorem w_codes : ∀ c ∈ words1.filter isCode, c.before args0 about1 = true := by
  rw [codes_eq]
  intro c hc
  simp only [codes1, List.mem_cons, List.not_mem_nil, or_false] at hc
  rcases hc with rfl | rfl | rfl
  · exact w_c0
  · exact w_c1
  · exact w_c2
set_option maxRecDepth 65536 in
theorem w_t1 : words1.all (fun c => isCode c || c.before args0 about1) = true := by decide +kernel
theorem w_tables : (allAtoms (Jvm.Cond.code x code maxLocals ret :: tables_1)).before args0 about1 = true := by
  rw [allAtoms_all]
  show words1.all (fun c => c.before args0 about1) = true
  refine all_split ?_ w_codes
  rw [w_t1]
set_option maxRecDepth 65536 in
theorem w_case : (Jvm.Cond.and given_1 narrow_1).before args0 about1 = true := by decide +kernel
theorem w_applies : (headSpec (Jvm.Cond.code x code maxLocals ret :: tables_1) room_1).applies x e0.platform about1 = true :=
  (Spec.applies_iff w_frames).mpr ⟨w_running, w_runnable, w_alone, w_named, w_hears, w_ripe, w_room, w_tables⟩
theorem atStart : AtStart classFile x code maxLocals ret World_1 tables_1 room_1 Calls_1 rest_1 Pre_1 launch0 p0 e0 about1 theMethod args0 below0 :=
  ⟨lists_1, trivial, launch0.admits_env _ _ _, launch0.least_env, fairChoices_fair.cas, fairChoices_fair.clock, w_frames, w_args, w_heap, w_applies, trivial, trivial, w_case⟩
end start1
theorem witness_1 : WitnessClaimed_1 := ⟨start1.p0, start1.e0, start1.about1, start1.theMethod, start1.args0, start1.below0, start1.atStart⟩
end Jvm.Pilot.@@N@@
