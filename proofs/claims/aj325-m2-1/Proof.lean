import JvmDerived
import JvmDerived.Pilot.@@N@@Statement
import JvmDerived.Pilot.@@N@@Code
set_option linter.unusedVariables false
set_option linter.unusedSimpArgs false
namespace Jvm.RoadKit
open Sem ClassFile Op Lib Jvm.Stand Jvm.Free Jvm.LawKit
section New
variable {p : Program} {l : Launch} {e : Env} {R : Room} {s : State} {m : MethodId} {args : Array Value} {below : List Frame} {meth : Method} {c : Code} {T : State} {locs : List Loc} {cells slots : Nat}
theorem retI (X : Stand p l e R s m args below meth c T locs cells slots) (hx : p.tables.exec = Jvm.exec) {pc : Nat} {Ls : Array Slot} {z : Int32} {rest : List Value} (hret : meth.sig.returnType = some .int) (hd : decode c.code pc = .ok (.ireturn, 1)) {fs : List Frame}
    (hl : ∀ (f : JFrame) (acts : List Action), f.method = m → f.locked = none → f.entered = [] → (doReturn e (T.setTop f) acts (some (.int z))).1 = T.setFrames fs) : Steps p.tables e below (T.setTop (mkF m pc Ls (.int z :: rest))) (T.setFrames fs) := by
  have hm' : T.vm.method? m = some meth := X.method'
  have hn : narrow .int (.int z) = .int z := rfl
  show Steps p.tables e below (T.setTop { method := m, pc := pc, locals := Ls, stack := _ :: rest, locked := none }) _
  jvm_step X.here [X.here.top, hx, hd, hm', hret, hn]
  first | (intro acts; rw [hl _ acts rfl rfl rfl]) | rw [hl _ _ rfl rfl rfl]
  exact Steps.refl _
end New
end Jvm.RoadKit
namespace Jvm.Pilot.@@N@@
open Jvm Jvm.ClassFile Sem Op Lib Jvm.Free Jvm.Stand Jvm.LawKit Jvm.RoadKit Bundle Jvm.Pilot.@@N@@.Jvm.D
theorem pd_0 : parseMethodDescriptor "()V" = some ⟨[], none⟩ := by decide +kernel
theorem pd_1 : parseMethodDescriptor "(J)V" = some ⟨[.long], none⟩ := by decide +kernel
theorem pd_2 : parseMethodDescriptor "(JJ)V" = some ⟨[.long, .long], none⟩ := by decide +kernel
theorem pd_3 : parseMethodDescriptor "()J" = some ⟨[], some .long⟩ := by decide +kernel
theorem own_pop2 {tb : Tables} [Ours tb] {e : Env} {below : List Frame} {T target : State} {m : MethodId} {c : Code} {g : JFrame} (h : At T m c below) (hx : tb.exec = Jvm.exec) (hg : g.method = m) {x : Int64} {rest : List Value} (hd : decode c.code g.pc = .ok (.pop2, 1)) (hs : g.stack = .long x :: rest)
    (hr : Steps tb e below (T.setTop { g with pc := g.pc + 1, stack := rest }) target) : Steps tb e below (T.setTop g) target := by
  subst hg
  have hc : (Value.long x).category = 2 := rfl
  jvm_step h [h.top, hx, hd, Op.pop2.wp_sem, hs, hc]
  exact hr
def own_m1 (s : Int64) : Int64 := ((s ^^^ ((s.toUInt64 >>> ((30 : Int32) &&& 0x3f).toInt64.toUInt64).toInt64)) * (-4658895280553007687 : Int64))
def own_m2 (z : Int64) : Int64 := ((z ^^^ ((z.toUInt64 >>> ((27 : Int32) &&& 0x3f).toInt64.toUInt64).toInt64)) * (-7723592293110705685 : Int64))
def own_m3 (z : Int64) : Int64 := (z ^^^ ((z.toUInt64 >>> ((31 : Int32) &&& 0x3f).toInt64.toUInt64).toInt64))
def own_mix (s : Int64) : Int64 := own_m3 (own_m2 (own_m1 s))
theorem own_and3 (x : Int32) : (x &&& (3 : Int32)) = 0 ∨ (x &&& (3 : Int32)) = 1 ∨ (x &&& (3 : Int32)) = 2 ∨ (x &&& (3 : Int32)) = 3 := by
  have h1 : (x &&& (3 : Int32)).toInt = x.toInt % (2 ^ 2 : Nat) := c_mask x 3 2 (by decide) (by decide)
  simp only [← Int32.toInt_inj, Int32.reduceToInt]
  simp only [Nat.reducePow] at h1
  omega
theorem own_alg0 (s a b c : Int64) : (((s + (a * c)) + (b * c)) + c) = ((s + (((a + b) - ((0 : Int32).toInt64)) * c)) + c) := by
  have e : (0 : Int32).toInt64 = (0 : Int64) := by decide
  rw [e]
  grind
theorem own_alg1 (s a b c : Int64) : (((s + (a * c)) + (b * c)) + c) = (((s + (((a + b) - ((1 : Int32).toInt64)) * c)) + c) + c) := by
  have e : (1 : Int32).toInt64 = (1 : Int64) := by decide
  rw [e]
  grind
theorem own_alg2 (s a b c : Int64) : (((s + (a * c)) + (b * c)) + c) = ((((s + (((a + b) - ((2 : Int32).toInt64)) * c)) + c) + c) + c) := by
  have e : (2 : Int32).toInt64 = (2 : Int64) := by decide
  rw [e]
  grind
theorem own_alg3 (s a b c : Int64) : (((s + (a * c)) + (b * c)) + c) = (((((s + (((a + b) - ((3 : Int32).toInt64)) * c)) + c) + c) + c) + c) := by
  have e : (3 : Int32).toInt64 = (3 : Int64) := by decide
  rw [e]
  grind
theorem d3_0 : decode prog_29_method_1_code 0 = .ok (.aload_n 0, 1) := by decide +kernel
theorem d3_1 : decode prog_29_method_1_code 1 = .ok (.invokespecial 1, 3) := by decide +kernel
theorem d3_4 : decode prog_29_method_1_code 4 = .ok (.return_, 1) := by decide +kernel
theorem pn_3 : plainName "org/dicecaster/generator/AbstractGenerator" = true := by first | (simp [plainName, overriddenIn]; done) | decide +kernel
theorem ef_3 (m : MethodId) (a1 : Addr) : entryFrame m #[(.ref a1)] 1 = (mkF m 0 #[.val (.ref a1)] []) := by first | (simp [entryFrame, mkF, argsToLocals, Value.category, maxLocals]; done) | rfl
def Q3 (Z : State) (a1 : Addr)  (h0 : Heap) (n0 : Nat) (v : Option Value) (h : Heap) (L : List Loc) : Prop := v = none ∧ Fr n0 L ∧ h = h0
set_option maxRecDepth 65536 in
set_option maxHeartbeats 40000000 in
theorem rm3 (l : Launch) (Z : State) (a0 : Array Value) (hw : ∀ d ∈ tables_1, d.before a0 Z = true) (ws : List Jvm.Cond) (a1 : Addr)  (h0 : Heap) (n0 : Nat) (Z0 : n0 ≤ h0.size)  :
    MetFree l (⟨"org/dicecaster/generator/AbstractGenerator", "<init>", "()V"⟩ : MethodName) (head1 (Jvm.Cond.code (⟨"org/dicecaster/generator/AbstractGenerator", "<init>", "()V"⟩ : MethodName) prog_29_method_1_code 1 none :: ws) ({ frames := 1, cells := 0, slots := 0, locals := 12 } : Room)) (fun a U => a = #[(.ref a1)] ∧ Z.Warmed39 U.vm ∧ U.heap = h0) (fun _ _ _ _ _ => True) (fun _ U o U' => ∃ v L, o = .returned v ∧ Q3 Z a1  h0 n0 v U'.heap L ∧ FrameEnd U o U' L ({ frames := 1, cells := 0, slots := 0, locals := 12 } : Room).cells ({ frames := 1, cells := 0, slots := 0, locals := 12 } : Room).slots) := by
  refine MetFree.of_bodySF (plainFor_of_name pn_3) hisR ?_
  intro p e s m args below meth c s₁ Bd hml0 hP hK
  obtain ⟨rfl, hZ, hh⟩ := hP
  have hx := Bd.exec
  have hby := Bd.bytes
  have hml : c.maxLocals = 1 := hml0
  have hown : s.vm.findClass "org/dicecaster/generator/AbstractGenerator" = some m.cls := findClass_of_methodNamed Bd.named
  have hnm := (name_of_methodNamed Bd.named Bd.method).1
  have X0 : Stand p l e ({ frames := 1, cells := 0, slots := 0, locals := 12 } : Room) s m #[(.ref a1)] below meth c s₁ [] 0 0 := Stand.of_body Bd
  have e0 : s₁.heap = h0 := by rw [← hh, Bd.state]; rfl
  have N0 := Fr.nil n0
  have pre0 : Steps p.tables e below (s₁.setTop (entryFrame m #[(.ref a1)] 1)) (s₁.setTop (mkF m 0 #[.val (.ref a1)] [])) := castTop (ef_3 m a1) (Steps.refl _)
  obtain ⟨T1, X1, e1, st1⟩ := initO X0 hx hZ hown (hw _ (List.mem_of_getElem? (i := 15) rfl)) (hw _ (List.mem_of_getElem? (i := 16) rfl)) (hw _ (List.mem_of_getElem? (i := 17) rfl)) e0 (g := (mkF m 1 #[.val (.ref a1)] [(.ref a1)])) rfl (by rw [hml]; rfl) rfl (hb hby d3_1) (by decide) (W := 0) (by show 2 * 0 + _ ≤ _; exact Nat.le_of_eq rfl) (by decide)
  have pre1 : Steps p.tables e below (s₁.setTop (entryFrame m #[(.ref a1)] 1)) (T1.setTop (mkF m 4 #[.val (.ref a1)] [])) := by
    refine pre0.trans ?_
    refine XS.aloadN X0.here hx rfl (hb hby d3_0) rfl rfl ?_
    show Steps p.tables e below (s₁.setTop (mkF m 1 #[.val (.ref a1)] [(.ref a1)])) _
    exact st1 _ (Steps.refl _)
  obtain ⟨fs, hr, hrun, hended, hW, hsame⟩ := X1.leave (v := none) (fun _ => rfl)
  refine ⟨_, _, pre1.trans ?_, hrun, hended, _, _, rfl, ?_, ⟨_, rfl⟩, hW, hsame.mono (by decide) (by decide)⟩
  · skip
    exact X1.returnOut hx Bd.returns (hb hby d3_4) hr
  · show Q3 Z a1  h0 n0 _ T1.heap _
    rw [e1]
    exact ⟨rfl, N0, rfl⟩
theorem d2_0 : decode prog_43_method_2_code 0 = .ok (.aload_n 0, 1) := by decide +kernel
theorem d2_1 : decode prog_43_method_2_code 1 = .ok (.invokespecial 9, 3) := by decide +kernel
theorem d2_4 : decode prog_43_method_2_code 4 = .ok (.aload_n 0, 1) := by decide +kernel
theorem d2_5 : decode prog_43_method_2_code 5 = .ok (.lload_n 1, 1) := by decide +kernel
theorem d2_6 : decode prog_43_method_2_code 6 = .ok (.putfield 14, 3) := by decide +kernel
theorem d2_9 : decode prog_43_method_2_code 9 = .ok (.aload_n 0, 1) := by decide +kernel
theorem d2_10 : decode prog_43_method_2_code 10 = .ok (.lload_n 3, 1) := by decide +kernel
theorem d2_11 : decode prog_43_method_2_code 11 = .ok (.putfield 18, 3) := by decide +kernel
theorem d2_14 : decode prog_43_method_2_code 14 = .ok (.return_, 1) := by decide +kernel
theorem pn_2 : plainName "org/dicecaster/generator/SplitMix64" = true := by first | (simp [plainName, overriddenIn]; done) | decide +kernel
theorem ef_2 (m : MethodId) (a1 : Addr) (q2 : Int64) (q3 : Int64) : entryFrame m #[(.ref a1), (.long q2), (.long q3)] 5 = (mkF m 0 #[.val (.ref a1), .val (.long q2), .second, .val (.long q3), .second] []) := by first | (simp [entryFrame, mkF, argsToLocals, Value.category, maxLocals]; done) | rfl
def Q2 (Z : State) (a1 : Addr) (q2 : Int64) (q3 : Int64) (u1 : Value) (u2 : Value) (h0 : Heap) (n0 : Nat) (v : Option Value) (h : Heap) (L : List Loc) : Prop := v = none ∧ Fr n0 L ∧ Keep h0 h [a1] ∧ Exa Z h a1 "org/dicecaster/generator/SplitMix64" ∧ Fld Z h a1 "org/dicecaster/generator/SplitMix64" "state" "J" (.long q2) ∧ Fld Z h a1 "org/dicecaster/generator/SplitMix64" "gamma" "J" (.long q3)
set_option maxRecDepth 65536 in
set_option maxHeartbeats 40000000 in
theorem rm2 (l : Launch) (Z : State) (a0 : Array Value) (hw : ∀ d ∈ tables_1, d.before a0 Z = true) (ws : List Jvm.Cond) (a1 : Addr) (q2 : Int64) (q3 : Int64) (u1 : Value) (u2 : Value) (h0 : Heap) (n0 : Nat) (Z0 : n0 ≤ h0.size) (E1 : Exa Z h0 a1 "org/dicecaster/generator/SplitMix64") (F1 : Fld Z h0 a1 "org/dicecaster/generator/SplitMix64" "state" "J" u1) (F2 : Fld Z h0 a1 "org/dicecaster/generator/SplitMix64" "gamma" "J" u2) (g1 : n0 ≤ a1) :
    MetFree l (⟨"org/dicecaster/generator/SplitMix64", "<init>", "(JJ)V"⟩ : MethodName) (head1 (Jvm.Cond.code (⟨"org/dicecaster/generator/SplitMix64", "<init>", "(JJ)V"⟩ : MethodName) prog_43_method_2_code 5 none :: ws) ({ frames := 2, cells := 0, slots := 0, locals := 24 } : Room)) (fun a U => a = #[(.ref a1), (.long q2), (.long q3)] ∧ Z.Warmed39 U.vm ∧ U.heap = h0) (fun _ _ _ _ _ => True) (fun _ U o U' => ∃ v L, o = .returned v ∧ Q2 Z a1 q2 q3 u1 u2 h0 n0 v U'.heap L ∧ FrameEnd U o U' L ({ frames := 2, cells := 0, slots := 0, locals := 24 } : Room).cells ({ frames := 2, cells := 0, slots := 0, locals := 24 } : Room).slots) := by
  refine MetFree.of_bodySF (plainFor_of_name pn_2) hisR ?_
  intro p e s m args below meth c s₁ Bd hml0 hP hK
  obtain ⟨rfl, hZ, hh⟩ := hP
  have hx := Bd.exec
  have hby := Bd.bytes
  have hml : c.maxLocals = 5 := hml0
  have hown : s.vm.findClass "org/dicecaster/generator/SplitMix64" = some m.cls := findClass_of_methodNamed Bd.named
  have hnm := (name_of_methodNamed Bd.named Bd.method).1
  have X0 : Stand p l e ({ frames := 2, cells := 0, slots := 0, locals := 24 } : Room) s m #[(.ref a1), (.long q2), (.long q3)] below meth c s₁ [] 0 0 := Stand.of_body Bd
  have e0 : s₁.heap = h0 := by rw [← hh, Bd.state]; rfl
  have N0 := Fr.nil n0
  have pre0 : Steps p.tables e below (s₁.setTop (entryFrame m #[(.ref a1), (.long q2), (.long q3)] 5)) (s₁.setTop (mkF m 0 #[.val (.ref a1), .val (.long q2), .second, .val (.long q3), .second] [])) := castTop (ef_2 m a1 q2 q3) (Steps.refl _)
  obtain ⟨_, _, ⟨T1, L1, k1, n1⟩, -, X1, ⟨Lc1, hQ1, l1, y1, z1⟩, st1⟩ := X0.specialBack hx (y := (⟨"org/dicecaster/generator/AbstractGenerator", "<init>", "()V"⟩ : MethodName)) rfl hown (mvT hZ (hw _ (List.mem_of_getElem? (i := 10) rfl))) (mvT hZ (hw _ (List.mem_of_getElem? (i := 11) rfl))) (mvT hZ (hw _ (List.mem_of_getElem? (i := 14) rfl))) (by decide) (backOf (W := 0) (rm3 l Z a0 hw [] a1 h0 n0 Z0) hZ (hw _ (List.mem_of_getElem? (i := 14) rfl)) (hw _ (List.mem_of_getElem? (i := 13) rfl)) (by decide) (by decide)) (g := (mkF m 1 #[.val (.ref a1), .val (.long q2), .second, .val (.long q3), .second] [(.ref a1)])) rfl (by rw [hml]; rfl) (Steps.refl _) (a := a1) (argsL := []) (rest := []) (lenOf pd_0 rfl) rfl (by show 2 * 0 + _ ≤ _; exact Nat.le_of_eq rfl) (hb hby d2_1) (fun _ _ => ⟨rfl, e0, (by decide : 0 + 0 ≤ _), (by decide : 0 + 0 ≤ _)⟩)
  dsimp only [Pt.U, Pt.locs, Pt.cells, Pt.slots] at X1 l1 y1 z1 st1 hQ1
  subst l1 y1 z1
  obtain ⟨rfl, M1, e1⟩ := hQ1
  have N1 := Fr.app N0 M1
  have pre1 : Steps p.tables e below (s₁.setTop (entryFrame m #[(.ref a1), (.long q2), (.long q3)] 5)) (T1.setTop (mkF m 4 #[.val (.ref a1), .val (.long q2), .second, .val (.long q3), .second] [])) := by
    refine pre0.trans ?_
    refine XS.aloadN X0.here hx rfl (hb hby d2_0) rfl rfl ?_
    show Steps p.tables e below (s₁.setTop (mkF m 1 #[.val (.ref a1), .val (.long q2), .second, .val (.long q3), .second] [(.ref a1)])) _
    exact st1
  obtain ⟨T2, h2, X2, e2, W2, st2⟩ := putF X1 hx hZ hown (host := "") (Or.inl (hw _ (List.mem_of_getElem? (i := 18) rfl))) Via.refl e1 F1 E1 (Or.inl (hw _ (List.mem_of_getElem? (i := 19) rfl))) (hw _ (List.mem_of_getElem? (i := 1) rfl)) (ty := .long) (by decide) rfl rfl (g := (mkF m 6 #[.val (.ref a1), .val (.long q2), .second, .val (.long q3), .second] [(.long q2), (.ref a1)])) rfl rfl (hb hby d2_6)
  have N2 := Fr.snoc X2 N1 g1
  have pre2 : Steps p.tables e below (s₁.setTop (entryFrame m #[(.ref a1), (.long q2), (.long q3)] 5)) (T2.setTop (mkF m 9 #[.val (.ref a1), .val (.long q2), .second, .val (.long q3), .second] [])) := by
    refine pre1.trans ?_
    refine XS.aloadN X1.here hx rfl (hb hby d2_4) rfl rfl ?_
    show Steps p.tables e below (T1.setTop (mkF m 5 #[.val (.ref a1), .val (.long q2), .second, .val (.long q3), .second] [(.ref a1)])) _
    refine XS.lloadN X1.here hx rfl (hb hby d2_5) rfl ?_
    show Steps p.tables e below (T1.setTop (mkF m 6 #[.val (.ref a1), .val (.long q2), .second, .val (.long q3), .second] [(.long q2), (.ref a1)])) _
    exact st2 _ (Steps.refl _)
  have F3 := F2.other W2 (Or.inr (slot_ne (Or.inr (hw _ (List.mem_of_getElem? (i := 21) rfl))) (Or.inl (hw _ (List.mem_of_getElem? (i := 19) rfl))) (by decide) (t := .long) (t' := .long) (by decide) (by decide)))
  have E3 := E1.wr W2
  have F4 := F1.same W2
  obtain ⟨T3, h3, X3, e3, W3, st3⟩ := putF X2 hx hZ hown (host := "") (Or.inl (hw _ (List.mem_of_getElem? (i := 20) rfl))) Via.refl e2 F3 E3 (Or.inr ⟨(hw _ (List.mem_of_getElem? (i := 21) rfl)), rfl, hnm⟩) (hw _ (List.mem_of_getElem? (i := 1) rfl)) (ty := .long) (by decide) rfl rfl (g := (mkF m 11 #[.val (.ref a1), .val (.long q2), .second, .val (.long q3), .second] [(.long q3), (.ref a1)])) rfl rfl (hb hby d2_11)
  have N3 := Fr.snoc X3 N2 g1
  have pre3 : Steps p.tables e below (s₁.setTop (entryFrame m #[(.ref a1), (.long q2), (.long q3)] 5)) (T3.setTop (mkF m 14 #[.val (.ref a1), .val (.long q2), .second, .val (.long q3), .second] [])) := by
    refine pre2.trans ?_
    refine XS.aloadN X2.here hx rfl (hb hby d2_9) rfl rfl ?_
    show Steps p.tables e below (T2.setTop (mkF m 10 #[.val (.ref a1), .val (.long q2), .second, .val (.long q3), .second] [(.ref a1)])) _
    refine XS.lloadN X2.here hx rfl (hb hby d2_10) rfl ?_
    show Steps p.tables e below (T2.setTop (mkF m 11 #[.val (.ref a1), .val (.long q2), .second, .val (.long q3), .second] [(.long q3), (.ref a1)])) _
    exact st3 _ (Steps.refl _)
  have F5 := F4.other W3 (Or.inr (Ne.symm (slot_ne (Or.inr (hw _ (List.mem_of_getElem? (i := 21) rfl))) (Or.inl (hw _ (List.mem_of_getElem? (i := 19) rfl))) (by decide) (t := .long) (t' := .long) (by decide) (by decide))))
  have F6 := F3.same W3
  have E5 := E3.wr W3
  have K5 : Keep h0 h3 [a1] := ((Keep.refl h0 [a1]).wr W2 (Or.inl (List.mem_singleton.mpr rfl))).wr W3 (Or.inl (List.mem_singleton.mpr rfl))
  obtain ⟨fs, hr, hrun, hended, hW, hsame⟩ := X3.leave (v := none) (fun _ => rfl)
  refine ⟨_, _, pre3.trans ?_, hrun, hended, _, _, rfl, ?_, ⟨_, rfl⟩, hW, hsame.mono (by decide) (by decide)⟩
  · skip
    exact X3.returnOut hx Bd.returns (hb hby d2_14) hr
  · show Q2 Z a1 q2 q3 u1 u2 h0 n0 _ T3.heap _
    rw [e3]
    exact ⟨rfl, N3, K5, E5, F5, F6⟩
theorem d1_0 : decode prog_43_method_1_code 0 = .ok (.aload_n 0, 1) := by decide +kernel
theorem d1_1 : decode prog_43_method_1_code 1 = .ok (.lload_n 1, 1) := by decide +kernel
theorem d1_2 : decode prog_43_method_1_code 2 = .ok (.ldc2_w 3, 3) := by decide +kernel
theorem d1_5 : decode prog_43_method_1_code 5 = .ok (.invokespecial 5, 3) := by decide +kernel
theorem d1_8 : decode prog_43_method_1_code 8 = .ok (.return_, 1) := by decide +kernel
theorem ef_1 (m : MethodId) (a1 : Addr) (q2 : Int64) : entryFrame m #[(.ref a1), (.long q2)] 3 = (mkF m 0 #[.val (.ref a1), .val (.long q2), .second] []) := by first | (simp [entryFrame, mkF, argsToLocals, Value.category, maxLocals]; done) | rfl
def Q1 (Z : State) (a1 : Addr) (q2 : Int64) (u1 : Value) (u2 : Value) (h0 : Heap) (n0 : Nat) (v : Option Value) (h : Heap) (L : List Loc) : Prop := v = none ∧ Fr n0 L ∧ Keep h0 h [a1] ∧ Exa Z h a1 "org/dicecaster/generator/SplitMix64" ∧ Fld Z h a1 "org/dicecaster/generator/SplitMix64" "state" "J" (.long q2) ∧ Fld Z h a1 "org/dicecaster/generator/SplitMix64" "gamma" "J" (.long (-7046029254386353131 : Int64))
set_option maxRecDepth 65536 in
set_option maxHeartbeats 40000000 in
theorem rm1 (l : Launch) (Z : State) (a0 : Array Value) (hw : ∀ d ∈ tables_1, d.before a0 Z = true) (ws : List Jvm.Cond) (a1 : Addr) (q2 : Int64) (u1 : Value) (u2 : Value) (h0 : Heap) (n0 : Nat) (Z0 : n0 ≤ h0.size) (E1 : Exa Z h0 a1 "org/dicecaster/generator/SplitMix64") (F1 : Fld Z h0 a1 "org/dicecaster/generator/SplitMix64" "state" "J" u1) (F2 : Fld Z h0 a1 "org/dicecaster/generator/SplitMix64" "gamma" "J" u2) (g1 : n0 ≤ a1) :
    MetFree l (⟨"org/dicecaster/generator/SplitMix64", "<init>", "(J)V"⟩ : MethodName) (head1 (Jvm.Cond.code (⟨"org/dicecaster/generator/SplitMix64", "<init>", "(J)V"⟩ : MethodName) prog_43_method_1_code 3 none :: ws) ({ frames := 3, cells := 0, slots := 0, locals := 40 } : Room)) (fun a U => a = #[(.ref a1), (.long q2)] ∧ Z.Warmed39 U.vm ∧ U.heap = h0) (fun _ _ _ _ _ => True) (fun _ U o U' => ∃ v L, o = .returned v ∧ Q1 Z a1 q2 u1 u2 h0 n0 v U'.heap L ∧ FrameEnd U o U' L ({ frames := 3, cells := 0, slots := 0, locals := 40 } : Room).cells ({ frames := 3, cells := 0, slots := 0, locals := 40 } : Room).slots) := by
  refine MetFree.of_bodySF (plainFor_of_name pn_2) hisR ?_
  intro p e s m args below meth c s₁ Bd hml0 hP hK
  obtain ⟨rfl, hZ, hh⟩ := hP
  have hx := Bd.exec
  have hby := Bd.bytes
  have hml : c.maxLocals = 3 := hml0
  have hown : s.vm.findClass "org/dicecaster/generator/SplitMix64" = some m.cls := findClass_of_methodNamed Bd.named
  have hnm := (name_of_methodNamed Bd.named Bd.method).1
  have X0 : Stand p l e ({ frames := 3, cells := 0, slots := 0, locals := 40 } : Room) s m #[(.ref a1), (.long q2)] below meth c s₁ [] 0 0 := Stand.of_body Bd
  have e0 : s₁.heap = h0 := by rw [← hh, Bd.state]; rfl
  have N0 := Fr.nil n0
  have pre0 : Steps p.tables e below (s₁.setTop (entryFrame m #[(.ref a1), (.long q2)] 3)) (s₁.setTop (mkF m 0 #[.val (.ref a1), .val (.long q2), .second] [])) := castTop (ef_1 m a1 q2) (Steps.refl _)
  obtain ⟨_, _, ⟨T1, L1, k1, n1⟩, -, X1, ⟨Lc1, hQ1, l1, y1, z1⟩, st1⟩ := X0.specialBack hx (y := (⟨"org/dicecaster/generator/SplitMix64", "<init>", "(JJ)V"⟩ : MethodName)) rfl hown (mvT hZ (hw _ (List.mem_of_getElem? (i := 7) rfl))) (mvT hZ (hw _ (List.mem_of_getElem? (i := 8) rfl))) (mvT hZ (hw _ (List.mem_of_getElem? (i := 9) rfl))) (by decide) (backOf (W := 0) (rm2 l Z a0 hw [] a1 q2 (-7046029254386353131 : Int64) u1 u2 h0 n0 Z0 E1 F1 F2 g1) hZ (hw _ (List.mem_of_getElem? (i := 9) rfl)) (hw _ (List.mem_of_getElem? (i := 2) rfl)) (by decide) (by decide)) (g := (mkF m 5 #[.val (.ref a1), .val (.long q2), .second] [(.long (-7046029254386353131 : Int64)), (.long q2), (.ref a1)])) rfl (by rw [hml]; rfl) (Steps.refl _) (a := a1) (argsL := [(.long q2), (.long (-7046029254386353131 : Int64))]) (rest := []) (lenOf pd_2 rfl) rfl (by show 2 * 0 + _ ≤ _; exact Nat.le_of_eq rfl) (hb hby d1_5) (fun _ _ => ⟨rfl, e0, (by decide : 0 + 0 ≤ _), (by decide : 0 + 0 ≤ _)⟩)
  dsimp only [Pt.U, Pt.locs, Pt.cells, Pt.slots] at X1 l1 y1 z1 st1 hQ1
  subst l1 y1 z1
  obtain ⟨rfl, M1, K1, E5, F5, F6⟩ := hQ1
  have N1 := Fr.app N0 M1
  have pre1 : Steps p.tables e below (s₁.setTop (entryFrame m #[(.ref a1), (.long q2)] 3)) (T1.setTop (mkF m 8 #[.val (.ref a1), .val (.long q2), .second] [])) := by
    refine pre0.trans ?_
    refine XS.aloadN X0.here hx rfl (hb hby d1_0) rfl rfl ?_
    show Steps p.tables e below (s₁.setTop (mkF m 1 #[.val (.ref a1), .val (.long q2), .second] [(.ref a1)])) _
    refine XS.lloadN X0.here hx rfl (hb hby d1_1) rfl ?_
    show Steps p.tables e below (s₁.setTop (mkF m 2 #[.val (.ref a1), .val (.long q2), .second] [(.long q2), (.ref a1)])) _
    refine X0.ldc2Long hx hown (mvT hZ (hw _ (List.mem_of_getElem? (i := 6) rfl))) (g := (mkF m 2 #[.val (.ref a1), .val (.long q2), .second] [(.long q2), (.ref a1)])) rfl (hb hby d1_2) _ ?_
    show Steps p.tables e below (s₁.setTop (mkF m 5 #[.val (.ref a1), .val (.long q2), .second] [(.long (-7046029254386353131 : Int64)), (.long q2), (.ref a1)])) _
    exact st1
  obtain ⟨fs, hr, hrun, hended, hW, hsame⟩ := X1.leave (v := none) (fun _ => rfl)
  refine ⟨_, _, pre1.trans ?_, hrun, hended, _, _, rfl, ?_, ⟨_, rfl⟩, hW, hsame.mono (by decide) (by decide)⟩
  · skip
    exact X1.returnOut hx Bd.returns (hb hby d1_8) hr
  · show Q1 Z a1 q2 u1 u2 h0 n0 _ T1.heap _
    exact ⟨rfl, N1, K1, E5, F5, F6⟩
theorem d5_0 : decode prog_43_method_4_code 0 = .ok (.aload_n 0, 1) := by decide +kernel
theorem d5_1 : decode prog_43_method_4_code 1 = .ok (.dup, 1) := by decide +kernel
theorem d5_2 : decode prog_43_method_4_code 2 = .ok (.getfield 14, 3) := by decide +kernel
theorem d5_5 : decode prog_43_method_4_code 5 = .ok (.lload_n 1, 1) := by decide +kernel
theorem d5_6 : decode prog_43_method_4_code 6 = .ok (.aload_n 0, 1) := by decide +kernel
theorem d5_7 : decode prog_43_method_4_code 7 = .ok (.getfield 18, 3) := by decide +kernel
theorem d5_10 : decode prog_43_method_4_code 10 = .ok (.lmul, 1) := by decide +kernel
theorem d5_11 : decode prog_43_method_4_code 11 = .ok (.ladd, 1) := by decide +kernel
theorem d5_12 : decode prog_43_method_4_code 12 = .ok (.putfield 14, 3) := by decide +kernel
theorem d5_15 : decode prog_43_method_4_code 15 = .ok (.return_, 1) := by decide +kernel
theorem ef_5 (m : MethodId) (a1 : Addr) (q2 : Int64) : entryFrame m #[(.ref a1), (.long q2)] 3 = (mkF m 0 #[.val (.ref a1), .val (.long q2), .second] []) := by first | (simp [entryFrame, mkF, argsToLocals, Value.category, maxLocals]; done) | rfl
def Q5 (Z : State) (a1 : Addr) (q2 : Int64) (w2 : Int64) (w3 : Int64) (h0 : Heap) (n0 : Nat) (v : Option Value) (h : Heap) (L : List Loc) : Prop := v = none ∧ Fr n0 L ∧ Keep h0 h [a1] ∧ Exa Z h a1 "org/dicecaster/generator/SplitMix64" ∧ Fld Z h a1 "org/dicecaster/generator/SplitMix64" "state" "J" (.long (w2 + (q2 * w3))) ∧ Fld Z h a1 "org/dicecaster/generator/SplitMix64" "gamma" "J" (.long w3)
set_option maxRecDepth 65536 in
set_option maxHeartbeats 40000000 in
theorem rm5 (l : Launch) (Z : State) (a0 : Array Value) (hw : ∀ d ∈ tables_1, d.before a0 Z = true) (ws : List Jvm.Cond) (a1 : Addr) (q2 : Int64) (w2 : Int64) (w3 : Int64) (h0 : Heap) (n0 : Nat) (Z0 : n0 ≤ h0.size) (E1 : Exa Z h0 a1 "org/dicecaster/generator/SplitMix64") (F1 : Fld Z h0 a1 "org/dicecaster/generator/SplitMix64" "state" "J" (.long w2)) (F2 : Fld Z h0 a1 "org/dicecaster/generator/SplitMix64" "gamma" "J" (.long w3)) (g1 : n0 ≤ a1) :
    MetFree l (⟨"org/dicecaster/generator/SplitMix64", "advance", "(J)V"⟩ : MethodName) (head1 (Jvm.Cond.code (⟨"org/dicecaster/generator/SplitMix64", "advance", "(J)V"⟩ : MethodName) prog_43_method_4_code 3 none :: ws) ({ frames := 0, cells := 0, slots := 0, locals := 0 } : Room)) (fun a U => a = #[(.ref a1), (.long q2)] ∧ Z.Warmed39 U.vm ∧ U.heap = h0) (fun _ _ _ _ _ => True) (fun _ U o U' => ∃ v L, o = .returned v ∧ Q5 Z a1 q2 w2 w3 h0 n0 v U'.heap L ∧ FrameEnd U o U' L ({ frames := 0, cells := 0, slots := 0, locals := 0 } : Room).cells ({ frames := 0, cells := 0, slots := 0, locals := 0 } : Room).slots) := by
  refine MetFree.of_bodySF (plainFor_of_name pn_2) hisR ?_
  intro p e s m args below meth c s₁ Bd hml0 hP hK
  obtain ⟨rfl, hZ, hh⟩ := hP
  have hx := Bd.exec
  have hby := Bd.bytes
  have hml : c.maxLocals = 3 := hml0
  have hown : s.vm.findClass "org/dicecaster/generator/SplitMix64" = some m.cls := findClass_of_methodNamed Bd.named
  have hnm := (name_of_methodNamed Bd.named Bd.method).1
  have X0 : Stand p l e ({ frames := 0, cells := 0, slots := 0, locals := 0 } : Room) s m #[(.ref a1), (.long q2)] below meth c s₁ [] 0 0 := Stand.of_body Bd
  have e0 : s₁.heap = h0 := by rw [← hh, Bd.state]; rfl
  have N0 := Fr.nil n0
  have pre0 : Steps p.tables e below (s₁.setTop (entryFrame m #[(.ref a1), (.long q2)] 3)) (s₁.setTop (mkF m 0 #[.val (.ref a1), .val (.long q2), .second] [])) := castTop (ef_5 m a1 q2) (Steps.refl _)
  obtain ⟨T1, X1, e1, st1⟩ := getF X0 hx hZ hown (host := "") (Or.inl (hw _ (List.mem_of_getElem? (i := 18) rfl))) Via.refl e0 F1 (g := (mkF m 2 #[.val (.ref a1), .val (.long q2), .second] [(.ref a1), (.ref a1)])) rfl rfl (hb hby d5_2)
  have pre1 : Steps p.tables e below (s₁.setTop (entryFrame m #[(.ref a1), (.long q2)] 3)) (T1.setTop (mkF m 5 #[.val (.ref a1), .val (.long q2), .second] [(.long w2), (.ref a1)])) := by
    refine pre0.trans ?_
    refine XS.aloadN X0.here hx rfl (hb hby d5_0) rfl rfl ?_
    show Steps p.tables e below (s₁.setTop (mkF m 1 #[.val (.ref a1), .val (.long q2), .second] [(.ref a1)])) _
    refine XS.dup X0.here hx rfl (hb hby d5_1) rfl rfl ?_
    show Steps p.tables e below (s₁.setTop (mkF m 2 #[.val (.ref a1), .val (.long q2), .second] [(.ref a1), (.ref a1)])) _
    exact st1 _ (Steps.refl _)
  obtain ⟨T2, X2, e2, st2⟩ := getF X1 hx hZ hown (host := "") (Or.inl (hw _ (List.mem_of_getElem? (i := 20) rfl))) Via.refl e1 F2 (g := (mkF m 7 #[.val (.ref a1), .val (.long q2), .second] [(.ref a1), (.long q2), (.long w2), (.ref a1)])) rfl rfl (hb hby d5_7)
  have pre2 : Steps p.tables e below (s₁.setTop (entryFrame m #[(.ref a1), (.long q2)] 3)) (T2.setTop (mkF m 10 #[.val (.ref a1), .val (.long q2), .second] [(.long w3), (.long q2), (.long w2), (.ref a1)])) := by
    refine pre1.trans ?_
    refine XS.lloadN X1.here hx rfl (hb hby d5_5) rfl ?_
    show Steps p.tables e below (T1.setTop (mkF m 6 #[.val (.ref a1), .val (.long q2), .second] [(.long q2), (.long w2), (.ref a1)])) _
    refine XS.aloadN X1.here hx rfl (hb hby d5_6) rfl rfl ?_
    show Steps p.tables e below (T1.setTop (mkF m 7 #[.val (.ref a1), .val (.long q2), .second] [(.ref a1), (.long q2), (.long w2), (.ref a1)])) _
    exact st2 _ (Steps.refl _)
  obtain ⟨T3, h3, X3, e3, W3, st3⟩ := putF X2 hx hZ hown (host := "") (Or.inl (hw _ (List.mem_of_getElem? (i := 18) rfl))) Via.refl e2 F1 E1 (Or.inl (hw _ (List.mem_of_getElem? (i := 19) rfl))) (hw _ (List.mem_of_getElem? (i := 1) rfl)) (ty := .long) (by decide) rfl rfl (g := (mkF m 12 #[.val (.ref a1), .val (.long q2), .second] [(.long (w2 + (q2 * w3))), (.ref a1)])) rfl rfl (hb hby d5_12)
  have N3 := Fr.snoc X3 N0 g1
  have pre3 : Steps p.tables e below (s₁.setTop (entryFrame m #[(.ref a1), (.long q2)] 3)) (T3.setTop (mkF m 15 #[.val (.ref a1), .val (.long q2), .second] [])) := by
    refine pre2.trans ?_
    refine XS.lmul X2.here hx rfl (hb hby d5_10) rfl ?_
    show Steps p.tables e below (T2.setTop (mkF m 11 #[.val (.ref a1), .val (.long q2), .second] [(.long (q2 * w3)), (.long w2), (.ref a1)])) _
    refine XS.ladd X2.here hx rfl (hb hby d5_11) rfl ?_
    show Steps p.tables e below (T2.setTop (mkF m 12 #[.val (.ref a1), .val (.long q2), .second] [(.long (w2 + (q2 * w3))), (.ref a1)])) _
    exact st3 _ (Steps.refl _)
  have F3 := F2.other W3 (Or.inr (slot_ne (Or.inr (hw _ (List.mem_of_getElem? (i := 21) rfl))) (Or.inl (hw _ (List.mem_of_getElem? (i := 19) rfl))) (by decide) (t := .long) (t' := .long) (by decide) (by decide)))
  have E3 := E1.wr W3
  have F4 := F1.same W3
  have K5 : Keep h0 h3 [a1] := (Keep.refl h0 [a1]).wr W3 (Or.inl (List.mem_singleton.mpr rfl))
  obtain ⟨fs, hr, hrun, hended, hW, hsame⟩ := X3.leave (v := none) (fun _ => rfl)
  refine ⟨_, _, pre3.trans ?_, hrun, hended, _, _, rfl, ?_, ⟨_, rfl⟩, hW, hsame.mono (by decide) (by decide)⟩
  · skip
    exact X3.returnOut hx Bd.returns (hb hby d5_15) hr
  · show Q5 Z a1 q2 w2 w3 h0 n0 _ T3.heap _
    rw [e3]
    exact ⟨rfl, N3, K5, E3, F4, F3⟩
theorem d6_0 : decode prog_43_method_3_code 0 = .ok (.aload_n 0, 1) := by decide +kernel
theorem d6_1 : decode prog_43_method_3_code 1 = .ok (.dup, 1) := by decide +kernel
theorem d6_2 : decode prog_43_method_3_code 2 = .ok (.getfield 14, 3) := by decide +kernel
theorem d6_5 : decode prog_43_method_3_code 5 = .ok (.aload_n 0, 1) := by decide +kernel
theorem d6_6 : decode prog_43_method_3_code 6 = .ok (.getfield 18, 3) := by decide +kernel
theorem d6_9 : decode prog_43_method_3_code 9 = .ok (.ladd, 1) := by decide +kernel
theorem d6_10 : decode prog_43_method_3_code 10 = .ok (.putfield 14, 3) := by decide +kernel
theorem d6_13 : decode prog_43_method_3_code 13 = .ok (.aload_n 0, 1) := by decide +kernel
theorem d6_14 : decode prog_43_method_3_code 14 = .ok (.getfield 14, 3) := by decide +kernel
theorem d6_17 : decode prog_43_method_3_code 17 = .ok (.lstore_n 1, 1) := by decide +kernel
theorem d6_18 : decode prog_43_method_3_code 18 = .ok (.lload_n 1, 1) := by decide +kernel
theorem d6_19 : decode prog_43_method_3_code 19 = .ok (.lload_n 1, 1) := by decide +kernel
theorem d6_20 : decode prog_43_method_3_code 20 = .ok (.bipush 30, 2) := by decide +kernel
theorem d6_22 : decode prog_43_method_3_code 22 = .ok (.lushr, 1) := by decide +kernel
theorem d6_23 : decode prog_43_method_3_code 23 = .ok (.lxor, 1) := by decide +kernel
theorem d6_24 : decode prog_43_method_3_code 24 = .ok (.ldc2_w 21, 3) := by decide +kernel
theorem d6_27 : decode prog_43_method_3_code 27 = .ok (.lmul, 1) := by decide +kernel
theorem d6_28 : decode prog_43_method_3_code 28 = .ok (.lstore_n 1, 1) := by decide +kernel
theorem d6_29 : decode prog_43_method_3_code 29 = .ok (.lload_n 1, 1) := by decide +kernel
theorem d6_30 : decode prog_43_method_3_code 30 = .ok (.lload_n 1, 1) := by decide +kernel
theorem d6_31 : decode prog_43_method_3_code 31 = .ok (.bipush 27, 2) := by decide +kernel
theorem d6_33 : decode prog_43_method_3_code 33 = .ok (.lushr, 1) := by decide +kernel
theorem d6_34 : decode prog_43_method_3_code 34 = .ok (.lxor, 1) := by decide +kernel
theorem d6_35 : decode prog_43_method_3_code 35 = .ok (.ldc2_w 23, 3) := by decide +kernel
theorem d6_38 : decode prog_43_method_3_code 38 = .ok (.lmul, 1) := by decide +kernel
theorem d6_39 : decode prog_43_method_3_code 39 = .ok (.lstore_n 1, 1) := by decide +kernel
theorem d6_40 : decode prog_43_method_3_code 40 = .ok (.lload_n 1, 1) := by decide +kernel
theorem d6_41 : decode prog_43_method_3_code 41 = .ok (.lload_n 1, 1) := by decide +kernel
theorem d6_42 : decode prog_43_method_3_code 42 = .ok (.bipush 31, 2) := by decide +kernel
theorem d6_44 : decode prog_43_method_3_code 44 = .ok (.lushr, 1) := by decide +kernel
theorem d6_45 : decode prog_43_method_3_code 45 = .ok (.lxor, 1) := by decide +kernel
theorem d6_46 : decode prog_43_method_3_code 46 = .ok (.lreturn, 1) := by decide +kernel
theorem ef_6 (m : MethodId) (a1 : Addr) : entryFrame m #[(.ref a1)] 3 = (mkF m 0 #[.val (.ref a1), .unset, .unset] []) := by first | (simp [entryFrame, mkF, argsToLocals, Value.category, maxLocals]; done) | rfl
def Q6 (Z : State) (a1 : Addr) (w2 : Int64) (w3 : Int64) (h0 : Heap) (n0 : Nat) (v : Option Value) (h : Heap) (L : List Loc) : Prop := v = some (.long (own_mix (w2 + w3))) ∧ Fr n0 L ∧ Keep h0 h [a1] ∧ Exa Z h a1 "org/dicecaster/generator/SplitMix64" ∧ Fld Z h a1 "org/dicecaster/generator/SplitMix64" "state" "J" (.long (w2 + w3)) ∧ Fld Z h a1 "org/dicecaster/generator/SplitMix64" "gamma" "J" (.long w3)
set_option maxRecDepth 65536 in
set_option maxHeartbeats 40000000 in
theorem rm6 (l : Launch) (Z : State) (a0 : Array Value) (hw : ∀ d ∈ tables_1, d.before a0 Z = true) (ws : List Jvm.Cond) (a1 : Addr) (w2 : Int64) (w3 : Int64) (h0 : Heap) (n0 : Nat) (Z0 : n0 ≤ h0.size) (E1 : Exa Z h0 a1 "org/dicecaster/generator/SplitMix64") (F1 : Fld Z h0 a1 "org/dicecaster/generator/SplitMix64" "state" "J" (.long w2)) (F2 : Fld Z h0 a1 "org/dicecaster/generator/SplitMix64" "gamma" "J" (.long w3)) (g1 : n0 ≤ a1) :
    MetFree l (⟨"org/dicecaster/generator/SplitMix64", "nextLong", "()J"⟩ : MethodName) (head1 (Jvm.Cond.code (⟨"org/dicecaster/generator/SplitMix64", "nextLong", "()J"⟩ : MethodName) prog_43_method_3_code 3 (some .long) :: ws) ({ frames := 0, cells := 0, slots := 0, locals := 0 } : Room)) (fun a U => a = #[(.ref a1)] ∧ Z.Warmed39 U.vm ∧ U.heap = h0) (fun _ _ _ _ _ => True) (fun _ U o U' => ∃ v L, o = .returned v ∧ Q6 Z a1 w2 w3 h0 n0 v U'.heap L ∧ FrameEnd U o U' L ({ frames := 0, cells := 0, slots := 0, locals := 0 } : Room).cells ({ frames := 0, cells := 0, slots := 0, locals := 0 } : Room).slots) := by
  refine MetFree.of_bodySF (plainFor_of_name pn_2) hisR ?_
  intro p e s m args below meth c s₁ Bd hml0 hP hK
  obtain ⟨rfl, hZ, hh⟩ := hP
  have hx := Bd.exec
  have hby := Bd.bytes
  have hml : c.maxLocals = 3 := hml0
  have hown : s.vm.findClass "org/dicecaster/generator/SplitMix64" = some m.cls := findClass_of_methodNamed Bd.named
  have hnm := (name_of_methodNamed Bd.named Bd.method).1
  have X0 : Stand p l e ({ frames := 0, cells := 0, slots := 0, locals := 0 } : Room) s m #[(.ref a1)] below meth c s₁ [] 0 0 := Stand.of_body Bd
  have e0 : s₁.heap = h0 := by rw [← hh, Bd.state]; rfl
  have N0 := Fr.nil n0
  have pre0 : Steps p.tables e below (s₁.setTop (entryFrame m #[(.ref a1)] 3)) (s₁.setTop (mkF m 0 #[.val (.ref a1), .unset, .unset] [])) := castTop (ef_6 m a1) (Steps.refl _)
  obtain ⟨T1, X1, e1, st1⟩ := getF X0 hx hZ hown (host := "") (Or.inl (hw _ (List.mem_of_getElem? (i := 18) rfl))) Via.refl e0 F1 (g := (mkF m 2 #[.val (.ref a1), .unset, .unset] [(.ref a1), (.ref a1)])) rfl rfl (hb hby d6_2)
  have pre1 : Steps p.tables e below (s₁.setTop (entryFrame m #[(.ref a1)] 3)) (T1.setTop (mkF m 5 #[.val (.ref a1), .unset, .unset] [(.long w2), (.ref a1)])) := by
    refine pre0.trans ?_
    refine XS.aloadN X0.here hx rfl (hb hby d6_0) rfl rfl ?_
    show Steps p.tables e below (s₁.setTop (mkF m 1 #[.val (.ref a1), .unset, .unset] [(.ref a1)])) _
    refine XS.dup X0.here hx rfl (hb hby d6_1) rfl rfl ?_
    show Steps p.tables e below (s₁.setTop (mkF m 2 #[.val (.ref a1), .unset, .unset] [(.ref a1), (.ref a1)])) _
    exact st1 _ (Steps.refl _)
  obtain ⟨T2, X2, e2, st2⟩ := getF X1 hx hZ hown (host := "") (Or.inl (hw _ (List.mem_of_getElem? (i := 20) rfl))) Via.refl e1 F2 (g := (mkF m 6 #[.val (.ref a1), .unset, .unset] [(.ref a1), (.long w2), (.ref a1)])) rfl rfl (hb hby d6_6)
  have pre2 : Steps p.tables e below (s₁.setTop (entryFrame m #[(.ref a1)] 3)) (T2.setTop (mkF m 9 #[.val (.ref a1), .unset, .unset] [(.long w3), (.long w2), (.ref a1)])) := by
    refine pre1.trans ?_
    refine XS.aloadN X1.here hx rfl (hb hby d6_5) rfl rfl ?_
    show Steps p.tables e below (T1.setTop (mkF m 6 #[.val (.ref a1), .unset, .unset] [(.ref a1), (.long w2), (.ref a1)])) _
    exact st2 _ (Steps.refl _)
  obtain ⟨T3, h3, X3, e3, W3, st3⟩ := putF X2 hx hZ hown (host := "") (Or.inl (hw _ (List.mem_of_getElem? (i := 18) rfl))) Via.refl e2 F1 E1 (Or.inl (hw _ (List.mem_of_getElem? (i := 19) rfl))) (hw _ (List.mem_of_getElem? (i := 1) rfl)) (ty := .long) (by decide) rfl rfl (g := (mkF m 10 #[.val (.ref a1), .unset, .unset] [(.long (w2 + w3)), (.ref a1)])) rfl rfl (hb hby d6_10)
  have N3 := Fr.snoc X3 N0 g1
  have pre3 : Steps p.tables e below (s₁.setTop (entryFrame m #[(.ref a1)] 3)) (T3.setTop (mkF m 13 #[.val (.ref a1), .unset, .unset] [])) := by
    refine pre2.trans ?_
    refine XS.ladd X2.here hx rfl (hb hby d6_9) rfl ?_
    show Steps p.tables e below (T2.setTop (mkF m 10 #[.val (.ref a1), .unset, .unset] [(.long (w2 + w3)), (.ref a1)])) _
    exact st3 _ (Steps.refl _)
  have F3 := F2.other W3 (Or.inr (slot_ne (Or.inr (hw _ (List.mem_of_getElem? (i := 21) rfl))) (Or.inl (hw _ (List.mem_of_getElem? (i := 19) rfl))) (by decide) (t := .long) (t' := .long) (by decide) (by decide)))
  have E3 := E1.wr W3
  have F4 := F1.same W3
  have K5 : Keep h0 h3 [a1] := (Keep.refl h0 [a1]).wr W3 (Or.inl (List.mem_singleton.mpr rfl))
  obtain ⟨T4, X4, e4, st4⟩ := getF X3 hx hZ hown (host := "") (Or.inl (hw _ (List.mem_of_getElem? (i := 18) rfl))) Via.refl e3 F4 (g := (mkF m 14 #[.val (.ref a1), .unset, .unset] [(.ref a1)])) rfl rfl (hb hby d6_14)
  have pre4 : Steps p.tables e below (s₁.setTop (entryFrame m #[(.ref a1)] 3)) (T4.setTop (mkF m 17 #[.val (.ref a1), .unset, .unset] [(.long (w2 + w3))])) := by
    refine pre3.trans ?_
    refine XS.aloadN X3.here hx rfl (hb hby d6_13) rfl rfl ?_
    show Steps p.tables e below (T3.setTop (mkF m 14 #[.val (.ref a1), .unset, .unset] [(.ref a1)])) _
    exact st4 _ (Steps.refl _)
  have pre5 : Steps p.tables e below (s₁.setTop (entryFrame m #[(.ref a1)] 3)) (T4.setTop (mkF m 18 #[.val (.ref a1), .val (.long (w2 + w3)), .second] [])) := by
    refine pre4.trans ?_
    refine XS.lstoreN X4.here hx rfl (hb hby d6_17) rfl (l' := #[.val (.ref a1), .val (.long (w2 + w3)), .second]) rfl ?_
    show Steps p.tables e below (T4.setTop (mkF m 18 #[.val (.ref a1), .val (.long (w2 + w3)), .second] [])) _
    exact Steps.refl _
  obtain ⟨z1, hz1⟩ : ∃ z, z = (w2 + w3) := ⟨_, rfl⟩
  rw [← hz1] at pre5
  have pre6 : Steps p.tables e below (s₁.setTop (entryFrame m #[(.ref a1)] 3)) (T4.setTop (mkF m 29 #[.val (.ref a1), .val (.long ((z1 ^^^ ((z1.toUInt64 >>> ((30 : Int32) &&& 0x3f).toInt64.toUInt64).toInt64)) * (-4658895280553007687 : Int64))), .second] [])) := by
    refine pre5.trans ?_
    refine XS.lloadN X4.here hx rfl (hb hby d6_18) rfl ?_
    show Steps p.tables e below (T4.setTop (mkF m 19 #[.val (.ref a1), .val (.long z1), .second] [(.long z1)])) _
    refine XS.lloadN X4.here hx rfl (hb hby d6_19) rfl ?_
    show Steps p.tables e below (T4.setTop (mkF m 20 #[.val (.ref a1), .val (.long z1), .second] [(.long z1), (.long z1)])) _
    refine XS.bipush X4.here hx rfl (hb hby d6_20) ?_
    show Steps p.tables e below (T4.setTop (mkF m 22 #[.val (.ref a1), .val (.long z1), .second] [(.int (30 : Int32)), (.long z1), (.long z1)])) _
    refine XS.lushr X4.here hx rfl (hb hby d6_22) rfl ?_
    show Steps p.tables e below (T4.setTop (mkF m 23 #[.val (.ref a1), .val (.long z1), .second] [(.long ((z1.toUInt64 >>> ((30 : Int32) &&& 0x3f).toInt64.toUInt64).toInt64)), (.long z1)])) _
    refine XS.lxor X4.here hx rfl (hb hby d6_23) rfl ?_
    show Steps p.tables e below (T4.setTop (mkF m 24 #[.val (.ref a1), .val (.long z1), .second] [(.long (z1 ^^^ ((z1.toUInt64 >>> ((30 : Int32) &&& 0x3f).toInt64.toUInt64).toInt64)))])) _
    refine X4.ldc2Long hx hown (mvT hZ (hw _ (List.mem_of_getElem? (i := 32) rfl))) (g := (mkF m 24 #[.val (.ref a1), .val (.long z1), .second] [(.long (z1 ^^^ ((z1.toUInt64 >>> ((30 : Int32) &&& 0x3f).toInt64.toUInt64).toInt64)))])) rfl (hb hby d6_24) _ ?_
    show Steps p.tables e below (T4.setTop (mkF m 27 #[.val (.ref a1), .val (.long z1), .second] [(.long (-4658895280553007687 : Int64)), (.long (z1 ^^^ ((z1.toUInt64 >>> ((30 : Int32) &&& 0x3f).toInt64.toUInt64).toInt64)))])) _
    refine XS.lmul X4.here hx rfl (hb hby d6_27) rfl ?_
    show Steps p.tables e below (T4.setTop (mkF m 28 #[.val (.ref a1), .val (.long z1), .second] [(.long ((z1 ^^^ ((z1.toUInt64 >>> ((30 : Int32) &&& 0x3f).toInt64.toUInt64).toInt64)) * (-4658895280553007687 : Int64)))])) _
    refine XS.lstoreN X4.here hx rfl (hb hby d6_28) rfl (l' := #[.val (.ref a1), .val (.long ((z1 ^^^ ((z1.toUInt64 >>> ((30 : Int32) &&& 0x3f).toInt64.toUInt64).toInt64)) * (-4658895280553007687 : Int64))), .second]) rfl ?_
    show Steps p.tables e below (T4.setTop (mkF m 29 #[.val (.ref a1), .val (.long ((z1 ^^^ ((z1.toUInt64 >>> ((30 : Int32) &&& 0x3f).toInt64.toUInt64).toInt64)) * (-4658895280553007687 : Int64))), .second] [])) _
    exact Steps.refl _
  obtain ⟨z2, hz2⟩ : ∃ z, z = ((z1 ^^^ ((z1.toUInt64 >>> ((30 : Int32) &&& 0x3f).toInt64.toUInt64).toInt64)) * (-4658895280553007687 : Int64)) := ⟨_, rfl⟩
  rw [← hz2] at pre6
  have pre7 : Steps p.tables e below (s₁.setTop (entryFrame m #[(.ref a1)] 3)) (T4.setTop (mkF m 40 #[.val (.ref a1), .val (.long ((z2 ^^^ ((z2.toUInt64 >>> ((27 : Int32) &&& 0x3f).toInt64.toUInt64).toInt64)) * (-7723592293110705685 : Int64))), .second] [])) := by
    refine pre6.trans ?_
    refine XS.lloadN X4.here hx rfl (hb hby d6_29) rfl ?_
    show Steps p.tables e below (T4.setTop (mkF m 30 #[.val (.ref a1), .val (.long z2), .second] [(.long z2)])) _
    refine XS.lloadN X4.here hx rfl (hb hby d6_30) rfl ?_
    show Steps p.tables e below (T4.setTop (mkF m 31 #[.val (.ref a1), .val (.long z2), .second] [(.long z2), (.long z2)])) _
    refine XS.bipush X4.here hx rfl (hb hby d6_31) ?_
    show Steps p.tables e below (T4.setTop (mkF m 33 #[.val (.ref a1), .val (.long z2), .second] [(.int (27 : Int32)), (.long z2), (.long z2)])) _
    refine XS.lushr X4.here hx rfl (hb hby d6_33) rfl ?_
    show Steps p.tables e below (T4.setTop (mkF m 34 #[.val (.ref a1), .val (.long z2), .second] [(.long ((z2.toUInt64 >>> ((27 : Int32) &&& 0x3f).toInt64.toUInt64).toInt64)), (.long z2)])) _
    refine XS.lxor X4.here hx rfl (hb hby d6_34) rfl ?_
    show Steps p.tables e below (T4.setTop (mkF m 35 #[.val (.ref a1), .val (.long z2), .second] [(.long (z2 ^^^ ((z2.toUInt64 >>> ((27 : Int32) &&& 0x3f).toInt64.toUInt64).toInt64)))])) _
    refine X4.ldc2Long hx hown (mvT hZ (hw _ (List.mem_of_getElem? (i := 33) rfl))) (g := (mkF m 35 #[.val (.ref a1), .val (.long z2), .second] [(.long (z2 ^^^ ((z2.toUInt64 >>> ((27 : Int32) &&& 0x3f).toInt64.toUInt64).toInt64)))])) rfl (hb hby d6_35) _ ?_
    show Steps p.tables e below (T4.setTop (mkF m 38 #[.val (.ref a1), .val (.long z2), .second] [(.long (-7723592293110705685 : Int64)), (.long (z2 ^^^ ((z2.toUInt64 >>> ((27 : Int32) &&& 0x3f).toInt64.toUInt64).toInt64)))])) _
    refine XS.lmul X4.here hx rfl (hb hby d6_38) rfl ?_
    show Steps p.tables e below (T4.setTop (mkF m 39 #[.val (.ref a1), .val (.long z2), .second] [(.long ((z2 ^^^ ((z2.toUInt64 >>> ((27 : Int32) &&& 0x3f).toInt64.toUInt64).toInt64)) * (-7723592293110705685 : Int64)))])) _
    refine XS.lstoreN X4.here hx rfl (hb hby d6_39) rfl (l' := #[.val (.ref a1), .val (.long ((z2 ^^^ ((z2.toUInt64 >>> ((27 : Int32) &&& 0x3f).toInt64.toUInt64).toInt64)) * (-7723592293110705685 : Int64))), .second]) rfl ?_
    show Steps p.tables e below (T4.setTop (mkF m 40 #[.val (.ref a1), .val (.long ((z2 ^^^ ((z2.toUInt64 >>> ((27 : Int32) &&& 0x3f).toInt64.toUInt64).toInt64)) * (-7723592293110705685 : Int64))), .second] [])) _
    exact Steps.refl _
  obtain ⟨z3, hz3⟩ : ∃ z, z = ((z2 ^^^ ((z2.toUInt64 >>> ((27 : Int32) &&& 0x3f).toInt64.toUInt64).toInt64)) * (-7723592293110705685 : Int64)) := ⟨_, rfl⟩
  rw [← hz3] at pre7
  obtain ⟨fs, hr, hrun, hended, hW, hsame⟩ := X4.leave (v := some (.long (z3 ^^^ ((z3.toUInt64 >>> ((31 : Int32) &&& 0x3f).toInt64.toUInt64).toInt64)))) (fun h => by rw [Bd.returns] at h; cases h)
  refine ⟨_, _, pre7.trans ?_, hrun, hended, _, _, rfl, ?_, ⟨_, rfl⟩, hW, hsame.mono (by decide) (by decide)⟩
  · skip
    refine XS.lloadN X4.here hx rfl (hb hby d6_40) rfl ?_
    show Steps p.tables e below (T4.setTop (mkF m 41 #[.val (.ref a1), .val (.long z3), .second] [(.long z3)])) _
    refine XS.lloadN X4.here hx rfl (hb hby d6_41) rfl ?_
    show Steps p.tables e below (T4.setTop (mkF m 42 #[.val (.ref a1), .val (.long z3), .second] [(.long z3), (.long z3)])) _
    refine XS.bipush X4.here hx rfl (hb hby d6_42) ?_
    show Steps p.tables e below (T4.setTop (mkF m 44 #[.val (.ref a1), .val (.long z3), .second] [(.int (31 : Int32)), (.long z3), (.long z3)])) _
    refine XS.lushr X4.here hx rfl (hb hby d6_44) rfl ?_
    show Steps p.tables e below (T4.setTop (mkF m 45 #[.val (.ref a1), .val (.long z3), .second] [(.long ((z3.toUInt64 >>> ((31 : Int32) &&& 0x3f).toInt64.toUInt64).toInt64)), (.long z3)])) _
    refine XS.lxor X4.here hx rfl (hb hby d6_45) rfl ?_
    show Steps p.tables e below (T4.setTop (mkF m 46 #[.val (.ref a1), .val (.long z3), .second] [(.long (z3 ^^^ ((z3.toUInt64 >>> ((31 : Int32) &&& 0x3f).toInt64.toUInt64).toInt64)))])) _
    exact X4.lreturnOut hx Bd.returns (hb hby d6_46) hr
  · show Q6 Z a1 w2 w3 h0 n0 _ T4.heap _
    rw [e4]
    exact ⟨by rw [hz3, hz2, hz1]; rfl, N3, K5, E3, F4, F3⟩
theorem pn_0 : plainName "org/dicecaster/generator/SplitMix64AdvancePinLaw" = true := by first | (simp [plainName, overriddenIn]; done) | decide +kernel
theorem ef_0 (m : MethodId) (q1 : Int64) (q2 : Int64) (q3 : Int64) (p4 : Int32) : entryFrame m #[(.long q1), (.long q2), (.long q3), (.int p4)] maxLocals = (mkF m 0 #[.val (.long q1), .second, .val (.long q2), .second, .val (.long q3), .second, .val (.int p4), .unset, .unset, .unset] []) := by first | (simp [entryFrame, mkF, argsToLocals, Value.category, maxLocals]; done) | rfl
def Q0 (Z : State) (q1 : Int64) (q2 : Int64) (q3 : Int64) (p4 : Int32)  (h0 : Heap) (n0 : Nat) (v : Option Value) (h : Heap) (L : List Loc) : Prop := v = some (.int (1 : Int32)) ∧ Fr n0 L
set_option maxRecDepth 65536 in
set_option maxHeartbeats 40000000 in
theorem rm0 (l : Launch) (Z : State) (a0 : Array Value) (hw : ∀ d ∈ tables_1, d.before a0 Z = true) (ws : List Jvm.Cond) (q1 : Int64) (q2 : Int64) (q3 : Int64) (p4 : Int32)  (h0 : Heap) (n0 : Nat) (Z0 : n0 ≤ h0.size)  :
    MetFree l x (head1 (Jvm.Cond.code x code maxLocals ret :: ws) room_1) (fun a U => a = #[(.long q1), (.long q2), (.long q3), (.int p4)] ∧ Z.Warmed39 U.vm ∧ U.heap = h0) (fun _ _ _ _ _ => True) (fun _ U o U' => ∃ v L, o = .returned v ∧ Q0 Z q1 q2 q3 p4  h0 n0 v U'.heap L ∧ FrameEnd U o U' L room_1.cells room_1.slots) := by
  refine MetFree.of_bodySF (plainFor_of_name pn_0) hisR ?_
  intro p e s m args below meth c s₁ Bd hml0 hP hK
  obtain ⟨rfl, hZ, hh⟩ := hP
  have hx := Bd.exec
  have hby := Bd.bytes
  have hml : c.maxLocals = 10 := hml0
  have hown : s.vm.findClass "org/dicecaster/generator/SplitMix64AdvancePinLaw" = some m.cls := findClass_of_methodNamed Bd.named
  have hnm := (name_of_methodNamed Bd.named Bd.method).1
  have X0 : Stand p l e room_1 s m #[(.long q1), (.long q2), (.long q3), (.int p4)] below meth c s₁ [] 0 0 := Stand.of_body Bd
  have e0 : s₁.heap = h0 := by rw [← hh, Bd.state]; rfl
  have N0 := Fr.nil n0
  have pre0 : Steps p.tables e below (s₁.setTop (entryFrame m #[(.long q1), (.long q2), (.long q3), (.int p4)] maxLocals)) (s₁.setTop (mkF m 0 #[.val (.long q1), .second, .val (.long q2), .second, .val (.long q3), .second, .val (.int p4), .unset, .unset, .unset] [])) := castTop (ef_0 m q1 q2 q3 p4) (Steps.refl _)
  obtain ⟨T1, h1, X1, e1, E1, A1, D1, -, st1⟩ := newO X0 hx hZ hown (hw _ (List.mem_of_getElem? (i := 0) rfl)) (hw _ (List.mem_of_getElem? (i := 1) rfl)) (hw _ (List.mem_of_getElem? (i := 2) rfl)) e0 (g := (mkF m 6 #[.val (.long q1), .second, .val (.long q2), .second, .val (.long q3), .second, .val (.int p4), .val (.int (p4 &&& (3 : Int32))), .unset, .unset] [])) rfl (hb hby at_6) (by decide) (by decide)
  obtain ⟨b1, g1⟩ : ∃ z, z = h0.size := ⟨_, rfl⟩
  rw [← g1] at A1 D1 st1
  have pre1 : Steps p.tables e below (s₁.setTop (entryFrame m #[(.long q1), (.long q2), (.long q3), (.int p4)] maxLocals)) (T1.setTop (mkF m 9 #[.val (.long q1), .second, .val (.long q2), .second, .val (.long q3), .second, .val (.int p4), .val (.int (p4 &&& (3 : Int32))), .unset, .unset] [(.ref b1)])) := by
    refine pre0.trans ?_
    refine XS.iload X0.here hx rfl (hb hby at_0) rfl ?_
    show Steps p.tables e below (s₁.setTop (mkF m 2 #[.val (.long q1), .second, .val (.long q2), .second, .val (.long q3), .second, .val (.int p4), .unset, .unset, .unset] [(.int p4)])) _
    refine XS.iconst X0.here hx rfl (hb hby at_2) ?_
    show Steps p.tables e below (s₁.setTop (mkF m 3 #[.val (.long q1), .second, .val (.long q2), .second, .val (.long q3), .second, .val (.int p4), .unset, .unset, .unset] [(.int (3 : Int32)), (.int p4)])) _
    refine XS.iand X0.here hx rfl (hb hby at_3) rfl ?_
    show Steps p.tables e below (s₁.setTop (mkF m 4 #[.val (.long q1), .second, .val (.long q2), .second, .val (.long q3), .second, .val (.int p4), .unset, .unset, .unset] [(.int (p4 &&& (3 : Int32)))])) _
    refine XS.istore X0.here hx rfl (hb hby at_4) rfl (l' := #[.val (.long q1), .second, .val (.long q2), .second, .val (.long q3), .second, .val (.int p4), .val (.int (p4 &&& (3 : Int32))), .unset, .unset]) rfl ?_
    show Steps p.tables e below (s₁.setTop (mkF m 6 #[.val (.long q1), .second, .val (.long q2), .second, .val (.long q3), .second, .val (.int p4), .val (.int (p4 &&& (3 : Int32))), .unset, .unset] [])) _
    exact st1 _ (Steps.refl _)
  have gg1 : n0 ≤ b1 := Nat.le_trans Z0 (Nat.le_of_eq g1.symm)
  have Y1 : n0 ≤ h1.size := Nat.le_trans Z0 E1.1
  have FA1 := D1 (Or.inl (hw _ (List.mem_of_getElem? (i := 19) rfl))) (ty := .long) (by decide)
  have FB1 := D1 (Or.inr (hw _ (List.mem_of_getElem? (i := 21) rfl))) (ty := .long) (by decide)
  obtain ⟨_, _, ⟨T2, L2, k2, n2⟩, -, X2, ⟨Lc2, hQ2, l2, y2, z2⟩, st2⟩ := X1.specialBack hx (y := (⟨"org/dicecaster/generator/SplitMix64", "<init>", "(J)V"⟩ : MethodName)) rfl hown (mvT hZ (hw _ (List.mem_of_getElem? (i := 3) rfl))) (mvT hZ (hw _ (List.mem_of_getElem? (i := 4) rfl))) (mvT hZ (hw _ (List.mem_of_getElem? (i := 5) rfl))) (by decide) (backOf (W := 1) (rm1 l Z a0 hw [] b1 q1 _ _ h1 n0 Y1 A1 FA1 FB1 gg1) hZ (hw _ (List.mem_of_getElem? (i := 5) rfl)) (hw _ (List.mem_of_getElem? (i := 2) rfl)) (by decide) (by decide)) (g := (mkF m 11 #[.val (.long q1), .second, .val (.long q2), .second, .val (.long q3), .second, .val (.int p4), .val (.int (p4 &&& (3 : Int32))), .unset, .unset] [(.long q1), (.ref b1), (.ref b1)])) rfl (by rw [hml]; rfl) (Steps.refl _) (a := b1) (argsL := [(.long q1)]) (rest := [(.ref b1)]) (lenOf pd_1 rfl) rfl (by show 2 * 0 + _ ≤ _; exact Nat.le_of_eq rfl) (hb hby at_11) (fun _ _ => ⟨rfl, e1, (by decide : 1 + 0 ≤ _), (by decide : 2 + 0 ≤ _)⟩)
  dsimp only [Pt.U, Pt.locs, Pt.cells, Pt.slots] at X2 l2 y2 z2 st2 hQ2
  subst l2 y2 z2
  obtain ⟨rfl, M2, K2, E2, F2, G2⟩ := hQ2
  have N2 := Fr.app N0 M2
  have pre2 : Steps p.tables e below (s₁.setTop (entryFrame m #[(.long q1), (.long q2), (.long q3), (.int p4)] maxLocals)) (T2.setTop (mkF m 14 #[.val (.long q1), .second, .val (.long q2), .second, .val (.long q3), .second, .val (.int p4), .val (.int (p4 &&& (3 : Int32))), .unset, .unset] [(.ref b1)])) := by
    refine pre1.trans ?_
    refine XS.dup X1.here hx rfl (hb hby at_9) rfl rfl ?_
    show Steps p.tables e below (T1.setTop (mkF m 10 #[.val (.long q1), .second, .val (.long q2), .second, .val (.long q3), .second, .val (.int p4), .val (.int (p4 &&& (3 : Int32))), .unset, .unset] [(.ref b1), (.ref b1)])) _
    refine XS.lloadN X1.here hx rfl (hb hby at_10) rfl ?_
    show Steps p.tables e below (T1.setTop (mkF m 11 #[.val (.long q1), .second, .val (.long q2), .second, .val (.long q3), .second, .val (.int p4), .val (.int (p4 &&& (3 : Int32))), .unset, .unset] [(.long q1), (.ref b1), (.ref b1)])) _
    exact st2
  have Y2 : n0 ≤ T2.heap.size := Nat.le_trans Y1 K2.1
  obtain ⟨cq3, kq3, q3a, q3b, q3c⟩ := isOf hZ rfl E2
  obtain ⟨_, _, ⟨T3, L3, k3, n3⟩, -, X3, ⟨Lc3, hQ3, l3, y3, z3⟩, st3⟩ := X2.virtualBack hx (y := (⟨"org/dicecaster/generator/SplitMix64", "advance", "(J)V"⟩ : MethodName)) (z := (⟨"org/dicecaster/generator/SplitMix64", "advance", "(J)V"⟩ : MethodName)) hown (mvT hZ (hw _ (List.mem_of_getElem? (i := 22) rfl))) (mvT hZ (hw _ (List.mem_of_getElem? (i := 23) rfl))) (notFace_of_selects (args := #[]) (mvT hZ (hw _ (List.mem_of_getElem? (i := 25) rfl)))) (mvT hZ (hw _ (List.mem_of_getElem? (i := 25) rfl))) (mvT hZ (hw _ (List.mem_of_getElem? (i := 24) rfl))) (by decide) (backOf (W := 0) (rm5 l Z a0 hw [] b1 q2 q1 (-7046029254386353131 : Int64) T2.heap n0 Y2 E2 F2 G2 gg1) hZ (hw _ (List.mem_of_getElem? (i := 26) rfl)) (hw _ (List.mem_of_getElem? (i := 2) rfl)) (by decide) (by decide)) q3a q3c (g := (mkF m 19 #[.val (.long q1), .second, .val (.long q2), .second, .val (.long q3), .second, .val (.int p4), .val (.int (p4 &&& (3 : Int32))), .val (.ref b1), .unset] [(.long q2), (.ref b1)])) rfl (by rw [hml]; rfl) (Steps.refl _) (argsL := [(.long q2)]) (rest := []) (lenOf pd_1 rfl) rfl (by show 2 * 0 + _ ≤ _; exact Nat.le_of_eq rfl) (hb hby at_19) (fun _ _ => ⟨rfl, rfl, (by decide : 1 + 0 ≤ _), (by decide : 2 + 0 ≤ _)⟩)
  dsimp only [Pt.U, Pt.locs, Pt.cells, Pt.slots] at X3 l3 y3 z3 st3 hQ3
  subst l3 y3 z3
  obtain ⟨rfl, M3, K3, E3, F3, G3⟩ := hQ3
  have N3 := Fr.app N2 M3
  have pre3 : Steps p.tables e below (s₁.setTop (entryFrame m #[(.long q1), (.long q2), (.long q3), (.int p4)] maxLocals)) (T3.setTop (mkF m 22 #[.val (.long q1), .second, .val (.long q2), .second, .val (.long q3), .second, .val (.int p4), .val (.int (p4 &&& (3 : Int32))), .val (.ref b1), .unset] [])) := by
    refine pre2.trans ?_
    refine XS.astore X2.here hx rfl (hb hby at_14) rfl rfl (l' := #[.val (.long q1), .second, .val (.long q2), .second, .val (.long q3), .second, .val (.int p4), .val (.int (p4 &&& (3 : Int32))), .val (.ref b1), .unset]) rfl ?_
    show Steps p.tables e below (T2.setTop (mkF m 16 #[.val (.long q1), .second, .val (.long q2), .second, .val (.long q3), .second, .val (.int p4), .val (.int (p4 &&& (3 : Int32))), .val (.ref b1), .unset] [])) _
    refine XS.aload X2.here hx rfl (hb hby at_16) rfl rfl ?_
    show Steps p.tables e below (T2.setTop (mkF m 18 #[.val (.long q1), .second, .val (.long q2), .second, .val (.long q3), .second, .val (.int p4), .val (.int (p4 &&& (3 : Int32))), .val (.ref b1), .unset] [(.ref b1)])) _
    refine XS.lloadN X2.here hx rfl (hb hby at_18) rfl ?_
    show Steps p.tables e below (T2.setTop (mkF m 19 #[.val (.long q1), .second, .val (.long q2), .second, .val (.long q3), .second, .val (.int p4), .val (.int (p4 &&& (3 : Int32))), .val (.ref b1), .unset] [(.long q2), (.ref b1)])) _
    exact st3
  have Y3 : n0 ≤ T3.heap.size := Nat.le_trans Y2 K3.1
  obtain ⟨cq4, kq4, q4a, q4b, q4c⟩ := isOf hZ rfl E3
  obtain ⟨_, _, ⟨T4, L4, k4, n4⟩, -, X4, ⟨Lc4, hQ4, l4, y4, z4⟩, st4⟩ := X3.virtualBack hx (y := (⟨"org/dicecaster/generator/SplitMix64", "advance", "(J)V"⟩ : MethodName)) (z := (⟨"org/dicecaster/generator/SplitMix64", "advance", "(J)V"⟩ : MethodName)) hown (mvT hZ (hw _ (List.mem_of_getElem? (i := 22) rfl))) (mvT hZ (hw _ (List.mem_of_getElem? (i := 23) rfl))) (notFace_of_selects (args := #[]) (mvT hZ (hw _ (List.mem_of_getElem? (i := 25) rfl)))) (mvT hZ (hw _ (List.mem_of_getElem? (i := 25) rfl))) (mvT hZ (hw _ (List.mem_of_getElem? (i := 24) rfl))) (by decide) (backOf (W := 0) (rm5 l Z a0 hw [] b1 q3 (q1 + (q2 * (-7046029254386353131 : Int64))) (-7046029254386353131 : Int64) T3.heap n0 Y3 E3 F3 G3 gg1) hZ (hw _ (List.mem_of_getElem? (i := 26) rfl)) (hw _ (List.mem_of_getElem? (i := 2) rfl)) (by decide) (by decide)) q4a q4c (g := (mkF m 26 #[.val (.long q1), .second, .val (.long q2), .second, .val (.long q3), .second, .val (.int p4), .val (.int (p4 &&& (3 : Int32))), .val (.ref b1), .unset] [(.long q3), (.ref b1)])) rfl (by rw [hml]; rfl) (Steps.refl _) (argsL := [(.long q3)]) (rest := []) (lenOf pd_1 rfl) rfl (by show 2 * 0 + _ ≤ _; exact Nat.le_of_eq rfl) (hb hby at_26) (fun _ _ => ⟨rfl, rfl, (by decide : 1 + 0 ≤ _), (by decide : 2 + 0 ≤ _)⟩)
  dsimp only [Pt.U, Pt.locs, Pt.cells, Pt.slots] at X4 l4 y4 z4 st4 hQ4
  subst l4 y4 z4
  obtain ⟨rfl, M4, K4, E4, F4, G4⟩ := hQ4
  have N4 := Fr.app N3 M4
  have pre4 : Steps p.tables e below (s₁.setTop (entryFrame m #[(.long q1), (.long q2), (.long q3), (.int p4)] maxLocals)) (T4.setTop (mkF m 29 #[.val (.long q1), .second, .val (.long q2), .second, .val (.long q3), .second, .val (.int p4), .val (.int (p4 &&& (3 : Int32))), .val (.ref b1), .unset] [])) := by
    refine pre3.trans ?_
    refine XS.aload X3.here hx rfl (hb hby at_22) rfl rfl ?_
    show Steps p.tables e below (T3.setTop (mkF m 24 #[.val (.long q1), .second, .val (.long q2), .second, .val (.long q3), .second, .val (.int p4), .val (.int (p4 &&& (3 : Int32))), .val (.ref b1), .unset] [(.ref b1)])) _
    refine XS.lload X3.here hx rfl (hb hby at_24) rfl ?_
    show Steps p.tables e below (T3.setTop (mkF m 26 #[.val (.long q1), .second, .val (.long q2), .second, .val (.long q3), .second, .val (.int p4), .val (.int (p4 &&& (3 : Int32))), .val (.ref b1), .unset] [(.long q3), (.ref b1)])) _
    exact st4
  have Y4 : n0 ≤ T4.heap.size := Nat.le_trans Y3 K4.1
  obtain ⟨T5, h5, X5, e5, E5, A5, D5, -, st5⟩ := newO X4 hx hZ hown (hw _ (List.mem_of_getElem? (i := 0) rfl)) (hw _ (List.mem_of_getElem? (i := 1) rfl)) (hw _ (List.mem_of_getElem? (i := 2) rfl)) rfl (g := (mkF m 29 #[.val (.long q1), .second, .val (.long q2), .second, .val (.long q3), .second, .val (.int p4), .val (.int (p4 &&& (3 : Int32))), .val (.ref b1), .unset] [])) rfl (hb hby at_29) (by decide) (by decide)
  obtain ⟨b5, g5⟩ : ∃ z, z = T4.heap.size := ⟨_, rfl⟩
  rw [← g5] at A5 D5 st5
  have pre5 : Steps p.tables e below (s₁.setTop (entryFrame m #[(.long q1), (.long q2), (.long q3), (.int p4)] maxLocals)) (T5.setTop (mkF m 32 #[.val (.long q1), .second, .val (.long q2), .second, .val (.long q3), .second, .val (.int p4), .val (.int (p4 &&& (3 : Int32))), .val (.ref b1), .unset] [(.ref b5)])) := by
    refine pre4.trans ?_
    exact st5 _ (Steps.refl _)
  have gg5 : n0 ≤ b5 := Nat.le_trans Y4 (Nat.le_of_eq g5.symm)
  have Y5 : n0 ≤ h5.size := Nat.le_trans Y4 E5.1
  have FA5 := D5 (Or.inl (hw _ (List.mem_of_getElem? (i := 19) rfl))) (ty := .long) (by decide)
  have FB5 := D5 (Or.inr (hw _ (List.mem_of_getElem? (i := 21) rfl))) (ty := .long) (by decide)
  have nb : b1 ≠ b5 := Nat.ne_of_lt (Nat.lt_of_lt_of_le E4.lt (Nat.le_of_eq g5.symm))
  have V5 := E4.ext E5
  have VF5 := F4.ext E5
  have VG5 := G4.ext E5
  obtain ⟨_, _, ⟨T6, L6, k6, n6⟩, -, X6, ⟨Lc6, hQ6, l6, y6, z6⟩, st6⟩ := X5.specialBack hx (y := (⟨"org/dicecaster/generator/SplitMix64", "<init>", "(J)V"⟩ : MethodName)) rfl hown (mvT hZ (hw _ (List.mem_of_getElem? (i := 3) rfl))) (mvT hZ (hw _ (List.mem_of_getElem? (i := 4) rfl))) (mvT hZ (hw _ (List.mem_of_getElem? (i := 5) rfl))) (by decide) (backOf (W := 1) (rm1 l Z a0 hw [] b5 q1 _ _ h5 n0 Y5 A5 FA5 FB5 gg5) hZ (hw _ (List.mem_of_getElem? (i := 5) rfl)) (hw _ (List.mem_of_getElem? (i := 2) rfl)) (by decide) (by decide)) (g := (mkF m 34 #[.val (.long q1), .second, .val (.long q2), .second, .val (.long q3), .second, .val (.int p4), .val (.int (p4 &&& (3 : Int32))), .val (.ref b1), .unset] [(.long q1), (.ref b5), (.ref b5)])) rfl (by rw [hml]; rfl) (Steps.refl _) (a := b5) (argsL := [(.long q1)]) (rest := [(.ref b5)]) (lenOf pd_1 rfl) rfl (by show 2 * 0 + _ ≤ _; exact Nat.le_of_eq rfl) (hb hby at_34) (fun _ _ => ⟨rfl, e5, (by decide : 2 + 0 ≤ _), (by decide : 4 + 0 ≤ _)⟩)
  dsimp only [Pt.U, Pt.locs, Pt.cells, Pt.slots] at X6 l6 y6 z6 st6 hQ6
  subst l6 y6 z6
  obtain ⟨rfl, M6, K6, E6, F6, G6⟩ := hQ6
  have N6 := Fr.app N4 M6
  have pre6 : Steps p.tables e below (s₁.setTop (entryFrame m #[(.long q1), (.long q2), (.long q3), (.int p4)] maxLocals)) (T6.setTop (mkF m 37 #[.val (.long q1), .second, .val (.long q2), .second, .val (.long q3), .second, .val (.int p4), .val (.int (p4 &&& (3 : Int32))), .val (.ref b1), .unset] [(.ref b5)])) := by
    refine pre5.trans ?_
    refine XS.dup X5.here hx rfl (hb hby at_32) rfl rfl ?_
    show Steps p.tables e below (T5.setTop (mkF m 33 #[.val (.long q1), .second, .val (.long q2), .second, .val (.long q3), .second, .val (.int p4), .val (.int (p4 &&& (3 : Int32))), .val (.ref b1), .unset] [(.ref b5), (.ref b5)])) _
    refine XS.lloadN X5.here hx rfl (hb hby at_33) rfl ?_
    show Steps p.tables e below (T5.setTop (mkF m 34 #[.val (.long q1), .second, .val (.long q2), .second, .val (.long q3), .second, .val (.int p4), .val (.int (p4 &&& (3 : Int32))), .val (.ref b1), .unset] [(.long q1), (.ref b5), (.ref b5)])) _
    exact st6
  have Y6 : n0 ≤ T6.heap.size := Nat.le_trans Y5 K6.1
  have V6 := V5.keep K6
  have VF6 := VF5.keep K6 (ninS nb nin0)
  have VG6 := VG5.keep K6 (ninS nb nin0)
  have pre7 : Steps p.tables e below (s₁.setTop (entryFrame m #[(.long q1), (.long q2), (.long q3), (.int p4)] maxLocals)) (T6.setTop (mkF m 49 #[.val (.long q1), .second, .val (.long q2), .second, .val (.long q3), .second, .val (.int p4), .val (.int (p4 &&& (3 : Int32))), .val (.ref b1), .val (.ref b5)] [(.long ((q2 + q3) - ((p4 &&& (3 : Int32)).toInt64))), (.ref b5)])) := by
    refine pre6.trans ?_
    refine XS.astore X6.here hx rfl (hb hby at_37) rfl rfl (l' := #[.val (.long q1), .second, .val (.long q2), .second, .val (.long q3), .second, .val (.int p4), .val (.int (p4 &&& (3 : Int32))), .val (.ref b1), .val (.ref b5)]) rfl ?_
    show Steps p.tables e below (T6.setTop (mkF m 39 #[.val (.long q1), .second, .val (.long q2), .second, .val (.long q3), .second, .val (.int p4), .val (.int (p4 &&& (3 : Int32))), .val (.ref b1), .val (.ref b5)] [])) _
    refine XS.aload X6.here hx rfl (hb hby at_39) rfl rfl ?_
    show Steps p.tables e below (T6.setTop (mkF m 41 #[.val (.long q1), .second, .val (.long q2), .second, .val (.long q3), .second, .val (.int p4), .val (.int (p4 &&& (3 : Int32))), .val (.ref b1), .val (.ref b5)] [(.ref b5)])) _
    refine XS.lloadN X6.here hx rfl (hb hby at_41) rfl ?_
    show Steps p.tables e below (T6.setTop (mkF m 42 #[.val (.long q1), .second, .val (.long q2), .second, .val (.long q3), .second, .val (.int p4), .val (.int (p4 &&& (3 : Int32))), .val (.ref b1), .val (.ref b5)] [(.long q2), (.ref b5)])) _
    refine XS.lload X6.here hx rfl (hb hby at_42) rfl ?_
    show Steps p.tables e below (T6.setTop (mkF m 44 #[.val (.long q1), .second, .val (.long q2), .second, .val (.long q3), .second, .val (.int p4), .val (.int (p4 &&& (3 : Int32))), .val (.ref b1), .val (.ref b5)] [(.long q3), (.long q2), (.ref b5)])) _
    refine XS.ladd X6.here hx rfl (hb hby at_44) rfl ?_
    show Steps p.tables e below (T6.setTop (mkF m 45 #[.val (.long q1), .second, .val (.long q2), .second, .val (.long q3), .second, .val (.int p4), .val (.int (p4 &&& (3 : Int32))), .val (.ref b1), .val (.ref b5)] [(.long (q2 + q3)), (.ref b5)])) _
    refine XS.iload X6.here hx rfl (hb hby at_45) rfl ?_
    show Steps p.tables e below (T6.setTop (mkF m 47 #[.val (.long q1), .second, .val (.long q2), .second, .val (.long q3), .second, .val (.int p4), .val (.int (p4 &&& (3 : Int32))), .val (.ref b1), .val (.ref b5)] [(.int (p4 &&& (3 : Int32))), (.long (q2 + q3)), (.ref b5)])) _
    refine XS.i2l X6.here hx rfl (hb hby at_47) rfl ?_
    show Steps p.tables e below (T6.setTop (mkF m 48 #[.val (.long q1), .second, .val (.long q2), .second, .val (.long q3), .second, .val (.int p4), .val (.int (p4 &&& (3 : Int32))), .val (.ref b1), .val (.ref b5)] [(.long ((p4 &&& (3 : Int32)).toInt64)), (.long (q2 + q3)), (.ref b5)])) _
    refine XS.lsub X6.here hx rfl (hb hby at_48) rfl ?_
    show Steps p.tables e below (T6.setTop (mkF m 49 #[.val (.long q1), .second, .val (.long q2), .second, .val (.long q3), .second, .val (.int p4), .val (.int (p4 &&& (3 : Int32))), .val (.ref b1), .val (.ref b5)] [(.long ((q2 + q3) - ((p4 &&& (3 : Int32)).toInt64))), (.ref b5)])) _
    exact Steps.refl _
  rcases own_and3 p4 with hn | hn | hn | hn
  · skip
    rw [hn] at pre7
    obtain ⟨cq8, kq8, q8a, q8b, q8c⟩ := isOf hZ rfl E6
    obtain ⟨_, _, ⟨T8, L8, k8, n8⟩, -, X8, ⟨Lc8, hQ8, l8, y8, z8⟩, st8⟩ := X6.virtualBack hx (y := (⟨"org/dicecaster/generator/SplitMix64", "advance", "(J)V"⟩ : MethodName)) (z := (⟨"org/dicecaster/generator/SplitMix64", "advance", "(J)V"⟩ : MethodName)) hown (mvT hZ (hw _ (List.mem_of_getElem? (i := 22) rfl))) (mvT hZ (hw _ (List.mem_of_getElem? (i := 23) rfl))) (notFace_of_selects (args := #[]) (mvT hZ (hw _ (List.mem_of_getElem? (i := 25) rfl)))) (mvT hZ (hw _ (List.mem_of_getElem? (i := 25) rfl))) (mvT hZ (hw _ (List.mem_of_getElem? (i := 24) rfl))) (by decide) (backOf (W := 0) (rm5 l Z a0 hw [] b5 ((q2 + q3) - ((0 : Int32).toInt64)) q1 (-7046029254386353131 : Int64) T6.heap n0 Y6 E6 F6 G6 gg5) hZ (hw _ (List.mem_of_getElem? (i := 26) rfl)) (hw _ (List.mem_of_getElem? (i := 2) rfl)) (by decide) (by decide)) q8a q8c (g := (mkF m 49 #[.val (.long q1), .second, .val (.long q2), .second, .val (.long q3), .second, .val (.int p4), .val (.int (0 : Int32)), .val (.ref b1), .val (.ref b5)] [(.long ((q2 + q3) - ((0 : Int32).toInt64))), (.ref b5)])) rfl (by rw [hml]; rfl) (Steps.refl _) (argsL := [(.long ((q2 + q3) - ((0 : Int32).toInt64)))]) (rest := []) (lenOf pd_1 rfl) rfl (by show 2 * 0 + _ ≤ _; exact Nat.le_of_eq rfl) (hb hby at_49) (fun _ _ => ⟨rfl, rfl, (by decide : 2 + 0 ≤ _), (by decide : 4 + 0 ≤ _)⟩)
    dsimp only [Pt.U, Pt.locs, Pt.cells, Pt.slots] at X8 l8 y8 z8 st8 hQ8
    subst l8 y8 z8
    obtain ⟨rfl, M8, K8, E8, F8, G8⟩ := hQ8
    have N8 := Fr.app N6 M8
    have pre8 : Steps p.tables e below (s₁.setTop (entryFrame m #[(.long q1), (.long q2), (.long q3), (.int p4)] maxLocals)) (T8.setTop (mkF m 52 #[.val (.long q1), .second, .val (.long q2), .second, .val (.long q3), .second, .val (.int p4), .val (.int (0 : Int32)), .val (.ref b1), .val (.ref b5)] [])) := by
      refine pre7.trans ?_
      exact st8
    have Y8 : n0 ≤ T8.heap.size := Nat.le_trans Y6 K8.1
    have V8 := V6.keep K8
    have VF8 := VF6.keep K8 (ninS nb nin0)
    have VG8 := VG6.keep K8 (ninS nb nin0)
    obtain ⟨cq9, kq9, q9a, q9b, q9c⟩ := isOf hZ rfl V8
    obtain ⟨_, _, ⟨T9, L9, k9, n9⟩, -, X9, ⟨Lc9, hQ9, l9, y9, z9⟩, st9⟩ := X8.virtualBack hx (y := (⟨"org/dicecaster/generator/SplitMix64", "nextLong", "()J"⟩ : MethodName)) (z := (⟨"org/dicecaster/generator/SplitMix64", "nextLong", "()J"⟩ : MethodName)) hown (mvT hZ (hw _ (List.mem_of_getElem? (i := 27) rfl))) (mvT hZ (hw _ (List.mem_of_getElem? (i := 28) rfl))) (notFace_of_selects (args := #[]) (mvT hZ (hw _ (List.mem_of_getElem? (i := 30) rfl)))) (mvT hZ (hw _ (List.mem_of_getElem? (i := 30) rfl))) (mvT hZ (hw _ (List.mem_of_getElem? (i := 29) rfl))) (by decide) (backOf (W := 0) (rm6 l Z a0 hw [] b1 ((q1 + (q2 * (-7046029254386353131 : Int64))) + (q3 * (-7046029254386353131 : Int64))) (-7046029254386353131 : Int64) T8.heap n0 Y8 V8 VF8 VG8 gg1) hZ (hw _ (List.mem_of_getElem? (i := 31) rfl)) (hw _ (List.mem_of_getElem? (i := 2) rfl)) (by decide) (by decide)) q9a q9c (g := (mkF m 90 #[.val (.long q1), .second, .val (.long q2), .second, .val (.long q3), .second, .val (.int p4), .val (.int (0 : Int32)), .val (.ref b1), .val (.ref b5)] [(.ref b1)])) rfl (by rw [hml]; rfl) (Steps.refl _) (argsL := []) (rest := []) (lenOf pd_3 rfl) rfl (by show 2 * 0 + _ ≤ _; exact Nat.le_of_eq rfl) (hb hby at_90) (fun _ _ => ⟨rfl, rfl, (by decide : 2 + 0 ≤ _), (by decide : 4 + 0 ≤ _)⟩)
    dsimp only [Pt.U, Pt.locs, Pt.cells, Pt.slots] at X9 l9 y9 z9 st9 hQ9
    subst l9 y9 z9
    obtain ⟨rfl, M9, K9, E9, F9, G9⟩ := hQ9
    have N9 := Fr.app N8 M9
    have pre9 : Steps p.tables e below (s₁.setTop (entryFrame m #[(.long q1), (.long q2), (.long q3), (.int p4)] maxLocals)) (T9.setTop (mkF m 93 #[.val (.long q1), .second, .val (.long q2), .second, .val (.long q3), .second, .val (.int p4), .val (.int (0 : Int32)), .val (.ref b1), .val (.ref b5)] [(.long (own_mix (((q1 + (q2 * (-7046029254386353131 : Int64))) + (q3 * (-7046029254386353131 : Int64))) + (-7046029254386353131 : Int64))))])) := by
      refine pre8.trans ?_
      refine XS.iload X8.here hx rfl (hb hby at_52) rfl ?_
      show Steps p.tables e below (T8.setTop (mkF m 54 #[.val (.long q1), .second, .val (.long q2), .second, .val (.long q3), .second, .val (.int p4), .val (.int (0 : Int32)), .val (.ref b1), .val (.ref b5)] [(.int (0 : Int32))])) _
      refine XS.iconst X8.here hx rfl (hb hby at_54) ?_
      show Steps p.tables e below (T8.setTop (mkF m 55 #[.val (.long q1), .second, .val (.long q2), .second, .val (.long q3), .second, .val (.int p4), .val (.int (0 : Int32)), .val (.ref b1), .val (.ref b5)] [(.int (1 : Int32)), (.int (0 : Int32))])) _
      refine XS.icmpYes X8.here hx rfl (pc0 := 55) (pc' := 64) rfl (hb hby at_55) rfl (by decide) (by decide) (by decide) ?_
      show Steps p.tables e below (T8.setTop (mkF m 64 #[.val (.long q1), .second, .val (.long q2), .second, .val (.long q3), .second, .val (.int p4), .val (.int (0 : Int32)), .val (.ref b1), .val (.ref b5)] [])) _
      refine XS.iload X8.here hx rfl (hb hby at_64) rfl ?_
      show Steps p.tables e below (T8.setTop (mkF m 66 #[.val (.long q1), .second, .val (.long q2), .second, .val (.long q3), .second, .val (.int p4), .val (.int (0 : Int32)), .val (.ref b1), .val (.ref b5)] [(.int (0 : Int32))])) _
      refine XS.iconst X8.here hx rfl (hb hby at_66) ?_
      show Steps p.tables e below (T8.setTop (mkF m 67 #[.val (.long q1), .second, .val (.long q2), .second, .val (.long q3), .second, .val (.int p4), .val (.int (0 : Int32)), .val (.ref b1), .val (.ref b5)] [(.int (2 : Int32)), (.int (0 : Int32))])) _
      refine XS.icmpYes X8.here hx rfl (pc0 := 67) (pc' := 76) rfl (hb hby at_67) rfl (by decide) (by decide) (by decide) ?_
      show Steps p.tables e below (T8.setTop (mkF m 76 #[.val (.long q1), .second, .val (.long q2), .second, .val (.long q3), .second, .val (.int p4), .val (.int (0 : Int32)), .val (.ref b1), .val (.ref b5)] [])) _
      refine XS.iload X8.here hx rfl (hb hby at_76) rfl ?_
      show Steps p.tables e below (T8.setTop (mkF m 78 #[.val (.long q1), .second, .val (.long q2), .second, .val (.long q3), .second, .val (.int p4), .val (.int (0 : Int32)), .val (.ref b1), .val (.ref b5)] [(.int (0 : Int32))])) _
      refine XS.iconst X8.here hx rfl (hb hby at_78) ?_
      show Steps p.tables e below (T8.setTop (mkF m 79 #[.val (.long q1), .second, .val (.long q2), .second, .val (.long q3), .second, .val (.int p4), .val (.int (0 : Int32)), .val (.ref b1), .val (.ref b5)] [(.int (3 : Int32)), (.int (0 : Int32))])) _
      refine XS.icmpYes X8.here hx rfl (pc0 := 79) (pc' := 88) rfl (hb hby at_79) rfl (by decide) (by decide) (by decide) ?_
      show Steps p.tables e below (T8.setTop (mkF m 88 #[.val (.long q1), .second, .val (.long q2), .second, .val (.long q3), .second, .val (.int p4), .val (.int (0 : Int32)), .val (.ref b1), .val (.ref b5)] [])) _
      refine XS.aload X8.here hx rfl (hb hby at_88) rfl rfl ?_
      show Steps p.tables e below (T8.setTop (mkF m 90 #[.val (.long q1), .second, .val (.long q2), .second, .val (.long q3), .second, .val (.int p4), .val (.int (0 : Int32)), .val (.ref b1), .val (.ref b5)] [(.ref b1)])) _
      exact st9
    have Y9 : n0 ≤ T9.heap.size := Nat.le_trans Y8 K9.1
    have V9 := E8.keep K9
    have VF9 := F8.keep K9 (ninS nb.symm nin0)
    have VG9 := G8.keep K9 (ninS nb.symm nin0)
    obtain ⟨cq10, kq10, q10a, q10b, q10c⟩ := isOf hZ rfl V9
    obtain ⟨_, _, ⟨T10, L10, k10, n10⟩, -, X10, ⟨Lc10, hQ10, l10, y10, z10⟩, st10⟩ := X9.virtualBack hx (y := (⟨"org/dicecaster/generator/SplitMix64", "nextLong", "()J"⟩ : MethodName)) (z := (⟨"org/dicecaster/generator/SplitMix64", "nextLong", "()J"⟩ : MethodName)) hown (mvT hZ (hw _ (List.mem_of_getElem? (i := 27) rfl))) (mvT hZ (hw _ (List.mem_of_getElem? (i := 28) rfl))) (notFace_of_selects (args := #[]) (mvT hZ (hw _ (List.mem_of_getElem? (i := 30) rfl)))) (mvT hZ (hw _ (List.mem_of_getElem? (i := 30) rfl))) (mvT hZ (hw _ (List.mem_of_getElem? (i := 29) rfl))) (by decide) (backOf (W := 2) (rm6 l Z a0 hw [] b5 (q1 + (((q2 + q3) - ((0 : Int32).toInt64)) * (-7046029254386353131 : Int64))) (-7046029254386353131 : Int64) T9.heap n0 Y9 V9 VF9 VG9 gg5) hZ (hw _ (List.mem_of_getElem? (i := 31) rfl)) (hw _ (List.mem_of_getElem? (i := 2) rfl)) (by decide) (by decide)) q10a q10c (g := (mkF m 95 #[.val (.long q1), .second, .val (.long q2), .second, .val (.long q3), .second, .val (.int p4), .val (.int (0 : Int32)), .val (.ref b1), .val (.ref b5)] [(.ref b5), (.long (own_mix (((q1 + (q2 * (-7046029254386353131 : Int64))) + (q3 * (-7046029254386353131 : Int64))) + (-7046029254386353131 : Int64))))])) rfl (by rw [hml]; rfl) (Steps.refl _) (argsL := []) (rest := [(.long (own_mix (((q1 + (q2 * (-7046029254386353131 : Int64))) + (q3 * (-7046029254386353131 : Int64))) + (-7046029254386353131 : Int64))))]) (lenOf pd_3 rfl) rfl (by show 2 * 0 + _ ≤ _; exact Nat.le_of_eq rfl) (hb hby at_95) (fun _ _ => ⟨rfl, rfl, (by decide : 2 + 0 ≤ _), (by decide : 4 + 0 ≤ _)⟩)
    dsimp only [Pt.U, Pt.locs, Pt.cells, Pt.slots] at X10 l10 y10 z10 st10 hQ10
    subst l10 y10 z10
    obtain ⟨rfl, M10, K10, E10, F10, G10⟩ := hQ10
    have N10 := Fr.app N9 M10
    have pre10 : Steps p.tables e below (s₁.setTop (entryFrame m #[(.long q1), (.long q2), (.long q3), (.int p4)] maxLocals)) (T10.setTop (mkF m 98 #[.val (.long q1), .second, .val (.long q2), .second, .val (.long q3), .second, .val (.int p4), .val (.int (0 : Int32)), .val (.ref b1), .val (.ref b5)] [(.long (own_mix ((q1 + (((q2 + q3) - ((0 : Int32).toInt64)) * (-7046029254386353131 : Int64))) + (-7046029254386353131 : Int64)))), (.long (own_mix (((q1 + (q2 * (-7046029254386353131 : Int64))) + (q3 * (-7046029254386353131 : Int64))) + (-7046029254386353131 : Int64))))])) := by
      refine pre9.trans ?_
      refine XS.aload X9.here hx rfl (hb hby at_93) rfl rfl ?_
      show Steps p.tables e below (T9.setTop (mkF m 95 #[.val (.long q1), .second, .val (.long q2), .second, .val (.long q3), .second, .val (.int p4), .val (.int (0 : Int32)), .val (.ref b1), .val (.ref b5)] [(.ref b5), (.long (own_mix (((q1 + (q2 * (-7046029254386353131 : Int64))) + (q3 * (-7046029254386353131 : Int64))) + (-7046029254386353131 : Int64))))])) _
      exact st10
    have Y10 : n0 ≤ T10.heap.size := Nat.le_trans Y9 K10.1
    have V10 := E9.keep K10
    have VF10 := F9.keep K10 (ninS nb nin0)
    have VG10 := G9.keep K10 (ninS nb nin0)
    have heq : (((q1 + (q2 * (-7046029254386353131 : Int64))) + (q3 * (-7046029254386353131 : Int64))) + (-7046029254386353131 : Int64)) = ((q1 + (((q2 + q3) - ((0 : Int32).toInt64)) * (-7046029254386353131 : Int64))) + (-7046029254386353131 : Int64)) := own_alg0 q1 q2 q3 (-7046029254386353131 : Int64)
    obtain ⟨fs, hr, hrun, hended, hW, hsame⟩ := X10.leave (v := some (.int (1 : Int32))) (fun h => by rw [Bd.returns] at h; cases h)
    refine ⟨_, _, pre10.trans ?_, hrun, hended, _, _, rfl, ?_, ⟨_, rfl⟩, hW, hsame.mono (by decide) (by decide)⟩
    · skip
      refine XS.lcmp X10.here hx rfl (hb hby at_98) rfl ?_
      show Steps p.tables e below (T10.setTop (mkF m 99 #[.val (.long q1), .second, .val (.long q2), .second, .val (.long q3), .second, .val (.int p4), .val (.int (0 : Int32)), .val (.ref b1), .val (.ref b5)] [(.int (lcmpW (own_mix (((q1 + (q2 * (-7046029254386353131 : Int64))) + (q3 * (-7046029254386353131 : Int64))) + (-7046029254386353131 : Int64))) (own_mix ((q1 + (((q2 + q3) - ((0 : Int32).toInt64)) * (-7046029254386353131 : Int64))) + (-7046029254386353131 : Int64)))))])) _
      refine XS.ifNo X10.here hx rfl (hb hby at_99) rfl ((if0 _ _).trans (teq ((lw_eq _ _).mpr (congrArg own_mix heq))).2) ?_
      show Steps p.tables e below (T10.setTop (mkF m 102 #[.val (.long q1), .second, .val (.long q2), .second, .val (.long q3), .second, .val (.int p4), .val (.int (0 : Int32)), .val (.ref b1), .val (.ref b5)] [])) _
      refine XS.iconst X10.here hx rfl (hb hby at_102) ?_
      show Steps p.tables e below (T10.setTop (mkF m 103 #[.val (.long q1), .second, .val (.long q2), .second, .val (.long q3), .second, .val (.int p4), .val (.int (0 : Int32)), .val (.ref b1), .val (.ref b5)] [(.int (1 : Int32))])) _
      refine XS.goto X10.here hx rfl (pc0 := 103) (pc' := 107) rfl (hb hby at_103) (by decide) (by decide) ?_
      show Steps p.tables e below (T10.setTop (mkF m 107 #[.val (.long q1), .second, .val (.long q2), .second, .val (.long q3), .second, .val (.int p4), .val (.int (0 : Int32)), .val (.ref b1), .val (.ref b5)] [(.int (1 : Int32))])) _
      exact retN X10 hx (t := .boolean) Bd.returns (by simp) (hb hby at_107) hr
    · show Q0 Z q1 q2 q3 p4  h0 n0 _ T10.heap _
      exact ⟨rfl, N10⟩
  · skip
    rw [hn] at pre7
    obtain ⟨cq11, kq11, q11a, q11b, q11c⟩ := isOf hZ rfl E6
    obtain ⟨_, _, ⟨T11, L11, k11, n11⟩, -, X11, ⟨Lc11, hQ11, l11, y11, z11⟩, st11⟩ := X6.virtualBack hx (y := (⟨"org/dicecaster/generator/SplitMix64", "advance", "(J)V"⟩ : MethodName)) (z := (⟨"org/dicecaster/generator/SplitMix64", "advance", "(J)V"⟩ : MethodName)) hown (mvT hZ (hw _ (List.mem_of_getElem? (i := 22) rfl))) (mvT hZ (hw _ (List.mem_of_getElem? (i := 23) rfl))) (notFace_of_selects (args := #[]) (mvT hZ (hw _ (List.mem_of_getElem? (i := 25) rfl)))) (mvT hZ (hw _ (List.mem_of_getElem? (i := 25) rfl))) (mvT hZ (hw _ (List.mem_of_getElem? (i := 24) rfl))) (by decide) (backOf (W := 0) (rm5 l Z a0 hw [] b5 ((q2 + q3) - ((1 : Int32).toInt64)) q1 (-7046029254386353131 : Int64) T6.heap n0 Y6 E6 F6 G6 gg5) hZ (hw _ (List.mem_of_getElem? (i := 26) rfl)) (hw _ (List.mem_of_getElem? (i := 2) rfl)) (by decide) (by decide)) q11a q11c (g := (mkF m 49 #[.val (.long q1), .second, .val (.long q2), .second, .val (.long q3), .second, .val (.int p4), .val (.int (1 : Int32)), .val (.ref b1), .val (.ref b5)] [(.long ((q2 + q3) - ((1 : Int32).toInt64))), (.ref b5)])) rfl (by rw [hml]; rfl) (Steps.refl _) (argsL := [(.long ((q2 + q3) - ((1 : Int32).toInt64)))]) (rest := []) (lenOf pd_1 rfl) rfl (by show 2 * 0 + _ ≤ _; exact Nat.le_of_eq rfl) (hb hby at_49) (fun _ _ => ⟨rfl, rfl, (by decide : 2 + 0 ≤ _), (by decide : 4 + 0 ≤ _)⟩)
    dsimp only [Pt.U, Pt.locs, Pt.cells, Pt.slots] at X11 l11 y11 z11 st11 hQ11
    subst l11 y11 z11
    obtain ⟨rfl, M11, K11, E11, F11, G11⟩ := hQ11
    have N11 := Fr.app N6 M11
    have pre11 : Steps p.tables e below (s₁.setTop (entryFrame m #[(.long q1), (.long q2), (.long q3), (.int p4)] maxLocals)) (T11.setTop (mkF m 52 #[.val (.long q1), .second, .val (.long q2), .second, .val (.long q3), .second, .val (.int p4), .val (.int (1 : Int32)), .val (.ref b1), .val (.ref b5)] [])) := by
      refine pre7.trans ?_
      exact st11
    have Y11 : n0 ≤ T11.heap.size := Nat.le_trans Y6 K11.1
    have V11 := V6.keep K11
    have VF11 := VF6.keep K11 (ninS nb nin0)
    have VG11 := VG6.keep K11 (ninS nb nin0)
    obtain ⟨cq12, kq12, q12a, q12b, q12c⟩ := isOf hZ rfl E11
    obtain ⟨_, _, ⟨T12, L12, k12, n12⟩, -, X12, ⟨Lc12, hQ12, l12, y12, z12⟩, st12⟩ := X11.virtualBack hx (y := (⟨"org/dicecaster/generator/SplitMix64", "nextLong", "()J"⟩ : MethodName)) (z := (⟨"org/dicecaster/generator/SplitMix64", "nextLong", "()J"⟩ : MethodName)) hown (mvT hZ (hw _ (List.mem_of_getElem? (i := 27) rfl))) (mvT hZ (hw _ (List.mem_of_getElem? (i := 28) rfl))) (notFace_of_selects (args := #[]) (mvT hZ (hw _ (List.mem_of_getElem? (i := 30) rfl)))) (mvT hZ (hw _ (List.mem_of_getElem? (i := 30) rfl))) (mvT hZ (hw _ (List.mem_of_getElem? (i := 29) rfl))) (by decide) (backOf (W := 0) (rm6 l Z a0 hw [] b5 (q1 + (((q2 + q3) - ((1 : Int32).toInt64)) * (-7046029254386353131 : Int64))) (-7046029254386353131 : Int64) T11.heap n0 Y11 E11 F11 G11 gg5) hZ (hw _ (List.mem_of_getElem? (i := 31) rfl)) (hw _ (List.mem_of_getElem? (i := 2) rfl)) (by decide) (by decide)) q12a q12c (g := (mkF m 60 #[.val (.long q1), .second, .val (.long q2), .second, .val (.long q3), .second, .val (.int p4), .val (.int (1 : Int32)), .val (.ref b1), .val (.ref b5)] [(.ref b5)])) rfl (by rw [hml]; rfl) (Steps.refl _) (argsL := []) (rest := []) (lenOf pd_3 rfl) rfl (by show 2 * 0 + _ ≤ _; exact Nat.le_of_eq rfl) (hb hby at_60) (fun _ _ => ⟨rfl, rfl, (by decide : 2 + 0 ≤ _), (by decide : 4 + 0 ≤ _)⟩)
    dsimp only [Pt.U, Pt.locs, Pt.cells, Pt.slots] at X12 l12 y12 z12 st12 hQ12
    subst l12 y12 z12
    obtain ⟨rfl, M12, K12, E12, F12, G12⟩ := hQ12
    have N12 := Fr.app N11 M12
    have pre12 : Steps p.tables e below (s₁.setTop (entryFrame m #[(.long q1), (.long q2), (.long q3), (.int p4)] maxLocals)) (T12.setTop (mkF m 63 #[.val (.long q1), .second, .val (.long q2), .second, .val (.long q3), .second, .val (.int p4), .val (.int (1 : Int32)), .val (.ref b1), .val (.ref b5)] [(.long (own_mix ((q1 + (((q2 + q3) - ((1 : Int32).toInt64)) * (-7046029254386353131 : Int64))) + (-7046029254386353131 : Int64))))])) := by
      refine pre11.trans ?_
      refine XS.iload X11.here hx rfl (hb hby at_52) rfl ?_
      show Steps p.tables e below (T11.setTop (mkF m 54 #[.val (.long q1), .second, .val (.long q2), .second, .val (.long q3), .second, .val (.int p4), .val (.int (1 : Int32)), .val (.ref b1), .val (.ref b5)] [(.int (1 : Int32))])) _
      refine XS.iconst X11.here hx rfl (hb hby at_54) ?_
      show Steps p.tables e below (T11.setTop (mkF m 55 #[.val (.long q1), .second, .val (.long q2), .second, .val (.long q3), .second, .val (.int p4), .val (.int (1 : Int32)), .val (.ref b1), .val (.ref b5)] [(.int (1 : Int32)), (.int (1 : Int32))])) _
      refine XS.icmpNo X11.here hx rfl (hb hby at_55) rfl (by decide) ?_
      show Steps p.tables e below (T11.setTop (mkF m 58 #[.val (.long q1), .second, .val (.long q2), .second, .val (.long q3), .second, .val (.int p4), .val (.int (1 : Int32)), .val (.ref b1), .val (.ref b5)] [])) _
      refine XS.aload X11.here hx rfl (hb hby at_58) rfl rfl ?_
      show Steps p.tables e below (T11.setTop (mkF m 60 #[.val (.long q1), .second, .val (.long q2), .second, .val (.long q3), .second, .val (.int p4), .val (.int (1 : Int32)), .val (.ref b1), .val (.ref b5)] [(.ref b5)])) _
      exact st12
    have Y12 : n0 ≤ T12.heap.size := Nat.le_trans Y11 K12.1
    have V12 := V11.keep K12
    have VF12 := VF11.keep K12 (ninS nb nin0)
    have VG12 := VG11.keep K12 (ninS nb nin0)
    obtain ⟨cq13, kq13, q13a, q13b, q13c⟩ := isOf hZ rfl V12
    obtain ⟨_, _, ⟨T13, L13, k13, n13⟩, -, X13, ⟨Lc13, hQ13, l13, y13, z13⟩, st13⟩ := X12.virtualBack hx (y := (⟨"org/dicecaster/generator/SplitMix64", "nextLong", "()J"⟩ : MethodName)) (z := (⟨"org/dicecaster/generator/SplitMix64", "nextLong", "()J"⟩ : MethodName)) hown (mvT hZ (hw _ (List.mem_of_getElem? (i := 27) rfl))) (mvT hZ (hw _ (List.mem_of_getElem? (i := 28) rfl))) (notFace_of_selects (args := #[]) (mvT hZ (hw _ (List.mem_of_getElem? (i := 30) rfl)))) (mvT hZ (hw _ (List.mem_of_getElem? (i := 30) rfl))) (mvT hZ (hw _ (List.mem_of_getElem? (i := 29) rfl))) (by decide) (backOf (W := 0) (rm6 l Z a0 hw [] b1 ((q1 + (q2 * (-7046029254386353131 : Int64))) + (q3 * (-7046029254386353131 : Int64))) (-7046029254386353131 : Int64) T12.heap n0 Y12 V12 VF12 VG12 gg1) hZ (hw _ (List.mem_of_getElem? (i := 31) rfl)) (hw _ (List.mem_of_getElem? (i := 2) rfl)) (by decide) (by decide)) q13a q13c (g := (mkF m 90 #[.val (.long q1), .second, .val (.long q2), .second, .val (.long q3), .second, .val (.int p4), .val (.int (1 : Int32)), .val (.ref b1), .val (.ref b5)] [(.ref b1)])) rfl (by rw [hml]; rfl) (Steps.refl _) (argsL := []) (rest := []) (lenOf pd_3 rfl) rfl (by show 2 * 0 + _ ≤ _; exact Nat.le_of_eq rfl) (hb hby at_90) (fun _ _ => ⟨rfl, rfl, (by decide : 2 + 0 ≤ _), (by decide : 4 + 0 ≤ _)⟩)
    dsimp only [Pt.U, Pt.locs, Pt.cells, Pt.slots] at X13 l13 y13 z13 st13 hQ13
    subst l13 y13 z13
    obtain ⟨rfl, M13, K13, E13, F13, G13⟩ := hQ13
    have N13 := Fr.app N12 M13
    have pre13 : Steps p.tables e below (s₁.setTop (entryFrame m #[(.long q1), (.long q2), (.long q3), (.int p4)] maxLocals)) (T13.setTop (mkF m 93 #[.val (.long q1), .second, .val (.long q2), .second, .val (.long q3), .second, .val (.int p4), .val (.int (1 : Int32)), .val (.ref b1), .val (.ref b5)] [(.long (own_mix (((q1 + (q2 * (-7046029254386353131 : Int64))) + (q3 * (-7046029254386353131 : Int64))) + (-7046029254386353131 : Int64))))])) := by
      refine pre12.trans ?_
      refine own_pop2 X12.here hx rfl (hb hby at_63) rfl ?_
      show Steps p.tables e below (T12.setTop (mkF m 64 #[.val (.long q1), .second, .val (.long q2), .second, .val (.long q3), .second, .val (.int p4), .val (.int (1 : Int32)), .val (.ref b1), .val (.ref b5)] [])) _
      refine XS.iload X12.here hx rfl (hb hby at_64) rfl ?_
      show Steps p.tables e below (T12.setTop (mkF m 66 #[.val (.long q1), .second, .val (.long q2), .second, .val (.long q3), .second, .val (.int p4), .val (.int (1 : Int32)), .val (.ref b1), .val (.ref b5)] [(.int (1 : Int32))])) _
      refine XS.iconst X12.here hx rfl (hb hby at_66) ?_
      show Steps p.tables e below (T12.setTop (mkF m 67 #[.val (.long q1), .second, .val (.long q2), .second, .val (.long q3), .second, .val (.int p4), .val (.int (1 : Int32)), .val (.ref b1), .val (.ref b5)] [(.int (2 : Int32)), (.int (1 : Int32))])) _
      refine XS.icmpYes X12.here hx rfl (pc0 := 67) (pc' := 76) rfl (hb hby at_67) rfl (by decide) (by decide) (by decide) ?_
      show Steps p.tables e below (T12.setTop (mkF m 76 #[.val (.long q1), .second, .val (.long q2), .second, .val (.long q3), .second, .val (.int p4), .val (.int (1 : Int32)), .val (.ref b1), .val (.ref b5)] [])) _
      refine XS.iload X12.here hx rfl (hb hby at_76) rfl ?_
      show Steps p.tables e below (T12.setTop (mkF m 78 #[.val (.long q1), .second, .val (.long q2), .second, .val (.long q3), .second, .val (.int p4), .val (.int (1 : Int32)), .val (.ref b1), .val (.ref b5)] [(.int (1 : Int32))])) _
      refine XS.iconst X12.here hx rfl (hb hby at_78) ?_
      show Steps p.tables e below (T12.setTop (mkF m 79 #[.val (.long q1), .second, .val (.long q2), .second, .val (.long q3), .second, .val (.int p4), .val (.int (1 : Int32)), .val (.ref b1), .val (.ref b5)] [(.int (3 : Int32)), (.int (1 : Int32))])) _
      refine XS.icmpYes X12.here hx rfl (pc0 := 79) (pc' := 88) rfl (hb hby at_79) rfl (by decide) (by decide) (by decide) ?_
      show Steps p.tables e below (T12.setTop (mkF m 88 #[.val (.long q1), .second, .val (.long q2), .second, .val (.long q3), .second, .val (.int p4), .val (.int (1 : Int32)), .val (.ref b1), .val (.ref b5)] [])) _
      refine XS.aload X12.here hx rfl (hb hby at_88) rfl rfl ?_
      show Steps p.tables e below (T12.setTop (mkF m 90 #[.val (.long q1), .second, .val (.long q2), .second, .val (.long q3), .second, .val (.int p4), .val (.int (1 : Int32)), .val (.ref b1), .val (.ref b5)] [(.ref b1)])) _
      exact st13
    have Y13 : n0 ≤ T13.heap.size := Nat.le_trans Y12 K13.1
    have V13 := E12.keep K13
    have VF13 := F12.keep K13 (ninS nb.symm nin0)
    have VG13 := G12.keep K13 (ninS nb.symm nin0)
    obtain ⟨cq14, kq14, q14a, q14b, q14c⟩ := isOf hZ rfl V13
    obtain ⟨_, _, ⟨T14, L14, k14, n14⟩, -, X14, ⟨Lc14, hQ14, l14, y14, z14⟩, st14⟩ := X13.virtualBack hx (y := (⟨"org/dicecaster/generator/SplitMix64", "nextLong", "()J"⟩ : MethodName)) (z := (⟨"org/dicecaster/generator/SplitMix64", "nextLong", "()J"⟩ : MethodName)) hown (mvT hZ (hw _ (List.mem_of_getElem? (i := 27) rfl))) (mvT hZ (hw _ (List.mem_of_getElem? (i := 28) rfl))) (notFace_of_selects (args := #[]) (mvT hZ (hw _ (List.mem_of_getElem? (i := 30) rfl)))) (mvT hZ (hw _ (List.mem_of_getElem? (i := 30) rfl))) (mvT hZ (hw _ (List.mem_of_getElem? (i := 29) rfl))) (by decide) (backOf (W := 2) (rm6 l Z a0 hw [] b5 ((q1 + (((q2 + q3) - ((1 : Int32).toInt64)) * (-7046029254386353131 : Int64))) + (-7046029254386353131 : Int64)) (-7046029254386353131 : Int64) T13.heap n0 Y13 V13 VF13 VG13 gg5) hZ (hw _ (List.mem_of_getElem? (i := 31) rfl)) (hw _ (List.mem_of_getElem? (i := 2) rfl)) (by decide) (by decide)) q14a q14c (g := (mkF m 95 #[.val (.long q1), .second, .val (.long q2), .second, .val (.long q3), .second, .val (.int p4), .val (.int (1 : Int32)), .val (.ref b1), .val (.ref b5)] [(.ref b5), (.long (own_mix (((q1 + (q2 * (-7046029254386353131 : Int64))) + (q3 * (-7046029254386353131 : Int64))) + (-7046029254386353131 : Int64))))])) rfl (by rw [hml]; rfl) (Steps.refl _) (argsL := []) (rest := [(.long (own_mix (((q1 + (q2 * (-7046029254386353131 : Int64))) + (q3 * (-7046029254386353131 : Int64))) + (-7046029254386353131 : Int64))))]) (lenOf pd_3 rfl) rfl (by show 2 * 0 + _ ≤ _; exact Nat.le_of_eq rfl) (hb hby at_95) (fun _ _ => ⟨rfl, rfl, (by decide : 2 + 0 ≤ _), (by decide : 4 + 0 ≤ _)⟩)
    dsimp only [Pt.U, Pt.locs, Pt.cells, Pt.slots] at X14 l14 y14 z14 st14 hQ14
    subst l14 y14 z14
    obtain ⟨rfl, M14, K14, E14, F14, G14⟩ := hQ14
    have N14 := Fr.app N13 M14
    have pre14 : Steps p.tables e below (s₁.setTop (entryFrame m #[(.long q1), (.long q2), (.long q3), (.int p4)] maxLocals)) (T14.setTop (mkF m 98 #[.val (.long q1), .second, .val (.long q2), .second, .val (.long q3), .second, .val (.int p4), .val (.int (1 : Int32)), .val (.ref b1), .val (.ref b5)] [(.long (own_mix (((q1 + (((q2 + q3) - ((1 : Int32).toInt64)) * (-7046029254386353131 : Int64))) + (-7046029254386353131 : Int64)) + (-7046029254386353131 : Int64)))), (.long (own_mix (((q1 + (q2 * (-7046029254386353131 : Int64))) + (q3 * (-7046029254386353131 : Int64))) + (-7046029254386353131 : Int64))))])) := by
      refine pre13.trans ?_
      refine XS.aload X13.here hx rfl (hb hby at_93) rfl rfl ?_
      show Steps p.tables e below (T13.setTop (mkF m 95 #[.val (.long q1), .second, .val (.long q2), .second, .val (.long q3), .second, .val (.int p4), .val (.int (1 : Int32)), .val (.ref b1), .val (.ref b5)] [(.ref b5), (.long (own_mix (((q1 + (q2 * (-7046029254386353131 : Int64))) + (q3 * (-7046029254386353131 : Int64))) + (-7046029254386353131 : Int64))))])) _
      exact st14
    have Y14 : n0 ≤ T14.heap.size := Nat.le_trans Y13 K14.1
    have V14 := E13.keep K14
    have VF14 := F13.keep K14 (ninS nb nin0)
    have VG14 := G13.keep K14 (ninS nb nin0)
    have heq : (((q1 + (q2 * (-7046029254386353131 : Int64))) + (q3 * (-7046029254386353131 : Int64))) + (-7046029254386353131 : Int64)) = (((q1 + (((q2 + q3) - ((1 : Int32).toInt64)) * (-7046029254386353131 : Int64))) + (-7046029254386353131 : Int64)) + (-7046029254386353131 : Int64)) := own_alg1 q1 q2 q3 (-7046029254386353131 : Int64)
    obtain ⟨fs, hr, hrun, hended, hW, hsame⟩ := X14.leave (v := some (.int (1 : Int32))) (fun h => by rw [Bd.returns] at h; cases h)
    refine ⟨_, _, pre14.trans ?_, hrun, hended, _, _, rfl, ?_, ⟨_, rfl⟩, hW, hsame.mono (by decide) (by decide)⟩
    · skip
      refine XS.lcmp X14.here hx rfl (hb hby at_98) rfl ?_
      show Steps p.tables e below (T14.setTop (mkF m 99 #[.val (.long q1), .second, .val (.long q2), .second, .val (.long q3), .second, .val (.int p4), .val (.int (1 : Int32)), .val (.ref b1), .val (.ref b5)] [(.int (lcmpW (own_mix (((q1 + (q2 * (-7046029254386353131 : Int64))) + (q3 * (-7046029254386353131 : Int64))) + (-7046029254386353131 : Int64))) (own_mix (((q1 + (((q2 + q3) - ((1 : Int32).toInt64)) * (-7046029254386353131 : Int64))) + (-7046029254386353131 : Int64)) + (-7046029254386353131 : Int64)))))])) _
      refine XS.ifNo X14.here hx rfl (hb hby at_99) rfl ((if0 _ _).trans (teq ((lw_eq _ _).mpr (congrArg own_mix heq))).2) ?_
      show Steps p.tables e below (T14.setTop (mkF m 102 #[.val (.long q1), .second, .val (.long q2), .second, .val (.long q3), .second, .val (.int p4), .val (.int (1 : Int32)), .val (.ref b1), .val (.ref b5)] [])) _
      refine XS.iconst X14.here hx rfl (hb hby at_102) ?_
      show Steps p.tables e below (T14.setTop (mkF m 103 #[.val (.long q1), .second, .val (.long q2), .second, .val (.long q3), .second, .val (.int p4), .val (.int (1 : Int32)), .val (.ref b1), .val (.ref b5)] [(.int (1 : Int32))])) _
      refine XS.goto X14.here hx rfl (pc0 := 103) (pc' := 107) rfl (hb hby at_103) (by decide) (by decide) ?_
      show Steps p.tables e below (T14.setTop (mkF m 107 #[.val (.long q1), .second, .val (.long q2), .second, .val (.long q3), .second, .val (.int p4), .val (.int (1 : Int32)), .val (.ref b1), .val (.ref b5)] [(.int (1 : Int32))])) _
      exact retN X14 hx (t := .boolean) Bd.returns (by simp) (hb hby at_107) hr
    · show Q0 Z q1 q2 q3 p4  h0 n0 _ T14.heap _
      exact ⟨rfl, N14⟩
  · skip
    rw [hn] at pre7
    obtain ⟨cq15, kq15, q15a, q15b, q15c⟩ := isOf hZ rfl E6
    obtain ⟨_, _, ⟨T15, L15, k15, n15⟩, -, X15, ⟨Lc15, hQ15, l15, y15, z15⟩, st15⟩ := X6.virtualBack hx (y := (⟨"org/dicecaster/generator/SplitMix64", "advance", "(J)V"⟩ : MethodName)) (z := (⟨"org/dicecaster/generator/SplitMix64", "advance", "(J)V"⟩ : MethodName)) hown (mvT hZ (hw _ (List.mem_of_getElem? (i := 22) rfl))) (mvT hZ (hw _ (List.mem_of_getElem? (i := 23) rfl))) (notFace_of_selects (args := #[]) (mvT hZ (hw _ (List.mem_of_getElem? (i := 25) rfl)))) (mvT hZ (hw _ (List.mem_of_getElem? (i := 25) rfl))) (mvT hZ (hw _ (List.mem_of_getElem? (i := 24) rfl))) (by decide) (backOf (W := 0) (rm5 l Z a0 hw [] b5 ((q2 + q3) - ((2 : Int32).toInt64)) q1 (-7046029254386353131 : Int64) T6.heap n0 Y6 E6 F6 G6 gg5) hZ (hw _ (List.mem_of_getElem? (i := 26) rfl)) (hw _ (List.mem_of_getElem? (i := 2) rfl)) (by decide) (by decide)) q15a q15c (g := (mkF m 49 #[.val (.long q1), .second, .val (.long q2), .second, .val (.long q3), .second, .val (.int p4), .val (.int (2 : Int32)), .val (.ref b1), .val (.ref b5)] [(.long ((q2 + q3) - ((2 : Int32).toInt64))), (.ref b5)])) rfl (by rw [hml]; rfl) (Steps.refl _) (argsL := [(.long ((q2 + q3) - ((2 : Int32).toInt64)))]) (rest := []) (lenOf pd_1 rfl) rfl (by show 2 * 0 + _ ≤ _; exact Nat.le_of_eq rfl) (hb hby at_49) (fun _ _ => ⟨rfl, rfl, (by decide : 2 + 0 ≤ _), (by decide : 4 + 0 ≤ _)⟩)
    dsimp only [Pt.U, Pt.locs, Pt.cells, Pt.slots] at X15 l15 y15 z15 st15 hQ15
    subst l15 y15 z15
    obtain ⟨rfl, M15, K15, E15, F15, G15⟩ := hQ15
    have N15 := Fr.app N6 M15
    have pre15 : Steps p.tables e below (s₁.setTop (entryFrame m #[(.long q1), (.long q2), (.long q3), (.int p4)] maxLocals)) (T15.setTop (mkF m 52 #[.val (.long q1), .second, .val (.long q2), .second, .val (.long q3), .second, .val (.int p4), .val (.int (2 : Int32)), .val (.ref b1), .val (.ref b5)] [])) := by
      refine pre7.trans ?_
      exact st15
    have Y15 : n0 ≤ T15.heap.size := Nat.le_trans Y6 K15.1
    have V15 := V6.keep K15
    have VF15 := VF6.keep K15 (ninS nb nin0)
    have VG15 := VG6.keep K15 (ninS nb nin0)
    obtain ⟨cq16, kq16, q16a, q16b, q16c⟩ := isOf hZ rfl E15
    obtain ⟨_, _, ⟨T16, L16, k16, n16⟩, -, X16, ⟨Lc16, hQ16, l16, y16, z16⟩, st16⟩ := X15.virtualBack hx (y := (⟨"org/dicecaster/generator/SplitMix64", "nextLong", "()J"⟩ : MethodName)) (z := (⟨"org/dicecaster/generator/SplitMix64", "nextLong", "()J"⟩ : MethodName)) hown (mvT hZ (hw _ (List.mem_of_getElem? (i := 27) rfl))) (mvT hZ (hw _ (List.mem_of_getElem? (i := 28) rfl))) (notFace_of_selects (args := #[]) (mvT hZ (hw _ (List.mem_of_getElem? (i := 30) rfl)))) (mvT hZ (hw _ (List.mem_of_getElem? (i := 30) rfl))) (mvT hZ (hw _ (List.mem_of_getElem? (i := 29) rfl))) (by decide) (backOf (W := 0) (rm6 l Z a0 hw [] b5 (q1 + (((q2 + q3) - ((2 : Int32).toInt64)) * (-7046029254386353131 : Int64))) (-7046029254386353131 : Int64) T15.heap n0 Y15 E15 F15 G15 gg5) hZ (hw _ (List.mem_of_getElem? (i := 31) rfl)) (hw _ (List.mem_of_getElem? (i := 2) rfl)) (by decide) (by decide)) q16a q16c (g := (mkF m 60 #[.val (.long q1), .second, .val (.long q2), .second, .val (.long q3), .second, .val (.int p4), .val (.int (2 : Int32)), .val (.ref b1), .val (.ref b5)] [(.ref b5)])) rfl (by rw [hml]; rfl) (Steps.refl _) (argsL := []) (rest := []) (lenOf pd_3 rfl) rfl (by show 2 * 0 + _ ≤ _; exact Nat.le_of_eq rfl) (hb hby at_60) (fun _ _ => ⟨rfl, rfl, (by decide : 2 + 0 ≤ _), (by decide : 4 + 0 ≤ _)⟩)
    dsimp only [Pt.U, Pt.locs, Pt.cells, Pt.slots] at X16 l16 y16 z16 st16 hQ16
    subst l16 y16 z16
    obtain ⟨rfl, M16, K16, E16, F16, G16⟩ := hQ16
    have N16 := Fr.app N15 M16
    have pre16 : Steps p.tables e below (s₁.setTop (entryFrame m #[(.long q1), (.long q2), (.long q3), (.int p4)] maxLocals)) (T16.setTop (mkF m 63 #[.val (.long q1), .second, .val (.long q2), .second, .val (.long q3), .second, .val (.int p4), .val (.int (2 : Int32)), .val (.ref b1), .val (.ref b5)] [(.long (own_mix ((q1 + (((q2 + q3) - ((2 : Int32).toInt64)) * (-7046029254386353131 : Int64))) + (-7046029254386353131 : Int64))))])) := by
      refine pre15.trans ?_
      refine XS.iload X15.here hx rfl (hb hby at_52) rfl ?_
      show Steps p.tables e below (T15.setTop (mkF m 54 #[.val (.long q1), .second, .val (.long q2), .second, .val (.long q3), .second, .val (.int p4), .val (.int (2 : Int32)), .val (.ref b1), .val (.ref b5)] [(.int (2 : Int32))])) _
      refine XS.iconst X15.here hx rfl (hb hby at_54) ?_
      show Steps p.tables e below (T15.setTop (mkF m 55 #[.val (.long q1), .second, .val (.long q2), .second, .val (.long q3), .second, .val (.int p4), .val (.int (2 : Int32)), .val (.ref b1), .val (.ref b5)] [(.int (1 : Int32)), (.int (2 : Int32))])) _
      refine XS.icmpNo X15.here hx rfl (hb hby at_55) rfl (by decide) ?_
      show Steps p.tables e below (T15.setTop (mkF m 58 #[.val (.long q1), .second, .val (.long q2), .second, .val (.long q3), .second, .val (.int p4), .val (.int (2 : Int32)), .val (.ref b1), .val (.ref b5)] [])) _
      refine XS.aload X15.here hx rfl (hb hby at_58) rfl rfl ?_
      show Steps p.tables e below (T15.setTop (mkF m 60 #[.val (.long q1), .second, .val (.long q2), .second, .val (.long q3), .second, .val (.int p4), .val (.int (2 : Int32)), .val (.ref b1), .val (.ref b5)] [(.ref b5)])) _
      exact st16
    have Y16 : n0 ≤ T16.heap.size := Nat.le_trans Y15 K16.1
    have V16 := V15.keep K16
    have VF16 := VF15.keep K16 (ninS nb nin0)
    have VG16 := VG15.keep K16 (ninS nb nin0)
    obtain ⟨cq17, kq17, q17a, q17b, q17c⟩ := isOf hZ rfl E16
    obtain ⟨_, _, ⟨T17, L17, k17, n17⟩, -, X17, ⟨Lc17, hQ17, l17, y17, z17⟩, st17⟩ := X16.virtualBack hx (y := (⟨"org/dicecaster/generator/SplitMix64", "nextLong", "()J"⟩ : MethodName)) (z := (⟨"org/dicecaster/generator/SplitMix64", "nextLong", "()J"⟩ : MethodName)) hown (mvT hZ (hw _ (List.mem_of_getElem? (i := 27) rfl))) (mvT hZ (hw _ (List.mem_of_getElem? (i := 28) rfl))) (notFace_of_selects (args := #[]) (mvT hZ (hw _ (List.mem_of_getElem? (i := 30) rfl)))) (mvT hZ (hw _ (List.mem_of_getElem? (i := 30) rfl))) (mvT hZ (hw _ (List.mem_of_getElem? (i := 29) rfl))) (by decide) (backOf (W := 0) (rm6 l Z a0 hw [] b5 ((q1 + (((q2 + q3) - ((2 : Int32).toInt64)) * (-7046029254386353131 : Int64))) + (-7046029254386353131 : Int64)) (-7046029254386353131 : Int64) T16.heap n0 Y16 E16 F16 G16 gg5) hZ (hw _ (List.mem_of_getElem? (i := 31) rfl)) (hw _ (List.mem_of_getElem? (i := 2) rfl)) (by decide) (by decide)) q17a q17c (g := (mkF m 72 #[.val (.long q1), .second, .val (.long q2), .second, .val (.long q3), .second, .val (.int p4), .val (.int (2 : Int32)), .val (.ref b1), .val (.ref b5)] [(.ref b5)])) rfl (by rw [hml]; rfl) (Steps.refl _) (argsL := []) (rest := []) (lenOf pd_3 rfl) rfl (by show 2 * 0 + _ ≤ _; exact Nat.le_of_eq rfl) (hb hby at_72) (fun _ _ => ⟨rfl, rfl, (by decide : 2 + 0 ≤ _), (by decide : 4 + 0 ≤ _)⟩)
    dsimp only [Pt.U, Pt.locs, Pt.cells, Pt.slots] at X17 l17 y17 z17 st17 hQ17
    subst l17 y17 z17
    obtain ⟨rfl, M17, K17, E17, F17, G17⟩ := hQ17
    have N17 := Fr.app N16 M17
    have pre17 : Steps p.tables e below (s₁.setTop (entryFrame m #[(.long q1), (.long q2), (.long q3), (.int p4)] maxLocals)) (T17.setTop (mkF m 75 #[.val (.long q1), .second, .val (.long q2), .second, .val (.long q3), .second, .val (.int p4), .val (.int (2 : Int32)), .val (.ref b1), .val (.ref b5)] [(.long (own_mix (((q1 + (((q2 + q3) - ((2 : Int32).toInt64)) * (-7046029254386353131 : Int64))) + (-7046029254386353131 : Int64)) + (-7046029254386353131 : Int64))))])) := by
      refine pre16.trans ?_
      refine own_pop2 X16.here hx rfl (hb hby at_63) rfl ?_
      show Steps p.tables e below (T16.setTop (mkF m 64 #[.val (.long q1), .second, .val (.long q2), .second, .val (.long q3), .second, .val (.int p4), .val (.int (2 : Int32)), .val (.ref b1), .val (.ref b5)] [])) _
      refine XS.iload X16.here hx rfl (hb hby at_64) rfl ?_
      show Steps p.tables e below (T16.setTop (mkF m 66 #[.val (.long q1), .second, .val (.long q2), .second, .val (.long q3), .second, .val (.int p4), .val (.int (2 : Int32)), .val (.ref b1), .val (.ref b5)] [(.int (2 : Int32))])) _
      refine XS.iconst X16.here hx rfl (hb hby at_66) ?_
      show Steps p.tables e below (T16.setTop (mkF m 67 #[.val (.long q1), .second, .val (.long q2), .second, .val (.long q3), .second, .val (.int p4), .val (.int (2 : Int32)), .val (.ref b1), .val (.ref b5)] [(.int (2 : Int32)), (.int (2 : Int32))])) _
      refine XS.icmpNo X16.here hx rfl (hb hby at_67) rfl (by decide) ?_
      show Steps p.tables e below (T16.setTop (mkF m 70 #[.val (.long q1), .second, .val (.long q2), .second, .val (.long q3), .second, .val (.int p4), .val (.int (2 : Int32)), .val (.ref b1), .val (.ref b5)] [])) _
      refine XS.aload X16.here hx rfl (hb hby at_70) rfl rfl ?_
      show Steps p.tables e below (T16.setTop (mkF m 72 #[.val (.long q1), .second, .val (.long q2), .second, .val (.long q3), .second, .val (.int p4), .val (.int (2 : Int32)), .val (.ref b1), .val (.ref b5)] [(.ref b5)])) _
      exact st17
    have Y17 : n0 ≤ T17.heap.size := Nat.le_trans Y16 K17.1
    have V17 := V16.keep K17
    have VF17 := VF16.keep K17 (ninS nb nin0)
    have VG17 := VG16.keep K17 (ninS nb nin0)
    obtain ⟨cq18, kq18, q18a, q18b, q18c⟩ := isOf hZ rfl V17
    obtain ⟨_, _, ⟨T18, L18, k18, n18⟩, -, X18, ⟨Lc18, hQ18, l18, y18, z18⟩, st18⟩ := X17.virtualBack hx (y := (⟨"org/dicecaster/generator/SplitMix64", "nextLong", "()J"⟩ : MethodName)) (z := (⟨"org/dicecaster/generator/SplitMix64", "nextLong", "()J"⟩ : MethodName)) hown (mvT hZ (hw _ (List.mem_of_getElem? (i := 27) rfl))) (mvT hZ (hw _ (List.mem_of_getElem? (i := 28) rfl))) (notFace_of_selects (args := #[]) (mvT hZ (hw _ (List.mem_of_getElem? (i := 30) rfl)))) (mvT hZ (hw _ (List.mem_of_getElem? (i := 30) rfl))) (mvT hZ (hw _ (List.mem_of_getElem? (i := 29) rfl))) (by decide) (backOf (W := 0) (rm6 l Z a0 hw [] b1 ((q1 + (q2 * (-7046029254386353131 : Int64))) + (q3 * (-7046029254386353131 : Int64))) (-7046029254386353131 : Int64) T17.heap n0 Y17 V17 VF17 VG17 gg1) hZ (hw _ (List.mem_of_getElem? (i := 31) rfl)) (hw _ (List.mem_of_getElem? (i := 2) rfl)) (by decide) (by decide)) q18a q18c (g := (mkF m 90 #[.val (.long q1), .second, .val (.long q2), .second, .val (.long q3), .second, .val (.int p4), .val (.int (2 : Int32)), .val (.ref b1), .val (.ref b5)] [(.ref b1)])) rfl (by rw [hml]; rfl) (Steps.refl _) (argsL := []) (rest := []) (lenOf pd_3 rfl) rfl (by show 2 * 0 + _ ≤ _; exact Nat.le_of_eq rfl) (hb hby at_90) (fun _ _ => ⟨rfl, rfl, (by decide : 2 + 0 ≤ _), (by decide : 4 + 0 ≤ _)⟩)
    dsimp only [Pt.U, Pt.locs, Pt.cells, Pt.slots] at X18 l18 y18 z18 st18 hQ18
    subst l18 y18 z18
    obtain ⟨rfl, M18, K18, E18, F18, G18⟩ := hQ18
    have N18 := Fr.app N17 M18
    have pre18 : Steps p.tables e below (s₁.setTop (entryFrame m #[(.long q1), (.long q2), (.long q3), (.int p4)] maxLocals)) (T18.setTop (mkF m 93 #[.val (.long q1), .second, .val (.long q2), .second, .val (.long q3), .second, .val (.int p4), .val (.int (2 : Int32)), .val (.ref b1), .val (.ref b5)] [(.long (own_mix (((q1 + (q2 * (-7046029254386353131 : Int64))) + (q3 * (-7046029254386353131 : Int64))) + (-7046029254386353131 : Int64))))])) := by
      refine pre17.trans ?_
      refine own_pop2 X17.here hx rfl (hb hby at_75) rfl ?_
      show Steps p.tables e below (T17.setTop (mkF m 76 #[.val (.long q1), .second, .val (.long q2), .second, .val (.long q3), .second, .val (.int p4), .val (.int (2 : Int32)), .val (.ref b1), .val (.ref b5)] [])) _
      refine XS.iload X17.here hx rfl (hb hby at_76) rfl ?_
      show Steps p.tables e below (T17.setTop (mkF m 78 #[.val (.long q1), .second, .val (.long q2), .second, .val (.long q3), .second, .val (.int p4), .val (.int (2 : Int32)), .val (.ref b1), .val (.ref b5)] [(.int (2 : Int32))])) _
      refine XS.iconst X17.here hx rfl (hb hby at_78) ?_
      show Steps p.tables e below (T17.setTop (mkF m 79 #[.val (.long q1), .second, .val (.long q2), .second, .val (.long q3), .second, .val (.int p4), .val (.int (2 : Int32)), .val (.ref b1), .val (.ref b5)] [(.int (3 : Int32)), (.int (2 : Int32))])) _
      refine XS.icmpYes X17.here hx rfl (pc0 := 79) (pc' := 88) rfl (hb hby at_79) rfl (by decide) (by decide) (by decide) ?_
      show Steps p.tables e below (T17.setTop (mkF m 88 #[.val (.long q1), .second, .val (.long q2), .second, .val (.long q3), .second, .val (.int p4), .val (.int (2 : Int32)), .val (.ref b1), .val (.ref b5)] [])) _
      refine XS.aload X17.here hx rfl (hb hby at_88) rfl rfl ?_
      show Steps p.tables e below (T17.setTop (mkF m 90 #[.val (.long q1), .second, .val (.long q2), .second, .val (.long q3), .second, .val (.int p4), .val (.int (2 : Int32)), .val (.ref b1), .val (.ref b5)] [(.ref b1)])) _
      exact st18
    have Y18 : n0 ≤ T18.heap.size := Nat.le_trans Y17 K18.1
    have V18 := E17.keep K18
    have VF18 := F17.keep K18 (ninS nb.symm nin0)
    have VG18 := G17.keep K18 (ninS nb.symm nin0)
    obtain ⟨cq19, kq19, q19a, q19b, q19c⟩ := isOf hZ rfl V18
    obtain ⟨_, _, ⟨T19, L19, k19, n19⟩, -, X19, ⟨Lc19, hQ19, l19, y19, z19⟩, st19⟩ := X18.virtualBack hx (y := (⟨"org/dicecaster/generator/SplitMix64", "nextLong", "()J"⟩ : MethodName)) (z := (⟨"org/dicecaster/generator/SplitMix64", "nextLong", "()J"⟩ : MethodName)) hown (mvT hZ (hw _ (List.mem_of_getElem? (i := 27) rfl))) (mvT hZ (hw _ (List.mem_of_getElem? (i := 28) rfl))) (notFace_of_selects (args := #[]) (mvT hZ (hw _ (List.mem_of_getElem? (i := 30) rfl)))) (mvT hZ (hw _ (List.mem_of_getElem? (i := 30) rfl))) (mvT hZ (hw _ (List.mem_of_getElem? (i := 29) rfl))) (by decide) (backOf (W := 2) (rm6 l Z a0 hw [] b5 (((q1 + (((q2 + q3) - ((2 : Int32).toInt64)) * (-7046029254386353131 : Int64))) + (-7046029254386353131 : Int64)) + (-7046029254386353131 : Int64)) (-7046029254386353131 : Int64) T18.heap n0 Y18 V18 VF18 VG18 gg5) hZ (hw _ (List.mem_of_getElem? (i := 31) rfl)) (hw _ (List.mem_of_getElem? (i := 2) rfl)) (by decide) (by decide)) q19a q19c (g := (mkF m 95 #[.val (.long q1), .second, .val (.long q2), .second, .val (.long q3), .second, .val (.int p4), .val (.int (2 : Int32)), .val (.ref b1), .val (.ref b5)] [(.ref b5), (.long (own_mix (((q1 + (q2 * (-7046029254386353131 : Int64))) + (q3 * (-7046029254386353131 : Int64))) + (-7046029254386353131 : Int64))))])) rfl (by rw [hml]; rfl) (Steps.refl _) (argsL := []) (rest := [(.long (own_mix (((q1 + (q2 * (-7046029254386353131 : Int64))) + (q3 * (-7046029254386353131 : Int64))) + (-7046029254386353131 : Int64))))]) (lenOf pd_3 rfl) rfl (by show 2 * 0 + _ ≤ _; exact Nat.le_of_eq rfl) (hb hby at_95) (fun _ _ => ⟨rfl, rfl, (by decide : 2 + 0 ≤ _), (by decide : 4 + 0 ≤ _)⟩)
    dsimp only [Pt.U, Pt.locs, Pt.cells, Pt.slots] at X19 l19 y19 z19 st19 hQ19
    subst l19 y19 z19
    obtain ⟨rfl, M19, K19, E19, F19, G19⟩ := hQ19
    have N19 := Fr.app N18 M19
    have pre19 : Steps p.tables e below (s₁.setTop (entryFrame m #[(.long q1), (.long q2), (.long q3), (.int p4)] maxLocals)) (T19.setTop (mkF m 98 #[.val (.long q1), .second, .val (.long q2), .second, .val (.long q3), .second, .val (.int p4), .val (.int (2 : Int32)), .val (.ref b1), .val (.ref b5)] [(.long (own_mix ((((q1 + (((q2 + q3) - ((2 : Int32).toInt64)) * (-7046029254386353131 : Int64))) + (-7046029254386353131 : Int64)) + (-7046029254386353131 : Int64)) + (-7046029254386353131 : Int64)))), (.long (own_mix (((q1 + (q2 * (-7046029254386353131 : Int64))) + (q3 * (-7046029254386353131 : Int64))) + (-7046029254386353131 : Int64))))])) := by
      refine pre18.trans ?_
      refine XS.aload X18.here hx rfl (hb hby at_93) rfl rfl ?_
      show Steps p.tables e below (T18.setTop (mkF m 95 #[.val (.long q1), .second, .val (.long q2), .second, .val (.long q3), .second, .val (.int p4), .val (.int (2 : Int32)), .val (.ref b1), .val (.ref b5)] [(.ref b5), (.long (own_mix (((q1 + (q2 * (-7046029254386353131 : Int64))) + (q3 * (-7046029254386353131 : Int64))) + (-7046029254386353131 : Int64))))])) _
      exact st19
    have Y19 : n0 ≤ T19.heap.size := Nat.le_trans Y18 K19.1
    have V19 := E18.keep K19
    have VF19 := F18.keep K19 (ninS nb nin0)
    have VG19 := G18.keep K19 (ninS nb nin0)
    have heq : (((q1 + (q2 * (-7046029254386353131 : Int64))) + (q3 * (-7046029254386353131 : Int64))) + (-7046029254386353131 : Int64)) = ((((q1 + (((q2 + q3) - ((2 : Int32).toInt64)) * (-7046029254386353131 : Int64))) + (-7046029254386353131 : Int64)) + (-7046029254386353131 : Int64)) + (-7046029254386353131 : Int64)) := own_alg2 q1 q2 q3 (-7046029254386353131 : Int64)
    obtain ⟨fs, hr, hrun, hended, hW, hsame⟩ := X19.leave (v := some (.int (1 : Int32))) (fun h => by rw [Bd.returns] at h; cases h)
    refine ⟨_, _, pre19.trans ?_, hrun, hended, _, _, rfl, ?_, ⟨_, rfl⟩, hW, hsame.mono (by decide) (by decide)⟩
    · skip
      refine XS.lcmp X19.here hx rfl (hb hby at_98) rfl ?_
      show Steps p.tables e below (T19.setTop (mkF m 99 #[.val (.long q1), .second, .val (.long q2), .second, .val (.long q3), .second, .val (.int p4), .val (.int (2 : Int32)), .val (.ref b1), .val (.ref b5)] [(.int (lcmpW (own_mix (((q1 + (q2 * (-7046029254386353131 : Int64))) + (q3 * (-7046029254386353131 : Int64))) + (-7046029254386353131 : Int64))) (own_mix ((((q1 + (((q2 + q3) - ((2 : Int32).toInt64)) * (-7046029254386353131 : Int64))) + (-7046029254386353131 : Int64)) + (-7046029254386353131 : Int64)) + (-7046029254386353131 : Int64)))))])) _
      refine XS.ifNo X19.here hx rfl (hb hby at_99) rfl ((if0 _ _).trans (teq ((lw_eq _ _).mpr (congrArg own_mix heq))).2) ?_
      show Steps p.tables e below (T19.setTop (mkF m 102 #[.val (.long q1), .second, .val (.long q2), .second, .val (.long q3), .second, .val (.int p4), .val (.int (2 : Int32)), .val (.ref b1), .val (.ref b5)] [])) _
      refine XS.iconst X19.here hx rfl (hb hby at_102) ?_
      show Steps p.tables e below (T19.setTop (mkF m 103 #[.val (.long q1), .second, .val (.long q2), .second, .val (.long q3), .second, .val (.int p4), .val (.int (2 : Int32)), .val (.ref b1), .val (.ref b5)] [(.int (1 : Int32))])) _
      refine XS.goto X19.here hx rfl (pc0 := 103) (pc' := 107) rfl (hb hby at_103) (by decide) (by decide) ?_
      show Steps p.tables e below (T19.setTop (mkF m 107 #[.val (.long q1), .second, .val (.long q2), .second, .val (.long q3), .second, .val (.int p4), .val (.int (2 : Int32)), .val (.ref b1), .val (.ref b5)] [(.int (1 : Int32))])) _
      exact retN X19 hx (t := .boolean) Bd.returns (by simp) (hb hby at_107) hr
    · show Q0 Z q1 q2 q3 p4  h0 n0 _ T19.heap _
      exact ⟨rfl, N19⟩
  · skip
    rw [hn] at pre7
    obtain ⟨cq20, kq20, q20a, q20b, q20c⟩ := isOf hZ rfl E6
    obtain ⟨_, _, ⟨T20, L20, k20, n20⟩, -, X20, ⟨Lc20, hQ20, l20, y20, z20⟩, st20⟩ := X6.virtualBack hx (y := (⟨"org/dicecaster/generator/SplitMix64", "advance", "(J)V"⟩ : MethodName)) (z := (⟨"org/dicecaster/generator/SplitMix64", "advance", "(J)V"⟩ : MethodName)) hown (mvT hZ (hw _ (List.mem_of_getElem? (i := 22) rfl))) (mvT hZ (hw _ (List.mem_of_getElem? (i := 23) rfl))) (notFace_of_selects (args := #[]) (mvT hZ (hw _ (List.mem_of_getElem? (i := 25) rfl)))) (mvT hZ (hw _ (List.mem_of_getElem? (i := 25) rfl))) (mvT hZ (hw _ (List.mem_of_getElem? (i := 24) rfl))) (by decide) (backOf (W := 0) (rm5 l Z a0 hw [] b5 ((q2 + q3) - ((3 : Int32).toInt64)) q1 (-7046029254386353131 : Int64) T6.heap n0 Y6 E6 F6 G6 gg5) hZ (hw _ (List.mem_of_getElem? (i := 26) rfl)) (hw _ (List.mem_of_getElem? (i := 2) rfl)) (by decide) (by decide)) q20a q20c (g := (mkF m 49 #[.val (.long q1), .second, .val (.long q2), .second, .val (.long q3), .second, .val (.int p4), .val (.int (3 : Int32)), .val (.ref b1), .val (.ref b5)] [(.long ((q2 + q3) - ((3 : Int32).toInt64))), (.ref b5)])) rfl (by rw [hml]; rfl) (Steps.refl _) (argsL := [(.long ((q2 + q3) - ((3 : Int32).toInt64)))]) (rest := []) (lenOf pd_1 rfl) rfl (by show 2 * 0 + _ ≤ _; exact Nat.le_of_eq rfl) (hb hby at_49) (fun _ _ => ⟨rfl, rfl, (by decide : 2 + 0 ≤ _), (by decide : 4 + 0 ≤ _)⟩)
    dsimp only [Pt.U, Pt.locs, Pt.cells, Pt.slots] at X20 l20 y20 z20 st20 hQ20
    subst l20 y20 z20
    obtain ⟨rfl, M20, K20, E20, F20, G20⟩ := hQ20
    have N20 := Fr.app N6 M20
    have pre20 : Steps p.tables e below (s₁.setTop (entryFrame m #[(.long q1), (.long q2), (.long q3), (.int p4)] maxLocals)) (T20.setTop (mkF m 52 #[.val (.long q1), .second, .val (.long q2), .second, .val (.long q3), .second, .val (.int p4), .val (.int (3 : Int32)), .val (.ref b1), .val (.ref b5)] [])) := by
      refine pre7.trans ?_
      exact st20
    have Y20 : n0 ≤ T20.heap.size := Nat.le_trans Y6 K20.1
    have V20 := V6.keep K20
    have VF20 := VF6.keep K20 (ninS nb nin0)
    have VG20 := VG6.keep K20 (ninS nb nin0)
    obtain ⟨cq21, kq21, q21a, q21b, q21c⟩ := isOf hZ rfl E20
    obtain ⟨_, _, ⟨T21, L21, k21, n21⟩, -, X21, ⟨Lc21, hQ21, l21, y21, z21⟩, st21⟩ := X20.virtualBack hx (y := (⟨"org/dicecaster/generator/SplitMix64", "nextLong", "()J"⟩ : MethodName)) (z := (⟨"org/dicecaster/generator/SplitMix64", "nextLong", "()J"⟩ : MethodName)) hown (mvT hZ (hw _ (List.mem_of_getElem? (i := 27) rfl))) (mvT hZ (hw _ (List.mem_of_getElem? (i := 28) rfl))) (notFace_of_selects (args := #[]) (mvT hZ (hw _ (List.mem_of_getElem? (i := 30) rfl)))) (mvT hZ (hw _ (List.mem_of_getElem? (i := 30) rfl))) (mvT hZ (hw _ (List.mem_of_getElem? (i := 29) rfl))) (by decide) (backOf (W := 0) (rm6 l Z a0 hw [] b5 (q1 + (((q2 + q3) - ((3 : Int32).toInt64)) * (-7046029254386353131 : Int64))) (-7046029254386353131 : Int64) T20.heap n0 Y20 E20 F20 G20 gg5) hZ (hw _ (List.mem_of_getElem? (i := 31) rfl)) (hw _ (List.mem_of_getElem? (i := 2) rfl)) (by decide) (by decide)) q21a q21c (g := (mkF m 60 #[.val (.long q1), .second, .val (.long q2), .second, .val (.long q3), .second, .val (.int p4), .val (.int (3 : Int32)), .val (.ref b1), .val (.ref b5)] [(.ref b5)])) rfl (by rw [hml]; rfl) (Steps.refl _) (argsL := []) (rest := []) (lenOf pd_3 rfl) rfl (by show 2 * 0 + _ ≤ _; exact Nat.le_of_eq rfl) (hb hby at_60) (fun _ _ => ⟨rfl, rfl, (by decide : 2 + 0 ≤ _), (by decide : 4 + 0 ≤ _)⟩)
    dsimp only [Pt.U, Pt.locs, Pt.cells, Pt.slots] at X21 l21 y21 z21 st21 hQ21
    subst l21 y21 z21
    obtain ⟨rfl, M21, K21, E21, F21, G21⟩ := hQ21
    have N21 := Fr.app N20 M21
    have pre21 : Steps p.tables e below (s₁.setTop (entryFrame m #[(.long q1), (.long q2), (.long q3), (.int p4)] maxLocals)) (T21.setTop (mkF m 63 #[.val (.long q1), .second, .val (.long q2), .second, .val (.long q3), .second, .val (.int p4), .val (.int (3 : Int32)), .val (.ref b1), .val (.ref b5)] [(.long (own_mix ((q1 + (((q2 + q3) - ((3 : Int32).toInt64)) * (-7046029254386353131 : Int64))) + (-7046029254386353131 : Int64))))])) := by
      refine pre20.trans ?_
      refine XS.iload X20.here hx rfl (hb hby at_52) rfl ?_
      show Steps p.tables e below (T20.setTop (mkF m 54 #[.val (.long q1), .second, .val (.long q2), .second, .val (.long q3), .second, .val (.int p4), .val (.int (3 : Int32)), .val (.ref b1), .val (.ref b5)] [(.int (3 : Int32))])) _
      refine XS.iconst X20.here hx rfl (hb hby at_54) ?_
      show Steps p.tables e below (T20.setTop (mkF m 55 #[.val (.long q1), .second, .val (.long q2), .second, .val (.long q3), .second, .val (.int p4), .val (.int (3 : Int32)), .val (.ref b1), .val (.ref b5)] [(.int (1 : Int32)), (.int (3 : Int32))])) _
      refine XS.icmpNo X20.here hx rfl (hb hby at_55) rfl (by decide) ?_
      show Steps p.tables e below (T20.setTop (mkF m 58 #[.val (.long q1), .second, .val (.long q2), .second, .val (.long q3), .second, .val (.int p4), .val (.int (3 : Int32)), .val (.ref b1), .val (.ref b5)] [])) _
      refine XS.aload X20.here hx rfl (hb hby at_58) rfl rfl ?_
      show Steps p.tables e below (T20.setTop (mkF m 60 #[.val (.long q1), .second, .val (.long q2), .second, .val (.long q3), .second, .val (.int p4), .val (.int (3 : Int32)), .val (.ref b1), .val (.ref b5)] [(.ref b5)])) _
      exact st21
    have Y21 : n0 ≤ T21.heap.size := Nat.le_trans Y20 K21.1
    have V21 := V20.keep K21
    have VF21 := VF20.keep K21 (ninS nb nin0)
    have VG21 := VG20.keep K21 (ninS nb nin0)
    obtain ⟨cq22, kq22, q22a, q22b, q22c⟩ := isOf hZ rfl E21
    obtain ⟨_, _, ⟨T22, L22, k22, n22⟩, -, X22, ⟨Lc22, hQ22, l22, y22, z22⟩, st22⟩ := X21.virtualBack hx (y := (⟨"org/dicecaster/generator/SplitMix64", "nextLong", "()J"⟩ : MethodName)) (z := (⟨"org/dicecaster/generator/SplitMix64", "nextLong", "()J"⟩ : MethodName)) hown (mvT hZ (hw _ (List.mem_of_getElem? (i := 27) rfl))) (mvT hZ (hw _ (List.mem_of_getElem? (i := 28) rfl))) (notFace_of_selects (args := #[]) (mvT hZ (hw _ (List.mem_of_getElem? (i := 30) rfl)))) (mvT hZ (hw _ (List.mem_of_getElem? (i := 30) rfl))) (mvT hZ (hw _ (List.mem_of_getElem? (i := 29) rfl))) (by decide) (backOf (W := 0) (rm6 l Z a0 hw [] b5 ((q1 + (((q2 + q3) - ((3 : Int32).toInt64)) * (-7046029254386353131 : Int64))) + (-7046029254386353131 : Int64)) (-7046029254386353131 : Int64) T21.heap n0 Y21 E21 F21 G21 gg5) hZ (hw _ (List.mem_of_getElem? (i := 31) rfl)) (hw _ (List.mem_of_getElem? (i := 2) rfl)) (by decide) (by decide)) q22a q22c (g := (mkF m 72 #[.val (.long q1), .second, .val (.long q2), .second, .val (.long q3), .second, .val (.int p4), .val (.int (3 : Int32)), .val (.ref b1), .val (.ref b5)] [(.ref b5)])) rfl (by rw [hml]; rfl) (Steps.refl _) (argsL := []) (rest := []) (lenOf pd_3 rfl) rfl (by show 2 * 0 + _ ≤ _; exact Nat.le_of_eq rfl) (hb hby at_72) (fun _ _ => ⟨rfl, rfl, (by decide : 2 + 0 ≤ _), (by decide : 4 + 0 ≤ _)⟩)
    dsimp only [Pt.U, Pt.locs, Pt.cells, Pt.slots] at X22 l22 y22 z22 st22 hQ22
    subst l22 y22 z22
    obtain ⟨rfl, M22, K22, E22, F22, G22⟩ := hQ22
    have N22 := Fr.app N21 M22
    have pre22 : Steps p.tables e below (s₁.setTop (entryFrame m #[(.long q1), (.long q2), (.long q3), (.int p4)] maxLocals)) (T22.setTop (mkF m 75 #[.val (.long q1), .second, .val (.long q2), .second, .val (.long q3), .second, .val (.int p4), .val (.int (3 : Int32)), .val (.ref b1), .val (.ref b5)] [(.long (own_mix (((q1 + (((q2 + q3) - ((3 : Int32).toInt64)) * (-7046029254386353131 : Int64))) + (-7046029254386353131 : Int64)) + (-7046029254386353131 : Int64))))])) := by
      refine pre21.trans ?_
      refine own_pop2 X21.here hx rfl (hb hby at_63) rfl ?_
      show Steps p.tables e below (T21.setTop (mkF m 64 #[.val (.long q1), .second, .val (.long q2), .second, .val (.long q3), .second, .val (.int p4), .val (.int (3 : Int32)), .val (.ref b1), .val (.ref b5)] [])) _
      refine XS.iload X21.here hx rfl (hb hby at_64) rfl ?_
      show Steps p.tables e below (T21.setTop (mkF m 66 #[.val (.long q1), .second, .val (.long q2), .second, .val (.long q3), .second, .val (.int p4), .val (.int (3 : Int32)), .val (.ref b1), .val (.ref b5)] [(.int (3 : Int32))])) _
      refine XS.iconst X21.here hx rfl (hb hby at_66) ?_
      show Steps p.tables e below (T21.setTop (mkF m 67 #[.val (.long q1), .second, .val (.long q2), .second, .val (.long q3), .second, .val (.int p4), .val (.int (3 : Int32)), .val (.ref b1), .val (.ref b5)] [(.int (2 : Int32)), (.int (3 : Int32))])) _
      refine XS.icmpNo X21.here hx rfl (hb hby at_67) rfl (by decide) ?_
      show Steps p.tables e below (T21.setTop (mkF m 70 #[.val (.long q1), .second, .val (.long q2), .second, .val (.long q3), .second, .val (.int p4), .val (.int (3 : Int32)), .val (.ref b1), .val (.ref b5)] [])) _
      refine XS.aload X21.here hx rfl (hb hby at_70) rfl rfl ?_
      show Steps p.tables e below (T21.setTop (mkF m 72 #[.val (.long q1), .second, .val (.long q2), .second, .val (.long q3), .second, .val (.int p4), .val (.int (3 : Int32)), .val (.ref b1), .val (.ref b5)] [(.ref b5)])) _
      exact st22
    have Y22 : n0 ≤ T22.heap.size := Nat.le_trans Y21 K22.1
    have V22 := V21.keep K22
    have VF22 := VF21.keep K22 (ninS nb nin0)
    have VG22 := VG21.keep K22 (ninS nb nin0)
    obtain ⟨cq23, kq23, q23a, q23b, q23c⟩ := isOf hZ rfl E22
    obtain ⟨_, _, ⟨T23, L23, k23, n23⟩, -, X23, ⟨Lc23, hQ23, l23, y23, z23⟩, st23⟩ := X22.virtualBack hx (y := (⟨"org/dicecaster/generator/SplitMix64", "nextLong", "()J"⟩ : MethodName)) (z := (⟨"org/dicecaster/generator/SplitMix64", "nextLong", "()J"⟩ : MethodName)) hown (mvT hZ (hw _ (List.mem_of_getElem? (i := 27) rfl))) (mvT hZ (hw _ (List.mem_of_getElem? (i := 28) rfl))) (notFace_of_selects (args := #[]) (mvT hZ (hw _ (List.mem_of_getElem? (i := 30) rfl)))) (mvT hZ (hw _ (List.mem_of_getElem? (i := 30) rfl))) (mvT hZ (hw _ (List.mem_of_getElem? (i := 29) rfl))) (by decide) (backOf (W := 0) (rm6 l Z a0 hw [] b5 (((q1 + (((q2 + q3) - ((3 : Int32).toInt64)) * (-7046029254386353131 : Int64))) + (-7046029254386353131 : Int64)) + (-7046029254386353131 : Int64)) (-7046029254386353131 : Int64) T22.heap n0 Y22 E22 F22 G22 gg5) hZ (hw _ (List.mem_of_getElem? (i := 31) rfl)) (hw _ (List.mem_of_getElem? (i := 2) rfl)) (by decide) (by decide)) q23a q23c (g := (mkF m 84 #[.val (.long q1), .second, .val (.long q2), .second, .val (.long q3), .second, .val (.int p4), .val (.int (3 : Int32)), .val (.ref b1), .val (.ref b5)] [(.ref b5)])) rfl (by rw [hml]; rfl) (Steps.refl _) (argsL := []) (rest := []) (lenOf pd_3 rfl) rfl (by show 2 * 0 + _ ≤ _; exact Nat.le_of_eq rfl) (hb hby at_84) (fun _ _ => ⟨rfl, rfl, (by decide : 2 + 0 ≤ _), (by decide : 4 + 0 ≤ _)⟩)
    dsimp only [Pt.U, Pt.locs, Pt.cells, Pt.slots] at X23 l23 y23 z23 st23 hQ23
    subst l23 y23 z23
    obtain ⟨rfl, M23, K23, E23, F23, G23⟩ := hQ23
    have N23 := Fr.app N22 M23
    have pre23 : Steps p.tables e below (s₁.setTop (entryFrame m #[(.long q1), (.long q2), (.long q3), (.int p4)] maxLocals)) (T23.setTop (mkF m 87 #[.val (.long q1), .second, .val (.long q2), .second, .val (.long q3), .second, .val (.int p4), .val (.int (3 : Int32)), .val (.ref b1), .val (.ref b5)] [(.long (own_mix ((((q1 + (((q2 + q3) - ((3 : Int32).toInt64)) * (-7046029254386353131 : Int64))) + (-7046029254386353131 : Int64)) + (-7046029254386353131 : Int64)) + (-7046029254386353131 : Int64))))])) := by
      refine pre22.trans ?_
      refine own_pop2 X22.here hx rfl (hb hby at_75) rfl ?_
      show Steps p.tables e below (T22.setTop (mkF m 76 #[.val (.long q1), .second, .val (.long q2), .second, .val (.long q3), .second, .val (.int p4), .val (.int (3 : Int32)), .val (.ref b1), .val (.ref b5)] [])) _
      refine XS.iload X22.here hx rfl (hb hby at_76) rfl ?_
      show Steps p.tables e below (T22.setTop (mkF m 78 #[.val (.long q1), .second, .val (.long q2), .second, .val (.long q3), .second, .val (.int p4), .val (.int (3 : Int32)), .val (.ref b1), .val (.ref b5)] [(.int (3 : Int32))])) _
      refine XS.iconst X22.here hx rfl (hb hby at_78) ?_
      show Steps p.tables e below (T22.setTop (mkF m 79 #[.val (.long q1), .second, .val (.long q2), .second, .val (.long q3), .second, .val (.int p4), .val (.int (3 : Int32)), .val (.ref b1), .val (.ref b5)] [(.int (3 : Int32)), (.int (3 : Int32))])) _
      refine XS.icmpNo X22.here hx rfl (hb hby at_79) rfl (by decide) ?_
      show Steps p.tables e below (T22.setTop (mkF m 82 #[.val (.long q1), .second, .val (.long q2), .second, .val (.long q3), .second, .val (.int p4), .val (.int (3 : Int32)), .val (.ref b1), .val (.ref b5)] [])) _
      refine XS.aload X22.here hx rfl (hb hby at_82) rfl rfl ?_
      show Steps p.tables e below (T22.setTop (mkF m 84 #[.val (.long q1), .second, .val (.long q2), .second, .val (.long q3), .second, .val (.int p4), .val (.int (3 : Int32)), .val (.ref b1), .val (.ref b5)] [(.ref b5)])) _
      exact st23
    have Y23 : n0 ≤ T23.heap.size := Nat.le_trans Y22 K23.1
    have V23 := V22.keep K23
    have VF23 := VF22.keep K23 (ninS nb nin0)
    have VG23 := VG22.keep K23 (ninS nb nin0)
    obtain ⟨cq24, kq24, q24a, q24b, q24c⟩ := isOf hZ rfl V23
    obtain ⟨_, _, ⟨T24, L24, k24, n24⟩, -, X24, ⟨Lc24, hQ24, l24, y24, z24⟩, st24⟩ := X23.virtualBack hx (y := (⟨"org/dicecaster/generator/SplitMix64", "nextLong", "()J"⟩ : MethodName)) (z := (⟨"org/dicecaster/generator/SplitMix64", "nextLong", "()J"⟩ : MethodName)) hown (mvT hZ (hw _ (List.mem_of_getElem? (i := 27) rfl))) (mvT hZ (hw _ (List.mem_of_getElem? (i := 28) rfl))) (notFace_of_selects (args := #[]) (mvT hZ (hw _ (List.mem_of_getElem? (i := 30) rfl)))) (mvT hZ (hw _ (List.mem_of_getElem? (i := 30) rfl))) (mvT hZ (hw _ (List.mem_of_getElem? (i := 29) rfl))) (by decide) (backOf (W := 0) (rm6 l Z a0 hw [] b1 ((q1 + (q2 * (-7046029254386353131 : Int64))) + (q3 * (-7046029254386353131 : Int64))) (-7046029254386353131 : Int64) T23.heap n0 Y23 V23 VF23 VG23 gg1) hZ (hw _ (List.mem_of_getElem? (i := 31) rfl)) (hw _ (List.mem_of_getElem? (i := 2) rfl)) (by decide) (by decide)) q24a q24c (g := (mkF m 90 #[.val (.long q1), .second, .val (.long q2), .second, .val (.long q3), .second, .val (.int p4), .val (.int (3 : Int32)), .val (.ref b1), .val (.ref b5)] [(.ref b1)])) rfl (by rw [hml]; rfl) (Steps.refl _) (argsL := []) (rest := []) (lenOf pd_3 rfl) rfl (by show 2 * 0 + _ ≤ _; exact Nat.le_of_eq rfl) (hb hby at_90) (fun _ _ => ⟨rfl, rfl, (by decide : 2 + 0 ≤ _), (by decide : 4 + 0 ≤ _)⟩)
    dsimp only [Pt.U, Pt.locs, Pt.cells, Pt.slots] at X24 l24 y24 z24 st24 hQ24
    subst l24 y24 z24
    obtain ⟨rfl, M24, K24, E24, F24, G24⟩ := hQ24
    have N24 := Fr.app N23 M24
    have pre24 : Steps p.tables e below (s₁.setTop (entryFrame m #[(.long q1), (.long q2), (.long q3), (.int p4)] maxLocals)) (T24.setTop (mkF m 93 #[.val (.long q1), .second, .val (.long q2), .second, .val (.long q3), .second, .val (.int p4), .val (.int (3 : Int32)), .val (.ref b1), .val (.ref b5)] [(.long (own_mix (((q1 + (q2 * (-7046029254386353131 : Int64))) + (q3 * (-7046029254386353131 : Int64))) + (-7046029254386353131 : Int64))))])) := by
      refine pre23.trans ?_
      refine own_pop2 X23.here hx rfl (hb hby at_87) rfl ?_
      show Steps p.tables e below (T23.setTop (mkF m 88 #[.val (.long q1), .second, .val (.long q2), .second, .val (.long q3), .second, .val (.int p4), .val (.int (3 : Int32)), .val (.ref b1), .val (.ref b5)] [])) _
      refine XS.aload X23.here hx rfl (hb hby at_88) rfl rfl ?_
      show Steps p.tables e below (T23.setTop (mkF m 90 #[.val (.long q1), .second, .val (.long q2), .second, .val (.long q3), .second, .val (.int p4), .val (.int (3 : Int32)), .val (.ref b1), .val (.ref b5)] [(.ref b1)])) _
      exact st24
    have Y24 : n0 ≤ T24.heap.size := Nat.le_trans Y23 K24.1
    have V24 := E23.keep K24
    have VF24 := F23.keep K24 (ninS nb.symm nin0)
    have VG24 := G23.keep K24 (ninS nb.symm nin0)
    obtain ⟨cq25, kq25, q25a, q25b, q25c⟩ := isOf hZ rfl V24
    obtain ⟨_, _, ⟨T25, L25, k25, n25⟩, -, X25, ⟨Lc25, hQ25, l25, y25, z25⟩, st25⟩ := X24.virtualBack hx (y := (⟨"org/dicecaster/generator/SplitMix64", "nextLong", "()J"⟩ : MethodName)) (z := (⟨"org/dicecaster/generator/SplitMix64", "nextLong", "()J"⟩ : MethodName)) hown (mvT hZ (hw _ (List.mem_of_getElem? (i := 27) rfl))) (mvT hZ (hw _ (List.mem_of_getElem? (i := 28) rfl))) (notFace_of_selects (args := #[]) (mvT hZ (hw _ (List.mem_of_getElem? (i := 30) rfl)))) (mvT hZ (hw _ (List.mem_of_getElem? (i := 30) rfl))) (mvT hZ (hw _ (List.mem_of_getElem? (i := 29) rfl))) (by decide) (backOf (W := 2) (rm6 l Z a0 hw [] b5 ((((q1 + (((q2 + q3) - ((3 : Int32).toInt64)) * (-7046029254386353131 : Int64))) + (-7046029254386353131 : Int64)) + (-7046029254386353131 : Int64)) + (-7046029254386353131 : Int64)) (-7046029254386353131 : Int64) T24.heap n0 Y24 V24 VF24 VG24 gg5) hZ (hw _ (List.mem_of_getElem? (i := 31) rfl)) (hw _ (List.mem_of_getElem? (i := 2) rfl)) (by decide) (by decide)) q25a q25c (g := (mkF m 95 #[.val (.long q1), .second, .val (.long q2), .second, .val (.long q3), .second, .val (.int p4), .val (.int (3 : Int32)), .val (.ref b1), .val (.ref b5)] [(.ref b5), (.long (own_mix (((q1 + (q2 * (-7046029254386353131 : Int64))) + (q3 * (-7046029254386353131 : Int64))) + (-7046029254386353131 : Int64))))])) rfl (by rw [hml]; rfl) (Steps.refl _) (argsL := []) (rest := [(.long (own_mix (((q1 + (q2 * (-7046029254386353131 : Int64))) + (q3 * (-7046029254386353131 : Int64))) + (-7046029254386353131 : Int64))))]) (lenOf pd_3 rfl) rfl (by show 2 * 0 + _ ≤ _; exact Nat.le_of_eq rfl) (hb hby at_95) (fun _ _ => ⟨rfl, rfl, (by decide : 2 + 0 ≤ _), (by decide : 4 + 0 ≤ _)⟩)
    dsimp only [Pt.U, Pt.locs, Pt.cells, Pt.slots] at X25 l25 y25 z25 st25 hQ25
    subst l25 y25 z25
    obtain ⟨rfl, M25, K25, E25, F25, G25⟩ := hQ25
    have N25 := Fr.app N24 M25
    have pre25 : Steps p.tables e below (s₁.setTop (entryFrame m #[(.long q1), (.long q2), (.long q3), (.int p4)] maxLocals)) (T25.setTop (mkF m 98 #[.val (.long q1), .second, .val (.long q2), .second, .val (.long q3), .second, .val (.int p4), .val (.int (3 : Int32)), .val (.ref b1), .val (.ref b5)] [(.long (own_mix (((((q1 + (((q2 + q3) - ((3 : Int32).toInt64)) * (-7046029254386353131 : Int64))) + (-7046029254386353131 : Int64)) + (-7046029254386353131 : Int64)) + (-7046029254386353131 : Int64)) + (-7046029254386353131 : Int64)))), (.long (own_mix (((q1 + (q2 * (-7046029254386353131 : Int64))) + (q3 * (-7046029254386353131 : Int64))) + (-7046029254386353131 : Int64))))])) := by
      refine pre24.trans ?_
      refine XS.aload X24.here hx rfl (hb hby at_93) rfl rfl ?_
      show Steps p.tables e below (T24.setTop (mkF m 95 #[.val (.long q1), .second, .val (.long q2), .second, .val (.long q3), .second, .val (.int p4), .val (.int (3 : Int32)), .val (.ref b1), .val (.ref b5)] [(.ref b5), (.long (own_mix (((q1 + (q2 * (-7046029254386353131 : Int64))) + (q3 * (-7046029254386353131 : Int64))) + (-7046029254386353131 : Int64))))])) _
      exact st25
    have Y25 : n0 ≤ T25.heap.size := Nat.le_trans Y24 K25.1
    have V25 := E24.keep K25
    have VF25 := F24.keep K25 (ninS nb nin0)
    have VG25 := G24.keep K25 (ninS nb nin0)
    have heq : (((q1 + (q2 * (-7046029254386353131 : Int64))) + (q3 * (-7046029254386353131 : Int64))) + (-7046029254386353131 : Int64)) = (((((q1 + (((q2 + q3) - ((3 : Int32).toInt64)) * (-7046029254386353131 : Int64))) + (-7046029254386353131 : Int64)) + (-7046029254386353131 : Int64)) + (-7046029254386353131 : Int64)) + (-7046029254386353131 : Int64)) := own_alg3 q1 q2 q3 (-7046029254386353131 : Int64)
    obtain ⟨fs, hr, hrun, hended, hW, hsame⟩ := X25.leave (v := some (.int (1 : Int32))) (fun h => by rw [Bd.returns] at h; cases h)
    refine ⟨_, _, pre25.trans ?_, hrun, hended, _, _, rfl, ?_, ⟨_, rfl⟩, hW, hsame.mono (by decide) (by decide)⟩
    · skip
      refine XS.lcmp X25.here hx rfl (hb hby at_98) rfl ?_
      show Steps p.tables e below (T25.setTop (mkF m 99 #[.val (.long q1), .second, .val (.long q2), .second, .val (.long q3), .second, .val (.int p4), .val (.int (3 : Int32)), .val (.ref b1), .val (.ref b5)] [(.int (lcmpW (own_mix (((q1 + (q2 * (-7046029254386353131 : Int64))) + (q3 * (-7046029254386353131 : Int64))) + (-7046029254386353131 : Int64))) (own_mix (((((q1 + (((q2 + q3) - ((3 : Int32).toInt64)) * (-7046029254386353131 : Int64))) + (-7046029254386353131 : Int64)) + (-7046029254386353131 : Int64)) + (-7046029254386353131 : Int64)) + (-7046029254386353131 : Int64)))))])) _
      refine XS.ifNo X25.here hx rfl (hb hby at_99) rfl ((if0 _ _).trans (teq ((lw_eq _ _).mpr (congrArg own_mix heq))).2) ?_
      show Steps p.tables e below (T25.setTop (mkF m 102 #[.val (.long q1), .second, .val (.long q2), .second, .val (.long q3), .second, .val (.int p4), .val (.int (3 : Int32)), .val (.ref b1), .val (.ref b5)] [])) _
      refine XS.iconst X25.here hx rfl (hb hby at_102) ?_
      show Steps p.tables e below (T25.setTop (mkF m 103 #[.val (.long q1), .second, .val (.long q2), .second, .val (.long q3), .second, .val (.int p4), .val (.int (3 : Int32)), .val (.ref b1), .val (.ref b5)] [(.int (1 : Int32))])) _
      refine XS.goto X25.here hx rfl (pc0 := 103) (pc' := 107) rfl (hb hby at_103) (by decide) (by decide) ?_
      show Steps p.tables e below (T25.setTop (mkF m 107 #[.val (.long q1), .second, .val (.long q2), .second, .val (.long q3), .second, .val (.int p4), .val (.int (3 : Int32)), .val (.ref b1), .val (.ref b5)] [(.int (1 : Int32))])) _
      exact retN X25 hx (t := .boolean) Bd.returns (by simp) (hb hby at_107) hr
    · show Q0 Z q1 q2 q3 p4  h0 n0 _ T25.heap _
      exact ⟨rfl, N25⟩
set_option maxRecDepth 65536 in
set_option maxHeartbeats 40000000 in
theorem comes_1 {Post : Tables → Env → Array Value → State → Outcome → State → Prop} (hpost : ∀ tb e args s v u, (limb_1_1.after args s (.returned v) u = true ∧ limb_1_2.after args s (.returned v) u = true ∧ True) → FrameEnd s (.returned v) u (Jvm.fieldLocs frame_1_writes args s ++ Jvm.arrayLocs frame_1_arrays args s ++ Jvm.staticLocs frame_1_statics s) 16 128 → Post tb e args s (.returned v) u) :
    ArmFor flags0 classFile x code maxLocals ret World_1 tables_1 room_1 Calls_1 rest_1 Pre_1 Post := by
  intro l hfl _ _ p e ha hc hk s m args below hf hA hF happ hP
  obtain ⟨hcalls, hrest, hpre⟩ := hP
  obtain ⟨-, -, -, hnamed, -, -, -, hat⟩ := (Spec.applies_iff hf).mp happ
  obtain ⟨hg, hn⟩ := and_e (Cond.before_iff.mp (show (Jvm.Cond.and given_1 narrow_1).before args s = true from hpre))
  obtain ⟨u0, r0⟩ := and_e hg
  obtain ⟨c0, r1⟩ := and_e r0
  obtain ⟨c1, r2⟩ := and_e r1
  obtain ⟨c2, r3⟩ := and_e r2
  obtain ⟨w0, w1, w2, w3, rfl⟩ : ∃ w0 w1 w2 w3 : Value, args = #[w0, w1, w2, w3] := by
    have hs : args.size = 4 := by simpa [Cond.value, given_1] using u0
    obtain ⟨L⟩ := args
    match L, hs with
    | [w0, w1, w2, w3], _ => exact ⟨w0, w1, w2, w3, rfl⟩
  have hw := fun d (hd : d ∈ tables_1) => atoms_spec (ws := Jvm.Cond.code x code maxLocals ret :: tables_1) hat d (List.mem_cons_of_mem _ hd)
  obtain ⟨i0, ei0⟩ := isL_v c0
  obtain rfl : w0 = (.long i0) := Option.some.inj ei0
  obtain ⟨i1, ei1⟩ := isL_v c1
  obtain rfl : w1 = (.long i1) := Option.some.inj ei1
  obtain ⟨i2, ei2⟩ := isL_v c2
  obtain rfl : w2 = (.long i2) := Option.some.inj ei2
  obtain ⟨i3, ei3⟩ := is_v r3
  obtain rfl : w3 = (.int i3) := Option.some.inj ei3
  obtain ⟨n, o, h1, h2, h3, _, L, rfl, ⟨rfl, N⟩, hq⟩ := rm0 l s _ hw tables_1 i0 i1 i2 i3 s.heap s.heap.size (Nat.le_refl _) p e ha hc hk s m _ below hf ((Spec.applies_iff_loose hf).mp happ).1 ⟨rfl, State.Warmed39.refl s, rfl⟩ trivial
  refine ⟨n, _, h1, h2, h3, hpost _ _ _ _ _ _ ⟨Cond.after_iff.mpr rfl, Cond.after_iff.mpr (eq_i res_at (Term.int_eval (1)) rfl), trivial⟩ ⟨hq.1, hq.2.1, (hq.2.2.sift fun y hy => Or.inr (N y hy)).mono (by decide) (by decide)⟩⟩
theorem main_1_1 : Claimed_1_1 := comes_1 fun _ _ _ _ _ _ h hF => ⟨h.1, hF⟩
theorem main_1_2 : Claimed_1_2 := comes_1 fun _ _ _ _ _ _ h hF => ⟨h.2.1, hF⟩
end Jvm.Pilot.@@N@@
namespace Jvm.Pilot.@@N@@
open Jvm Jvm.ClassFile Sem Op Lib Jvm.Free Jvm.Stand Jvm.Pilot.@@N@@.Jvm.D
/-! MADE BY PROGRAM (witnessworld.py) out of the Statement's table words and the real class files: 14 classes; the members and pool entries that the words name. The judged class is class 1, her method 1. -/
namespace start1
open Jvm.ClassFile
def u (s : String) : CpInfo := .utf8 (stringToUtf16 s)
/-- a pool by its gaps: so many unusable entries, then the entry; so many at the end -/
def gap : Nat → List CpInfo → List CpInfo
  | 0, r => r
  | n + 1, r => .unusable :: gap n r
def poolList (es : List (Nat × CpInfo)) (last : Nat) : List CpInfo := es.foldr (fun e r => gap e.1 (e.2 :: r)) (gap last [])
def pool (es : List (Nat × CpInfo)) (last : Nat) : Array CpInfo := ⟨poolList es last⟩
def fileOf (pool : Array CpInfo) (this : Nat) (attrs : Array Attribute := #[]) (ms : Array MethodInfo := #[]) (fl : Nat := 33) (sup : Nat := 0) (ifs : Array Nat := #[]) (fds : Array FieldInfo := #[]) : ClassFile where
  minorVersion := 0
  majorVersion := 65
  constantPool := pool
  accessFlags := fl
  thisClass := this
  superClass := sup
  interfaces := ifs
  fields := fds
  methods := ms
  attributes := attrs
def plain (name : String) (sup : Option ClassId) : Class where
  name := name
  kind := .ordinary
  loader := none
  accessFlags := 33
  super := sup
  interfaces := #[]
  cf := none
  fields := #[]
  methods := #[]
  instanceTypes := #[]
  staticTypes := #[]
  resolved := #[]
  callSites := []
  init := .initialized
  statics := none
  mirror := none

def pool0 : Array CpInfo := pool [(5, u "<init>"), (0, u "()V"), (1, .class_ 10), (1, u "java/lang/Object")] 113

def k0c0 : Code := { maxStack := 0, maxLocals := 1, code := object_method_1_code, exceptionTable := #[], attributes := #[] }
def k0m0 : Method := { name := "<init>", desc := "()V", sig := { parameters := [], returnType := none }, accessFlags := 1, code := some k0c0 }
/-- java/lang/Object -/
def k0 : Class := { plain "java/lang/Object" none with
  accessFlags := 33
  interfaces := #[]
  cf := some (fileOf pool0 8 #[] #[{ accessFlags := 1, nameIndex := 5, descriptorIndex := 6, attributes := #[] }] 33 0 #[] #[])
  fields := #[]
  methods := #[k0m0]
  instanceTypes := #[]
  staticTypes := #[]
  resolved := Array.replicate 124 none
  statics := none }

def pool1 : Array CpInfo := pool [(2, .class_ 4), (1, u "java/lang/Object"), (0, u "<init>"), (0, u "()V"), (0, .class_ 8), (0, u "org/dicecaster/generator/SplitMix64"), (0, .methodref 7 10), (0, .nameAndType 5 11), (0, u "(J)V"), (0, .methodref 7 13), (0, .nameAndType 14 11), (0, u "advance"), (0, .methodref 7 16), (0, .nameAndType 17 18), (0, u "nextLong"), (0, u "()J"), (0, .class_ 20), (0, u "org/dicecaster/generator/SplitMix64AdvancePinLaw"), (2, u "law"), (0, u "(JJJI)Z")] 3

def k1m0 : Method := { name := "<init>", desc := "()V", sig := { parameters := [], returnType := none }, accessFlags := 1, code := none }
def k1c1 : Code := { maxStack := 5, maxLocals := 10, code := code, exceptionTable := #[], attributes := #[] }
def k1m1 : Method := { name := "law", desc := "(JJJI)Z", sig := { parameters := [.long, .long, .long, .int], returnType := some .boolean }, accessFlags := 9, code := some k1c1 }
/-- org/dicecaster/generator/SplitMix64AdvancePinLaw -/
def k1 : Class := { plain "org/dicecaster/generator/SplitMix64AdvancePinLaw" (some 0) with
  accessFlags := 49
  interfaces := #[]
  cf := some (fileOf pool1 19 #[] #[{ accessFlags := 1, nameIndex := 5, descriptorIndex := 6, attributes := #[] }, { accessFlags := 9, nameIndex := 23, descriptorIndex := 24, attributes := #[] }] 49 2 #[] #[])
  fields := #[]
  methods := #[k1m0, k1m1]
  instanceTypes := #[]
  staticTypes := #[]
  resolved := Array.replicate 28 none
  statics := none }

def pool2 : Array CpInfo := pool [(7, .class_ 8), (0, u "java/util/random/RandomGenerator"), (199, .class_ 209), (0, u "java/lang/Object"), (52, .class_ 263), (0, u "java/util/random/RandomGenerator$ArbitrarilyJumpableGenerator"), (0, .class_ 265), (0, u "java/util/random/RandomGenerator$LeapableGenerator"), (0, .class_ 267), (0, u "java/util/random/RandomGenerator$JumpableGenerator"), (0, .class_ 269), (0, u "java/util/random/RandomGenerator$SplittableGenerator"), (0, .class_ 271), (0, u "java/util/random/RandomGenerator$StreamableGenerator")] 36

/-- java/util/random/RandomGenerator -/
def k2 : Class := { plain "java/util/random/RandomGenerator" (some 0) with
  accessFlags := 1537
  interfaces := #[]
  cf := some (fileOf pool2 7 #[.nestMembers #[262, 264, 266, 268, 270]] #[] 1537 208 #[] #[])
  fields := #[]
  methods := #[]
  instanceTypes := #[]
  staticTypes := #[]
  resolved := Array.replicate 308 none
  statics := none }

def pool3 : Array CpInfo := pool [(1, .methodref 2 3), (0, .class_ 4), (0, .nameAndType 5 6), (0, u "java/lang/Object"), (0, u "<init>"), (0, u "()V"), (1, .class_ 10), (1, u "org/dicecaster/generator/AbstractGenerator"), (219, .class_ 231), (0, u "java/util/random/RandomGenerator"), (0, u "DOUBLE_UNIT"), (0, u "D"), (1, u "FLOAT_UNIT"), (0, u "F"), (0, u "EMPTY_RANGE"), (0, u "Ljava/lang/String;"), (0, u "SMALL_LONG_RANGE"), (0, u "J")] 89

def k3c0 : Code := { maxStack := 1, maxLocals := 1, code := prog_29_method_1_code, exceptionTable := #[], attributes := #[] }
def k3m0 : Method := { name := "<init>", desc := "()V", sig := { parameters := [], returnType := none }, accessFlags := 0, code := some k3c0 }
/-- org/dicecaster/generator/AbstractGenerator -/
def k3 : Class := { plain "org/dicecaster/generator/AbstractGenerator" (some 0) with
  accessFlags := 1056
  interfaces := #[2]
  cf := some (fileOf pool3 8 #[] #[{ accessFlags := 0, nameIndex := 5, descriptorIndex := 6, attributes := #[] }] 1056 2 #[230] #[{ accessFlags := 26, nameIndex := 232, descriptorIndex := 233, attributes := #[] }, { accessFlags := 26, nameIndex := 235, descriptorIndex := 236, attributes := #[] }, { accessFlags := 26, nameIndex := 237, descriptorIndex := 238, attributes := #[] }, { accessFlags := 26, nameIndex := 239, descriptorIndex := 240, attributes := #[] }])
  fields := #[{ name := "DOUBLE_UNIT", type := .double, accessFlags := 26, slot := 0, constantValue := 0 }, { name := "FLOAT_UNIT", type := .float, accessFlags := 26, slot := 1, constantValue := 0 }, { name := "EMPTY_RANGE", type := (.object "java/lang/String"), accessFlags := 26, slot := 2, constantValue := 0 }, { name := "SMALL_LONG_RANGE", type := .long, accessFlags := 26, slot := 3, constantValue := 0 }]
  methods := #[k3m0]
  instanceTypes := #[]
  staticTypes := #[.double, .float, (.object "java/lang/String"), .long]
  resolved := Array.replicate 330 none
  statics := none }

def pool4 : Array CpInfo := pool [(1, .class_ 2), (0, u "org/dicecaster/generator/AdvanceableGenerator"), (0, .class_ 4), (0, u "java/lang/Object"), (0, .class_ 6), (0, u "java/util/random/RandomGenerator")] 4

/-- org/dicecaster/generator/AdvanceableGenerator -/
def k4 : Class := { plain "org/dicecaster/generator/AdvanceableGenerator" (some 0) with
  accessFlags := 1537
  interfaces := #[2]
  cf := some (fileOf pool4 1 #[] #[] 1537 3 #[5] #[])
  fields := #[]
  methods := #[]
  instanceTypes := #[]
  staticTypes := #[]
  resolved := Array.replicate 11 none
  statics := none }

def pool5 : Array CpInfo := pool [(7, .class_ 8), (0, u "java/util/random/RandomGenerator$StreamableGenerator"), (22, .class_ 32), (0, u "java/lang/Object"), (0, .class_ 34), (0, u "java/util/random/RandomGenerator")] 18

/-- java/util/random/RandomGenerator$StreamableGenerator -/
def k5 : Class := { plain "java/util/random/RandomGenerator$StreamableGenerator" (some 0) with
  accessFlags := 1537
  interfaces := #[2]
  cf := some (fileOf pool5 7 #[.nestHost 33] #[] 1537 31 #[33] #[])
  fields := #[]
  methods := #[]
  instanceTypes := #[]
  staticTypes := #[]
  resolved := Array.replicate 53 none
  statics := none }

def pool6 : Array CpInfo := pool [(7, .class_ 8), (0, u "java/util/random/RandomGenerator$SplittableGenerator"), (27, .class_ 37), (0, u "java/lang/Object"), (0, .class_ 39), (0, u "java/util/random/RandomGenerator$StreamableGenerator"), (29, .class_ 70), (0, u "java/util/random/RandomGenerator")] 24

/-- java/util/random/RandomGenerator$SplittableGenerator -/
def k6 : Class := { plain "java/util/random/RandomGenerator$SplittableGenerator" (some 0) with
  accessFlags := 1537
  interfaces := #[5]
  cf := some (fileOf pool6 7 #[.nestHost 69] #[] 1537 36 #[38] #[])
  fields := #[]
  methods := #[]
  instanceTypes := #[]
  staticTypes := #[]
  resolved := Array.replicate 95 none
  statics := none }

def pool7 : Array CpInfo := pool [(1, .class_ 2), (0, u "org/dicecaster/generator/SplitMix64"), (0, .long 11400714819323198485), (1, .methodref 1 6), (0, .nameAndType 7 8), (0, u "<init>"), (0, u "(JJ)V"), (0, .methodref 10 11), (0, .class_ 12), (0, .nameAndType 7 13), (0, u "org/dicecaster/generator/AbstractGenerator"), (0, u "()V"), (0, .fieldref 1 15), (0, .nameAndType 16 17), (0, u "state"), (0, u "J"), (0, .fieldref 1 19), (0, .nameAndType 20 17), (0, u "gamma"), (0, .long 13787848793156543929), (1, .long 10723151780598845931), (3, u "advance"), (0, u "(J)V"), (2, u "nextLong"), (0, u "()J"), (5, .class_ 39), (0, u "java/util/random/RandomGenerator$SplittableGenerator"), (70, .class_ 111), (0, u "org/dicecaster/generator/AdvanceableGenerator"), (0, u "GOLDEN_GAMMA"), (1, u "LEAST_GAMMA_CHANGES"), (0, u "I")] 46

def k7c0 : Code := { maxStack := 5, maxLocals := 3, code := prog_43_method_1_code, exceptionTable := #[], attributes := #[] }
def k7m0 : Method := { name := "<init>", desc := "(J)V", sig := { parameters := [.long], returnType := none }, accessFlags := 1, code := some k7c0 }
def k7c1 : Code := { maxStack := 3, maxLocals := 5, code := prog_43_method_2_code, exceptionTable := #[], attributes := #[] }
def k7m1 : Method := { name := "<init>", desc := "(JJ)V", sig := { parameters := [.long, .long], returnType := none }, accessFlags := 2, code := some k7c1 }
def k7c2 : Code := { maxStack := 5, maxLocals := 3, code := prog_43_method_3_code, exceptionTable := #[], attributes := #[] }
def k7m2 : Method := { name := "nextLong", desc := "()J", sig := { parameters := [], returnType := some .long }, accessFlags := 1, code := some k7c2 }
def k7c3 : Code := { maxStack := 7, maxLocals := 3, code := prog_43_method_4_code, exceptionTable := #[], attributes := #[] }
def k7m3 : Method := { name := "advance", desc := "(J)V", sig := { parameters := [.long], returnType := none }, accessFlags := 1, code := some k7c3 }
/-- org/dicecaster/generator/SplitMix64 -/
def k7 : Class := { plain "org/dicecaster/generator/SplitMix64" (some 3) with
  accessFlags := 49
  interfaces := #[4, 6]
  cf := some (fileOf pool7 1 #[] #[{ accessFlags := 1, nameIndex := 7, descriptorIndex := 28, attributes := #[] }, { accessFlags := 2, nameIndex := 7, descriptorIndex := 8, attributes := #[] }, { accessFlags := 1, nameIndex := 31, descriptorIndex := 32, attributes := #[] }, { accessFlags := 1, nameIndex := 27, descriptorIndex := 28, attributes := #[] }] 49 10 #[110, 38] #[{ accessFlags := 26, nameIndex := 112, descriptorIndex := 17, attributes := #[] }, { accessFlags := 26, nameIndex := 114, descriptorIndex := 115, attributes := #[] }, { accessFlags := 18, nameIndex := 20, descriptorIndex := 17, attributes := #[] }, { accessFlags := 2, nameIndex := 16, descriptorIndex := 17, attributes := #[] }])
  fields := #[{ name := "GOLDEN_GAMMA", type := .long, accessFlags := 26, slot := 0, constantValue := 0 }, { name := "LEAST_GAMMA_CHANGES", type := .int, accessFlags := 26, slot := 1, constantValue := 0 }, { name := "gamma", type := .long, accessFlags := 18, slot := 0, constantValue := 0 }, { name := "state", type := .long, accessFlags := 2, slot := 1, constantValue := 0 }]
  methods := #[k7m0, k7m1, k7m2, k7m3]
  instanceTypes := #[.long, .long]
  staticTypes := #[.long, .int]
  resolved := Array.replicate 162 none
  statics := none }

def pool8 : Array CpInfo := pool [(1, u "java/lang/Cloneable"), (0, .class_ 1), (0, u "java/lang/Object"), (0, .class_ 3)] 3

/-- java/lang/Cloneable -/
def k8 : Class := { plain "java/lang/Cloneable" (some 0) with
  accessFlags := 1537
  interfaces := #[]
  cf := some (fileOf pool8 2 #[] #[] 1537 4 #[] #[])
  fields := #[]
  methods := #[]
  instanceTypes := #[]
  staticTypes := #[]
  resolved := Array.replicate 8 none
  statics := none }

def pool9 : Array CpInfo := pool [(1, u "java/io/Serializable"), (0, .class_ 1), (0, u "java/lang/Object"), (0, .class_ 3)] 3

/-- java/io/Serializable -/
def k9 : Class := { plain "java/io/Serializable" (some 0) with
  accessFlags := 1537
  interfaces := #[]
  cf := some (fileOf pool9 2 #[] #[] 1537 4 #[] #[])
  fields := #[]
  methods := #[]
  instanceTypes := #[]
  staticTypes := #[]
  resolved := Array.replicate 8 none
  statics := none }

/-- the primitive byte -/
def k10 : Class := { plain "byte" none with kind := .primitive 'B', accessFlags := 0x411 }
/-- [B -/
def k11 : Class := { plain "[B" (some 0) with kind := .array 10 .byte, interfaces := #[8, 9], accessFlags := 1041 }

/-- the primitive int -/
def k12 : Class := { plain "int" none with kind := .primitive 'I', accessFlags := 0x411 }
/-- [I -/
def k13 : Class := { plain "[I" (some 0) with kind := .array 12 .int, interfaces := #[8, 9], accessFlags := 1041 }

def heap : Heap := #[]
def classes : Array Class := #[k0, k1, k2, k3, k4, k5, k6, k7, k8, k9, k10, k11, k12, k13]
def interned : List (Array UInt16 × Addr) := []
def slotsUsed : Nat := 0
def theMethod : MethodId := ⟨1, 1⟩
def args0 : Array Value := #[.long 1, .long 2, .long 3, .int 1]
def aboutOver (below : List Frame) : State where
  vm := { classes := classes, interned := interned.toArray }
  heap := heap
  slotsUsed := slotsUsed
  threads := #[{ frames := .invoking theMethod args0 :: below }]
def below0 : List Frame := [.native { method := ⟨0, 0⟩, args := #[] }]
def about1 : State := aboutOver below0
def p0 : Program := .bare "" "" ""
def e0 : Env := launch0.env 0 0 0
theorem w_frames : about1.frames = Frame.invoking theMethod args0 :: below0 := rfl
set_option maxRecDepth 65536 in
theorem w_args : argsFit about1.vm theMethod args0 = true := by decide +kernel
set_option maxRecDepth 65536 in
theorem w_heap : heapFits about1 = true := by decide +kernel
set_option maxRecDepth 65536 in
theorem w_runnable : about1.curStatus? = some .runnable := by decide +kernel
set_option maxRecDepth 65536 in
theorem w_alone : about1.alone = true := by decide +kernel
set_option maxRecDepth 65536 in
theorem w_named : about1.methodNamed? x = some theMethod := by decide +kernel
set_option maxRecDepth 65536 in
theorem w_hears : about1.hears theMethod below0 = true := by decide +kernel
set_option maxRecDepth 65536 in
theorem w_ripe : about1.ripe theMethod args0 below0 = true := by decide +kernel
theorem w_running : about1.status = .running := rfl
set_option maxRecDepth 65536 in
theorem w_room : about1.hasRoom e0.platform room_1 = true :=
  launch0.hasRoom_least _ room_1 (by decide +kernel) (by decide +kernel) (by decide +kernel) (by decide +kernel) (by decide +kernel) (by decide +kernel)
theorem allAtoms_all (ts : List Jvm.Cond) (a : Array Jvm.Value) (st : Jvm.State) : (allAtoms ts).before a st = ts.all (fun c => c.before a st) := by
  induction ts with
  | nil => rfl
  | cons c t ih =>
    show (Jvm.Cond.and c (allAtoms t)).before a st = _
    rw [Jvm.Cond.before_and, ih, List.all_cons]
def words1 : List Jvm.Cond := Jvm.Cond.code x code maxLocals ret :: tables_1
/-- a 'code' word, met by the world's own term for the bytes: nothing is compared byte by byte -/
theorem code_word {y : MethodName} {bytes : ByteArray} {mx : Nat} {rt : Option FieldType} {a : Array Value} {s : State} {m : MethodId} {meth : Method} {c : Code} (h1 : s.methodNamed? y = some m) (h2 : s.vm.method? m = some meth) (h3 : meth.code = some c) (h4 : c.code = bytes)
    (h5 : (c.maxLocals == mx && c.exceptionTable.isEmpty && decide (c.maxStack ≤ mostOperands) && decide (meth.sig.returnType = rt) && !meth.locks && decide (parseMethodDescriptor y.desc = some meth.sig)) = true) : (Jvm.Cond.code y bytes mx rt).before a s = true := by
  simp only [Bool.and_eq_true, beq_iff_eq, Bool.not_eq_true', decide_eq_true_eq] at h5
  obtain ⟨⟨⟨⟨⟨g1, g2⟩, g3⟩, g4⟩, g5⟩, g6⟩ := h5
  simp [Cond.before, Cond.holds, Cond.value, h1, h2, h3, h4, g1, g2, g3, g4, g5, g6]
def isCode : Jvm.Cond → Bool
  | .code _ _ _ _ => true
  | _ => false
theorem all_split {L : List Jvm.Cond} {P : Jvm.Cond → Bool} (h1 : L.all (fun c => isCode c || P c) = true) (h2 : ∀ c ∈ L.filter isCode, P c = true) : L.all P = true := by
  refine List.all_eq_true.mpr fun c hc => ?_
  have h := List.all_eq_true.mp h1 c hc
  rcases Bool.eq_false_or_eq_true (isCode c) with hi | hi
  · exact h2 c (List.mem_filter.mpr ⟨hc, hi⟩)
  · simpa [hi] using h
set_option maxRecDepth 65536 in
theorem w_c0 : (Jvm.Cond.code x code maxLocals ret).before args0 about1 = true := code_word (m := ⟨1, 1⟩) (meth := k1m1) (c := k1c1) (by decide +kernel) rfl rfl rfl (by decide +kernel)
set_option maxRecDepth 65536 in
theorem w_c1 : (Jvm.Cond.code ({ cls := "org/dicecaster/generator/SplitMix64", name := "<init>", desc := "(J)V" } : Jvm.MethodName) prog_43_method_1_code (3 : Nat) (Option.none : Option Jvm.ClassFile.FieldType)).before args0 about1 = true := code_word (m := ⟨7, 0⟩) (meth := k7m0) (c := k7c0) (by decide +kernel) rfl rfl rfl (by decide +kernel)
set_option maxRecDepth 65536 in
theorem w_c2 : (Jvm.Cond.code ({ cls := "org/dicecaster/generator/SplitMix64", name := "<init>", desc := "(JJ)V" } : Jvm.MethodName) prog_43_method_2_code (5 : Nat) (Option.none : Option Jvm.ClassFile.FieldType)).before args0 about1 = true := code_word (m := ⟨7, 1⟩) (meth := k7m1) (c := k7c1) (by decide +kernel) rfl rfl rfl (by decide +kernel)
set_option maxRecDepth 65536 in
theorem w_c3 : (Jvm.Cond.code ({ cls := "org/dicecaster/generator/AbstractGenerator", name := "<init>", desc := "()V" } : Jvm.MethodName) prog_29_method_1_code (1 : Nat) (Option.none : Option Jvm.ClassFile.FieldType)).before args0 about1 = true := code_word (m := ⟨3, 0⟩) (meth := k3m0) (c := k3c0) (by decide +kernel) rfl rfl rfl (by decide +kernel)
set_option maxRecDepth 65536 in
theorem w_c4 : (Jvm.Cond.code ({ cls := "java/lang/Object", name := "<init>", desc := "()V" } : Jvm.MethodName) object_method_1_code (1 : Nat) (Option.none : Option Jvm.ClassFile.FieldType)).before args0 about1 = true := code_word (m := ⟨0, 0⟩) (meth := k0m0) (c := k0c0) (by decide +kernel) rfl rfl rfl (by decide +kernel)
set_option maxRecDepth 65536 in
theorem w_c5 : (Jvm.Cond.code ({ cls := "org/dicecaster/generator/SplitMix64", name := "advance", desc := "(J)V" } : Jvm.MethodName) prog_43_method_4_code (3 : Nat) (Option.none : Option Jvm.ClassFile.FieldType)).before args0 about1 = true := code_word (m := ⟨7, 3⟩) (meth := k7m3) (c := k7c3) (by decide +kernel) rfl rfl rfl (by decide +kernel)
set_option maxRecDepth 65536 in
theorem w_c6 : (Jvm.Cond.code ({ cls := "org/dicecaster/generator/SplitMix64", name := "nextLong", desc := "()J" } : Jvm.MethodName) prog_43_method_3_code (3 : Nat) (Option.some Jvm.ClassFile.FieldType.long)).before args0 about1 = true := code_word (m := ⟨7, 2⟩) (meth := k7m2) (c := k7c2) (by decide +kernel) rfl rfl rfl (by decide +kernel)
def codes1 : List Jvm.Cond := [Jvm.Cond.code x code maxLocals ret, Jvm.Cond.code ({ cls := "org/dicecaster/generator/SplitMix64", name := "<init>", desc := "(J)V" } : Jvm.MethodName) prog_43_method_1_code (3 : Nat) (Option.none : Option Jvm.ClassFile.FieldType), Jvm.Cond.code ({ cls := "org/dicecaster/generator/SplitMix64", name := "<init>", desc := "(JJ)V" } : Jvm.MethodName) prog_43_method_2_code (5 : Nat) (Option.none : Option Jvm.ClassFile.FieldType), Jvm.Cond.code ({ cls := "org/dicecaster/generator/AbstractGenerator", name := "<init>", desc := "()V" } : Jvm.MethodName) prog_29_method_1_code (1 : Nat) (Option.none : Option Jvm.ClassFile.FieldType), Jvm.Cond.code ({ cls := "java/lang/Object", name := "<init>", desc := "()V" } : Jvm.MethodName) object_method_1_code (1 : Nat) (Option.none : Option Jvm.ClassFile.FieldType), Jvm.Cond.code ({ cls := "org/dicecaster/generator/SplitMix64", name := "advance", desc := "(J)V" } : Jvm.MethodName) prog_43_method_4_code (3 : Nat) (Option.none : Option Jvm.ClassFile.FieldType), Jvm.Cond.code ({ cls := "org/dicecaster/generator/SplitMix64", name := "nextLong", desc := "()J" } : Jvm.MethodName) prog_43_method_3_code (3 : Nat) (Option.some Jvm.ClassFile.FieldType.long)]
set_option maxRecDepth 65536 in
theorem codes_eq : words1.filter isCode = codes1 := rfl
theorem w_codes : ∀ c ∈ words1.filter isCode, c.before args0 about1 = true := by
  rw [codes_eq]
  intro c hc
  simp only [codes1, List.mem_cons, List.not_mem_nil, or_false] at hc
  rcases hc with rfl | rfl | rfl | rfl | rfl | rfl | rfl
  · exact w_c0
  · exact w_c1
  · exact w_c2
  · exact w_c3
  · exact w_c4
  · exact w_c5
  · exact w_c6
set_option maxRecDepth 65536 in
theorem w_t1 : (words1.take 24).all (fun c => isCode c || c.before args0 about1) = true := by decide +kernel
set_option maxRecDepth 65536 in
theorem w_t2 : (words1.drop 24).all (fun c => isCode c || c.before args0 about1) = true := by decide +kernel
theorem w_tables : (allAtoms (Jvm.Cond.code x code maxLocals ret :: tables_1)).before args0 about1 = true := by
  rw [allAtoms_all]
  show words1.all (fun c => c.before args0 about1) = true
  refine all_split ?_ w_codes
  rw [← List.take_append_drop 24 words1, List.all_append, w_t1, w_t2]
  rfl
set_option maxRecDepth 65536 in
theorem w_case : (Jvm.Cond.and given_1 narrow_1).before args0 about1 = true := by decide +kernel
theorem w_applies : (headSpec (Jvm.Cond.code x code maxLocals ret :: tables_1) room_1).applies x e0.platform about1 = true :=
  (Spec.applies_iff w_frames).mpr ⟨w_running, w_runnable, w_alone, w_named, w_hears, w_ripe, w_room, w_tables⟩
theorem atStart : AtStart classFile x code maxLocals ret World_1 tables_1 room_1 Calls_1 rest_1 Pre_1 launch0 p0 e0 about1 theMethod args0 below0 :=
  ⟨lists_1, trivial, launch0.admits_env _ _ _, launch0.least_env, fairChoices_fair.cas, fairChoices_fair.clock, w_frames, w_args, w_heap, w_applies, trivial, trivial, w_case⟩
end start1
theorem witness_1 : WitnessClaimed_1 := ⟨start1.p0, start1.e0, start1.about1, start1.theMethod, start1.args0, start1.below0, start1.atStart⟩
end Jvm.Pilot.@@N@@
