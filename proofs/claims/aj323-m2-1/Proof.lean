import JvmDerived
import JvmDerived.Pilot.@@N@@Statement
import JvmDerived.Pilot.@@N@@Code
set_option linter.unusedVariables false
set_option linter.unusedSimpArgs false
namespace Jvm.RoadKit
open Sem ClassFile Op Lib Jvm.Stand Jvm.Free Jvm.LawKit
section New
variable {p : Program} {l : Launch} {e : Env} {R : Room} {s : State} {m : MethodId} {args : Array Value} {below : List Frame} {meth : Method} {c : Code} {T : State} {locs : List Loc} {cells slots : Nat}
theorem retI (X : Stand p l e R s m args below meth c T locs cells slots) (hx : p.tables.exec = Jvm.exec) {pc : Nat} {Ls : Array Slot} {z : Int32} {rest : List Value} (hret : meth.sig.returnType = some .int) (hd : decode c.code pc = .ok (.ireturn, 1)) {fs : List Frame}
    (hl : ∀ (f : JFrame) (acts : List Action), f.method = m → f.locked = none → f.entered = [] → (doReturn e (T.setTop f) acts (some (.int z))).1 = T.setFrames fs) : Steps p.tables e below (T.setTop (mkF m pc Ls (.int z :: rest))) (T.setFrames fs) := by
  have hm' : T.vm.method? m = some meth := X.method'
  have hn : narrow .int (.int z) = .int z := rfl
  show Steps p.tables e below (T.setTop { method := m, pc := pc, locals := Ls, stack := _ :: rest, locked := none }) _
  jvm_step X.here [X.here.top, hx, hd, hm', hret, hn]
  first | (intro acts; rw [hl _ acts rfl rfl rfl]) | rw [hl _ _ rfl rfl rfl]
  exact Steps.refl _
end New
end Jvm.RoadKit
namespace Jvm.Pilot.@@N@@
open Jvm Jvm.ClassFile Sem Op Lib Jvm.Free Jvm.Stand Jvm.LawKit Jvm.RoadKit Bundle Jvm.Pilot.@@N@@.Jvm.D
theorem pd_0 : parseMethodDescriptor "(J)J" = some ⟨[.long], some .long⟩ := by decide +kernel
theorem pd_1 : parseMethodDescriptor "(JI)J" = some ⟨[.long, .int], some .long⟩ := by decide +kernel
def own_align (x : Int64) : Int64 := (x + 7) &&& (-8)
theorem own_n_and (n : Nat) (h : n < 2 ^ 64) : n &&& 18446744073709551608 = 8 * (n / 8) := by
  have h1 : (n &&& 18446744073709551608) / 2 ^ 3 = n / 2 ^ 3 &&& 18446744073709551608 / 2 ^ 3 := Nat.and_div_two_pow
  have h2 : (n &&& 18446744073709551608) % 2 ^ 3 = n % 2 ^ 3 &&& 18446744073709551608 % 2 ^ 3 := Nat.and_mod_two_pow
  have h3 : n / 8 &&& (2 ^ 61 - 1) = n / 8 % 2 ^ 61 := Nat.and_two_pow_sub_one_eq_mod _ _
  have h4 : n % 8 &&& 0 = 0 := Nat.and_zero _
  simp only [Nat.reducePow, Nat.reduceDiv, Nat.reduceMod, Nat.reduceSub] at h h1 h2 h3
  rw [h3] at h1
  rw [h4] at h2
  omega
theorem own_and8 (x : Int64) : (x &&& (-8)).toInt = x.toInt - x.toInt % 8 := by
  have e : (x &&& (-8)).toBitVec.toNat = x.toBitVec.toNat &&& 18446744073709551608 := by rw [Int64.toBitVec_and, BitVec.toNat_and]; rfl
  have b := x.toBitVec.isLt
  rw [own_n_and _ b] at e
  have t1 : x.toInt = if 2 * x.toBitVec.toNat < 2 ^ 64 then (x.toBitVec.toNat : Int) else (x.toBitVec.toNat : Int) - (2 ^ 64 : Nat) := BitVec.toInt_eq_toNat_cond _
  have t2 : (x &&& (-8)).toInt = if 2 * (x &&& (-8)).toBitVec.toNat < 2 ^ 64 then ((x &&& (-8)).toBitVec.toNat : Int) else ((x &&& (-8)).toBitVec.toNat : Int) - (2 ^ 64 : Nat) := BitVec.toInt_eq_toNat_cond _
  generalize (x &&& (-8)).toBitVec.toNat = u at *
  generalize x.toBitVec.toNat = n at *
  rw [t2, t1]
  simp only [Nat.reducePow] at *
  split <;> split <;> omega
theorem own_law (e : Int64) (b : Int32) (need r : Int64) (hn : need = (16 : Int64) + ((e &&& (2147483647 : Int64)) * ((b &&& (255 : Int32)).toInt64))) (hr : r = own_align need) :
    r - (r / 8) * 8 = 0 ∧ ¬ r < need ∧ r - need < 8 := by
  have h1 : (e &&& (2147483647 : Int64)).toInt = e.toInt % (2 ^ 31 : Nat) := c_maskL e 2147483647 31 (by decide) (by decide)
  have h2 : (b &&& (255 : Int32)).toInt = b.toInt % (2 ^ 8 : Nat) := c_mask b 255 8 (by decide) (by decide)
  have h3 := c_i2l (b &&& (255 : Int32))
  have h4 := c_lmul (e &&& (2147483647 : Int64)) ((b &&& (255 : Int32)).toInt64)
  have h5 := c_ladd (16 : Int64) ((e &&& (2147483647 : Int64)) * ((b &&& (255 : Int32)).toInt64))
  rw [← hn] at h5
  have g4 := rng64 ((e &&& (2147483647 : Int64)) * ((b &&& (255 : Int32)).toInt64))
  have g5 := rng64 need
  have h6 := c_ladd need 7
  have g6 := rng64 (need + 7)
  have h7 := own_and8 (need + 7)
  have hr' : r = (need + 7) &&& (-8) := hr
  rw [← hr'] at h7
  have h8 := (c_lrem r 8 8 rfl).1
  have h9 := c_lsub r need
  have g9 := rng64 (r - need)
  rw [h3] at h4
  have m1 : 0 ≤ (e &&& (2147483647 : Int64)).toInt ∧ (e &&& (2147483647 : Int64)).toInt < 2147483648 := by simp only [Nat.reducePow] at h1; omega
  have m2 : 0 ≤ (b &&& (255 : Int32)).toInt ∧ (b &&& (255 : Int32)).toInt < 256 := by simp only [Nat.reducePow] at h2; omega
  have m3 : 0 ≤ (e &&& (2147483647 : Int64)).toInt * (b &&& (255 : Int32)).toInt := Int.mul_nonneg m1.1 m2.1
  have m4 : (e &&& (2147483647 : Int64)).toInt * (b &&& (255 : Int32)).toInt ≤ 2147483648 * 256 := Int.mul_le_mul (by omega) (by omega) m2.1 (by omega)
  simp only [Int64.lt_iff_toInt_lt, ← Int64.toInt_inj, Int64.reduceToInt] at *
  generalize (e &&& (2147483647 : Int64)).toInt * (b &&& (255 : Int32)).toInt = P at *
  generalize ((e &&& (2147483647 : Int64)) * ((b &&& (255 : Int32)).toInt64)).toInt = Q at *
  generalize (need + 7).toInt = A at *
  generalize (r - need).toInt = B at *
  generalize (r - r / 8 * 8).toInt = D at *
  generalize r.toInt = rr at *
  generalize need.toInt = nn at *
  clear hn hr hr' h1 h2 h3 m1 m2
  have hP : Q = P := by omega
  have hnn : nn = 16 + P := by omega
  have hA : A = nn + 7 := by omega
  have hrr : rr = A - A % 8 := by omega
  have hB : B = rr - nn := by omega
  refine ⟨?_, ?_, ?_⟩
  · rw [h8 (by omega)]; omega
  · omega
  · omega
theorem d2_0 : decode prog_50_method_5_code 0 = .ok (.lload_n 0, 1) := by decide +kernel
theorem d2_1 : decode prog_50_method_5_code 1 = .ok (.ldc2_w 33, 3) := by decide +kernel
theorem d2_4 : decode prog_50_method_5_code 4 = .ok (.ladd, 1) := by decide +kernel
theorem d2_5 : decode prog_50_method_5_code 5 = .ok (.ldc2_w 35, 3) := by decide +kernel
theorem d2_8 : decode prog_50_method_5_code 8 = .ok (.land, 1) := by decide +kernel
theorem d2_9 : decode prog_50_method_5_code 9 = .ok (.lreturn, 1) := by decide +kernel
theorem pn_2 : plainName "com/example/patient_relay/patientrelay/queue/HeapBytes" = true := by first | (simp [plainName, overriddenIn]; done) | decide +kernel
theorem ef_2 (m : MethodId) (q1 : Int64) : entryFrame m #[(.long q1)] 2 = (mkF m 0 #[.val (.long q1), .second] []) := by first | (simp [entryFrame, mkF, argsToLocals, Value.category, maxLocals]; done) | rfl
def Q2 (Z : State) (q1 : Int64)  (h0 : Heap) (n0 : Nat) (v : Option Value) (h : Heap) (L : List Loc) : Prop := v = some (.long (own_align q1)) ∧ Fr n0 L ∧ h = h0
set_option maxRecDepth 65536 in
set_option maxHeartbeats 40000000 in
theorem rm2 (l : Launch) (Z : State) (a0 : Array Value) (hw : ∀ d ∈ tables_1, d.before a0 Z = true) (ws : List Jvm.Cond) (q1 : Int64)  (h0 : Heap) (n0 : Nat) (Z0 : n0 ≤ h0.size)  :
    MetFree l (⟨"com/example/patient_relay/patientrelay/queue/HeapBytes", "align", "(J)J"⟩ : MethodName) (head1 (Jvm.Cond.code (⟨"com/example/patient_relay/patientrelay/queue/HeapBytes", "align", "(J)J"⟩ : MethodName) prog_50_method_5_code 2 (some .long) :: ws) ({ frames := 0, cells := 0, slots := 0, locals := 0 } : Room)) (fun a U => a = #[(.long q1)] ∧ Z.Warmed39 U.vm ∧ U.heap = h0) (fun _ _ _ _ _ => True) (fun _ U o U' => ∃ v L, o = .returned v ∧ Q2 Z q1  h0 n0 v U'.heap L ∧ FrameEnd U o U' L ({ frames := 0, cells := 0, slots := 0, locals := 0 } : Room).cells ({ frames := 0, cells := 0, slots := 0, locals := 0 } : Room).slots) := by
  refine MetFree.of_bodySF (plainFor_of_name pn_2) hisR ?_
  intro p e s m args below meth c s₁ Bd hml0 hP hK
  obtain ⟨rfl, hZ, hh⟩ := hP
  have hx := Bd.exec
  have hby := Bd.bytes
  have hml : c.maxLocals = 2 := hml0
  have hown : s.vm.findClass "com/example/patient_relay/patientrelay/queue/HeapBytes" = some m.cls := findClass_of_methodNamed Bd.named
  have hnm := (name_of_methodNamed Bd.named Bd.method).1
  have X0 : Stand p l e ({ frames := 0, cells := 0, slots := 0, locals := 0 } : Room) s m #[(.long q1)] below meth c s₁ [] 0 0 := Stand.of_body Bd
  have e0 : s₁.heap = h0 := by rw [← hh, Bd.state]; rfl
  have N0 := Fr.nil n0
  have pre0 : Steps p.tables e below (s₁.setTop (entryFrame m #[(.long q1)] 2)) (s₁.setTop (mkF m 0 #[.val (.long q1), .second] [])) := castTop (ef_2 m q1) (Steps.refl _)
  obtain ⟨fs, hr, hrun, hended, hW, hsame⟩ := X0.leave (v := some (.long ((q1 + (7 : Int64)) &&& (-8 : Int64)))) (fun h => by rw [Bd.returns] at h; cases h)
  refine ⟨_, _, pre0.trans ?_, hrun, hended, _, _, rfl, ?_, ⟨_, rfl⟩, hW, hsame.mono (by decide) (by decide)⟩
  · skip
    refine XS.lloadN X0.here hx rfl (hb hby d2_0) rfl ?_
    show Steps p.tables e below (s₁.setTop (mkF m 1 #[.val (.long q1), .second] [(.long q1)])) _
    refine X0.ldc2Long hx hown (mvT hZ (hw _ (List.mem_of_getElem? (i := 9) rfl))) (g := (mkF m 1 #[.val (.long q1), .second] [(.long q1)])) rfl (hb hby d2_1) _ ?_
    show Steps p.tables e below (s₁.setTop (mkF m 4 #[.val (.long q1), .second] [(.long (7 : Int64)), (.long q1)])) _
    refine XS.ladd X0.here hx rfl (hb hby d2_4) rfl ?_
    show Steps p.tables e below (s₁.setTop (mkF m 5 #[.val (.long q1), .second] [(.long (q1 + (7 : Int64)))])) _
    refine X0.ldc2Long hx hown (mvT hZ (hw _ (List.mem_of_getElem? (i := 10) rfl))) (g := (mkF m 5 #[.val (.long q1), .second] [(.long (q1 + (7 : Int64)))])) rfl (hb hby d2_5) _ ?_
    show Steps p.tables e below (s₁.setTop (mkF m 8 #[.val (.long q1), .second] [(.long (-8 : Int64)), (.long (q1 + (7 : Int64)))])) _
    refine XS.land X0.here hx rfl (hb hby d2_8) rfl ?_
    show Steps p.tables e below (s₁.setTop (mkF m 9 #[.val (.long q1), .second] [(.long ((q1 + (7 : Int64)) &&& (-8 : Int64)))])) _
    exact X0.lreturnOut hx Bd.returns (hb hby d2_9) hr
  · show Q2 Z q1  h0 n0 _ s₁.heap _
    rw [e0]
    exact ⟨rfl, N0, rfl⟩
theorem d1_0 : decode prog_50_method_3_code 0 = .ok (.ldc2_w 25, 3) := by decide +kernel
theorem d1_3 : decode prog_50_method_3_code 3 = .ok (.lload_n 0, 1) := by decide +kernel
theorem d1_4 : decode prog_50_method_3_code 4 = .ok (.iload_n 2, 1) := by decide +kernel
theorem d1_5 : decode prog_50_method_3_code 5 = .ok (.i2l, 1) := by decide +kernel
theorem d1_6 : decode prog_50_method_3_code 6 = .ok (.lmul, 1) := by decide +kernel
theorem d1_7 : decode prog_50_method_3_code 7 = .ok (.ladd, 1) := by decide +kernel
theorem d1_8 : decode prog_50_method_3_code 8 = .ok (.invokestatic 27, 3) := by decide +kernel
theorem d1_11 : decode prog_50_method_3_code 11 = .ok (.lreturn, 1) := by decide +kernel
theorem ef_1 (m : MethodId) (q1 : Int64) (p2 : Int32) : entryFrame m #[(.long q1), (.int p2)] 3 = (mkF m 0 #[.val (.long q1), .second, .val (.int p2)] []) := by first | (simp [entryFrame, mkF, argsToLocals, Value.category, maxLocals]; done) | rfl
def Q1 (Z : State) (q1 : Int64) (p2 : Int32)  (h0 : Heap) (n0 : Nat) (v : Option Value) (h : Heap) (L : List Loc) : Prop := v = some (.long (own_align ((16 : Int64) + (q1 * (p2.toInt64))))) ∧ Fr n0 L ∧ h = h0
set_option maxRecDepth 65536 in
set_option maxHeartbeats 40000000 in
theorem rm1 (l : Launch) (Z : State) (a0 : Array Value) (hw : ∀ d ∈ tables_1, d.before a0 Z = true) (ws : List Jvm.Cond) (q1 : Int64) (p2 : Int32)  (h0 : Heap) (n0 : Nat) (Z0 : n0 ≤ h0.size)  :
    MetFree l (⟨"com/example/patient_relay/patientrelay/queue/HeapBytes", "array", "(JI)J"⟩ : MethodName) (head1 (Jvm.Cond.code (⟨"com/example/patient_relay/patientrelay/queue/HeapBytes", "array", "(JI)J"⟩ : MethodName) prog_50_method_3_code 3 (some .long) :: ws) ({ frames := 1, cells := 0, slots := 0, locals := 13 } : Room)) (fun a U => a = #[(.long q1), (.int p2)] ∧ Z.Warmed39 U.vm ∧ U.heap = h0) (fun _ _ _ _ _ => True) (fun _ U o U' => ∃ v L, o = .returned v ∧ Q1 Z q1 p2  h0 n0 v U'.heap L ∧ FrameEnd U o U' L ({ frames := 1, cells := 0, slots := 0, locals := 13 } : Room).cells ({ frames := 1, cells := 0, slots := 0, locals := 13 } : Room).slots) := by
  refine MetFree.of_bodySF (plainFor_of_name pn_2) hisR ?_
  intro p e s m args below meth c s₁ Bd hml0 hP hK
  obtain ⟨rfl, hZ, hh⟩ := hP
  have hx := Bd.exec
  have hby := Bd.bytes
  have hml : c.maxLocals = 3 := hml0
  have hown : s.vm.findClass "com/example/patient_relay/patientrelay/queue/HeapBytes" = some m.cls := findClass_of_methodNamed Bd.named
  have hnm := (name_of_methodNamed Bd.named Bd.method).1
  have X0 : Stand p l e ({ frames := 1, cells := 0, slots := 0, locals := 13 } : Room) s m #[(.long q1), (.int p2)] below meth c s₁ [] 0 0 := Stand.of_body Bd
  have e0 : s₁.heap = h0 := by rw [← hh, Bd.state]; rfl
  have N0 := Fr.nil n0
  have pre0 : Steps p.tables e below (s₁.setTop (entryFrame m #[(.long q1), (.int p2)] 3)) (s₁.setTop (mkF m 0 #[.val (.long q1), .second, .val (.int p2)] [])) := castTop (ef_1 m q1 p2) (Steps.refl _)
  obtain ⟨_, _, ⟨T1, L1, k1, n1⟩, -, X1, ⟨Lc1, hQ1, l1, y1, z1⟩, st1⟩ := Jvm.LawKit.callS X0 hx (y := (⟨"com/example/patient_relay/patientrelay/queue/HeapBytes", "align", "(J)J"⟩ : MethodName)) hown (mvT hZ (hw _ (List.mem_of_getElem? (i := 6) rfl))) (mvT hZ (hw _ (List.mem_of_getElem? (i := 7) rfl))) (mvT hZ (hw _ (List.mem_of_getElem? (i := 3) rfl))) (mvT hZ (hw _ (List.mem_of_getElem? (i := 8) rfl))) (by decide) (backOf (W := 0) (rm2 l Z a0 hw [] ((16 : Int64) + (q1 * (p2.toInt64))) h0 n0 Z0) hZ (hw _ (List.mem_of_getElem? (i := 8) rfl)) (hw _ (List.mem_of_getElem? (i := 3) rfl)) (by decide) (by decide)) (g := (mkF m 8 #[.val (.long q1), .second, .val (.int p2)] [(.long ((16 : Int64) + (q1 * (p2.toInt64))))])) rfl (by rw [hml]; rfl) (argsL := [(.long ((16 : Int64) + (q1 * (p2.toInt64))))]) (rest := []) (lenOf pd_0 rfl) rfl (by show 2 * 0 + _ ≤ _; exact Nat.le_of_eq rfl) (hb hby d1_8) (fun _ _ => ⟨rfl, e0, (by decide : 0 + 0 ≤ _), (by decide : 0 + 0 ≤ _)⟩)
  dsimp only [Pt.U, Pt.locs, Pt.cells, Pt.slots] at X1 l1 y1 z1 st1 hQ1
  subst l1 y1 z1
  obtain ⟨rfl, M1, e1⟩ := hQ1
  have N1 := Fr.app N0 M1
  have pre1 : Steps p.tables e below (s₁.setTop (entryFrame m #[(.long q1), (.int p2)] 3)) (T1.setTop (mkF m 11 #[.val (.long q1), .second, .val (.int p2)] [(.long (own_align ((16 : Int64) + (q1 * (p2.toInt64)))))])) := by
    refine pre0.trans ?_
    refine X0.ldc2Long hx hown (mvT hZ (hw _ (List.mem_of_getElem? (i := 5) rfl))) (g := (mkF m 0 #[.val (.long q1), .second, .val (.int p2)] [])) rfl (hb hby d1_0) _ ?_
    show Steps p.tables e below (s₁.setTop (mkF m 3 #[.val (.long q1), .second, .val (.int p2)] [(.long (16 : Int64))])) _
    refine XS.lloadN X0.here hx rfl (hb hby d1_3) rfl ?_
    show Steps p.tables e below (s₁.setTop (mkF m 4 #[.val (.long q1), .second, .val (.int p2)] [(.long q1), (.long (16 : Int64))])) _
    refine XS.iloadN X0.here hx rfl (hb hby d1_4) rfl ?_
    show Steps p.tables e below (s₁.setTop (mkF m 5 #[.val (.long q1), .second, .val (.int p2)] [(.int p2), (.long q1), (.long (16 : Int64))])) _
    refine XS.i2l X0.here hx rfl (hb hby d1_5) rfl ?_
    show Steps p.tables e below (s₁.setTop (mkF m 6 #[.val (.long q1), .second, .val (.int p2)] [(.long (p2.toInt64)), (.long q1), (.long (16 : Int64))])) _
    refine XS.lmul X0.here hx rfl (hb hby d1_6) rfl ?_
    show Steps p.tables e below (s₁.setTop (mkF m 7 #[.val (.long q1), .second, .val (.int p2)] [(.long (q1 * (p2.toInt64))), (.long (16 : Int64))])) _
    refine XS.ladd X0.here hx rfl (hb hby d1_7) rfl ?_
    show Steps p.tables e below (s₁.setTop (mkF m 8 #[.val (.long q1), .second, .val (.int p2)] [(.long ((16 : Int64) + (q1 * (p2.toInt64))))])) _
    exact st1 _ (Steps.refl _)
  obtain ⟨fs, hr, hrun, hended, hW, hsame⟩ := X1.leave (v := some (.long (own_align ((16 : Int64) + (q1 * (p2.toInt64)))))) (fun h => by rw [Bd.returns] at h; cases h)
  refine ⟨_, _, pre1.trans ?_, hrun, hended, _, _, rfl, ?_, ⟨_, rfl⟩, hW, hsame.mono (by decide) (by decide)⟩
  · skip
    exact X1.lreturnOut hx Bd.returns (hb hby d1_11) hr
  · show Q1 Z q1 p2  h0 n0 _ T1.heap _
    rw [e1]
    exact ⟨rfl, N1, rfl⟩
theorem pn_0 : plainName "com/example/patient_relay/patientrelay/queue/HeapBytesArrayPinLaw" = true := by first | (simp [plainName, overriddenIn]; done) | decide +kernel
theorem ef_0 (m : MethodId) (q1 : Int64) (p2 : Int32) : entryFrame m #[(.long q1), (.int p2)] maxLocals = (mkF m 0 #[.val (.long q1), .second, .val (.int p2), .unset, .unset, .unset, .unset, .unset, .unset, .unset, .unset, .unset, .unset] []) := by first | (simp [entryFrame, mkF, argsToLocals, Value.category, maxLocals]; done) | rfl
def Q0 (Z : State) (q1 : Int64) (p2 : Int32)  (h0 : Heap) (n0 : Nat) (v : Option Value) (h : Heap) (L : List Loc) : Prop := v = some (.int (1 : Int32)) ∧ Fr n0 L
set_option maxRecDepth 65536 in
set_option maxHeartbeats 40000000 in
theorem rm0 (l : Launch) (Z : State) (a0 : Array Value) (hw : ∀ d ∈ tables_1, d.before a0 Z = true) (ws : List Jvm.Cond) (q1 : Int64) (p2 : Int32)  (h0 : Heap) (n0 : Nat) (Z0 : n0 ≤ h0.size)  :
    MetFree l x (head1 (Jvm.Cond.code x code maxLocals ret :: ws) room_1) (fun a U => a = #[(.long q1), (.int p2)] ∧ Z.Warmed39 U.vm ∧ U.heap = h0) (fun _ _ _ _ _ => True) (fun _ U o U' => ∃ v L, o = .returned v ∧ Q0 Z q1 p2  h0 n0 v U'.heap L ∧ FrameEnd U o U' L room_1.cells room_1.slots) := by
  refine MetFree.of_bodySF (plainFor_of_name pn_0) hisR ?_
  intro p e s m args below meth c s₁ Bd hml0 hP hK
  obtain ⟨rfl, hZ, hh⟩ := hP
  have hx := Bd.exec
  have hby := Bd.bytes
  have hml : c.maxLocals = 13 := hml0
  have hown : s.vm.findClass "com/example/patient_relay/patientrelay/queue/HeapBytesArrayPinLaw" = some m.cls := findClass_of_methodNamed Bd.named
  have hnm := (name_of_methodNamed Bd.named Bd.method).1
  have X0 : Stand p l e room_1 s m #[(.long q1), (.int p2)] below meth c s₁ [] 0 0 := Stand.of_body Bd
  have e0 : s₁.heap = h0 := by rw [← hh, Bd.state]; rfl
  have N0 := Fr.nil n0
  have pre0 : Steps p.tables e below (s₁.setTop (entryFrame m #[(.long q1), (.int p2)] maxLocals)) (s₁.setTop (mkF m 0 #[.val (.long q1), .second, .val (.int p2), .unset, .unset, .unset, .unset, .unset, .unset, .unset, .unset, .unset, .unset] [])) := castTop (ef_0 m q1 p2) (Steps.refl _)
  obtain ⟨_, _, ⟨T1, L1, k1, n1⟩, -, X1, ⟨Lc1, hQ1, l1, y1, z1⟩, st1⟩ := Jvm.LawKit.callS X0 hx (y := (⟨"com/example/patient_relay/patientrelay/queue/HeapBytes", "array", "(JI)J"⟩ : MethodName)) hown (mvT hZ (hw _ (List.mem_of_getElem? (i := 1) rfl))) (mvT hZ (hw _ (List.mem_of_getElem? (i := 2) rfl))) (mvT hZ (hw _ (List.mem_of_getElem? (i := 3) rfl))) (mvT hZ (hw _ (List.mem_of_getElem? (i := 4) rfl))) (by decide) (backOf (W := 0) (rm1 l Z a0 hw [] (q1 &&& (2147483647 : Int64)) (p2 &&& (255 : Int32)) h0 n0 Z0) hZ (hw _ (List.mem_of_getElem? (i := 4) rfl)) (hw _ (List.mem_of_getElem? (i := 3) rfl)) (by decide) (by decide)) (g := (mkF m 16 #[.val (.long q1), .second, .val (.int p2), .val (.long (q1 &&& (2147483647 : Int64))), .second, .val (.int (p2 &&& (255 : Int32))), .unset, .unset, .unset, .unset, .unset, .unset, .unset] [(.int (p2 &&& (255 : Int32))), (.long (q1 &&& (2147483647 : Int64)))])) rfl (by rw [hml]; rfl) (argsL := [(.long (q1 &&& (2147483647 : Int64))), (.int (p2 &&& (255 : Int32)))]) (rest := []) (lenOf pd_1 rfl) rfl (by show 2 * 0 + _ ≤ _; exact Nat.le_of_eq rfl) (hb hby at_16) (fun _ _ => ⟨rfl, e0, (by decide : 0 + 0 ≤ _), (by decide : 0 + 0 ≤ _)⟩)
  dsimp only [Pt.U, Pt.locs, Pt.cells, Pt.slots] at X1 l1 y1 z1 st1 hQ1
  subst l1 y1 z1
  obtain ⟨rfl, M1, e1⟩ := hQ1
  have N1 := Fr.app N0 M1
  have pre1 : Steps p.tables e below (s₁.setTop (entryFrame m #[(.long q1), (.int p2)] maxLocals)) (T1.setTop (mkF m 19 #[.val (.long q1), .second, .val (.int p2), .val (.long (q1 &&& (2147483647 : Int64))), .second, .val (.int (p2 &&& (255 : Int32))), .unset, .unset, .unset, .unset, .unset, .unset, .unset] [(.long (own_align ((16 : Int64) + ((q1 &&& (2147483647 : Int64)) * ((p2 &&& (255 : Int32)).toInt64)))))])) := by
    refine pre0.trans ?_
    refine XS.lloadN X0.here hx rfl (hb hby at_0) rfl ?_
    show Steps p.tables e below (s₁.setTop (mkF m 1 #[.val (.long q1), .second, .val (.int p2), .unset, .unset, .unset, .unset, .unset, .unset, .unset, .unset, .unset, .unset] [(.long q1)])) _
    refine X0.ldc2Long hx hown (mvT hZ (hw _ (List.mem_of_getElem? (i := 0) rfl))) (g := (mkF m 1 #[.val (.long q1), .second, .val (.int p2), .unset, .unset, .unset, .unset, .unset, .unset, .unset, .unset, .unset, .unset] [(.long q1)])) rfl (hb hby at_1) _ ?_
    show Steps p.tables e below (s₁.setTop (mkF m 4 #[.val (.long q1), .second, .val (.int p2), .unset, .unset, .unset, .unset, .unset, .unset, .unset, .unset, .unset, .unset] [(.long (2147483647 : Int64)), (.long q1)])) _
    refine XS.land X0.here hx rfl (hb hby at_4) rfl ?_
    show Steps p.tables e below (s₁.setTop (mkF m 5 #[.val (.long q1), .second, .val (.int p2), .unset, .unset, .unset, .unset, .unset, .unset, .unset, .unset, .unset, .unset] [(.long (q1 &&& (2147483647 : Int64)))])) _
    refine XS.lstoreN X0.here hx rfl (hb hby at_5) rfl (l' := #[.val (.long q1), .second, .val (.int p2), .val (.long (q1 &&& (2147483647 : Int64))), .second, .unset, .unset, .unset, .unset, .unset, .unset, .unset, .unset]) rfl ?_
    show Steps p.tables e below (s₁.setTop (mkF m 6 #[.val (.long q1), .second, .val (.int p2), .val (.long (q1 &&& (2147483647 : Int64))), .second, .unset, .unset, .unset, .unset, .unset, .unset, .unset, .unset] [])) _
    refine XS.iloadN X0.here hx rfl (hb hby at_6) rfl ?_
    show Steps p.tables e below (s₁.setTop (mkF m 7 #[.val (.long q1), .second, .val (.int p2), .val (.long (q1 &&& (2147483647 : Int64))), .second, .unset, .unset, .unset, .unset, .unset, .unset, .unset, .unset] [(.int p2)])) _
    refine XS.sipush X0.here hx rfl (hb hby at_7) ?_
    show Steps p.tables e below (s₁.setTop (mkF m 10 #[.val (.long q1), .second, .val (.int p2), .val (.long (q1 &&& (2147483647 : Int64))), .second, .unset, .unset, .unset, .unset, .unset, .unset, .unset, .unset] [(.int (255 : Int32)), (.int p2)])) _
    refine XS.iand X0.here hx rfl (hb hby at_10) rfl ?_
    show Steps p.tables e below (s₁.setTop (mkF m 11 #[.val (.long q1), .second, .val (.int p2), .val (.long (q1 &&& (2147483647 : Int64))), .second, .unset, .unset, .unset, .unset, .unset, .unset, .unset, .unset] [(.int (p2 &&& (255 : Int32)))])) _
    refine XS.istore X0.here hx rfl (hb hby at_11) rfl (l' := #[.val (.long q1), .second, .val (.int p2), .val (.long (q1 &&& (2147483647 : Int64))), .second, .val (.int (p2 &&& (255 : Int32))), .unset, .unset, .unset, .unset, .unset, .unset, .unset]) rfl ?_
    show Steps p.tables e below (s₁.setTop (mkF m 13 #[.val (.long q1), .second, .val (.int p2), .val (.long (q1 &&& (2147483647 : Int64))), .second, .val (.int (p2 &&& (255 : Int32))), .unset, .unset, .unset, .unset, .unset, .unset, .unset] [])) _
    refine XS.lloadN X0.here hx rfl (hb hby at_13) rfl ?_
    show Steps p.tables e below (s₁.setTop (mkF m 14 #[.val (.long q1), .second, .val (.int p2), .val (.long (q1 &&& (2147483647 : Int64))), .second, .val (.int (p2 &&& (255 : Int32))), .unset, .unset, .unset, .unset, .unset, .unset, .unset] [(.long (q1 &&& (2147483647 : Int64)))])) _
    refine XS.iload X0.here hx rfl (hb hby at_14) rfl ?_
    show Steps p.tables e below (s₁.setTop (mkF m 16 #[.val (.long q1), .second, .val (.int p2), .val (.long (q1 &&& (2147483647 : Int64))), .second, .val (.int (p2 &&& (255 : Int32))), .unset, .unset, .unset, .unset, .unset, .unset, .unset] [(.int (p2 &&& (255 : Int32))), (.long (q1 &&& (2147483647 : Int64)))])) _
    exact st1 _ (Steps.refl _)
  obtain ⟨r, hr0⟩ : ∃ z, z = (own_align ((16 : Int64) + ((q1 &&& (2147483647 : Int64)) * ((p2 &&& (255 : Int32)).toInt64)))) := ⟨_, rfl⟩
  rw [← hr0] at pre1
  have pre2 : Steps p.tables e below (s₁.setTop (entryFrame m #[(.long q1), (.int p2)] maxLocals)) (T1.setTop (mkF m 32 #[.val (.long q1), .second, .val (.int p2), .val (.long (q1 &&& (2147483647 : Int64))), .second, .val (.int (p2 &&& (255 : Int32))), .val (.long r), .second, .val (.long ((16 : Int64) + ((q1 &&& (2147483647 : Int64)) * ((p2 &&& (255 : Int32)).toInt64)))), .second, .unset, .unset, .unset] [])) := by
    refine pre1.trans ?_
    refine XS.lstore X1.here hx rfl (hb hby at_19) rfl (l' := #[.val (.long q1), .second, .val (.int p2), .val (.long (q1 &&& (2147483647 : Int64))), .second, .val (.int (p2 &&& (255 : Int32))), .val (.long r), .second, .unset, .unset, .unset, .unset, .unset]) rfl ?_
    show Steps p.tables e below (T1.setTop (mkF m 21 #[.val (.long q1), .second, .val (.int p2), .val (.long (q1 &&& (2147483647 : Int64))), .second, .val (.int (p2 &&& (255 : Int32))), .val (.long r), .second, .unset, .unset, .unset, .unset, .unset] [])) _
    refine X1.ldc2Long hx hown (mvT hZ (hw _ (List.mem_of_getElem? (i := 11) rfl))) (g := (mkF m 21 #[.val (.long q1), .second, .val (.int p2), .val (.long (q1 &&& (2147483647 : Int64))), .second, .val (.int (p2 &&& (255 : Int32))), .val (.long r), .second, .unset, .unset, .unset, .unset, .unset] [])) rfl (hb hby at_21) _ ?_
    show Steps p.tables e below (T1.setTop (mkF m 24 #[.val (.long q1), .second, .val (.int p2), .val (.long (q1 &&& (2147483647 : Int64))), .second, .val (.int (p2 &&& (255 : Int32))), .val (.long r), .second, .unset, .unset, .unset, .unset, .unset] [(.long (16 : Int64))])) _
    refine XS.lloadN X1.here hx rfl (hb hby at_24) rfl ?_
    show Steps p.tables e below (T1.setTop (mkF m 25 #[.val (.long q1), .second, .val (.int p2), .val (.long (q1 &&& (2147483647 : Int64))), .second, .val (.int (p2 &&& (255 : Int32))), .val (.long r), .second, .unset, .unset, .unset, .unset, .unset] [(.long (q1 &&& (2147483647 : Int64))), (.long (16 : Int64))])) _
    refine XS.iload X1.here hx rfl (hb hby at_25) rfl ?_
    show Steps p.tables e below (T1.setTop (mkF m 27 #[.val (.long q1), .second, .val (.int p2), .val (.long (q1 &&& (2147483647 : Int64))), .second, .val (.int (p2 &&& (255 : Int32))), .val (.long r), .second, .unset, .unset, .unset, .unset, .unset] [(.int (p2 &&& (255 : Int32))), (.long (q1 &&& (2147483647 : Int64))), (.long (16 : Int64))])) _
    refine XS.i2l X1.here hx rfl (hb hby at_27) rfl ?_
    show Steps p.tables e below (T1.setTop (mkF m 28 #[.val (.long q1), .second, .val (.int p2), .val (.long (q1 &&& (2147483647 : Int64))), .second, .val (.int (p2 &&& (255 : Int32))), .val (.long r), .second, .unset, .unset, .unset, .unset, .unset] [(.long ((p2 &&& (255 : Int32)).toInt64)), (.long (q1 &&& (2147483647 : Int64))), (.long (16 : Int64))])) _
    refine XS.lmul X1.here hx rfl (hb hby at_28) rfl ?_
    show Steps p.tables e below (T1.setTop (mkF m 29 #[.val (.long q1), .second, .val (.int p2), .val (.long (q1 &&& (2147483647 : Int64))), .second, .val (.int (p2 &&& (255 : Int32))), .val (.long r), .second, .unset, .unset, .unset, .unset, .unset] [(.long ((q1 &&& (2147483647 : Int64)) * ((p2 &&& (255 : Int32)).toInt64))), (.long (16 : Int64))])) _
    refine XS.ladd X1.here hx rfl (hb hby at_29) rfl ?_
    show Steps p.tables e below (T1.setTop (mkF m 30 #[.val (.long q1), .second, .val (.int p2), .val (.long (q1 &&& (2147483647 : Int64))), .second, .val (.int (p2 &&& (255 : Int32))), .val (.long r), .second, .unset, .unset, .unset, .unset, .unset] [(.long ((16 : Int64) + ((q1 &&& (2147483647 : Int64)) * ((p2 &&& (255 : Int32)).toInt64))))])) _
    refine XS.lstore X1.here hx rfl (hb hby at_30) rfl (l' := #[.val (.long q1), .second, .val (.int p2), .val (.long (q1 &&& (2147483647 : Int64))), .second, .val (.int (p2 &&& (255 : Int32))), .val (.long r), .second, .val (.long ((16 : Int64) + ((q1 &&& (2147483647 : Int64)) * ((p2 &&& (255 : Int32)).toInt64)))), .second, .unset, .unset, .unset]) rfl ?_
    show Steps p.tables e below (T1.setTop (mkF m 32 #[.val (.long q1), .second, .val (.int p2), .val (.long (q1 &&& (2147483647 : Int64))), .second, .val (.int (p2 &&& (255 : Int32))), .val (.long r), .second, .val (.long ((16 : Int64) + ((q1 &&& (2147483647 : Int64)) * ((p2 &&& (255 : Int32)).toInt64)))), .second, .unset, .unset, .unset] [])) _
    exact Steps.refl _
  obtain ⟨need, hneed⟩ : ∃ z, z = ((16 : Int64) + ((q1 &&& (2147483647 : Int64)) * ((p2 &&& (255 : Int32)).toInt64))) := ⟨_, rfl⟩
  rw [← hneed] at pre2
  have hl := own_law q1 p2 need r hneed (hr0.trans (by rw [hneed]))
  obtain ⟨fs, hr, hrun, hended, hW, hsame⟩ := X1.leave (v := some (.int (1 : Int32))) (fun h => by rw [Bd.returns] at h; cases h)
  refine ⟨_, _, pre2.trans ?_, hrun, hended, _, _, rfl, ?_, ⟨_, rfl⟩, hW, hsame.mono (by decide) (by decide)⟩
  · skip
    refine XS.lload X1.here hx rfl (hb hby at_32) rfl ?_
    show Steps p.tables e below (T1.setTop (mkF m 34 #[.val (.long q1), .second, .val (.int p2), .val (.long (q1 &&& (2147483647 : Int64))), .second, .val (.int (p2 &&& (255 : Int32))), .val (.long r), .second, .val (.long need), .second, .unset, .unset, .unset] [(.long r)])) _
    refine X1.ldc2Long hx hown (mvT hZ (hw _ (List.mem_of_getElem? (i := 12) rfl))) (g := (mkF m 34 #[.val (.long q1), .second, .val (.int p2), .val (.long (q1 &&& (2147483647 : Int64))), .second, .val (.int (p2 &&& (255 : Int32))), .val (.long r), .second, .val (.long need), .second, .unset, .unset, .unset] [(.long r)])) rfl (hb hby at_34) _ ?_
    show Steps p.tables e below (T1.setTop (mkF m 37 #[.val (.long q1), .second, .val (.int p2), .val (.long (q1 &&& (2147483647 : Int64))), .second, .val (.int (p2 &&& (255 : Int32))), .val (.long r), .second, .val (.long need), .second, .unset, .unset, .unset] [(.long (8 : Int64)), (.long r)])) _
    refine XS.lrem X1.here hx rfl (hb hby at_37) rfl (by decide) ?_
    show Steps p.tables e below (T1.setTop (mkF m 38 #[.val (.long q1), .second, .val (.int p2), .val (.long (q1 &&& (2147483647 : Int64))), .second, .val (.int (p2 &&& (255 : Int32))), .val (.long r), .second, .val (.long need), .second, .unset, .unset, .unset] [(.long (r - (r / (8 : Int64)) * (8 : Int64)))])) _
    refine XS.lconst X1.here hx rfl (hb hby at_38) ?_
    show Steps p.tables e below (T1.setTop (mkF m 39 #[.val (.long q1), .second, .val (.int p2), .val (.long (q1 &&& (2147483647 : Int64))), .second, .val (.int (p2 &&& (255 : Int32))), .val (.long r), .second, .val (.long need), .second, .unset, .unset, .unset] [(.long (0 : Int64)), (.long (r - (r / (8 : Int64)) * (8 : Int64)))])) _
    refine XS.lcmp X1.here hx rfl (hb hby at_39) rfl ?_
    show Steps p.tables e below (T1.setTop (mkF m 40 #[.val (.long q1), .second, .val (.int p2), .val (.long (q1 &&& (2147483647 : Int64))), .second, .val (.int (p2 &&& (255 : Int32))), .val (.long r), .second, .val (.long need), .second, .unset, .unset, .unset] [(.int (lcmpW (r - (r / (8 : Int64)) * (8 : Int64)) (0 : Int64)))])) _
    refine XS.ifNo X1.here hx rfl (hb hby at_40) rfl ((if0 _ _).trans (teq ((lw_eq _ _).mpr hl.1)).2) ?_
    show Steps p.tables e below (T1.setTop (mkF m 43 #[.val (.long q1), .second, .val (.int p2), .val (.long (q1 &&& (2147483647 : Int64))), .second, .val (.int (p2 &&& (255 : Int32))), .val (.long r), .second, .val (.long need), .second, .unset, .unset, .unset] [])) _
    refine XS.iconst X1.here hx rfl (hb hby at_43) ?_
    show Steps p.tables e below (T1.setTop (mkF m 44 #[.val (.long q1), .second, .val (.int p2), .val (.long (q1 &&& (2147483647 : Int64))), .second, .val (.int (p2 &&& (255 : Int32))), .val (.long r), .second, .val (.long need), .second, .unset, .unset, .unset] [(.int (1 : Int32))])) _
    refine XS.goto X1.here hx rfl (pc0 := 44) (pc' := 48) rfl (hb hby at_44) (by decide) (by decide) ?_
    show Steps p.tables e below (T1.setTop (mkF m 48 #[.val (.long q1), .second, .val (.int p2), .val (.long (q1 &&& (2147483647 : Int64))), .second, .val (.int (p2 &&& (255 : Int32))), .val (.long r), .second, .val (.long need), .second, .unset, .unset, .unset] [(.int (1 : Int32))])) _
    refine XS.istore X1.here hx rfl (hb hby at_48) rfl (l' := #[.val (.long q1), .second, .val (.int p2), .val (.long (q1 &&& (2147483647 : Int64))), .second, .val (.int (p2 &&& (255 : Int32))), .val (.long r), .second, .val (.long need), .second, .val (.int (1 : Int32)), .unset, .unset]) rfl ?_
    show Steps p.tables e below (T1.setTop (mkF m 50 #[.val (.long q1), .second, .val (.int p2), .val (.long (q1 &&& (2147483647 : Int64))), .second, .val (.int (p2 &&& (255 : Int32))), .val (.long r), .second, .val (.long need), .second, .val (.int (1 : Int32)), .unset, .unset] [])) _
    refine XS.lload X1.here hx rfl (hb hby at_50) rfl ?_
    show Steps p.tables e below (T1.setTop (mkF m 52 #[.val (.long q1), .second, .val (.int p2), .val (.long (q1 &&& (2147483647 : Int64))), .second, .val (.int (p2 &&& (255 : Int32))), .val (.long r), .second, .val (.long need), .second, .val (.int (1 : Int32)), .unset, .unset] [(.long r)])) _
    refine XS.lload X1.here hx rfl (hb hby at_52) rfl ?_
    show Steps p.tables e below (T1.setTop (mkF m 54 #[.val (.long q1), .second, .val (.int p2), .val (.long (q1 &&& (2147483647 : Int64))), .second, .val (.int (p2 &&& (255 : Int32))), .val (.long r), .second, .val (.long need), .second, .val (.int (1 : Int32)), .unset, .unset] [(.long need), (.long r)])) _
    refine XS.lcmp X1.here hx rfl (hb hby at_54) rfl ?_
    show Steps p.tables e below (T1.setTop (mkF m 55 #[.val (.long q1), .second, .val (.int p2), .val (.long (q1 &&& (2147483647 : Int64))), .second, .val (.int (p2 &&& (255 : Int32))), .val (.long r), .second, .val (.long need), .second, .val (.int (1 : Int32)), .unset, .unset] [(.int (lcmpW r need))])) _
    refine XS.ifNo X1.here hx rfl (hb hby at_55) rfl ((if0 _ _).trans (flt (fun h => hl.2.1 ((lw_lt _ _).mp h))).1) ?_
    show Steps p.tables e below (T1.setTop (mkF m 58 #[.val (.long q1), .second, .val (.int p2), .val (.long (q1 &&& (2147483647 : Int64))), .second, .val (.int (p2 &&& (255 : Int32))), .val (.long r), .second, .val (.long need), .second, .val (.int (1 : Int32)), .unset, .unset] [])) _
    refine XS.iconst X1.here hx rfl (hb hby at_58) ?_
    show Steps p.tables e below (T1.setTop (mkF m 59 #[.val (.long q1), .second, .val (.int p2), .val (.long (q1 &&& (2147483647 : Int64))), .second, .val (.int (p2 &&& (255 : Int32))), .val (.long r), .second, .val (.long need), .second, .val (.int (1 : Int32)), .unset, .unset] [(.int (1 : Int32))])) _
    refine XS.goto X1.here hx rfl (pc0 := 59) (pc' := 63) rfl (hb hby at_59) (by decide) (by decide) ?_
    show Steps p.tables e below (T1.setTop (mkF m 63 #[.val (.long q1), .second, .val (.int p2), .val (.long (q1 &&& (2147483647 : Int64))), .second, .val (.int (p2 &&& (255 : Int32))), .val (.long r), .second, .val (.long need), .second, .val (.int (1 : Int32)), .unset, .unset] [(.int (1 : Int32))])) _
    refine XS.istore X1.here hx rfl (hb hby at_63) rfl (l' := #[.val (.long q1), .second, .val (.int p2), .val (.long (q1 &&& (2147483647 : Int64))), .second, .val (.int (p2 &&& (255 : Int32))), .val (.long r), .second, .val (.long need), .second, .val (.int (1 : Int32)), .val (.int (1 : Int32)), .unset]) rfl ?_
    show Steps p.tables e below (T1.setTop (mkF m 65 #[.val (.long q1), .second, .val (.int p2), .val (.long (q1 &&& (2147483647 : Int64))), .second, .val (.int (p2 &&& (255 : Int32))), .val (.long r), .second, .val (.long need), .second, .val (.int (1 : Int32)), .val (.int (1 : Int32)), .unset] [])) _
    refine XS.lload X1.here hx rfl (hb hby at_65) rfl ?_
    show Steps p.tables e below (T1.setTop (mkF m 67 #[.val (.long q1), .second, .val (.int p2), .val (.long (q1 &&& (2147483647 : Int64))), .second, .val (.int (p2 &&& (255 : Int32))), .val (.long r), .second, .val (.long need), .second, .val (.int (1 : Int32)), .val (.int (1 : Int32)), .unset] [(.long r)])) _
    refine XS.lload X1.here hx rfl (hb hby at_67) rfl ?_
    show Steps p.tables e below (T1.setTop (mkF m 69 #[.val (.long q1), .second, .val (.int p2), .val (.long (q1 &&& (2147483647 : Int64))), .second, .val (.int (p2 &&& (255 : Int32))), .val (.long r), .second, .val (.long need), .second, .val (.int (1 : Int32)), .val (.int (1 : Int32)), .unset] [(.long need), (.long r)])) _
    refine XS.lsub X1.here hx rfl (hb hby at_69) rfl ?_
    show Steps p.tables e below (T1.setTop (mkF m 70 #[.val (.long q1), .second, .val (.int p2), .val (.long (q1 &&& (2147483647 : Int64))), .second, .val (.int (p2 &&& (255 : Int32))), .val (.long r), .second, .val (.long need), .second, .val (.int (1 : Int32)), .val (.int (1 : Int32)), .unset] [(.long (r - need))])) _
    refine X1.ldc2Long hx hown (mvT hZ (hw _ (List.mem_of_getElem? (i := 12) rfl))) (g := (mkF m 70 #[.val (.long q1), .second, .val (.int p2), .val (.long (q1 &&& (2147483647 : Int64))), .second, .val (.int (p2 &&& (255 : Int32))), .val (.long r), .second, .val (.long need), .second, .val (.int (1 : Int32)), .val (.int (1 : Int32)), .unset] [(.long (r - need))])) rfl (hb hby at_70) _ ?_
    show Steps p.tables e below (T1.setTop (mkF m 73 #[.val (.long q1), .second, .val (.int p2), .val (.long (q1 &&& (2147483647 : Int64))), .second, .val (.int (p2 &&& (255 : Int32))), .val (.long r), .second, .val (.long need), .second, .val (.int (1 : Int32)), .val (.int (1 : Int32)), .unset] [(.long (8 : Int64)), (.long (r - need))])) _
    refine XS.lcmp X1.here hx rfl (hb hby at_73) rfl ?_
    show Steps p.tables e below (T1.setTop (mkF m 74 #[.val (.long q1), .second, .val (.int p2), .val (.long (q1 &&& (2147483647 : Int64))), .second, .val (.int (p2 &&& (255 : Int32))), .val (.long r), .second, .val (.long need), .second, .val (.int (1 : Int32)), .val (.int (1 : Int32)), .unset] [(.int (lcmpW (r - need) (8 : Int64)))])) _
    refine XS.ifNo X1.here hx rfl (hb hby at_74) rfl ((if0 _ _).trans (tlt ((lw_lt _ _).mpr hl.2.2)).2.1) ?_
    show Steps p.tables e below (T1.setTop (mkF m 77 #[.val (.long q1), .second, .val (.int p2), .val (.long (q1 &&& (2147483647 : Int64))), .second, .val (.int (p2 &&& (255 : Int32))), .val (.long r), .second, .val (.long need), .second, .val (.int (1 : Int32)), .val (.int (1 : Int32)), .unset] [])) _
    refine XS.iconst X1.here hx rfl (hb hby at_77) ?_
    show Steps p.tables e below (T1.setTop (mkF m 78 #[.val (.long q1), .second, .val (.int p2), .val (.long (q1 &&& (2147483647 : Int64))), .second, .val (.int (p2 &&& (255 : Int32))), .val (.long r), .second, .val (.long need), .second, .val (.int (1 : Int32)), .val (.int (1 : Int32)), .unset] [(.int (1 : Int32))])) _
    refine XS.goto X1.here hx rfl (pc0 := 78) (pc' := 82) rfl (hb hby at_78) (by decide) (by decide) ?_
    show Steps p.tables e below (T1.setTop (mkF m 82 #[.val (.long q1), .second, .val (.int p2), .val (.long (q1 &&& (2147483647 : Int64))), .second, .val (.int (p2 &&& (255 : Int32))), .val (.long r), .second, .val (.long need), .second, .val (.int (1 : Int32)), .val (.int (1 : Int32)), .unset] [(.int (1 : Int32))])) _
    refine XS.istore X1.here hx rfl (hb hby at_82) rfl (l' := #[.val (.long q1), .second, .val (.int p2), .val (.long (q1 &&& (2147483647 : Int64))), .second, .val (.int (p2 &&& (255 : Int32))), .val (.long r), .second, .val (.long need), .second, .val (.int (1 : Int32)), .val (.int (1 : Int32)), .val (.int (1 : Int32))]) rfl ?_
    show Steps p.tables e below (T1.setTop (mkF m 84 #[.val (.long q1), .second, .val (.int p2), .val (.long (q1 &&& (2147483647 : Int64))), .second, .val (.int (p2 &&& (255 : Int32))), .val (.long r), .second, .val (.long need), .second, .val (.int (1 : Int32)), .val (.int (1 : Int32)), .val (.int (1 : Int32))] [])) _
    refine XS.iload X1.here hx rfl (hb hby at_84) rfl ?_
    show Steps p.tables e below (T1.setTop (mkF m 86 #[.val (.long q1), .second, .val (.int p2), .val (.long (q1 &&& (2147483647 : Int64))), .second, .val (.int (p2 &&& (255 : Int32))), .val (.long r), .second, .val (.long need), .second, .val (.int (1 : Int32)), .val (.int (1 : Int32)), .val (.int (1 : Int32))] [(.int (1 : Int32))])) _
    refine XS.ifNo X1.here hx rfl (hb hby at_86) rfl (by decide) ?_
    show Steps p.tables e below (T1.setTop (mkF m 89 #[.val (.long q1), .second, .val (.int p2), .val (.long (q1 &&& (2147483647 : Int64))), .second, .val (.int (p2 &&& (255 : Int32))), .val (.long r), .second, .val (.long need), .second, .val (.int (1 : Int32)), .val (.int (1 : Int32)), .val (.int (1 : Int32))] [])) _
    refine XS.iload X1.here hx rfl (hb hby at_89) rfl ?_
    show Steps p.tables e below (T1.setTop (mkF m 91 #[.val (.long q1), .second, .val (.int p2), .val (.long (q1 &&& (2147483647 : Int64))), .second, .val (.int (p2 &&& (255 : Int32))), .val (.long r), .second, .val (.long need), .second, .val (.int (1 : Int32)), .val (.int (1 : Int32)), .val (.int (1 : Int32))] [(.int (1 : Int32))])) _
    refine XS.ifNo X1.here hx rfl (hb hby at_91) rfl (by decide) ?_
    show Steps p.tables e below (T1.setTop (mkF m 94 #[.val (.long q1), .second, .val (.int p2), .val (.long (q1 &&& (2147483647 : Int64))), .second, .val (.int (p2 &&& (255 : Int32))), .val (.long r), .second, .val (.long need), .second, .val (.int (1 : Int32)), .val (.int (1 : Int32)), .val (.int (1 : Int32))] [])) _
    refine XS.iload X1.here hx rfl (hb hby at_94) rfl ?_
    show Steps p.tables e below (T1.setTop (mkF m 96 #[.val (.long q1), .second, .val (.int p2), .val (.long (q1 &&& (2147483647 : Int64))), .second, .val (.int (p2 &&& (255 : Int32))), .val (.long r), .second, .val (.long need), .second, .val (.int (1 : Int32)), .val (.int (1 : Int32)), .val (.int (1 : Int32))] [(.int (1 : Int32))])) _
    refine XS.ifNo X1.here hx rfl (hb hby at_96) rfl (by decide) ?_
    show Steps p.tables e below (T1.setTop (mkF m 99 #[.val (.long q1), .second, .val (.int p2), .val (.long (q1 &&& (2147483647 : Int64))), .second, .val (.int (p2 &&& (255 : Int32))), .val (.long r), .second, .val (.long need), .second, .val (.int (1 : Int32)), .val (.int (1 : Int32)), .val (.int (1 : Int32))] [])) _
    refine XS.iconst X1.here hx rfl (hb hby at_99) ?_
    show Steps p.tables e below (T1.setTop (mkF m 100 #[.val (.long q1), .second, .val (.int p2), .val (.long (q1 &&& (2147483647 : Int64))), .second, .val (.int (p2 &&& (255 : Int32))), .val (.long r), .second, .val (.long need), .second, .val (.int (1 : Int32)), .val (.int (1 : Int32)), .val (.int (1 : Int32))] [(.int (1 : Int32))])) _
    refine XS.goto X1.here hx rfl (pc0 := 100) (pc' := 104) rfl (hb hby at_100) (by decide) (by decide) ?_
    show Steps p.tables e below (T1.setTop (mkF m 104 #[.val (.long q1), .second, .val (.int p2), .val (.long (q1 &&& (2147483647 : Int64))), .second, .val (.int (p2 &&& (255 : Int32))), .val (.long r), .second, .val (.long need), .second, .val (.int (1 : Int32)), .val (.int (1 : Int32)), .val (.int (1 : Int32))] [(.int (1 : Int32))])) _
    exact retN X1 hx (t := .boolean) Bd.returns (by simp) (hb hby at_104) hr
  · show Q0 Z q1 p2  h0 n0 _ T1.heap _
    rw [e1]
    exact ⟨rfl, N1⟩
set_option maxRecDepth 65536 in
set_option maxHeartbeats 40000000 in
theorem comes_1 {Post : Tables → Env → Array Value → State → Outcome → State → Prop} (hpost : ∀ tb e args s v u, (limb_1_1.after args s (.returned v) u = true ∧ limb_1_2.after args s (.returned v) u = true ∧ True) → FrameEnd s (.returned v) u (Jvm.fieldLocs frame_1_writes args s ++ Jvm.arrayLocs frame_1_arrays args s ++ Jvm.staticLocs frame_1_statics s) 0 0 → Post tb e args s (.returned v) u) :
    ArmFor flags0 classFile x code maxLocals ret World_1 tables_1 room_1 Calls_1 rest_1 Pre_1 Post := by
  intro l hfl _ _ p e ha hc hk s m args below hf hA hF happ hP
  obtain ⟨hcalls, hrest, hpre⟩ := hP
  obtain ⟨-, -, -, hnamed, -, -, -, hat⟩ := (Spec.applies_iff hf).mp happ
  obtain ⟨hg, hn⟩ := and_e (Cond.before_iff.mp (show (Jvm.Cond.and given_1 narrow_1).before args s = true from hpre))
  obtain ⟨u0, r0⟩ := and_e hg
  obtain ⟨c0, r1⟩ := and_e r0
  obtain ⟨w0, w1, rfl⟩ : ∃ w0 w1 : Value, args = #[w0, w1] := by
    have hs : args.size = 2 := by simpa [Cond.value, given_1] using u0
    obtain ⟨L⟩ := args
    match L, hs with
    | [w0, w1], _ => exact ⟨w0, w1, rfl⟩
  have hw := fun d (hd : d ∈ tables_1) => atoms_spec (ws := Jvm.Cond.code x code maxLocals ret :: tables_1) hat d (List.mem_cons_of_mem _ hd)
  obtain ⟨i0, ei0⟩ := isL_v c0
  obtain rfl : w0 = (.long i0) := Option.some.inj ei0
  obtain ⟨i1, ei1⟩ := is_v r1
  obtain rfl : w1 = (.int i1) := Option.some.inj ei1
  obtain ⟨n, o, h1, h2, h3, _, L, rfl, ⟨rfl, N⟩, hq⟩ := rm0 l s _ hw tables_1 i0 i1 s.heap s.heap.size (Nat.le_refl _) p e ha hc hk s m _ below hf ((Spec.applies_iff_loose hf).mp happ).1 ⟨rfl, State.Warmed39.refl s, rfl⟩ trivial
  refine ⟨n, _, h1, h2, h3, hpost _ _ _ _ _ _ ⟨Cond.after_iff.mpr rfl, Cond.after_iff.mpr (eq_i res_at (Term.int_eval (1)) rfl), trivial⟩ ⟨hq.1, hq.2.1, (hq.2.2.sift fun y hy => Or.inr (N y hy)).mono (by decide) (by decide)⟩⟩
theorem main_1_1 : Claimed_1_1 := comes_1 fun _ _ _ _ _ _ h hF => ⟨h.1, hF⟩
theorem main_1_2 : Claimed_1_2 := comes_1 fun _ _ _ _ _ _ h hF => ⟨h.2.1, hF⟩
end Jvm.Pilot.@@N@@
namespace Jvm.Pilot.@@N@@
open Jvm Jvm.ClassFile Sem Op Lib Jvm.Free Jvm.Stand Jvm.Pilot.@@N@@.Jvm.D
/-! MADE BY PROGRAM (witnessworld.py) out of the Statement's table words and the real class files: 9 classes; the members and pool entries that the words name. The judged class is class 1, her method 1. -/
namespace start1
open Jvm.ClassFile
def u (s : String) : CpInfo := .utf8 (stringToUtf16 s)
/-- a pool by its gaps: so many unusable entries, then the entry; so many at the end -/
def gap : Nat → List CpInfo → List CpInfo
  | 0, r => r
  | n + 1, r => .unusable :: gap n r
def poolList (es : List (Nat × CpInfo)) (last : Nat) : List CpInfo := es.foldr (fun e r => gap e.1 (e.2 :: r)) (gap last [])
def pool (es : List (Nat × CpInfo)) (last : Nat) : Array CpInfo := ⟨poolList es last⟩
def fileOf (pool : Array CpInfo) (this : Nat) (attrs : Array Attribute := #[]) (ms : Array MethodInfo := #[]) (fl : Nat := 33) (sup : Nat := 0) (ifs : Array Nat := #[]) (fds : Array FieldInfo := #[]) : ClassFile where
  minorVersion := 0
  majorVersion := 65
  constantPool := pool
  accessFlags := fl
  thisClass := this
  superClass := sup
  interfaces := ifs
  fields := fds
  methods := ms
  attributes := attrs
def plain (name : String) (sup : Option ClassId) : Class where
  name := name
  kind := .ordinary
  loader := none
  accessFlags := 33
  super := sup
  interfaces := #[]
  cf := none
  fields := #[]
  methods := #[]
  instanceTypes := #[]
  staticTypes := #[]
  resolved := #[]
  callSites := []
  init := .initialized
  statics := none
  mirror := none

def pool0 : Array CpInfo := pool [(5, u "<init>"), (0, u "()V"), (1, .class_ 10), (1, u "java/lang/Object")] 113

def k0m0 : Method := { name := "<init>", desc := "()V", sig := { parameters := [], returnType := none }, accessFlags := 1, code := none }
/-- java/lang/Object -/
def k0 : Class := { plain "java/lang/Object" none with
  accessFlags := 33
  interfaces := #[]
  cf := some (fileOf pool0 8 #[] #[{ accessFlags := 1, nameIndex := 5, descriptorIndex := 6, attributes := #[] }] 33 0 #[] #[])
  fields := #[]
  methods := #[k0m0]
  instanceTypes := #[]
  staticTypes := #[]
  resolved := Array.replicate 124 none
  statics := none }

def pool1 : Array CpInfo := pool [(2, .class_ 4), (1, u "java/lang/Object"), (0, u "<init>"), (0, u "()V"), (0, .long 2147483647), (1, .methodref 10 11), (0, .class_ 12), (0, .nameAndType 13 14), (0, u "com/example/patient_relay/patientrelay/queue/HeapBytes"), (0, u "array"), (0, u "(JI)J"), (0, .long 16), (1, .long 8), (1, .class_ 20), (0, u "com/example/patient_relay/patientrelay/queue/HeapBytesArrayPinLaw"), (2, u "law"), (0, u "(JI)Z")] 3

def k1m0 : Method := { name := "<init>", desc := "()V", sig := { parameters := [], returnType := none }, accessFlags := 2, code := none }
def k1c1 : Code := { maxStack := 6, maxLocals := 13, code := code, exceptionTable := #[], attributes := #[] }
def k1m1 : Method := { name := "law", desc := "(JI)Z", sig := { parameters := [.long, .int], returnType := some .boolean }, accessFlags := 9, code := some k1c1 }
/-- com/example/patient_relay/patientrelay/queue/HeapBytesArrayPinLaw -/
def k1 : Class := { plain "com/example/patient_relay/patientrelay/queue/HeapBytesArrayPinLaw" (some 0) with
  accessFlags := 49
  interfaces := #[]
  cf := some (fileOf pool1 19 #[] #[{ accessFlags := 2, nameIndex := 5, descriptorIndex := 6, attributes := #[] }, { accessFlags := 9, nameIndex := 23, descriptorIndex := 24, attributes := #[] }] 49 2 #[] #[])
  fields := #[]
  methods := #[k1m0, k1m1]
  instanceTypes := #[]
  staticTypes := #[]
  resolved := Array.replicate 28 none
  statics := none }

def pool2 : Array CpInfo := pool [(2, .class_ 4), (1, u "java/lang/Object"), (0, u "<init>"), (0, u "()V"), (10, .class_ 18), (0, u "com/example/patient_relay/patientrelay/queue/HeapBytes"), (4, u "array"), (0, u "(JI)J"), (0, .long 16), (1, .methodref 17 28), (0, .nameAndType 29 30), (0, u "align"), (0, u "(J)J"), (2, .long 7), (1, .long 18446744073709551608), (1, u "REFERENCE"), (0, u "I"), (2, u "INSTANT"), (1, u "MAP_ENTRY"), (1, u "ARRAY_HEADER"), (1, u "STRING")] 9

def k2m0 : Method := { name := "<init>", desc := "()V", sig := { parameters := [], returnType := none }, accessFlags := 2, code := none }
def k2c1 : Code := { maxStack := 6, maxLocals := 3, code := prog_50_method_3_code, exceptionTable := #[], attributes := #[] }
def k2m1 : Method := { name := "array", desc := "(JI)J", sig := { parameters := [.long, .int], returnType := some .long }, accessFlags := 8, code := some k2c1 }
def k2c2 : Code := { maxStack := 4, maxLocals := 2, code := prog_50_method_5_code, exceptionTable := #[], attributes := #[] }
def k2m2 : Method := { name := "align", desc := "(J)J", sig := { parameters := [.long], returnType := some .long }, accessFlags := 10, code := some k2c2 }
/-- com/example/patient_relay/patientrelay/queue/HeapBytes -/
def k2 : Class := { plain "com/example/patient_relay/patientrelay/queue/HeapBytes" (some 0) with
  accessFlags := 48
  interfaces := #[]
  cf := some (fileOf pool2 17 #[] #[{ accessFlags := 2, nameIndex := 5, descriptorIndex := 6, attributes := #[] }, { accessFlags := 8, nameIndex := 23, descriptorIndex := 24, attributes := #[] }, { accessFlags := 10, nameIndex := 29, descriptorIndex := 30, attributes := #[] }] 48 2 #[] #[{ accessFlags := 24, nameIndex := 37, descriptorIndex := 38, attributes := #[] }, { accessFlags := 24, nameIndex := 41, descriptorIndex := 38, attributes := #[] }, { accessFlags := 24, nameIndex := 43, descriptorIndex := 38, attributes := #[] }, { accessFlags := 26, nameIndex := 45, descriptorIndex := 38, attributes := #[] }, { accessFlags := 26, nameIndex := 47, descriptorIndex := 38, attributes := #[] }])
  fields := #[{ name := "REFERENCE", type := .int, accessFlags := 24, slot := 0, constantValue := 0 }, { name := "INSTANT", type := .int, accessFlags := 24, slot := 1, constantValue := 0 }, { name := "MAP_ENTRY", type := .int, accessFlags := 24, slot := 2, constantValue := 0 }, { name := "ARRAY_HEADER", type := .int, accessFlags := 26, slot := 3, constantValue := 0 }, { name := "STRING", type := .int, accessFlags := 26, slot := 4, constantValue := 0 }]
  methods := #[k2m0, k2m1, k2m2]
  instanceTypes := #[]
  staticTypes := #[.int, .int, .int, .int, .int]
  resolved := Array.replicate 57 none
  statics := none }

def pool3 : Array CpInfo := pool [(1, u "java/lang/Cloneable"), (0, .class_ 1), (0, u "java/lang/Object"), (0, .class_ 3)] 3

/-- java/lang/Cloneable -/
def k3 : Class := { plain "java/lang/Cloneable" (some 0) with
  accessFlags := 1537
  interfaces := #[]
  cf := some (fileOf pool3 2 #[] #[] 1537 4 #[] #[])
  fields := #[]
  methods := #[]
  instanceTypes := #[]
  staticTypes := #[]
  resolved := Array.replicate 8 none
  statics := none }

def pool4 : Array CpInfo := pool [(1, u "java/io/Serializable"), (0, .class_ 1), (0, u "java/lang/Object"), (0, .class_ 3)] 3

/-- java/io/Serializable -/
def k4 : Class := { plain "java/io/Serializable" (some 0) with
  accessFlags := 1537
  interfaces := #[]
  cf := some (fileOf pool4 2 #[] #[] 1537 4 #[] #[])
  fields := #[]
  methods := #[]
  instanceTypes := #[]
  staticTypes := #[]
  resolved := Array.replicate 8 none
  statics := none }

/-- the primitive byte -/
def k5 : Class := { plain "byte" none with kind := .primitive 'B', accessFlags := 0x411 }
/-- [B -/
def k6 : Class := { plain "[B" (some 0) with kind := .array 5 .byte, interfaces := #[3, 4], accessFlags := 1041 }

/-- the primitive int -/
def k7 : Class := { plain "int" none with kind := .primitive 'I', accessFlags := 0x411 }
/-- [I -/
def k8 : Class := { plain "[I" (some 0) with kind := .array 7 .int, interfaces := #[3, 4], accessFlags := 1041 }

def heap : Heap := #[]
def classes : Array Class := #[k0, k1, k2, k3, k4, k5, k6, k7, k8]
def interned : List (Array UInt16 × Addr) := []
def slotsUsed : Nat := 0
def theMethod : MethodId := ⟨1, 1⟩
def args0 : Array Value := #[.long 5, .int 4]
def aboutOver (below : List Frame) : State where
  vm := { classes := classes, interned := interned.toArray }
  heap := heap
  slotsUsed := slotsUsed
  threads := #[{ frames := .invoking theMethod args0 :: below }]
def below0 : List Frame := [.native { method := ⟨0, 0⟩, args := #[] }]
def about1 : State := aboutOver below0
def p0 : Program := .bare "" "" ""
def e0 : Env := launch0.env 0 0 0
theorem w_frames : about1.frames = Frame.invoking theMethod args0 :: below0 := rfl
set_option maxRecDepth 65536 in
theorem w_args : argsFit about1.vm theMethod args0 = true := by decide +kernel
set_option maxRecDepth 65536 in
theorem w_heap : heapFits about1 = true := by decide +kernel
set_option maxRecDepth 65536 in
theorem w_runnable : about1.curStatus? = some .runnable := by decide +kernel
set_option maxRecDepth 65536 in
theorem w_alone : about1.alone = true := by decide +kernel
set_option maxRecDepth 65536 in
theorem w_named : about1.methodNamed? x = some theMethod := by decide +kernel
set_option maxRecDepth 65536 in
theorem w_hears : about1.hears theMethod below0 = true := by decide +kernel
set_option maxRecDepth 65536 in
theorem w_ripe : about1.ripe theMethod args0 below0 = true := by decide +kernel
theorem w_running : about1.status = .running := rfl
set_option maxRecDepth 65536 in
theorem w_room : about1.hasRoom e0.platform room_1 = true :=
  launch0.hasRoom_least _ room_1 (by decide +kernel) (by decide +kernel) (by decide +kernel) (by decide +kernel) (by decide +kernel) (by decide +kernel)
theorem allAtoms_all (ts : List Jvm.Cond) (a : Array Jvm.Value) (st : Jvm.State) : (allAtoms ts).before a st = ts.all (fun c => c.before a st) := by
  induction ts with
  | nil => rfl
  | cons c t ih =>
    show (Jvm.Cond.and c (allAtoms t)).before a st = _
    rw [Jvm.Cond.before_and, ih, List.all_cons]
def words1 : List Jvm.Cond := Jvm.Cond.code x code maxLocals ret :: tables_1
/-- a 'code' word, met by the world's own term for the bytes: nothing is compared byte by byte -/
theorem code_word {y : MethodName} {bytes : ByteArray} {mx : Nat} {rt : Option FieldType} {a : Array Value} {s : State} {m : MethodId} {meth : Method} {c : Code} (h1 : s.methodNamed? y = some m) (h2 : s.vm.method? m = some meth) (h3 : meth.code = some c) (h4 : c.code = bytes)
    (h5 : (c.maxLocals == mx && c.exceptionTable.isEmpty && decide (c.maxStack ≤ mostOperands) && decide (meth.sig.returnType = rt) && !meth.locks && decide (parseMethodDescriptor y.desc = some meth.sig)) = true) : (Jvm.Cond.code y bytes mx rt).before a s = true := by
  simp only [Bool.and_eq_true, beq_iff_eq, Bool.not_eq_true', decide_eq_true_eq] at h5
  obtain ⟨⟨⟨⟨⟨g1, g2⟩, g3⟩, g4⟩, g5⟩, g6⟩ := h5
  simp [Cond.before, Cond.holds, Cond.value, h1, h2, h3, h4, g1, g2, g3, g4, g5, g6]
def isCode : Jvm.Cond → Bool
  | .code _ _ _ _ => true
  | _ => false
theorem all_split {L : List Jvm.Cond} {P : Jvm.Cond → Bool} (h1 : L.all (fun c => isCode c || P c) = true) (h2 : ∀ c ∈ L.filter isCode, P c = true) : L.all P = true := by
  refine List.all_eq_true.mpr fun c hc => ?_
  have h := List.all_eq_true.mp h1 c hc
  rcases Bool.eq_false_or_eq_true (isCode c) with hi | hi
  · exact h2 c (List.mem_filter.mpr ⟨hc, hi⟩)
  · simpa [hi] using h
set_option maxRecDepth 65536 in
theorem w_c0 : (Jvm.Cond.code x code maxLocals ret).before args0 about1 = true := code_word (m := ⟨1, 1⟩) (meth := k1m1) (c := k1c1) (by decide +kernel) rfl rfl rfl (by decide +kernel)
set_option maxRecDepth 65536 in
theorem w_c1 : (Jvm.Cond.code ({ cls := "com/example/patient_relay/patientrelay/queue/HeapBytes", name := "array", desc := "(JI)J" } : Jvm.MethodName) prog_50_method_3_code (3 : Nat) (Option.some Jvm.ClassFile.FieldType.long)).before args0 about1 = true := code_word (m := ⟨2, 1⟩) (meth := k2m1) (c := k2c1) (by decide +kernel) rfl rfl rfl (by decide +kernel)
set_option maxRecDepth 65536 in
theorem w_c2 : (Jvm.Cond.code ({ cls := "com/example/patient_relay/patientrelay/queue/HeapBytes", name := "align", desc := "(J)J" } : Jvm.MethodName) prog_50_method_5_code (2 : Nat) (Option.some Jvm.ClassFile.FieldType.long)).before args0 about1 = true := code_word (m := ⟨2, 2⟩) (meth := k2m2) (c := k2c2) (by decide +kernel) rfl rfl rfl (by decide +kernel)
def codes1 : List Jvm.Cond := [Jvm.Cond.code x code maxLocals ret, Jvm.Cond.code ({ cls := "com/example/patient_relay/patientrelay/queue/HeapBytes", name := "array", desc := "(JI)J" } : Jvm.MethodName) prog_50_method_3_code (3 : Nat) (Option.some Jvm.ClassFile.FieldType.long), Jvm.Cond.code ({ cls := "com/example/patient_relay/patientrelay/queue/HeapBytes", name := "align", desc := "(J)J" } : Jvm.MethodName) prog_50_method_5_code (2 : Nat) (Option.some Jvm.ClassFile.FieldType.long)]
set_option maxRecDepth 65536 in
theorem codes_eq : words1.filter isCode = codes1 := rfl
theorem w_codes : ∀ c ∈ words1.filter isCode, c.before args0 about1 = true := by
  rw [codes_eq]
  intro c hc
  simp only [codes1, List.mem_cons, List.not_mem_nil, or_false] at hc
  rcases hc with rfl | rfl | rfl
  · exact w_c0
  · exact w_c1
  · exact w_c2
set_option maxRecDepth 65536 in
theorem w_t1 : words1.all (fun c => isCode c || c.before args0 about1) = true := by decide +kernel
theorem w_tables : (allAtoms (Jvm.Cond.code x code maxLocals ret :: tables_1)).before args0 about1 = true := by
  rw [allAtoms_all]
  show words1.all (fun c => c.before args0 about1) = true
  refine all_split ?_ w_codes
  rw [w_t1]
set_option maxRecDepth 65536 in
theorem w_case : (Jvm.Cond.and given_1 narrow_1).before args0 about1 = true := by decide +kernel
theorem w_applies : (headSpec (Jvm.Cond.code x code maxLocals ret :: tables_1) room_1).applies x e0.platform about1 = true :=
  (Spec.applies_iff w_frames).mpr ⟨w_running, w_runnable, w_alone, w_named, w_hears, w_ripe, w_room, w_tables⟩
theorem atStart : AtStart classFile x code maxLocals ret World_1 tables_1 room_1 Calls_1 rest_1 Pre_1 launch0 p0 e0 about1 theMethod args0 below0 :=
  ⟨lists_1, trivial, launch0.admits_env _ _ _, launch0.least_env, fairChoices_fair.cas, fairChoices_fair.clock, w_frames, w_args, w_heap, w_applies, trivial, trivial, w_case⟩
end start1
theorem witness_1 : WitnessClaimed_1 := ⟨start1.p0, start1.e0, start1.about1, start1.theMethod, start1.args0, start1.below0, start1.atStart⟩
end Jvm.Pilot.@@N@@
