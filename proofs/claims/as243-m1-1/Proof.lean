import JvmDerived
import JvmDerived.Pilot.@@N@@Statement
import JvmDerived.Pilot.@@N@@Code
set_option linter.unusedVariables false
set_option linter.unusedSimpArgs false
@@BLOCK:NumsL.lean.txt@@
namespace Jvm.RoadKit
open Sem ClassFile Op Lib Jvm.Stand Jvm.Free Jvm.LawKit
section New
variable {p : Program} {l : Launch} {e : Env} {R : Room} {s : State} {m : MethodId} {args : Array Value} {below : List Frame} {meth : Method} {c : Code} {T : State} {locs : List Loc} {cells slots : Nat}
theorem retI (X : Stand p l e R s m args below meth c T locs cells slots) (hx : p.tables.exec = Jvm.exec) {pc : Nat} {Ls : Array Slot} {z : Int32} {rest : List Value} (hret : meth.sig.returnType = some .int) (hd : decode c.code pc = .ok (.ireturn, 1)) {fs : List Frame}
    (hl : ∀ (f : JFrame) (acts : List Action), f.method = m → f.locked = none → f.entered = [] → (doReturn e (T.setTop f) acts (some (.int z))).1 = T.setFrames fs) : Steps p.tables e below (T.setTop (mkF m pc Ls (.int z :: rest))) (T.setFrames fs) := by
  have hm' : T.vm.method? m = some meth := X.method'
  have hn : narrow .int (.int z) = .int z := rfl
  show Steps p.tables e below (T.setTop { method := m, pc := pc, locals := Ls, stack := _ :: rest, locked := none }) _
  jvm_step X.here [X.here.top, hx, hd, hm', hret, hn]
  first | (intro acts; rw [hl _ acts rfl rfl rfl]) | rw [hl _ _ rfl rfl rfl]
  exact Steps.refl _
end New
end Jvm.RoadKit
namespace Jvm.Pilot.@@N@@
open Jvm Jvm.ClassFile Sem Op Lib Jvm.Free Jvm.Stand Jvm.LawKit Jvm.RoadKit Bundle Jvm.Pilot.@@N@@.Jvm.D
theorem own_pd__I_I : parseMethodDescriptor "(I)I" = some ⟨[.int], some .int⟩ := by decide +kernel
theorem own_pd__II_I : parseMethodDescriptor "(II)I" = some ⟨[.int, .int], some .int⟩ := by decide +kernel
theorem own_min_tab {a : Array Value} {s : State} (h1 : (Jvm.Cond.code (⟨"java/lang/Math", "min", "(II)I"⟩ : MethodName) jdk_29_method_69_code 2 (some .int)).before a s = true) (h2 : (Jvm.Cond.initialized "java/lang/Math").before a s = true) : Jvm.Free.JP.Math_min_II.tab.before a s = true :=
  Jvm.Free.XT.unparts h1 (fun w hw => by have e := List.mem_singleton.mp hw; subst e; exact h2)
def own_next (p : Int32) : Int32 := if p = 0 then 60 else Jvm.Free.JP.Math_min_II.val (4 * p) 86400
theorem own_range (a : Int32) : 0 ≤ ((a &&& 2147483647) % 86401).toInt ∧ ((a &&& 2147483647) % 86401).toInt ≤ 86400 := by
  have e1 : (a &&& 2147483647).toInt = a.toInt % 2 ^ 31 := Jvm.Kit.i32_mask a 2147483647 (k := 31) (by decide) (by decide)
  have e2 : ((a &&& 2147483647) % 86401).toInt = (a &&& 2147483647).toInt % (86401 : Int32).toInt := Jvm.Kit.i32_rem_nonneg (by omega)
  rw [show (86401 : Int32).toInt = 86401 by decide] at e2
  omega
theorem own_key {k : Int32} (h0 : 0 ≤ k.toInt) (h1 : k.toInt ≤ 86400) : own_next k = (if k = 0 then (60 : Int32) else (if (21600 : Int32) < k then (86400 : Int32) else (k * (4 : Int32)))) := by
  unfold own_next
  by_cases hk : k = 0
  · rw [if_pos hk, if_pos hk]
  · rw [if_neg hk, if_neg hk]
    have e4 : (4 : Int32).toInt = 4 := by decide
    have e86 : (86400 : Int32).toInt = 86400 := by decide
    have e21 : (21600 : Int32).toInt = 21600 := by decide
    have m1 := Jvm.Kit.i32_mul (p := 4) (q := k) (by rw [e4]; omega) (by rw [e4]; omega)
    have m2 := Jvm.Kit.i32_mul (p := k) (q := 4) (by rw [e4]; omega) (by rw [e4]; omega)
    rw [e4] at m1 m2
    have v := Jvm.Free.JP.Math_min_II.toInt_val (4 * k) 86400
    rw [e86, m1] at v
    apply Int32.toInt_inj.mp
    rw [v]
    by_cases hb : (21600 : Int32) < k
    · rw [if_pos hb, e86]; rw [Int32.lt_iff_toInt_lt, e21] at hb; omega
    · rw [if_neg hb, m2]; rw [Int32.lt_iff_toInt_lt, e21] at hb; omega
theorem d1_0 : decode prog_8_method_2_code 0 = .ok (.iload_n 0, 1) := by decide +kernel
theorem d1_1 : decode prog_8_method_2_code 1 = .ok (.ifCond .ne 8, 3) := by decide +kernel
theorem d1_4 : decode prog_8_method_2_code 4 = .ok (.bipush 60, 2) := by decide +kernel
theorem d1_6 : decode prog_8_method_2_code 6 = .ok (.goto 11, 3) := by decide +kernel
theorem d1_9 : decode prog_8_method_2_code 9 = .ok (.iconst 4, 1) := by decide +kernel
theorem d1_10 : decode prog_8_method_2_code 10 = .ok (.iload_n 0, 1) := by decide +kernel
theorem d1_11 : decode prog_8_method_2_code 11 = .ok (.imul, 1) := by decide +kernel
theorem d1_12 : decode prog_8_method_2_code 12 = .ok (.ldc 9, 2) := by decide +kernel
theorem d1_14 : decode prog_8_method_2_code 14 = .ok (.invokestatic 10, 3) := by decide +kernel
theorem d1_17 : decode prog_8_method_2_code 17 = .ok (.ireturn, 1) := by decide +kernel
theorem own_pn_Lockout : plainName "com/example/clock_to_code/clocktocode/core/Lockout" = true := by first | (simp [plainName, overriddenIn]; done) | decide +kernel
theorem ef_1 (m : MethodId) (x0 : Int32) : entryFrame m #[(.int x0)] 1 = mkF m 0 #[.val (.int x0)] [] := by first | (simp [entryFrame, mkF, argsToLocals, Value.category]; done) | rfl
def Qrm1 (Z : State) (p1 : Int32) (h0 : Heap) (n0 : Nat) (v : Option Value) (h : Heap) (L : List Loc) : Prop := v = some (.int (own_next p1)) ∧ Fr n0 L ∧ h = h0
set_option maxRecDepth 65536 in
set_option maxHeartbeats 40000000 in
theorem rm1 (l : Launch) (Z : State) (a0 : Array Value) (hw : ∀ d ∈ tables_1, d.before a0 Z = true) (ws : List Jvm.Cond) (p1 : Int32) (h0 : Heap) (n0 : Nat) (Z0 : n0 ≤ h0.size)  :
    MetFree l (⟨"com/example/clock_to_code/clocktocode/core/Lockout", "nextLockSeconds", "(I)I"⟩ : MethodName) (head1 (Jvm.Cond.code (⟨"com/example/clock_to_code/clocktocode/core/Lockout", "nextLockSeconds", "(I)I"⟩ : MethodName) prog_8_method_2_code 1 (some .int) :: ws) ({ frames := 1, cells := 0, slots := 0, locals := 13 } : Room)) (fun a U => a = #[(.int p1)] ∧ Z.Warmed39 U.vm ∧ U.heap = h0) (fun _ _ _ _ _ => True) (fun _ U o U' => ∃ v L, o = .returned v ∧ Qrm1 Z p1 h0 n0 v U'.heap L ∧ FrameEnd U o U' L ({ frames := 1, cells := 0, slots := 0, locals := 13 } : Room).cells ({ frames := 1, cells := 0, slots := 0, locals := 13 } : Room).slots) := by
  refine MetFree.of_bodySF (plainFor_of_name own_pn_Lockout) hisR ?_
  intro p e s m args below meth c s₁ Bd hml0 hP hK
  obtain ⟨rfl, hZ, hh⟩ := hP
  have hx := Bd.exec
  have hby := Bd.bytes
  have hml : c.maxLocals = 1 := hml0
  have hown : s.vm.findClass "com/example/clock_to_code/clocktocode/core/Lockout" = some m.cls := findClass_of_methodNamed Bd.named
  have hnm := (name_of_methodNamed Bd.named Bd.method).1
  have X0 : Stand p l e ({ frames := 1, cells := 0, slots := 0, locals := 13 } : Room) s m #[(.int p1)] below meth c s₁ [] 0 0 := Stand.of_body Bd
  have e0 : s₁.heap = h0 := by rw [← hh, Bd.state]; rfl
  have N0 := Fr.nil n0
  have pre0 : ∀ t, Steps p.tables e below (s₁.setTop (mkF m 0 #[.val (.int p1)] [])) t → Steps p.tables e below (s₁.setTop (entryFrame m #[(.int p1)] 1)) t := fun t k => castTop (ef_1 m p1) k
  obtain ⟨S0, hS0⟩ : ∃ z, z = s₁.setTop (mkF m 0 #[.val (.int p1)] []) := ⟨_, rfl⟩
  have c0 : Steps p.tables e below S0 (s₁.setTop (mkF m 0 #[.val (.int p1)] [])) := by rw [hS0]; exact Steps.refl _
  have c1 : Steps p.tables e below S0 (s₁.setTop (mkF m 1 #[.val (.int p1)] [(.int p1)])) := c0.trans (by
    refine XS.iloadN X0.here hx rfl (hb hby d1_0) rfl ?_
    show Steps p.tables e below (s₁.setTop (mkF m 1 #[.val (.int p1)] [(.int p1)])) _
    exact Steps.refl _)
  by_cases k1 : p1 = 0
  ·
    have c2 : Steps p.tables e below S0 (s₁.setTop (mkF m 17 #[.val (.int p1)] [(.int (60 : Int32))])) := c1.trans (by
      refine XS.ifNo X0.here hx rfl (hb hby d1_1) rfl (XT.i0_ne_f k1) ?_
      show Steps p.tables e below (s₁.setTop (mkF m 4 #[.val (.int p1)] [])) _
      refine XT.bipushV X0.here hx rfl (60 : Int32) (hb hby d1_4) (by decide) ?_
      show Steps p.tables e below (s₁.setTop (mkF m 6 #[.val (.int p1)] [(.int (60 : Int32))])) _
      refine XS.goto X0.here hx rfl (pc0 := 6) (pc' := 17) rfl (hb hby d1_6) (by decide) (by decide) ?_
      show Steps p.tables e below (s₁.setTop (mkF m 17 #[.val (.int p1)] [(.int (60 : Int32))])) _
      exact Steps.refl _)
    obtain ⟨fs, hr, hrun, hended, hW, hsame⟩ := X0.leave (v := some (.int (60 : Int32))) (fun h => by rw [Bd.returns] at h; cases h)
    refine ⟨_, _, pre0 _ ?_, hrun, hended, _, _, rfl, ?_, ⟨_, rfl⟩, hW, hsame.mono (by decide) (by decide)⟩
    · rw [← hS0]
      exact c2.trans (retI X0 hx Bd.returns (hb hby d1_17) hr)
    · show Qrm1 Z p1 h0 n0 _ s₁.heap _
      rw [e0]
      exact ⟨by rw [own_next, if_pos k1], N0, rfl⟩
  ·
    have c3 : Steps p.tables e below S0 (s₁.setTop (mkF m 14 #[.val (.int p1)] [(.int (86400 : Int32)), (.int ((4 : Int32) * p1))])) := c1.trans (by
      refine XS.ifYes X0.here hx rfl (pc0 := 1) (pc' := 9) rfl (hb hby d1_1) rfl (XT.i0_ne_t k1) (by decide) (by decide) ?_
      show Steps p.tables e below (s₁.setTop (mkF m 9 #[.val (.int p1)] [])) _
      refine XT.iconstV X0.here hx rfl (4 : Int32) (hb hby d1_9) (by decide) ?_
      show Steps p.tables e below (s₁.setTop (mkF m 10 #[.val (.int p1)] [(.int (4 : Int32))])) _
      refine XS.iloadN X0.here hx rfl (hb hby d1_10) rfl ?_
      show Steps p.tables e below (s₁.setTop (mkF m 11 #[.val (.int p1)] [(.int p1), (.int (4 : Int32))])) _
      refine XS.imul X0.here hx rfl (hb hby d1_11) rfl ?_
      show Steps p.tables e below (s₁.setTop (mkF m 12 #[.val (.int p1)] [(.int ((4 : Int32) * p1))])) _
      refine X0.ldcI hx hown (mvT hZ (hw _ (List.mem_of_getElem? (i := 6) rfl))) (g := (mkF m 12 #[.val (.int p1)] [(.int ((4 : Int32) * p1))])) rfl (hb hby d1_12) ?_
      show Steps p.tables e below (s₁.setTop (mkF m 14 #[.val (.int p1)] [(.int (86400 : Int32)), (.int ((4 : Int32) * p1))])) _
      exact Steps.refl _)
    obtain ⟨_, _, ⟨T4, L4, k4, n4⟩, -, X4, hQ4, st4⟩ := Jvm.LawKit.callS X0 hx (y := (⟨"java/lang/Math", "min", "(II)I"⟩ : MethodName)) hown (mvT hZ (hw _ (List.mem_of_getElem? (i := 7) rfl))) (mvT hZ (hw _ (List.mem_of_getElem? (i := 8) rfl))) (mvT hZ (hw _ (List.mem_of_getElem? (i := 9) rfl))) (mvT hZ (hw _ (List.mem_of_getElem? (i := 10) rfl))) (by decide) (Jvm.Free.JP.Math_min_II.pays (W := 0) ((4 : Int32) * p1) (86400 : Int32) (own_min_tab (mvT hZ (hw _ (List.mem_of_getElem? (i := 10) rfl))) (mvT hZ (hw _ (List.mem_of_getElem? (i := 9) rfl)))) (by decide) (by decide)) (g := (mkF m 14 #[.val (.int p1)] [(.int (86400 : Int32)), (.int ((4 : Int32) * p1))])) rfl (by rw [hml]; rfl) (argsL := [(.int ((4 : Int32) * p1)), (.int (86400 : Int32))]) (rest := []) (lenOf own_pd__II_I rfl) rfl (by show 2 * 0 + _ ≤ _; exact Nat.le_of_eq rfl) (hb hby d1_14) (fun _ _ => ⟨Nat.le_of_ble_eq_true rfl, Nat.le_of_ble_eq_true rfl, rfl, trivial⟩)
    dsimp only [Pt.U, Pt.locs, Pt.cells, Pt.slots] at X4 hQ4 st4
    obtain ⟨⟨rfl, eh4⟩, l4, y4, z4⟩ := hQ4
    subst l4 y4 z4
    have eq4 : T4.heap = h0 := eh4.trans e0
    have N4 := Fr.app N0 (Fr.nil n0)
    have c5 : Steps p.tables e below S0 (T4.setTop (mkF m 17 #[.val (.int p1)] [(.int (Jvm.Free.JP.Math_min_II.val ((4 : Int32) * p1) (86400 : Int32)))])) := c3.trans (st4 _ (Steps.refl _))
    obtain ⟨fs, hr, hrun, hended, hW, hsame⟩ := X4.leave (v := some (.int (Jvm.Free.JP.Math_min_II.val ((4 : Int32) * p1) (86400 : Int32)))) (fun h => by rw [Bd.returns] at h; cases h)
    refine ⟨_, _, pre0 _ ?_, hrun, hended, _, _, rfl, ?_, ⟨_, rfl⟩, hW, hsame.mono (by decide) (by decide)⟩
    · rw [← hS0]
      exact c5.trans (retI X4 hx Bd.returns (hb hby d1_17) hr)
    · show Qrm1 Z p1 h0 n0 _ T4.heap _
      rw [eq4]
      exact ⟨by rw [own_next, if_neg k1], N4, rfl⟩
theorem own_pn_LockoutNextLockSecondsPinLaw : plainName "com/example/clock_to_code/clocktocode/core/LockoutNextLockSecondsPinLaw" = true := by first | (simp [plainName, overriddenIn]; done) | decide +kernel
theorem ef_0 (m : MethodId) (x0 : Int32) : entryFrame m #[(.int x0)] maxLocals = mkF m 0 #[.val (.int x0), .unset, .unset] [] := by first | (simp [entryFrame, mkF, argsToLocals, Value.category, maxLocals]; done) | rfl
def Qrm0 (Z : State) (p1 : Int32) (h0 : Heap) (n0 : Nat) (v : Option Value) (h : Heap) (L : List Loc) : Prop := v = some (.int 1) ∧ Fr n0 L
set_option maxRecDepth 65536 in
set_option maxHeartbeats 40000000 in
theorem rm0 (l : Launch) (Z : State) (a0 : Array Value) (hw : ∀ d ∈ tables_1, d.before a0 Z = true) (ws : List Jvm.Cond) (p1 : Int32) (h0 : Heap) (n0 : Nat) (Z0 : n0 ≤ h0.size)  :
    MetFree l x (head1 (Jvm.Cond.code x code maxLocals ret :: ws) (room_1 : Room)) (fun a U => a = #[(.int p1)] ∧ Z.Warmed39 U.vm ∧ U.heap = h0) (fun _ _ _ _ _ => True) (fun _ U o U' => ∃ v L, o = .returned v ∧ Qrm0 Z p1 h0 n0 v U'.heap L ∧ FrameEnd U o U' L (room_1 : Room).cells (room_1 : Room).slots) := by
  refine MetFree.of_bodySF (plainFor_of_name own_pn_LockoutNextLockSecondsPinLaw) hisR ?_
  intro p e s m args below meth c s₁ Bd hml0 hP hK
  obtain ⟨rfl, hZ, hh⟩ := hP
  have hx := Bd.exec
  have hby := Bd.bytes
  have hml : c.maxLocals = 3 := hml0
  have hown : s.vm.findClass "com/example/clock_to_code/clocktocode/core/LockoutNextLockSecondsPinLaw" = some m.cls := findClass_of_methodNamed Bd.named
  have hnm := (name_of_methodNamed Bd.named Bd.method).1
  have X0 : Stand p l e (room_1 : Room) s m #[(.int p1)] below meth c s₁ [] 0 0 := Stand.of_body Bd
  have e0 : s₁.heap = h0 := by rw [← hh, Bd.state]; rfl
  have N0 := Fr.nil n0
  have pre0 : ∀ t, Steps p.tables e below (s₁.setTop (mkF m 0 #[.val (.int p1), .unset, .unset] [])) t → Steps p.tables e below (s₁.setTop (entryFrame m #[(.int p1)] maxLocals)) t := fun t k => castTop (ef_0 m p1) k
  obtain ⟨S0, hS0⟩ : ∃ z, z = s₁.setTop (mkF m 0 #[.val (.int p1), .unset, .unset] []) := ⟨_, rfl⟩
  have c0 : Steps p.tables e below S0 (s₁.setTop (mkF m 0 #[.val (.int p1), .unset, .unset] [])) := by rw [hS0]; exact Steps.refl _
  have c1 : Steps p.tables e below S0 (s₁.setTop (mkF m 8 #[.val (.int p1), .val (.int ((p1 &&& (2147483647 : Int32)) % (86401 : Int32))), .unset] [])) := c0.trans (by
    refine XS.iloadN X0.here hx rfl (hb hby at_0) rfl ?_
    show Steps p.tables e below (s₁.setTop (mkF m 1 #[.val (.int p1), .unset, .unset] [(.int p1)])) _
    refine X0.ldcI hx hown (mvT hZ (hw _ (List.mem_of_getElem? (i := 0) rfl))) (g := (mkF m 1 #[.val (.int p1), .unset, .unset] [(.int p1)])) rfl (hb hby at_1) ?_
    show Steps p.tables e below (s₁.setTop (mkF m 3 #[.val (.int p1), .unset, .unset] [(.int (2147483647 : Int32)), (.int p1)])) _
    refine XS.iand X0.here hx rfl (hb hby at_3) rfl ?_
    show Steps p.tables e below (s₁.setTop (mkF m 4 #[.val (.int p1), .unset, .unset] [(.int (p1 &&& (2147483647 : Int32)))])) _
    refine X0.ldcI hx hown (mvT hZ (hw _ (List.mem_of_getElem? (i := 1) rfl))) (g := (mkF m 4 #[.val (.int p1), .unset, .unset] [(.int (p1 &&& (2147483647 : Int32)))])) rfl (hb hby at_4) ?_
    show Steps p.tables e below (s₁.setTop (mkF m 6 #[.val (.int p1), .unset, .unset] [(.int (86401 : Int32)), (.int (p1 &&& (2147483647 : Int32)))])) _
    refine iremM X0 hx rfl (hb hby at_6) rfl (by decide) ?_
    show Steps p.tables e below (s₁.setTop (mkF m 7 #[.val (.int p1), .unset, .unset] [(.int ((p1 &&& (2147483647 : Int32)) % (86401 : Int32)))])) _
    refine XS.istoreN X0.here hx rfl (hb hby at_7) rfl (l' := #[.val (.int p1), .val (.int ((p1 &&& (2147483647 : Int32)) % (86401 : Int32))), .unset]) rfl ?_
    show Steps p.tables e below (s₁.setTop (mkF m 8 #[.val (.int p1), .val (.int ((p1 &&& (2147483647 : Int32)) % (86401 : Int32))), .unset] [])) _
    exact Steps.refl _)
  obtain ⟨xq, hxq⟩ : ∃ z, z = ((p1 &&& (2147483647 : Int32)) % (86401 : Int32)) := ⟨_, rfl⟩
  rw [← hxq] at c1
  obtain ⟨b1, b2⟩ := own_range p1
  rw [← hxq] at b1 b2
  have c2 : Steps p.tables e below S0 (s₁.setTop (mkF m 9 #[.val (.int p1), .val (.int xq), .unset] [(.int xq)])) := c1.trans (by
    refine XS.iloadN X0.here hx rfl (hb hby at_8) rfl ?_
    show Steps p.tables e below (s₁.setTop (mkF m 9 #[.val (.int p1), .val (.int xq), .unset] [(.int xq)])) _
    exact Steps.refl _)
  obtain ⟨ex, hex⟩ : ∃ z, z = (if xq = 0 then (60 : Int32) else (if (21600 : Int32) < xq then (86400 : Int32) else (xq * (4 : Int32)))) := ⟨_, rfl⟩
  have c3 : Steps p.tables e below S0 (s₁.setTop (mkF m 35 #[.val (.int p1), .val (.int xq), .val (.int ex)] [])) := by
    by_cases hj0 : xq = 0
    ·
      rw [hex, if_pos hj0]
      exact c2.trans (by
        refine XS.ifNo X0.here hx rfl (hb hby at_9) rfl (XT.i0_ne_f hj0) ?_
        show Steps p.tables e below (s₁.setTop (mkF m 12 #[.val (.int p1), .val (.int xq), .unset] [])) _
        refine XT.bipushV X0.here hx rfl (60 : Int32) (hb hby at_12) (by decide) ?_
        show Steps p.tables e below (s₁.setTop (mkF m 14 #[.val (.int p1), .val (.int xq), .unset] [(.int (60 : Int32))])) _
        refine XS.istoreN X0.here hx rfl (hb hby at_14) rfl (l' := #[.val (.int p1), .val (.int xq), .val (.int (60 : Int32))]) rfl ?_
        show Steps p.tables e below (s₁.setTop (mkF m 15 #[.val (.int p1), .val (.int xq), .val (.int (60 : Int32))] [])) _
        refine XS.goto X0.here hx rfl (pc0 := 15) (pc' := 35) rfl (hb hby at_15) (by decide) (by decide) ?_
        show Steps p.tables e below (s₁.setTop (mkF m 35 #[.val (.int p1), .val (.int xq), .val (.int (60 : Int32))] [])) _
        exact Steps.refl _)
    ·
      by_cases hj1 : (21600 : Int32) < xq
      ·
        rw [hex, if_neg hj0, if_pos hj1]
        exact c2.trans (by
          refine XS.ifYes X0.here hx rfl (pc0 := 9) (pc' := 18) rfl (hb hby at_9) rfl (XT.i0_ne_t hj0) (by decide) (by decide) ?_
          show Steps p.tables e below (s₁.setTop (mkF m 18 #[.val (.int p1), .val (.int xq), .unset] [])) _
          refine XS.iloadN X0.here hx rfl (hb hby at_18) rfl ?_
          show Steps p.tables e below (s₁.setTop (mkF m 19 #[.val (.int p1), .val (.int xq), .unset] [(.int xq)])) _
          refine XT.sipushV X0.here hx rfl (21600 : Int32) (hb hby at_19) (by decide) ?_
          show Steps p.tables e below (s₁.setTop (mkF m 22 #[.val (.int p1), .val (.int xq), .unset] [(.int (21600 : Int32)), (.int xq)])) _
          refine XS.icmpNo X0.here hx rfl (hb hby at_22) rfl (XT.ii_le_f hj1) ?_
          show Steps p.tables e below (s₁.setTop (mkF m 25 #[.val (.int p1), .val (.int xq), .unset] [])) _
          refine X0.ldcI hx hown (mvT hZ (hw _ (List.mem_of_getElem? (i := 12) rfl))) (g := (mkF m 25 #[.val (.int p1), .val (.int xq), .unset] [])) rfl (hb hby at_25) ?_
          show Steps p.tables e below (s₁.setTop (mkF m 27 #[.val (.int p1), .val (.int xq), .unset] [(.int (86400 : Int32))])) _
          refine XS.istoreN X0.here hx rfl (hb hby at_27) rfl (l' := #[.val (.int p1), .val (.int xq), .val (.int (86400 : Int32))]) rfl ?_
          show Steps p.tables e below (s₁.setTop (mkF m 28 #[.val (.int p1), .val (.int xq), .val (.int (86400 : Int32))] [])) _
          refine XS.goto X0.here hx rfl (pc0 := 28) (pc' := 35) rfl (hb hby at_28) (by decide) (by decide) ?_
          show Steps p.tables e below (s₁.setTop (mkF m 35 #[.val (.int p1), .val (.int xq), .val (.int (86400 : Int32))] [])) _
          exact Steps.refl _)
      ·
        rw [hex, if_neg hj0, if_neg hj1]
        exact c2.trans (by
          refine XS.ifYes X0.here hx rfl (pc0 := 9) (pc' := 18) rfl (hb hby at_9) rfl (XT.i0_ne_t hj0) (by decide) (by decide) ?_
          show Steps p.tables e below (s₁.setTop (mkF m 18 #[.val (.int p1), .val (.int xq), .unset] [])) _
          refine XS.iloadN X0.here hx rfl (hb hby at_18) rfl ?_
          show Steps p.tables e below (s₁.setTop (mkF m 19 #[.val (.int p1), .val (.int xq), .unset] [(.int xq)])) _
          refine XT.sipushV X0.here hx rfl (21600 : Int32) (hb hby at_19) (by decide) ?_
          show Steps p.tables e below (s₁.setTop (mkF m 22 #[.val (.int p1), .val (.int xq), .unset] [(.int (21600 : Int32)), (.int xq)])) _
          refine XS.icmpYes X0.here hx rfl (pc0 := 22) (pc' := 31) rfl (hb hby at_22) rfl (XT.ii_le_t hj1) (by decide) (by decide) ?_
          show Steps p.tables e below (s₁.setTop (mkF m 31 #[.val (.int p1), .val (.int xq), .unset] [])) _
          refine XS.iloadN X0.here hx rfl (hb hby at_31) rfl ?_
          show Steps p.tables e below (s₁.setTop (mkF m 32 #[.val (.int p1), .val (.int xq), .unset] [(.int xq)])) _
          refine XT.iconstV X0.here hx rfl (4 : Int32) (hb hby at_32) (by decide) ?_
          show Steps p.tables e below (s₁.setTop (mkF m 33 #[.val (.int p1), .val (.int xq), .unset] [(.int (4 : Int32)), (.int xq)])) _
          refine XS.imul X0.here hx rfl (hb hby at_33) rfl ?_
          show Steps p.tables e below (s₁.setTop (mkF m 34 #[.val (.int p1), .val (.int xq), .unset] [(.int (xq * (4 : Int32)))])) _
          refine XS.istoreN X0.here hx rfl (hb hby at_34) rfl (l' := #[.val (.int p1), .val (.int xq), .val (.int (xq * (4 : Int32)))]) rfl ?_
          show Steps p.tables e below (s₁.setTop (mkF m 35 #[.val (.int p1), .val (.int xq), .val (.int (xq * (4 : Int32)))] [])) _
          exact Steps.refl _)
  have c4 : Steps p.tables e below S0 (s₁.setTop (mkF m 36 #[.val (.int p1), .val (.int xq), .val (.int ex)] [(.int xq)])) := c3.trans (by
    refine XS.iloadN X0.here hx rfl (hb hby at_35) rfl ?_
    show Steps p.tables e below (s₁.setTop (mkF m 36 #[.val (.int p1), .val (.int xq), .val (.int ex)] [(.int xq)])) _
    exact Steps.refl _)
  obtain ⟨_, _, ⟨T5, L5, k5, n5⟩, -, X5, hQ5, st5⟩ := Jvm.LawKit.callS X0 hx (y := (⟨"com/example/clock_to_code/clocktocode/core/Lockout", "nextLockSeconds", "(I)I"⟩ : MethodName)) hown (mvT hZ (hw _ (List.mem_of_getElem? (i := 2) rfl))) (mvT hZ (hw _ (List.mem_of_getElem? (i := 3) rfl))) (mvT hZ (hw _ (List.mem_of_getElem? (i := 4) rfl))) (mvT hZ (hw _ (List.mem_of_getElem? (i := 5) rfl))) (by decide) (backOf (W := 0) (rm1 l Z a0 hw [] xq h0 n0 Z0) hZ (hw _ (List.mem_of_getElem? (i := 5) rfl)) (hw _ (List.mem_of_getElem? (i := 4) rfl)) (by decide) (by decide)) (g := (mkF m 36 #[.val (.int p1), .val (.int xq), .val (.int ex)] [(.int xq)])) rfl (by rw [hml]; rfl) (argsL := [(.int xq)]) (rest := []) (lenOf own_pd__I_I rfl) rfl (by show 2 * 0 + _ ≤ _; exact Nat.le_of_eq rfl) (hb hby at_36) (fun _ _ => ⟨rfl, e0, (by decide : 0 + 0 ≤ _), (by decide : 0 + 0 ≤ _)⟩)
  dsimp only [Pt.U, Pt.locs, Pt.cells, Pt.slots] at X5 hQ5 st5
  obtain ⟨Lc5, hR5, l5, y5, z5⟩ := hQ5
  subst l5 y5 z5
  obtain ⟨rfl, Nq5, eh1_⟩ := hR5
  have N5 := Fr.app N0 Nq5
  have c6 : Steps p.tables e below S0 (T5.setTop (mkF m 39 #[.val (.int p1), .val (.int xq), .val (.int ex)] [(.int (own_next xq))])) := c4.trans (st5 _ (Steps.refl _))
  have c7 : Steps p.tables e below S0 (T5.setTop (mkF m 46 #[.val (.int p1), .val (.int xq), .val (.int ex)] [(.int (0 : Int32))])) := c6.trans (by
    refine XS.iloadN X5.here hx rfl (hb hby at_39) rfl ?_
    show Steps p.tables e below (T5.setTop (mkF m 40 #[.val (.int p1), .val (.int xq), .val (.int ex)] [(.int ex), (.int (own_next xq))])) _
    refine XS.icmpYes X5.here hx rfl (pc0 := 40) (pc' := 45) rfl (hb hby at_40) rfl (XT.ii_eq_t (by rw [hex]; exact own_key b1 b2)) (by decide) (by decide) ?_
    show Steps p.tables e below (T5.setTop (mkF m 45 #[.val (.int p1), .val (.int xq), .val (.int ex)] [])) _
    refine XT.iconstV X5.here hx rfl (0 : Int32) (hb hby at_45) (by decide) ?_
    show Steps p.tables e below (T5.setTop (mkF m 46 #[.val (.int p1), .val (.int xq), .val (.int ex)] [(.int (0 : Int32))])) _
    exact Steps.refl _)
  obtain ⟨_, _, ⟨T8, L8, k8, n8⟩, -, X8, hQ8, st8⟩ := Jvm.LawKit.callS X5 hx (y := (⟨"com/example/clock_to_code/clocktocode/core/Lockout", "nextLockSeconds", "(I)I"⟩ : MethodName)) hown (mvT hZ (hw _ (List.mem_of_getElem? (i := 2) rfl))) (mvT hZ (hw _ (List.mem_of_getElem? (i := 3) rfl))) (mvT hZ (hw _ (List.mem_of_getElem? (i := 4) rfl))) (mvT hZ (hw _ (List.mem_of_getElem? (i := 5) rfl))) (by decide) (backOf (W := 0) (rm1 l Z a0 hw [] (0 : Int32) h0 n0 Z0) hZ (hw _ (List.mem_of_getElem? (i := 5) rfl)) (hw _ (List.mem_of_getElem? (i := 4) rfl)) (by decide) (by decide)) (g := (mkF m 46 #[.val (.int p1), .val (.int xq), .val (.int ex)] [(.int (0 : Int32))])) rfl (by rw [hml]; rfl) (argsL := [(.int (0 : Int32))]) (rest := []) (lenOf own_pd__I_I rfl) rfl (by show 2 * 0 + _ ≤ _; exact Nat.le_of_eq rfl) (hb hby at_46) (fun _ _ => ⟨rfl, eh1_, (by decide : 0 + 0 ≤ _), (by decide : 0 + 0 ≤ _)⟩)
  dsimp only [Pt.U, Pt.locs, Pt.cells, Pt.slots] at X8 hQ8 st8
  obtain ⟨Lc8, hR8, l8, y8, z8⟩ := hQ8
  subst l8 y8 z8
  obtain ⟨rfl, Nq8, eh2_⟩ := hR8
  have N8 := Fr.app N5 Nq8
  have c9 : Steps p.tables e below S0 (T8.setTop (mkF m 49 #[.val (.int p1), .val (.int xq), .val (.int ex)] [(.int (own_next (0 : Int32)))])) := c7.trans (st8 _ (Steps.refl _))
  have c10 : Steps p.tables e below S0 (T8.setTop (mkF m 56 #[.val (.int p1), .val (.int xq), .val (.int ex)] [(.int (60 : Int32))])) := c9.trans (by
    refine XT.bipushV X8.here hx rfl (60 : Int32) (hb hby at_49) (by decide) ?_
    show Steps p.tables e below (T8.setTop (mkF m 51 #[.val (.int p1), .val (.int xq), .val (.int ex)] [(.int (60 : Int32)), (.int (own_next (0 : Int32)))])) _
    refine XS.icmpNo X8.here hx rfl (hb hby at_51) rfl (XT.ii_ne_f (by decide +kernel)) ?_
    show Steps p.tables e below (T8.setTop (mkF m 54 #[.val (.int p1), .val (.int xq), .val (.int ex)] [])) _
    refine XT.bipushV X8.here hx rfl (60 : Int32) (hb hby at_54) (by decide) ?_
    show Steps p.tables e below (T8.setTop (mkF m 56 #[.val (.int p1), .val (.int xq), .val (.int ex)] [(.int (60 : Int32))])) _
    exact Steps.refl _)
  obtain ⟨_, _, ⟨T11, L11, k11, n11⟩, -, X11, hQ11, st11⟩ := Jvm.LawKit.callS X8 hx (y := (⟨"com/example/clock_to_code/clocktocode/core/Lockout", "nextLockSeconds", "(I)I"⟩ : MethodName)) hown (mvT hZ (hw _ (List.mem_of_getElem? (i := 2) rfl))) (mvT hZ (hw _ (List.mem_of_getElem? (i := 3) rfl))) (mvT hZ (hw _ (List.mem_of_getElem? (i := 4) rfl))) (mvT hZ (hw _ (List.mem_of_getElem? (i := 5) rfl))) (by decide) (backOf (W := 0) (rm1 l Z a0 hw [] (60 : Int32) h0 n0 Z0) hZ (hw _ (List.mem_of_getElem? (i := 5) rfl)) (hw _ (List.mem_of_getElem? (i := 4) rfl)) (by decide) (by decide)) (g := (mkF m 56 #[.val (.int p1), .val (.int xq), .val (.int ex)] [(.int (60 : Int32))])) rfl (by rw [hml]; rfl) (argsL := [(.int (60 : Int32))]) (rest := []) (lenOf own_pd__I_I rfl) rfl (by show 2 * 0 + _ ≤ _; exact Nat.le_of_eq rfl) (hb hby at_56) (fun _ _ => ⟨rfl, eh2_, (by decide : 0 + 0 ≤ _), (by decide : 0 + 0 ≤ _)⟩)
  dsimp only [Pt.U, Pt.locs, Pt.cells, Pt.slots] at X11 hQ11 st11
  obtain ⟨Lc11, hR11, l11, y11, z11⟩ := hQ11
  subst l11 y11 z11
  obtain ⟨rfl, Nq11, eh3_⟩ := hR11
  have N11 := Fr.app N8 Nq11
  have c12 : Steps p.tables e below S0 (T11.setTop (mkF m 59 #[.val (.int p1), .val (.int xq), .val (.int ex)] [(.int (own_next (60 : Int32)))])) := c10.trans (st11 _ (Steps.refl _))
  have c13 : Steps p.tables e below S0 (T11.setTop (mkF m 68 #[.val (.int p1), .val (.int xq), .val (.int ex)] [(.int (240 : Int32))])) := c12.trans (by
    refine XT.sipushV X11.here hx rfl (240 : Int32) (hb hby at_59) (by decide) ?_
    show Steps p.tables e below (T11.setTop (mkF m 62 #[.val (.int p1), .val (.int xq), .val (.int ex)] [(.int (240 : Int32)), (.int (own_next (60 : Int32)))])) _
    refine XS.icmpNo X11.here hx rfl (hb hby at_62) rfl (XT.ii_ne_f (by decide +kernel)) ?_
    show Steps p.tables e below (T11.setTop (mkF m 65 #[.val (.int p1), .val (.int xq), .val (.int ex)] [])) _
    refine XT.sipushV X11.here hx rfl (240 : Int32) (hb hby at_65) (by decide) ?_
    show Steps p.tables e below (T11.setTop (mkF m 68 #[.val (.int p1), .val (.int xq), .val (.int ex)] [(.int (240 : Int32))])) _
    exact Steps.refl _)
  obtain ⟨_, _, ⟨T14, L14, k14, n14⟩, -, X14, hQ14, st14⟩ := Jvm.LawKit.callS X11 hx (y := (⟨"com/example/clock_to_code/clocktocode/core/Lockout", "nextLockSeconds", "(I)I"⟩ : MethodName)) hown (mvT hZ (hw _ (List.mem_of_getElem? (i := 2) rfl))) (mvT hZ (hw _ (List.mem_of_getElem? (i := 3) rfl))) (mvT hZ (hw _ (List.mem_of_getElem? (i := 4) rfl))) (mvT hZ (hw _ (List.mem_of_getElem? (i := 5) rfl))) (by decide) (backOf (W := 0) (rm1 l Z a0 hw [] (240 : Int32) h0 n0 Z0) hZ (hw _ (List.mem_of_getElem? (i := 5) rfl)) (hw _ (List.mem_of_getElem? (i := 4) rfl)) (by decide) (by decide)) (g := (mkF m 68 #[.val (.int p1), .val (.int xq), .val (.int ex)] [(.int (240 : Int32))])) rfl (by rw [hml]; rfl) (argsL := [(.int (240 : Int32))]) (rest := []) (lenOf own_pd__I_I rfl) rfl (by show 2 * 0 + _ ≤ _; exact Nat.le_of_eq rfl) (hb hby at_68) (fun _ _ => ⟨rfl, eh3_, (by decide : 0 + 0 ≤ _), (by decide : 0 + 0 ≤ _)⟩)
  dsimp only [Pt.U, Pt.locs, Pt.cells, Pt.slots] at X14 hQ14 st14
  obtain ⟨Lc14, hR14, l14, y14, z14⟩ := hQ14
  subst l14 y14 z14
  obtain ⟨rfl, Nq14, eh4_⟩ := hR14
  have N14 := Fr.app N11 Nq14
  have c15 : Steps p.tables e below S0 (T14.setTop (mkF m 71 #[.val (.int p1), .val (.int xq), .val (.int ex)] [(.int (own_next (240 : Int32)))])) := c13.trans (st14 _ (Steps.refl _))
  have c16 : Steps p.tables e below S0 (T14.setTop (mkF m 80 #[.val (.int p1), .val (.int xq), .val (.int ex)] [(.int (960 : Int32))])) := c15.trans (by
    refine XT.sipushV X14.here hx rfl (960 : Int32) (hb hby at_71) (by decide) ?_
    show Steps p.tables e below (T14.setTop (mkF m 74 #[.val (.int p1), .val (.int xq), .val (.int ex)] [(.int (960 : Int32)), (.int (own_next (240 : Int32)))])) _
    refine XS.icmpNo X14.here hx rfl (hb hby at_74) rfl (XT.ii_ne_f (by decide +kernel)) ?_
    show Steps p.tables e below (T14.setTop (mkF m 77 #[.val (.int p1), .val (.int xq), .val (.int ex)] [])) _
    refine XT.sipushV X14.here hx rfl (960 : Int32) (hb hby at_77) (by decide) ?_
    show Steps p.tables e below (T14.setTop (mkF m 80 #[.val (.int p1), .val (.int xq), .val (.int ex)] [(.int (960 : Int32))])) _
    exact Steps.refl _)
  obtain ⟨_, _, ⟨T17, L17, k17, n17⟩, -, X17, hQ17, st17⟩ := Jvm.LawKit.callS X14 hx (y := (⟨"com/example/clock_to_code/clocktocode/core/Lockout", "nextLockSeconds", "(I)I"⟩ : MethodName)) hown (mvT hZ (hw _ (List.mem_of_getElem? (i := 2) rfl))) (mvT hZ (hw _ (List.mem_of_getElem? (i := 3) rfl))) (mvT hZ (hw _ (List.mem_of_getElem? (i := 4) rfl))) (mvT hZ (hw _ (List.mem_of_getElem? (i := 5) rfl))) (by decide) (backOf (W := 0) (rm1 l Z a0 hw [] (960 : Int32) h0 n0 Z0) hZ (hw _ (List.mem_of_getElem? (i := 5) rfl)) (hw _ (List.mem_of_getElem? (i := 4) rfl)) (by decide) (by decide)) (g := (mkF m 80 #[.val (.int p1), .val (.int xq), .val (.int ex)] [(.int (960 : Int32))])) rfl (by rw [hml]; rfl) (argsL := [(.int (960 : Int32))]) (rest := []) (lenOf own_pd__I_I rfl) rfl (by show 2 * 0 + _ ≤ _; exact Nat.le_of_eq rfl) (hb hby at_80) (fun _ _ => ⟨rfl, eh4_, (by decide : 0 + 0 ≤ _), (by decide : 0 + 0 ≤ _)⟩)
  dsimp only [Pt.U, Pt.locs, Pt.cells, Pt.slots] at X17 hQ17 st17
  obtain ⟨Lc17, hR17, l17, y17, z17⟩ := hQ17
  subst l17 y17 z17
  obtain ⟨rfl, Nq17, eh5_⟩ := hR17
  have N17 := Fr.app N14 Nq17
  have c18 : Steps p.tables e below S0 (T17.setTop (mkF m 83 #[.val (.int p1), .val (.int xq), .val (.int ex)] [(.int (own_next (960 : Int32)))])) := c16.trans (st17 _ (Steps.refl _))
  have c19 : Steps p.tables e below S0 (T17.setTop (mkF m 92 #[.val (.int p1), .val (.int xq), .val (.int ex)] [(.int (3840 : Int32))])) := c18.trans (by
    refine XT.sipushV X17.here hx rfl (3840 : Int32) (hb hby at_83) (by decide) ?_
    show Steps p.tables e below (T17.setTop (mkF m 86 #[.val (.int p1), .val (.int xq), .val (.int ex)] [(.int (3840 : Int32)), (.int (own_next (960 : Int32)))])) _
    refine XS.icmpNo X17.here hx rfl (hb hby at_86) rfl (XT.ii_ne_f (by decide +kernel)) ?_
    show Steps p.tables e below (T17.setTop (mkF m 89 #[.val (.int p1), .val (.int xq), .val (.int ex)] [])) _
    refine XT.sipushV X17.here hx rfl (3840 : Int32) (hb hby at_89) (by decide) ?_
    show Steps p.tables e below (T17.setTop (mkF m 92 #[.val (.int p1), .val (.int xq), .val (.int ex)] [(.int (3840 : Int32))])) _
    exact Steps.refl _)
  obtain ⟨_, _, ⟨T20, L20, k20, n20⟩, -, X20, hQ20, st20⟩ := Jvm.LawKit.callS X17 hx (y := (⟨"com/example/clock_to_code/clocktocode/core/Lockout", "nextLockSeconds", "(I)I"⟩ : MethodName)) hown (mvT hZ (hw _ (List.mem_of_getElem? (i := 2) rfl))) (mvT hZ (hw _ (List.mem_of_getElem? (i := 3) rfl))) (mvT hZ (hw _ (List.mem_of_getElem? (i := 4) rfl))) (mvT hZ (hw _ (List.mem_of_getElem? (i := 5) rfl))) (by decide) (backOf (W := 0) (rm1 l Z a0 hw [] (3840 : Int32) h0 n0 Z0) hZ (hw _ (List.mem_of_getElem? (i := 5) rfl)) (hw _ (List.mem_of_getElem? (i := 4) rfl)) (by decide) (by decide)) (g := (mkF m 92 #[.val (.int p1), .val (.int xq), .val (.int ex)] [(.int (3840 : Int32))])) rfl (by rw [hml]; rfl) (argsL := [(.int (3840 : Int32))]) (rest := []) (lenOf own_pd__I_I rfl) rfl (by show 2 * 0 + _ ≤ _; exact Nat.le_of_eq rfl) (hb hby at_92) (fun _ _ => ⟨rfl, eh5_, (by decide : 0 + 0 ≤ _), (by decide : 0 + 0 ≤ _)⟩)
  dsimp only [Pt.U, Pt.locs, Pt.cells, Pt.slots] at X20 hQ20 st20
  obtain ⟨Lc20, hR20, l20, y20, z20⟩ := hQ20
  subst l20 y20 z20
  obtain ⟨rfl, Nq20, eh6_⟩ := hR20
  have N20 := Fr.app N17 Nq20
  have c21 : Steps p.tables e below S0 (T20.setTop (mkF m 95 #[.val (.int p1), .val (.int xq), .val (.int ex)] [(.int (own_next (3840 : Int32)))])) := c19.trans (st20 _ (Steps.refl _))
  have c22 : Steps p.tables e below S0 (T20.setTop (mkF m 104 #[.val (.int p1), .val (.int xq), .val (.int ex)] [(.int (15360 : Int32))])) := c21.trans (by
    refine XT.sipushV X20.here hx rfl (15360 : Int32) (hb hby at_95) (by decide) ?_
    show Steps p.tables e below (T20.setTop (mkF m 98 #[.val (.int p1), .val (.int xq), .val (.int ex)] [(.int (15360 : Int32)), (.int (own_next (3840 : Int32)))])) _
    refine XS.icmpNo X20.here hx rfl (hb hby at_98) rfl (XT.ii_ne_f (by decide +kernel)) ?_
    show Steps p.tables e below (T20.setTop (mkF m 101 #[.val (.int p1), .val (.int xq), .val (.int ex)] [])) _
    refine XT.sipushV X20.here hx rfl (15360 : Int32) (hb hby at_101) (by decide) ?_
    show Steps p.tables e below (T20.setTop (mkF m 104 #[.val (.int p1), .val (.int xq), .val (.int ex)] [(.int (15360 : Int32))])) _
    exact Steps.refl _)
  obtain ⟨_, _, ⟨T23, L23, k23, n23⟩, -, X23, hQ23, st23⟩ := Jvm.LawKit.callS X20 hx (y := (⟨"com/example/clock_to_code/clocktocode/core/Lockout", "nextLockSeconds", "(I)I"⟩ : MethodName)) hown (mvT hZ (hw _ (List.mem_of_getElem? (i := 2) rfl))) (mvT hZ (hw _ (List.mem_of_getElem? (i := 3) rfl))) (mvT hZ (hw _ (List.mem_of_getElem? (i := 4) rfl))) (mvT hZ (hw _ (List.mem_of_getElem? (i := 5) rfl))) (by decide) (backOf (W := 0) (rm1 l Z a0 hw [] (15360 : Int32) h0 n0 Z0) hZ (hw _ (List.mem_of_getElem? (i := 5) rfl)) (hw _ (List.mem_of_getElem? (i := 4) rfl)) (by decide) (by decide)) (g := (mkF m 104 #[.val (.int p1), .val (.int xq), .val (.int ex)] [(.int (15360 : Int32))])) rfl (by rw [hml]; rfl) (argsL := [(.int (15360 : Int32))]) (rest := []) (lenOf own_pd__I_I rfl) rfl (by show 2 * 0 + _ ≤ _; exact Nat.le_of_eq rfl) (hb hby at_104) (fun _ _ => ⟨rfl, eh6_, (by decide : 0 + 0 ≤ _), (by decide : 0 + 0 ≤ _)⟩)
  dsimp only [Pt.U, Pt.locs, Pt.cells, Pt.slots] at X23 hQ23 st23
  obtain ⟨Lc23, hR23, l23, y23, z23⟩ := hQ23
  subst l23 y23 z23
  obtain ⟨rfl, Nq23, eh7_⟩ := hR23
  have N23 := Fr.app N20 Nq23
  have c24 : Steps p.tables e below S0 (T23.setTop (mkF m 107 #[.val (.int p1), .val (.int xq), .val (.int ex)] [(.int (own_next (15360 : Int32)))])) := c22.trans (st23 _ (Steps.refl _))
  have c25 : Steps p.tables e below S0 (T23.setTop (mkF m 114 #[.val (.int p1), .val (.int xq), .val (.int ex)] [(.int (61440 : Int32))])) := c24.trans (by
    refine X23.ldcI hx hown (mvT hZ (hw _ (List.mem_of_getElem? (i := 11) rfl))) (g := (mkF m 107 #[.val (.int p1), .val (.int xq), .val (.int ex)] [(.int (own_next (15360 : Int32)))])) rfl (hb hby at_107) ?_
    show Steps p.tables e below (T23.setTop (mkF m 109 #[.val (.int p1), .val (.int xq), .val (.int ex)] [(.int (61440 : Int32)), (.int (own_next (15360 : Int32)))])) _
    refine XS.icmpNo X23.here hx rfl (hb hby at_109) rfl (XT.ii_ne_f (by decide +kernel)) ?_
    show Steps p.tables e below (T23.setTop (mkF m 112 #[.val (.int p1), .val (.int xq), .val (.int ex)] [])) _
    refine X23.ldcI hx hown (mvT hZ (hw _ (List.mem_of_getElem? (i := 11) rfl))) (g := (mkF m 112 #[.val (.int p1), .val (.int xq), .val (.int ex)] [])) rfl (hb hby at_112) ?_
    show Steps p.tables e below (T23.setTop (mkF m 114 #[.val (.int p1), .val (.int xq), .val (.int ex)] [(.int (61440 : Int32))])) _
    exact Steps.refl _)
  obtain ⟨_, _, ⟨T26, L26, k26, n26⟩, -, X26, hQ26, st26⟩ := Jvm.LawKit.callS X23 hx (y := (⟨"com/example/clock_to_code/clocktocode/core/Lockout", "nextLockSeconds", "(I)I"⟩ : MethodName)) hown (mvT hZ (hw _ (List.mem_of_getElem? (i := 2) rfl))) (mvT hZ (hw _ (List.mem_of_getElem? (i := 3) rfl))) (mvT hZ (hw _ (List.mem_of_getElem? (i := 4) rfl))) (mvT hZ (hw _ (List.mem_of_getElem? (i := 5) rfl))) (by decide) (backOf (W := 0) (rm1 l Z a0 hw [] (61440 : Int32) h0 n0 Z0) hZ (hw _ (List.mem_of_getElem? (i := 5) rfl)) (hw _ (List.mem_of_getElem? (i := 4) rfl)) (by decide) (by decide)) (g := (mkF m 114 #[.val (.int p1), .val (.int xq), .val (.int ex)] [(.int (61440 : Int32))])) rfl (by rw [hml]; rfl) (argsL := [(.int (61440 : Int32))]) (rest := []) (lenOf own_pd__I_I rfl) rfl (by show 2 * 0 + _ ≤ _; exact Nat.le_of_eq rfl) (hb hby at_114) (fun _ _ => ⟨rfl, eh7_, (by decide : 0 + 0 ≤ _), (by decide : 0 + 0 ≤ _)⟩)
  dsimp only [Pt.U, Pt.locs, Pt.cells, Pt.slots] at X26 hQ26 st26
  obtain ⟨Lc26, hR26, l26, y26, z26⟩ := hQ26
  subst l26 y26 z26
  obtain ⟨rfl, Nq26, eh8_⟩ := hR26
  have N26 := Fr.app N23 Nq26
  have c27 : Steps p.tables e below S0 (T26.setTop (mkF m 117 #[.val (.int p1), .val (.int xq), .val (.int ex)] [(.int (own_next (61440 : Int32)))])) := c25.trans (st26 _ (Steps.refl _))
  have c28 : Steps p.tables e below S0 (T26.setTop (mkF m 124 #[.val (.int p1), .val (.int xq), .val (.int ex)] [(.int (86400 : Int32))])) := c27.trans (by
    refine X26.ldcI hx hown (mvT hZ (hw _ (List.mem_of_getElem? (i := 12) rfl))) (g := (mkF m 117 #[.val (.int p1), .val (.int xq), .val (.int ex)] [(.int (own_next (61440 : Int32)))])) rfl (hb hby at_117) ?_
    show Steps p.tables e below (T26.setTop (mkF m 119 #[.val (.int p1), .val (.int xq), .val (.int ex)] [(.int (86400 : Int32)), (.int (own_next (61440 : Int32)))])) _
    refine XS.icmpNo X26.here hx rfl (hb hby at_119) rfl (XT.ii_ne_f (by decide +kernel)) ?_
    show Steps p.tables e below (T26.setTop (mkF m 122 #[.val (.int p1), .val (.int xq), .val (.int ex)] [])) _
    refine X26.ldcI hx hown (mvT hZ (hw _ (List.mem_of_getElem? (i := 12) rfl))) (g := (mkF m 122 #[.val (.int p1), .val (.int xq), .val (.int ex)] [])) rfl (hb hby at_122) ?_
    show Steps p.tables e below (T26.setTop (mkF m 124 #[.val (.int p1), .val (.int xq), .val (.int ex)] [(.int (86400 : Int32))])) _
    exact Steps.refl _)
  obtain ⟨_, _, ⟨T29, L29, k29, n29⟩, -, X29, hQ29, st29⟩ := Jvm.LawKit.callS X26 hx (y := (⟨"com/example/clock_to_code/clocktocode/core/Lockout", "nextLockSeconds", "(I)I"⟩ : MethodName)) hown (mvT hZ (hw _ (List.mem_of_getElem? (i := 2) rfl))) (mvT hZ (hw _ (List.mem_of_getElem? (i := 3) rfl))) (mvT hZ (hw _ (List.mem_of_getElem? (i := 4) rfl))) (mvT hZ (hw _ (List.mem_of_getElem? (i := 5) rfl))) (by decide) (backOf (W := 0) (rm1 l Z a0 hw [] (86400 : Int32) h0 n0 Z0) hZ (hw _ (List.mem_of_getElem? (i := 5) rfl)) (hw _ (List.mem_of_getElem? (i := 4) rfl)) (by decide) (by decide)) (g := (mkF m 124 #[.val (.int p1), .val (.int xq), .val (.int ex)] [(.int (86400 : Int32))])) rfl (by rw [hml]; rfl) (argsL := [(.int (86400 : Int32))]) (rest := []) (lenOf own_pd__I_I rfl) rfl (by show 2 * 0 + _ ≤ _; exact Nat.le_of_eq rfl) (hb hby at_124) (fun _ _ => ⟨rfl, eh8_, (by decide : 0 + 0 ≤ _), (by decide : 0 + 0 ≤ _)⟩)
  dsimp only [Pt.U, Pt.locs, Pt.cells, Pt.slots] at X29 hQ29 st29
  obtain ⟨Lc29, hR29, l29, y29, z29⟩ := hQ29
  subst l29 y29 z29
  obtain ⟨rfl, Nq29, eh9_⟩ := hR29
  have N29 := Fr.app N26 Nq29
  have c30 : Steps p.tables e below S0 (T29.setTop (mkF m 127 #[.val (.int p1), .val (.int xq), .val (.int ex)] [(.int (own_next (86400 : Int32)))])) := c28.trans (st29 _ (Steps.refl _))
  have c31 : Steps p.tables e below S0 (T29.setTop (mkF m 137 #[.val (.int p1), .val (.int xq), .val (.int ex)] [(.int (1 : Int32))])) := c30.trans (by
    refine X29.ldcI hx hown (mvT hZ (hw _ (List.mem_of_getElem? (i := 12) rfl))) (g := (mkF m 127 #[.val (.int p1), .val (.int xq), .val (.int ex)] [(.int (own_next (86400 : Int32)))])) rfl (hb hby at_127) ?_
    show Steps p.tables e below (T29.setTop (mkF m 129 #[.val (.int p1), .val (.int xq), .val (.int ex)] [(.int (86400 : Int32)), (.int (own_next (86400 : Int32)))])) _
    refine XS.icmpNo X29.here hx rfl (hb hby at_129) rfl (XT.ii_ne_f (by decide +kernel)) ?_
    show Steps p.tables e below (T29.setTop (mkF m 132 #[.val (.int p1), .val (.int xq), .val (.int ex)] [])) _
    refine XT.iconstV X29.here hx rfl (1 : Int32) (hb hby at_132) (by decide) ?_
    show Steps p.tables e below (T29.setTop (mkF m 133 #[.val (.int p1), .val (.int xq), .val (.int ex)] [(.int (1 : Int32))])) _
    refine XS.goto X29.here hx rfl (pc0 := 133) (pc' := 137) rfl (hb hby at_133) (by decide) (by decide) ?_
    show Steps p.tables e below (T29.setTop (mkF m 137 #[.val (.int p1), .val (.int xq), .val (.int ex)] [(.int (1 : Int32))])) _
    exact Steps.refl _)
  obtain ⟨fs, hr, hrun, hended, hW, hsame⟩ := X29.leave (v := some (.int (1 : Int32))) (fun h => by rw [Bd.returns] at h; cases h)
  refine ⟨_, _, pre0 _ ?_, hrun, hended, _, _, rfl, ?_, ⟨_, rfl⟩, hW, hsame.mono (by decide) (by decide)⟩
  · rw [← hS0]
    exact c31.trans (retN X29 hx (t := .boolean) Bd.returns (by simp) (hb hby at_137) hr)
  · show Qrm0 Z p1 h0 n0 _ T29.heap _
    rw [eh9_]
    exact ⟨rfl, N29⟩
set_option maxRecDepth 65536 in
set_option maxHeartbeats 40000000 in
theorem comes_1 {Post : Tables → Env → Array Value → State → Outcome → State → Prop} (hpost : ∀ tb e args s v u, (limb_1_1.after args s (.returned v) u = true ∧ limb_1_2.after args s (.returned v) u = true ∧ True) → FrameEnd s (.returned v) u (Jvm.fieldLocs frame_1_writes args s ++ Jvm.arrayLocs frame_1_arrays args s ++ Jvm.staticLocs frame_1_statics s) 0 0 → Post tb e args s (.returned v) u) :
    ArmFor flags0 classFile x code maxLocals ret World_1 tables_1 room_1 Calls_1 rest_1 Pre_1 Post := by
  intro l hfl _ _ p e ha hc hk s m args below hf hA hF happ hP
  obtain ⟨hcalls, hrest, hpre⟩ := hP
  obtain ⟨-, -, -, hnamed, -, -, -, hat⟩ := (Spec.applies_iff hf).mp happ
  obtain ⟨hg, hn⟩ := and_e (Cond.before_iff.mp (show (Jvm.Cond.and given_1 narrow_1).before args s = true from hpre))
  obtain ⟨hcount, g0⟩ := and_e hg
  obtain ⟨w0, rfl⟩ : ∃ w0 : Value, args = #[w0] := by
    have hs : args.size = 1 := by simpa [Cond.value, given_1] using hcount
    obtain ⟨L⟩ := args
    match L, hs with
    | [w0], _ => exact ⟨w0, rfl⟩
  have hw := fun d (hd : d ∈ tables_1) => atoms_spec (ws := Jvm.Cond.code x code maxLocals ret :: tables_1) hat d (List.mem_cons_of_mem _ hd)
  obtain ⟨i0, e0⟩ := is_v g0
  obtain rfl : w0 = (.int i0) := Option.some.inj e0
  obtain ⟨n, o, h1, h2, h3, _, L, rfl, ⟨rfl, N⟩, hq⟩ := rm0 l s _ hw tables_1 i0 s.heap s.heap.size (Nat.le_refl _) p e ha hc hk s m _ below hf ((Spec.applies_iff_loose hf).mp happ).1 ⟨rfl, State.Warmed39.refl s, rfl⟩ trivial
  refine ⟨n, _, h1, h2, h3, hpost _ _ _ _ _ _ ⟨Cond.after_iff.mpr rfl, Cond.after_iff.mpr (eq_i res_at (Term.int_eval (1)) rfl), trivial⟩ ⟨hq.1, hq.2.1, (hq.2.2.sift fun y hy => Or.inr (N y hy)).mono (by decide) (by decide)⟩⟩
theorem main_1_1 : Claimed_1_1 := comes_1 fun _ _ _ _ _ _ h hF => ⟨h.1, hF⟩
theorem main_1_2 : Claimed_1_2 := comes_1 fun _ _ _ _ _ _ h hF => ⟨h.2.1, hF⟩
end Jvm.Pilot.@@N@@
namespace Jvm.Pilot.@@N@@
open Jvm Jvm.ClassFile Sem Op Lib Jvm.Free Jvm.Stand Jvm.Pilot.@@N@@.Jvm.D
/-! MADE BY PROGRAM (witnessworld.py) out of the Statement's table words and the real class files: 10 classes; the members and pool entries that the words name. The judged class is class 1, her method 1. -/
namespace start1
open Jvm.ClassFile
def u (s : String) : CpInfo := .utf8 (stringToUtf16 s)
/-- a pool by its gaps: so many unusable entries, then the entry; so many at the end -/
def gap : Nat → List CpInfo → List CpInfo
  | 0, r => r
  | n + 1, r => .unusable :: gap n r
def poolList (es : List (Nat × CpInfo)) (last : Nat) : List CpInfo := es.foldr (fun e r => gap e.1 (e.2 :: r)) (gap last [])
def pool (es : List (Nat × CpInfo)) (last : Nat) : Array CpInfo := ⟨poolList es last⟩
def fileOf (pool : Array CpInfo) (this : Nat) (attrs : Array Attribute := #[]) (ms : Array MethodInfo := #[]) (fl : Nat := 33) (sup : Nat := 0) (ifs : Array Nat := #[]) (fds : Array FieldInfo := #[]) : ClassFile where
  minorVersion := 0
  majorVersion := 65
  constantPool := pool
  accessFlags := fl
  thisClass := this
  superClass := sup
  interfaces := ifs
  fields := fds
  methods := ms
  attributes := attrs
def plain (name : String) (sup : Option ClassId) : Class where
  name := name
  kind := .ordinary
  loader := none
  accessFlags := 33
  super := sup
  interfaces := #[]
  cf := none
  fields := #[]
  methods := #[]
  instanceTypes := #[]
  staticTypes := #[]
  resolved := #[]
  callSites := []
  init := .initialized
  statics := none
  mirror := none

def pool0 : Array CpInfo := pool [(5, u "<init>"), (0, u "()V"), (1, .class_ 10), (1, u "java/lang/Object")] 113

def k0m0 : Method := { name := "<init>", desc := "()V", sig := { parameters := [], returnType := none }, accessFlags := 1, code := none }
/-- java/lang/Object -/
def k0 : Class := { plain "java/lang/Object" none with
  accessFlags := 33
  interfaces := #[]
  cf := some (fileOf pool0 8 #[] #[{ accessFlags := 1, nameIndex := 5, descriptorIndex := 6, attributes := #[] }] 33 0 #[] #[])
  fields := #[]
  methods := #[k0m0]
  instanceTypes := #[]
  staticTypes := #[]
  resolved := Array.replicate 124 none
  statics := none }

def pool1 : Array CpInfo := pool [(2, .class_ 4), (1, u "java/lang/Object"), (0, u "<init>"), (0, u "()V"), (0, .integer 2147483647), (0, .integer 86401), (0, .integer 86400), (0, .methodref 11 12), (0, .class_ 13), (0, .nameAndType 14 15), (0, u "com/example/clock_to_code/clocktocode/core/Lockout"), (0, u "nextLockSeconds"), (0, u "(I)I"), (0, .integer 61440), (0, .class_ 18), (0, u "com/example/clock_to_code/clocktocode/core/LockoutNextLockSecondsPinLaw"), (2, u "law"), (0, u "(I)Z")] 3

def k1m0 : Method := { name := "<init>", desc := "()V", sig := { parameters := [], returnType := none }, accessFlags := 1, code := none }
def k1c1 : Code := { maxStack := 2, maxLocals := 3, code := code, exceptionTable := #[], attributes := #[] }
def k1m1 : Method := { name := "law", desc := "(I)Z", sig := { parameters := [.int], returnType := some .boolean }, accessFlags := 9, code := some k1c1 }
/-- com/example/clock_to_code/clocktocode/core/LockoutNextLockSecondsPinLaw -/
def k1 : Class := { plain "com/example/clock_to_code/clocktocode/core/LockoutNextLockSecondsPinLaw" (some 0) with
  accessFlags := 49
  interfaces := #[]
  cf := some (fileOf pool1 17 #[] #[{ accessFlags := 1, nameIndex := 5, descriptorIndex := 6, attributes := #[] }, { accessFlags := 9, nameIndex := 21, descriptorIndex := 22, attributes := #[] }] 49 2 #[] #[])
  fields := #[]
  methods := #[k1m0, k1m1]
  instanceTypes := #[]
  staticTypes := #[]
  resolved := Array.replicate 26 none
  statics := none }

def pool2 : Array CpInfo := pool [(2, .class_ 4), (1, u "java/lang/Object"), (0, u "<init>"), (0, u "()V"), (0, .class_ 8), (0, u "com/example/clock_to_code/clocktocode/core/Lockout"), (0, .integer 86400), (0, .methodref 11 12), (0, .class_ 13), (0, .nameAndType 14 15), (0, u "java/lang/Math"), (0, u "min"), (0, u "(II)I"), (0, u "FAILURE_LIMIT"), (0, u "I"), (2, u "FIRST_LOCK_SECONDS"), (1, u "LOCK_GROWTH"), (1, u "LONGEST_LOCK_SECONDS"), (2, u "nextLockSeconds"), (0, u "(I)I")] 3

def k2m0 : Method := { name := "<init>", desc := "()V", sig := { parameters := [], returnType := none }, accessFlags := 2, code := none }
def k2c1 : Code := { maxStack := 2, maxLocals := 1, code := prog_8_method_2_code, exceptionTable := #[], attributes := #[] }
def k2m1 : Method := { name := "nextLockSeconds", desc := "(I)I", sig := { parameters := [.int], returnType := some .int }, accessFlags := 9, code := some k2c1 }
/-- com/example/clock_to_code/clocktocode/core/Lockout -/
def k2 : Class := { plain "com/example/clock_to_code/clocktocode/core/Lockout" (some 0) with
  accessFlags := 49
  interfaces := #[]
  cf := some (fileOf pool2 7 #[] #[{ accessFlags := 2, nameIndex := 5, descriptorIndex := 6, attributes := #[] }, { accessFlags := 9, nameIndex := 27, descriptorIndex := 28, attributes := #[] }] 49 2 #[] #[{ accessFlags := 25, nameIndex := 16, descriptorIndex := 17, attributes := #[] }, { accessFlags := 26, nameIndex := 20, descriptorIndex := 17, attributes := #[] }, { accessFlags := 26, nameIndex := 22, descriptorIndex := 17, attributes := #[] }, { accessFlags := 26, nameIndex := 24, descriptorIndex := 17, attributes := #[] }])
  fields := #[{ name := "FAILURE_LIMIT", type := .int, accessFlags := 25, slot := 0, constantValue := 0 }, { name := "FIRST_LOCK_SECONDS", type := .int, accessFlags := 26, slot := 1, constantValue := 0 }, { name := "LOCK_GROWTH", type := .int, accessFlags := 26, slot := 2, constantValue := 0 }, { name := "LONGEST_LOCK_SECONDS", type := .int, accessFlags := 26, slot := 3, constantValue := 0 }]
  methods := #[k2m0, k2m1]
  instanceTypes := #[]
  staticTypes := #[.int, .int, .int, .int]
  resolved := Array.replicate 32 none
  statics := none }

def pool3 : Array CpInfo := pool [(1, .class_ 2), (0, u "java/lang/Math"), (1, .class_ 6), (1, u "java/lang/Object"), (0, u "<init>"), (0, u "()V"), (89, .class_ 100), (1, u "java/lang/Math$RandomNumberGeneratorHolder"), (71, u "negativeZeroFloatBits"), (0, u "J"), (2, u "negativeZeroDoubleBits"), (24, u "min"), (43, u "$assertionsDisabled"), (0, u "Z"), (88, u "(II)I"), (2, u "twoToTheDoubleScaleDown"), (0, u "D"), (4, u "twoToTheDoubleScaleUp"), (9, u "E"), (3, u "PI"), (2, u "TAU"), (2, u "DEGREES_TO_RADIANS"), (0, u "RADIANS_TO_DEGREES")] 94

def k3m0 : Method := { name := "<init>", desc := "()V", sig := { parameters := [], returnType := none }, accessFlags := 2, code := none }
def k3c1 : Code := { maxStack := 2, maxLocals := 2, code := jdk_29_method_69_code, exceptionTable := #[], attributes := #[] }
def k3m1 : Method := { name := "min", desc := "(II)I", sig := { parameters := [.int, .int], returnType := some .int }, accessFlags := 9, code := some k3c1 }
/-- java/lang/Math -/
def k3 : Class := { plain "java/lang/Math" (some 0) with
  accessFlags := 49
  interfaces := #[]
  cf := some (fileOf pool3 1 #[.nestMembers #[98]] #[{ accessFlags := 2, nameIndex := 7, descriptorIndex := 8, attributes := #[] }, { accessFlags := 9, nameIndex := 201, descriptorIndex := 335, attributes := #[] }] 49 4 #[] #[{ accessFlags := 25, nameIndex := 354, descriptorIndex := 339, attributes := #[] }, { accessFlags := 25, nameIndex := 358, descriptorIndex := 339, attributes := #[] }, { accessFlags := 25, nameIndex := 361, descriptorIndex := 339, attributes := #[] }, { accessFlags := 26, nameIndex := 364, descriptorIndex := 339, attributes := #[] }, { accessFlags := 26, nameIndex := 365, descriptorIndex := 339, attributes := #[] }, { accessFlags := 26, nameIndex := 172, descriptorIndex := 173, attributes := #[] }, { accessFlags := 26, nameIndex := 176, descriptorIndex := 173, attributes := #[] }, { accessFlags := 8, nameIndex := 344, descriptorIndex := 339, attributes := #[] }, { accessFlags := 8, nameIndex := 338, descriptorIndex := 339, attributes := #[] }, { accessFlags := 4120, nameIndex := 245, descriptorIndex := 246, attributes := #[] }])
  fields := #[{ name := "E", type := .double, accessFlags := 25, slot := 0, constantValue := 0 }, { name := "PI", type := .double, accessFlags := 25, slot := 1, constantValue := 0 }, { name := "TAU", type := .double, accessFlags := 25, slot := 2, constantValue := 0 }, { name := "DEGREES_TO_RADIANS", type := .double, accessFlags := 26, slot := 3, constantValue := 0 }, { name := "RADIANS_TO_DEGREES", type := .double, accessFlags := 26, slot := 4, constantValue := 0 }, { name := "negativeZeroFloatBits", type := .long, accessFlags := 26, slot := 5, constantValue := 0 }, { name := "negativeZeroDoubleBits", type := .long, accessFlags := 26, slot := 6, constantValue := 0 }, { name := "twoToTheDoubleScaleUp", type := .double, accessFlags := 8, slot := 7, constantValue := 0 }, { name := "twoToTheDoubleScaleDown", type := .double, accessFlags := 8, slot := 8, constantValue := 0 }, { name := "$assertionsDisabled", type := .boolean, accessFlags := 4120, slot := 9, constantValue := 0 }]
  methods := #[k3m0, k3m1]
  instanceTypes := #[]
  staticTypes := #[.double, .double, .double, .double, .double, .long, .long, .double, .double, .boolean]
  resolved := Array.replicate 460 none
  statics := none }

def pool4 : Array CpInfo := pool [(1, u "java/lang/Cloneable"), (0, .class_ 1), (0, u "java/lang/Object"), (0, .class_ 3)] 3

/-- java/lang/Cloneable -/
def k4 : Class := { plain "java/lang/Cloneable" (some 0) with
  accessFlags := 1537
  interfaces := #[]
  cf := some (fileOf pool4 2 #[] #[] 1537 4 #[] #[])
  fields := #[]
  methods := #[]
  instanceTypes := #[]
  staticTypes := #[]
  resolved := Array.replicate 8 none
  statics := none }

def pool5 : Array CpInfo := pool [(1, u "java/io/Serializable"), (0, .class_ 1), (0, u "java/lang/Object"), (0, .class_ 3)] 3

/-- java/io/Serializable -/
def k5 : Class := { plain "java/io/Serializable" (some 0) with
  accessFlags := 1537
  interfaces := #[]
  cf := some (fileOf pool5 2 #[] #[] 1537 4 #[] #[])
  fields := #[]
  methods := #[]
  instanceTypes := #[]
  staticTypes := #[]
  resolved := Array.replicate 8 none
  statics := none }

/-- the primitive byte -/
def k6 : Class := { plain "byte" none with kind := .primitive 'B', accessFlags := 0x411 }
/-- [B -/
def k7 : Class := { plain "[B" (some 0) with kind := .array 6 .byte, interfaces := #[4, 5], accessFlags := 1041 }

/-- the primitive int -/
def k8 : Class := { plain "int" none with kind := .primitive 'I', accessFlags := 0x411 }
/-- [I -/
def k9 : Class := { plain "[I" (some 0) with kind := .array 8 .int, interfaces := #[4, 5], accessFlags := 1041 }

def heap : Heap := #[]
def classes : Array Class := #[k0, k1, k2, k3, k4, k5, k6, k7, k8, k9]
def interned : List (Array UInt16 × Addr) := []
def slotsUsed : Nat := 0
def theMethod : MethodId := ⟨1, 1⟩
def args0 : Array Value := #[.int 5]
def aboutOver (below : List Frame) : State where
  vm := { classes := classes, interned := interned.toArray }
  heap := heap
  slotsUsed := slotsUsed
  threads := #[{ frames := .invoking theMethod args0 :: below }]
def below0 : List Frame := [.native { method := ⟨0, 0⟩, args := #[] }]
def about1 : State := aboutOver below0
def p0 : Program := .bare "" "" ""
def e0 : Env := launch0.env 0 0 0
theorem w_frames : about1.frames = Frame.invoking theMethod args0 :: below0 := rfl
set_option maxRecDepth 65536 in
theorem w_args : argsFit about1.vm theMethod args0 = true := by decide +kernel
set_option maxRecDepth 65536 in
theorem w_heap : heapFits about1 = true := by decide +kernel
set_option maxRecDepth 65536 in
theorem w_runnable : about1.curStatus? = some .runnable := by decide +kernel
set_option maxRecDepth 65536 in
theorem w_alone : about1.alone = true := by decide +kernel
set_option maxRecDepth 65536 in
theorem w_named : about1.methodNamed? x = some theMethod := by decide +kernel
set_option maxRecDepth 65536 in
theorem w_hears : about1.hears theMethod below0 = true := by decide +kernel
set_option maxRecDepth 65536 in
theorem w_ripe : about1.ripe theMethod args0 below0 = true := by decide +kernel
theorem w_running : about1.status = .running := rfl
set_option maxRecDepth 65536 in
theorem w_room : about1.hasRoom e0.platform room_1 = true :=
  launch0.hasRoom_least _ room_1 (by decide +kernel) (by decide +kernel) (by decide +kernel) (by decide +kernel) (by decide +kernel) (by decide +kernel)
theorem allAtoms_all (ts : List Jvm.Cond) (a : Array Jvm.Value) (st : Jvm.State) : (allAtoms ts).before a st = ts.all (fun c => c.before a st) := by
  induction ts with
  | nil => rfl
  | cons c t ih =>
    show (Jvm.Cond.and c (allAtoms t)).before a st = _
    rw [Jvm.Cond.before_and, ih, List.all_cons]
def words1 : List Jvm.Cond := Jvm.Cond.code x code maxLocals ret :: tables_1
/-- a 'code' word, met by the world's own term for the bytes: nothing is compared byte by byte -/
theorem code_word {y : MethodName} {bytes : ByteArray} {mx : Nat} {rt : Option FieldType} {a : Array Value} {s : State} {m : MethodId} {meth : Method} {c : Code} (h1 : s.methodNamed? y = some m) (h2 : s.vm.method? m = some meth) (h3 : meth.code = some c) (h4 : c.code = bytes)
    (h5 : (c.maxLocals == mx && c.exceptionTable.isEmpty && decide (c.maxStack ≤ mostOperands) && decide (meth.sig.returnType = rt) && !meth.locks && decide (parseMethodDescriptor y.desc = some meth.sig)) = true) : (Jvm.Cond.code y bytes mx rt).before a s = true := by
  simp only [Bool.and_eq_true, beq_iff_eq, Bool.not_eq_true', decide_eq_true_eq] at h5
  obtain ⟨⟨⟨⟨⟨g1, g2⟩, g3⟩, g4⟩, g5⟩, g6⟩ := h5
  simp [Cond.before, Cond.holds, Cond.value, h1, h2, h3, h4, g1, g2, g3, g4, g5, g6]
def isCode : Jvm.Cond → Bool
  | .code _ _ _ _ => true
  | _ => false
theorem all_split {L : List Jvm.Cond} {P : Jvm.Cond → Bool} (h1 : L.all (fun c => isCode c || P c) = true) (h2 : ∀ c ∈ L.filter isCode, P c = true) : L.all P = true := by
  refine List.all_eq_true.mpr fun c hc => ?_
  have h := List.all_eq_true.mp h1 c hc
  rcases Bool.eq_false_or_eq_true (isCode c) with hi | hi
  · exact h2 c (List.mem_filter.mpr ⟨hc, hi⟩)
  · simpa [hi] using h
set_option maxRecDepth 65536 in
theorem w_c0 : (Jvm.Cond.code x code maxLocals ret).before args0 about1 = true := code_word (m := ⟨1, 1⟩) (meth := k1m1) (c := k1c1) (by decide +kernel) rfl rfl rfl (by decide +kernel)
set_option maxRecDepth 65536 in
theorem w_c1 : (Jvm.Cond.code ({ cls := "com/example/clock_to_code/clocktocode/core/Lockout", name := "nextLockSeconds", desc := "(I)I" } : Jvm.MethodName) prog_8_method_2_code (1 : Nat) (Option.some Jvm.ClassFile.FieldType.int)).before args0 about1 = true := code_word (m := ⟨2, 1⟩) (meth := k2m1) (c := k2c1) (by decide +kernel) rfl rfl rfl (by decide +kernel)
set_option maxRecDepth 65536 in
theorem w_c2 : (Jvm.Cond.code ({ cls := "java/lang/Math", name := "min", desc := "(II)I" } : Jvm.MethodName) jdk_29_method_69_code (2 : Nat) (Option.some Jvm.ClassFile.FieldType.int)).before args0 about1 = true := code_word (m := ⟨3, 1⟩) (meth := k3m1) (c := k3c1) (by decide +kernel) rfl rfl rfl (by decide +kernel)
def codes1 : List Jvm.Cond := [Jvm.Cond.code x code maxLocals ret, Jvm.Cond.code ({ cls := "com/example/clock_to_code/clocktocode/core/Lockout", name := "nextLockSeconds", desc := "(I)I" } : Jvm.MethodName) prog_8_method_2_code (1 : Nat) (Option.some Jvm.ClassFile.FieldType.int), Jvm.Cond.code ({ cls := "java/lang/Math", name := "min", desc := "(II)I" } : Jvm.MethodName) jdk_29_method_69_code (2 : Nat) (Option.some Jvm.ClassFile.FieldType.int)]
set_option maxRecDepth 65536 in
theorem codes_eq : words1.filter isCode = codes1 := rfl
theorem w_codes : ∀ c ∈ words1.filter isCode, c.before args0 about1 = true := by
  rw [codes_eq]
  intro c hc
  simp only [codes1, List.mem_cons, List.not_mem_nil, or_false] at hc
  rcases hc with rfl | rfl | rfl
  · exact w_c0
  · exact w_c1
  · exact w_c2
set_option maxRecDepth 65536 in
theorem w_t1 : words1.all (fun c => isCode c || c.before args0 about1) = true := by decide +kernel
theorem w_tables : (allAtoms (Jvm.Cond.code x code maxLocals ret :: tables_1)).before args0 about1 = true := by
  rw [allAtoms_all]
  show words1.all (fun c => c.before args0 about1) = true
  refine all_split ?_ w_codes
  rw [w_t1]
set_option maxRecDepth 65536 in
theorem w_case : (Jvm.Cond.and given_1 narrow_1).before args0 about1 = true := by decide +kernel
theorem w_applies : (headSpec (Jvm.Cond.code x code maxLocals ret :: tables_1) room_1).applies x e0.platform about1 = true :=
  (Spec.applies_iff w_frames).mpr ⟨w_running, w_runnable, w_alone, w_named, w_hears, w_ripe, w_room, w_tables⟩
theorem atStart : AtStart classFile x code maxLocals ret World_1 tables_1 room_1 Calls_1 rest_1 Pre_1 launch0 p0 e0 about1 theMethod args0 below0 :=
  ⟨lists_1, trivial, launch0.admits_env _ _ _, launch0.least_env, fairChoices_fair.cas, fairChoices_fair.clock, w_frames, w_args, w_heap, w_applies, trivial, trivial, w_case⟩
end start1
theorem witness_1 : WitnessClaimed_1 := ⟨start1.p0, start1.e0, start1.about1, start1.theMethod, start1.args0, start1.below0, start1.atStart⟩
end Jvm.Pilot.@@N@@
