import JvmDerived
import JvmDerived.Pilot.@@N@@Statement
import JvmDerived.Pilot.@@N@@Code
set_option linter.unusedVariables false
set_option linter.unusedSimpArgs false
@@BLOCK:NumsL.lean.txt@@
namespace Jvm.RoadKit
open Sem ClassFile Op Lib Jvm.Stand Jvm.Free Jvm.LawKit
section New
variable {p : Program} {l : Launch} {e : Env} {R : Room} {s : State} {m : MethodId} {args : Array Value} {below : List Frame} {meth : Method} {c : Code} {T : State} {locs : List Loc} {cells slots : Nat}
theorem retI (X : Stand p l e R s m args below meth c T locs cells slots) (hx : p.tables.exec = Jvm.exec) {pc : Nat} {Ls : Array Slot} {z : Int32} {rest : List Value} (hret : meth.sig.returnType = some .int) (hd : decode c.code pc = .ok (.ireturn, 1)) {fs : List Frame}
    (hl : ∀ (f : JFrame) (acts : List Action), f.method = m → f.locked = none → f.entered = [] → (doReturn e (T.setTop f) acts (some (.int z))).1 = T.setFrames fs) : Steps p.tables e below (T.setTop (mkF m pc Ls (.int z :: rest))) (T.setFrames fs) := by
  have hm' : T.vm.method? m = some meth := X.method'
  have hn : narrow .int (.int z) = .int z := rfl
  show Steps p.tables e below (T.setTop { method := m, pc := pc, locals := Ls, stack := _ :: rest, locked := none }) _
  jvm_step X.here [X.here.top, hx, hd, hm', hret, hn]
  first | (intro acts; rw [hl _ acts rfl rfl rfl]) | rw [hl _ _ rfl rfl rfl]
  exact Steps.refl _
end New
end Jvm.RoadKit
namespace Jvm.Pilot.@@N@@
open Jvm Jvm.ClassFile Sem Op Lib Jvm.Free Jvm.Stand Jvm.LawKit Jvm.RoadKit Bundle Jvm.Pilot.@@N@@.Jvm.D
theorem own_pd__II_I : parseMethodDescriptor "(II)I" = some ⟨[.int, .int], some .int⟩ := by decide +kernel
def own_ptr (p q : Int32) : Int32 := if q < 65 then -1 else if 254 < q then -1 else (((p - 129) * 190) + q) - 65
theorem own_lead (a : Int32) : 129 ≤ ((129 : Int32) + (a &&& 2147483647) % 126).toInt ∧ ((129 : Int32) + (a &&& 2147483647) % 126).toInt ≤ 254 := by
  have e1 : (a &&& 2147483647).toInt = a.toInt % 2 ^ 31 := Jvm.Kit.i32_mask a 2147483647 (k := 31) (by decide) (by decide)
  have e2 : ((a &&& 2147483647) % 126).toInt = (a &&& 2147483647).toInt % (126 : Int32).toInt := Jvm.Kit.i32_rem_nonneg (by omega)
  have e3 : (126 : Int32).toInt = 126 := by decide
  have e4 : (129 : Int32).toInt = 129 := by decide
  rw [e3] at e2
  have e5 := Jvm.Kit.i32_add (p := 129) (q := (a &&& 2147483647) % 126) (by omega) (by omega)
  omega
theorem own_val (ld tr : Int32) (h1 : 129 ≤ ld.toInt) (h2 : ld.toInt ≤ 254) (k1 : ¬ tr < 65) (k2 : ¬ 254 < tr) :
    own_ptr ld tr = (((ld - 129) * 190) + tr) - 65 ∧ (own_ptr ld tr).toInt = (ld.toInt - 129) * 190 + tr.toInt - 65 ∧ 65 ≤ tr.toInt ∧ tr.toInt ≤ 254 := by
  have e65 : (65 : Int32).toInt = 65 := by decide
  have e129 : (129 : Int32).toInt = 129 := by decide
  have e190 : (190 : Int32).toInt = 190 := by decide
  have e254 : (254 : Int32).toInt = 254 := by decide
  have e : own_ptr ld tr = (((ld - 129) * 190) + tr) - 65 := by rw [own_ptr, if_neg k1, if_neg k2]
  rw [Int32.lt_iff_toInt_lt, e65] at k1
  rw [Int32.lt_iff_toInt_lt, e254] at k2
  have f1 := Jvm.Kit.i32_sub (p := ld) (q := 129) (by omega) (by omega)
  have f2 := Jvm.Kit.i32_mul (p := ld - 129) (q := 190) (by rw [e190]; omega) (by rw [e190]; omega)
  rw [e190] at f2
  have f3 := Jvm.Kit.i32_add (p := (ld - 129) * 190) (q := tr) (by omega) (by omega)
  have f4 := Jvm.Kit.i32_sub (p := (ld - 129) * 190 + tr) (q := 65) (by omega) (by omega)
  refine ⟨e, ?_, by omega, by omega⟩
  rw [e]; omega
theorem own_f1 {ld tr : Int32} (h1 : 129 ≤ ld.toInt) (h2 : ld.toInt ≤ 254) (k1 : ¬ tr < 65) (k2 : ¬ 254 < tr) : ¬ own_ptr ld tr < 0 := by
  obtain ⟨-, e, a, b⟩ := own_val ld tr h1 h2 k1 k2
  rw [Int32.lt_iff_toInt_lt, show (0 : Int32).toInt = 0 by decide]; omega
theorem own_f2 {ld tr : Int32} (h1 : 129 ≤ ld.toInt) (h2 : ld.toInt ≤ 254) (k1 : ¬ tr < 65) (k2 : ¬ 254 < tr) : own_ptr ld tr < 23940 := by
  obtain ⟨-, e, a, b⟩ := own_val ld tr h1 h2 k1 k2
  rw [Int32.lt_iff_toInt_lt, show (23940 : Int32).toInt = 23940 by decide]; omega
theorem own_f3 {ld tr : Int32} (h1 : 129 ≤ ld.toInt) (h2 : ld.toInt ≤ 254) (k1 : ¬ tr < 65) (k2 : ¬ 254 < tr) : own_ptr ld tr / 190 = ld - 129 := by
  obtain ⟨-, e, a, b⟩ := own_val ld tr h1 h2 k1 k2
  have e129 : (129 : Int32).toInt = 129 := by decide
  have e190 : (190 : Int32).toInt = 190 := by decide
  have f1 := Jvm.Kit.i32_sub (p := ld) (q := 129) (by omega) (by omega)
  have g := Jvm.Kit.i32_div (x := own_ptr ld tr) (y := 190) (by omega)
  rw [Int.tdiv_eq_ediv_of_nonneg (by omega), e190] at g
  apply Int32.toInt_inj.mp
  omega
theorem own_f4 {ld tr : Int32} (h1 : 129 ≤ ld.toInt) (h2 : ld.toInt ≤ 254) (k1 : ¬ tr < 65) (k2 : ¬ 254 < tr) : own_ptr ld tr % 190 = tr - 65 := by
  obtain ⟨-, e, a, b⟩ := own_val ld tr h1 h2 k1 k2
  have e65 : (65 : Int32).toInt = 65 := by decide
  have e190 : (190 : Int32).toInt = 190 := by decide
  have f1 := Jvm.Kit.i32_sub (p := tr) (q := 65) (by omega) (by omega)
  have g := Jvm.Kit.i32_rem_nonneg (x := own_ptr ld tr) (y := 190) (by omega)
  rw [e190] at g
  apply Int32.toInt_inj.mp
  omega
theorem d1_0 : decode prog_18_method_2_code 0 = .ok (.iconst (-1), 1) := by decide +kernel
theorem d1_1 : decode prog_18_method_2_code 1 = .ok (.istore_n 2, 1) := by decide +kernel
theorem d1_2 : decode prog_18_method_2_code 2 = .ok (.iload_n 1, 1) := by decide +kernel
theorem d1_3 : decode prog_18_method_2_code 3 = .ok (.bipush 65, 2) := by decide +kernel
theorem d1_5 : decode prog_18_method_2_code 5 = .ok (.if_icmp .lt 25, 3) := by decide +kernel
theorem d1_8 : decode prog_18_method_2_code 8 = .ok (.iload_n 1, 1) := by decide +kernel
theorem d1_9 : decode prog_18_method_2_code 9 = .ok (.sipush 254, 3) := by decide +kernel
theorem d1_12 : decode prog_18_method_2_code 12 = .ok (.if_icmp .gt 18, 3) := by decide +kernel
theorem d1_15 : decode prog_18_method_2_code 15 = .ok (.iload_n 0, 1) := by decide +kernel
theorem d1_16 : decode prog_18_method_2_code 16 = .ok (.sipush 129, 3) := by decide +kernel
theorem d1_19 : decode prog_18_method_2_code 19 = .ok (.isub, 1) := by decide +kernel
theorem d1_20 : decode prog_18_method_2_code 20 = .ok (.sipush 190, 3) := by decide +kernel
theorem d1_23 : decode prog_18_method_2_code 23 = .ok (.imul, 1) := by decide +kernel
theorem d1_24 : decode prog_18_method_2_code 24 = .ok (.iload_n 1, 1) := by decide +kernel
theorem d1_25 : decode prog_18_method_2_code 25 = .ok (.iadd, 1) := by decide +kernel
theorem d1_26 : decode prog_18_method_2_code 26 = .ok (.bipush 65, 2) := by decide +kernel
theorem d1_28 : decode prog_18_method_2_code 28 = .ok (.isub, 1) := by decide +kernel
theorem d1_29 : decode prog_18_method_2_code 29 = .ok (.istore_n 2, 1) := by decide +kernel
theorem d1_30 : decode prog_18_method_2_code 30 = .ok (.iload_n 2, 1) := by decide +kernel
theorem d1_31 : decode prog_18_method_2_code 31 = .ok (.ireturn, 1) := by decide +kernel
theorem own_pn_EucKrDecoder : plainName "com/example/harrow/harrow/page/EucKrDecoder" = true := by first | (simp [plainName, overriddenIn]; done) | decide +kernel
theorem ef_1 (m : MethodId) (x0 : Int32) (x1 : Int32) : entryFrame m #[(.int x0), (.int x1)] 3 = mkF m 0 #[.val (.int x0), .val (.int x1), .unset] [] := by first | (simp [entryFrame, mkF, argsToLocals, Value.category]; done) | rfl
def Qrm1 (Z : State) (p1 : Int32) (p2 : Int32) (h0 : Heap) (n0 : Nat) (v : Option Value) (h : Heap) (L : List Loc) : Prop := v = some (.int (own_ptr p1 p2)) ∧ Fr n0 L ∧ h = h0
set_option maxRecDepth 65536 in
set_option maxHeartbeats 40000000 in
theorem rm1 (l : Launch) (Z : State) (a0 : Array Value) (hw : ∀ d ∈ tables_1, d.before a0 Z = true) (ws : List Jvm.Cond) (p1 : Int32) (p2 : Int32) (h0 : Heap) (n0 : Nat) (Z0 : n0 ≤ h0.size)  :
    MetFree l (⟨"com/example/harrow/harrow/page/EucKrDecoder", "pointer", "(II)I"⟩ : MethodName) (head1 (Jvm.Cond.code (⟨"com/example/harrow/harrow/page/EucKrDecoder", "pointer", "(II)I"⟩ : MethodName) prog_18_method_2_code 3 (some .int) :: ws) ({ frames := 0, cells := 0, slots := 0, locals := 0 } : Room)) (fun a U => a = #[(.int p1), (.int p2)] ∧ Z.Warmed39 U.vm ∧ U.heap = h0) (fun _ _ _ _ _ => True) (fun _ U o U' => ∃ v L, o = .returned v ∧ Qrm1 Z p1 p2 h0 n0 v U'.heap L ∧ FrameEnd U o U' L ({ frames := 0, cells := 0, slots := 0, locals := 0 } : Room).cells ({ frames := 0, cells := 0, slots := 0, locals := 0 } : Room).slots) := by
  refine MetFree.of_bodySF (plainFor_of_name own_pn_EucKrDecoder) hisR ?_
  intro p e s m args below meth c s₁ Bd hml0 hP hK
  obtain ⟨rfl, hZ, hh⟩ := hP
  have hx := Bd.exec
  have hby := Bd.bytes
  have hml : c.maxLocals = 3 := hml0
  have hown : s.vm.findClass "com/example/harrow/harrow/page/EucKrDecoder" = some m.cls := findClass_of_methodNamed Bd.named
  have hnm := (name_of_methodNamed Bd.named Bd.method).1
  have X0 : Stand p l e ({ frames := 0, cells := 0, slots := 0, locals := 0 } : Room) s m #[(.int p1), (.int p2)] below meth c s₁ [] 0 0 := Stand.of_body Bd
  have e0 : s₁.heap = h0 := by rw [← hh, Bd.state]; rfl
  have N0 := Fr.nil n0
  have pre0 : ∀ t, Steps p.tables e below (s₁.setTop (mkF m 0 #[.val (.int p1), .val (.int p2), .unset] [])) t → Steps p.tables e below (s₁.setTop (entryFrame m #[(.int p1), (.int p2)] 3)) t := fun t k => castTop (ef_1 m p1 p2) k
  obtain ⟨S0, hS0⟩ : ∃ z, z = s₁.setTop (mkF m 0 #[.val (.int p1), .val (.int p2), .unset] []) := ⟨_, rfl⟩
  have c0 : Steps p.tables e below S0 (s₁.setTop (mkF m 0 #[.val (.int p1), .val (.int p2), .unset] [])) := by rw [hS0]; exact Steps.refl _
  have c1 : Steps p.tables e below S0 (s₁.setTop (mkF m 5 #[.val (.int p1), .val (.int p2), .val (.int (-1 : Int32))] [(.int (65 : Int32)), (.int p2)])) := c0.trans (by
    refine XT.iconstV X0.here hx rfl (-1 : Int32) (hb hby d1_0) (by decide) ?_
    show Steps p.tables e below (s₁.setTop (mkF m 1 #[.val (.int p1), .val (.int p2), .unset] [(.int (-1 : Int32))])) _
    refine XS.istoreN X0.here hx rfl (hb hby d1_1) rfl (l' := #[.val (.int p1), .val (.int p2), .val (.int (-1 : Int32))]) rfl ?_
    show Steps p.tables e below (s₁.setTop (mkF m 2 #[.val (.int p1), .val (.int p2), .val (.int (-1 : Int32))] [])) _
    refine XS.iloadN X0.here hx rfl (hb hby d1_2) rfl ?_
    show Steps p.tables e below (s₁.setTop (mkF m 3 #[.val (.int p1), .val (.int p2), .val (.int (-1 : Int32))] [(.int p2)])) _
    refine XT.bipushV X0.here hx rfl (65 : Int32) (hb hby d1_3) (by decide) ?_
    show Steps p.tables e below (s₁.setTop (mkF m 5 #[.val (.int p1), .val (.int p2), .val (.int (-1 : Int32))] [(.int (65 : Int32)), (.int p2)])) _
    exact Steps.refl _)
  by_cases k1 : p2 < (65 : Int32)
  ·
    have c2 : Steps p.tables e below S0 (s₁.setTop (mkF m 31 #[.val (.int p1), .val (.int p2), .val (.int (-1 : Int32))] [(.int (-1 : Int32))])) := c1.trans (by
      refine XS.icmpYes X0.here hx rfl (pc0 := 5) (pc' := 30) rfl (hb hby d1_5) rfl (XT.ii_lt_t k1) (by decide) (by decide) ?_
      show Steps p.tables e below (s₁.setTop (mkF m 30 #[.val (.int p1), .val (.int p2), .val (.int (-1 : Int32))] [])) _
      refine XS.iloadN X0.here hx rfl (hb hby d1_30) rfl ?_
      show Steps p.tables e below (s₁.setTop (mkF m 31 #[.val (.int p1), .val (.int p2), .val (.int (-1 : Int32))] [(.int (-1 : Int32))])) _
      exact Steps.refl _)
    obtain ⟨fs, hr, hrun, hended, hW, hsame⟩ := X0.leave (v := some (.int (-1 : Int32))) (fun h => by rw [Bd.returns] at h; cases h)
    refine ⟨_, _, pre0 _ ?_, hrun, hended, _, _, rfl, ?_, ⟨_, rfl⟩, hW, hsame.mono (by decide) (by decide)⟩
    · rw [← hS0]
      exact c2.trans (retI X0 hx Bd.returns (hb hby d1_31) hr)
    · show Qrm1 Z p1 p2 h0 n0 _ s₁.heap _
      rw [e0]
      exact ⟨by rw [own_ptr, if_pos k1], N0, rfl⟩
  ·
    have c3 : Steps p.tables e below S0 (s₁.setTop (mkF m 12 #[.val (.int p1), .val (.int p2), .val (.int (-1 : Int32))] [(.int (254 : Int32)), (.int p2)])) := c1.trans (by
      refine XS.icmpNo X0.here hx rfl (hb hby d1_5) rfl (XT.ii_lt_f k1) ?_
      show Steps p.tables e below (s₁.setTop (mkF m 8 #[.val (.int p1), .val (.int p2), .val (.int (-1 : Int32))] [])) _
      refine XS.iloadN X0.here hx rfl (hb hby d1_8) rfl ?_
      show Steps p.tables e below (s₁.setTop (mkF m 9 #[.val (.int p1), .val (.int p2), .val (.int (-1 : Int32))] [(.int p2)])) _
      refine XT.sipushV X0.here hx rfl (254 : Int32) (hb hby d1_9) (by decide) ?_
      show Steps p.tables e below (s₁.setTop (mkF m 12 #[.val (.int p1), .val (.int p2), .val (.int (-1 : Int32))] [(.int (254 : Int32)), (.int p2)])) _
      exact Steps.refl _)
    by_cases k2 : (254 : Int32) < p2
    ·
      have c4 : Steps p.tables e below S0 (s₁.setTop (mkF m 31 #[.val (.int p1), .val (.int p2), .val (.int (-1 : Int32))] [(.int (-1 : Int32))])) := c3.trans (by
        refine XS.icmpYes X0.here hx rfl (pc0 := 12) (pc' := 30) rfl (hb hby d1_12) rfl (XT.ii_gt_t k2) (by decide) (by decide) ?_
        show Steps p.tables e below (s₁.setTop (mkF m 30 #[.val (.int p1), .val (.int p2), .val (.int (-1 : Int32))] [])) _
        refine XS.iloadN X0.here hx rfl (hb hby d1_30) rfl ?_
        show Steps p.tables e below (s₁.setTop (mkF m 31 #[.val (.int p1), .val (.int p2), .val (.int (-1 : Int32))] [(.int (-1 : Int32))])) _
        exact Steps.refl _)
      obtain ⟨fs, hr, hrun, hended, hW, hsame⟩ := X0.leave (v := some (.int (-1 : Int32))) (fun h => by rw [Bd.returns] at h; cases h)
      refine ⟨_, _, pre0 _ ?_, hrun, hended, _, _, rfl, ?_, ⟨_, rfl⟩, hW, hsame.mono (by decide) (by decide)⟩
      · rw [← hS0]
        exact c4.trans (retI X0 hx Bd.returns (hb hby d1_31) hr)
      · show Qrm1 Z p1 p2 h0 n0 _ s₁.heap _
        rw [e0]
        exact ⟨by rw [own_ptr, if_neg k1, if_pos k2], N0, rfl⟩
    ·
      have c5 : Steps p.tables e below S0 (s₁.setTop (mkF m 31 #[.val (.int p1), .val (.int p2), .val (.int ((((p1 - (129 : Int32)) * (190 : Int32)) + p2) - (65 : Int32)))] [(.int ((((p1 - (129 : Int32)) * (190 : Int32)) + p2) - (65 : Int32)))])) := c3.trans (by
        refine XS.icmpNo X0.here hx rfl (hb hby d1_12) rfl (XT.ii_gt_f k2) ?_
        show Steps p.tables e below (s₁.setTop (mkF m 15 #[.val (.int p1), .val (.int p2), .val (.int (-1 : Int32))] [])) _
        refine XS.iloadN X0.here hx rfl (hb hby d1_15) rfl ?_
        show Steps p.tables e below (s₁.setTop (mkF m 16 #[.val (.int p1), .val (.int p2), .val (.int (-1 : Int32))] [(.int p1)])) _
        refine XT.sipushV X0.here hx rfl (129 : Int32) (hb hby d1_16) (by decide) ?_
        show Steps p.tables e below (s₁.setTop (mkF m 19 #[.val (.int p1), .val (.int p2), .val (.int (-1 : Int32))] [(.int (129 : Int32)), (.int p1)])) _
        refine XS.isub X0.here hx rfl (hb hby d1_19) rfl ?_
        show Steps p.tables e below (s₁.setTop (mkF m 20 #[.val (.int p1), .val (.int p2), .val (.int (-1 : Int32))] [(.int (p1 - (129 : Int32)))])) _
        refine XT.sipushV X0.here hx rfl (190 : Int32) (hb hby d1_20) (by decide) ?_
        show Steps p.tables e below (s₁.setTop (mkF m 23 #[.val (.int p1), .val (.int p2), .val (.int (-1 : Int32))] [(.int (190 : Int32)), (.int (p1 - (129 : Int32)))])) _
        refine XS.imul X0.here hx rfl (hb hby d1_23) rfl ?_
        show Steps p.tables e below (s₁.setTop (mkF m 24 #[.val (.int p1), .val (.int p2), .val (.int (-1 : Int32))] [(.int ((p1 - (129 : Int32)) * (190 : Int32)))])) _
        refine XS.iloadN X0.here hx rfl (hb hby d1_24) rfl ?_
        show Steps p.tables e below (s₁.setTop (mkF m 25 #[.val (.int p1), .val (.int p2), .val (.int (-1 : Int32))] [(.int p2), (.int ((p1 - (129 : Int32)) * (190 : Int32)))])) _
        refine XS.iadd X0.here hx rfl (hb hby d1_25) rfl ?_
        show Steps p.tables e below (s₁.setTop (mkF m 26 #[.val (.int p1), .val (.int p2), .val (.int (-1 : Int32))] [(.int (((p1 - (129 : Int32)) * (190 : Int32)) + p2))])) _
        refine XT.bipushV X0.here hx rfl (65 : Int32) (hb hby d1_26) (by decide) ?_
        show Steps p.tables e below (s₁.setTop (mkF m 28 #[.val (.int p1), .val (.int p2), .val (.int (-1 : Int32))] [(.int (65 : Int32)), (.int (((p1 - (129 : Int32)) * (190 : Int32)) + p2))])) _
        refine XS.isub X0.here hx rfl (hb hby d1_28) rfl ?_
        show Steps p.tables e below (s₁.setTop (mkF m 29 #[.val (.int p1), .val (.int p2), .val (.int (-1 : Int32))] [(.int ((((p1 - (129 : Int32)) * (190 : Int32)) + p2) - (65 : Int32)))])) _
        refine XS.istoreN X0.here hx rfl (hb hby d1_29) rfl (l' := #[.val (.int p1), .val (.int p2), .val (.int ((((p1 - (129 : Int32)) * (190 : Int32)) + p2) - (65 : Int32)))]) rfl ?_
        show Steps p.tables e below (s₁.setTop (mkF m 30 #[.val (.int p1), .val (.int p2), .val (.int ((((p1 - (129 : Int32)) * (190 : Int32)) + p2) - (65 : Int32)))] [])) _
        refine XS.iloadN X0.here hx rfl (hb hby d1_30) rfl ?_
        show Steps p.tables e below (s₁.setTop (mkF m 31 #[.val (.int p1), .val (.int p2), .val (.int ((((p1 - (129 : Int32)) * (190 : Int32)) + p2) - (65 : Int32)))] [(.int ((((p1 - (129 : Int32)) * (190 : Int32)) + p2) - (65 : Int32)))])) _
        exact Steps.refl _)
      obtain ⟨fs, hr, hrun, hended, hW, hsame⟩ := X0.leave (v := some (.int ((((p1 - (129 : Int32)) * (190 : Int32)) + p2) - (65 : Int32)))) (fun h => by rw [Bd.returns] at h; cases h)
      refine ⟨_, _, pre0 _ ?_, hrun, hended, _, _, rfl, ?_, ⟨_, rfl⟩, hW, hsame.mono (by decide) (by decide)⟩
      · rw [← hS0]
        exact c5.trans (retI X0 hx Bd.returns (hb hby d1_31) hr)
      · show Qrm1 Z p1 p2 h0 n0 _ s₁.heap _
        rw [e0]
        exact ⟨by rw [own_ptr, if_neg k1, if_neg k2], N0, rfl⟩
theorem own_pn_EucKrDecoderPointerPinLaw : plainName "com/example/harrow/harrow/page/EucKrDecoderPointerPinLaw" = true := by first | (simp [plainName, overriddenIn]; done) | decide +kernel
theorem ef_0 (m : MethodId) (x0 : Int32) (x1 : Int32) (x2 : Int32) : entryFrame m #[(.int x0), (.int x1), (.int x2)] maxLocals = mkF m 0 #[.val (.int x0), .val (.int x1), .val (.int x2), .unset, .unset, .unset] [] := by first | (simp [entryFrame, mkF, argsToLocals, Value.category, maxLocals]; done) | rfl
def Qrm0 (Z : State) (p1 : Int32) (p2 : Int32) (p3 : Int32) (h0 : Heap) (n0 : Nat) (v : Option Value) (h : Heap) (L : List Loc) : Prop := v = some (.int 1) ∧ Fr n0 L
set_option maxRecDepth 65536 in
set_option maxHeartbeats 40000000 in
theorem rm0 (l : Launch) (Z : State) (a0 : Array Value) (hw : ∀ d ∈ tables_1, d.before a0 Z = true) (ws : List Jvm.Cond) (p1 : Int32) (p2 : Int32) (p3 : Int32) (h0 : Heap) (n0 : Nat) (Z0 : n0 ≤ h0.size)  :
    MetFree l x (head1 (Jvm.Cond.code x code maxLocals ret :: ws) (room_1 : Room)) (fun a U => a = #[(.int p1), (.int p2), (.int p3)] ∧ Z.Warmed39 U.vm ∧ U.heap = h0) (fun _ _ _ _ _ => True) (fun _ U o U' => ∃ v L, o = .returned v ∧ Qrm0 Z p1 p2 p3 h0 n0 v U'.heap L ∧ FrameEnd U o U' L (room_1 : Room).cells (room_1 : Room).slots) := by
  refine MetFree.of_bodySF (plainFor_of_name own_pn_EucKrDecoderPointerPinLaw) hisR ?_
  intro p e s m args below meth c s₁ Bd hml0 hP hK
  obtain ⟨rfl, hZ, hh⟩ := hP
  have hx := Bd.exec
  have hby := Bd.bytes
  have hml : c.maxLocals = 6 := hml0
  have hown : s.vm.findClass "com/example/harrow/harrow/page/EucKrDecoderPointerPinLaw" = some m.cls := findClass_of_methodNamed Bd.named
  have hnm := (name_of_methodNamed Bd.named Bd.method).1
  have X0 : Stand p l e (room_1 : Room) s m #[(.int p1), (.int p2), (.int p3)] below meth c s₁ [] 0 0 := Stand.of_body Bd
  have e0 : s₁.heap = h0 := by rw [← hh, Bd.state]; rfl
  have N0 := Fr.nil n0
  have pre0 : ∀ t, Steps p.tables e below (s₁.setTop (mkF m 0 #[.val (.int p1), .val (.int p2), .val (.int p3), .unset, .unset, .unset] [])) t → Steps p.tables e below (s₁.setTop (entryFrame m #[(.int p1), (.int p2), (.int p3)] maxLocals)) t := fun t k => castTop (ef_0 m p1 p2 p3) k
  obtain ⟨S0, hS0⟩ : ∃ z, z = s₁.setTop (mkF m 0 #[.val (.int p1), .val (.int p2), .val (.int p3), .unset, .unset, .unset] []) := ⟨_, rfl⟩
  have c0 : Steps p.tables e below S0 (s₁.setTop (mkF m 0 #[.val (.int p1), .val (.int p2), .val (.int p3), .unset, .unset, .unset] [])) := by rw [hS0]; exact Steps.refl _
  have c1 : Steps p.tables e below S0 (s₁.setTop (mkF m 12 #[.val (.int p1), .val (.int p2), .val (.int p3), .val (.int ((129 : Int32) + ((p1 &&& (2147483647 : Int32)) % (126 : Int32)))), .unset, .unset] [])) := c0.trans (by
    refine XT.sipushV X0.here hx rfl (129 : Int32) (hb hby at_0) (by decide) ?_
    show Steps p.tables e below (s₁.setTop (mkF m 3 #[.val (.int p1), .val (.int p2), .val (.int p3), .unset, .unset, .unset] [(.int (129 : Int32))])) _
    refine XS.iloadN X0.here hx rfl (hb hby at_3) rfl ?_
    show Steps p.tables e below (s₁.setTop (mkF m 4 #[.val (.int p1), .val (.int p2), .val (.int p3), .unset, .unset, .unset] [(.int p1), (.int (129 : Int32))])) _
    refine X0.ldcI hx hown (mvT hZ (hw _ (List.mem_of_getElem? (i := 0) rfl))) (g := (mkF m 4 #[.val (.int p1), .val (.int p2), .val (.int p3), .unset, .unset, .unset] [(.int p1), (.int (129 : Int32))])) rfl (hb hby at_4) ?_
    show Steps p.tables e below (s₁.setTop (mkF m 6 #[.val (.int p1), .val (.int p2), .val (.int p3), .unset, .unset, .unset] [(.int (2147483647 : Int32)), (.int p1), (.int (129 : Int32))])) _
    refine XS.iand X0.here hx rfl (hb hby at_6) rfl ?_
    show Steps p.tables e below (s₁.setTop (mkF m 7 #[.val (.int p1), .val (.int p2), .val (.int p3), .unset, .unset, .unset] [(.int (p1 &&& (2147483647 : Int32))), (.int (129 : Int32))])) _
    refine XT.bipushV X0.here hx rfl (126 : Int32) (hb hby at_7) (by decide) ?_
    show Steps p.tables e below (s₁.setTop (mkF m 9 #[.val (.int p1), .val (.int p2), .val (.int p3), .unset, .unset, .unset] [(.int (126 : Int32)), (.int (p1 &&& (2147483647 : Int32))), (.int (129 : Int32))])) _
    refine iremM X0 hx rfl (hb hby at_9) rfl (by decide) ?_
    show Steps p.tables e below (s₁.setTop (mkF m 10 #[.val (.int p1), .val (.int p2), .val (.int p3), .unset, .unset, .unset] [(.int ((p1 &&& (2147483647 : Int32)) % (126 : Int32))), (.int (129 : Int32))])) _
    refine XS.iadd X0.here hx rfl (hb hby at_10) rfl ?_
    show Steps p.tables e below (s₁.setTop (mkF m 11 #[.val (.int p1), .val (.int p2), .val (.int p3), .unset, .unset, .unset] [(.int ((129 : Int32) + ((p1 &&& (2147483647 : Int32)) % (126 : Int32))))])) _
    refine XS.istoreN X0.here hx rfl (hb hby at_11) rfl (l' := #[.val (.int p1), .val (.int p2), .val (.int p3), .val (.int ((129 : Int32) + ((p1 &&& (2147483647 : Int32)) % (126 : Int32)))), .unset, .unset]) rfl ?_
    show Steps p.tables e below (s₁.setTop (mkF m 12 #[.val (.int p1), .val (.int p2), .val (.int p3), .val (.int ((129 : Int32) + ((p1 &&& (2147483647 : Int32)) % (126 : Int32)))), .unset, .unset] [])) _
    exact Steps.refl _)
  obtain ⟨ld, hld⟩ : ∃ z, z = ((129 : Int32) + ((p1 &&& (2147483647 : Int32)) % (126 : Int32))) := ⟨_, rfl⟩
  rw [← hld] at c1
  obtain ⟨b1, b2⟩ := own_lead p1
  rw [← hld] at b1 b2
  have c2 : Steps p.tables e below S0 (s₁.setTop (mkF m 15 #[.val (.int p1), .val (.int p2), .val (.int p3), .val (.int ld), .unset, .unset] [(.int (p3 &&& (1 : Int32)))])) := c1.trans (by
    refine XS.iloadN X0.here hx rfl (hb hby at_12) rfl ?_
    show Steps p.tables e below (s₁.setTop (mkF m 13 #[.val (.int p1), .val (.int p2), .val (.int p3), .val (.int ld), .unset, .unset] [(.int p3)])) _
    refine XT.iconstV X0.here hx rfl (1 : Int32) (hb hby at_13) (by decide) ?_
    show Steps p.tables e below (s₁.setTop (mkF m 14 #[.val (.int p1), .val (.int p2), .val (.int p3), .val (.int ld), .unset, .unset] [(.int (1 : Int32)), (.int p3)])) _
    refine XS.iand X0.here hx rfl (hb hby at_14) rfl ?_
    show Steps p.tables e below (s₁.setTop (mkF m 15 #[.val (.int p1), .val (.int p2), .val (.int p3), .val (.int ld), .unset, .unset] [(.int (p3 &&& (1 : Int32)))])) _
    exact Steps.refl _)
  obtain ⟨tr, htr⟩ : ∃ z, z = (if (p3 &&& (1 : Int32)) = 0 then (p2 &&& (255 : Int32)) else p2) := ⟨_, rfl⟩
  have c3 : Steps p.tables e below S0 (s₁.setTop (mkF m 27 #[.val (.int p1), .val (.int p2), .val (.int p3), .val (.int ld), .unset, .unset] [(.int tr)])) := by
    by_cases hj0 : (p3 &&& (1 : Int32)) = 0
    ·
      rw [htr, if_pos hj0]
      exact c2.trans (by
        refine XS.ifYes X0.here hx rfl (pc0 := 15) (pc' := 22) rfl (hb hby at_15) rfl (XT.i0_eq_t hj0) (by decide) (by decide) ?_
        show Steps p.tables e below (s₁.setTop (mkF m 22 #[.val (.int p1), .val (.int p2), .val (.int p3), .val (.int ld), .unset, .unset] [])) _
        refine XS.iloadN X0.here hx rfl (hb hby at_22) rfl ?_
        show Steps p.tables e below (s₁.setTop (mkF m 23 #[.val (.int p1), .val (.int p2), .val (.int p3), .val (.int ld), .unset, .unset] [(.int p2)])) _
        refine XT.sipushV X0.here hx rfl (255 : Int32) (hb hby at_23) (by decide) ?_
        show Steps p.tables e below (s₁.setTop (mkF m 26 #[.val (.int p1), .val (.int p2), .val (.int p3), .val (.int ld), .unset, .unset] [(.int (255 : Int32)), (.int p2)])) _
        refine XS.iand X0.here hx rfl (hb hby at_26) rfl ?_
        show Steps p.tables e below (s₁.setTop (mkF m 27 #[.val (.int p1), .val (.int p2), .val (.int p3), .val (.int ld), .unset, .unset] [(.int (p2 &&& (255 : Int32)))])) _
        exact Steps.refl _)
    ·
      rw [htr, if_neg hj0]
      exact c2.trans (by
        refine XS.ifNo X0.here hx rfl (hb hby at_15) rfl (XT.i0_eq_f hj0) ?_
        show Steps p.tables e below (s₁.setTop (mkF m 18 #[.val (.int p1), .val (.int p2), .val (.int p3), .val (.int ld), .unset, .unset] [])) _
        refine XS.iloadN X0.here hx rfl (hb hby at_18) rfl ?_
        show Steps p.tables e below (s₁.setTop (mkF m 19 #[.val (.int p1), .val (.int p2), .val (.int p3), .val (.int ld), .unset, .unset] [(.int p2)])) _
        refine XS.goto X0.here hx rfl (pc0 := 19) (pc' := 27) rfl (hb hby at_19) (by decide) (by decide) ?_
        show Steps p.tables e below (s₁.setTop (mkF m 27 #[.val (.int p1), .val (.int p2), .val (.int p3), .val (.int ld), .unset, .unset] [(.int p2)])) _
        exact Steps.refl _)
  have c4 : Steps p.tables e below S0 (s₁.setTop (mkF m 32 #[.val (.int p1), .val (.int p2), .val (.int p3), .val (.int ld), .val (.int tr), .unset] [(.int tr), (.int ld)])) := c3.trans (by
    refine XS.istore X0.here hx rfl (hb hby at_27) rfl (l' := #[.val (.int p1), .val (.int p2), .val (.int p3), .val (.int ld), .val (.int tr), .unset]) rfl ?_
    show Steps p.tables e below (s₁.setTop (mkF m 29 #[.val (.int p1), .val (.int p2), .val (.int p3), .val (.int ld), .val (.int tr), .unset] [])) _
    refine XS.iloadN X0.here hx rfl (hb hby at_29) rfl ?_
    show Steps p.tables e below (s₁.setTop (mkF m 30 #[.val (.int p1), .val (.int p2), .val (.int p3), .val (.int ld), .val (.int tr), .unset] [(.int ld)])) _
    refine XS.iload X0.here hx rfl (hb hby at_30) rfl ?_
    show Steps p.tables e below (s₁.setTop (mkF m 32 #[.val (.int p1), .val (.int p2), .val (.int p3), .val (.int ld), .val (.int tr), .unset] [(.int tr), (.int ld)])) _
    exact Steps.refl _)
  obtain ⟨_, _, ⟨T5, L5, k5, n5⟩, -, X5, hQ5, st5⟩ := Jvm.LawKit.callS X0 hx (y := (⟨"com/example/harrow/harrow/page/EucKrDecoder", "pointer", "(II)I"⟩ : MethodName)) hown (mvT hZ (hw _ (List.mem_of_getElem? (i := 1) rfl))) (mvT hZ (hw _ (List.mem_of_getElem? (i := 2) rfl))) (mvT hZ (hw _ (List.mem_of_getElem? (i := 3) rfl))) (mvT hZ (hw _ (List.mem_of_getElem? (i := 4) rfl))) (by decide) (backOf (W := 0) (rm1 l Z a0 hw [] ld tr h0 n0 Z0) hZ (hw _ (List.mem_of_getElem? (i := 4) rfl)) (hw _ (List.mem_of_getElem? (i := 3) rfl)) (by decide) (by decide)) (g := (mkF m 32 #[.val (.int p1), .val (.int p2), .val (.int p3), .val (.int ld), .val (.int tr), .unset] [(.int tr), (.int ld)])) rfl (by rw [hml]; rfl) (argsL := [(.int ld), (.int tr)]) (rest := []) (lenOf own_pd__II_I rfl) rfl (by show 2 * 0 + _ ≤ _; exact Nat.le_of_eq rfl) (hb hby at_32) (fun _ _ => ⟨rfl, e0, (by decide : 0 + 0 ≤ _), (by decide : 0 + 0 ≤ _)⟩)
  dsimp only [Pt.U, Pt.locs, Pt.cells, Pt.slots] at X5 hQ5 st5
  obtain ⟨Lc5, hR5, l5, y5, z5⟩ := hQ5
  subst l5 y5 z5
  obtain ⟨rfl, Nq5, eh⟩ := hR5
  have N5 := Fr.app N0 Nq5
  have c6 : Steps p.tables e below S0 (T5.setTop (mkF m 35 #[.val (.int p1), .val (.int p2), .val (.int p3), .val (.int ld), .val (.int tr), .unset] [(.int (own_ptr ld tr))])) := c4.trans (st5 _ (Steps.refl _))
  have c7 : Steps p.tables e below S0 (T5.setTop (mkF m 41 #[.val (.int p1), .val (.int p2), .val (.int p3), .val (.int ld), .val (.int tr), .val (.int (own_ptr ld tr))] [(.int (65 : Int32)), (.int tr)])) := c6.trans (by
    refine XS.istore X5.here hx rfl (hb hby at_35) rfl (l' := #[.val (.int p1), .val (.int p2), .val (.int p3), .val (.int ld), .val (.int tr), .val (.int (own_ptr ld tr))]) rfl ?_
    show Steps p.tables e below (T5.setTop (mkF m 37 #[.val (.int p1), .val (.int p2), .val (.int p3), .val (.int ld), .val (.int tr), .val (.int (own_ptr ld tr))] [])) _
    refine XS.iload X5.here hx rfl (hb hby at_37) rfl ?_
    show Steps p.tables e below (T5.setTop (mkF m 39 #[.val (.int p1), .val (.int p2), .val (.int p3), .val (.int ld), .val (.int tr), .val (.int (own_ptr ld tr))] [(.int tr)])) _
    refine XT.bipushV X5.here hx rfl (65 : Int32) (hb hby at_39) (by decide) ?_
    show Steps p.tables e below (T5.setTop (mkF m 41 #[.val (.int p1), .val (.int p2), .val (.int p3), .val (.int ld), .val (.int tr), .val (.int (own_ptr ld tr))] [(.int (65 : Int32)), (.int tr)])) _
    exact Steps.refl _)
  by_cases k1 : tr < (65 : Int32)
  ·
    have c8 : Steps p.tables e below S0 (T5.setTop (mkF m 63 #[.val (.int p1), .val (.int p2), .val (.int p3), .val (.int ld), .val (.int tr), .val (.int (own_ptr ld tr))] [(.int (1 : Int32))])) := c7.trans (by
      refine XS.icmpYes X5.here hx rfl (pc0 := 41) (pc' := 52) rfl (hb hby at_41) rfl (XT.ii_lt_t k1) (by decide) (by decide) ?_
      show Steps p.tables e below (T5.setTop (mkF m 52 #[.val (.int p1), .val (.int p2), .val (.int p3), .val (.int ld), .val (.int tr), .val (.int (own_ptr ld tr))] [])) _
      refine XS.iload X5.here hx rfl (hb hby at_52) rfl ?_
      show Steps p.tables e below (T5.setTop (mkF m 54 #[.val (.int p1), .val (.int p2), .val (.int p3), .val (.int ld), .val (.int tr), .val (.int (own_ptr ld tr))] [(.int (own_ptr ld tr))])) _
      refine XT.iconstV X5.here hx rfl (-1 : Int32) (hb hby at_54) (by decide) ?_
      show Steps p.tables e below (T5.setTop (mkF m 55 #[.val (.int p1), .val (.int p2), .val (.int p3), .val (.int ld), .val (.int tr), .val (.int (own_ptr ld tr))] [(.int (-1 : Int32)), (.int (own_ptr ld tr))])) _
      refine XS.icmpNo X5.here hx rfl (hb hby at_55) rfl (XT.ii_ne_f (by rw [own_ptr, if_pos k1])) ?_
      show Steps p.tables e below (T5.setTop (mkF m 58 #[.val (.int p1), .val (.int p2), .val (.int p3), .val (.int ld), .val (.int tr), .val (.int (own_ptr ld tr))] [])) _
      refine XT.iconstV X5.here hx rfl (1 : Int32) (hb hby at_58) (by decide) ?_
      show Steps p.tables e below (T5.setTop (mkF m 59 #[.val (.int p1), .val (.int p2), .val (.int p3), .val (.int ld), .val (.int tr), .val (.int (own_ptr ld tr))] [(.int (1 : Int32))])) _
      refine XS.goto X5.here hx rfl (pc0 := 59) (pc' := 63) rfl (hb hby at_59) (by decide) (by decide) ?_
      show Steps p.tables e below (T5.setTop (mkF m 63 #[.val (.int p1), .val (.int p2), .val (.int p3), .val (.int ld), .val (.int tr), .val (.int (own_ptr ld tr))] [(.int (1 : Int32))])) _
      exact Steps.refl _)
    obtain ⟨fs, hr, hrun, hended, hW, hsame⟩ := X5.leave (v := some (.int (1 : Int32))) (fun h => by rw [Bd.returns] at h; cases h)
    refine ⟨_, _, pre0 _ ?_, hrun, hended, _, _, rfl, ?_, ⟨_, rfl⟩, hW, hsame.mono (by decide) (by decide)⟩
    · rw [← hS0]
      exact c8.trans (retN X5 hx (t := .boolean) Bd.returns (by simp) (hb hby at_63) hr)
    · show Qrm0 Z p1 p2 p3 h0 n0 _ T5.heap _
      rw [eh]
      exact ⟨rfl, N5⟩
  ·
    have c9 : Steps p.tables e below S0 (T5.setTop (mkF m 49 #[.val (.int p1), .val (.int p2), .val (.int p3), .val (.int ld), .val (.int tr), .val (.int (own_ptr ld tr))] [(.int (254 : Int32)), (.int tr)])) := c7.trans (by
      refine XS.icmpNo X5.here hx rfl (hb hby at_41) rfl (XT.ii_lt_f k1) ?_
      show Steps p.tables e below (T5.setTop (mkF m 44 #[.val (.int p1), .val (.int p2), .val (.int p3), .val (.int ld), .val (.int tr), .val (.int (own_ptr ld tr))] [])) _
      refine XS.iload X5.here hx rfl (hb hby at_44) rfl ?_
      show Steps p.tables e below (T5.setTop (mkF m 46 #[.val (.int p1), .val (.int p2), .val (.int p3), .val (.int ld), .val (.int tr), .val (.int (own_ptr ld tr))] [(.int tr)])) _
      refine XT.sipushV X5.here hx rfl (254 : Int32) (hb hby at_46) (by decide) ?_
      show Steps p.tables e below (T5.setTop (mkF m 49 #[.val (.int p1), .val (.int p2), .val (.int p3), .val (.int ld), .val (.int tr), .val (.int (own_ptr ld tr))] [(.int (254 : Int32)), (.int tr)])) _
      exact Steps.refl _)
    by_cases k2 : (254 : Int32) < tr
    ·
      have c10 : Steps p.tables e below S0 (T5.setTop (mkF m 63 #[.val (.int p1), .val (.int p2), .val (.int p3), .val (.int ld), .val (.int tr), .val (.int (own_ptr ld tr))] [(.int (1 : Int32))])) := c9.trans (by
        refine XS.icmpNo X5.here hx rfl (hb hby at_49) rfl (XT.ii_le_f k2) ?_
        show Steps p.tables e below (T5.setTop (mkF m 52 #[.val (.int p1), .val (.int p2), .val (.int p3), .val (.int ld), .val (.int tr), .val (.int (own_ptr ld tr))] [])) _
        refine XS.iload X5.here hx rfl (hb hby at_52) rfl ?_
        show Steps p.tables e below (T5.setTop (mkF m 54 #[.val (.int p1), .val (.int p2), .val (.int p3), .val (.int ld), .val (.int tr), .val (.int (own_ptr ld tr))] [(.int (own_ptr ld tr))])) _
        refine XT.iconstV X5.here hx rfl (-1 : Int32) (hb hby at_54) (by decide) ?_
        show Steps p.tables e below (T5.setTop (mkF m 55 #[.val (.int p1), .val (.int p2), .val (.int p3), .val (.int ld), .val (.int tr), .val (.int (own_ptr ld tr))] [(.int (-1 : Int32)), (.int (own_ptr ld tr))])) _
        refine XS.icmpNo X5.here hx rfl (hb hby at_55) rfl (XT.ii_ne_f (by rw [own_ptr, if_neg k1, if_pos k2])) ?_
        show Steps p.tables e below (T5.setTop (mkF m 58 #[.val (.int p1), .val (.int p2), .val (.int p3), .val (.int ld), .val (.int tr), .val (.int (own_ptr ld tr))] [])) _
        refine XT.iconstV X5.here hx rfl (1 : Int32) (hb hby at_58) (by decide) ?_
        show Steps p.tables e below (T5.setTop (mkF m 59 #[.val (.int p1), .val (.int p2), .val (.int p3), .val (.int ld), .val (.int tr), .val (.int (own_ptr ld tr))] [(.int (1 : Int32))])) _
        refine XS.goto X5.here hx rfl (pc0 := 59) (pc' := 63) rfl (hb hby at_59) (by decide) (by decide) ?_
        show Steps p.tables e below (T5.setTop (mkF m 63 #[.val (.int p1), .val (.int p2), .val (.int p3), .val (.int ld), .val (.int tr), .val (.int (own_ptr ld tr))] [(.int (1 : Int32))])) _
        exact Steps.refl _)
      obtain ⟨fs, hr, hrun, hended, hW, hsame⟩ := X5.leave (v := some (.int (1 : Int32))) (fun h => by rw [Bd.returns] at h; cases h)
      refine ⟨_, _, pre0 _ ?_, hrun, hended, _, _, rfl, ?_, ⟨_, rfl⟩, hW, hsame.mono (by decide) (by decide)⟩
      · rw [← hS0]
        exact c10.trans (retN X5 hx (t := .boolean) Bd.returns (by simp) (hb hby at_63) hr)
      · show Qrm0 Z p1 p2 p3 h0 n0 _ T5.heap _
        rw [eh]
        exact ⟨rfl, N5⟩
    ·
      have c11 : Steps p.tables e below S0 (T5.setTop (mkF m 112 #[.val (.int p1), .val (.int p2), .val (.int p3), .val (.int ld), .val (.int tr), .val (.int (own_ptr ld tr))] [(.int (1 : Int32))])) := c9.trans (by
        refine XS.icmpYes X5.here hx rfl (pc0 := 49) (pc' := 64) rfl (hb hby at_49) rfl (XT.ii_le_t k2) (by decide) (by decide) ?_
        show Steps p.tables e below (T5.setTop (mkF m 64 #[.val (.int p1), .val (.int p2), .val (.int p3), .val (.int ld), .val (.int tr), .val (.int (own_ptr ld tr))] [])) _
        refine XS.iload X5.here hx rfl (hb hby at_64) rfl ?_
        show Steps p.tables e below (T5.setTop (mkF m 66 #[.val (.int p1), .val (.int p2), .val (.int p3), .val (.int ld), .val (.int tr), .val (.int (own_ptr ld tr))] [(.int (own_ptr ld tr))])) _
        refine XS.ifNo X5.here hx rfl (hb hby at_66) rfl (XT.i0_lt_f (own_f1 b1 b2 k1 k2)) ?_
        show Steps p.tables e below (T5.setTop (mkF m 69 #[.val (.int p1), .val (.int p2), .val (.int p3), .val (.int ld), .val (.int tr), .val (.int (own_ptr ld tr))] [])) _
        refine XS.iload X5.here hx rfl (hb hby at_69) rfl ?_
        show Steps p.tables e below (T5.setTop (mkF m 71 #[.val (.int p1), .val (.int p2), .val (.int p3), .val (.int ld), .val (.int tr), .val (.int (own_ptr ld tr))] [(.int (own_ptr ld tr))])) _
        refine XT.sipushV X5.here hx rfl (23940 : Int32) (hb hby at_71) (by decide) ?_
        show Steps p.tables e below (T5.setTop (mkF m 74 #[.val (.int p1), .val (.int p2), .val (.int p3), .val (.int ld), .val (.int tr), .val (.int (own_ptr ld tr))] [(.int (23940 : Int32)), (.int (own_ptr ld tr))])) _
        refine XS.icmpYes X5.here hx rfl (pc0 := 74) (pc' := 79) rfl (hb hby at_74) rfl (XT.ii_lt_t (own_f2 b1 b2 k1 k2)) (by decide) (by decide) ?_
        show Steps p.tables e below (T5.setTop (mkF m 79 #[.val (.int p1), .val (.int p2), .val (.int p3), .val (.int ld), .val (.int tr), .val (.int (own_ptr ld tr))] [])) _
        refine XS.iload X5.here hx rfl (hb hby at_79) rfl ?_
        show Steps p.tables e below (T5.setTop (mkF m 81 #[.val (.int p1), .val (.int p2), .val (.int p3), .val (.int ld), .val (.int tr), .val (.int (own_ptr ld tr))] [(.int (own_ptr ld tr))])) _
        refine XT.sipushV X5.here hx rfl (190 : Int32) (hb hby at_81) (by decide) ?_
        show Steps p.tables e below (T5.setTop (mkF m 84 #[.val (.int p1), .val (.int p2), .val (.int p3), .val (.int ld), .val (.int tr), .val (.int (own_ptr ld tr))] [(.int (190 : Int32)), (.int (own_ptr ld tr))])) _
        refine XS.idiv X5.here hx rfl (hb hby at_84) rfl (by decide) ?_
        show Steps p.tables e below (T5.setTop (mkF m 85 #[.val (.int p1), .val (.int p2), .val (.int p3), .val (.int ld), .val (.int tr), .val (.int (own_ptr ld tr))] [(.int ((own_ptr ld tr) / (190 : Int32)))])) _
        refine XS.iloadN X5.here hx rfl (hb hby at_85) rfl ?_
        show Steps p.tables e below (T5.setTop (mkF m 86 #[.val (.int p1), .val (.int p2), .val (.int p3), .val (.int ld), .val (.int tr), .val (.int (own_ptr ld tr))] [(.int ld), (.int ((own_ptr ld tr) / (190 : Int32)))])) _
        refine XT.sipushV X5.here hx rfl (129 : Int32) (hb hby at_86) (by decide) ?_
        show Steps p.tables e below (T5.setTop (mkF m 89 #[.val (.int p1), .val (.int p2), .val (.int p3), .val (.int ld), .val (.int tr), .val (.int (own_ptr ld tr))] [(.int (129 : Int32)), (.int ld), (.int ((own_ptr ld tr) / (190 : Int32)))])) _
        refine XS.isub X5.here hx rfl (hb hby at_89) rfl ?_
        show Steps p.tables e below (T5.setTop (mkF m 90 #[.val (.int p1), .val (.int p2), .val (.int p3), .val (.int ld), .val (.int tr), .val (.int (own_ptr ld tr))] [(.int (ld - (129 : Int32))), (.int ((own_ptr ld tr) / (190 : Int32)))])) _
        refine XS.icmpNo X5.here hx rfl (hb hby at_90) rfl (XT.ii_ne_f (own_f3 b1 b2 k1 k2)) ?_
        show Steps p.tables e below (T5.setTop (mkF m 93 #[.val (.int p1), .val (.int p2), .val (.int p3), .val (.int ld), .val (.int tr), .val (.int (own_ptr ld tr))] [])) _
        refine XS.iload X5.here hx rfl (hb hby at_93) rfl ?_
        show Steps p.tables e below (T5.setTop (mkF m 95 #[.val (.int p1), .val (.int p2), .val (.int p3), .val (.int ld), .val (.int tr), .val (.int (own_ptr ld tr))] [(.int (own_ptr ld tr))])) _
        refine XT.sipushV X5.here hx rfl (190 : Int32) (hb hby at_95) (by decide) ?_
        show Steps p.tables e below (T5.setTop (mkF m 98 #[.val (.int p1), .val (.int p2), .val (.int p3), .val (.int ld), .val (.int tr), .val (.int (own_ptr ld tr))] [(.int (190 : Int32)), (.int (own_ptr ld tr))])) _
        refine iremM X5 hx rfl (hb hby at_98) rfl (by decide) ?_
        show Steps p.tables e below (T5.setTop (mkF m 99 #[.val (.int p1), .val (.int p2), .val (.int p3), .val (.int ld), .val (.int tr), .val (.int (own_ptr ld tr))] [(.int ((own_ptr ld tr) % (190 : Int32)))])) _
        refine XS.iload X5.here hx rfl (hb hby at_99) rfl ?_
        show Steps p.tables e below (T5.setTop (mkF m 101 #[.val (.int p1), .val (.int p2), .val (.int p3), .val (.int ld), .val (.int tr), .val (.int (own_ptr ld tr))] [(.int tr), (.int ((own_ptr ld tr) % (190 : Int32)))])) _
        refine XT.bipushV X5.here hx rfl (65 : Int32) (hb hby at_101) (by decide) ?_
        show Steps p.tables e below (T5.setTop (mkF m 103 #[.val (.int p1), .val (.int p2), .val (.int p3), .val (.int ld), .val (.int tr), .val (.int (own_ptr ld tr))] [(.int (65 : Int32)), (.int tr), (.int ((own_ptr ld tr) % (190 : Int32)))])) _
        refine XS.isub X5.here hx rfl (hb hby at_103) rfl ?_
        show Steps p.tables e below (T5.setTop (mkF m 104 #[.val (.int p1), .val (.int p2), .val (.int p3), .val (.int ld), .val (.int tr), .val (.int (own_ptr ld tr))] [(.int (tr - (65 : Int32))), (.int ((own_ptr ld tr) % (190 : Int32)))])) _
        refine XS.icmpNo X5.here hx rfl (hb hby at_104) rfl (XT.ii_ne_f (own_f4 b1 b2 k1 k2)) ?_
        show Steps p.tables e below (T5.setTop (mkF m 107 #[.val (.int p1), .val (.int p2), .val (.int p3), .val (.int ld), .val (.int tr), .val (.int (own_ptr ld tr))] [])) _
        refine XT.iconstV X5.here hx rfl (1 : Int32) (hb hby at_107) (by decide) ?_
        show Steps p.tables e below (T5.setTop (mkF m 108 #[.val (.int p1), .val (.int p2), .val (.int p3), .val (.int ld), .val (.int tr), .val (.int (own_ptr ld tr))] [(.int (1 : Int32))])) _
        refine XS.goto X5.here hx rfl (pc0 := 108) (pc' := 112) rfl (hb hby at_108) (by decide) (by decide) ?_
        show Steps p.tables e below (T5.setTop (mkF m 112 #[.val (.int p1), .val (.int p2), .val (.int p3), .val (.int ld), .val (.int tr), .val (.int (own_ptr ld tr))] [(.int (1 : Int32))])) _
        exact Steps.refl _)
      obtain ⟨fs, hr, hrun, hended, hW, hsame⟩ := X5.leave (v := some (.int (1 : Int32))) (fun h => by rw [Bd.returns] at h; cases h)
      refine ⟨_, _, pre0 _ ?_, hrun, hended, _, _, rfl, ?_, ⟨_, rfl⟩, hW, hsame.mono (by decide) (by decide)⟩
      · rw [← hS0]
        exact c11.trans (retN X5 hx (t := .boolean) Bd.returns (by simp) (hb hby at_112) hr)
      · show Qrm0 Z p1 p2 p3 h0 n0 _ T5.heap _
        rw [eh]
        exact ⟨rfl, N5⟩
set_option maxRecDepth 65536 in
set_option maxHeartbeats 40000000 in
theorem comes_1 {Post : Tables → Env → Array Value → State → Outcome → State → Prop} (hpost : ∀ tb e args s v u, (limb_1_1.after args s (.returned v) u = true ∧ limb_1_2.after args s (.returned v) u = true ∧ True) → FrameEnd s (.returned v) u (Jvm.fieldLocs frame_1_writes args s ++ Jvm.arrayLocs frame_1_arrays args s ++ Jvm.staticLocs frame_1_statics s) 0 0 → Post tb e args s (.returned v) u) :
    ArmFor flags0 classFile x code maxLocals ret World_1 tables_1 room_1 Calls_1 rest_1 Pre_1 Post := by
  intro l hfl _ _ p e ha hc hk s m args below hf hA hF happ hP
  obtain ⟨hcalls, hrest, hpre⟩ := hP
  obtain ⟨-, -, -, hnamed, -, -, -, hat⟩ := (Spec.applies_iff hf).mp happ
  obtain ⟨hg, hn⟩ := and_e (Cond.before_iff.mp (show (Jvm.Cond.and given_1 narrow_1).before args s = true from hpre))
  obtain ⟨hcount, g0⟩ := and_e hg
  obtain ⟨k0, g1⟩ := and_e g0
  obtain ⟨k1, g2⟩ := and_e g1
  obtain ⟨w0, w1, w2, rfl⟩ : ∃ w0 w1 w2 : Value, args = #[w0, w1, w2] := by
    have hs : args.size = 3 := by simpa [Cond.value, given_1] using hcount
    obtain ⟨L⟩ := args
    match L, hs with
    | [w0, w1, w2], _ => exact ⟨w0, w1, w2, rfl⟩
  have hw := fun d (hd : d ∈ tables_1) => atoms_spec (ws := Jvm.Cond.code x code maxLocals ret :: tables_1) hat d (List.mem_cons_of_mem _ hd)
  obtain ⟨i0, e0⟩ := is_v k0
  obtain rfl : w0 = (.int i0) := Option.some.inj e0
  obtain ⟨i1, e1⟩ := is_v k1
  obtain rfl : w1 = (.int i1) := Option.some.inj e1
  obtain ⟨i2, e2⟩ := is_v g2
  obtain rfl : w2 = (.int i2) := Option.some.inj e2
  obtain ⟨n, o, h1, h2, h3, _, L, rfl, ⟨rfl, N⟩, hq⟩ := rm0 l s _ hw tables_1 i0 i1 i2 s.heap s.heap.size (Nat.le_refl _) p e ha hc hk s m _ below hf ((Spec.applies_iff_loose hf).mp happ).1 ⟨rfl, State.Warmed39.refl s, rfl⟩ trivial
  refine ⟨n, _, h1, h2, h3, hpost _ _ _ _ _ _ ⟨Cond.after_iff.mpr rfl, Cond.after_iff.mpr (eq_i res_at (Term.int_eval (1)) rfl), trivial⟩ ⟨hq.1, hq.2.1, (hq.2.2.sift fun y hy => Or.inr (N y hy)).mono (by decide) (by decide)⟩⟩
theorem main_1_1 : Claimed_1_1 := comes_1 fun _ _ _ _ _ _ h hF => ⟨h.1, hF⟩
theorem main_1_2 : Claimed_1_2 := comes_1 fun _ _ _ _ _ _ h hF => ⟨h.2.1, hF⟩
end Jvm.Pilot.@@N@@
namespace Jvm.Pilot.@@N@@
open Jvm Jvm.ClassFile Sem Op Lib Jvm.Free Jvm.Stand Jvm.Pilot.@@N@@.Jvm.D
/-! MADE BY PROGRAM (witnessworld.py) out of the Statement's table words and the real class files: 11 classes; the members and pool entries that the words name. The judged class is class 1, her method 1. -/
namespace start1
open Jvm.ClassFile
def u (s : String) : CpInfo := .utf8 (stringToUtf16 s)
/-- a pool by its gaps: so many unusable entries, then the entry; so many at the end -/
def gap : Nat → List CpInfo → List CpInfo
  | 0, r => r
  | n + 1, r => .unusable :: gap n r
def poolList (es : List (Nat × CpInfo)) (last : Nat) : List CpInfo := es.foldr (fun e r => gap e.1 (e.2 :: r)) (gap last [])
def pool (es : List (Nat × CpInfo)) (last : Nat) : Array CpInfo := ⟨poolList es last⟩
def fileOf (pool : Array CpInfo) (this : Nat) (attrs : Array Attribute := #[]) (ms : Array MethodInfo := #[]) (fl : Nat := 33) (sup : Nat := 0) (ifs : Array Nat := #[]) (fds : Array FieldInfo := #[]) : ClassFile where
  minorVersion := 0
  majorVersion := 65
  constantPool := pool
  accessFlags := fl
  thisClass := this
  superClass := sup
  interfaces := ifs
  fields := fds
  methods := ms
  attributes := attrs
def plain (name : String) (sup : Option ClassId) : Class where
  name := name
  kind := .ordinary
  loader := none
  accessFlags := 33
  super := sup
  interfaces := #[]
  cf := none
  fields := #[]
  methods := #[]
  instanceTypes := #[]
  staticTypes := #[]
  resolved := #[]
  callSites := []
  init := .initialized
  statics := none
  mirror := none

def pool0 : Array CpInfo := pool [(5, u "<init>"), (0, u "()V"), (1, .class_ 10), (1, u "java/lang/Object")] 113

def k0m0 : Method := { name := "<init>", desc := "()V", sig := { parameters := [], returnType := none }, accessFlags := 1, code := none }
/-- java/lang/Object -/
def k0 : Class := { plain "java/lang/Object" none with
  accessFlags := 33
  interfaces := #[]
  cf := some (fileOf pool0 8 #[] #[{ accessFlags := 1, nameIndex := 5, descriptorIndex := 6, attributes := #[] }] 33 0 #[] #[])
  fields := #[]
  methods := #[k0m0]
  instanceTypes := #[]
  staticTypes := #[]
  resolved := Array.replicate 124 none
  statics := none }

def pool1 : Array CpInfo := pool [(2, .class_ 4), (1, u "java/lang/Object"), (0, u "<init>"), (0, u "()V"), (0, .integer 2147483647), (0, .methodref 9 10), (0, .class_ 11), (0, .nameAndType 12 13), (0, u "com/example/harrow/harrow/page/EucKrDecoder"), (0, u "pointer"), (0, u "(II)I"), (2, .class_ 17), (0, u "com/example/harrow/harrow/page/EucKrDecoderPointerPinLaw"), (2, u "law"), (0, u "(III)Z")] 3

def k1m0 : Method := { name := "<init>", desc := "()V", sig := { parameters := [], returnType := none }, accessFlags := 1, code := none }
def k1c1 : Code := { maxStack := 3, maxLocals := 6, code := code, exceptionTable := #[], attributes := #[] }
def k1m1 : Method := { name := "law", desc := "(III)Z", sig := { parameters := [.int, .int, .int], returnType := some .boolean }, accessFlags := 9, code := some k1c1 }
/-- com/example/harrow/harrow/page/EucKrDecoderPointerPinLaw -/
def k1 : Class := { plain "com/example/harrow/harrow/page/EucKrDecoderPointerPinLaw" (some 0) with
  accessFlags := 49
  interfaces := #[]
  cf := some (fileOf pool1 16 #[] #[{ accessFlags := 1, nameIndex := 5, descriptorIndex := 6, attributes := #[] }, { accessFlags := 9, nameIndex := 20, descriptorIndex := 21, attributes := #[] }] 49 2 #[] #[])
  fields := #[]
  methods := #[k1m0, k1m1]
  instanceTypes := #[]
  staticTypes := #[]
  resolved := Array.replicate 25 none
  statics := none }

def pool2 : Array CpInfo := pool [(1, .class_ 2), (0, u "com/example/harrow/harrow/page/Decoder"), (0, .class_ 4), (0, u "java/lang/Object")] 4

/-- com/example/harrow/harrow/page/Decoder -/
def k2 : Class := { plain "com/example/harrow/harrow/page/Decoder" (some 0) with
  accessFlags := 1536
  interfaces := #[]
  cf := some (fileOf pool2 1 #[] #[] 1536 3 #[] #[])
  fields := #[]
  methods := #[]
  instanceTypes := #[]
  staticTypes := #[]
  resolved := Array.replicate 9 none
  statics := none }

def pool3 : Array CpInfo := pool [(2, .class_ 4), (1, u "java/lang/Object"), (0, u "<init>"), (0, u "()V"), (10, .class_ 19), (1, u "com/example/harrow/harrow/page/MultiByteDecoder"), (13, .class_ 34), (0, u "com/example/harrow/harrow/page/Decoder"), (0, u "REPLACEMENT"), (0, u "C")] 14

def k3m0 : Method := { name := "<init>", desc := "()V", sig := { parameters := [], returnType := none }, accessFlags := 0, code := none }
/-- com/example/harrow/harrow/page/MultiByteDecoder -/
def k3 : Class := { plain "com/example/harrow/harrow/page/MultiByteDecoder" (some 0) with
  accessFlags := 1056
  interfaces := #[2]
  cf := some (fileOf pool3 17 #[] #[{ accessFlags := 0, nameIndex := 5, descriptorIndex := 6, attributes := #[] }] 1056 2 #[33] #[{ accessFlags := 24, nameIndex := 35, descriptorIndex := 36, attributes := #[] }])
  fields := #[{ name := "REPLACEMENT", type := .char, accessFlags := 24, slot := 0, constantValue := 0 }]
  methods := #[k3m0]
  instanceTypes := #[]
  staticTypes := #[.char]
  resolved := Array.replicate 51 none
  statics := none }

def pool4 : Array CpInfo := pool [(2, .class_ 4), (1, u "com/example/harrow/harrow/page/MultiByteDecoder"), (3, .class_ 10), (1, u "com/example/harrow/harrow/page/EucKrDecoder"), (0, u "eucKr"), (0, u "Lcom/example/harrow/harrow/page/EncodingIndex;"), (12, u "pointer"), (0, u "(II)I"), (8, u "POINTERS"), (0, u "I")] 10

def k4c0 : Code := { maxStack := 2, maxLocals := 3, code := prog_18_method_2_code, exceptionTable := #[], attributes := #[] }
def k4m0 : Method := { name := "pointer", desc := "(II)I", sig := { parameters := [.int, .int], returnType := some .int }, accessFlags := 8, code := some k4c0 }
/-- com/example/harrow/harrow/page/EucKrDecoder -/
def k4 : Class := { plain "com/example/harrow/harrow/page/EucKrDecoder" (some 3) with
  accessFlags := 48
  interfaces := #[]
  cf := some (fileOf pool4 8 #[] #[{ accessFlags := 8, nameIndex := 25, descriptorIndex := 26, attributes := #[] }] 48 2 #[] #[{ accessFlags := 24, nameIndex := 35, descriptorIndex := 36, attributes := #[] }, { accessFlags := 18, nameIndex := 11, descriptorIndex := 12, attributes := #[] }])
  fields := #[{ name := "POINTERS", type := .int, accessFlags := 24, slot := 0, constantValue := 0 }, { name := "eucKr", type := (.object "com/example/harrow/harrow/page/EncodingIndex"), accessFlags := 18, slot := 0, constantValue := 0 }]
  methods := #[k4m0]
  instanceTypes := #[(.object "com/example/harrow/harrow/page/EncodingIndex")]
  staticTypes := #[.int]
  resolved := Array.replicate 47 none
  statics := none }

def pool5 : Array CpInfo := pool [(1, u "java/lang/Cloneable"), (0, .class_ 1), (0, u "java/lang/Object"), (0, .class_ 3)] 3

/-- java/lang/Cloneable -/
def k5 : Class := { plain "java/lang/Cloneable" (some 0) with
  accessFlags := 1537
  interfaces := #[]
  cf := some (fileOf pool5 2 #[] #[] 1537 4 #[] #[])
  fields := #[]
  methods := #[]
  instanceTypes := #[]
  staticTypes := #[]
  resolved := Array.replicate 8 none
  statics := none }

def pool6 : Array CpInfo := pool [(1, u "java/io/Serializable"), (0, .class_ 1), (0, u "java/lang/Object"), (0, .class_ 3)] 3

/-- java/io/Serializable -/
def k6 : Class := { plain "java/io/Serializable" (some 0) with
  accessFlags := 1537
  interfaces := #[]
  cf := some (fileOf pool6 2 #[] #[] 1537 4 #[] #[])
  fields := #[]
  methods := #[]
  instanceTypes := #[]
  staticTypes := #[]
  resolved := Array.replicate 8 none
  statics := none }

/-- the primitive byte -/
def k7 : Class := { plain "byte" none with kind := .primitive 'B', accessFlags := 0x411 }
/-- [B -/
def k8 : Class := { plain "[B" (some 0) with kind := .array 7 .byte, interfaces := #[5, 6], accessFlags := 1041 }

/-- the primitive int -/
def k9 : Class := { plain "int" none with kind := .primitive 'I', accessFlags := 0x411 }
/-- [I -/
def k10 : Class := { plain "[I" (some 0) with kind := .array 9 .int, interfaces := #[5, 6], accessFlags := 1041 }

def heap : Heap := #[]
def classes : Array Class := #[k0, k1, k2, k3, k4, k5, k6, k7, k8, k9, k10]
def interned : List (Array UInt16 × Addr) := []
def slotsUsed : Nat := 0
def theMethod : MethodId := ⟨1, 1⟩
def args0 : Array Value := #[.int 5, .int 70, .int 1]
def aboutOver (below : List Frame) : State where
  vm := { classes := classes, interned := interned.toArray }
  heap := heap
  slotsUsed := slotsUsed
  threads := #[{ frames := .invoking theMethod args0 :: below }]
def below0 : List Frame := [.native { method := ⟨0, 0⟩, args := #[] }]
def about1 : State := aboutOver below0
def p0 : Program := .bare "" "" ""
def e0 : Env := launch0.env 0 0 0
theorem w_frames : about1.frames = Frame.invoking theMethod args0 :: below0 := rfl
set_option maxRecDepth 65536 in
theorem w_args : argsFit about1.vm theMethod args0 = true := by decide +kernel
set_option maxRecDepth 65536 in
theorem w_heap : heapFits about1 = true := by decide +kernel
set_option maxRecDepth 65536 in
theorem w_runnable : about1.curStatus? = some .runnable := by decide +kernel
set_option maxRecDepth 65536 in
theorem w_alone : about1.alone = true := by decide +kernel
set_option maxRecDepth 65536 in
theorem w_named : about1.methodNamed? x = some theMethod := by decide +kernel
set_option maxRecDepth 65536 in
theorem w_hears : about1.hears theMethod below0 = true := by decide +kernel
set_option maxRecDepth 65536 in
theorem w_ripe : about1.ripe theMethod args0 below0 = true := by decide +kernel
theorem w_running : about1.status = .running := rfl
set_option maxRecDepth 65536 in
theorem w_room : about1.hasRoom e0.platform room_1 = true :=
  launch0.hasRoom_least _ room_1 (by decide +kernel) (by decide +kernel) (by decide +kernel) (by decide +kernel) (by decide +kernel) (by decide +kernel)
theorem allAtoms_all (ts : List Jvm.Cond) (a : Array Jvm.Value) (st : Jvm.State) : (allAtoms ts).before a st = ts.all (fun c => c.before a st) := by
  induction ts with
  | nil => rfl
  | cons c t ih =>
    show (Jvm.Cond.and c (allAtoms t)).before a st = _
    rw [Jvm.Cond.before_and, ih, List.all_cons]
def words1 : List Jvm.Cond := Jvm.Cond.code x code maxLocals ret :: tables_1
/-- a 'code' word, met by the world's own term for the bytes: nothing is compared byte by byte -/
theorem code_word {y : MethodName} {bytes : ByteArray} {mx : Nat} {rt : Option FieldType} {a : Array Value} {s : State} {m : MethodId} {meth : Method} {c : Code} (h1 : s.methodNamed? y = some m) (h2 : s.vm.method? m = some meth) (h3 : meth.code = some c) (h4 : c.code = bytes)
    (h5 : (c.maxLocals == mx && c.exceptionTable.isEmpty && decide (c.maxStack ≤ mostOperands) && decide (meth.sig.returnType = rt) && !meth.locks && decide (parseMethodDescriptor y.desc = some meth.sig)) = true) : (Jvm.Cond.code y bytes mx rt).before a s = true := by
  simp only [Bool.and_eq_true, beq_iff_eq, Bool.not_eq_true', decide_eq_true_eq] at h5
  obtain ⟨⟨⟨⟨⟨g1, g2⟩, g3⟩, g4⟩, g5⟩, g6⟩ := h5
  simp [Cond.before, Cond.holds, Cond.value, h1, h2, h3, h4, g1, g2, g3, g4, g5, g6]
def isCode : Jvm.Cond → Bool
  | .code _ _ _ _ => true
  | _ => false
theorem all_split {L : List Jvm.Cond} {P : Jvm.Cond → Bool} (h1 : L.all (fun c => isCode c || P c) = true) (h2 : ∀ c ∈ L.filter isCode, P c = true) : L.all P = true := by
  refine List.all_eq_true.mpr fun c hc => ?_
  have h := List.all_eq_true.mp h1 c hc
  rcases Bool.eq_false_or_eq_true (isCode c) with hi | hi
  · exact h2 c (List.mem_filter.mpr ⟨hc, hi⟩)
  · simpa [hi] using h
set_option maxRecDepth 65536 in
theorem w_c0 : (Jvm.Cond.code x code maxLocals ret).before args0 about1 = true := code_word (m := ⟨1, 1⟩) (meth := k1m1) (c := k1c1) (by decide +kernel) rfl rfl rfl (by decide +kernel)
set_option maxRecDepth 65536 in
theorem w_c1 : (Jvm.Cond.code ({ cls := "com/example/harrow/harrow/page/EucKrDecoder", name := "pointer", desc := "(II)I" } : Jvm.MethodName) prog_18_method_2_code (3 : Nat) (Option.some Jvm.ClassFile.FieldType.int)).before args0 about1 = true := code_word (m := ⟨4, 0⟩) (meth := k4m0) (c := k4c0) (by decide +kernel) rfl rfl rfl (by decide +kernel)
def codes1 : List Jvm.Cond := [Jvm.Cond.code x code maxLocals ret, Jvm.Cond.code ({ cls := "com/example/harrow/harrow/page/EucKrDecoder", name := "pointer", desc := "(II)I" } : Jvm.MethodName) prog_18_method_2_code (3 : Nat) (Option.some Jvm.ClassFile.FieldType.int)]
set_option maxRecDepth 65536 in
theorem codes_eq : words1.filter isCode = codes1 := rfl
theorem w_codes : ∀ c ∈ words1.filter isCode, c.before args0 about1 = true := by
  rw [codes_eq]
  intro c hc
  simp only [codes1, List.mem_cons, List.not_mem_nil, or_false] at hc
  rcases hc with rfl | rfl
  · exact w_c0
  · exact w_c1
set_option maxRecDepth 65536 in
theorem w_t1 : words1.all (fun c => isCode c || c.before args0 about1) = true := by decide +kernel
theorem w_tables : (allAtoms (Jvm.Cond.code x code maxLocals ret :: tables_1)).before args0 about1 = true := by
  rw [allAtoms_all]
  show words1.all (fun c => c.before args0 about1) = true
  refine all_split ?_ w_codes
  rw [w_t1]
set_option maxRecDepth 65536 in
theorem w_case : (Jvm.Cond.and given_1 narrow_1).before args0 about1 = true := by decide +kernel
theorem w_applies : (headSpec (Jvm.Cond.code x code maxLocals ret :: tables_1) room_1).applies x e0.platform about1 = true :=
  (Spec.applies_iff w_frames).mpr ⟨w_running, w_runnable, w_alone, w_named, w_hears, w_ripe, w_room, w_tables⟩
theorem atStart : AtStart classFile x code maxLocals ret World_1 tables_1 room_1 Calls_1 rest_1 Pre_1 launch0 p0 e0 about1 theMethod args0 below0 :=
  ⟨lists_1, trivial, launch0.admits_env _ _ _, launch0.least_env, fairChoices_fair.cas, fairChoices_fair.clock, w_frames, w_args, w_heap, w_applies, trivial, trivial, w_case⟩
end start1
theorem witness_1 : WitnessClaimed_1 := ⟨start1.p0, start1.e0, start1.about1, start1.theMethod, start1.args0, start1.below0, start1.atStart⟩
end Jvm.Pilot.@@N@@
