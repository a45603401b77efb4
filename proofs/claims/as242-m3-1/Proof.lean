import JvmDerived
import JvmDerived.Pilot.@@N@@Statement
import JvmDerived.Pilot.@@N@@Code
set_option linter.unusedVariables false
set_option linter.unusedSimpArgs false
@@BLOCK:NumsL.lean.txt@@
namespace Jvm.RoadKit
open Sem ClassFile Op Lib Jvm.Stand Jvm.Free Jvm.LawKit
section New
variable {p : Program} {l : Launch} {e : Env} {R : Room} {s : State} {m : MethodId} {args : Array Value} {below : List Frame} {meth : Method} {c : Code} {T : State} {locs : List Loc} {cells slots : Nat}
theorem retI (X : Stand p l e R s m args below meth c T locs cells slots) (hx : p.tables.exec = Jvm.exec) {pc : Nat} {Ls : Array Slot} {z : Int32} {rest : List Value} (hret : meth.sig.returnType = some .int) (hd : decode c.code pc = .ok (.ireturn, 1)) {fs : List Frame}
    (hl : ∀ (f : JFrame) (acts : List Action), f.method = m → f.locked = none → f.entered = [] → (doReturn e (T.setTop f) acts (some (.int z))).1 = T.setFrames fs) : Steps p.tables e below (T.setTop (mkF m pc Ls (.int z :: rest))) (T.setFrames fs) := by
  have hm' : T.vm.method? m = some meth := X.method'
  have hn : narrow .int (.int z) = .int z := rfl
  show Steps p.tables e below (T.setTop { method := m, pc := pc, locals := Ls, stack := _ :: rest, locked := none }) _
  jvm_step X.here [X.here.top, hx, hd, hm', hret, hn]
  first | (intro acts; rw [hl _ acts rfl rfl rfl]) | rw [hl _ _ rfl rfl rfl]
  exact Steps.refl _
end New
end Jvm.RoadKit
namespace Jvm.Pilot.@@N@@
open Jvm Jvm.ClassFile Sem Op Lib Jvm.Free Jvm.Stand Jvm.LawKit Jvm.RoadKit Bundle Jvm.Pilot.@@N@@.Jvm.D
theorem own_pd__J_J : parseMethodDescriptor "(J)J" = some ⟨[.long], some .long⟩ := by decide +kernel
def own_sh (q : Int64) : Int64 := q ^^^ (Jvm.Free.XT.ushrL q 33)
def own_mid (q : Int64) : Int64 := own_sh (own_sh q * (-49064778989728563 : Int64))
def own_mix (q : Int64) : Int64 := if own_mid q = 0 then 1 else own_mid q
theorem own_bv (b : BitVec 64) : (b ^^^ (b >>> 33)) ^^^ ((b ^^^ (b >>> 33)) >>> 33) = b := by
  apply BitVec.eq_of_getLsbD_eq
  intro i hi
  simp only [BitVec.getLsbD_xor, BitVec.getLsbD_ushiftRight]
  have h : b.getLsbD (33 + (33 + i)) = false := BitVec.getLsbD_of_ge b _ (by omega)
  rw [h]; cases b.getLsbD i <;> cases b.getLsbD (33 + i) <;> rfl
theorem own_shb (q : Int64) : (own_sh q).toBitVec = q.toBitVec ^^^ (q.toBitVec >>> 33) := by
  have h : ((33 : Int32).toInt64.toUInt64 &&& Int64.toUInt64 63) = 33 := by decide
  have e : own_sh q = q ^^^ (q.toUInt64 >>> ((33 : Int32).toInt64.toUInt64 &&& Int64.toUInt64 63)).toInt64 := rfl
  rw [e, h, Int64.toBitVec_xor, UInt64.toBitVec_toInt64, UInt64.toBitVec_shiftRight, Int64.toBitVec_toUInt64]
  rfl
theorem own_shsh (q : Int64) : own_sh (own_sh q) = q := by
  apply Int64.toBitVec_inj.mp
  rw [own_shb, own_shb]; exact own_bv _
theorem own_inv (z : Int64) : z * (-49064778989728563 : Int64) * (5725274745694666757 : Int64) = z := by
  rw [Int64.mul_assoc, show (-49064778989728563 : Int64) * (5725274745694666757 : Int64) = 1 by decide +kernel, Int64.mul_one]
theorem own_sh0 : own_sh 0 = 0 := by decide +kernel
theorem own_back (q : Int64) : own_sh (own_sh (own_mid q) * (5725274745694666757 : Int64)) = q := by
  rw [own_mid, own_shsh, own_inv, own_shsh]
theorem own_ne (q : Int64) : ¬ own_mix q = 0 := by
  unfold own_mix
  by_cases h : own_mid q = 0
  · rw [if_pos h]; decide
  · rw [if_neg h]; exact h
theorem own_zero {q : Int64} (h : q = 0) : own_mix q = 1 := by
  subst h; decide +kernel
theorem own_mix_eq {q : Int64} (h : ¬ q = 0) : own_mix q = own_mid q := by
  unfold own_mix
  rw [if_neg]
  intro h0
  have e := own_back q
  rw [h0, own_sh0] at e
  apply h
  rw [← e]; decide +kernel
theorem d1_0 : decode prog_49_method_4_code 0 = .ok (.lload_n 0, 1) := by decide +kernel
theorem d1_1 : decode prog_49_method_4_code 1 = .ok (.lload_n 0, 1) := by decide +kernel
theorem d1_2 : decode prog_49_method_4_code 2 = .ok (.bipush 33, 2) := by decide +kernel
theorem d1_4 : decode prog_49_method_4_code 4 = .ok (.lushr, 1) := by decide +kernel
theorem d1_5 : decode prog_49_method_4_code 5 = .ok (.lxor, 1) := by decide +kernel
theorem d1_6 : decode prog_49_method_4_code 6 = .ok (.lstore_n 2, 1) := by decide +kernel
theorem d1_7 : decode prog_49_method_4_code 7 = .ok (.lload_n 2, 1) := by decide +kernel
theorem d1_8 : decode prog_49_method_4_code 8 = .ok (.ldc2_w 35, 3) := by decide +kernel
theorem d1_11 : decode prog_49_method_4_code 11 = .ok (.lmul, 1) := by decide +kernel
theorem d1_12 : decode prog_49_method_4_code 12 = .ok (.lstore_n 2, 1) := by decide +kernel
theorem d1_13 : decode prog_49_method_4_code 13 = .ok (.lload_n 2, 1) := by decide +kernel
theorem d1_14 : decode prog_49_method_4_code 14 = .ok (.lload_n 2, 1) := by decide +kernel
theorem d1_15 : decode prog_49_method_4_code 15 = .ok (.bipush 33, 2) := by decide +kernel
theorem d1_17 : decode prog_49_method_4_code 17 = .ok (.lushr, 1) := by decide +kernel
theorem d1_18 : decode prog_49_method_4_code 18 = .ok (.lxor, 1) := by decide +kernel
theorem d1_19 : decode prog_49_method_4_code 19 = .ok (.lstore_n 2, 1) := by decide +kernel
theorem d1_20 : decode prog_49_method_4_code 20 = .ok (.lload_n 2, 1) := by decide +kernel
theorem d1_21 : decode prog_49_method_4_code 21 = .ok (.lconst 0, 1) := by decide +kernel
theorem d1_22 : decode prog_49_method_4_code 22 = .ok (.lcmp, 1) := by decide +kernel
theorem d1_23 : decode prog_49_method_4_code 23 = .ok (.ifCond .ne 7, 3) := by decide +kernel
theorem d1_26 : decode prog_49_method_4_code 26 = .ok (.lconst 1, 1) := by decide +kernel
theorem d1_27 : decode prog_49_method_4_code 27 = .ok (.goto 4, 3) := by decide +kernel
theorem d1_30 : decode prog_49_method_4_code 30 = .ok (.lload_n 2, 1) := by decide +kernel
theorem d1_31 : decode prog_49_method_4_code 31 = .ok (.lreturn, 1) := by decide +kernel
theorem own_pn_NameFingerprints : plainName "com/example/chainwright/chainwright/formats/NameFingerprints" = true := by first | (simp [plainName, overriddenIn]; done) | decide +kernel
theorem ef_1 (m : MethodId) (x0 : Int64) : entryFrame m #[(.long x0)] 4 = mkF m 0 #[.val (.long x0), .second, .unset, .unset] [] := by first | (simp [entryFrame, mkF, argsToLocals, Value.category]; done) | rfl
def Qrm1 (Z : State) (q1 : Int64) (h0 : Heap) (n0 : Nat) (v : Option Value) (h : Heap) (L : List Loc) : Prop := v = some (.long (own_mix q1)) ∧ Fr n0 L ∧ h = h0
set_option maxRecDepth 65536 in
set_option maxHeartbeats 40000000 in
theorem rm1 (l : Launch) (Z : State) (a0 : Array Value) (hw : ∀ d ∈ tables_1, d.before a0 Z = true) (ws : List Jvm.Cond) (q1 : Int64) (h0 : Heap) (n0 : Nat) (Z0 : n0 ≤ h0.size)  :
    MetFree l (⟨"com/example/chainwright/chainwright/formats/NameFingerprints", "mixed", "(J)J"⟩ : MethodName) (head1 (Jvm.Cond.code (⟨"com/example/chainwright/chainwright/formats/NameFingerprints", "mixed", "(J)J"⟩ : MethodName) prog_49_method_4_code 4 (some .long) :: ws) ({ frames := 0, cells := 0, slots := 0, locals := 0 } : Room)) (fun a U => a = #[(.long q1)] ∧ Z.Warmed39 U.vm ∧ U.heap = h0) (fun _ _ _ _ _ => True) (fun _ U o U' => ∃ v L, o = .returned v ∧ Qrm1 Z q1 h0 n0 v U'.heap L ∧ FrameEnd U o U' L ({ frames := 0, cells := 0, slots := 0, locals := 0 } : Room).cells ({ frames := 0, cells := 0, slots := 0, locals := 0 } : Room).slots) := by
  refine MetFree.of_bodySF (plainFor_of_name own_pn_NameFingerprints) hisR ?_
  intro p e s m args below meth c s₁ Bd hml0 hP hK
  obtain ⟨rfl, hZ, hh⟩ := hP
  have hx := Bd.exec
  have hby := Bd.bytes
  have hml : c.maxLocals = 4 := hml0
  have hown : s.vm.findClass "com/example/chainwright/chainwright/formats/NameFingerprints" = some m.cls := findClass_of_methodNamed Bd.named
  have hnm := (name_of_methodNamed Bd.named Bd.method).1
  have X0 : Stand p l e ({ frames := 0, cells := 0, slots := 0, locals := 0 } : Room) s m #[(.long q1)] below meth c s₁ [] 0 0 := Stand.of_body Bd
  have e0 : s₁.heap = h0 := by rw [← hh, Bd.state]; rfl
  have N0 := Fr.nil n0
  have pre0 : ∀ t, Steps p.tables e below (s₁.setTop (mkF m 0 #[.val (.long q1), .second, .unset, .unset] [])) t → Steps p.tables e below (s₁.setTop (entryFrame m #[(.long q1)] 4)) t := fun t k => castTop (ef_1 m q1) k
  obtain ⟨S0, hS0⟩ : ∃ z, z = s₁.setTop (mkF m 0 #[.val (.long q1), .second, .unset, .unset] []) := ⟨_, rfl⟩
  have c0 : Steps p.tables e below S0 (s₁.setTop (mkF m 0 #[.val (.long q1), .second, .unset, .unset] [])) := by rw [hS0]; exact Steps.refl _
  have c1 : Steps p.tables e below S0 (s₁.setTop (mkF m 20 #[.val (.long q1), .second, .val (.long (((q1 ^^^ (XT.ushrL q1 (33 : Int32))) * (-49064778989728563 : Int64)) ^^^ (XT.ushrL ((q1 ^^^ (XT.ushrL q1 (33 : Int32))) * (-49064778989728563 : Int64)) (33 : Int32)))), .second] [])) := c0.trans (by
    refine XT.lloadN X0.here hx rfl (hb hby d1_0) rfl ?_
    show Steps p.tables e below (s₁.setTop (mkF m 1 #[.val (.long q1), .second, .unset, .unset] [(.long q1)])) _
    refine XT.lloadN X0.here hx rfl (hb hby d1_1) rfl ?_
    show Steps p.tables e below (s₁.setTop (mkF m 2 #[.val (.long q1), .second, .unset, .unset] [(.long q1), (.long q1)])) _
    refine XT.bipushV X0.here hx rfl (33 : Int32) (hb hby d1_2) (by decide) ?_
    show Steps p.tables e below (s₁.setTop (mkF m 4 #[.val (.long q1), .second, .unset, .unset] [(.int (33 : Int32)), (.long q1), (.long q1)])) _
    refine XT.lushr X0.here hx rfl (hb hby d1_4) rfl ?_
    show Steps p.tables e below (s₁.setTop (mkF m 5 #[.val (.long q1), .second, .unset, .unset] [(.long (XT.ushrL q1 (33 : Int32))), (.long q1)])) _
    refine XT.lxor X0.here hx rfl (hb hby d1_5) rfl ?_
    show Steps p.tables e below (s₁.setTop (mkF m 6 #[.val (.long q1), .second, .unset, .unset] [(.long (q1 ^^^ (XT.ushrL q1 (33 : Int32))))])) _
    refine XT.lstoreN X0.here hx rfl (hb hby d1_6) rfl (l' := #[.val (.long q1), .second, .val (.long (q1 ^^^ (XT.ushrL q1 (33 : Int32)))), .second]) rfl ?_
    show Steps p.tables e below (s₁.setTop (mkF m 7 #[.val (.long q1), .second, .val (.long (q1 ^^^ (XT.ushrL q1 (33 : Int32)))), .second] [])) _
    refine XT.lloadN X0.here hx rfl (hb hby d1_7) rfl ?_
    show Steps p.tables e below (s₁.setTop (mkF m 8 #[.val (.long q1), .second, .val (.long (q1 ^^^ (XT.ushrL q1 (33 : Int32)))), .second] [(.long (q1 ^^^ (XT.ushrL q1 (33 : Int32))))])) _
    refine X0.ldc2J hx hown (mvT hZ (hw _ (List.mem_of_getElem? (i := 4) rfl))) (g := (mkF m 8 #[.val (.long q1), .second, .val (.long (q1 ^^^ (XT.ushrL q1 (33 : Int32)))), .second] [(.long (q1 ^^^ (XT.ushrL q1 (33 : Int32))))])) rfl (hb hby d1_8) ?_
    show Steps p.tables e below (s₁.setTop (mkF m 11 #[.val (.long q1), .second, .val (.long (q1 ^^^ (XT.ushrL q1 (33 : Int32)))), .second] [(.long (-49064778989728563 : Int64)), (.long (q1 ^^^ (XT.ushrL q1 (33 : Int32))))])) _
    refine XT.lmul X0.here hx rfl (hb hby d1_11) rfl ?_
    show Steps p.tables e below (s₁.setTop (mkF m 12 #[.val (.long q1), .second, .val (.long (q1 ^^^ (XT.ushrL q1 (33 : Int32)))), .second] [(.long ((q1 ^^^ (XT.ushrL q1 (33 : Int32))) * (-49064778989728563 : Int64)))])) _
    refine XT.lstoreN X0.here hx rfl (hb hby d1_12) rfl (l' := #[.val (.long q1), .second, .val (.long ((q1 ^^^ (XT.ushrL q1 (33 : Int32))) * (-49064778989728563 : Int64))), .second]) rfl ?_
    show Steps p.tables e below (s₁.setTop (mkF m 13 #[.val (.long q1), .second, .val (.long ((q1 ^^^ (XT.ushrL q1 (33 : Int32))) * (-49064778989728563 : Int64))), .second] [])) _
    refine XT.lloadN X0.here hx rfl (hb hby d1_13) rfl ?_
    show Steps p.tables e below (s₁.setTop (mkF m 14 #[.val (.long q1), .second, .val (.long ((q1 ^^^ (XT.ushrL q1 (33 : Int32))) * (-49064778989728563 : Int64))), .second] [(.long ((q1 ^^^ (XT.ushrL q1 (33 : Int32))) * (-49064778989728563 : Int64)))])) _
    refine XT.lloadN X0.here hx rfl (hb hby d1_14) rfl ?_
    show Steps p.tables e below (s₁.setTop (mkF m 15 #[.val (.long q1), .second, .val (.long ((q1 ^^^ (XT.ushrL q1 (33 : Int32))) * (-49064778989728563 : Int64))), .second] [(.long ((q1 ^^^ (XT.ushrL q1 (33 : Int32))) * (-49064778989728563 : Int64))), (.long ((q1 ^^^ (XT.ushrL q1 (33 : Int32))) * (-49064778989728563 : Int64)))])) _
    refine XT.bipushV X0.here hx rfl (33 : Int32) (hb hby d1_15) (by decide) ?_
    show Steps p.tables e below (s₁.setTop (mkF m 17 #[.val (.long q1), .second, .val (.long ((q1 ^^^ (XT.ushrL q1 (33 : Int32))) * (-49064778989728563 : Int64))), .second] [(.int (33 : Int32)), (.long ((q1 ^^^ (XT.ushrL q1 (33 : Int32))) * (-49064778989728563 : Int64))), (.long ((q1 ^^^ (XT.ushrL q1 (33 : Int32))) * (-49064778989728563 : Int64)))])) _
    refine XT.lushr X0.here hx rfl (hb hby d1_17) rfl ?_
    show Steps p.tables e below (s₁.setTop (mkF m 18 #[.val (.long q1), .second, .val (.long ((q1 ^^^ (XT.ushrL q1 (33 : Int32))) * (-49064778989728563 : Int64))), .second] [(.long (XT.ushrL ((q1 ^^^ (XT.ushrL q1 (33 : Int32))) * (-49064778989728563 : Int64)) (33 : Int32))), (.long ((q1 ^^^ (XT.ushrL q1 (33 : Int32))) * (-49064778989728563 : Int64)))])) _
    refine XT.lxor X0.here hx rfl (hb hby d1_18) rfl ?_
    show Steps p.tables e below (s₁.setTop (mkF m 19 #[.val (.long q1), .second, .val (.long ((q1 ^^^ (XT.ushrL q1 (33 : Int32))) * (-49064778989728563 : Int64))), .second] [(.long (((q1 ^^^ (XT.ushrL q1 (33 : Int32))) * (-49064778989728563 : Int64)) ^^^ (XT.ushrL ((q1 ^^^ (XT.ushrL q1 (33 : Int32))) * (-49064778989728563 : Int64)) (33 : Int32))))])) _
    refine XT.lstoreN X0.here hx rfl (hb hby d1_19) rfl (l' := #[.val (.long q1), .second, .val (.long (((q1 ^^^ (XT.ushrL q1 (33 : Int32))) * (-49064778989728563 : Int64)) ^^^ (XT.ushrL ((q1 ^^^ (XT.ushrL q1 (33 : Int32))) * (-49064778989728563 : Int64)) (33 : Int32)))), .second]) rfl ?_
    show Steps p.tables e below (s₁.setTop (mkF m 20 #[.val (.long q1), .second, .val (.long (((q1 ^^^ (XT.ushrL q1 (33 : Int32))) * (-49064778989728563 : Int64)) ^^^ (XT.ushrL ((q1 ^^^ (XT.ushrL q1 (33 : Int32))) * (-49064778989728563 : Int64)) (33 : Int32)))), .second] [])) _
    exact Steps.refl _)
  obtain ⟨md, hmd⟩ : ∃ z, z = (((q1 ^^^ (XT.ushrL q1 (33 : Int32))) * (-49064778989728563 : Int64)) ^^^ (XT.ushrL ((q1 ^^^ (XT.ushrL q1 (33 : Int32))) * (-49064778989728563 : Int64)) (33 : Int32))) := ⟨_, rfl⟩
  rw [← hmd] at c1
  have hmd' : md = own_mid q1 := hmd
  have c2 : Steps p.tables e below S0 (s₁.setTop (mkF m 23 #[.val (.long q1), .second, .val (.long md), .second] [(.int (XT.cmpL md (0 : Int64)))])) := c1.trans (by
    refine XT.lloadN X0.here hx rfl (hb hby d1_20) rfl ?_
    show Steps p.tables e below (s₁.setTop (mkF m 21 #[.val (.long q1), .second, .val (.long md), .second] [(.long md)])) _
    refine XT.lconstV X0.here hx rfl (0 : Int64) (hb hby d1_21) (by decide) ?_
    show Steps p.tables e below (s₁.setTop (mkF m 22 #[.val (.long q1), .second, .val (.long md), .second] [(.long (0 : Int64)), (.long md)])) _
    refine XT.lcmp X0.here hx rfl (hb hby d1_22) rfl ?_
    show Steps p.tables e below (s₁.setTop (mkF m 23 #[.val (.long q1), .second, .val (.long md), .second] [(.int (XT.cmpL md (0 : Int64)))])) _
    exact Steps.refl _)
  by_cases k1 : md = (0 : Int64)
  ·
    have c3 : Steps p.tables e below S0 (s₁.setTop (mkF m 31 #[.val (.long q1), .second, .val (.long md), .second] [(.long (1 : Int64))])) := c2.trans (by
      refine XS.ifNo X0.here hx rfl (hb hby d1_23) rfl (XT.ll_ne_f k1) ?_
      show Steps p.tables e below (s₁.setTop (mkF m 26 #[.val (.long q1), .second, .val (.long md), .second] [])) _
      refine XT.lconstV X0.here hx rfl (1 : Int64) (hb hby d1_26) (by decide) ?_
      show Steps p.tables e below (s₁.setTop (mkF m 27 #[.val (.long q1), .second, .val (.long md), .second] [(.long (1 : Int64))])) _
      refine XS.goto X0.here hx rfl (pc0 := 27) (pc' := 31) rfl (hb hby d1_27) (by decide) (by decide) ?_
      show Steps p.tables e below (s₁.setTop (mkF m 31 #[.val (.long q1), .second, .val (.long md), .second] [(.long (1 : Int64))])) _
      exact Steps.refl _)
    obtain ⟨fs, hr, hrun, hended, hW, hsame⟩ := X0.leave (v := some (.long (1 : Int64))) (fun h => by rw [Bd.returns] at h; cases h)
    refine ⟨_, _, pre0 _ ?_, hrun, hended, _, _, rfl, ?_, ⟨_, rfl⟩, hW, hsame.mono (by decide) (by decide)⟩
    · rw [← hS0]
      refine c3.trans ?_
      jvm_step X0.here [X0.here.top, hx, (hb hby d1_31), X0.method', Bd.returns, narrow]
      first | (intro acts; rw [hr _ acts rfl rfl rfl]) | rw [hr _ _ rfl rfl rfl]
      exact Steps.refl _
    · show Qrm1 Z q1 h0 n0 _ s₁.heap _
      rw [e0]
      exact ⟨by rw [own_mix, ← hmd', if_pos k1], N0, rfl⟩
  ·
    have c4 : Steps p.tables e below S0 (s₁.setTop (mkF m 31 #[.val (.long q1), .second, .val (.long md), .second] [(.long md)])) := c2.trans (by
      refine XS.ifYes X0.here hx rfl (pc0 := 23) (pc' := 30) rfl (hb hby d1_23) rfl (XT.ll_ne_t k1) (by decide) (by decide) ?_
      show Steps p.tables e below (s₁.setTop (mkF m 30 #[.val (.long q1), .second, .val (.long md), .second] [])) _
      refine XT.lloadN X0.here hx rfl (hb hby d1_30) rfl ?_
      show Steps p.tables e below (s₁.setTop (mkF m 31 #[.val (.long q1), .second, .val (.long md), .second] [(.long md)])) _
      exact Steps.refl _)
    obtain ⟨fs, hr, hrun, hended, hW, hsame⟩ := X0.leave (v := some (.long md)) (fun h => by rw [Bd.returns] at h; cases h)
    refine ⟨_, _, pre0 _ ?_, hrun, hended, _, _, rfl, ?_, ⟨_, rfl⟩, hW, hsame.mono (by decide) (by decide)⟩
    · rw [← hS0]
      refine c4.trans ?_
      jvm_step X0.here [X0.here.top, hx, (hb hby d1_31), X0.method', Bd.returns, narrow]
      first | (intro acts; rw [hr _ acts rfl rfl rfl]) | rw [hr _ _ rfl rfl rfl]
      exact Steps.refl _
    · show Qrm1 Z q1 h0 n0 _ s₁.heap _
      rw [e0]
      exact ⟨by rw [own_mix, ← hmd', if_neg k1], N0, rfl⟩
theorem own_pn_NameFingerprintsMixedPinLaw : plainName "com/example/chainwright/chainwright/formats/NameFingerprintsMixedPinLaw" = true := by first | (simp [plainName, overriddenIn]; done) | decide +kernel
theorem ef_0 (m : MethodId) (x0 : Int64) : entryFrame m #[(.long x0)] maxLocals = mkF m 0 #[.val (.long x0), .second, .unset, .unset, .unset, .unset, .unset, .unset, .unset, .unset, .unset, .unset, .unset, .unset] [] := by first | (simp [entryFrame, mkF, argsToLocals, Value.category, maxLocals]; done) | rfl
def Qrm0 (Z : State) (q1 : Int64) (h0 : Heap) (n0 : Nat) (v : Option Value) (h : Heap) (L : List Loc) : Prop := v = some (.int 1) ∧ Fr n0 L
set_option maxRecDepth 65536 in
set_option maxHeartbeats 40000000 in
theorem rm0 (l : Launch) (Z : State) (a0 : Array Value) (hw : ∀ d ∈ tables_1, d.before a0 Z = true) (ws : List Jvm.Cond) (q1 : Int64) (h0 : Heap) (n0 : Nat) (Z0 : n0 ≤ h0.size)  :
    MetFree l x (head1 (Jvm.Cond.code x code maxLocals ret :: ws) (room_1 : Room)) (fun a U => a = #[(.long q1)] ∧ Z.Warmed39 U.vm ∧ U.heap = h0) (fun _ _ _ _ _ => True) (fun _ U o U' => ∃ v L, o = .returned v ∧ Qrm0 Z q1 h0 n0 v U'.heap L ∧ FrameEnd U o U' L (room_1 : Room).cells (room_1 : Room).slots) := by
  refine MetFree.of_bodySF (plainFor_of_name own_pn_NameFingerprintsMixedPinLaw) hisR ?_
  intro p e s m args below meth c s₁ Bd hml0 hP hK
  obtain ⟨rfl, hZ, hh⟩ := hP
  have hx := Bd.exec
  have hby := Bd.bytes
  have hml : c.maxLocals = 14 := hml0
  have hown : s.vm.findClass "com/example/chainwright/chainwright/formats/NameFingerprintsMixedPinLaw" = some m.cls := findClass_of_methodNamed Bd.named
  have hnm := (name_of_methodNamed Bd.named Bd.method).1
  have X0 : Stand p l e (room_1 : Room) s m #[(.long q1)] below meth c s₁ [] 0 0 := Stand.of_body Bd
  have e0 : s₁.heap = h0 := by rw [← hh, Bd.state]; rfl
  have N0 := Fr.nil n0
  have pre0 : ∀ t, Steps p.tables e below (s₁.setTop (mkF m 0 #[.val (.long q1), .second, .unset, .unset, .unset, .unset, .unset, .unset, .unset, .unset, .unset, .unset, .unset, .unset] [])) t → Steps p.tables e below (s₁.setTop (entryFrame m #[(.long q1)] maxLocals)) t := fun t k => castTop (ef_0 m q1) k
  obtain ⟨S0, hS0⟩ : ∃ z, z = s₁.setTop (mkF m 0 #[.val (.long q1), .second, .unset, .unset, .unset, .unset, .unset, .unset, .unset, .unset, .unset, .unset, .unset, .unset] []) := ⟨_, rfl⟩
  have c0 : Steps p.tables e below S0 (s₁.setTop (mkF m 0 #[.val (.long q1), .second, .unset, .unset, .unset, .unset, .unset, .unset, .unset, .unset, .unset, .unset, .unset, .unset] [])) := by rw [hS0]; exact Steps.refl _
  have c1 : Steps p.tables e below S0 (s₁.setTop (mkF m 1 #[.val (.long q1), .second, .unset, .unset, .unset, .unset, .unset, .unset, .unset, .unset, .unset, .unset, .unset, .unset] [(.long q1)])) := c0.trans (by
    refine XT.lloadN X0.here hx rfl (hb hby at_0) rfl ?_
    show Steps p.tables e below (s₁.setTop (mkF m 1 #[.val (.long q1), .second, .unset, .unset, .unset, .unset, .unset, .unset, .unset, .unset, .unset, .unset, .unset, .unset] [(.long q1)])) _
    exact Steps.refl _)
  obtain ⟨_, _, ⟨T2, L2, k2, n2⟩, -, X2, hQ2, st2⟩ := Jvm.LawKit.callS X0 hx (y := (⟨"com/example/chainwright/chainwright/formats/NameFingerprints", "mixed", "(J)J"⟩ : MethodName)) hown (mvT hZ (hw _ (List.mem_of_getElem? (i := 0) rfl))) (mvT hZ (hw _ (List.mem_of_getElem? (i := 1) rfl))) (mvT hZ (hw _ (List.mem_of_getElem? (i := 2) rfl))) (mvT hZ (hw _ (List.mem_of_getElem? (i := 3) rfl))) (by decide) (backOf (W := 0) (rm1 l Z a0 hw [] q1 h0 n0 Z0) hZ (hw _ (List.mem_of_getElem? (i := 3) rfl)) (hw _ (List.mem_of_getElem? (i := 2) rfl)) (by decide) (by decide)) (g := (mkF m 1 #[.val (.long q1), .second, .unset, .unset, .unset, .unset, .unset, .unset, .unset, .unset, .unset, .unset, .unset, .unset] [(.long q1)])) rfl (by rw [hml]; rfl) (argsL := [(.long q1)]) (rest := []) (lenOf own_pd__J_J rfl) rfl (by show 2 * 0 + _ ≤ _; exact Nat.le_of_eq rfl) (hb hby at_1) (fun _ _ => ⟨rfl, e0, (by decide : 0 + 0 ≤ _), (by decide : 0 + 0 ≤ _)⟩)
  dsimp only [Pt.U, Pt.locs, Pt.cells, Pt.slots] at X2 hQ2 st2
  obtain ⟨Lc2, hR2, l2, y2, z2⟩ := hQ2
  subst l2 y2 z2
  obtain ⟨rfl, Nq2, eh⟩ := hR2
  have N2 := Fr.app N0 Nq2
  have c3 : Steps p.tables e below S0 (T2.setTop (mkF m 4 #[.val (.long q1), .second, .unset, .unset, .unset, .unset, .unset, .unset, .unset, .unset, .unset, .unset, .unset, .unset] [(.long (own_mix q1))])) := c1.trans (st2 _ (Steps.refl _))
  have c4 : Steps p.tables e below S0 (T2.setTop (mkF m 16 #[.val (.long q1), .second, .val (.long (own_mix q1)), .second, .unset, .unset, .unset, .unset, .unset, .unset, .unset, .unset, .unset, .unset] [(.int (XT.cmpL q1 (0 : Int64)))])) := c3.trans (by
    refine XT.lstoreN X2.here hx rfl (hb hby at_4) rfl (l' := #[.val (.long q1), .second, .val (.long (own_mix q1)), .second, .unset, .unset, .unset, .unset, .unset, .unset, .unset, .unset, .unset, .unset]) rfl ?_
    show Steps p.tables e below (T2.setTop (mkF m 5 #[.val (.long q1), .second, .val (.long (own_mix q1)), .second, .unset, .unset, .unset, .unset, .unset, .unset, .unset, .unset, .unset, .unset] [])) _
    refine XT.lloadN X2.here hx rfl (hb hby at_5) rfl ?_
    show Steps p.tables e below (T2.setTop (mkF m 6 #[.val (.long q1), .second, .val (.long (own_mix q1)), .second, .unset, .unset, .unset, .unset, .unset, .unset, .unset, .unset, .unset, .unset] [(.long (own_mix q1))])) _
    refine XT.lconstV X2.here hx rfl (0 : Int64) (hb hby at_6) (by decide) ?_
    show Steps p.tables e below (T2.setTop (mkF m 7 #[.val (.long q1), .second, .val (.long (own_mix q1)), .second, .unset, .unset, .unset, .unset, .unset, .unset, .unset, .unset, .unset, .unset] [(.long (0 : Int64)), (.long (own_mix q1))])) _
    refine XT.lcmp X2.here hx rfl (hb hby at_7) rfl ?_
    show Steps p.tables e below (T2.setTop (mkF m 8 #[.val (.long q1), .second, .val (.long (own_mix q1)), .second, .unset, .unset, .unset, .unset, .unset, .unset, .unset, .unset, .unset, .unset] [(.int (XT.cmpL (own_mix q1) (0 : Int64)))])) _
    refine XS.ifYes X2.here hx rfl (pc0 := 8) (pc' := 13) rfl (hb hby at_8) rfl (XT.ll_ne_t (own_ne q1)) (by decide) (by decide) ?_
    show Steps p.tables e below (T2.setTop (mkF m 13 #[.val (.long q1), .second, .val (.long (own_mix q1)), .second, .unset, .unset, .unset, .unset, .unset, .unset, .unset, .unset, .unset, .unset] [])) _
    refine XT.lloadN X2.here hx rfl (hb hby at_13) rfl ?_
    show Steps p.tables e below (T2.setTop (mkF m 14 #[.val (.long q1), .second, .val (.long (own_mix q1)), .second, .unset, .unset, .unset, .unset, .unset, .unset, .unset, .unset, .unset, .unset] [(.long q1)])) _
    refine XT.lconstV X2.here hx rfl (0 : Int64) (hb hby at_14) (by decide) ?_
    show Steps p.tables e below (T2.setTop (mkF m 15 #[.val (.long q1), .second, .val (.long (own_mix q1)), .second, .unset, .unset, .unset, .unset, .unset, .unset, .unset, .unset, .unset, .unset] [(.long (0 : Int64)), (.long q1)])) _
    refine XT.lcmp X2.here hx rfl (hb hby at_15) rfl ?_
    show Steps p.tables e below (T2.setTop (mkF m 16 #[.val (.long q1), .second, .val (.long (own_mix q1)), .second, .unset, .unset, .unset, .unset, .unset, .unset, .unset, .unset, .unset, .unset] [(.int (XT.cmpL q1 (0 : Int64)))])) _
    exact Steps.refl _)
  by_cases k1 : q1 = (0 : Int64)
  ·
    have c5 : Steps p.tables e below S0 (T2.setTop (mkF m 30 #[.val (.long q1), .second, .val (.long (own_mix q1)), .second, .unset, .unset, .unset, .unset, .unset, .unset, .unset, .unset, .unset, .unset] [(.int (1 : Int32))])) := c4.trans (by
      refine XS.ifNo X2.here hx rfl (hb hby at_16) rfl (XT.ll_ne_f k1) ?_
      show Steps p.tables e below (T2.setTop (mkF m 19 #[.val (.long q1), .second, .val (.long (own_mix q1)), .second, .unset, .unset, .unset, .unset, .unset, .unset, .unset, .unset, .unset, .unset] [])) _
      refine XT.lloadN X2.here hx rfl (hb hby at_19) rfl ?_
      show Steps p.tables e below (T2.setTop (mkF m 20 #[.val (.long q1), .second, .val (.long (own_mix q1)), .second, .unset, .unset, .unset, .unset, .unset, .unset, .unset, .unset, .unset, .unset] [(.long (own_mix q1))])) _
      refine XT.lconstV X2.here hx rfl (1 : Int64) (hb hby at_20) (by decide) ?_
      show Steps p.tables e below (T2.setTop (mkF m 21 #[.val (.long q1), .second, .val (.long (own_mix q1)), .second, .unset, .unset, .unset, .unset, .unset, .unset, .unset, .unset, .unset, .unset] [(.long (1 : Int64)), (.long (own_mix q1))])) _
      refine XT.lcmp X2.here hx rfl (hb hby at_21) rfl ?_
      show Steps p.tables e below (T2.setTop (mkF m 22 #[.val (.long q1), .second, .val (.long (own_mix q1)), .second, .unset, .unset, .unset, .unset, .unset, .unset, .unset, .unset, .unset, .unset] [(.int (XT.cmpL (own_mix q1) (1 : Int64)))])) _
      refine XS.ifNo X2.here hx rfl (hb hby at_22) rfl (XT.ll_ne_f (own_zero k1)) ?_
      show Steps p.tables e below (T2.setTop (mkF m 25 #[.val (.long q1), .second, .val (.long (own_mix q1)), .second, .unset, .unset, .unset, .unset, .unset, .unset, .unset, .unset, .unset, .unset] [])) _
      refine XT.iconstV X2.here hx rfl (1 : Int32) (hb hby at_25) (by decide) ?_
      show Steps p.tables e below (T2.setTop (mkF m 26 #[.val (.long q1), .second, .val (.long (own_mix q1)), .second, .unset, .unset, .unset, .unset, .unset, .unset, .unset, .unset, .unset, .unset] [(.int (1 : Int32))])) _
      refine XS.goto X2.here hx rfl (pc0 := 26) (pc' := 30) rfl (hb hby at_26) (by decide) (by decide) ?_
      show Steps p.tables e below (T2.setTop (mkF m 30 #[.val (.long q1), .second, .val (.long (own_mix q1)), .second, .unset, .unset, .unset, .unset, .unset, .unset, .unset, .unset, .unset, .unset] [(.int (1 : Int32))])) _
      exact Steps.refl _)
    obtain ⟨fs, hr, hrun, hended, hW, hsame⟩ := X2.leave (v := some (.int (1 : Int32))) (fun h => by rw [Bd.returns] at h; cases h)
    refine ⟨_, _, pre0 _ ?_, hrun, hended, _, _, rfl, ?_, ⟨_, rfl⟩, hW, hsame.mono (by decide) (by decide)⟩
    · rw [← hS0]
      exact c5.trans (retN X2 hx (t := .boolean) Bd.returns (by simp) (hb hby at_30) hr)
    · show Qrm0 Z q1 h0 n0 _ T2.heap _
      rw [eh]
      exact ⟨rfl, N2⟩
  ·
    have c6 : Steps p.tables e below S0 (T2.setTop (mkF m 54 #[.val (.long q1), .second, .val (.long (own_mix q1)), .second, .val (.long (-49064778989728563 : Int64)), .second, .val (.long ((-49064778989728563 : Int64) * ((2 : Int64) - ((-49064778989728563 : Int64) * (-49064778989728563 : Int64))))), .second, .unset, .unset, .unset, .unset, .unset, .unset] [])) := c4.trans (by
      refine XS.ifYes X2.here hx rfl (pc0 := 16) (pc' := 31) rfl (hb hby at_16) rfl (XT.ll_ne_t k1) (by decide) (by decide) ?_
      show Steps p.tables e below (T2.setTop (mkF m 31 #[.val (.long q1), .second, .val (.long (own_mix q1)), .second, .unset, .unset, .unset, .unset, .unset, .unset, .unset, .unset, .unset, .unset] [])) _
      refine X2.ldc2J hx hown (mvT hZ (hw _ (List.mem_of_getElem? (i := 5) rfl))) (g := (mkF m 31 #[.val (.long q1), .second, .val (.long (own_mix q1)), .second, .unset, .unset, .unset, .unset, .unset, .unset, .unset, .unset, .unset, .unset] [])) rfl (hb hby at_31) ?_
      show Steps p.tables e below (T2.setTop (mkF m 34 #[.val (.long q1), .second, .val (.long (own_mix q1)), .second, .unset, .unset, .unset, .unset, .unset, .unset, .unset, .unset, .unset, .unset] [(.long (-49064778989728563 : Int64))])) _
      refine XT.lstore X2.here hx rfl (hb hby at_34) rfl (l' := #[.val (.long q1), .second, .val (.long (own_mix q1)), .second, .val (.long (-49064778989728563 : Int64)), .second, .unset, .unset, .unset, .unset, .unset, .unset, .unset, .unset]) rfl ?_
      show Steps p.tables e below (T2.setTop (mkF m 36 #[.val (.long q1), .second, .val (.long (own_mix q1)), .second, .val (.long (-49064778989728563 : Int64)), .second, .unset, .unset, .unset, .unset, .unset, .unset, .unset, .unset] [])) _
      refine XT.lload X2.here hx rfl (hb hby at_36) rfl ?_
      show Steps p.tables e below (T2.setTop (mkF m 38 #[.val (.long q1), .second, .val (.long (own_mix q1)), .second, .val (.long (-49064778989728563 : Int64)), .second, .unset, .unset, .unset, .unset, .unset, .unset, .unset, .unset] [(.long (-49064778989728563 : Int64))])) _
      refine XT.lstore X2.here hx rfl (hb hby at_38) rfl (l' := #[.val (.long q1), .second, .val (.long (own_mix q1)), .second, .val (.long (-49064778989728563 : Int64)), .second, .val (.long (-49064778989728563 : Int64)), .second, .unset, .unset, .unset, .unset, .unset, .unset]) rfl ?_
      show Steps p.tables e below (T2.setTop (mkF m 40 #[.val (.long q1), .second, .val (.long (own_mix q1)), .second, .val (.long (-49064778989728563 : Int64)), .second, .val (.long (-49064778989728563 : Int64)), .second, .unset, .unset, .unset, .unset, .unset, .unset] [])) _
      refine XT.lload X2.here hx rfl (hb hby at_40) rfl ?_
      show Steps p.tables e below (T2.setTop (mkF m 42 #[.val (.long q1), .second, .val (.long (own_mix q1)), .second, .val (.long (-49064778989728563 : Int64)), .second, .val (.long (-49064778989728563 : Int64)), .second, .unset, .unset, .unset, .unset, .unset, .unset] [(.long (-49064778989728563 : Int64))])) _
      refine X2.ldc2J hx hown (mvT hZ (hw _ (List.mem_of_getElem? (i := 6) rfl))) (g := (mkF m 42 #[.val (.long q1), .second, .val (.long (own_mix q1)), .second, .val (.long (-49064778989728563 : Int64)), .second, .val (.long (-49064778989728563 : Int64)), .second, .unset, .unset, .unset, .unset, .unset, .unset] [(.long (-49064778989728563 : Int64))])) rfl (hb hby at_42) ?_
      show Steps p.tables e below (T2.setTop (mkF m 45 #[.val (.long q1), .second, .val (.long (own_mix q1)), .second, .val (.long (-49064778989728563 : Int64)), .second, .val (.long (-49064778989728563 : Int64)), .second, .unset, .unset, .unset, .unset, .unset, .unset] [(.long (2 : Int64)), (.long (-49064778989728563 : Int64))])) _
      refine XT.lload X2.here hx rfl (hb hby at_45) rfl ?_
      show Steps p.tables e below (T2.setTop (mkF m 47 #[.val (.long q1), .second, .val (.long (own_mix q1)), .second, .val (.long (-49064778989728563 : Int64)), .second, .val (.long (-49064778989728563 : Int64)), .second, .unset, .unset, .unset, .unset, .unset, .unset] [(.long (-49064778989728563 : Int64)), (.long (2 : Int64)), (.long (-49064778989728563 : Int64))])) _
      refine XT.lload X2.here hx rfl (hb hby at_47) rfl ?_
      show Steps p.tables e below (T2.setTop (mkF m 49 #[.val (.long q1), .second, .val (.long (own_mix q1)), .second, .val (.long (-49064778989728563 : Int64)), .second, .val (.long (-49064778989728563 : Int64)), .second, .unset, .unset, .unset, .unset, .unset, .unset] [(.long (-49064778989728563 : Int64)), (.long (-49064778989728563 : Int64)), (.long (2 : Int64)), (.long (-49064778989728563 : Int64))])) _
      refine XT.lmul X2.here hx rfl (hb hby at_49) rfl ?_
      show Steps p.tables e below (T2.setTop (mkF m 50 #[.val (.long q1), .second, .val (.long (own_mix q1)), .second, .val (.long (-49064778989728563 : Int64)), .second, .val (.long (-49064778989728563 : Int64)), .second, .unset, .unset, .unset, .unset, .unset, .unset] [(.long ((-49064778989728563 : Int64) * (-49064778989728563 : Int64))), (.long (2 : Int64)), (.long (-49064778989728563 : Int64))])) _
      refine XT.lsub X2.here hx rfl (hb hby at_50) rfl ?_
      show Steps p.tables e below (T2.setTop (mkF m 51 #[.val (.long q1), .second, .val (.long (own_mix q1)), .second, .val (.long (-49064778989728563 : Int64)), .second, .val (.long (-49064778989728563 : Int64)), .second, .unset, .unset, .unset, .unset, .unset, .unset] [(.long ((2 : Int64) - ((-49064778989728563 : Int64) * (-49064778989728563 : Int64)))), (.long (-49064778989728563 : Int64))])) _
      refine XT.lmul X2.here hx rfl (hb hby at_51) rfl ?_
      show Steps p.tables e below (T2.setTop (mkF m 52 #[.val (.long q1), .second, .val (.long (own_mix q1)), .second, .val (.long (-49064778989728563 : Int64)), .second, .val (.long (-49064778989728563 : Int64)), .second, .unset, .unset, .unset, .unset, .unset, .unset] [(.long ((-49064778989728563 : Int64) * ((2 : Int64) - ((-49064778989728563 : Int64) * (-49064778989728563 : Int64)))))])) _
      refine XT.lstore X2.here hx rfl (hb hby at_52) rfl (l' := #[.val (.long q1), .second, .val (.long (own_mix q1)), .second, .val (.long (-49064778989728563 : Int64)), .second, .val (.long ((-49064778989728563 : Int64) * ((2 : Int64) - ((-49064778989728563 : Int64) * (-49064778989728563 : Int64))))), .second, .unset, .unset, .unset, .unset, .unset, .unset]) rfl ?_
      show Steps p.tables e below (T2.setTop (mkF m 54 #[.val (.long q1), .second, .val (.long (own_mix q1)), .second, .val (.long (-49064778989728563 : Int64)), .second, .val (.long ((-49064778989728563 : Int64) * ((2 : Int64) - ((-49064778989728563 : Int64) * (-49064778989728563 : Int64))))), .second, .unset, .unset, .unset, .unset, .unset, .unset] [])) _
      exact Steps.refl _)
    have hl7 : ((-49064778989728563 : Int64) * ((2 : Int64) - ((-49064778989728563 : Int64) * (-49064778989728563 : Int64)))) = (-4308230726457925435 : Int64) := by decide +kernel
    rw [hl7] at c6
    have c8 : Steps p.tables e below S0 (T2.setTop (mkF m 68 #[.val (.long q1), .second, .val (.long (own_mix q1)), .second, .val (.long (-49064778989728563 : Int64)), .second, .val (.long ((-4308230726457925435 : Int64) * ((2 : Int64) - ((-49064778989728563 : Int64) * (-4308230726457925435 : Int64))))), .second, .unset, .unset, .unset, .unset, .unset, .unset] [])) := c6.trans (by
      refine XT.lload X2.here hx rfl (hb hby at_54) rfl ?_
      show Steps p.tables e below (T2.setTop (mkF m 56 #[.val (.long q1), .second, .val (.long (own_mix q1)), .second, .val (.long (-49064778989728563 : Int64)), .second, .val (.long (-4308230726457925435 : Int64)), .second, .unset, .unset, .unset, .unset, .unset, .unset] [(.long (-4308230726457925435 : Int64))])) _
      refine X2.ldc2J hx hown (mvT hZ (hw _ (List.mem_of_getElem? (i := 6) rfl))) (g := (mkF m 56 #[.val (.long q1), .second, .val (.long (own_mix q1)), .second, .val (.long (-49064778989728563 : Int64)), .second, .val (.long (-4308230726457925435 : Int64)), .second, .unset, .unset, .unset, .unset, .unset, .unset] [(.long (-4308230726457925435 : Int64))])) rfl (hb hby at_56) ?_
      show Steps p.tables e below (T2.setTop (mkF m 59 #[.val (.long q1), .second, .val (.long (own_mix q1)), .second, .val (.long (-49064778989728563 : Int64)), .second, .val (.long (-4308230726457925435 : Int64)), .second, .unset, .unset, .unset, .unset, .unset, .unset] [(.long (2 : Int64)), (.long (-4308230726457925435 : Int64))])) _
      refine XT.lload X2.here hx rfl (hb hby at_59) rfl ?_
      show Steps p.tables e below (T2.setTop (mkF m 61 #[.val (.long q1), .second, .val (.long (own_mix q1)), .second, .val (.long (-49064778989728563 : Int64)), .second, .val (.long (-4308230726457925435 : Int64)), .second, .unset, .unset, .unset, .unset, .unset, .unset] [(.long (-49064778989728563 : Int64)), (.long (2 : Int64)), (.long (-4308230726457925435 : Int64))])) _
      refine XT.lload X2.here hx rfl (hb hby at_61) rfl ?_
      show Steps p.tables e below (T2.setTop (mkF m 63 #[.val (.long q1), .second, .val (.long (own_mix q1)), .second, .val (.long (-49064778989728563 : Int64)), .second, .val (.long (-4308230726457925435 : Int64)), .second, .unset, .unset, .unset, .unset, .unset, .unset] [(.long (-4308230726457925435 : Int64)), (.long (-49064778989728563 : Int64)), (.long (2 : Int64)), (.long (-4308230726457925435 : Int64))])) _
      refine XT.lmul X2.here hx rfl (hb hby at_63) rfl ?_
      show Steps p.tables e below (T2.setTop (mkF m 64 #[.val (.long q1), .second, .val (.long (own_mix q1)), .second, .val (.long (-49064778989728563 : Int64)), .second, .val (.long (-4308230726457925435 : Int64)), .second, .unset, .unset, .unset, .unset, .unset, .unset] [(.long ((-49064778989728563 : Int64) * (-4308230726457925435 : Int64))), (.long (2 : Int64)), (.long (-4308230726457925435 : Int64))])) _
      refine XT.lsub X2.here hx rfl (hb hby at_64) rfl ?_
      show Steps p.tables e below (T2.setTop (mkF m 65 #[.val (.long q1), .second, .val (.long (own_mix q1)), .second, .val (.long (-49064778989728563 : Int64)), .second, .val (.long (-4308230726457925435 : Int64)), .second, .unset, .unset, .unset, .unset, .unset, .unset] [(.long ((2 : Int64) - ((-49064778989728563 : Int64) * (-4308230726457925435 : Int64)))), (.long (-4308230726457925435 : Int64))])) _
      refine XT.lmul X2.here hx rfl (hb hby at_65) rfl ?_
      show Steps p.tables e below (T2.setTop (mkF m 66 #[.val (.long q1), .second, .val (.long (own_mix q1)), .second, .val (.long (-49064778989728563 : Int64)), .second, .val (.long (-4308230726457925435 : Int64)), .second, .unset, .unset, .unset, .unset, .unset, .unset] [(.long ((-4308230726457925435 : Int64) * ((2 : Int64) - ((-49064778989728563 : Int64) * (-4308230726457925435 : Int64)))))])) _
      refine XT.lstore X2.here hx rfl (hb hby at_66) rfl (l' := #[.val (.long q1), .second, .val (.long (own_mix q1)), .second, .val (.long (-49064778989728563 : Int64)), .second, .val (.long ((-4308230726457925435 : Int64) * ((2 : Int64) - ((-49064778989728563 : Int64) * (-4308230726457925435 : Int64))))), .second, .unset, .unset, .unset, .unset, .unset, .unset]) rfl ?_
      show Steps p.tables e below (T2.setTop (mkF m 68 #[.val (.long q1), .second, .val (.long (own_mix q1)), .second, .val (.long (-49064778989728563 : Int64)), .second, .val (.long ((-4308230726457925435 : Int64) * ((2 : Int64) - ((-49064778989728563 : Int64) * (-4308230726457925435 : Int64))))), .second, .unset, .unset, .unset, .unset, .unset, .unset] [])) _
      exact Steps.refl _)
    have hl9 : ((-4308230726457925435 : Int64) * ((2 : Int64) - ((-49064778989728563 : Int64) * (-4308230726457925435 : Int64)))) = (-2898184456831373307 : Int64) := by decide +kernel
    rw [hl9] at c8
    have c10 : Steps p.tables e below S0 (T2.setTop (mkF m 82 #[.val (.long q1), .second, .val (.long (own_mix q1)), .second, .val (.long (-49064778989728563 : Int64)), .second, .val (.long ((-2898184456831373307 : Int64) * ((2 : Int64) - ((-49064778989728563 : Int64) * (-2898184456831373307 : Int64))))), .second, .unset, .unset, .unset, .unset, .unset, .unset] [])) := c8.trans (by
      refine XT.lload X2.here hx rfl (hb hby at_68) rfl ?_
      show Steps p.tables e below (T2.setTop (mkF m 70 #[.val (.long q1), .second, .val (.long (own_mix q1)), .second, .val (.long (-49064778989728563 : Int64)), .second, .val (.long (-2898184456831373307 : Int64)), .second, .unset, .unset, .unset, .unset, .unset, .unset] [(.long (-2898184456831373307 : Int64))])) _
      refine X2.ldc2J hx hown (mvT hZ (hw _ (List.mem_of_getElem? (i := 6) rfl))) (g := (mkF m 70 #[.val (.long q1), .second, .val (.long (own_mix q1)), .second, .val (.long (-49064778989728563 : Int64)), .second, .val (.long (-2898184456831373307 : Int64)), .second, .unset, .unset, .unset, .unset, .unset, .unset] [(.long (-2898184456831373307 : Int64))])) rfl (hb hby at_70) ?_
      show Steps p.tables e below (T2.setTop (mkF m 73 #[.val (.long q1), .second, .val (.long (own_mix q1)), .second, .val (.long (-49064778989728563 : Int64)), .second, .val (.long (-2898184456831373307 : Int64)), .second, .unset, .unset, .unset, .unset, .unset, .unset] [(.long (2 : Int64)), (.long (-2898184456831373307 : Int64))])) _
      refine XT.lload X2.here hx rfl (hb hby at_73) rfl ?_
      show Steps p.tables e below (T2.setTop (mkF m 75 #[.val (.long q1), .second, .val (.long (own_mix q1)), .second, .val (.long (-49064778989728563 : Int64)), .second, .val (.long (-2898184456831373307 : Int64)), .second, .unset, .unset, .unset, .unset, .unset, .unset] [(.long (-49064778989728563 : Int64)), (.long (2 : Int64)), (.long (-2898184456831373307 : Int64))])) _
      refine XT.lload X2.here hx rfl (hb hby at_75) rfl ?_
      show Steps p.tables e below (T2.setTop (mkF m 77 #[.val (.long q1), .second, .val (.long (own_mix q1)), .second, .val (.long (-49064778989728563 : Int64)), .second, .val (.long (-2898184456831373307 : Int64)), .second, .unset, .unset, .unset, .unset, .unset, .unset] [(.long (-2898184456831373307 : Int64)), (.long (-49064778989728563 : Int64)), (.long (2 : Int64)), (.long (-2898184456831373307 : Int64))])) _
      refine XT.lmul X2.here hx rfl (hb hby at_77) rfl ?_
      show Steps p.tables e below (T2.setTop (mkF m 78 #[.val (.long q1), .second, .val (.long (own_mix q1)), .second, .val (.long (-49064778989728563 : Int64)), .second, .val (.long (-2898184456831373307 : Int64)), .second, .unset, .unset, .unset, .unset, .unset, .unset] [(.long ((-49064778989728563 : Int64) * (-2898184456831373307 : Int64))), (.long (2 : Int64)), (.long (-2898184456831373307 : Int64))])) _
      refine XT.lsub X2.here hx rfl (hb hby at_78) rfl ?_
      show Steps p.tables e below (T2.setTop (mkF m 79 #[.val (.long q1), .second, .val (.long (own_mix q1)), .second, .val (.long (-49064778989728563 : Int64)), .second, .val (.long (-2898184456831373307 : Int64)), .second, .unset, .unset, .unset, .unset, .unset, .unset] [(.long ((2 : Int64) - ((-49064778989728563 : Int64) * (-2898184456831373307 : Int64)))), (.long (-2898184456831373307 : Int64))])) _
      refine XT.lmul X2.here hx rfl (hb hby at_79) rfl ?_
      show Steps p.tables e below (T2.setTop (mkF m 80 #[.val (.long q1), .second, .val (.long (own_mix q1)), .second, .val (.long (-49064778989728563 : Int64)), .second, .val (.long (-2898184456831373307 : Int64)), .second, .unset, .unset, .unset, .unset, .unset, .unset] [(.long ((-2898184456831373307 : Int64) * ((2 : Int64) - ((-49064778989728563 : Int64) * (-2898184456831373307 : Int64)))))])) _
      refine XT.lstore X2.here hx rfl (hb hby at_80) rfl (l' := #[.val (.long q1), .second, .val (.long (own_mix q1)), .second, .val (.long (-49064778989728563 : Int64)), .second, .val (.long ((-2898184456831373307 : Int64) * ((2 : Int64) - ((-49064778989728563 : Int64) * (-2898184456831373307 : Int64))))), .second, .unset, .unset, .unset, .unset, .unset, .unset]) rfl ?_
      show Steps p.tables e below (T2.setTop (mkF m 82 #[.val (.long q1), .second, .val (.long (own_mix q1)), .second, .val (.long (-49064778989728563 : Int64)), .second, .val (.long ((-2898184456831373307 : Int64) * ((2 : Int64) - ((-49064778989728563 : Int64) * (-2898184456831373307 : Int64))))), .second, .unset, .unset, .unset, .unset, .unset, .unset] [])) _
      exact Steps.refl _)
    have hl11 : ((-2898184456831373307 : Int64) * ((2 : Int64) - ((-49064778989728563 : Int64) * (-2898184456831373307 : Int64)))) = (2637945697791721477 : Int64) := by decide +kernel
    rw [hl11] at c10
    have c12 : Steps p.tables e below S0 (T2.setTop (mkF m 96 #[.val (.long q1), .second, .val (.long (own_mix q1)), .second, .val (.long (-49064778989728563 : Int64)), .second, .val (.long ((2637945697791721477 : Int64) * ((2 : Int64) - ((-49064778989728563 : Int64) * (2637945697791721477 : Int64))))), .second, .unset, .unset, .unset, .unset, .unset, .unset] [])) := c10.trans (by
      refine XT.lload X2.here hx rfl (hb hby at_82) rfl ?_
      show Steps p.tables e below (T2.setTop (mkF m 84 #[.val (.long q1), .second, .val (.long (own_mix q1)), .second, .val (.long (-49064778989728563 : Int64)), .second, .val (.long (2637945697791721477 : Int64)), .second, .unset, .unset, .unset, .unset, .unset, .unset] [(.long (2637945697791721477 : Int64))])) _
      refine X2.ldc2J hx hown (mvT hZ (hw _ (List.mem_of_getElem? (i := 6) rfl))) (g := (mkF m 84 #[.val (.long q1), .second, .val (.long (own_mix q1)), .second, .val (.long (-49064778989728563 : Int64)), .second, .val (.long (2637945697791721477 : Int64)), .second, .unset, .unset, .unset, .unset, .unset, .unset] [(.long (2637945697791721477 : Int64))])) rfl (hb hby at_84) ?_
      show Steps p.tables e below (T2.setTop (mkF m 87 #[.val (.long q1), .second, .val (.long (own_mix q1)), .second, .val (.long (-49064778989728563 : Int64)), .second, .val (.long (2637945697791721477 : Int64)), .second, .unset, .unset, .unset, .unset, .unset, .unset] [(.long (2 : Int64)), (.long (2637945697791721477 : Int64))])) _
      refine XT.lload X2.here hx rfl (hb hby at_87) rfl ?_
      show Steps p.tables e below (T2.setTop (mkF m 89 #[.val (.long q1), .second, .val (.long (own_mix q1)), .second, .val (.long (-49064778989728563 : Int64)), .second, .val (.long (2637945697791721477 : Int64)), .second, .unset, .unset, .unset, .unset, .unset, .unset] [(.long (-49064778989728563 : Int64)), (.long (2 : Int64)), (.long (2637945697791721477 : Int64))])) _
      refine XT.lload X2.here hx rfl (hb hby at_89) rfl ?_
      show Steps p.tables e below (T2.setTop (mkF m 91 #[.val (.long q1), .second, .val (.long (own_mix q1)), .second, .val (.long (-49064778989728563 : Int64)), .second, .val (.long (2637945697791721477 : Int64)), .second, .unset, .unset, .unset, .unset, .unset, .unset] [(.long (2637945697791721477 : Int64)), (.long (-49064778989728563 : Int64)), (.long (2 : Int64)), (.long (2637945697791721477 : Int64))])) _
      refine XT.lmul X2.here hx rfl (hb hby at_91) rfl ?_
      show Steps p.tables e below (T2.setTop (mkF m 92 #[.val (.long q1), .second, .val (.long (own_mix q1)), .second, .val (.long (-49064778989728563 : Int64)), .second, .val (.long (2637945697791721477 : Int64)), .second, .unset, .unset, .unset, .unset, .unset, .unset] [(.long ((-49064778989728563 : Int64) * (2637945697791721477 : Int64))), (.long (2 : Int64)), (.long (2637945697791721477 : Int64))])) _
      refine XT.lsub X2.here hx rfl (hb hby at_92) rfl ?_
      show Steps p.tables e below (T2.setTop (mkF m 93 #[.val (.long q1), .second, .val (.long (own_mix q1)), .second, .val (.long (-49064778989728563 : Int64)), .second, .val (.long (2637945697791721477 : Int64)), .second, .unset, .unset, .unset, .unset, .unset, .unset] [(.long ((2 : Int64) - ((-49064778989728563 : Int64) * (2637945697791721477 : Int64)))), (.long (2637945697791721477 : Int64))])) _
      refine XT.lmul X2.here hx rfl (hb hby at_93) rfl ?_
      show Steps p.tables e below (T2.setTop (mkF m 94 #[.val (.long q1), .second, .val (.long (own_mix q1)), .second, .val (.long (-49064778989728563 : Int64)), .second, .val (.long (2637945697791721477 : Int64)), .second, .unset, .unset, .unset, .unset, .unset, .unset] [(.long ((2637945697791721477 : Int64) * ((2 : Int64) - ((-49064778989728563 : Int64) * (2637945697791721477 : Int64)))))])) _
      refine XT.lstore X2.here hx rfl (hb hby at_94) rfl (l' := #[.val (.long q1), .second, .val (.long (own_mix q1)), .second, .val (.long (-49064778989728563 : Int64)), .second, .val (.long ((2637945697791721477 : Int64) * ((2 : Int64) - ((-49064778989728563 : Int64) * (2637945697791721477 : Int64))))), .second, .unset, .unset, .unset, .unset, .unset, .unset]) rfl ?_
      show Steps p.tables e below (T2.setTop (mkF m 96 #[.val (.long q1), .second, .val (.long (own_mix q1)), .second, .val (.long (-49064778989728563 : Int64)), .second, .val (.long ((2637945697791721477 : Int64) * ((2 : Int64) - ((-49064778989728563 : Int64) * (2637945697791721477 : Int64))))), .second, .unset, .unset, .unset, .unset, .unset, .unset] [])) _
      exact Steps.refl _)
    have hl13 : ((2637945697791721477 : Int64) * ((2 : Int64) - ((-49064778989728563 : Int64) * (2637945697791721477 : Int64)))) = (2931635601841405957 : Int64) := by decide +kernel
    rw [hl13] at c12
    have c14 : Steps p.tables e below S0 (T2.setTop (mkF m 110 #[.val (.long q1), .second, .val (.long (own_mix q1)), .second, .val (.long (-49064778989728563 : Int64)), .second, .val (.long ((2931635601841405957 : Int64) * ((2 : Int64) - ((-49064778989728563 : Int64) * (2931635601841405957 : Int64))))), .second, .unset, .unset, .unset, .unset, .unset, .unset] [])) := c12.trans (by
      refine XT.lload X2.here hx rfl (hb hby at_96) rfl ?_
      show Steps p.tables e below (T2.setTop (mkF m 98 #[.val (.long q1), .second, .val (.long (own_mix q1)), .second, .val (.long (-49064778989728563 : Int64)), .second, .val (.long (2931635601841405957 : Int64)), .second, .unset, .unset, .unset, .unset, .unset, .unset] [(.long (2931635601841405957 : Int64))])) _
      refine X2.ldc2J hx hown (mvT hZ (hw _ (List.mem_of_getElem? (i := 6) rfl))) (g := (mkF m 98 #[.val (.long q1), .second, .val (.long (own_mix q1)), .second, .val (.long (-49064778989728563 : Int64)), .second, .val (.long (2931635601841405957 : Int64)), .second, .unset, .unset, .unset, .unset, .unset, .unset] [(.long (2931635601841405957 : Int64))])) rfl (hb hby at_98) ?_
      show Steps p.tables e below (T2.setTop (mkF m 101 #[.val (.long q1), .second, .val (.long (own_mix q1)), .second, .val (.long (-49064778989728563 : Int64)), .second, .val (.long (2931635601841405957 : Int64)), .second, .unset, .unset, .unset, .unset, .unset, .unset] [(.long (2 : Int64)), (.long (2931635601841405957 : Int64))])) _
      refine XT.lload X2.here hx rfl (hb hby at_101) rfl ?_
      show Steps p.tables e below (T2.setTop (mkF m 103 #[.val (.long q1), .second, .val (.long (own_mix q1)), .second, .val (.long (-49064778989728563 : Int64)), .second, .val (.long (2931635601841405957 : Int64)), .second, .unset, .unset, .unset, .unset, .unset, .unset] [(.long (-49064778989728563 : Int64)), (.long (2 : Int64)), (.long (2931635601841405957 : Int64))])) _
      refine XT.lload X2.here hx rfl (hb hby at_103) rfl ?_
      show Steps p.tables e below (T2.setTop (mkF m 105 #[.val (.long q1), .second, .val (.long (own_mix q1)), .second, .val (.long (-49064778989728563 : Int64)), .second, .val (.long (2931635601841405957 : Int64)), .second, .unset, .unset, .unset, .unset, .unset, .unset] [(.long (2931635601841405957 : Int64)), (.long (-49064778989728563 : Int64)), (.long (2 : Int64)), (.long (2931635601841405957 : Int64))])) _
      refine XT.lmul X2.here hx rfl (hb hby at_105) rfl ?_
      show Steps p.tables e below (T2.setTop (mkF m 106 #[.val (.long q1), .second, .val (.long (own_mix q1)), .second, .val (.long (-49064778989728563 : Int64)), .second, .val (.long (2931635601841405957 : Int64)), .second, .unset, .unset, .unset, .unset, .unset, .unset] [(.long ((-49064778989728563 : Int64) * (2931635601841405957 : Int64))), (.long (2 : Int64)), (.long (2931635601841405957 : Int64))])) _
      refine XT.lsub X2.here hx rfl (hb hby at_106) rfl ?_
      show Steps p.tables e below (T2.setTop (mkF m 107 #[.val (.long q1), .second, .val (.long (own_mix q1)), .second, .val (.long (-49064778989728563 : Int64)), .second, .val (.long (2931635601841405957 : Int64)), .second, .unset, .unset, .unset, .unset, .unset, .unset] [(.long ((2 : Int64) - ((-49064778989728563 : Int64) * (2931635601841405957 : Int64)))), (.long (2931635601841405957 : Int64))])) _
      refine XT.lmul X2.here hx rfl (hb hby at_107) rfl ?_
      show Steps p.tables e below (T2.setTop (mkF m 108 #[.val (.long q1), .second, .val (.long (own_mix q1)), .second, .val (.long (-49064778989728563 : Int64)), .second, .val (.long (2931635601841405957 : Int64)), .second, .unset, .unset, .unset, .unset, .unset, .unset] [(.long ((2931635601841405957 : Int64) * ((2 : Int64) - ((-49064778989728563 : Int64) * (2931635601841405957 : Int64)))))])) _
      refine XT.lstore X2.here hx rfl (hb hby at_108) rfl (l' := #[.val (.long q1), .second, .val (.long (own_mix q1)), .second, .val (.long (-49064778989728563 : Int64)), .second, .val (.long ((2931635601841405957 : Int64) * ((2 : Int64) - ((-49064778989728563 : Int64) * (2931635601841405957 : Int64))))), .second, .unset, .unset, .unset, .unset, .unset, .unset]) rfl ?_
      show Steps p.tables e below (T2.setTop (mkF m 110 #[.val (.long q1), .second, .val (.long (own_mix q1)), .second, .val (.long (-49064778989728563 : Int64)), .second, .val (.long ((2931635601841405957 : Int64) * ((2 : Int64) - ((-49064778989728563 : Int64) * (2931635601841405957 : Int64))))), .second, .unset, .unset, .unset, .unset, .unset, .unset] [])) _
      exact Steps.refl _)
    have hl15 : ((2931635601841405957 : Int64) * ((2 : Int64) - ((-49064778989728563 : Int64) * (2931635601841405957 : Int64)))) = (5725274745694666757 : Int64) := by decide +kernel
    rw [hl15] at c14
    have c16 : Steps p.tables e below S0 (T2.setTop (mkF m 130 #[.val (.long q1), .second, .val (.long (own_mix q1)), .second, .val (.long (-49064778989728563 : Int64)), .second, .val (.long (5725274745694666757 : Int64)), .second, .val (.long ((own_mix q1) ^^^ (XT.ushrL (own_mix q1) (33 : Int32)))), .second, .unset, .unset, .unset, .unset] [])) := c14.trans (by
      refine XT.lload X2.here hx rfl (hb hby at_110) rfl ?_
      show Steps p.tables e below (T2.setTop (mkF m 112 #[.val (.long q1), .second, .val (.long (own_mix q1)), .second, .val (.long (-49064778989728563 : Int64)), .second, .val (.long (5725274745694666757 : Int64)), .second, .unset, .unset, .unset, .unset, .unset, .unset] [(.long (-49064778989728563 : Int64))])) _
      refine XT.lload X2.here hx rfl (hb hby at_112) rfl ?_
      show Steps p.tables e below (T2.setTop (mkF m 114 #[.val (.long q1), .second, .val (.long (own_mix q1)), .second, .val (.long (-49064778989728563 : Int64)), .second, .val (.long (5725274745694666757 : Int64)), .second, .unset, .unset, .unset, .unset, .unset, .unset] [(.long (5725274745694666757 : Int64)), (.long (-49064778989728563 : Int64))])) _
      refine XT.lmul X2.here hx rfl (hb hby at_114) rfl ?_
      show Steps p.tables e below (T2.setTop (mkF m 115 #[.val (.long q1), .second, .val (.long (own_mix q1)), .second, .val (.long (-49064778989728563 : Int64)), .second, .val (.long (5725274745694666757 : Int64)), .second, .unset, .unset, .unset, .unset, .unset, .unset] [(.long ((-49064778989728563 : Int64) * (5725274745694666757 : Int64)))])) _
      refine XT.lconstV X2.here hx rfl (1 : Int64) (hb hby at_115) (by decide) ?_
      show Steps p.tables e below (T2.setTop (mkF m 116 #[.val (.long q1), .second, .val (.long (own_mix q1)), .second, .val (.long (-49064778989728563 : Int64)), .second, .val (.long (5725274745694666757 : Int64)), .second, .unset, .unset, .unset, .unset, .unset, .unset] [(.long (1 : Int64)), (.long ((-49064778989728563 : Int64) * (5725274745694666757 : Int64)))])) _
      refine XT.lcmp X2.here hx rfl (hb hby at_116) rfl ?_
      show Steps p.tables e below (T2.setTop (mkF m 117 #[.val (.long q1), .second, .val (.long (own_mix q1)), .second, .val (.long (-49064778989728563 : Int64)), .second, .val (.long (5725274745694666757 : Int64)), .second, .unset, .unset, .unset, .unset, .unset, .unset] [(.int (XT.cmpL ((-49064778989728563 : Int64) * (5725274745694666757 : Int64)) (1 : Int64)))])) _
      refine XS.ifYes X2.here hx rfl (pc0 := 117) (pc' := 122) rfl (hb hby at_117) rfl (XT.ll_eq_t (by decide +kernel)) (by decide) (by decide) ?_
      show Steps p.tables e below (T2.setTop (mkF m 122 #[.val (.long q1), .second, .val (.long (own_mix q1)), .second, .val (.long (-49064778989728563 : Int64)), .second, .val (.long (5725274745694666757 : Int64)), .second, .unset, .unset, .unset, .unset, .unset, .unset] [])) _
      refine XT.lloadN X2.here hx rfl (hb hby at_122) rfl ?_
      show Steps p.tables e below (T2.setTop (mkF m 123 #[.val (.long q1), .second, .val (.long (own_mix q1)), .second, .val (.long (-49064778989728563 : Int64)), .second, .val (.long (5725274745694666757 : Int64)), .second, .unset, .unset, .unset, .unset, .unset, .unset] [(.long (own_mix q1))])) _
      refine XT.lloadN X2.here hx rfl (hb hby at_123) rfl ?_
      show Steps p.tables e below (T2.setTop (mkF m 124 #[.val (.long q1), .second, .val (.long (own_mix q1)), .second, .val (.long (-49064778989728563 : Int64)), .second, .val (.long (5725274745694666757 : Int64)), .second, .unset, .unset, .unset, .unset, .unset, .unset] [(.long (own_mix q1)), (.long (own_mix q1))])) _
      refine XT.bipushV X2.here hx rfl (33 : Int32) (hb hby at_124) (by decide) ?_
      show Steps p.tables e below (T2.setTop (mkF m 126 #[.val (.long q1), .second, .val (.long (own_mix q1)), .second, .val (.long (-49064778989728563 : Int64)), .second, .val (.long (5725274745694666757 : Int64)), .second, .unset, .unset, .unset, .unset, .unset, .unset] [(.int (33 : Int32)), (.long (own_mix q1)), (.long (own_mix q1))])) _
      refine XT.lushr X2.here hx rfl (hb hby at_126) rfl ?_
      show Steps p.tables e below (T2.setTop (mkF m 127 #[.val (.long q1), .second, .val (.long (own_mix q1)), .second, .val (.long (-49064778989728563 : Int64)), .second, .val (.long (5725274745694666757 : Int64)), .second, .unset, .unset, .unset, .unset, .unset, .unset] [(.long (XT.ushrL (own_mix q1) (33 : Int32))), (.long (own_mix q1))])) _
      refine XT.lxor X2.here hx rfl (hb hby at_127) rfl ?_
      show Steps p.tables e below (T2.setTop (mkF m 128 #[.val (.long q1), .second, .val (.long (own_mix q1)), .second, .val (.long (-49064778989728563 : Int64)), .second, .val (.long (5725274745694666757 : Int64)), .second, .unset, .unset, .unset, .unset, .unset, .unset] [(.long ((own_mix q1) ^^^ (XT.ushrL (own_mix q1) (33 : Int32))))])) _
      refine XT.lstore X2.here hx rfl (hb hby at_128) rfl (l' := #[.val (.long q1), .second, .val (.long (own_mix q1)), .second, .val (.long (-49064778989728563 : Int64)), .second, .val (.long (5725274745694666757 : Int64)), .second, .val (.long ((own_mix q1) ^^^ (XT.ushrL (own_mix q1) (33 : Int32)))), .second, .unset, .unset, .unset, .unset]) rfl ?_
      show Steps p.tables e below (T2.setTop (mkF m 130 #[.val (.long q1), .second, .val (.long (own_mix q1)), .second, .val (.long (-49064778989728563 : Int64)), .second, .val (.long (5725274745694666757 : Int64)), .second, .val (.long ((own_mix q1) ^^^ (XT.ushrL (own_mix q1) (33 : Int32)))), .second, .unset, .unset, .unset, .unset] [])) _
      exact Steps.refl _)
    obtain ⟨u, hu⟩ : ∃ z, z = ((own_mix q1) ^^^ (XT.ushrL (own_mix q1) (33 : Int32))) := ⟨_, rfl⟩
    rw [← hu] at c16
    have c17 : Steps p.tables e below S0 (T2.setTop (mkF m 137 #[.val (.long q1), .second, .val (.long (own_mix q1)), .second, .val (.long (-49064778989728563 : Int64)), .second, .val (.long (5725274745694666757 : Int64)), .second, .val (.long u), .second, .val (.long (u * (5725274745694666757 : Int64))), .second, .unset, .unset] [])) := c16.trans (by
      refine XT.lload X2.here hx rfl (hb hby at_130) rfl ?_
      show Steps p.tables e below (T2.setTop (mkF m 132 #[.val (.long q1), .second, .val (.long (own_mix q1)), .second, .val (.long (-49064778989728563 : Int64)), .second, .val (.long (5725274745694666757 : Int64)), .second, .val (.long u), .second, .unset, .unset, .unset, .unset] [(.long u)])) _
      refine XT.lload X2.here hx rfl (hb hby at_132) rfl ?_
      show Steps p.tables e below (T2.setTop (mkF m 134 #[.val (.long q1), .second, .val (.long (own_mix q1)), .second, .val (.long (-49064778989728563 : Int64)), .second, .val (.long (5725274745694666757 : Int64)), .second, .val (.long u), .second, .unset, .unset, .unset, .unset] [(.long (5725274745694666757 : Int64)), (.long u)])) _
      refine XT.lmul X2.here hx rfl (hb hby at_134) rfl ?_
      show Steps p.tables e below (T2.setTop (mkF m 135 #[.val (.long q1), .second, .val (.long (own_mix q1)), .second, .val (.long (-49064778989728563 : Int64)), .second, .val (.long (5725274745694666757 : Int64)), .second, .val (.long u), .second, .unset, .unset, .unset, .unset] [(.long (u * (5725274745694666757 : Int64)))])) _
      refine XT.lstore X2.here hx rfl (hb hby at_135) rfl (l' := #[.val (.long q1), .second, .val (.long (own_mix q1)), .second, .val (.long (-49064778989728563 : Int64)), .second, .val (.long (5725274745694666757 : Int64)), .second, .val (.long u), .second, .val (.long (u * (5725274745694666757 : Int64))), .second, .unset, .unset]) rfl ?_
      show Steps p.tables e below (T2.setTop (mkF m 137 #[.val (.long q1), .second, .val (.long (own_mix q1)), .second, .val (.long (-49064778989728563 : Int64)), .second, .val (.long (5725274745694666757 : Int64)), .second, .val (.long u), .second, .val (.long (u * (5725274745694666757 : Int64))), .second, .unset, .unset] [])) _
      exact Steps.refl _)
    obtain ⟨vv, hvv⟩ : ∃ z, z = (u * (5725274745694666757 : Int64)) := ⟨_, rfl⟩
    rw [← hvv] at c17
    have c18 : Steps p.tables e below S0 (T2.setTop (mkF m 159 #[.val (.long q1), .second, .val (.long (own_mix q1)), .second, .val (.long (-49064778989728563 : Int64)), .second, .val (.long (5725274745694666757 : Int64)), .second, .val (.long u), .second, .val (.long vv), .second, .val (.long (vv ^^^ (XT.ushrL vv (33 : Int32)))), .second] [(.int (1 : Int32))])) := c17.trans (by
      refine XT.lload X2.here hx rfl (hb hby at_137) rfl ?_
      show Steps p.tables e below (T2.setTop (mkF m 139 #[.val (.long q1), .second, .val (.long (own_mix q1)), .second, .val (.long (-49064778989728563 : Int64)), .second, .val (.long (5725274745694666757 : Int64)), .second, .val (.long u), .second, .val (.long vv), .second, .unset, .unset] [(.long vv)])) _
      refine XT.lload X2.here hx rfl (hb hby at_139) rfl ?_
      show Steps p.tables e below (T2.setTop (mkF m 141 #[.val (.long q1), .second, .val (.long (own_mix q1)), .second, .val (.long (-49064778989728563 : Int64)), .second, .val (.long (5725274745694666757 : Int64)), .second, .val (.long u), .second, .val (.long vv), .second, .unset, .unset] [(.long vv), (.long vv)])) _
      refine XT.bipushV X2.here hx rfl (33 : Int32) (hb hby at_141) (by decide) ?_
      show Steps p.tables e below (T2.setTop (mkF m 143 #[.val (.long q1), .second, .val (.long (own_mix q1)), .second, .val (.long (-49064778989728563 : Int64)), .second, .val (.long (5725274745694666757 : Int64)), .second, .val (.long u), .second, .val (.long vv), .second, .unset, .unset] [(.int (33 : Int32)), (.long vv), (.long vv)])) _
      refine XT.lushr X2.here hx rfl (hb hby at_143) rfl ?_
      show Steps p.tables e below (T2.setTop (mkF m 144 #[.val (.long q1), .second, .val (.long (own_mix q1)), .second, .val (.long (-49064778989728563 : Int64)), .second, .val (.long (5725274745694666757 : Int64)), .second, .val (.long u), .second, .val (.long vv), .second, .unset, .unset] [(.long (XT.ushrL vv (33 : Int32))), (.long vv)])) _
      refine XT.lxor X2.here hx rfl (hb hby at_144) rfl ?_
      show Steps p.tables e below (T2.setTop (mkF m 145 #[.val (.long q1), .second, .val (.long (own_mix q1)), .second, .val (.long (-49064778989728563 : Int64)), .second, .val (.long (5725274745694666757 : Int64)), .second, .val (.long u), .second, .val (.long vv), .second, .unset, .unset] [(.long (vv ^^^ (XT.ushrL vv (33 : Int32))))])) _
      refine XT.lstore X2.here hx rfl (hb hby at_145) rfl (l' := #[.val (.long q1), .second, .val (.long (own_mix q1)), .second, .val (.long (-49064778989728563 : Int64)), .second, .val (.long (5725274745694666757 : Int64)), .second, .val (.long u), .second, .val (.long vv), .second, .val (.long (vv ^^^ (XT.ushrL vv (33 : Int32)))), .second]) rfl ?_
      show Steps p.tables e below (T2.setTop (mkF m 147 #[.val (.long q1), .second, .val (.long (own_mix q1)), .second, .val (.long (-49064778989728563 : Int64)), .second, .val (.long (5725274745694666757 : Int64)), .second, .val (.long u), .second, .val (.long vv), .second, .val (.long (vv ^^^ (XT.ushrL vv (33 : Int32)))), .second] [])) _
      refine XT.lload X2.here hx rfl (hb hby at_147) rfl ?_
      show Steps p.tables e below (T2.setTop (mkF m 149 #[.val (.long q1), .second, .val (.long (own_mix q1)), .second, .val (.long (-49064778989728563 : Int64)), .second, .val (.long (5725274745694666757 : Int64)), .second, .val (.long u), .second, .val (.long vv), .second, .val (.long (vv ^^^ (XT.ushrL vv (33 : Int32)))), .second] [(.long (vv ^^^ (XT.ushrL vv (33 : Int32))))])) _
      refine XT.lloadN X2.here hx rfl (hb hby at_149) rfl ?_
      show Steps p.tables e below (T2.setTop (mkF m 150 #[.val (.long q1), .second, .val (.long (own_mix q1)), .second, .val (.long (-49064778989728563 : Int64)), .second, .val (.long (5725274745694666757 : Int64)), .second, .val (.long u), .second, .val (.long vv), .second, .val (.long (vv ^^^ (XT.ushrL vv (33 : Int32)))), .second] [(.long q1), (.long (vv ^^^ (XT.ushrL vv (33 : Int32))))])) _
      refine XT.lcmp X2.here hx rfl (hb hby at_150) rfl ?_
      show Steps p.tables e below (T2.setTop (mkF m 151 #[.val (.long q1), .second, .val (.long (own_mix q1)), .second, .val (.long (-49064778989728563 : Int64)), .second, .val (.long (5725274745694666757 : Int64)), .second, .val (.long u), .second, .val (.long vv), .second, .val (.long (vv ^^^ (XT.ushrL vv (33 : Int32)))), .second] [(.int (XT.cmpL (vv ^^^ (XT.ushrL vv (33 : Int32))) q1))])) _
      refine XS.ifNo X2.here hx rfl (hb hby at_151) rfl (XT.ll_ne_f (by rw [hvv, hu, own_mix_eq k1]; exact own_back q1)) ?_
      show Steps p.tables e below (T2.setTop (mkF m 154 #[.val (.long q1), .second, .val (.long (own_mix q1)), .second, .val (.long (-49064778989728563 : Int64)), .second, .val (.long (5725274745694666757 : Int64)), .second, .val (.long u), .second, .val (.long vv), .second, .val (.long (vv ^^^ (XT.ushrL vv (33 : Int32)))), .second] [])) _
      refine XT.iconstV X2.here hx rfl (1 : Int32) (hb hby at_154) (by decide) ?_
      show Steps p.tables e below (T2.setTop (mkF m 155 #[.val (.long q1), .second, .val (.long (own_mix q1)), .second, .val (.long (-49064778989728563 : Int64)), .second, .val (.long (5725274745694666757 : Int64)), .second, .val (.long u), .second, .val (.long vv), .second, .val (.long (vv ^^^ (XT.ushrL vv (33 : Int32)))), .second] [(.int (1 : Int32))])) _
      refine XS.goto X2.here hx rfl (pc0 := 155) (pc' := 159) rfl (hb hby at_155) (by decide) (by decide) ?_
      show Steps p.tables e below (T2.setTop (mkF m 159 #[.val (.long q1), .second, .val (.long (own_mix q1)), .second, .val (.long (-49064778989728563 : Int64)), .second, .val (.long (5725274745694666757 : Int64)), .second, .val (.long u), .second, .val (.long vv), .second, .val (.long (vv ^^^ (XT.ushrL vv (33 : Int32)))), .second] [(.int (1 : Int32))])) _
      exact Steps.refl _)
    obtain ⟨fs, hr, hrun, hended, hW, hsame⟩ := X2.leave (v := some (.int (1 : Int32))) (fun h => by rw [Bd.returns] at h; cases h)
    refine ⟨_, _, pre0 _ ?_, hrun, hended, _, _, rfl, ?_, ⟨_, rfl⟩, hW, hsame.mono (by decide) (by decide)⟩
    · rw [← hS0]
      exact c18.trans (retN X2 hx (t := .boolean) Bd.returns (by simp) (hb hby at_159) hr)
    · show Qrm0 Z q1 h0 n0 _ T2.heap _
      rw [eh]
      exact ⟨rfl, N2⟩
set_option maxRecDepth 65536 in
set_option maxHeartbeats 40000000 in
theorem comes_1 {Post : Tables → Env → Array Value → State → Outcome → State → Prop} (hpost : ∀ tb e args s v u, (limb_1_1.after args s (.returned v) u = true ∧ limb_1_2.after args s (.returned v) u = true ∧ True) → FrameEnd s (.returned v) u (Jvm.fieldLocs frame_1_writes args s ++ Jvm.arrayLocs frame_1_arrays args s ++ Jvm.staticLocs frame_1_statics s) 0 0 → Post tb e args s (.returned v) u) :
    ArmFor flags0 classFile x code maxLocals ret World_1 tables_1 room_1 Calls_1 rest_1 Pre_1 Post := by
  intro l hfl _ _ p e ha hc hk s m args below hf hA hF happ hP
  obtain ⟨hcalls, hrest, hpre⟩ := hP
  obtain ⟨-, -, -, hnamed, -, -, -, hat⟩ := (Spec.applies_iff hf).mp happ
  obtain ⟨hg, hn⟩ := and_e (Cond.before_iff.mp (show (Jvm.Cond.and given_1 narrow_1).before args s = true from hpre))
  obtain ⟨hcount, g0⟩ := and_e hg
  obtain ⟨w0, rfl⟩ : ∃ w0 : Value, args = #[w0] := by
    have hs : args.size = 1 := by simpa [Cond.value, given_1] using hcount
    obtain ⟨L⟩ := args
    match L, hs with
    | [w0], _ => exact ⟨w0, rfl⟩
  have hw := fun d (hd : d ∈ tables_1) => atoms_spec (ws := Jvm.Cond.code x code maxLocals ret :: tables_1) hat d (List.mem_cons_of_mem _ hd)
  obtain ⟨i0, e0⟩ := isL_v g0
  obtain rfl : w0 = (.long i0) := Option.some.inj e0
  obtain ⟨n, o, h1, h2, h3, _, L, rfl, ⟨rfl, N⟩, hq⟩ := rm0 l s _ hw tables_1 i0 s.heap s.heap.size (Nat.le_refl _) p e ha hc hk s m _ below hf ((Spec.applies_iff_loose hf).mp happ).1 ⟨rfl, State.Warmed39.refl s, rfl⟩ trivial
  refine ⟨n, _, h1, h2, h3, hpost _ _ _ _ _ _ ⟨Cond.after_iff.mpr rfl, Cond.after_iff.mpr (eq_i res_at (Term.int_eval (1)) rfl), trivial⟩ ⟨hq.1, hq.2.1, (hq.2.2.sift fun y hy => Or.inr (N y hy)).mono (by decide) (by decide)⟩⟩
theorem main_1_1 : Claimed_1_1 := comes_1 fun _ _ _ _ _ _ h hF => ⟨h.1, hF⟩
theorem main_1_2 : Claimed_1_2 := comes_1 fun _ _ _ _ _ _ h hF => ⟨h.2.1, hF⟩
end Jvm.Pilot.@@N@@
namespace Jvm.Pilot.@@N@@
open Jvm Jvm.ClassFile Sem Op Lib Jvm.Free Jvm.Stand Jvm.Pilot.@@N@@.Jvm.D
/-! MADE BY PROGRAM (witnessworld.py) out of the Statement's table words and the real class files: 9 classes; the members and pool entries that the words name. The judged class is class 1, her method 1. -/
namespace start1
open Jvm.ClassFile
def u (s : String) : CpInfo := .utf8 (stringToUtf16 s)
/-- a pool by its gaps: so many unusable entries, then the entry; so many at the end -/
def gap : Nat → List CpInfo → List CpInfo
  | 0, r => r
  | n + 1, r => .unusable :: gap n r
def poolList (es : List (Nat × CpInfo)) (last : Nat) : List CpInfo := es.foldr (fun e r => gap e.1 (e.2 :: r)) (gap last [])
def pool (es : List (Nat × CpInfo)) (last : Nat) : Array CpInfo := ⟨poolList es last⟩
def fileOf (pool : Array CpInfo) (this : Nat) (attrs : Array Attribute := #[]) (ms : Array MethodInfo := #[]) (fl : Nat := 33) (sup : Nat := 0) (ifs : Array Nat := #[]) (fds : Array FieldInfo := #[]) : ClassFile where
  minorVersion := 0
  majorVersion := 65
  constantPool := pool
  accessFlags := fl
  thisClass := this
  superClass := sup
  interfaces := ifs
  fields := fds
  methods := ms
  attributes := attrs
def plain (name : String) (sup : Option ClassId) : Class where
  name := name
  kind := .ordinary
  loader := none
  accessFlags := 33
  super := sup
  interfaces := #[]
  cf := none
  fields := #[]
  methods := #[]
  instanceTypes := #[]
  staticTypes := #[]
  resolved := #[]
  callSites := []
  init := .initialized
  statics := none
  mirror := none

def pool0 : Array CpInfo := pool [(5, u "<init>"), (0, u "()V"), (1, .class_ 10), (1, u "java/lang/Object")] 113

def k0m0 : Method := { name := "<init>", desc := "()V", sig := { parameters := [], returnType := none }, accessFlags := 1, code := none }
/-- java/lang/Object -/
def k0 : Class := { plain "java/lang/Object" none with
  accessFlags := 33
  interfaces := #[]
  cf := some (fileOf pool0 8 #[] #[{ accessFlags := 1, nameIndex := 5, descriptorIndex := 6, attributes := #[] }] 33 0 #[] #[])
  fields := #[]
  methods := #[k0m0]
  instanceTypes := #[]
  staticTypes := #[]
  resolved := Array.replicate 124 none
  statics := none }

def pool1 : Array CpInfo := pool [(2, .class_ 4), (1, u "java/lang/Object"), (0, u "<init>"), (0, u "()V"), (0, .methodref 8 9), (0, .class_ 10), (0, .nameAndType 11 12), (0, u "com/example/chainwright/chainwright/formats/NameFingerprints"), (0, u "mixed"), (0, u "(J)J"), (0, .long 18397679294719823053), (1, .long 2), (1, .class_ 18), (0, u "com/example/chainwright/chainwright/formats/NameFingerprintsMixedPinLaw"), (2, u "law"), (0, u "(J)Z")] 3

def k1m0 : Method := { name := "<init>", desc := "()V", sig := { parameters := [], returnType := none }, accessFlags := 1, code := none }
def k1c1 : Code := { maxStack := 8, maxLocals := 14, code := code, exceptionTable := #[], attributes := #[] }
def k1m1 : Method := { name := "law", desc := "(J)Z", sig := { parameters := [.long], returnType := some .boolean }, accessFlags := 9, code := some k1c1 }
/-- com/example/chainwright/chainwright/formats/NameFingerprintsMixedPinLaw -/
def k1 : Class := { plain "com/example/chainwright/chainwright/formats/NameFingerprintsMixedPinLaw" (some 0) with
  accessFlags := 49
  interfaces := #[]
  cf := some (fileOf pool1 17 #[] #[{ accessFlags := 1, nameIndex := 5, descriptorIndex := 6, attributes := #[] }, { accessFlags := 9, nameIndex := 21, descriptorIndex := 22, attributes := #[] }] 49 2 #[] #[])
  fields := #[]
  methods := #[k1m0, k1m1]
  instanceTypes := #[]
  staticTypes := #[]
  resolved := Array.replicate 26 none
  statics := none }

def pool2 : Array CpInfo := pool [(2, .class_ 4), (1, u "java/lang/Object"), (0, u "<init>"), (0, u "()V"), (1, .class_ 10), (1, u "com/example/chainwright/chainwright/formats/NameFingerprints"), (0, u "slots"), (0, u "[J"), (18, u "mixed"), (0, u "(J)J"), (2, .long 18397679294719823053), (3, u "size"), (0, u "I"), (3, u "BASIS"), (0, u "J"), (1, u "PRIME"), (0, u "EMPTY")] 12

def k2m0 : Method := { name := "<init>", desc := "()V", sig := { parameters := [], returnType := none }, accessFlags := 0, code := none }
def k2c1 : Code := { maxStack := 5, maxLocals := 4, code := prog_49_method_4_code, exceptionTable := #[], attributes := #[] }
def k2m1 : Method := { name := "mixed", desc := "(J)J", sig := { parameters := [.long], returnType := some .long }, accessFlags := 8, code := some k2c1 }
/-- com/example/chainwright/chainwright/formats/NameFingerprints -/
def k2 : Class := { plain "com/example/chainwright/chainwright/formats/NameFingerprints" (some 0) with
  accessFlags := 48
  interfaces := #[]
  cf := some (fileOf pool2 8 #[] #[{ accessFlags := 0, nameIndex := 5, descriptorIndex := 6, attributes := #[] }, { accessFlags := 8, nameIndex := 31, descriptorIndex := 32, attributes := #[] }] 48 2 #[] #[{ accessFlags := 24, nameIndex := 44, descriptorIndex := 45, attributes := #[] }, { accessFlags := 26, nameIndex := 47, descriptorIndex := 45, attributes := #[] }, { accessFlags := 26, nameIndex := 48, descriptorIndex := 45, attributes := #[] }, { accessFlags := 2, nameIndex := 11, descriptorIndex := 12, attributes := #[] }, { accessFlags := 2, nameIndex := 39, descriptorIndex := 40, attributes := #[] }])
  fields := #[{ name := "BASIS", type := .long, accessFlags := 24, slot := 0, constantValue := 0 }, { name := "PRIME", type := .long, accessFlags := 26, slot := 1, constantValue := 0 }, { name := "EMPTY", type := .long, accessFlags := 26, slot := 2, constantValue := 0 }, { name := "slots", type := (.array .long), accessFlags := 2, slot := 0, constantValue := 0 }, { name := "size", type := .int, accessFlags := 2, slot := 1, constantValue := 0 }]
  methods := #[k2m0, k2m1]
  instanceTypes := #[(.array .long), .int]
  staticTypes := #[.long, .long, .long]
  resolved := Array.replicate 61 none
  statics := none }

def pool3 : Array CpInfo := pool [(1, u "java/lang/Cloneable"), (0, .class_ 1), (0, u "java/lang/Object"), (0, .class_ 3)] 3

/-- java/lang/Cloneable -/
def k3 : Class := { plain "java/lang/Cloneable" (some 0) with
  accessFlags := 1537
  interfaces := #[]
  cf := some (fileOf pool3 2 #[] #[] 1537 4 #[] #[])
  fields := #[]
  methods := #[]
  instanceTypes := #[]
  staticTypes := #[]
  resolved := Array.replicate 8 none
  statics := none }

def pool4 : Array CpInfo := pool [(1, u "java/io/Serializable"), (0, .class_ 1), (0, u "java/lang/Object"), (0, .class_ 3)] 3

/-- java/io/Serializable -/
def k4 : Class := { plain "java/io/Serializable" (some 0) with
  accessFlags := 1537
  interfaces := #[]
  cf := some (fileOf pool4 2 #[] #[] 1537 4 #[] #[])
  fields := #[]
  methods := #[]
  instanceTypes := #[]
  staticTypes := #[]
  resolved := Array.replicate 8 none
  statics := none }

/-- the primitive byte -/
def k5 : Class := { plain "byte" none with kind := .primitive 'B', accessFlags := 0x411 }
/-- [B -/
def k6 : Class := { plain "[B" (some 0) with kind := .array 5 .byte, interfaces := #[3, 4], accessFlags := 1041 }

/-- the primitive int -/
def k7 : Class := { plain "int" none with kind := .primitive 'I', accessFlags := 0x411 }
/-- [I -/
def k8 : Class := { plain "[I" (some 0) with kind := .array 7 .int, interfaces := #[3, 4], accessFlags := 1041 }

def heap : Heap := #[]
def classes : Array Class := #[k0, k1, k2, k3, k4, k5, k6, k7, k8]
def interned : List (Array UInt16 × Addr) := []
def slotsUsed : Nat := 0
def theMethod : MethodId := ⟨1, 1⟩
def args0 : Array Value := #[.long 5]
def aboutOver (below : List Frame) : State where
  vm := { classes := classes, interned := interned.toArray }
  heap := heap
  slotsUsed := slotsUsed
  threads := #[{ frames := .invoking theMethod args0 :: below }]
def below0 : List Frame := [.native { method := ⟨0, 0⟩, args := #[] }]
def about1 : State := aboutOver below0
def p0 : Program := .bare "" "" ""
def e0 : Env := launch0.env 0 0 0
theorem w_frames : about1.frames = Frame.invoking theMethod args0 :: below0 := rfl
set_option maxRecDepth 65536 in
theorem w_args : argsFit about1.vm theMethod args0 = true := by decide +kernel
set_option maxRecDepth 65536 in
theorem w_heap : heapFits about1 = true := by decide +kernel
set_option maxRecDepth 65536 in
theorem w_runnable : about1.curStatus? = some .runnable := by decide +kernel
set_option maxRecDepth 65536 in
theorem w_alone : about1.alone = true := by decide +kernel
set_option maxRecDepth 65536 in
theorem w_named : about1.methodNamed? x = some theMethod := by decide +kernel
set_option maxRecDepth 65536 in
theorem w_hears : about1.hears theMethod below0 = true := by decide +kernel
set_option maxRecDepth 65536 in
theorem w_ripe : about1.ripe theMethod args0 below0 = true := by decide +kernel
theorem w_running : about1.status = .running := rfl
set_option maxRecDepth 65536 in
theorem w_room : about1.hasRoom e0.platform room_1 = true :=
  launch0.hasRoom_least _ room_1 (by decide +kernel) (by decide +kernel) (by decide +kernel) (by decide +kernel) (by decide +kernel) (by decide +kernel)
theorem allAtoms_all (ts : List Jvm.Cond) (a : Array Jvm.Value) (st : Jvm.State) : (allAtoms ts).before a st = ts.all (fun c => c.before a st) := by
  induction ts with
  | nil => rfl
  | cons c t ih =>
    show (Jvm.Cond.and c (allAtoms t)).before a st = _
    rw [Jvm.Cond.before_and, ih, List.all_cons]
def words1 : List Jvm.Cond := Jvm.Cond.code x code maxLocals ret :: tables_1
/-- a 'code' word, met by the world's own term for the bytes: nothing is compared byte by byte -/
theorem code_word {y : MethodName} {bytes : ByteArray} {mx : Nat} {rt : Option FieldType} {a : Array Value} {s : State} {m : MethodId} {meth : Method} {c : Code} (h1 : s.methodNamed? y = some m) (h2 : s.vm.method? m = some meth) (h3 : meth.code = some c) (h4 : c.code = bytes)
    (h5 : (c.maxLocals == mx && c.exceptionTable.isEmpty && decide (c.maxStack ≤ mostOperands) && decide (meth.sig.returnType = rt) && !meth.locks && decide (parseMethodDescriptor y.desc = some meth.sig)) = true) : (Jvm.Cond.code y bytes mx rt).before a s = true := by
  simp only [Bool.and_eq_true, beq_iff_eq, Bool.not_eq_true', decide_eq_true_eq] at h5
  obtain ⟨⟨⟨⟨⟨g1, g2⟩, g3⟩, g4⟩, g5⟩, g6⟩ := h5
  simp [Cond.before, Cond.holds, Cond.value, h1, h2, h3, h4, g1, g2, g3, g4, g5, g6]
def isCode : Jvm.Cond → Bool
  | .code _ _ _ _ => true
  | _ => false
theorem all_split {L : List Jvm.Cond} {P : Jvm.Cond → Bool} (h1 : L.all (fun c => isCode c || P c) = true) (h2 : ∀ c ∈ L.filter isCode, P c = true) : L.all P = true := by
  refine List.all_eq_true.mpr fun c hc => ?_
  have h := List.all_eq_true.mp h1 c hc
  rcases Bool.eq_false_or_eq_true (isCode c) with hi | hi
  · exact h2 c (List.mem_filter.mpr ⟨hc, hi⟩)
  · simpa [hi] using h
set_option maxRecDepth 65536 in
theorem w_c0 : (Jvm.Cond.code x code maxLocals ret).before args0 about1 = true := code_word (m := ⟨1, 1⟩) (meth := k1m1) (c := k1c1) (by decide +kernel) rfl rfl rfl (by decide +kernel)
set_option maxRecDepth 65536 in
theorem w_c1 : (Jvm.Cond.code ({ cls := "com/example/chainwright/chainwright/formats/NameFingerprints", name := "mixed", desc := "(J)J" } : Jvm.MethodName) prog_49_method_4_code (4 : Nat) (Option.some Jvm.ClassFile.FieldType.long)).before args0 about1 = true := code_word (m := ⟨2, 1⟩) (meth := k2m1) (c := k2c1) (by decide +kernel) rfl rfl rfl (by decide +kernel)
def codes1 : List Jvm.Cond := [Jvm.Cond.code x code maxLocals ret, Jvm.Cond.code ({ cls := "com/example/chainwright/chainwright/formats/NameFingerprints", name := "mixed", desc := "(J)J" } : Jvm.MethodName) prog_49_method_4_code (4 : Nat) (Option.some Jvm.ClassFile.FieldType.long)]
set_option maxRecDepth 65536 in
theorem codes_eq : words1.filter isCode = codes1 := rfl
theorem w_codes : ∀ c ∈ words1.filter isCode, c.before args0 about1 = true := by
  rw [codes_eq]
  intro c hc
  simp only [codes1, List.mem_cons, List.not_mem_nil, or_false] at hc
  rcases hc with rfl | rfl
  · exact w_c0
  · exact w_c1
set_option maxRecDepth 65536 in
theorem w_t1 : words1.all (fun c => isCode c || c.before args0 about1) = true := by decide +kernel
theorem w_tables : (allAtoms (Jvm.Cond.code x code maxLocals ret :: tables_1)).before args0 about1 = true := by
  rw [allAtoms_all]
  show words1.all (fun c => c.before args0 about1) = true
  refine all_split ?_ w_codes
  rw [w_t1]
set_option maxRecDepth 65536 in
theorem w_case : (Jvm.Cond.and given_1 narrow_1).before args0 about1 = true := by decide +kernel
theorem w_applies : (headSpec (Jvm.Cond.code x code maxLocals ret :: tables_1) room_1).applies x e0.platform about1 = true :=
  (Spec.applies_iff w_frames).mpr ⟨w_running, w_runnable, w_alone, w_named, w_hears, w_ripe, w_room, w_tables⟩
theorem atStart : AtStart classFile x code maxLocals ret World_1 tables_1 room_1 Calls_1 rest_1 Pre_1 launch0 p0 e0 about1 theMethod args0 below0 :=
  ⟨lists_1, trivial, launch0.admits_env _ _ _, launch0.least_env, fairChoices_fair.cas, fairChoices_fair.clock, w_frames, w_args, w_heap, w_applies, trivial, trivial, w_case⟩
end start1
theorem witness_1 : WitnessClaimed_1 := ⟨start1.p0, start1.e0, start1.about1, start1.theMethod, start1.args0, start1.below0, start1.atStart⟩
end Jvm.Pilot.@@N@@
