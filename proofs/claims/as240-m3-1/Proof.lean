import JvmDerived
import JvmDerived.Pilot.@@N@@Statement
import JvmDerived.Pilot.@@N@@Code
set_option linter.unusedVariables false
set_option linter.unusedSimpArgs false
@@BLOCK:NumsL.lean.txt@@
namespace Jvm.RoadKit
open Sem ClassFile Op Lib Jvm.Stand Jvm.Free Jvm.LawKit
section New
variable {p : Program} {l : Launch} {e : Env} {R : Room} {s : State} {m : MethodId} {args : Array Value} {below : List Frame} {meth : Method} {c : Code} {T : State} {locs : List Loc} {cells slots : Nat}
theorem retI (X : Stand p l e R s m args below meth c T locs cells slots) (hx : p.tables.exec = Jvm.exec) {pc : Nat} {Ls : Array Slot} {z : Int32} {rest : List Value} (hret : meth.sig.returnType = some .int) (hd : decode c.code pc = .ok (.ireturn, 1)) {fs : List Frame}
    (hl : ∀ (f : JFrame) (acts : List Action), f.method = m → f.locked = none → f.entered = [] → (doReturn e (T.setTop f) acts (some (.int z))).1 = T.setFrames fs) : Steps p.tables e below (T.setTop (mkF m pc Ls (.int z :: rest))) (T.setFrames fs) := by
  have hm' : T.vm.method? m = some meth := X.method'
  have hn : narrow .int (.int z) = .int z := rfl
  show Steps p.tables e below (T.setTop { method := m, pc := pc, locals := Ls, stack := _ :: rest, locked := none }) _
  jvm_step X.here [X.here.top, hx, hd, hm', hret, hn]
  first | (intro acts; rw [hl _ acts rfl rfl rfl]) | rw [hl _ _ rfl rfl rfl]
  exact Steps.refl _
end New
end Jvm.RoadKit
namespace Jvm.Pilot.@@N@@
open Jvm Jvm.ClassFile Sem Op Lib Jvm.Free Jvm.Stand Jvm.LawKit Jvm.RoadKit Bundle Jvm.Pilot.@@N@@.Jvm.D
theorem own_pd__IZZ_I : parseMethodDescriptor "(IZZ)I" = some ⟨[.int, .boolean, .boolean], some .int⟩ := by decide +kernel
def own_split (p a b : Int32) : Int32 := if p < 0 then (if b = 0 then 1 else 2) else if (if (if p = 1 then (2 : Int32) else 1) = 1 then a else b) = 0 then p else (if p = 1 then 2 else 1)
theorem own_three (a : Int32) : (a &&& 2147483647) % 3 = 0 ∨ (a &&& 2147483647) % 3 = 1 ∨ (a &&& 2147483647) % 3 = 2 := by
  have e1 : (a &&& 2147483647).toInt = a.toInt % 2 ^ 31 := Jvm.Kit.i32_mask a 2147483647 (k := 31) (by decide) (by decide)
  have e2 : ((a &&& 2147483647) % 3).toInt = (a &&& 2147483647).toInt % (3 : Int32).toInt := Jvm.Kit.i32_rem_nonneg (by omega)
  rw [show (3 : Int32).toInt = 3 by decide] at e2
  have h : ((a &&& 2147483647) % 3).toInt = 0 ∨ ((a &&& 2147483647) % 3).toInt = 1 ∨ ((a &&& 2147483647) % 3).toInt = 2 := by omega
  rcases h with h | h | h
  · exact Or.inl (Int32.toInt_inj.mp (h.trans (by decide)))
  · exact Or.inr (Or.inl (Int32.toInt_inj.mp (h.trans (by decide))))
  · exact Or.inr (Or.inr (Int32.toInt_inj.mp (h.trans (by decide))))
theorem own_key {k c : Int32} (hk : k = 0 ∨ k = 1 ∨ k = 2) (hc : c = 0 ∨ c = 1 ∨ c = 2) :
    own_split (if k = 0 then (-1 : Int32) else k) (if c = 1 then (0 : Int32) else 1) (if c = 0 then (0 : Int32) else 1) =
      (if (if k = 0 then (-1 : Int32) else k) = 2 then (if (if c = 1 then (0 : Int32) else 1) = 0 then (2 : Int32) else 1) else (if (if c = 0 then (0 : Int32) else 1) = 0 then (1 : Int32) else 2)) := by
  rcases hk with rfl | rfl | rfl <;> rcases hc with rfl | rfl | rfl <;> decide
theorem d1_0 : decode prog_92_method_2_code 0 = .ok (.iload_n 0, 1) := by decide +kernel
theorem d1_1 : decode prog_92_method_2_code 1 = .ok (.ifCond .ge 13, 3) := by decide +kernel
theorem d1_4 : decode prog_92_method_2_code 4 = .ok (.iload_n 2, 1) := by decide +kernel
theorem d1_5 : decode prog_92_method_2_code 5 = .ok (.ifCond .eq 7, 3) := by decide +kernel
theorem d1_8 : decode prog_92_method_2_code 8 = .ok (.iconst 2, 1) := by decide +kernel
theorem d1_9 : decode prog_92_method_2_code 9 = .ok (.goto 4, 3) := by decide +kernel
theorem d1_12 : decode prog_92_method_2_code 12 = .ok (.iconst 1, 1) := by decide +kernel
theorem d1_13 : decode prog_92_method_2_code 13 = .ok (.ireturn, 1) := by decide +kernel
theorem d1_14 : decode prog_92_method_2_code 14 = .ok (.iload_n 0, 1) := by decide +kernel
theorem d1_15 : decode prog_92_method_2_code 15 = .ok (.iconst 1, 1) := by decide +kernel
theorem d1_16 : decode prog_92_method_2_code 16 = .ok (.if_icmp .ne 7, 3) := by decide +kernel
theorem d1_19 : decode prog_92_method_2_code 19 = .ok (.iconst 2, 1) := by decide +kernel
theorem d1_20 : decode prog_92_method_2_code 20 = .ok (.goto 4, 3) := by decide +kernel
theorem d1_23 : decode prog_92_method_2_code 23 = .ok (.iconst 1, 1) := by decide +kernel
theorem d1_24 : decode prog_92_method_2_code 24 = .ok (.istore_n 3, 1) := by decide +kernel
theorem d1_25 : decode prog_92_method_2_code 25 = .ok (.iload_n 3, 1) := by decide +kernel
theorem d1_26 : decode prog_92_method_2_code 26 = .ok (.iconst 1, 1) := by decide +kernel
theorem d1_27 : decode prog_92_method_2_code 27 = .ok (.if_icmp .ne 7, 3) := by decide +kernel
theorem d1_30 : decode prog_92_method_2_code 30 = .ok (.iload_n 1, 1) := by decide +kernel
theorem d1_31 : decode prog_92_method_2_code 31 = .ok (.goto 4, 3) := by decide +kernel
theorem d1_34 : decode prog_92_method_2_code 34 = .ok (.iload_n 2, 1) := by decide +kernel
theorem d1_35 : decode prog_92_method_2_code 35 = .ok (.istore 4, 2) := by decide +kernel
theorem d1_37 : decode prog_92_method_2_code 37 = .ok (.iload 4, 2) := by decide +kernel
theorem d1_39 : decode prog_92_method_2_code 39 = .ok (.ifCond .eq 7, 3) := by decide +kernel
theorem d1_42 : decode prog_92_method_2_code 42 = .ok (.iload_n 3, 1) := by decide +kernel
theorem d1_43 : decode prog_92_method_2_code 43 = .ok (.goto 4, 3) := by decide +kernel
theorem d1_46 : decode prog_92_method_2_code 46 = .ok (.iload_n 0, 1) := by decide +kernel
theorem d1_47 : decode prog_92_method_2_code 47 = .ok (.ireturn, 1) := by decide +kernel
theorem own_pn_TrieFormat : plainName "com/example/skewroot/skewroot/index/TrieFormat" = true := by first | (simp [plainName, overriddenIn]; done) | decide +kernel
theorem ef_1 (m : MethodId) (x0 : Int32) (x1 : Int32) (x2 : Int32) : entryFrame m #[(.int x0), (.int x1), (.int x2)] 5 = mkF m 0 #[.val (.int x0), .val (.int x1), .val (.int x2), .unset, .unset] [] := by first | (simp [entryFrame, mkF, argsToLocals, Value.category]; done) | rfl
def Qrm1 (Z : State) (p1 : Int32) (p2 : Int32) (p3 : Int32) (h0 : Heap) (n0 : Nat) (v : Option Value) (h : Heap) (L : List Loc) : Prop := v = some (.int (own_split p1 p2 p3)) ∧ Fr n0 L ∧ h = h0
set_option maxRecDepth 65536 in
set_option maxHeartbeats 40000000 in
theorem rm1 (l : Launch) (Z : State) (a0 : Array Value) (hw : ∀ d ∈ tables_1, d.before a0 Z = true) (ws : List Jvm.Cond) (p1 : Int32) (p2 : Int32) (p3 : Int32) (h0 : Heap) (n0 : Nat) (Z0 : n0 ≤ h0.size)  :
    MetFree l (⟨"com/example/skewroot/skewroot/index/TrieFormat", "splitKind", "(IZZ)I"⟩ : MethodName) (head1 (Jvm.Cond.code (⟨"com/example/skewroot/skewroot/index/TrieFormat", "splitKind", "(IZZ)I"⟩ : MethodName) prog_92_method_2_code 5 (some .int) :: ws) ({ frames := 0, cells := 0, slots := 0, locals := 0 } : Room)) (fun a U => a = #[(.int p1), (.int p2), (.int p3)] ∧ Z.Warmed39 U.vm ∧ U.heap = h0) (fun _ _ _ _ _ => True) (fun _ U o U' => ∃ v L, o = .returned v ∧ Qrm1 Z p1 p2 p3 h0 n0 v U'.heap L ∧ FrameEnd U o U' L ({ frames := 0, cells := 0, slots := 0, locals := 0 } : Room).cells ({ frames := 0, cells := 0, slots := 0, locals := 0 } : Room).slots) := by
  refine MetFree.of_bodySF (plainFor_of_name own_pn_TrieFormat) hisR ?_
  intro p e s m args below meth c s₁ Bd hml0 hP hK
  obtain ⟨rfl, hZ, hh⟩ := hP
  have hx := Bd.exec
  have hby := Bd.bytes
  have hml : c.maxLocals = 5 := hml0
  have hown : s.vm.findClass "com/example/skewroot/skewroot/index/TrieFormat" = some m.cls := findClass_of_methodNamed Bd.named
  have hnm := (name_of_methodNamed Bd.named Bd.method).1
  have X0 : Stand p l e ({ frames := 0, cells := 0, slots := 0, locals := 0 } : Room) s m #[(.int p1), (.int p2), (.int p3)] below meth c s₁ [] 0 0 := Stand.of_body Bd
  have e0 : s₁.heap = h0 := by rw [← hh, Bd.state]; rfl
  have N0 := Fr.nil n0
  have pre0 : ∀ t, Steps p.tables e below (s₁.setTop (mkF m 0 #[.val (.int p1), .val (.int p2), .val (.int p3), .unset, .unset] [])) t → Steps p.tables e below (s₁.setTop (entryFrame m #[(.int p1), (.int p2), (.int p3)] 5)) t := fun t k => castTop (ef_1 m p1 p2 p3) k
  obtain ⟨S0, hS0⟩ : ∃ z, z = s₁.setTop (mkF m 0 #[.val (.int p1), .val (.int p2), .val (.int p3), .unset, .unset] []) := ⟨_, rfl⟩
  have c0 : Steps p.tables e below S0 (s₁.setTop (mkF m 0 #[.val (.int p1), .val (.int p2), .val (.int p3), .unset, .unset] [])) := by rw [hS0]; exact Steps.refl _
  have c1 : Steps p.tables e below S0 (s₁.setTop (mkF m 1 #[.val (.int p1), .val (.int p2), .val (.int p3), .unset, .unset] [(.int p1)])) := c0.trans (by
    refine XS.iloadN X0.here hx rfl (hb hby d1_0) rfl ?_
    show Steps p.tables e below (s₁.setTop (mkF m 1 #[.val (.int p1), .val (.int p2), .val (.int p3), .unset, .unset] [(.int p1)])) _
    exact Steps.refl _)
  by_cases k1 : p1 < 0
  ·
    have c2 : Steps p.tables e below S0 (s₁.setTop (mkF m 5 #[.val (.int p1), .val (.int p2), .val (.int p3), .unset, .unset] [(.int p3)])) := c1.trans (by
      refine XS.ifNo X0.here hx rfl (hb hby d1_1) rfl (XT.i0_ge_f k1) ?_
      show Steps p.tables e below (s₁.setTop (mkF m 4 #[.val (.int p1), .val (.int p2), .val (.int p3), .unset, .unset] [])) _
      refine XS.iloadN X0.here hx rfl (hb hby d1_4) rfl ?_
      show Steps p.tables e below (s₁.setTop (mkF m 5 #[.val (.int p1), .val (.int p2), .val (.int p3), .unset, .unset] [(.int p3)])) _
      exact Steps.refl _)
    by_cases k2 : p3 = 0
    ·
      have c3 : Steps p.tables e below S0 (s₁.setTop (mkF m 13 #[.val (.int p1), .val (.int p2), .val (.int p3), .unset, .unset] [(.int (1 : Int32))])) := c2.trans (by
        refine XS.ifYes X0.here hx rfl (pc0 := 5) (pc' := 12) rfl (hb hby d1_5) rfl (XT.i0_eq_t k2) (by decide) (by decide) ?_
        show Steps p.tables e below (s₁.setTop (mkF m 12 #[.val (.int p1), .val (.int p2), .val (.int p3), .unset, .unset] [])) _
        refine XT.iconstV X0.here hx rfl (1 : Int32) (hb hby d1_12) (by decide) ?_
        show Steps p.tables e below (s₁.setTop (mkF m 13 #[.val (.int p1), .val (.int p2), .val (.int p3), .unset, .unset] [(.int (1 : Int32))])) _
        exact Steps.refl _)
      obtain ⟨fs, hr, hrun, hended, hW, hsame⟩ := X0.leave (v := some (.int (1 : Int32))) (fun h => by rw [Bd.returns] at h; cases h)
      refine ⟨_, _, pre0 _ ?_, hrun, hended, _, _, rfl, ?_, ⟨_, rfl⟩, hW, hsame.mono (by decide) (by decide)⟩
      · rw [← hS0]
        exact c3.trans (retI X0 hx Bd.returns (hb hby d1_13) hr)
      · show Qrm1 Z p1 p2 p3 h0 n0 _ s₁.heap _
        rw [e0]
        exact ⟨by rw [own_split, if_pos k1, if_pos k2], N0, rfl⟩
    ·
      have c4 : Steps p.tables e below S0 (s₁.setTop (mkF m 13 #[.val (.int p1), .val (.int p2), .val (.int p3), .unset, .unset] [(.int (2 : Int32))])) := c2.trans (by
        refine XS.ifNo X0.here hx rfl (hb hby d1_5) rfl (XT.i0_eq_f k2) ?_
        show Steps p.tables e below (s₁.setTop (mkF m 8 #[.val (.int p1), .val (.int p2), .val (.int p3), .unset, .unset] [])) _
        refine XT.iconstV X0.here hx rfl (2 : Int32) (hb hby d1_8) (by decide) ?_
        show Steps p.tables e below (s₁.setTop (mkF m 9 #[.val (.int p1), .val (.int p2), .val (.int p3), .unset, .unset] [(.int (2 : Int32))])) _
        refine XS.goto X0.here hx rfl (pc0 := 9) (pc' := 13) rfl (hb hby d1_9) (by decide) (by decide) ?_
        show Steps p.tables e below (s₁.setTop (mkF m 13 #[.val (.int p1), .val (.int p2), .val (.int p3), .unset, .unset] [(.int (2 : Int32))])) _
        exact Steps.refl _)
      obtain ⟨fs, hr, hrun, hended, hW, hsame⟩ := X0.leave (v := some (.int (2 : Int32))) (fun h => by rw [Bd.returns] at h; cases h)
      refine ⟨_, _, pre0 _ ?_, hrun, hended, _, _, rfl, ?_, ⟨_, rfl⟩, hW, hsame.mono (by decide) (by decide)⟩
      · rw [← hS0]
        exact c4.trans (retI X0 hx Bd.returns (hb hby d1_13) hr)
      · show Qrm1 Z p1 p2 p3 h0 n0 _ s₁.heap _
        rw [e0]
        exact ⟨by rw [own_split, if_pos k1, if_neg k2], N0, rfl⟩
  ·
    have c5 : Steps p.tables e below S0 (s₁.setTop (mkF m 16 #[.val (.int p1), .val (.int p2), .val (.int p3), .unset, .unset] [(.int (1 : Int32)), (.int p1)])) := c1.trans (by
      refine XS.ifYes X0.here hx rfl (pc0 := 1) (pc' := 14) rfl (hb hby d1_1) rfl (XT.i0_ge_t k1) (by decide) (by decide) ?_
      show Steps p.tables e below (s₁.setTop (mkF m 14 #[.val (.int p1), .val (.int p2), .val (.int p3), .unset, .unset] [])) _
      refine XS.iloadN X0.here hx rfl (hb hby d1_14) rfl ?_
      show Steps p.tables e below (s₁.setTop (mkF m 15 #[.val (.int p1), .val (.int p2), .val (.int p3), .unset, .unset] [(.int p1)])) _
      refine XT.iconstV X0.here hx rfl (1 : Int32) (hb hby d1_15) (by decide) ?_
      show Steps p.tables e below (s₁.setTop (mkF m 16 #[.val (.int p1), .val (.int p2), .val (.int p3), .unset, .unset] [(.int (1 : Int32)), (.int p1)])) _
      exact Steps.refl _)
    obtain ⟨kk, hkk⟩ : ∃ z, z = (if p1 = (1 : Int32) then (2 : Int32) else (1 : Int32)) := ⟨_, rfl⟩
    have c6 : Steps p.tables e below S0 (s₁.setTop (mkF m 24 #[.val (.int p1), .val (.int p2), .val (.int p3), .unset, .unset] [(.int kk)])) := by
      by_cases hj0 : p1 = (1 : Int32)
      ·
        rw [hkk, if_pos hj0]
        exact c5.trans (by
          refine XS.icmpNo X0.here hx rfl (hb hby d1_16) rfl (XT.ii_ne_f hj0) ?_
          show Steps p.tables e below (s₁.setTop (mkF m 19 #[.val (.int p1), .val (.int p2), .val (.int p3), .unset, .unset] [])) _
          refine XT.iconstV X0.here hx rfl (2 : Int32) (hb hby d1_19) (by decide) ?_
          show Steps p.tables e below (s₁.setTop (mkF m 20 #[.val (.int p1), .val (.int p2), .val (.int p3), .unset, .unset] [(.int (2 : Int32))])) _
          refine XS.goto X0.here hx rfl (pc0 := 20) (pc' := 24) rfl (hb hby d1_20) (by decide) (by decide) ?_
          show Steps p.tables e below (s₁.setTop (mkF m 24 #[.val (.int p1), .val (.int p2), .val (.int p3), .unset, .unset] [(.int (2 : Int32))])) _
          exact Steps.refl _)
      ·
        rw [hkk, if_neg hj0]
        exact c5.trans (by
          refine XS.icmpYes X0.here hx rfl (pc0 := 16) (pc' := 23) rfl (hb hby d1_16) rfl (XT.ii_ne_t hj0) (by decide) (by decide) ?_
          show Steps p.tables e below (s₁.setTop (mkF m 23 #[.val (.int p1), .val (.int p2), .val (.int p3), .unset, .unset] [])) _
          refine XT.iconstV X0.here hx rfl (1 : Int32) (hb hby d1_23) (by decide) ?_
          show Steps p.tables e below (s₁.setTop (mkF m 24 #[.val (.int p1), .val (.int p2), .val (.int p3), .unset, .unset] [(.int (1 : Int32))])) _
          exact Steps.refl _)
    have c7 : Steps p.tables e below S0 (s₁.setTop (mkF m 27 #[.val (.int p1), .val (.int p2), .val (.int p3), .val (.int kk), .unset] [(.int (1 : Int32)), (.int kk)])) := c6.trans (by
      refine XS.istoreN X0.here hx rfl (hb hby d1_24) rfl (l' := #[.val (.int p1), .val (.int p2), .val (.int p3), .val (.int kk), .unset]) rfl ?_
      show Steps p.tables e below (s₁.setTop (mkF m 25 #[.val (.int p1), .val (.int p2), .val (.int p3), .val (.int kk), .unset] [])) _
      refine XS.iloadN X0.here hx rfl (hb hby d1_25) rfl ?_
      show Steps p.tables e below (s₁.setTop (mkF m 26 #[.val (.int p1), .val (.int p2), .val (.int p3), .val (.int kk), .unset] [(.int kk)])) _
      refine XT.iconstV X0.here hx rfl (1 : Int32) (hb hby d1_26) (by decide) ?_
      show Steps p.tables e below (s₁.setTop (mkF m 27 #[.val (.int p1), .val (.int p2), .val (.int p3), .val (.int kk), .unset] [(.int (1 : Int32)), (.int kk)])) _
      exact Steps.refl _)
    obtain ⟨ff, hff⟩ : ∃ z, z = (if kk = (1 : Int32) then p2 else p3) := ⟨_, rfl⟩
    have c8 : Steps p.tables e below S0 (s₁.setTop (mkF m 35 #[.val (.int p1), .val (.int p2), .val (.int p3), .val (.int kk), .unset] [(.int ff)])) := by
      by_cases hf0 : kk = (1 : Int32)
      ·
        rw [hff, if_pos hf0]
        exact c7.trans (by
          refine XS.icmpNo X0.here hx rfl (hb hby d1_27) rfl (XT.ii_ne_f hf0) ?_
          show Steps p.tables e below (s₁.setTop (mkF m 30 #[.val (.int p1), .val (.int p2), .val (.int p3), .val (.int kk), .unset] [])) _
          refine XS.iloadN X0.here hx rfl (hb hby d1_30) rfl ?_
          show Steps p.tables e below (s₁.setTop (mkF m 31 #[.val (.int p1), .val (.int p2), .val (.int p3), .val (.int kk), .unset] [(.int p2)])) _
          refine XS.goto X0.here hx rfl (pc0 := 31) (pc' := 35) rfl (hb hby d1_31) (by decide) (by decide) ?_
          show Steps p.tables e below (s₁.setTop (mkF m 35 #[.val (.int p1), .val (.int p2), .val (.int p3), .val (.int kk), .unset] [(.int p2)])) _
          exact Steps.refl _)
      ·
        rw [hff, if_neg hf0]
        exact c7.trans (by
          refine XS.icmpYes X0.here hx rfl (pc0 := 27) (pc' := 34) rfl (hb hby d1_27) rfl (XT.ii_ne_t hf0) (by decide) (by decide) ?_
          show Steps p.tables e below (s₁.setTop (mkF m 34 #[.val (.int p1), .val (.int p2), .val (.int p3), .val (.int kk), .unset] [])) _
          refine XS.iloadN X0.here hx rfl (hb hby d1_34) rfl ?_
          show Steps p.tables e below (s₁.setTop (mkF m 35 #[.val (.int p1), .val (.int p2), .val (.int p3), .val (.int kk), .unset] [(.int p3)])) _
          exact Steps.refl _)
    have c9 : Steps p.tables e below S0 (s₁.setTop (mkF m 39 #[.val (.int p1), .val (.int p2), .val (.int p3), .val (.int kk), .val (.int ff)] [(.int ff)])) := c8.trans (by
      refine XS.istore X0.here hx rfl (hb hby d1_35) rfl (l' := #[.val (.int p1), .val (.int p2), .val (.int p3), .val (.int kk), .val (.int ff)]) rfl ?_
      show Steps p.tables e below (s₁.setTop (mkF m 37 #[.val (.int p1), .val (.int p2), .val (.int p3), .val (.int kk), .val (.int ff)] [])) _
      refine XS.iload X0.here hx rfl (hb hby d1_37) rfl ?_
      show Steps p.tables e below (s₁.setTop (mkF m 39 #[.val (.int p1), .val (.int p2), .val (.int p3), .val (.int kk), .val (.int ff)] [(.int ff)])) _
      exact Steps.refl _)
    by_cases k2 : ff = 0
    ·
      have c10 : Steps p.tables e below S0 (s₁.setTop (mkF m 47 #[.val (.int p1), .val (.int p2), .val (.int p3), .val (.int kk), .val (.int ff)] [(.int p1)])) := c9.trans (by
        refine XS.ifYes X0.here hx rfl (pc0 := 39) (pc' := 46) rfl (hb hby d1_39) rfl (XT.i0_eq_t k2) (by decide) (by decide) ?_
        show Steps p.tables e below (s₁.setTop (mkF m 46 #[.val (.int p1), .val (.int p2), .val (.int p3), .val (.int kk), .val (.int ff)] [])) _
        refine XS.iloadN X0.here hx rfl (hb hby d1_46) rfl ?_
        show Steps p.tables e below (s₁.setTop (mkF m 47 #[.val (.int p1), .val (.int p2), .val (.int p3), .val (.int kk), .val (.int ff)] [(.int p1)])) _
        exact Steps.refl _)
      obtain ⟨fs, hr, hrun, hended, hW, hsame⟩ := X0.leave (v := some (.int p1)) (fun h => by rw [Bd.returns] at h; cases h)
      refine ⟨_, _, pre0 _ ?_, hrun, hended, _, _, rfl, ?_, ⟨_, rfl⟩, hW, hsame.mono (by decide) (by decide)⟩
      · rw [← hS0]
        exact c10.trans (retI X0 hx Bd.returns (hb hby d1_47) hr)
      · show Qrm1 Z p1 p2 p3 h0 n0 _ s₁.heap _
        rw [e0]
        exact ⟨by rw [own_split, if_neg k1, ← hkk, ← hff, if_pos k2], N0, rfl⟩
    ·
      have c11 : Steps p.tables e below S0 (s₁.setTop (mkF m 47 #[.val (.int p1), .val (.int p2), .val (.int p3), .val (.int kk), .val (.int ff)] [(.int kk)])) := c9.trans (by
        refine XS.ifNo X0.here hx rfl (hb hby d1_39) rfl (XT.i0_eq_f k2) ?_
        show Steps p.tables e below (s₁.setTop (mkF m 42 #[.val (.int p1), .val (.int p2), .val (.int p3), .val (.int kk), .val (.int ff)] [])) _
        refine XS.iloadN X0.here hx rfl (hb hby d1_42) rfl ?_
        show Steps p.tables e below (s₁.setTop (mkF m 43 #[.val (.int p1), .val (.int p2), .val (.int p3), .val (.int kk), .val (.int ff)] [(.int kk)])) _
        refine XS.goto X0.here hx rfl (pc0 := 43) (pc' := 47) rfl (hb hby d1_43) (by decide) (by decide) ?_
        show Steps p.tables e below (s₁.setTop (mkF m 47 #[.val (.int p1), .val (.int p2), .val (.int p3), .val (.int kk), .val (.int ff)] [(.int kk)])) _
        exact Steps.refl _)
      obtain ⟨fs, hr, hrun, hended, hW, hsame⟩ := X0.leave (v := some (.int kk)) (fun h => by rw [Bd.returns] at h; cases h)
      refine ⟨_, _, pre0 _ ?_, hrun, hended, _, _, rfl, ?_, ⟨_, rfl⟩, hW, hsame.mono (by decide) (by decide)⟩
      · rw [← hS0]
        exact c11.trans (retI X0 hx Bd.returns (hb hby d1_47) hr)
      · show Qrm1 Z p1 p2 p3 h0 n0 _ s₁.heap _
        rw [e0]
        exact ⟨by rw [own_split, if_neg k1, ← hkk, ← hff, if_neg k2], N0, rfl⟩
theorem own_pn_TrieFormatSplitKindPinLaw : plainName "com/example/skewroot/skewroot/index/TrieFormatSplitKindPinLaw" = true := by first | (simp [plainName, overriddenIn]; done) | decide +kernel
theorem ef_0 (m : MethodId) (x0 : Int32) (x1 : Int32) : entryFrame m #[(.int x0), (.int x1)] maxLocals = mkF m 0 #[.val (.int x0), .val (.int x1), .unset, .unset, .unset, .unset, .unset, .unset, .unset] [] := by first | (simp [entryFrame, mkF, argsToLocals, Value.category, maxLocals]; done) | rfl
def Qrm0 (Z : State) (p1 : Int32) (p2 : Int32) (h0 : Heap) (n0 : Nat) (v : Option Value) (h : Heap) (L : List Loc) : Prop := v = some (.int 1) ∧ Fr n0 L
set_option maxRecDepth 65536 in
set_option maxHeartbeats 40000000 in
theorem rm0 (l : Launch) (Z : State) (a0 : Array Value) (hw : ∀ d ∈ tables_1, d.before a0 Z = true) (ws : List Jvm.Cond) (p1 : Int32) (p2 : Int32) (h0 : Heap) (n0 : Nat) (Z0 : n0 ≤ h0.size)  :
    MetFree l x (head1 (Jvm.Cond.code x code maxLocals ret :: ws) (room_1 : Room)) (fun a U => a = #[(.int p1), (.int p2)] ∧ Z.Warmed39 U.vm ∧ U.heap = h0) (fun _ _ _ _ _ => True) (fun _ U o U' => ∃ v L, o = .returned v ∧ Qrm0 Z p1 p2 h0 n0 v U'.heap L ∧ FrameEnd U o U' L (room_1 : Room).cells (room_1 : Room).slots) := by
  refine MetFree.of_bodySF (plainFor_of_name own_pn_TrieFormatSplitKindPinLaw) hisR ?_
  intro p e s m args below meth c s₁ Bd hml0 hP hK
  obtain ⟨rfl, hZ, hh⟩ := hP
  have hx := Bd.exec
  have hby := Bd.bytes
  have hml : c.maxLocals = 9 := hml0
  have hown : s.vm.findClass "com/example/skewroot/skewroot/index/TrieFormatSplitKindPinLaw" = some m.cls := findClass_of_methodNamed Bd.named
  have hnm := (name_of_methodNamed Bd.named Bd.method).1
  have X0 : Stand p l e (room_1 : Room) s m #[(.int p1), (.int p2)] below meth c s₁ [] 0 0 := Stand.of_body Bd
  have e0 : s₁.heap = h0 := by rw [← hh, Bd.state]; rfl
  have N0 := Fr.nil n0
  have pre0 : ∀ t, Steps p.tables e below (s₁.setTop (mkF m 0 #[.val (.int p1), .val (.int p2), .unset, .unset, .unset, .unset, .unset, .unset, .unset] [])) t → Steps p.tables e below (s₁.setTop (entryFrame m #[(.int p1), (.int p2)] maxLocals)) t := fun t k => castTop (ef_0 m p1 p2) k
  obtain ⟨S0, hS0⟩ : ∃ z, z = s₁.setTop (mkF m 0 #[.val (.int p1), .val (.int p2), .unset, .unset, .unset, .unset, .unset, .unset, .unset] []) := ⟨_, rfl⟩
  have c0 : Steps p.tables e below S0 (s₁.setTop (mkF m 0 #[.val (.int p1), .val (.int p2), .unset, .unset, .unset, .unset, .unset, .unset, .unset] [])) := by rw [hS0]; exact Steps.refl _
  have c1 : Steps p.tables e below S0 (s₁.setTop (mkF m 7 #[.val (.int p1), .val (.int p2), .val (.int ((p1 &&& (2147483647 : Int32)) % (3 : Int32))), .unset, .unset, .unset, .unset, .unset, .unset] [])) := c0.trans (by
    refine XS.iloadN X0.here hx rfl (hb hby at_0) rfl ?_
    show Steps p.tables e below (s₁.setTop (mkF m 1 #[.val (.int p1), .val (.int p2), .unset, .unset, .unset, .unset, .unset, .unset, .unset] [(.int p1)])) _
    refine X0.ldcI hx hown (mvT hZ (hw _ (List.mem_of_getElem? (i := 0) rfl))) (g := (mkF m 1 #[.val (.int p1), .val (.int p2), .unset, .unset, .unset, .unset, .unset, .unset, .unset] [(.int p1)])) rfl (hb hby at_1) ?_
    show Steps p.tables e below (s₁.setTop (mkF m 3 #[.val (.int p1), .val (.int p2), .unset, .unset, .unset, .unset, .unset, .unset, .unset] [(.int (2147483647 : Int32)), (.int p1)])) _
    refine XS.iand X0.here hx rfl (hb hby at_3) rfl ?_
    show Steps p.tables e below (s₁.setTop (mkF m 4 #[.val (.int p1), .val (.int p2), .unset, .unset, .unset, .unset, .unset, .unset, .unset] [(.int (p1 &&& (2147483647 : Int32)))])) _
    refine XT.iconstV X0.here hx rfl (3 : Int32) (hb hby at_4) (by decide) ?_
    show Steps p.tables e below (s₁.setTop (mkF m 5 #[.val (.int p1), .val (.int p2), .unset, .unset, .unset, .unset, .unset, .unset, .unset] [(.int (3 : Int32)), (.int (p1 &&& (2147483647 : Int32)))])) _
    refine iremM X0 hx rfl (hb hby at_5) rfl (by decide) ?_
    show Steps p.tables e below (s₁.setTop (mkF m 6 #[.val (.int p1), .val (.int p2), .unset, .unset, .unset, .unset, .unset, .unset, .unset] [(.int ((p1 &&& (2147483647 : Int32)) % (3 : Int32)))])) _
    refine XS.istoreN X0.here hx rfl (hb hby at_6) rfl (l' := #[.val (.int p1), .val (.int p2), .val (.int ((p1 &&& (2147483647 : Int32)) % (3 : Int32))), .unset, .unset, .unset, .unset, .unset, .unset]) rfl ?_
    show Steps p.tables e below (s₁.setTop (mkF m 7 #[.val (.int p1), .val (.int p2), .val (.int ((p1 &&& (2147483647 : Int32)) % (3 : Int32))), .unset, .unset, .unset, .unset, .unset, .unset] [])) _
    exact Steps.refl _)
  obtain ⟨kq, hkq⟩ : ∃ z, z = ((p1 &&& (2147483647 : Int32)) % (3 : Int32)) := ⟨_, rfl⟩
  rw [← hkq] at c1
  have c2 : Steps p.tables e below S0 (s₁.setTop (mkF m 8 #[.val (.int p1), .val (.int p2), .val (.int kq), .unset, .unset, .unset, .unset, .unset, .unset] [(.int kq)])) := c1.trans (by
    refine XS.iloadN X0.here hx rfl (hb hby at_7) rfl ?_
    show Steps p.tables e below (s₁.setTop (mkF m 8 #[.val (.int p1), .val (.int p2), .val (.int kq), .unset, .unset, .unset, .unset, .unset, .unset] [(.int kq)])) _
    exact Steps.refl _)
  obtain ⟨par, hpar⟩ : ∃ z, z = (if kq = 0 then (-1 : Int32) else kq) := ⟨_, rfl⟩
  have c3 : Steps p.tables e below S0 (s₁.setTop (mkF m 16 #[.val (.int p1), .val (.int p2), .val (.int kq), .unset, .unset, .unset, .unset, .unset, .unset] [(.int par)])) := by
    by_cases ha0 : kq = 0
    ·
      rw [hpar, if_pos ha0]
      exact c2.trans (by
        refine XS.ifNo X0.here hx rfl (hb hby at_8) rfl (XT.i0_ne_f ha0) ?_
        show Steps p.tables e below (s₁.setTop (mkF m 11 #[.val (.int p1), .val (.int p2), .val (.int kq), .unset, .unset, .unset, .unset, .unset, .unset] [])) _
        refine XT.iconstV X0.here hx rfl (-1 : Int32) (hb hby at_11) (by decide) ?_
        show Steps p.tables e below (s₁.setTop (mkF m 12 #[.val (.int p1), .val (.int p2), .val (.int kq), .unset, .unset, .unset, .unset, .unset, .unset] [(.int (-1 : Int32))])) _
        refine XS.goto X0.here hx rfl (pc0 := 12) (pc' := 16) rfl (hb hby at_12) (by decide) (by decide) ?_
        show Steps p.tables e below (s₁.setTop (mkF m 16 #[.val (.int p1), .val (.int p2), .val (.int kq), .unset, .unset, .unset, .unset, .unset, .unset] [(.int (-1 : Int32))])) _
        exact Steps.refl _)
    ·
      rw [hpar, if_neg ha0]
      exact c2.trans (by
        refine XS.ifYes X0.here hx rfl (pc0 := 8) (pc' := 15) rfl (hb hby at_8) rfl (XT.i0_ne_t ha0) (by decide) (by decide) ?_
        show Steps p.tables e below (s₁.setTop (mkF m 15 #[.val (.int p1), .val (.int p2), .val (.int kq), .unset, .unset, .unset, .unset, .unset, .unset] [])) _
        refine XS.iloadN X0.here hx rfl (hb hby at_15) rfl ?_
        show Steps p.tables e below (s₁.setTop (mkF m 16 #[.val (.int p1), .val (.int p2), .val (.int kq), .unset, .unset, .unset, .unset, .unset, .unset] [(.int kq)])) _
        exact Steps.refl _)
  have c4 : Steps p.tables e below S0 (s₁.setTop (mkF m 25 #[.val (.int p1), .val (.int p2), .val (.int kq), .val (.int par), .val (.int ((p2 &&& (2147483647 : Int32)) % (3 : Int32))), .unset, .unset, .unset, .unset] [])) := c3.trans (by
    refine XS.istoreN X0.here hx rfl (hb hby at_16) rfl (l' := #[.val (.int p1), .val (.int p2), .val (.int kq), .val (.int par), .unset, .unset, .unset, .unset, .unset]) rfl ?_
    show Steps p.tables e below (s₁.setTop (mkF m 17 #[.val (.int p1), .val (.int p2), .val (.int kq), .val (.int par), .unset, .unset, .unset, .unset, .unset] [])) _
    refine XS.iloadN X0.here hx rfl (hb hby at_17) rfl ?_
    show Steps p.tables e below (s₁.setTop (mkF m 18 #[.val (.int p1), .val (.int p2), .val (.int kq), .val (.int par), .unset, .unset, .unset, .unset, .unset] [(.int p2)])) _
    refine X0.ldcI hx hown (mvT hZ (hw _ (List.mem_of_getElem? (i := 0) rfl))) (g := (mkF m 18 #[.val (.int p1), .val (.int p2), .val (.int kq), .val (.int par), .unset, .unset, .unset, .unset, .unset] [(.int p2)])) rfl (hb hby at_18) ?_
    show Steps p.tables e below (s₁.setTop (mkF m 20 #[.val (.int p1), .val (.int p2), .val (.int kq), .val (.int par), .unset, .unset, .unset, .unset, .unset] [(.int (2147483647 : Int32)), (.int p2)])) _
    refine XS.iand X0.here hx rfl (hb hby at_20) rfl ?_
    show Steps p.tables e below (s₁.setTop (mkF m 21 #[.val (.int p1), .val (.int p2), .val (.int kq), .val (.int par), .unset, .unset, .unset, .unset, .unset] [(.int (p2 &&& (2147483647 : Int32)))])) _
    refine XT.iconstV X0.here hx rfl (3 : Int32) (hb hby at_21) (by decide) ?_
    show Steps p.tables e below (s₁.setTop (mkF m 22 #[.val (.int p1), .val (.int p2), .val (.int kq), .val (.int par), .unset, .unset, .unset, .unset, .unset] [(.int (3 : Int32)), (.int (p2 &&& (2147483647 : Int32)))])) _
    refine iremM X0 hx rfl (hb hby at_22) rfl (by decide) ?_
    show Steps p.tables e below (s₁.setTop (mkF m 23 #[.val (.int p1), .val (.int p2), .val (.int kq), .val (.int par), .unset, .unset, .unset, .unset, .unset] [(.int ((p2 &&& (2147483647 : Int32)) % (3 : Int32)))])) _
    refine XS.istore X0.here hx rfl (hb hby at_23) rfl (l' := #[.val (.int p1), .val (.int p2), .val (.int kq), .val (.int par), .val (.int ((p2 &&& (2147483647 : Int32)) % (3 : Int32))), .unset, .unset, .unset, .unset]) rfl ?_
    show Steps p.tables e below (s₁.setTop (mkF m 25 #[.val (.int p1), .val (.int p2), .val (.int kq), .val (.int par), .val (.int ((p2 &&& (2147483647 : Int32)) % (3 : Int32))), .unset, .unset, .unset, .unset] [])) _
    exact Steps.refl _)
  obtain ⟨cq, hcq⟩ : ∃ z, z = ((p2 &&& (2147483647 : Int32)) % (3 : Int32)) := ⟨_, rfl⟩
  rw [← hcq] at c4
  have c5 : Steps p.tables e below S0 (s₁.setTop (mkF m 28 #[.val (.int p1), .val (.int p2), .val (.int kq), .val (.int par), .val (.int cq), .unset, .unset, .unset, .unset] [(.int (1 : Int32)), (.int cq)])) := c4.trans (by
    refine XS.iload X0.here hx rfl (hb hby at_25) rfl ?_
    show Steps p.tables e below (s₁.setTop (mkF m 27 #[.val (.int p1), .val (.int p2), .val (.int kq), .val (.int par), .val (.int cq), .unset, .unset, .unset, .unset] [(.int cq)])) _
    refine XT.iconstV X0.here hx rfl (1 : Int32) (hb hby at_27) (by decide) ?_
    show Steps p.tables e below (s₁.setTop (mkF m 28 #[.val (.int p1), .val (.int p2), .val (.int kq), .val (.int par), .val (.int cq), .unset, .unset, .unset, .unset] [(.int (1 : Int32)), (.int cq)])) _
    exact Steps.refl _)
  obtain ⟨ps, hps⟩ : ∃ z, z = (if cq = (1 : Int32) then (0 : Int32) else (1 : Int32)) := ⟨_, rfl⟩
  have c6 : Steps p.tables e below S0 (s₁.setTop (mkF m 36 #[.val (.int p1), .val (.int p2), .val (.int kq), .val (.int par), .val (.int cq), .unset, .unset, .unset, .unset] [(.int ps)])) := by
    by_cases hb0 : cq = (1 : Int32)
    ·
      rw [hps, if_pos hb0]
      exact c5.trans (by
        refine XS.icmpYes X0.here hx rfl (pc0 := 28) (pc' := 35) rfl (hb hby at_28) rfl (XT.ii_eq_t hb0) (by decide) (by decide) ?_
        show Steps p.tables e below (s₁.setTop (mkF m 35 #[.val (.int p1), .val (.int p2), .val (.int kq), .val (.int par), .val (.int cq), .unset, .unset, .unset, .unset] [])) _
        refine XT.iconstV X0.here hx rfl (0 : Int32) (hb hby at_35) (by decide) ?_
        show Steps p.tables e below (s₁.setTop (mkF m 36 #[.val (.int p1), .val (.int p2), .val (.int kq), .val (.int par), .val (.int cq), .unset, .unset, .unset, .unset] [(.int (0 : Int32))])) _
        exact Steps.refl _)
    ·
      rw [hps, if_neg hb0]
      exact c5.trans (by
        refine XS.icmpNo X0.here hx rfl (hb hby at_28) rfl (XT.ii_eq_f hb0) ?_
        show Steps p.tables e below (s₁.setTop (mkF m 31 #[.val (.int p1), .val (.int p2), .val (.int kq), .val (.int par), .val (.int cq), .unset, .unset, .unset, .unset] [])) _
        refine XT.iconstV X0.here hx rfl (1 : Int32) (hb hby at_31) (by decide) ?_
        show Steps p.tables e below (s₁.setTop (mkF m 32 #[.val (.int p1), .val (.int p2), .val (.int kq), .val (.int par), .val (.int cq), .unset, .unset, .unset, .unset] [(.int (1 : Int32))])) _
        refine XS.goto X0.here hx rfl (pc0 := 32) (pc' := 36) rfl (hb hby at_32) (by decide) (by decide) ?_
        show Steps p.tables e below (s₁.setTop (mkF m 36 #[.val (.int p1), .val (.int p2), .val (.int kq), .val (.int par), .val (.int cq), .unset, .unset, .unset, .unset] [(.int (1 : Int32))])) _
        exact Steps.refl _)
  have c7 : Steps p.tables e below S0 (s₁.setTop (mkF m 40 #[.val (.int p1), .val (.int p2), .val (.int kq), .val (.int par), .val (.int cq), .val (.int ps), .unset, .unset, .unset] [(.int cq)])) := c6.trans (by
    refine XS.istore X0.here hx rfl (hb hby at_36) rfl (l' := #[.val (.int p1), .val (.int p2), .val (.int kq), .val (.int par), .val (.int cq), .val (.int ps), .unset, .unset, .unset]) rfl ?_
    show Steps p.tables e below (s₁.setTop (mkF m 38 #[.val (.int p1), .val (.int p2), .val (.int kq), .val (.int par), .val (.int cq), .val (.int ps), .unset, .unset, .unset] [])) _
    refine XS.iload X0.here hx rfl (hb hby at_38) rfl ?_
    show Steps p.tables e below (s₁.setTop (mkF m 40 #[.val (.int p1), .val (.int p2), .val (.int kq), .val (.int par), .val (.int cq), .val (.int ps), .unset, .unset, .unset] [(.int cq)])) _
    exact Steps.refl _)
  obtain ⟨vs, hvs⟩ : ∃ z, z = (if cq = 0 then (0 : Int32) else (1 : Int32)) := ⟨_, rfl⟩
  have c8 : Steps p.tables e below S0 (s₁.setTop (mkF m 48 #[.val (.int p1), .val (.int p2), .val (.int kq), .val (.int par), .val (.int cq), .val (.int ps), .unset, .unset, .unset] [(.int vs)])) := by
    by_cases hc0 : cq = 0
    ·
      rw [hvs, if_pos hc0]
      exact c7.trans (by
        refine XS.ifYes X0.here hx rfl (pc0 := 40) (pc' := 47) rfl (hb hby at_40) rfl (XT.i0_eq_t hc0) (by decide) (by decide) ?_
        show Steps p.tables e below (s₁.setTop (mkF m 47 #[.val (.int p1), .val (.int p2), .val (.int kq), .val (.int par), .val (.int cq), .val (.int ps), .unset, .unset, .unset] [])) _
        refine XT.iconstV X0.here hx rfl (0 : Int32) (hb hby at_47) (by decide) ?_
        show Steps p.tables e below (s₁.setTop (mkF m 48 #[.val (.int p1), .val (.int p2), .val (.int kq), .val (.int par), .val (.int cq), .val (.int ps), .unset, .unset, .unset] [(.int (0 : Int32))])) _
        exact Steps.refl _)
    ·
      rw [hvs, if_neg hc0]
      exact c7.trans (by
        refine XS.ifNo X0.here hx rfl (hb hby at_40) rfl (XT.i0_eq_f hc0) ?_
        show Steps p.tables e below (s₁.setTop (mkF m 43 #[.val (.int p1), .val (.int p2), .val (.int kq), .val (.int par), .val (.int cq), .val (.int ps), .unset, .unset, .unset] [])) _
        refine XT.iconstV X0.here hx rfl (1 : Int32) (hb hby at_43) (by decide) ?_
        show Steps p.tables e below (s₁.setTop (mkF m 44 #[.val (.int p1), .val (.int p2), .val (.int kq), .val (.int par), .val (.int cq), .val (.int ps), .unset, .unset, .unset] [(.int (1 : Int32))])) _
        refine XS.goto X0.here hx rfl (pc0 := 44) (pc' := 48) rfl (hb hby at_44) (by decide) (by decide) ?_
        show Steps p.tables e below (s₁.setTop (mkF m 48 #[.val (.int p1), .val (.int p2), .val (.int kq), .val (.int par), .val (.int cq), .val (.int ps), .unset, .unset, .unset] [(.int (1 : Int32))])) _
        exact Steps.refl _)
  have c9 : Steps p.tables e below S0 (s₁.setTop (mkF m 52 #[.val (.int p1), .val (.int p2), .val (.int kq), .val (.int par), .val (.int cq), .val (.int ps), .val (.int vs), .unset, .unset] [(.int (2 : Int32)), (.int par)])) := c8.trans (by
    refine XS.istore X0.here hx rfl (hb hby at_48) rfl (l' := #[.val (.int p1), .val (.int p2), .val (.int kq), .val (.int par), .val (.int cq), .val (.int ps), .val (.int vs), .unset, .unset]) rfl ?_
    show Steps p.tables e below (s₁.setTop (mkF m 50 #[.val (.int p1), .val (.int p2), .val (.int kq), .val (.int par), .val (.int cq), .val (.int ps), .val (.int vs), .unset, .unset] [])) _
    refine XS.iloadN X0.here hx rfl (hb hby at_50) rfl ?_
    show Steps p.tables e below (s₁.setTop (mkF m 51 #[.val (.int p1), .val (.int p2), .val (.int kq), .val (.int par), .val (.int cq), .val (.int ps), .val (.int vs), .unset, .unset] [(.int par)])) _
    refine XT.iconstV X0.here hx rfl (2 : Int32) (hb hby at_51) (by decide) ?_
    show Steps p.tables e below (s₁.setTop (mkF m 52 #[.val (.int p1), .val (.int p2), .val (.int kq), .val (.int par), .val (.int cq), .val (.int ps), .val (.int vs), .unset, .unset] [(.int (2 : Int32)), (.int par)])) _
    exact Steps.refl _)
  obtain ⟨ex, hex⟩ : ∃ z, z = (if par = (2 : Int32) then (if ps = 0 then (2 : Int32) else (1 : Int32)) else (if vs = 0 then (1 : Int32) else (2 : Int32))) := ⟨_, rfl⟩
  have c10 : Steps p.tables e below S0 (s₁.setTop (mkF m 86 #[.val (.int p1), .val (.int p2), .val (.int kq), .val (.int par), .val (.int cq), .val (.int ps), .val (.int vs), .val (.int ex), .unset] [])) := by
    by_cases hd0 : par = (2 : Int32)
    ·
      by_cases hd1 : ps = 0
      ·
        rw [hex, if_pos hd0, if_pos hd1]
        exact c9.trans (by
          refine XS.icmpNo X0.here hx rfl (hb hby at_52) rfl (XT.ii_ne_f hd0) ?_
          show Steps p.tables e below (s₁.setTop (mkF m 55 #[.val (.int p1), .val (.int p2), .val (.int kq), .val (.int par), .val (.int cq), .val (.int ps), .val (.int vs), .unset, .unset] [])) _
          refine XS.iload X0.here hx rfl (hb hby at_55) rfl ?_
          show Steps p.tables e below (s₁.setTop (mkF m 57 #[.val (.int p1), .val (.int p2), .val (.int kq), .val (.int par), .val (.int cq), .val (.int ps), .val (.int vs), .unset, .unset] [(.int ps)])) _
          refine XS.ifYes X0.here hx rfl (pc0 := 57) (pc' := 66) rfl (hb hby at_57) rfl (XT.i0_eq_t hd1) (by decide) (by decide) ?_
          show Steps p.tables e below (s₁.setTop (mkF m 66 #[.val (.int p1), .val (.int p2), .val (.int kq), .val (.int par), .val (.int cq), .val (.int ps), .val (.int vs), .unset, .unset] [])) _
          refine XT.iconstV X0.here hx rfl (2 : Int32) (hb hby at_66) (by decide) ?_
          show Steps p.tables e below (s₁.setTop (mkF m 67 #[.val (.int p1), .val (.int p2), .val (.int kq), .val (.int par), .val (.int cq), .val (.int ps), .val (.int vs), .unset, .unset] [(.int (2 : Int32))])) _
          refine XS.istore X0.here hx rfl (hb hby at_67) rfl (l' := #[.val (.int p1), .val (.int p2), .val (.int kq), .val (.int par), .val (.int cq), .val (.int ps), .val (.int vs), .val (.int (2 : Int32)), .unset]) rfl ?_
          show Steps p.tables e below (s₁.setTop (mkF m 69 #[.val (.int p1), .val (.int p2), .val (.int kq), .val (.int par), .val (.int cq), .val (.int ps), .val (.int vs), .val (.int (2 : Int32)), .unset] [])) _
          refine XS.goto X0.here hx rfl (pc0 := 69) (pc' := 86) rfl (hb hby at_69) (by decide) (by decide) ?_
          show Steps p.tables e below (s₁.setTop (mkF m 86 #[.val (.int p1), .val (.int p2), .val (.int kq), .val (.int par), .val (.int cq), .val (.int ps), .val (.int vs), .val (.int (2 : Int32)), .unset] [])) _
          exact Steps.refl _)
      ·
        rw [hex, if_pos hd0, if_neg hd1]
        exact c9.trans (by
          refine XS.icmpNo X0.here hx rfl (hb hby at_52) rfl (XT.ii_ne_f hd0) ?_
          show Steps p.tables e below (s₁.setTop (mkF m 55 #[.val (.int p1), .val (.int p2), .val (.int kq), .val (.int par), .val (.int cq), .val (.int ps), .val (.int vs), .unset, .unset] [])) _
          refine XS.iload X0.here hx rfl (hb hby at_55) rfl ?_
          show Steps p.tables e below (s₁.setTop (mkF m 57 #[.val (.int p1), .val (.int p2), .val (.int kq), .val (.int par), .val (.int cq), .val (.int ps), .val (.int vs), .unset, .unset] [(.int ps)])) _
          refine XS.ifNo X0.here hx rfl (hb hby at_57) rfl (XT.i0_eq_f hd1) ?_
          show Steps p.tables e below (s₁.setTop (mkF m 60 #[.val (.int p1), .val (.int p2), .val (.int kq), .val (.int par), .val (.int cq), .val (.int ps), .val (.int vs), .unset, .unset] [])) _
          refine XT.iconstV X0.here hx rfl (1 : Int32) (hb hby at_60) (by decide) ?_
          show Steps p.tables e below (s₁.setTop (mkF m 61 #[.val (.int p1), .val (.int p2), .val (.int kq), .val (.int par), .val (.int cq), .val (.int ps), .val (.int vs), .unset, .unset] [(.int (1 : Int32))])) _
          refine XS.istore X0.here hx rfl (hb hby at_61) rfl (l' := #[.val (.int p1), .val (.int p2), .val (.int kq), .val (.int par), .val (.int cq), .val (.int ps), .val (.int vs), .val (.int (1 : Int32)), .unset]) rfl ?_
          show Steps p.tables e below (s₁.setTop (mkF m 63 #[.val (.int p1), .val (.int p2), .val (.int kq), .val (.int par), .val (.int cq), .val (.int ps), .val (.int vs), .val (.int (1 : Int32)), .unset] [])) _
          refine XS.goto X0.here hx rfl (pc0 := 63) (pc' := 86) rfl (hb hby at_63) (by decide) (by decide) ?_
          show Steps p.tables e below (s₁.setTop (mkF m 86 #[.val (.int p1), .val (.int p2), .val (.int kq), .val (.int par), .val (.int cq), .val (.int ps), .val (.int vs), .val (.int (1 : Int32)), .unset] [])) _
          exact Steps.refl _)
    ·
      by_cases hd1 : vs = 0
      ·
        rw [hex, if_neg hd0, if_pos hd1]
        exact c9.trans (by
          refine XS.icmpYes X0.here hx rfl (pc0 := 52) (pc' := 72) rfl (hb hby at_52) rfl (XT.ii_ne_t hd0) (by decide) (by decide) ?_
          show Steps p.tables e below (s₁.setTop (mkF m 72 #[.val (.int p1), .val (.int p2), .val (.int kq), .val (.int par), .val (.int cq), .val (.int ps), .val (.int vs), .unset, .unset] [])) _
          refine XS.iload X0.here hx rfl (hb hby at_72) rfl ?_
          show Steps p.tables e below (s₁.setTop (mkF m 74 #[.val (.int p1), .val (.int p2), .val (.int kq), .val (.int par), .val (.int cq), .val (.int ps), .val (.int vs), .unset, .unset] [(.int vs)])) _
          refine XS.ifYes X0.here hx rfl (pc0 := 74) (pc' := 83) rfl (hb hby at_74) rfl (XT.i0_eq_t hd1) (by decide) (by decide) ?_
          show Steps p.tables e below (s₁.setTop (mkF m 83 #[.val (.int p1), .val (.int p2), .val (.int kq), .val (.int par), .val (.int cq), .val (.int ps), .val (.int vs), .unset, .unset] [])) _
          refine XT.iconstV X0.here hx rfl (1 : Int32) (hb hby at_83) (by decide) ?_
          show Steps p.tables e below (s₁.setTop (mkF m 84 #[.val (.int p1), .val (.int p2), .val (.int kq), .val (.int par), .val (.int cq), .val (.int ps), .val (.int vs), .unset, .unset] [(.int (1 : Int32))])) _
          refine XS.istore X0.here hx rfl (hb hby at_84) rfl (l' := #[.val (.int p1), .val (.int p2), .val (.int kq), .val (.int par), .val (.int cq), .val (.int ps), .val (.int vs), .val (.int (1 : Int32)), .unset]) rfl ?_
          show Steps p.tables e below (s₁.setTop (mkF m 86 #[.val (.int p1), .val (.int p2), .val (.int kq), .val (.int par), .val (.int cq), .val (.int ps), .val (.int vs), .val (.int (1 : Int32)), .unset] [])) _
          exact Steps.refl _)
      ·
        rw [hex, if_neg hd0, if_neg hd1]
        exact c9.trans (by
          refine XS.icmpYes X0.here hx rfl (pc0 := 52) (pc' := 72) rfl (hb hby at_52) rfl (XT.ii_ne_t hd0) (by decide) (by decide) ?_
          show Steps p.tables e below (s₁.setTop (mkF m 72 #[.val (.int p1), .val (.int p2), .val (.int kq), .val (.int par), .val (.int cq), .val (.int ps), .val (.int vs), .unset, .unset] [])) _
          refine XS.iload X0.here hx rfl (hb hby at_72) rfl ?_
          show Steps p.tables e below (s₁.setTop (mkF m 74 #[.val (.int p1), .val (.int p2), .val (.int kq), .val (.int par), .val (.int cq), .val (.int ps), .val (.int vs), .unset, .unset] [(.int vs)])) _
          refine XS.ifNo X0.here hx rfl (hb hby at_74) rfl (XT.i0_eq_f hd1) ?_
          show Steps p.tables e below (s₁.setTop (mkF m 77 #[.val (.int p1), .val (.int p2), .val (.int kq), .val (.int par), .val (.int cq), .val (.int ps), .val (.int vs), .unset, .unset] [])) _
          refine XT.iconstV X0.here hx rfl (2 : Int32) (hb hby at_77) (by decide) ?_
          show Steps p.tables e below (s₁.setTop (mkF m 78 #[.val (.int p1), .val (.int p2), .val (.int kq), .val (.int par), .val (.int cq), .val (.int ps), .val (.int vs), .unset, .unset] [(.int (2 : Int32))])) _
          refine XS.istore X0.here hx rfl (hb hby at_78) rfl (l' := #[.val (.int p1), .val (.int p2), .val (.int kq), .val (.int par), .val (.int cq), .val (.int ps), .val (.int vs), .val (.int (2 : Int32)), .unset]) rfl ?_
          show Steps p.tables e below (s₁.setTop (mkF m 80 #[.val (.int p1), .val (.int p2), .val (.int kq), .val (.int par), .val (.int cq), .val (.int ps), .val (.int vs), .val (.int (2 : Int32)), .unset] [])) _
          refine XS.goto X0.here hx rfl (pc0 := 80) (pc' := 86) rfl (hb hby at_80) (by decide) (by decide) ?_
          show Steps p.tables e below (s₁.setTop (mkF m 86 #[.val (.int p1), .val (.int p2), .val (.int kq), .val (.int par), .val (.int cq), .val (.int ps), .val (.int vs), .val (.int (2 : Int32)), .unset] [])) _
          exact Steps.refl _)
  have c11 : Steps p.tables e below S0 (s₁.setTop (mkF m 91 #[.val (.int p1), .val (.int p2), .val (.int kq), .val (.int par), .val (.int cq), .val (.int ps), .val (.int vs), .val (.int ex), .unset] [(.int vs), (.int ps), (.int par)])) := c10.trans (by
    refine XS.iloadN X0.here hx rfl (hb hby at_86) rfl ?_
    show Steps p.tables e below (s₁.setTop (mkF m 87 #[.val (.int p1), .val (.int p2), .val (.int kq), .val (.int par), .val (.int cq), .val (.int ps), .val (.int vs), .val (.int ex), .unset] [(.int par)])) _
    refine XS.iload X0.here hx rfl (hb hby at_87) rfl ?_
    show Steps p.tables e below (s₁.setTop (mkF m 89 #[.val (.int p1), .val (.int p2), .val (.int kq), .val (.int par), .val (.int cq), .val (.int ps), .val (.int vs), .val (.int ex), .unset] [(.int ps), (.int par)])) _
    refine XS.iload X0.here hx rfl (hb hby at_89) rfl ?_
    show Steps p.tables e below (s₁.setTop (mkF m 91 #[.val (.int p1), .val (.int p2), .val (.int kq), .val (.int par), .val (.int cq), .val (.int ps), .val (.int vs), .val (.int ex), .unset] [(.int vs), (.int ps), (.int par)])) _
    exact Steps.refl _)
  obtain ⟨_, _, ⟨T12, L12, k12, n12⟩, -, X12, hQ12, st12⟩ := Jvm.LawKit.callS X0 hx (y := (⟨"com/example/skewroot/skewroot/index/TrieFormat", "splitKind", "(IZZ)I"⟩ : MethodName)) hown (mvT hZ (hw _ (List.mem_of_getElem? (i := 1) rfl))) (mvT hZ (hw _ (List.mem_of_getElem? (i := 2) rfl))) (mvT hZ (hw _ (List.mem_of_getElem? (i := 3) rfl))) (mvT hZ (hw _ (List.mem_of_getElem? (i := 4) rfl))) (by decide) (backOf (W := 0) (rm1 l Z a0 hw [] par ps vs h0 n0 Z0) hZ (hw _ (List.mem_of_getElem? (i := 4) rfl)) (hw _ (List.mem_of_getElem? (i := 3) rfl)) (by decide) (by decide)) (g := (mkF m 91 #[.val (.int p1), .val (.int p2), .val (.int kq), .val (.int par), .val (.int cq), .val (.int ps), .val (.int vs), .val (.int ex), .unset] [(.int vs), (.int ps), (.int par)])) rfl (by rw [hml]; rfl) (argsL := [(.int par), (.int ps), (.int vs)]) (rest := []) (lenOf own_pd__IZZ_I rfl) rfl (by show 2 * 0 + _ ≤ _; exact Nat.le_of_eq rfl) (hb hby at_91) (fun _ _ => ⟨rfl, e0, (by decide : 0 + 0 ≤ _), (by decide : 0 + 0 ≤ _)⟩)
  dsimp only [Pt.U, Pt.locs, Pt.cells, Pt.slots] at X12 hQ12 st12
  obtain ⟨Lc12, hR12, l12, y12, z12⟩ := hQ12
  subst l12 y12 z12
  obtain ⟨rfl, Nq12, eh⟩ := hR12
  have N12 := Fr.app N0 Nq12
  have c13 : Steps p.tables e below S0 (T12.setTop (mkF m 94 #[.val (.int p1), .val (.int p2), .val (.int kq), .val (.int par), .val (.int cq), .val (.int ps), .val (.int vs), .val (.int ex), .unset] [(.int (own_split par ps vs))])) := c11.trans (st12 _ (Steps.refl _))
  have c14 : Steps p.tables e below S0 (T12.setTop (mkF m 108 #[.val (.int p1), .val (.int p2), .val (.int kq), .val (.int par), .val (.int cq), .val (.int ps), .val (.int vs), .val (.int ex), .val (.int (own_split par ps vs))] [(.int (1 : Int32))])) := c13.trans (by
    refine XS.istore X12.here hx rfl (hb hby at_94) rfl (l' := #[.val (.int p1), .val (.int p2), .val (.int kq), .val (.int par), .val (.int cq), .val (.int ps), .val (.int vs), .val (.int ex), .val (.int (own_split par ps vs))]) rfl ?_
    show Steps p.tables e below (T12.setTop (mkF m 96 #[.val (.int p1), .val (.int p2), .val (.int kq), .val (.int par), .val (.int cq), .val (.int ps), .val (.int vs), .val (.int ex), .val (.int (own_split par ps vs))] [])) _
    refine XS.iload X12.here hx rfl (hb hby at_96) rfl ?_
    show Steps p.tables e below (T12.setTop (mkF m 98 #[.val (.int p1), .val (.int p2), .val (.int kq), .val (.int par), .val (.int cq), .val (.int ps), .val (.int vs), .val (.int ex), .val (.int (own_split par ps vs))] [(.int (own_split par ps vs))])) _
    refine XS.iload X12.here hx rfl (hb hby at_98) rfl ?_
    show Steps p.tables e below (T12.setTop (mkF m 100 #[.val (.int p1), .val (.int p2), .val (.int kq), .val (.int par), .val (.int cq), .val (.int ps), .val (.int vs), .val (.int ex), .val (.int (own_split par ps vs))] [(.int ex), (.int (own_split par ps vs))])) _
    refine XS.icmpNo X12.here hx rfl (hb hby at_100) rfl (XT.ii_ne_f (by rw [hex, hvs, hps, hpar, hkq, hcq]; exact own_key (own_three p1) (own_three p2))) ?_
    show Steps p.tables e below (T12.setTop (mkF m 103 #[.val (.int p1), .val (.int p2), .val (.int kq), .val (.int par), .val (.int cq), .val (.int ps), .val (.int vs), .val (.int ex), .val (.int (own_split par ps vs))] [])) _
    refine XT.iconstV X12.here hx rfl (1 : Int32) (hb hby at_103) (by decide) ?_
    show Steps p.tables e below (T12.setTop (mkF m 104 #[.val (.int p1), .val (.int p2), .val (.int kq), .val (.int par), .val (.int cq), .val (.int ps), .val (.int vs), .val (.int ex), .val (.int (own_split par ps vs))] [(.int (1 : Int32))])) _
    refine XS.goto X12.here hx rfl (pc0 := 104) (pc' := 108) rfl (hb hby at_104) (by decide) (by decide) ?_
    show Steps p.tables e below (T12.setTop (mkF m 108 #[.val (.int p1), .val (.int p2), .val (.int kq), .val (.int par), .val (.int cq), .val (.int ps), .val (.int vs), .val (.int ex), .val (.int (own_split par ps vs))] [(.int (1 : Int32))])) _
    exact Steps.refl _)
  obtain ⟨fs, hr, hrun, hended, hW, hsame⟩ := X12.leave (v := some (.int (1 : Int32))) (fun h => by rw [Bd.returns] at h; cases h)
  refine ⟨_, _, pre0 _ ?_, hrun, hended, _, _, rfl, ?_, ⟨_, rfl⟩, hW, hsame.mono (by decide) (by decide)⟩
  · rw [← hS0]
    exact c14.trans (retN X12 hx (t := .boolean) Bd.returns (by simp) (hb hby at_108) hr)
  · show Qrm0 Z p1 p2 h0 n0 _ T12.heap _
    rw [eh]
    exact ⟨rfl, N12⟩
set_option maxRecDepth 65536 in
set_option maxHeartbeats 40000000 in
theorem comes_1 {Post : Tables → Env → Array Value → State → Outcome → State → Prop} (hpost : ∀ tb e args s v u, (limb_1_1.after args s (.returned v) u = true ∧ limb_1_2.after args s (.returned v) u = true ∧ True) → FrameEnd s (.returned v) u (Jvm.fieldLocs frame_1_writes args s ++ Jvm.arrayLocs frame_1_arrays args s ++ Jvm.staticLocs frame_1_statics s) 0 0 → Post tb e args s (.returned v) u) :
    ArmFor flags0 classFile x code maxLocals ret World_1 tables_1 room_1 Calls_1 rest_1 Pre_1 Post := by
  intro l hfl _ _ p e ha hc hk s m args below hf hA hF happ hP
  obtain ⟨hcalls, hrest, hpre⟩ := hP
  obtain ⟨-, -, -, hnamed, -, -, -, hat⟩ := (Spec.applies_iff hf).mp happ
  obtain ⟨hg, hn⟩ := and_e (Cond.before_iff.mp (show (Jvm.Cond.and given_1 narrow_1).before args s = true from hpre))
  obtain ⟨hcount, g0⟩ := and_e hg
  obtain ⟨k0, g1⟩ := and_e g0
  obtain ⟨w0, w1, rfl⟩ : ∃ w0 w1 : Value, args = #[w0, w1] := by
    have hs : args.size = 2 := by simpa [Cond.value, given_1] using hcount
    obtain ⟨L⟩ := args
    match L, hs with
    | [w0, w1], _ => exact ⟨w0, w1, rfl⟩
  have hw := fun d (hd : d ∈ tables_1) => atoms_spec (ws := Jvm.Cond.code x code maxLocals ret :: tables_1) hat d (List.mem_cons_of_mem _ hd)
  obtain ⟨i0, e0⟩ := is_v k0
  obtain rfl : w0 = (.int i0) := Option.some.inj e0
  obtain ⟨i1, e1⟩ := is_v g1
  obtain rfl : w1 = (.int i1) := Option.some.inj e1
  obtain ⟨n, o, h1, h2, h3, _, L, rfl, ⟨rfl, N⟩, hq⟩ := rm0 l s _ hw tables_1 i0 i1 s.heap s.heap.size (Nat.le_refl _) p e ha hc hk s m _ below hf ((Spec.applies_iff_loose hf).mp happ).1 ⟨rfl, State.Warmed39.refl s, rfl⟩ trivial
  refine ⟨n, _, h1, h2, h3, hpost _ _ _ _ _ _ ⟨Cond.after_iff.mpr rfl, Cond.after_iff.mpr (eq_i res_at (Term.int_eval (1)) rfl), trivial⟩ ⟨hq.1, hq.2.1, (hq.2.2.sift fun y hy => Or.inr (N y hy)).mono (by decide) (by decide)⟩⟩
theorem main_1_1 : Claimed_1_1 := comes_1 fun _ _ _ _ _ _ h hF => ⟨h.1, hF⟩
theorem main_1_2 : Claimed_1_2 := comes_1 fun _ _ _ _ _ _ h hF => ⟨h.2.1, hF⟩
end Jvm.Pilot.@@N@@
namespace Jvm.Pilot.@@N@@
open Jvm Jvm.ClassFile Sem Op Lib Jvm.Free Jvm.Stand Jvm.Pilot.@@N@@.Jvm.D
/-! MADE BY PROGRAM (witnessworld.py) out of the Statement's table words and the real class files: 7 classes; the members and pool entries that the words name. The judged class is class 1, her method 1. -/
namespace start1
open Jvm.ClassFile
def u (s : String) : CpInfo := .utf8 (stringToUtf16 s)
/-- a pool by its gaps: so many unusable entries, then the entry; so many at the end -/
def gap : Nat → List CpInfo → List CpInfo
  | 0, r => r
  | n + 1, r => .unusable :: gap n r
def poolList (es : List (Nat × CpInfo)) (last : Nat) : List CpInfo := es.foldr (fun e r => gap e.1 (e.2 :: r)) (gap last [])
def pool (es : List (Nat × CpInfo)) (last : Nat) : Array CpInfo := ⟨poolList es last⟩
def fileOf (pool : Array CpInfo) (this : Nat) (attrs : Array Attribute := #[]) (ms : Array MethodInfo := #[]) (fl : Nat := 33) (sup : Nat := 0) (ifs : Array Nat := #[]) (fds : Array FieldInfo := #[]) : ClassFile where
  minorVersion := 0
  majorVersion := 65
  constantPool := pool
  accessFlags := fl
  thisClass := this
  superClass := sup
  interfaces := ifs
  fields := fds
  methods := ms
  attributes := attrs
def plain (name : String) (sup : Option ClassId) : Class where
  name := name
  kind := .ordinary
  loader := none
  accessFlags := 33
  super := sup
  interfaces := #[]
  cf := none
  fields := #[]
  methods := #[]
  instanceTypes := #[]
  staticTypes := #[]
  resolved := #[]
  callSites := []
  init := .initialized
  statics := none
  mirror := none

def pool0 : Array CpInfo := pool [(5, u "<init>"), (0, u "()V"), (1, .class_ 10), (1, u "java/lang/Object")] 113

def k0m0 : Method := { name := "<init>", desc := "()V", sig := { parameters := [], returnType := none }, accessFlags := 1, code := none }
/-- java/lang/Object -/
def k0 : Class := { plain "java/lang/Object" none with
  accessFlags := 33
  interfaces := #[]
  cf := some (fileOf pool0 8 #[] #[{ accessFlags := 1, nameIndex := 5, descriptorIndex := 6, attributes := #[] }] 33 0 #[] #[])
  fields := #[]
  methods := #[k0m0]
  instanceTypes := #[]
  staticTypes := #[]
  resolved := Array.replicate 124 none
  statics := none }

def pool1 : Array CpInfo := pool [(2, .class_ 4), (1, u "java/lang/Object"), (0, u "<init>"), (0, u "()V"), (0, .integer 2147483647), (0, .methodref 9 10), (0, .class_ 11), (0, .nameAndType 12 13), (0, u "com/example/skewroot/skewroot/index/TrieFormat"), (0, u "splitKind"), (0, u "(IZZ)I"), (0, .class_ 15), (0, u "com/example/skewroot/skewroot/index/TrieFormatSplitKindPinLaw"), (2, u "law"), (0, u "(II)Z")] 3

def k1m0 : Method := { name := "<init>", desc := "()V", sig := { parameters := [], returnType := none }, accessFlags := 2, code := none }
def k1c1 : Code := { maxStack := 3, maxLocals := 9, code := code, exceptionTable := #[], attributes := #[] }
def k1m1 : Method := { name := "law", desc := "(II)Z", sig := { parameters := [.int, .int], returnType := some .boolean }, accessFlags := 9, code := some k1c1 }
/-- com/example/skewroot/skewroot/index/TrieFormatSplitKindPinLaw -/
def k1 : Class := { plain "com/example/skewroot/skewroot/index/TrieFormatSplitKindPinLaw" (some 0) with
  accessFlags := 49
  interfaces := #[]
  cf := some (fileOf pool1 14 #[] #[{ accessFlags := 2, nameIndex := 5, descriptorIndex := 6, attributes := #[] }, { accessFlags := 9, nameIndex := 18, descriptorIndex := 19, attributes := #[] }] 49 2 #[] #[])
  fields := #[]
  methods := #[k1m0, k1m1]
  instanceTypes := #[]
  staticTypes := #[]
  resolved := Array.replicate 23 none
  statics := none }

def pool2 : Array CpInfo := pool [(4, .class_ 6), (1, u "java/lang/Object"), (0, u "<init>"), (0, u "()V"), (0, .class_ 10), (0, u "com/example/skewroot/skewroot/index/TrieFormat"), (60, u "MAGIC"), (0, u "[B"), (8, u "THIRD_LAYOUT_MAGIC"), (2, u "SECOND_LAYOUT_MAGIC"), (2, u "FIRST_LAYOUT_MAGIC"), (17, .class_ 107), (1, u "com/example/skewroot/skewroot/index/TrieFormat$Past"), (18, u "HEADER_BYTES"), (0, u "I"), (2, u "TRAILER_BYTES"), (0, u "FIRST_LAYOUT"), (2, u "SECOND_LAYOUT"), (1, u "THIRD_LAYOUT"), (1, u "LAYOUT"), (1, u "MAX_FIELD_BITS"), (1, u "LEAF"), (1, u "PATH_NODE"), (0, u "VALUE_NODE"), (0, u "SIGNATURE_BYTES"), (1, u "VALUE_BYTES"), (0, u "VARINT_PAST_LIMIT"), (1, u "VARINT_TOO_LONG"), (1, u "MAX_PATH_BYTES"), (3, u "splitKind"), (0, u "(IZZ)I")] 35

def k2m0 : Method := { name := "<init>", desc := "()V", sig := { parameters := [], returnType := none }, accessFlags := 2, code := none }
def k2c1 : Code := { maxStack := 2, maxLocals := 5, code := prog_92_method_2_code, exceptionTable := #[], attributes := #[] }
def k2m1 : Method := { name := "splitKind", desc := "(IZZ)I", sig := { parameters := [.int, .boolean, .boolean], returnType := some .int }, accessFlags := 8, code := some k2c1 }
/-- com/example/skewroot/skewroot/index/TrieFormat -/
def k2 : Class := { plain "com/example/skewroot/skewroot/index/TrieFormat" (some 0) with
  accessFlags := 48
  interfaces := #[]
  cf := some (fileOf pool2 9 #[.nestMembers #[105]] #[{ accessFlags := 2, nameIndex := 7, descriptorIndex := 8, attributes := #[] }, { accessFlags := 8, nameIndex := 157, descriptorIndex := 158, attributes := #[] }] 48 4 #[] #[{ accessFlags := 24, nameIndex := 131, descriptorIndex := 127, attributes := #[] }, { accessFlags := 24, nameIndex := 134, descriptorIndex := 127, attributes := #[] }, { accessFlags := 24, nameIndex := 136, descriptorIndex := 127, attributes := #[] }, { accessFlags := 24, nameIndex := 138, descriptorIndex := 127, attributes := #[] }, { accessFlags := 24, nameIndex := 71, descriptorIndex := 72, attributes := #[] }, { accessFlags := 24, nameIndex := 81, descriptorIndex := 72, attributes := #[] }, { accessFlags := 24, nameIndex := 84, descriptorIndex := 72, attributes := #[] }, { accessFlags := 24, nameIndex := 87, descriptorIndex := 72, attributes := #[] }, { accessFlags := 24, nameIndex := 126, descriptorIndex := 127, attributes := #[] }, { accessFlags := 24, nameIndex := 130, descriptorIndex := 127, attributes := #[] }, { accessFlags := 24, nameIndex := 140, descriptorIndex := 127, attributes := #[] }, { accessFlags := 24, nameIndex := 142, descriptorIndex := 127, attributes := #[] }, { accessFlags := 24, nameIndex := 144, descriptorIndex := 127, attributes := #[] }, { accessFlags := 24, nameIndex := 145, descriptorIndex := 127, attributes := #[] }, { accessFlags := 24, nameIndex := 146, descriptorIndex := 127, attributes := #[] }, { accessFlags := 24, nameIndex := 148, descriptorIndex := 127, attributes := #[] }, { accessFlags := 24, nameIndex := 149, descriptorIndex := 127, attributes := #[] }, { accessFlags := 24, nameIndex := 151, descriptorIndex := 127, attributes := #[] }, { accessFlags := 24, nameIndex := 153, descriptorIndex := 127, attributes := #[] }])
  fields := #[{ name := "FIRST_LAYOUT", type := .int, accessFlags := 24, slot := 0, constantValue := 0 }, { name := "SECOND_LAYOUT", type := .int, accessFlags := 24, slot := 1, constantValue := 0 }, { name := "THIRD_LAYOUT", type := .int, accessFlags := 24, slot := 2, constantValue := 0 }, { name := "LAYOUT", type := .int, accessFlags := 24, slot := 3, constantValue := 0 }, { name := "MAGIC", type := (.array .byte), accessFlags := 24, slot := 4, constantValue := 0 }, { name := "THIRD_LAYOUT_MAGIC", type := (.array .byte), accessFlags := 24, slot := 5, constantValue := 0 }, { name := "SECOND_LAYOUT_MAGIC", type := (.array .byte), accessFlags := 24, slot := 6, constantValue := 0 }, { name := "FIRST_LAYOUT_MAGIC", type := (.array .byte), accessFlags := 24, slot := 7, constantValue := 0 }, { name := "HEADER_BYTES", type := .int, accessFlags := 24, slot := 8, constantValue := 0 }, { name := "TRAILER_BYTES", type := .int, accessFlags := 24, slot := 9, constantValue := 0 }, { name := "MAX_FIELD_BITS", type := .int, accessFlags := 24, slot := 10, constantValue := 0 }, { name := "LEAF", type := .int, accessFlags := 24, slot := 11, constantValue := 0 }, { name := "PATH_NODE", type := .int, accessFlags := 24, slot := 12, constantValue := 0 }, { name := "VALUE_NODE", type := .int, accessFlags := 24, slot := 13, constantValue := 0 }, { name := "SIGNATURE_BYTES", type := .int, accessFlags := 24, slot := 14, constantValue := 0 }, { name := "VALUE_BYTES", type := .int, accessFlags := 24, slot := 15, constantValue := 0 }, { name := "VARINT_PAST_LIMIT", type := .int, accessFlags := 24, slot := 16, constantValue := 0 }, { name := "VARINT_TOO_LONG", type := .int, accessFlags := 24, slot := 17, constantValue := 0 }, { name := "MAX_PATH_BYTES", type := .int, accessFlags := 24, slot := 18, constantValue := 0 }]
  methods := #[k2m0, k2m1]
  instanceTypes := #[]
  staticTypes := #[.int, .int, .int, .int, (.array .byte), (.array .byte), (.array .byte), (.array .byte), .int, .int, .int, .int, .int, .int, .int, .int, .int, .int, .int]
  resolved := Array.replicate 194 none
  statics := none }

def pool3 : Array CpInfo := pool [(1, u "java/lang/Cloneable"), (0, .class_ 1), (0, u "java/lang/Object"), (0, .class_ 3)] 3

/-- java/lang/Cloneable -/
def k3 : Class := { plain "java/lang/Cloneable" (some 0) with
  accessFlags := 1537
  interfaces := #[]
  cf := some (fileOf pool3 2 #[] #[] 1537 4 #[] #[])
  fields := #[]
  methods := #[]
  instanceTypes := #[]
  staticTypes := #[]
  resolved := Array.replicate 8 none
  statics := none }

def pool4 : Array CpInfo := pool [(1, u "java/io/Serializable"), (0, .class_ 1), (0, u "java/lang/Object"), (0, .class_ 3)] 3

/-- java/io/Serializable -/
def k4 : Class := { plain "java/io/Serializable" (some 0) with
  accessFlags := 1537
  interfaces := #[]
  cf := some (fileOf pool4 2 #[] #[] 1537 4 #[] #[])
  fields := #[]
  methods := #[]
  instanceTypes := #[]
  staticTypes := #[]
  resolved := Array.replicate 8 none
  statics := none }

/-- the primitive byte -/
def k5 : Class := { plain "byte" none with kind := .primitive 'B', accessFlags := 0x411 }
/-- [B -/
def k6 : Class := { plain "[B" (some 0) with kind := .array 5 .byte, interfaces := #[3, 4], accessFlags := 1041 }

def heap : Heap := #[]
def classes : Array Class := #[k0, k1, k2, k3, k4, k5, k6]
def interned : List (Array UInt16 × Addr) := []
def slotsUsed : Nat := 0
def theMethod : MethodId := ⟨1, 1⟩
def args0 : Array Value := #[.int 5, .int 7]
def aboutOver (below : List Frame) : State where
  vm := { classes := classes, interned := interned.toArray }
  heap := heap
  slotsUsed := slotsUsed
  threads := #[{ frames := .invoking theMethod args0 :: below }]
def below0 : List Frame := [.native { method := ⟨0, 0⟩, args := #[] }]
def about1 : State := aboutOver below0
def p0 : Program := .bare "" "" ""
def e0 : Env := launch0.env 0 0 0
theorem w_frames : about1.frames = Frame.invoking theMethod args0 :: below0 := rfl
set_option maxRecDepth 65536 in
theorem w_args : argsFit about1.vm theMethod args0 = true := by decide +kernel
set_option maxRecDepth 65536 in
theorem w_heap : heapFits about1 = true := by decide +kernel
set_option maxRecDepth 65536 in
theorem w_runnable : about1.curStatus? = some .runnable := by decide +kernel
set_option maxRecDepth 65536 in
theorem w_alone : about1.alone = true := by decide +kernel
set_option maxRecDepth 65536 in
theorem w_named : about1.methodNamed? x = some theMethod := by decide +kernel
set_option maxRecDepth 65536 in
theorem w_hears : about1.hears theMethod below0 = true := by decide +kernel
set_option maxRecDepth 65536 in
theorem w_ripe : about1.ripe theMethod args0 below0 = true := by decide +kernel
theorem w_running : about1.status = .running := rfl
set_option maxRecDepth 65536 in
theorem w_room : about1.hasRoom e0.platform room_1 = true :=
  launch0.hasRoom_least _ room_1 (by decide +kernel) (by decide +kernel) (by decide +kernel) (by decide +kernel) (by decide +kernel) (by decide +kernel)
theorem allAtoms_all (ts : List Jvm.Cond) (a : Array Jvm.Value) (st : Jvm.State) : (allAtoms ts).before a st = ts.all (fun c => c.before a st) := by
  induction ts with
  | nil => rfl
  | cons c t ih =>
    show (Jvm.Cond.and c (allAtoms t)).before a st = _
    rw [Jvm.Cond.before_and, ih, List.all_cons]
def words1 : List Jvm.Cond := Jvm.Cond.code x code maxLocals ret :: tables_1
/-- a 'code' word, met by the world's own term for the bytes: nothing is compared byte by byte -/
theorem code_word {y : MethodName} {bytes : ByteArray} {mx : Nat} {rt : Option FieldType} {a : Array Value} {s : State} {m : MethodId} {meth : Method} {c : Code} (h1 : s.methodNamed? y = some m) (h2 : s.vm.method? m = some meth) (h3 : meth.code = some c) (h4 : c.code = bytes)
    (h5 : (c.maxLocals == mx && c.exceptionTable.isEmpty && decide (c.maxStack ≤ mostOperands) && decide (meth.sig.returnType = rt) && !meth.locks && decide (parseMethodDescriptor y.desc = some meth.sig)) = true) : (Jvm.Cond.code y bytes mx rt).before a s = true := by
  simp only [Bool.and_eq_true, beq_iff_eq, Bool.not_eq_true', decide_eq_true_eq] at h5
  obtain ⟨⟨⟨⟨⟨g1, g2⟩, g3⟩, g4⟩, g5⟩, g6⟩ := h5
  simp [Cond.before, Cond.holds, Cond.value, h1, h2, h3, h4, g1, g2, g3, g4, g5, g6]
def isCode : Jvm.Cond → Bool
  | .code _ _ _ _ => true
  | _ => false
theorem all_split {L : List Jvm.Cond} {P : Jvm.Cond → Bool} (h1 : L.all (fun c => isCode c || P c) = true) (h2 : ∀ c ∈ L.filter isCode, P c = true) : L.all P = true := by
  refine List.all_eq_true.mpr fun c hc => ?_
  have h := List.all_eq_true.mp h1 c hc
  rcases Bool.eq_false_or_eq_true (isCode c) with hi | hi
  · exact h2 c (List.mem_filter.mpr ⟨hc, hi⟩)
  · simpa [hi] using h
set_option maxRecDepth 65536 in
theorem w_c0 : (Jvm.Cond.code x code maxLocals ret).before args0 about1 = true := code_word (m := ⟨1, 1⟩) (meth := k1m1) (c := k1c1) (by decide +kernel) rfl rfl rfl (by decide +kernel)
set_option maxRecDepth 65536 in
theorem w_c1 : (Jvm.Cond.code ({ cls := "com/example/skewroot/skewroot/index/TrieFormat", name := "splitKind", desc := "(IZZ)I" } : Jvm.MethodName) prog_92_method_2_code (5 : Nat) (Option.some Jvm.ClassFile.FieldType.int)).before args0 about1 = true := code_word (m := ⟨2, 1⟩) (meth := k2m1) (c := k2c1) (by decide +kernel) rfl rfl rfl (by decide +kernel)
def codes1 : List Jvm.Cond := [Jvm.Cond.code x code maxLocals ret, Jvm.Cond.code ({ cls := "com/example/skewroot/skewroot/index/TrieFormat", name := "splitKind", desc := "(IZZ)I" } : Jvm.MethodName) prog_92_method_2_code (5 : Nat) (Option.some Jvm.ClassFile.FieldType.int)]
set_option maxRecDepth 65536 in
theorem codes_eq : words1.filter isCode = codes1 := rfl
theorem w_codes : ∀ c ∈ words1.filter isCode, c.before args0 about1 = true := by
  rw [codes_eq]
  intro c hc
  simp only [codes1, List.mem_cons, List.not_mem_nil, or_false] at hc
  rcases hc with rfl | rfl
  · exact w_c0
  · exact w_c1
set_option maxRecDepth 65536 in
theorem w_t1 : words1.all (fun c => isCode c || c.before args0 about1) = true := by decide +kernel
theorem w_tables : (allAtoms (Jvm.Cond.code x code maxLocals ret :: tables_1)).before args0 about1 = true := by
  rw [allAtoms_all]
  show words1.all (fun c => c.before args0 about1) = true
  refine all_split ?_ w_codes
  rw [w_t1]
set_option maxRecDepth 65536 in
theorem w_case : (Jvm.Cond.and given_1 narrow_1).before args0 about1 = true := by decide +kernel
theorem w_applies : (headSpec (Jvm.Cond.code x code maxLocals ret :: tables_1) room_1).applies x e0.platform about1 = true :=
  (Spec.applies_iff w_frames).mpr ⟨w_running, w_runnable, w_alone, w_named, w_hears, w_ripe, w_room, w_tables⟩
theorem atStart : AtStart classFile x code maxLocals ret World_1 tables_1 room_1 Calls_1 rest_1 Pre_1 launch0 p0 e0 about1 theMethod args0 below0 :=
  ⟨lists_1, trivial, launch0.admits_env _ _ _, launch0.least_env, fairChoices_fair.cas, fairChoices_fair.clock, w_frames, w_args, w_heap, w_applies, trivial, trivial, w_case⟩
end start1
theorem witness_1 : WitnessClaimed_1 := ⟨start1.p0, start1.e0, start1.about1, start1.theMethod, start1.args0, start1.below0, start1.atStart⟩
end Jvm.Pilot.@@N@@
