import JvmDerived
import JvmDerived.Pilot.@@N@@Statement
import JvmDerived.Pilot.@@N@@Code
set_option linter.unusedVariables false
set_option linter.unusedSimpArgs false
namespace Jvm.RoadKit
open Sem ClassFile Op Lib Jvm.Stand Jvm.Free Jvm.LawKit
section New
variable {p : Program} {l : Launch} {e : Env} {R : Room} {s : State} {m : MethodId} {args : Array Value} {below : List Frame} {meth : Method} {c : Code} {T : State} {locs : List Loc} {cells slots : Nat}
theorem retI (X : Stand p l e R s m args below meth c T locs cells slots) (hx : p.tables.exec = Jvm.exec) {pc : Nat} {Ls : Array Slot} {z : Int32} {rest : List Value} (hret : meth.sig.returnType = some .int) (hd : decode c.code pc = .ok (.ireturn, 1)) {fs : List Frame}
    (hl : ∀ (f : JFrame) (acts : List Action), f.method = m → f.locked = none → f.entered = [] → (doReturn e (T.setTop f) acts (some (.int z))).1 = T.setFrames fs) : Steps p.tables e below (T.setTop (mkF m pc Ls (.int z :: rest))) (T.setFrames fs) := by
  have hm' : T.vm.method? m = some meth := X.method'
  have hn : narrow .int (.int z) = .int z := rfl
  show Steps p.tables e below (T.setTop { method := m, pc := pc, locals := Ls, stack := _ :: rest, locked := none }) _
  jvm_step X.here [X.here.top, hx, hd, hm', hret, hn]
  first | (intro acts; rw [hl _ acts rfl rfl rfl]) | rw [hl _ _ rfl rfl rfl]
  exact Steps.refl _
end New
end Jvm.RoadKit
namespace Jvm.Pilot.@@N@@
open Jvm Jvm.ClassFile Sem Op Lib Jvm.Free Jvm.Stand Jvm.LawKit Jvm.RoadKit Bundle Jvm.Pilot.@@N@@.Jvm.D
theorem own_pd__II_B_Lcom_example_insegel_insegel_keyring_Destruction_ : parseMethodDescriptor "(II[B)Lcom/example/insegel/insegel/keyring/Destruction;" = some ⟨[.int, .int, (.array .byte)], some (.object "com/example/insegel/insegel/keyring/Destruction")⟩ := by decide +kernel
theorem own_pd__IIZ_BLjava_lang_Exception__V : parseMethodDescriptor "(IIZ[BLjava/lang/Exception;)V" = some ⟨[.int, .int, .boolean, (.array .byte), (.object "java/lang/Exception")], none⟩ := by decide +kernel
theorem own_pd___V : parseMethodDescriptor "()V" = some ⟨[], none⟩ := by decide +kernel
theorem own_pd___I : parseMethodDescriptor "()I" = some ⟨[], some .int⟩ := by decide +kernel
theorem own_pd___Z : parseMethodDescriptor "()Z" = some ⟨[], some .boolean⟩ := by decide +kernel
theorem d2_0 : decode prog_14_method_1_code 0 = .ok (.aload_n 0, 1) := by decide +kernel
theorem d2_1 : decode prog_14_method_1_code 1 = .ok (.invokespecial 1, 3) := by decide +kernel
theorem d2_4 : decode prog_14_method_1_code 4 = .ok (.aload_n 0, 1) := by decide +kernel
theorem d2_5 : decode prog_14_method_1_code 5 = .ok (.iload_n 1, 1) := by decide +kernel
theorem d2_6 : decode prog_14_method_1_code 6 = .ok (.putfield 7, 3) := by decide +kernel
theorem d2_9 : decode prog_14_method_1_code 9 = .ok (.aload_n 0, 1) := by decide +kernel
theorem d2_10 : decode prog_14_method_1_code 10 = .ok (.iload_n 2, 1) := by decide +kernel
theorem d2_11 : decode prog_14_method_1_code 11 = .ok (.putfield 13, 3) := by decide +kernel
theorem d2_14 : decode prog_14_method_1_code 14 = .ok (.aload_n 0, 1) := by decide +kernel
theorem d2_15 : decode prog_14_method_1_code 15 = .ok (.iload_n 3, 1) := by decide +kernel
theorem d2_16 : decode prog_14_method_1_code 16 = .ok (.putfield 16, 3) := by decide +kernel
theorem d2_19 : decode prog_14_method_1_code 19 = .ok (.aload_n 0, 1) := by decide +kernel
theorem d2_20 : decode prog_14_method_1_code 20 = .ok (.aload 4, 2) := by decide +kernel
theorem d2_22 : decode prog_14_method_1_code 22 = .ok (.putfield 20, 3) := by decide +kernel
theorem d2_25 : decode prog_14_method_1_code 25 = .ok (.aload_n 0, 1) := by decide +kernel
theorem d2_26 : decode prog_14_method_1_code 26 = .ok (.aload 5, 2) := by decide +kernel
theorem d2_28 : decode prog_14_method_1_code 28 = .ok (.putfield 24, 3) := by decide +kernel
theorem d2_31 : decode prog_14_method_1_code 31 = .ok (.return_, 1) := by decide +kernel
theorem own_pn_Destruction : plainName "com/example/insegel/insegel/keyring/Destruction" = true := by first | (simp [plainName, overriddenIn]; done) | decide +kernel
theorem ef_2n (m : MethodId) (x0 : Addr) (x1 : Int32) (x2 : Int32) (x3 : Int32) : entryFrame m #[(.ref x0), (.int x1), (.int x2), (.int x3), .null, .null] 6 = mkF m 0 #[.val (.ref x0), .val (.int x1), .val (.int x2), .val (.int x3), .val .null, .val .null] [] := by first | (simp [entryFrame, mkF, argsToLocals, Value.category]; done) | rfl
def Qrm2n (Z : State) (a1 : Addr) (p2 : Int32) (p3 : Int32) (p4 : Int32) (h0 : Heap) (n0 : Nat) (v : Option Value) (h : Heap) (L : List Loc) : Prop := v = none ∧ Fr n0 L ∧ Keep h0 h [a1] ∧ Exa Z h a1 "com/example/insegel/insegel/keyring/Destruction" ∧ Fld Z h a1 "com/example/insegel/insegel/keyring/Destruction" "items" "I" (.int p2) ∧ Fld Z h a1 "com/example/insegel/insegel/keyring/Destruction" "identities" "I" (.int p3) ∧ Fld Z h a1 "com/example/insegel/insegel/keyring/Destruction" "keptNoKeyFile" "Z" (.int (nar .boolean p4))
set_option maxRecDepth 65536 in
set_option maxHeartbeats 40000000 in
theorem rm2n (l : Launch) (Z : State) (a0 : Array Value) (hw : ∀ d ∈ tables_1, d.before a0 Z = true) (ws : List Jvm.Cond) (a1 : Addr) (p2 : Int32) (p3 : Int32) (p4 : Int32) (h0 : Heap) (n0 : Nat) (Z0 : n0 ≤ h0.size) (E1 : Exa Z h0 a1 "com/example/insegel/insegel/keyring/Destruction") (F_items : Fld Z h0 a1 "com/example/insegel/insegel/keyring/Destruction" "items" "I" (.int (0 : Int32))) (F_identities : Fld Z h0 a1 "com/example/insegel/insegel/keyring/Destruction" "identities" "I" (.int (0 : Int32))) (F_keptNoKeyFile : Fld Z h0 a1 "com/example/insegel/insegel/keyring/Destruction" "keptNoKeyFile" "Z" (.int (0 : Int32))) (F_keyIdKeptElsewhere : Fld Z h0 a1 "com/example/insegel/insegel/keyring/Destruction" "keyIdKeptElsewhere" "[B" .null) (F_unreadableItems : Fld Z h0 a1 "com/example/insegel/insegel/keyring/Destruction" "unreadableItems" "Ljava/lang/Exception;" .null) (g1 : n0 ≤ a1) :
    MetFree l (⟨"com/example/insegel/insegel/keyring/Destruction", "<init>", "(IIZ[BLjava/lang/Exception;)V"⟩ : MethodName) (head1 (Jvm.Cond.code (⟨"com/example/insegel/insegel/keyring/Destruction", "<init>", "(IIZ[BLjava/lang/Exception;)V"⟩ : MethodName) prog_14_method_1_code 6 none :: ws) ({ frames := 1, cells := 0, slots := 0, locals := 12 } : Room)) (fun a U => a = #[(.ref a1), (.int p2), (.int p3), (.int p4), .null, .null] ∧ Z.Warmed39 U.vm ∧ U.heap = h0) (fun _ _ _ _ _ => True) (fun _ U o U' => ∃ v L, o = .returned v ∧ Qrm2n Z a1 p2 p3 p4 h0 n0 v U'.heap L ∧ FrameEnd U o U' L ({ frames := 1, cells := 0, slots := 0, locals := 12 } : Room).cells ({ frames := 1, cells := 0, slots := 0, locals := 12 } : Room).slots) := by
  refine MetFree.of_bodySF (plainFor_of_name own_pn_Destruction) hisR ?_
  intro p e s m args below meth c s₁ Bd hml0 hP hK
  obtain ⟨rfl, hZ, hh⟩ := hP
  have hx := Bd.exec
  have hby := Bd.bytes
  have hml : c.maxLocals = 6 := hml0
  have hown : s.vm.findClass "com/example/insegel/insegel/keyring/Destruction" = some m.cls := findClass_of_methodNamed Bd.named
  have hnm := (name_of_methodNamed Bd.named Bd.method).1
  have X0 : Stand p l e ({ frames := 1, cells := 0, slots := 0, locals := 12 } : Room) s m #[(.ref a1), (.int p2), (.int p3), (.int p4), .null, .null] below meth c s₁ [] 0 0 := Stand.of_body Bd
  have e0 : s₁.heap = h0 := by rw [← hh, Bd.state]; rfl
  have N0 := Fr.nil n0
  have pre0 : ∀ t, Steps p.tables e below (s₁.setTop (mkF m 0 #[.val (.ref a1), .val (.int p2), .val (.int p3), .val (.int p4), .val .null, .val .null] [])) t → Steps p.tables e below (s₁.setTop (entryFrame m #[(.ref a1), (.int p2), (.int p3), (.int p4), .null, .null] 6)) t := fun t k => castTop (ef_2n m a1 p2 p3 p4) k
  obtain ⟨S0, hS0⟩ : ∃ z, z = s₁.setTop (mkF m 0 #[.val (.ref a1), .val (.int p2), .val (.int p3), .val (.int p4), .val .null, .val .null] []) := ⟨_, rfl⟩
  have c0 : Steps p.tables e below S0 (s₁.setTop (mkF m 0 #[.val (.ref a1), .val (.int p2), .val (.int p3), .val (.int p4), .val .null, .val .null] [])) := by rw [hS0]; exact Steps.refl _
  have c1 : Steps p.tables e below S0 (s₁.setTop (mkF m 1 #[.val (.ref a1), .val (.int p2), .val (.int p3), .val (.int p4), .val .null, .val .null] [(.ref a1)])) := c0.trans (by
    refine XS.aloadN X0.here hx rfl (hb hby d2_0) rfl rfl ?_
    show Steps p.tables e below (s₁.setTop (mkF m 1 #[.val (.ref a1), .val (.int p2), .val (.int p3), .val (.int p4), .val .null, .val .null] [(.ref a1)])) _
    exact Steps.refl _)
  obtain ⟨T2, X2, e2, st2⟩ := initO X0 hx hZ hown (hw _ (List.mem_of_getElem? (i := 9) rfl)) (hw _ (List.mem_of_getElem? (i := 10) rfl)) (hw _ (List.mem_of_getElem? (i := 11) rfl)) e0 (g := (mkF m 1 #[.val (.ref a1), .val (.int p2), .val (.int p3), .val (.int p4), .val .null, .val .null] [(.ref a1)])) rfl (by rw [hml]; rfl) rfl (hb hby d2_1) (by decide) (W := 0) (by show 2 * 0 + _ ≤ _; exact Nat.le_of_eq rfl) (by decide)
  have c3 : Steps p.tables e below S0 (T2.setTop (mkF m 4 #[.val (.ref a1), .val (.int p2), .val (.int p3), .val (.int p4), .val .null, .val .null] [])) := c1.trans (st2 _ (Steps.refl _))
  have c4 : Steps p.tables e below S0 (T2.setTop (mkF m 6 #[.val (.ref a1), .val (.int p2), .val (.int p3), .val (.int p4), .val .null, .val .null] [(.int p2), (.ref a1)])) := c3.trans (by
    refine XS.aloadN X2.here hx rfl (hb hby d2_4) rfl rfl ?_
    show Steps p.tables e below (T2.setTop (mkF m 5 #[.val (.ref a1), .val (.int p2), .val (.int p3), .val (.int p4), .val .null, .val .null] [(.ref a1)])) _
    refine XS.iloadN X2.here hx rfl (hb hby d2_5) rfl ?_
    show Steps p.tables e below (T2.setTop (mkF m 6 #[.val (.ref a1), .val (.int p2), .val (.int p3), .val (.int p4), .val .null, .val .null] [(.int p2), (.ref a1)])) _
    exact Steps.refl _)
  obtain ⟨T5, h5, X5, e5, W5, st5⟩ := putF X2 hx hZ hown (host := "") (Or.inl (hw _ (List.mem_of_getElem? (i := 12) rfl))) Via.refl e2 F_items E1 (Or.inr ⟨(hw _ (List.mem_of_getElem? (i := 13) rfl)), rfl, hnm⟩) (hw _ (List.mem_of_getElem? (i := 5) rfl)) (ty := .int) (by decide) rfl rfl (g := (mkF m 6 #[.val (.ref a1), .val (.int p2), .val (.int p3), .val (.int p4), .val .null, .val .null] [(.int p2), (.ref a1)])) rfl rfl (hb hby d2_6)
  have c6 : Steps p.tables e below S0 (T5.setTop (mkF m 9 #[.val (.ref a1), .val (.int p2), .val (.int p3), .val (.int p4), .val .null, .val .null] [])) := c4.trans (st5 _ (Steps.refl _))
  have Fw5 := F_items.same W5
  have N5 := Fr.snoc X5 N0 g1
  have F5_identities := F_identities.other W5 (Or.inr (slot_ne (Or.inr (hw _ (List.mem_of_getElem? (i := 15) rfl))) (Or.inr (hw _ (List.mem_of_getElem? (i := 13) rfl))) (by decide) (t := .int) (t' := .int) (by decide) (by decide)))
  have F5_keptNoKeyFile := F_keptNoKeyFile.other W5 (Or.inr (slot_ne (Or.inr (hw _ (List.mem_of_getElem? (i := 17) rfl))) (Or.inr (hw _ (List.mem_of_getElem? (i := 13) rfl))) (by decide) (t := .boolean) (t' := .int) (by decide) (by decide)))
  have F5_keyIdKeptElsewhere := F_keyIdKeptElsewhere.other W5 (Or.inr (slot_ne (Or.inr (hw _ (List.mem_of_getElem? (i := 19) rfl))) (Or.inr (hw _ (List.mem_of_getElem? (i := 13) rfl))) (by decide) (t := (.array .byte)) (t' := .int) (by decide) (by decide)))
  have F5_unreadableItems := F_unreadableItems.other W5 (Or.inr (slot_ne (Or.inr (hw _ (List.mem_of_getElem? (i := 21) rfl))) (Or.inr (hw _ (List.mem_of_getElem? (i := 13) rfl))) (by decide) (t := (.object "java/lang/Exception")) (t' := .int) (by decide) (by decide)))
  have E5 := E1.wr W5
  have K5 := (Keep.refl h0 [a1]).wr W5 (Or.inl (List.mem_of_getElem? (i := 0) rfl))
  have c7 : Steps p.tables e below S0 (T5.setTop (mkF m 11 #[.val (.ref a1), .val (.int p2), .val (.int p3), .val (.int p4), .val .null, .val .null] [(.int p3), (.ref a1)])) := c6.trans (by
    refine XS.aloadN X5.here hx rfl (hb hby d2_9) rfl rfl ?_
    show Steps p.tables e below (T5.setTop (mkF m 10 #[.val (.ref a1), .val (.int p2), .val (.int p3), .val (.int p4), .val .null, .val .null] [(.ref a1)])) _
    refine XS.iloadN X5.here hx rfl (hb hby d2_10) rfl ?_
    show Steps p.tables e below (T5.setTop (mkF m 11 #[.val (.ref a1), .val (.int p2), .val (.int p3), .val (.int p4), .val .null, .val .null] [(.int p3), (.ref a1)])) _
    exact Steps.refl _)
  obtain ⟨T8, h8, X8, e8, W8, st8⟩ := putF X5 hx hZ hown (host := "") (Or.inl (hw _ (List.mem_of_getElem? (i := 14) rfl))) Via.refl e5 F5_identities E5 (Or.inr ⟨(hw _ (List.mem_of_getElem? (i := 15) rfl)), rfl, hnm⟩) (hw _ (List.mem_of_getElem? (i := 5) rfl)) (ty := .int) (by decide) rfl rfl (g := (mkF m 11 #[.val (.ref a1), .val (.int p2), .val (.int p3), .val (.int p4), .val .null, .val .null] [(.int p3), (.ref a1)])) rfl rfl (hb hby d2_11)
  have c9 : Steps p.tables e below S0 (T8.setTop (mkF m 14 #[.val (.ref a1), .val (.int p2), .val (.int p3), .val (.int p4), .val .null, .val .null] [])) := c7.trans (st8 _ (Steps.refl _))
  have Fw8 := F5_identities.same W8
  have N8 := Fr.snoc X8 N5 g1
  have F8_items := Fw5.other W8 (Or.inr (slot_ne (Or.inr (hw _ (List.mem_of_getElem? (i := 13) rfl))) (Or.inr (hw _ (List.mem_of_getElem? (i := 15) rfl))) (by decide) (t := .int) (t' := .int) (by decide) (by decide)))
  have F8_keptNoKeyFile := F5_keptNoKeyFile.other W8 (Or.inr (slot_ne (Or.inr (hw _ (List.mem_of_getElem? (i := 17) rfl))) (Or.inr (hw _ (List.mem_of_getElem? (i := 15) rfl))) (by decide) (t := .boolean) (t' := .int) (by decide) (by decide)))
  have F8_keyIdKeptElsewhere := F5_keyIdKeptElsewhere.other W8 (Or.inr (slot_ne (Or.inr (hw _ (List.mem_of_getElem? (i := 19) rfl))) (Or.inr (hw _ (List.mem_of_getElem? (i := 15) rfl))) (by decide) (t := (.array .byte)) (t' := .int) (by decide) (by decide)))
  have F8_unreadableItems := F5_unreadableItems.other W8 (Or.inr (slot_ne (Or.inr (hw _ (List.mem_of_getElem? (i := 21) rfl))) (Or.inr (hw _ (List.mem_of_getElem? (i := 15) rfl))) (by decide) (t := (.object "java/lang/Exception")) (t' := .int) (by decide) (by decide)))
  have E8 := E5.wr W8
  have K8 := K5.wr W8 (Or.inl (List.mem_of_getElem? (i := 0) rfl))
  have c10 : Steps p.tables e below S0 (T8.setTop (mkF m 16 #[.val (.ref a1), .val (.int p2), .val (.int p3), .val (.int p4), .val .null, .val .null] [(.int p4), (.ref a1)])) := c9.trans (by
    refine XS.aloadN X8.here hx rfl (hb hby d2_14) rfl rfl ?_
    show Steps p.tables e below (T8.setTop (mkF m 15 #[.val (.ref a1), .val (.int p2), .val (.int p3), .val (.int p4), .val .null, .val .null] [(.ref a1)])) _
    refine XS.iloadN X8.here hx rfl (hb hby d2_15) rfl ?_
    show Steps p.tables e below (T8.setTop (mkF m 16 #[.val (.ref a1), .val (.int p2), .val (.int p3), .val (.int p4), .val .null, .val .null] [(.int p4), (.ref a1)])) _
    exact Steps.refl _)
  obtain ⟨T11, h11, X11, e11, W11, st11⟩ := putFN X8 hx hZ hown (hw _ (List.mem_of_getElem? (i := 16) rfl)) Via.refl e8 F8_keptNoKeyFile E8 (Or.inr ⟨(hw _ (List.mem_of_getElem? (i := 17) rfl)), rfl, hnm⟩) (hw _ (List.mem_of_getElem? (i := 5) rfl)) (ty := .boolean) (v' := (.int (nar .boolean p4))) (by decide) rfl (fits_nar_bool _) (g := (mkF m 16 #[.val (.ref a1), .val (.int p2), .val (.int p3), .val (.int p4), .val .null, .val .null] [(.int p4), (.ref a1)])) rfl rfl (hb hby d2_16)
  have c12 : Steps p.tables e below S0 (T11.setTop (mkF m 19 #[.val (.ref a1), .val (.int p2), .val (.int p3), .val (.int p4), .val .null, .val .null] [])) := c10.trans (st11 _ (Steps.refl _))
  have Fw11 := F8_keptNoKeyFile.same W11
  have N11 := Fr.snoc X11 N8 g1
  have F11_items := F8_items.other W11 (Or.inr (slot_ne (Or.inr (hw _ (List.mem_of_getElem? (i := 13) rfl))) (Or.inr (hw _ (List.mem_of_getElem? (i := 17) rfl))) (by decide) (t := .int) (t' := .boolean) (by decide) (by decide)))
  have F11_identities := Fw8.other W11 (Or.inr (slot_ne (Or.inr (hw _ (List.mem_of_getElem? (i := 15) rfl))) (Or.inr (hw _ (List.mem_of_getElem? (i := 17) rfl))) (by decide) (t := .int) (t' := .boolean) (by decide) (by decide)))
  have F11_keyIdKeptElsewhere := F8_keyIdKeptElsewhere.other W11 (Or.inr (slot_ne (Or.inr (hw _ (List.mem_of_getElem? (i := 19) rfl))) (Or.inr (hw _ (List.mem_of_getElem? (i := 17) rfl))) (by decide) (t := (.array .byte)) (t' := .boolean) (by decide) (by decide)))
  have F11_unreadableItems := F8_unreadableItems.other W11 (Or.inr (slot_ne (Or.inr (hw _ (List.mem_of_getElem? (i := 21) rfl))) (Or.inr (hw _ (List.mem_of_getElem? (i := 17) rfl))) (by decide) (t := (.object "java/lang/Exception")) (t' := .boolean) (by decide) (by decide)))
  have E11 := E8.wr W11
  have K11 := K8.wr W11 (Or.inl (List.mem_of_getElem? (i := 0) rfl))
  have c13 : Steps p.tables e below S0 (T11.setTop (mkF m 22 #[.val (.ref a1), .val (.int p2), .val (.int p3), .val (.int p4), .val .null, .val .null] [.null, (.ref a1)])) := c12.trans (by
    refine XS.aloadN X11.here hx rfl (hb hby d2_19) rfl rfl ?_
    show Steps p.tables e below (T11.setTop (mkF m 20 #[.val (.ref a1), .val (.int p2), .val (.int p3), .val (.int p4), .val .null, .val .null] [(.ref a1)])) _
    refine XS.aload X11.here hx rfl (hb hby d2_20) rfl rfl ?_
    show Steps p.tables e below (T11.setTop (mkF m 22 #[.val (.ref a1), .val (.int p2), .val (.int p3), .val (.int p4), .val .null, .val .null] [.null, (.ref a1)])) _
    exact Steps.refl _)
  obtain ⟨T14, h14, X14, e14, W14, st14⟩ := putF X11 hx hZ hown (host := "") (Or.inl (hw _ (List.mem_of_getElem? (i := 18) rfl))) Via.refl e11 F11_keyIdKeptElsewhere E11 (Or.inr ⟨(hw _ (List.mem_of_getElem? (i := 19) rfl)), rfl, hnm⟩) (hw _ (List.mem_of_getElem? (i := 5) rfl)) (ty := (.array .byte)) (by decide) rfl rfl (g := (mkF m 22 #[.val (.ref a1), .val (.int p2), .val (.int p3), .val (.int p4), .val .null, .val .null] [.null, (.ref a1)])) rfl rfl (hb hby d2_22)
  have c15 : Steps p.tables e below S0 (T14.setTop (mkF m 25 #[.val (.ref a1), .val (.int p2), .val (.int p3), .val (.int p4), .val .null, .val .null] [])) := c13.trans (st14 _ (Steps.refl _))
  have Fw14 := F11_keyIdKeptElsewhere.same W14
  have N14 := Fr.snoc X14 N11 g1
  have F14_items := F11_items.other W14 (Or.inr (slot_ne (Or.inr (hw _ (List.mem_of_getElem? (i := 13) rfl))) (Or.inr (hw _ (List.mem_of_getElem? (i := 19) rfl))) (by decide) (t := .int) (t' := (.array .byte)) (by decide) (by decide)))
  have F14_identities := F11_identities.other W14 (Or.inr (slot_ne (Or.inr (hw _ (List.mem_of_getElem? (i := 15) rfl))) (Or.inr (hw _ (List.mem_of_getElem? (i := 19) rfl))) (by decide) (t := .int) (t' := (.array .byte)) (by decide) (by decide)))
  have F14_keptNoKeyFile := Fw11.other W14 (Or.inr (slot_ne (Or.inr (hw _ (List.mem_of_getElem? (i := 17) rfl))) (Or.inr (hw _ (List.mem_of_getElem? (i := 19) rfl))) (by decide) (t := .boolean) (t' := (.array .byte)) (by decide) (by decide)))
  have F14_unreadableItems := F11_unreadableItems.other W14 (Or.inr (slot_ne (Or.inr (hw _ (List.mem_of_getElem? (i := 21) rfl))) (Or.inr (hw _ (List.mem_of_getElem? (i := 19) rfl))) (by decide) (t := (.object "java/lang/Exception")) (t' := (.array .byte)) (by decide) (by decide)))
  have E14 := E11.wr W14
  have K14 := K11.wr W14 (Or.inl (List.mem_of_getElem? (i := 0) rfl))
  have c16 : Steps p.tables e below S0 (T14.setTop (mkF m 28 #[.val (.ref a1), .val (.int p2), .val (.int p3), .val (.int p4), .val .null, .val .null] [.null, (.ref a1)])) := c15.trans (by
    refine XS.aloadN X14.here hx rfl (hb hby d2_25) rfl rfl ?_
    show Steps p.tables e below (T14.setTop (mkF m 26 #[.val (.ref a1), .val (.int p2), .val (.int p3), .val (.int p4), .val .null, .val .null] [(.ref a1)])) _
    refine XS.aload X14.here hx rfl (hb hby d2_26) rfl rfl ?_
    show Steps p.tables e below (T14.setTop (mkF m 28 #[.val (.ref a1), .val (.int p2), .val (.int p3), .val (.int p4), .val .null, .val .null] [.null, (.ref a1)])) _
    exact Steps.refl _)
  obtain ⟨T17, h17, X17, e17, W17, st17⟩ := putF X14 hx hZ hown (host := "") (Or.inl (hw _ (List.mem_of_getElem? (i := 20) rfl))) Via.refl e14 F14_unreadableItems E14 (Or.inr ⟨(hw _ (List.mem_of_getElem? (i := 21) rfl)), rfl, hnm⟩) (hw _ (List.mem_of_getElem? (i := 5) rfl)) (ty := (.object "java/lang/Exception")) (by decide) rfl rfl (g := (mkF m 28 #[.val (.ref a1), .val (.int p2), .val (.int p3), .val (.int p4), .val .null, .val .null] [.null, (.ref a1)])) rfl rfl (hb hby d2_28)
  have c18 : Steps p.tables e below S0 (T17.setTop (mkF m 31 #[.val (.ref a1), .val (.int p2), .val (.int p3), .val (.int p4), .val .null, .val .null] [])) := c16.trans (st17 _ (Steps.refl _))
  have Fw17 := F14_unreadableItems.same W17
  have N17 := Fr.snoc X17 N14 g1
  have F17_items := F14_items.other W17 (Or.inr (slot_ne (Or.inr (hw _ (List.mem_of_getElem? (i := 13) rfl))) (Or.inr (hw _ (List.mem_of_getElem? (i := 21) rfl))) (by decide) (t := .int) (t' := (.object "java/lang/Exception")) (by decide) (by decide)))
  have F17_identities := F14_identities.other W17 (Or.inr (slot_ne (Or.inr (hw _ (List.mem_of_getElem? (i := 15) rfl))) (Or.inr (hw _ (List.mem_of_getElem? (i := 21) rfl))) (by decide) (t := .int) (t' := (.object "java/lang/Exception")) (by decide) (by decide)))
  have F17_keptNoKeyFile := F14_keptNoKeyFile.other W17 (Or.inr (slot_ne (Or.inr (hw _ (List.mem_of_getElem? (i := 17) rfl))) (Or.inr (hw _ (List.mem_of_getElem? (i := 21) rfl))) (by decide) (t := .boolean) (t' := (.object "java/lang/Exception")) (by decide) (by decide)))
  have F17_keyIdKeptElsewhere := Fw14.other W17 (Or.inr (slot_ne (Or.inr (hw _ (List.mem_of_getElem? (i := 19) rfl))) (Or.inr (hw _ (List.mem_of_getElem? (i := 21) rfl))) (by decide) (t := (.array .byte)) (t' := (.object "java/lang/Exception")) (by decide) (by decide)))
  have E17 := E14.wr W17
  have K17 := K14.wr W17 (Or.inl (List.mem_of_getElem? (i := 0) rfl))
  obtain ⟨fs, hr, hrun, hended, hW, hsame⟩ := X17.leave (v := none) (fun _ => rfl)
  refine ⟨_, _, pre0 _ ?_, hrun, hended, _, _, rfl, ?_, ⟨_, rfl⟩, hW, hsame.mono (by decide) (by decide)⟩
  · rw [← hS0]
    exact c18.trans (X17.returnOut hx Bd.returns (hb hby d2_31) hr)
  · show Qrm2n Z a1 p2 p3 p4 h0 n0 _ T17.heap _
    rw [e17]
    exact ⟨rfl, N17, K17, E17, F17_items, F17_identities, F17_keptNoKeyFile⟩
theorem d1_0 : decode prog_14_method_2_code 0 = .ok (.new 8, 3) := by decide +kernel
theorem d1_3 : decode prog_14_method_2_code 3 = .ok (.dup, 1) := by decide +kernel
theorem d1_4 : decode prog_14_method_2_code 4 = .ok (.iload_n 0, 1) := by decide +kernel
theorem d1_5 : decode prog_14_method_2_code 5 = .ok (.iload_n 1, 1) := by decide +kernel
theorem d1_6 : decode prog_14_method_2_code 6 = .ok (.aload_n 2, 1) := by decide +kernel
theorem d1_7 : decode prog_14_method_2_code 7 = .ok (.ifnull 7, 3) := by decide +kernel
theorem d1_10 : decode prog_14_method_2_code 10 = .ok (.iconst 1, 1) := by decide +kernel
theorem d1_11 : decode prog_14_method_2_code 11 = .ok (.goto 4, 3) := by decide +kernel
theorem d1_14 : decode prog_14_method_2_code 14 = .ok (.iconst 0, 1) := by decide +kernel
theorem d1_15 : decode prog_14_method_2_code 15 = .ok (.aload_n 2, 1) := by decide +kernel
theorem d1_16 : decode prog_14_method_2_code 16 = .ok (.aconst_null, 1) := by decide +kernel
theorem d1_17 : decode prog_14_method_2_code 17 = .ok (.invokespecial 28, 3) := by decide +kernel
theorem d1_20 : decode prog_14_method_2_code 20 = .ok (.areturn, 1) := by decide +kernel
theorem ef_1n (m : MethodId) (x0 : Int32) (x1 : Int32) : entryFrame m #[(.int x0), (.int x1), .null] 3 = mkF m 0 #[.val (.int x0), .val (.int x1), .val .null] [] := by first | (simp [entryFrame, mkF, argsToLocals, Value.category]; done) | rfl
def Qrm1n (Z : State) (p1 : Int32) (p2 : Int32) (h0 : Heap) (n0 : Nat) (v : Option Value) (h : Heap) (L : List Loc) : Prop := ∃ b : Addr, v = some (.ref b) ∧ Fr n0 L ∧ h0.size ≤ h.size ∧ Exa Z h b "com/example/insegel/insegel/keyring/Destruction" ∧ Fld Z h b "com/example/insegel/insegel/keyring/Destruction" "items" "I" (.int p1) ∧ Fld Z h b "com/example/insegel/insegel/keyring/Destruction" "identities" "I" (.int p2) ∧ Fld Z h b "com/example/insegel/insegel/keyring/Destruction" "keptNoKeyFile" "Z" (.int 0)
set_option maxRecDepth 65536 in
set_option maxHeartbeats 40000000 in
theorem rm1n (l : Launch) (Z : State) (a0 : Array Value) (hw : ∀ d ∈ tables_1, d.before a0 Z = true) (ws : List Jvm.Cond) (p1 : Int32) (p2 : Int32) (h0 : Heap) (n0 : Nat) (Z0 : n0 ≤ h0.size)  :
    MetFree l (⟨"com/example/insegel/insegel/keyring/Destruction", "counted", "(II[B)Lcom/example/insegel/insegel/keyring/Destruction;"⟩ : MethodName) (head1 (Jvm.Cond.code (⟨"com/example/insegel/insegel/keyring/Destruction", "counted", "(II[B)Lcom/example/insegel/insegel/keyring/Destruction;"⟩ : MethodName) prog_14_method_2_code 3 (some (.object "com/example/insegel/insegel/keyring/Destruction")) :: ws) ({ frames := 2, cells := 1, slots := 5, locals := 30 } : Room)) (fun a U => a = #[(.int p1), (.int p2), .null] ∧ Z.Warmed39 U.vm ∧ U.heap = h0) (fun _ _ _ _ _ => True) (fun _ U o U' => ∃ v L, o = .returned v ∧ Qrm1n Z p1 p2 h0 n0 v U'.heap L ∧ FrameEnd U o U' L ({ frames := 2, cells := 1, slots := 5, locals := 30 } : Room).cells ({ frames := 2, cells := 1, slots := 5, locals := 30 } : Room).slots) := by
  refine MetFree.of_bodySF (plainFor_of_name own_pn_Destruction) hisR ?_
  intro p e s m args below meth c s₁ Bd hml0 hP hK
  obtain ⟨rfl, hZ, hh⟩ := hP
  have hx := Bd.exec
  have hby := Bd.bytes
  have hml : c.maxLocals = 3 := hml0
  have hown : s.vm.findClass "com/example/insegel/insegel/keyring/Destruction" = some m.cls := findClass_of_methodNamed Bd.named
  have hnm := (name_of_methodNamed Bd.named Bd.method).1
  have X0 : Stand p l e ({ frames := 2, cells := 1, slots := 5, locals := 30 } : Room) s m #[(.int p1), (.int p2), .null] below meth c s₁ [] 0 0 := Stand.of_body Bd
  have e0 : s₁.heap = h0 := by rw [← hh, Bd.state]; rfl
  have N0 := Fr.nil n0
  have pre0 : ∀ t, Steps p.tables e below (s₁.setTop (mkF m 0 #[.val (.int p1), .val (.int p2), .val .null] [])) t → Steps p.tables e below (s₁.setTop (entryFrame m #[(.int p1), (.int p2), .null] 3)) t := fun t k => castTop (ef_1n m p1 p2) k
  obtain ⟨S0, hS0⟩ : ∃ z, z = s₁.setTop (mkF m 0 #[.val (.int p1), .val (.int p2), .val .null] []) := ⟨_, rfl⟩
  have c0 : Steps p.tables e below S0 (s₁.setTop (mkF m 0 #[.val (.int p1), .val (.int p2), .val .null] [])) := by rw [hS0]; exact Steps.refl _
  obtain ⟨T1, h1, X1, e1, E1, A1, D1, -, st1⟩ := newO X0 hx hZ hown (hw _ (List.mem_of_getElem? (i := 4) rfl)) (hw _ (List.mem_of_getElem? (i := 5) rfl)) (hw _ (List.mem_of_getElem? (i := 2) rfl)) e0 (g := (mkF m 0 #[.val (.int p1), .val (.int p2), .val .null] [])) rfl (hb hby d1_0) (by decide) (by decide)
  obtain ⟨b, g1⟩ : ∃ z, z = h0.size := ⟨_, rfl⟩
  rw [← g1] at A1 D1 st1
  have E_b := A1
  have g_b : n0 ≤ b := Nat.le_trans Z0 (Nat.le_of_eq g1.symm)
  have sz1 : n0 ≤ h1.size := Nat.le_trans Z0 E1.1
  have F_items_b : Fld Z h1 b "com/example/insegel/insegel/keyring/Destruction" "items" "I" (.int (0 : Int32)) := D1 (Or.inr (hw _ (List.mem_of_getElem? (i := 13) rfl))) (ty := .int) (by decide)
  have F_identities_b : Fld Z h1 b "com/example/insegel/insegel/keyring/Destruction" "identities" "I" (.int (0 : Int32)) := D1 (Or.inr (hw _ (List.mem_of_getElem? (i := 15) rfl))) (ty := .int) (by decide)
  have F_keptNoKeyFile_b : Fld Z h1 b "com/example/insegel/insegel/keyring/Destruction" "keptNoKeyFile" "Z" (.int (0 : Int32)) := D1 (Or.inr (hw _ (List.mem_of_getElem? (i := 17) rfl))) (ty := .boolean) (by decide)
  have F_keyIdKeptElsewhere_b : Fld Z h1 b "com/example/insegel/insegel/keyring/Destruction" "keyIdKeptElsewhere" "[B" .null := D1 (Or.inr (hw _ (List.mem_of_getElem? (i := 19) rfl))) (ty := (.array .byte)) (by decide)
  have F_unreadableItems_b : Fld Z h1 b "com/example/insegel/insegel/keyring/Destruction" "unreadableItems" "Ljava/lang/Exception;" .null := D1 (Or.inr (hw _ (List.mem_of_getElem? (i := 21) rfl))) (ty := (.object "java/lang/Exception")) (by decide)
  have c2 : Steps p.tables e below S0 (T1.setTop (mkF m 3 #[.val (.int p1), .val (.int p2), .val .null] [(.ref b)])) := c0.trans (st1 _ (Steps.refl _))
  have c3 : Steps p.tables e below S0 (T1.setTop (mkF m 17 #[.val (.int p1), .val (.int p2), .val .null] [.null, .null, (.int (0 : Int32)), (.int p2), (.int p1), (.ref b), (.ref b)])) := c2.trans (by
    refine XS.dup X1.here hx rfl (hb hby d1_3) rfl rfl ?_
    show Steps p.tables e below (T1.setTop (mkF m 4 #[.val (.int p1), .val (.int p2), .val .null] [(.ref b), (.ref b)])) _
    refine XS.iloadN X1.here hx rfl (hb hby d1_4) rfl ?_
    show Steps p.tables e below (T1.setTop (mkF m 5 #[.val (.int p1), .val (.int p2), .val .null] [(.int p1), (.ref b), (.ref b)])) _
    refine XS.iloadN X1.here hx rfl (hb hby d1_5) rfl ?_
    show Steps p.tables e below (T1.setTop (mkF m 6 #[.val (.int p1), .val (.int p2), .val .null] [(.int p2), (.int p1), (.ref b), (.ref b)])) _
    refine XS.aloadN X1.here hx rfl (hb hby d1_6) rfl rfl ?_
    show Steps p.tables e below (T1.setTop (mkF m 7 #[.val (.int p1), .val (.int p2), .val .null] [.null, (.int p2), (.int p1), (.ref b), (.ref b)])) _
    refine XS.ifnullYes X1.here hx rfl (pc0 := 7) (pc' := 14) rfl (hb hby d1_7) rfl (by decide) (by decide) ?_
    show Steps p.tables e below (T1.setTop (mkF m 14 #[.val (.int p1), .val (.int p2), .val .null] [(.int p2), (.int p1), (.ref b), (.ref b)])) _
    refine XT.iconstV X1.here hx rfl (0 : Int32) (hb hby d1_14) (by decide) ?_
    show Steps p.tables e below (T1.setTop (mkF m 15 #[.val (.int p1), .val (.int p2), .val .null] [(.int (0 : Int32)), (.int p2), (.int p1), (.ref b), (.ref b)])) _
    refine XS.aloadN X1.here hx rfl (hb hby d1_15) rfl rfl ?_
    show Steps p.tables e below (T1.setTop (mkF m 16 #[.val (.int p1), .val (.int p2), .val .null] [.null, (.int (0 : Int32)), (.int p2), (.int p1), (.ref b), (.ref b)])) _
    refine XS.aconstNull X1.here hx rfl (hb hby d1_16) ?_
    show Steps p.tables e below (T1.setTop (mkF m 17 #[.val (.int p1), .val (.int p2), .val .null] [.null, .null, (.int (0 : Int32)), (.int p2), (.int p1), (.ref b), (.ref b)])) _
    exact Steps.refl _)
  obtain ⟨_, _, ⟨T4, L4, k4, n4⟩, -, X4, hQ4, st4⟩ := X1.specialBack hx (y := (⟨"com/example/insegel/insegel/keyring/Destruction", "<init>", "(IIZ[BLjava/lang/Exception;)V"⟩ : MethodName)) rfl hown (mvT hZ (hw _ (List.mem_of_getElem? (i := 6) rfl))) (mvT hZ (hw _ (List.mem_of_getElem? (i := 7) rfl))) (mvT hZ (hw _ (List.mem_of_getElem? (i := 8) rfl))) (by decide) (backOf (W := 1) (rm2n l Z a0 hw [] b p1 p2 (0 : Int32)  h1 n0 sz1 E_b F_items_b F_identities_b F_keptNoKeyFile_b F_keyIdKeptElsewhere_b F_unreadableItems_b g_b) hZ (hw _ (List.mem_of_getElem? (i := 8) rfl)) (hw _ (List.mem_of_getElem? (i := 2) rfl)) (by decide) (by decide)) (g := (mkF m 17 #[.val (.int p1), .val (.int p2), .val .null] [.null, .null, (.int (0 : Int32)), (.int p2), (.int p1), (.ref b), (.ref b)])) rfl (by rw [hml]; rfl) (Steps.refl _) (a := b) (argsL := [(.int p1), (.int p2), (.int (0 : Int32)), .null, .null]) (rest := [(.ref b)]) (lenOf own_pd__IIZ_BLjava_lang_Exception__V rfl) rfl (by show 2 * 0 + _ ≤ _; exact Nat.le_of_eq rfl) (hb hby d1_17) (fun _ _ => ⟨rfl, e1, (by decide : 1 + 0 ≤ _), (by decide : 5 + 0 ≤ _)⟩)
  dsimp only [Pt.U, Pt.locs, Pt.cells, Pt.slots] at X4 hQ4 st4
  obtain ⟨Lc4, hR4, l4, y4, z4⟩ := hQ4
  subst l4 y4 z4
  obtain ⟨rfl, Nq4, Kc, Ec, Fi, Fd, Fk⟩ := hR4
  have N4 := Fr.app N0 Nq4
  have c5 : Steps p.tables e below S0 (T4.setTop (mkF m 20 #[.val (.int p1), .val (.int p2), .val .null] [(.ref b)])) := c3.trans (st4)
  obtain ⟨fs, hr, hrun, hended, hW, hsame⟩ := X4.leave (v := some (.ref b)) (fun h => by rw [Bd.returns] at h; cases h)
  refine ⟨_, _, pre0 _ ?_, hrun, hended, _, _, rfl, ?_, ⟨_, rfl⟩, hW, hsame.mono (by decide) (by decide)⟩
  · rw [← hS0]
    refine c5.trans ?_
    jvm_step X4.here [X4.here.top, hx, (hb hby d1_20), X4.method', Bd.returns, Value.isRef, FieldType.isReference]
    first | (intro acts; rw [hr _ acts rfl rfl rfl]) | rw [hr _ _ rfl rfl rfl]
    exact Steps.refl _
  · show Qrm1n Z p1 p2 h0 n0 _ T4.heap _
    exact ⟨b, rfl, N4, Nat.le_trans E1.1 Kc.1, Ec, Fi, Fd, Fk⟩
theorem ef_2k (m : MethodId) (x0 : Addr) (x1 : Int32) (x2 : Int32) (x3 : Int32) (x4 : Addr) : entryFrame m #[(.ref x0), (.int x1), (.int x2), (.int x3), (.ref x4), .null] 6 = mkF m 0 #[.val (.ref x0), .val (.int x1), .val (.int x2), .val (.int x3), .val (.ref x4), .val .null] [] := by first | (simp [entryFrame, mkF, argsToLocals, Value.category]; done) | rfl
def Qrm2k (Z : State) (a1 : Addr) (p2 : Int32) (p3 : Int32) (p4 : Int32) (a5 : Addr) (h0 : Heap) (n0 : Nat) (v : Option Value) (h : Heap) (L : List Loc) : Prop := v = none ∧ Fr n0 L ∧ Keep h0 h [a1] ∧ Exa Z h a1 "com/example/insegel/insegel/keyring/Destruction" ∧ Fld Z h a1 "com/example/insegel/insegel/keyring/Destruction" "items" "I" (.int p2) ∧ Fld Z h a1 "com/example/insegel/insegel/keyring/Destruction" "identities" "I" (.int p3) ∧ Fld Z h a1 "com/example/insegel/insegel/keyring/Destruction" "keptNoKeyFile" "Z" (.int (nar .boolean p4))
set_option maxRecDepth 65536 in
set_option maxHeartbeats 40000000 in
theorem rm2k (l : Launch) (Z : State) (a0 : Array Value) (hw : ∀ d ∈ tables_1, d.before a0 Z = true) (ws : List Jvm.Cond) (a1 : Addr) (p2 : Int32) (p3 : Int32) (p4 : Int32) (a5 : Addr) (h0 : Heap) (n0 : Nat) (Z0 : n0 ≤ h0.size) (E1 : Exa Z h0 a1 "com/example/insegel/insegel/keyring/Destruction") (F_items : Fld Z h0 a1 "com/example/insegel/insegel/keyring/Destruction" "items" "I" (.int (0 : Int32))) (F_identities : Fld Z h0 a1 "com/example/insegel/insegel/keyring/Destruction" "identities" "I" (.int (0 : Int32))) (F_keptNoKeyFile : Fld Z h0 a1 "com/example/insegel/insegel/keyring/Destruction" "keptNoKeyFile" "Z" (.int (0 : Int32))) (F_keyIdKeptElsewhere : Fld Z h0 a1 "com/example/insegel/insegel/keyring/Destruction" "keyIdKeptElsewhere" "[B" .null) (F_unreadableItems : Fld Z h0 a1 "com/example/insegel/insegel/keyring/Destruction" "unreadableItems" "Ljava/lang/Exception;" .null) (g1 : n0 ≤ a1) :
    MetFree l (⟨"com/example/insegel/insegel/keyring/Destruction", "<init>", "(IIZ[BLjava/lang/Exception;)V"⟩ : MethodName) (head1 (Jvm.Cond.code (⟨"com/example/insegel/insegel/keyring/Destruction", "<init>", "(IIZ[BLjava/lang/Exception;)V"⟩ : MethodName) prog_14_method_1_code 6 none :: ws) ({ frames := 1, cells := 0, slots := 0, locals := 12 } : Room)) (fun a U => a = #[(.ref a1), (.int p2), (.int p3), (.int p4), (.ref a5), .null] ∧ Z.Warmed39 U.vm ∧ U.heap = h0) (fun _ _ _ _ _ => True) (fun _ U o U' => ∃ v L, o = .returned v ∧ Qrm2k Z a1 p2 p3 p4 a5 h0 n0 v U'.heap L ∧ FrameEnd U o U' L ({ frames := 1, cells := 0, slots := 0, locals := 12 } : Room).cells ({ frames := 1, cells := 0, slots := 0, locals := 12 } : Room).slots) := by
  refine MetFree.of_bodySF (plainFor_of_name own_pn_Destruction) hisR ?_
  intro p e s m args below meth c s₁ Bd hml0 hP hK
  obtain ⟨rfl, hZ, hh⟩ := hP
  have hx := Bd.exec
  have hby := Bd.bytes
  have hml : c.maxLocals = 6 := hml0
  have hown : s.vm.findClass "com/example/insegel/insegel/keyring/Destruction" = some m.cls := findClass_of_methodNamed Bd.named
  have hnm := (name_of_methodNamed Bd.named Bd.method).1
  have X0 : Stand p l e ({ frames := 1, cells := 0, slots := 0, locals := 12 } : Room) s m #[(.ref a1), (.int p2), (.int p3), (.int p4), (.ref a5), .null] below meth c s₁ [] 0 0 := Stand.of_body Bd
  have e0 : s₁.heap = h0 := by rw [← hh, Bd.state]; rfl
  have N0 := Fr.nil n0
  have pre0 : ∀ t, Steps p.tables e below (s₁.setTop (mkF m 0 #[.val (.ref a1), .val (.int p2), .val (.int p3), .val (.int p4), .val (.ref a5), .val .null] [])) t → Steps p.tables e below (s₁.setTop (entryFrame m #[(.ref a1), (.int p2), (.int p3), (.int p4), (.ref a5), .null] 6)) t := fun t k => castTop (ef_2k m a1 p2 p3 p4 a5) k
  obtain ⟨S0, hS0⟩ : ∃ z, z = s₁.setTop (mkF m 0 #[.val (.ref a1), .val (.int p2), .val (.int p3), .val (.int p4), .val (.ref a5), .val .null] []) := ⟨_, rfl⟩
  have c0 : Steps p.tables e below S0 (s₁.setTop (mkF m 0 #[.val (.ref a1), .val (.int p2), .val (.int p3), .val (.int p4), .val (.ref a5), .val .null] [])) := by rw [hS0]; exact Steps.refl _
  have c1 : Steps p.tables e below S0 (s₁.setTop (mkF m 1 #[.val (.ref a1), .val (.int p2), .val (.int p3), .val (.int p4), .val (.ref a5), .val .null] [(.ref a1)])) := c0.trans (by
    refine XS.aloadN X0.here hx rfl (hb hby d2_0) rfl rfl ?_
    show Steps p.tables e below (s₁.setTop (mkF m 1 #[.val (.ref a1), .val (.int p2), .val (.int p3), .val (.int p4), .val (.ref a5), .val .null] [(.ref a1)])) _
    exact Steps.refl _)
  obtain ⟨T2, X2, e2, st2⟩ := initO X0 hx hZ hown (hw _ (List.mem_of_getElem? (i := 9) rfl)) (hw _ (List.mem_of_getElem? (i := 10) rfl)) (hw _ (List.mem_of_getElem? (i := 11) rfl)) e0 (g := (mkF m 1 #[.val (.ref a1), .val (.int p2), .val (.int p3), .val (.int p4), .val (.ref a5), .val .null] [(.ref a1)])) rfl (by rw [hml]; rfl) rfl (hb hby d2_1) (by decide) (W := 0) (by show 2 * 0 + _ ≤ _; exact Nat.le_of_eq rfl) (by decide)
  have c3 : Steps p.tables e below S0 (T2.setTop (mkF m 4 #[.val (.ref a1), .val (.int p2), .val (.int p3), .val (.int p4), .val (.ref a5), .val .null] [])) := c1.trans (st2 _ (Steps.refl _))
  have c4 : Steps p.tables e below S0 (T2.setTop (mkF m 6 #[.val (.ref a1), .val (.int p2), .val (.int p3), .val (.int p4), .val (.ref a5), .val .null] [(.int p2), (.ref a1)])) := c3.trans (by
    refine XS.aloadN X2.here hx rfl (hb hby d2_4) rfl rfl ?_
    show Steps p.tables e below (T2.setTop (mkF m 5 #[.val (.ref a1), .val (.int p2), .val (.int p3), .val (.int p4), .val (.ref a5), .val .null] [(.ref a1)])) _
    refine XS.iloadN X2.here hx rfl (hb hby d2_5) rfl ?_
    show Steps p.tables e below (T2.setTop (mkF m 6 #[.val (.ref a1), .val (.int p2), .val (.int p3), .val (.int p4), .val (.ref a5), .val .null] [(.int p2), (.ref a1)])) _
    exact Steps.refl _)
  obtain ⟨T5, h5, X5, e5, W5, st5⟩ := putF X2 hx hZ hown (host := "") (Or.inl (hw _ (List.mem_of_getElem? (i := 12) rfl))) Via.refl e2 F_items E1 (Or.inr ⟨(hw _ (List.mem_of_getElem? (i := 13) rfl)), rfl, hnm⟩) (hw _ (List.mem_of_getElem? (i := 5) rfl)) (ty := .int) (by decide) rfl rfl (g := (mkF m 6 #[.val (.ref a1), .val (.int p2), .val (.int p3), .val (.int p4), .val (.ref a5), .val .null] [(.int p2), (.ref a1)])) rfl rfl (hb hby d2_6)
  have c6 : Steps p.tables e below S0 (T5.setTop (mkF m 9 #[.val (.ref a1), .val (.int p2), .val (.int p3), .val (.int p4), .val (.ref a5), .val .null] [])) := c4.trans (st5 _ (Steps.refl _))
  have Fw5 := F_items.same W5
  have N5 := Fr.snoc X5 N0 g1
  have F5_identities := F_identities.other W5 (Or.inr (slot_ne (Or.inr (hw _ (List.mem_of_getElem? (i := 15) rfl))) (Or.inr (hw _ (List.mem_of_getElem? (i := 13) rfl))) (by decide) (t := .int) (t' := .int) (by decide) (by decide)))
  have F5_keptNoKeyFile := F_keptNoKeyFile.other W5 (Or.inr (slot_ne (Or.inr (hw _ (List.mem_of_getElem? (i := 17) rfl))) (Or.inr (hw _ (List.mem_of_getElem? (i := 13) rfl))) (by decide) (t := .boolean) (t' := .int) (by decide) (by decide)))
  have F5_keyIdKeptElsewhere := F_keyIdKeptElsewhere.other W5 (Or.inr (slot_ne (Or.inr (hw _ (List.mem_of_getElem? (i := 19) rfl))) (Or.inr (hw _ (List.mem_of_getElem? (i := 13) rfl))) (by decide) (t := (.array .byte)) (t' := .int) (by decide) (by decide)))
  have F5_unreadableItems := F_unreadableItems.other W5 (Or.inr (slot_ne (Or.inr (hw _ (List.mem_of_getElem? (i := 21) rfl))) (Or.inr (hw _ (List.mem_of_getElem? (i := 13) rfl))) (by decide) (t := (.object "java/lang/Exception")) (t' := .int) (by decide) (by decide)))
  have E5 := E1.wr W5
  have K5 := (Keep.refl h0 [a1]).wr W5 (Or.inl (List.mem_of_getElem? (i := 0) rfl))
  have c7 : Steps p.tables e below S0 (T5.setTop (mkF m 11 #[.val (.ref a1), .val (.int p2), .val (.int p3), .val (.int p4), .val (.ref a5), .val .null] [(.int p3), (.ref a1)])) := c6.trans (by
    refine XS.aloadN X5.here hx rfl (hb hby d2_9) rfl rfl ?_
    show Steps p.tables e below (T5.setTop (mkF m 10 #[.val (.ref a1), .val (.int p2), .val (.int p3), .val (.int p4), .val (.ref a5), .val .null] [(.ref a1)])) _
    refine XS.iloadN X5.here hx rfl (hb hby d2_10) rfl ?_
    show Steps p.tables e below (T5.setTop (mkF m 11 #[.val (.ref a1), .val (.int p2), .val (.int p3), .val (.int p4), .val (.ref a5), .val .null] [(.int p3), (.ref a1)])) _
    exact Steps.refl _)
  obtain ⟨T8, h8, X8, e8, W8, st8⟩ := putF X5 hx hZ hown (host := "") (Or.inl (hw _ (List.mem_of_getElem? (i := 14) rfl))) Via.refl e5 F5_identities E5 (Or.inr ⟨(hw _ (List.mem_of_getElem? (i := 15) rfl)), rfl, hnm⟩) (hw _ (List.mem_of_getElem? (i := 5) rfl)) (ty := .int) (by decide) rfl rfl (g := (mkF m 11 #[.val (.ref a1), .val (.int p2), .val (.int p3), .val (.int p4), .val (.ref a5), .val .null] [(.int p3), (.ref a1)])) rfl rfl (hb hby d2_11)
  have c9 : Steps p.tables e below S0 (T8.setTop (mkF m 14 #[.val (.ref a1), .val (.int p2), .val (.int p3), .val (.int p4), .val (.ref a5), .val .null] [])) := c7.trans (st8 _ (Steps.refl _))
  have Fw8 := F5_identities.same W8
  have N8 := Fr.snoc X8 N5 g1
  have F8_items := Fw5.other W8 (Or.inr (slot_ne (Or.inr (hw _ (List.mem_of_getElem? (i := 13) rfl))) (Or.inr (hw _ (List.mem_of_getElem? (i := 15) rfl))) (by decide) (t := .int) (t' := .int) (by decide) (by decide)))
  have F8_keptNoKeyFile := F5_keptNoKeyFile.other W8 (Or.inr (slot_ne (Or.inr (hw _ (List.mem_of_getElem? (i := 17) rfl))) (Or.inr (hw _ (List.mem_of_getElem? (i := 15) rfl))) (by decide) (t := .boolean) (t' := .int) (by decide) (by decide)))
  have F8_keyIdKeptElsewhere := F5_keyIdKeptElsewhere.other W8 (Or.inr (slot_ne (Or.inr (hw _ (List.mem_of_getElem? (i := 19) rfl))) (Or.inr (hw _ (List.mem_of_getElem? (i := 15) rfl))) (by decide) (t := (.array .byte)) (t' := .int) (by decide) (by decide)))
  have F8_unreadableItems := F5_unreadableItems.other W8 (Or.inr (slot_ne (Or.inr (hw _ (List.mem_of_getElem? (i := 21) rfl))) (Or.inr (hw _ (List.mem_of_getElem? (i := 15) rfl))) (by decide) (t := (.object "java/lang/Exception")) (t' := .int) (by decide) (by decide)))
  have E8 := E5.wr W8
  have K8 := K5.wr W8 (Or.inl (List.mem_of_getElem? (i := 0) rfl))
  have c10 : Steps p.tables e below S0 (T8.setTop (mkF m 16 #[.val (.ref a1), .val (.int p2), .val (.int p3), .val (.int p4), .val (.ref a5), .val .null] [(.int p4), (.ref a1)])) := c9.trans (by
    refine XS.aloadN X8.here hx rfl (hb hby d2_14) rfl rfl ?_
    show Steps p.tables e below (T8.setTop (mkF m 15 #[.val (.ref a1), .val (.int p2), .val (.int p3), .val (.int p4), .val (.ref a5), .val .null] [(.ref a1)])) _
    refine XS.iloadN X8.here hx rfl (hb hby d2_15) rfl ?_
    show Steps p.tables e below (T8.setTop (mkF m 16 #[.val (.ref a1), .val (.int p2), .val (.int p3), .val (.int p4), .val (.ref a5), .val .null] [(.int p4), (.ref a1)])) _
    exact Steps.refl _)
  obtain ⟨T11, h11, X11, e11, W11, st11⟩ := putFN X8 hx hZ hown (hw _ (List.mem_of_getElem? (i := 16) rfl)) Via.refl e8 F8_keptNoKeyFile E8 (Or.inr ⟨(hw _ (List.mem_of_getElem? (i := 17) rfl)), rfl, hnm⟩) (hw _ (List.mem_of_getElem? (i := 5) rfl)) (ty := .boolean) (v' := (.int (nar .boolean p4))) (by decide) rfl (fits_nar_bool _) (g := (mkF m 16 #[.val (.ref a1), .val (.int p2), .val (.int p3), .val (.int p4), .val (.ref a5), .val .null] [(.int p4), (.ref a1)])) rfl rfl (hb hby d2_16)
  have c12 : Steps p.tables e below S0 (T11.setTop (mkF m 19 #[.val (.ref a1), .val (.int p2), .val (.int p3), .val (.int p4), .val (.ref a5), .val .null] [])) := c10.trans (st11 _ (Steps.refl _))
  have Fw11 := F8_keptNoKeyFile.same W11
  have N11 := Fr.snoc X11 N8 g1
  have F11_items := F8_items.other W11 (Or.inr (slot_ne (Or.inr (hw _ (List.mem_of_getElem? (i := 13) rfl))) (Or.inr (hw _ (List.mem_of_getElem? (i := 17) rfl))) (by decide) (t := .int) (t' := .boolean) (by decide) (by decide)))
  have F11_identities := Fw8.other W11 (Or.inr (slot_ne (Or.inr (hw _ (List.mem_of_getElem? (i := 15) rfl))) (Or.inr (hw _ (List.mem_of_getElem? (i := 17) rfl))) (by decide) (t := .int) (t' := .boolean) (by decide) (by decide)))
  have F11_keyIdKeptElsewhere := F8_keyIdKeptElsewhere.other W11 (Or.inr (slot_ne (Or.inr (hw _ (List.mem_of_getElem? (i := 19) rfl))) (Or.inr (hw _ (List.mem_of_getElem? (i := 17) rfl))) (by decide) (t := (.array .byte)) (t' := .boolean) (by decide) (by decide)))
  have F11_unreadableItems := F8_unreadableItems.other W11 (Or.inr (slot_ne (Or.inr (hw _ (List.mem_of_getElem? (i := 21) rfl))) (Or.inr (hw _ (List.mem_of_getElem? (i := 17) rfl))) (by decide) (t := (.object "java/lang/Exception")) (t' := .boolean) (by decide) (by decide)))
  have E11 := E8.wr W11
  have K11 := K8.wr W11 (Or.inl (List.mem_of_getElem? (i := 0) rfl))
  have c13 : Steps p.tables e below S0 (T11.setTop (mkF m 22 #[.val (.ref a1), .val (.int p2), .val (.int p3), .val (.int p4), .val (.ref a5), .val .null] [(.ref a5), (.ref a1)])) := c12.trans (by
    refine XS.aloadN X11.here hx rfl (hb hby d2_19) rfl rfl ?_
    show Steps p.tables e below (T11.setTop (mkF m 20 #[.val (.ref a1), .val (.int p2), .val (.int p3), .val (.int p4), .val (.ref a5), .val .null] [(.ref a1)])) _
    refine XS.aload X11.here hx rfl (hb hby d2_20) rfl rfl ?_
    show Steps p.tables e below (T11.setTop (mkF m 22 #[.val (.ref a1), .val (.int p2), .val (.int p3), .val (.int p4), .val (.ref a5), .val .null] [(.ref a5), (.ref a1)])) _
    exact Steps.refl _)
  obtain ⟨T14, h14, X14, e14, W14, st14⟩ := putF X11 hx hZ hown (host := "") (Or.inl (hw _ (List.mem_of_getElem? (i := 18) rfl))) Via.refl e11 F11_keyIdKeptElsewhere E11 (Or.inr ⟨(hw _ (List.mem_of_getElem? (i := 19) rfl)), rfl, hnm⟩) (hw _ (List.mem_of_getElem? (i := 5) rfl)) (ty := (.array .byte)) (by decide) rfl rfl (g := (mkF m 22 #[.val (.ref a1), .val (.int p2), .val (.int p3), .val (.int p4), .val (.ref a5), .val .null] [(.ref a5), (.ref a1)])) rfl rfl (hb hby d2_22)
  have c15 : Steps p.tables e below S0 (T14.setTop (mkF m 25 #[.val (.ref a1), .val (.int p2), .val (.int p3), .val (.int p4), .val (.ref a5), .val .null] [])) := c13.trans (st14 _ (Steps.refl _))
  have Fw14 := F11_keyIdKeptElsewhere.same W14
  have N14 := Fr.snoc X14 N11 g1
  have F14_items := F11_items.other W14 (Or.inr (slot_ne (Or.inr (hw _ (List.mem_of_getElem? (i := 13) rfl))) (Or.inr (hw _ (List.mem_of_getElem? (i := 19) rfl))) (by decide) (t := .int) (t' := (.array .byte)) (by decide) (by decide)))
  have F14_identities := F11_identities.other W14 (Or.inr (slot_ne (Or.inr (hw _ (List.mem_of_getElem? (i := 15) rfl))) (Or.inr (hw _ (List.mem_of_getElem? (i := 19) rfl))) (by decide) (t := .int) (t' := (.array .byte)) (by decide) (by decide)))
  have F14_keptNoKeyFile := Fw11.other W14 (Or.inr (slot_ne (Or.inr (hw _ (List.mem_of_getElem? (i := 17) rfl))) (Or.inr (hw _ (List.mem_of_getElem? (i := 19) rfl))) (by decide) (t := .boolean) (t' := (.array .byte)) (by decide) (by decide)))
  have F14_unreadableItems := F11_unreadableItems.other W14 (Or.inr (slot_ne (Or.inr (hw _ (List.mem_of_getElem? (i := 21) rfl))) (Or.inr (hw _ (List.mem_of_getElem? (i := 19) rfl))) (by decide) (t := (.object "java/lang/Exception")) (t' := (.array .byte)) (by decide) (by decide)))
  have E14 := E11.wr W14
  have K14 := K11.wr W14 (Or.inl (List.mem_of_getElem? (i := 0) rfl))
  have c16 : Steps p.tables e below S0 (T14.setTop (mkF m 28 #[.val (.ref a1), .val (.int p2), .val (.int p3), .val (.int p4), .val (.ref a5), .val .null] [.null, (.ref a1)])) := c15.trans (by
    refine XS.aloadN X14.here hx rfl (hb hby d2_25) rfl rfl ?_
    show Steps p.tables e below (T14.setTop (mkF m 26 #[.val (.ref a1), .val (.int p2), .val (.int p3), .val (.int p4), .val (.ref a5), .val .null] [(.ref a1)])) _
    refine XS.aload X14.here hx rfl (hb hby d2_26) rfl rfl ?_
    show Steps p.tables e below (T14.setTop (mkF m 28 #[.val (.ref a1), .val (.int p2), .val (.int p3), .val (.int p4), .val (.ref a5), .val .null] [.null, (.ref a1)])) _
    exact Steps.refl _)
  obtain ⟨T17, h17, X17, e17, W17, st17⟩ := putF X14 hx hZ hown (host := "") (Or.inl (hw _ (List.mem_of_getElem? (i := 20) rfl))) Via.refl e14 F14_unreadableItems E14 (Or.inr ⟨(hw _ (List.mem_of_getElem? (i := 21) rfl)), rfl, hnm⟩) (hw _ (List.mem_of_getElem? (i := 5) rfl)) (ty := (.object "java/lang/Exception")) (by decide) rfl rfl (g := (mkF m 28 #[.val (.ref a1), .val (.int p2), .val (.int p3), .val (.int p4), .val (.ref a5), .val .null] [.null, (.ref a1)])) rfl rfl (hb hby d2_28)
  have c18 : Steps p.tables e below S0 (T17.setTop (mkF m 31 #[.val (.ref a1), .val (.int p2), .val (.int p3), .val (.int p4), .val (.ref a5), .val .null] [])) := c16.trans (st17 _ (Steps.refl _))
  have Fw17 := F14_unreadableItems.same W17
  have N17 := Fr.snoc X17 N14 g1
  have F17_items := F14_items.other W17 (Or.inr (slot_ne (Or.inr (hw _ (List.mem_of_getElem? (i := 13) rfl))) (Or.inr (hw _ (List.mem_of_getElem? (i := 21) rfl))) (by decide) (t := .int) (t' := (.object "java/lang/Exception")) (by decide) (by decide)))
  have F17_identities := F14_identities.other W17 (Or.inr (slot_ne (Or.inr (hw _ (List.mem_of_getElem? (i := 15) rfl))) (Or.inr (hw _ (List.mem_of_getElem? (i := 21) rfl))) (by decide) (t := .int) (t' := (.object "java/lang/Exception")) (by decide) (by decide)))
  have F17_keptNoKeyFile := F14_keptNoKeyFile.other W17 (Or.inr (slot_ne (Or.inr (hw _ (List.mem_of_getElem? (i := 17) rfl))) (Or.inr (hw _ (List.mem_of_getElem? (i := 21) rfl))) (by decide) (t := .boolean) (t' := (.object "java/lang/Exception")) (by decide) (by decide)))
  have F17_keyIdKeptElsewhere := Fw14.other W17 (Or.inr (slot_ne (Or.inr (hw _ (List.mem_of_getElem? (i := 19) rfl))) (Or.inr (hw _ (List.mem_of_getElem? (i := 21) rfl))) (by decide) (t := (.array .byte)) (t' := (.object "java/lang/Exception")) (by decide) (by decide)))
  have E17 := E14.wr W17
  have K17 := K14.wr W17 (Or.inl (List.mem_of_getElem? (i := 0) rfl))
  obtain ⟨fs, hr, hrun, hended, hW, hsame⟩ := X17.leave (v := none) (fun _ => rfl)
  refine ⟨_, _, pre0 _ ?_, hrun, hended, _, _, rfl, ?_, ⟨_, rfl⟩, hW, hsame.mono (by decide) (by decide)⟩
  · rw [← hS0]
    exact c18.trans (X17.returnOut hx Bd.returns (hb hby d2_31) hr)
  · show Qrm2k Z a1 p2 p3 p4 a5 h0 n0 _ T17.heap _
    rw [e17]
    exact ⟨rfl, N17, K17, E17, F17_items, F17_identities, F17_keptNoKeyFile⟩
theorem ef_1k (m : MethodId) (x0 : Int32) (x1 : Int32) (x2 : Addr) : entryFrame m #[(.int x0), (.int x1), (.ref x2)] 3 = mkF m 0 #[.val (.int x0), .val (.int x1), .val (.ref x2)] [] := by first | (simp [entryFrame, mkF, argsToLocals, Value.category]; done) | rfl
def Qrm1k (Z : State) (p1 : Int32) (p2 : Int32) (a3 : Addr) (h0 : Heap) (n0 : Nat) (v : Option Value) (h : Heap) (L : List Loc) : Prop := ∃ b : Addr, v = some (.ref b) ∧ Fr n0 L ∧ h0.size ≤ h.size ∧ Exa Z h b "com/example/insegel/insegel/keyring/Destruction" ∧ Fld Z h b "com/example/insegel/insegel/keyring/Destruction" "items" "I" (.int p1) ∧ Fld Z h b "com/example/insegel/insegel/keyring/Destruction" "identities" "I" (.int p2) ∧ Fld Z h b "com/example/insegel/insegel/keyring/Destruction" "keptNoKeyFile" "Z" (.int 1)
set_option maxRecDepth 65536 in
set_option maxHeartbeats 40000000 in
theorem rm1k (l : Launch) (Z : State) (a0 : Array Value) (hw : ∀ d ∈ tables_1, d.before a0 Z = true) (ws : List Jvm.Cond) (p1 : Int32) (p2 : Int32) (a3 : Addr) (h0 : Heap) (n0 : Nat) (Z0 : n0 ≤ h0.size)  :
    MetFree l (⟨"com/example/insegel/insegel/keyring/Destruction", "counted", "(II[B)Lcom/example/insegel/insegel/keyring/Destruction;"⟩ : MethodName) (head1 (Jvm.Cond.code (⟨"com/example/insegel/insegel/keyring/Destruction", "counted", "(II[B)Lcom/example/insegel/insegel/keyring/Destruction;"⟩ : MethodName) prog_14_method_2_code 3 (some (.object "com/example/insegel/insegel/keyring/Destruction")) :: ws) ({ frames := 2, cells := 1, slots := 5, locals := 30 } : Room)) (fun a U => a = #[(.int p1), (.int p2), (.ref a3)] ∧ Z.Warmed39 U.vm ∧ U.heap = h0) (fun _ _ _ _ _ => True) (fun _ U o U' => ∃ v L, o = .returned v ∧ Qrm1k Z p1 p2 a3 h0 n0 v U'.heap L ∧ FrameEnd U o U' L ({ frames := 2, cells := 1, slots := 5, locals := 30 } : Room).cells ({ frames := 2, cells := 1, slots := 5, locals := 30 } : Room).slots) := by
  refine MetFree.of_bodySF (plainFor_of_name own_pn_Destruction) hisR ?_
  intro p e s m args below meth c s₁ Bd hml0 hP hK
  obtain ⟨rfl, hZ, hh⟩ := hP
  have hx := Bd.exec
  have hby := Bd.bytes
  have hml : c.maxLocals = 3 := hml0
  have hown : s.vm.findClass "com/example/insegel/insegel/keyring/Destruction" = some m.cls := findClass_of_methodNamed Bd.named
  have hnm := (name_of_methodNamed Bd.named Bd.method).1
  have X0 : Stand p l e ({ frames := 2, cells := 1, slots := 5, locals := 30 } : Room) s m #[(.int p1), (.int p2), (.ref a3)] below meth c s₁ [] 0 0 := Stand.of_body Bd
  have e0 : s₁.heap = h0 := by rw [← hh, Bd.state]; rfl
  have N0 := Fr.nil n0
  have pre0 : ∀ t, Steps p.tables e below (s₁.setTop (mkF m 0 #[.val (.int p1), .val (.int p2), .val (.ref a3)] [])) t → Steps p.tables e below (s₁.setTop (entryFrame m #[(.int p1), (.int p2), (.ref a3)] 3)) t := fun t k => castTop (ef_1k m p1 p2 a3) k
  obtain ⟨S0, hS0⟩ : ∃ z, z = s₁.setTop (mkF m 0 #[.val (.int p1), .val (.int p2), .val (.ref a3)] []) := ⟨_, rfl⟩
  have c0 : Steps p.tables e below S0 (s₁.setTop (mkF m 0 #[.val (.int p1), .val (.int p2), .val (.ref a3)] [])) := by rw [hS0]; exact Steps.refl _
  obtain ⟨T1, h1, X1, e1, E1, A1, D1, -, st1⟩ := newO X0 hx hZ hown (hw _ (List.mem_of_getElem? (i := 4) rfl)) (hw _ (List.mem_of_getElem? (i := 5) rfl)) (hw _ (List.mem_of_getElem? (i := 2) rfl)) e0 (g := (mkF m 0 #[.val (.int p1), .val (.int p2), .val (.ref a3)] [])) rfl (hb hby d1_0) (by decide) (by decide)
  obtain ⟨b, g1⟩ : ∃ z, z = h0.size := ⟨_, rfl⟩
  rw [← g1] at A1 D1 st1
  have E_b := A1
  have g_b : n0 ≤ b := Nat.le_trans Z0 (Nat.le_of_eq g1.symm)
  have sz1 : n0 ≤ h1.size := Nat.le_trans Z0 E1.1
  have F_items_b : Fld Z h1 b "com/example/insegel/insegel/keyring/Destruction" "items" "I" (.int (0 : Int32)) := D1 (Or.inr (hw _ (List.mem_of_getElem? (i := 13) rfl))) (ty := .int) (by decide)
  have F_identities_b : Fld Z h1 b "com/example/insegel/insegel/keyring/Destruction" "identities" "I" (.int (0 : Int32)) := D1 (Or.inr (hw _ (List.mem_of_getElem? (i := 15) rfl))) (ty := .int) (by decide)
  have F_keptNoKeyFile_b : Fld Z h1 b "com/example/insegel/insegel/keyring/Destruction" "keptNoKeyFile" "Z" (.int (0 : Int32)) := D1 (Or.inr (hw _ (List.mem_of_getElem? (i := 17) rfl))) (ty := .boolean) (by decide)
  have F_keyIdKeptElsewhere_b : Fld Z h1 b "com/example/insegel/insegel/keyring/Destruction" "keyIdKeptElsewhere" "[B" .null := D1 (Or.inr (hw _ (List.mem_of_getElem? (i := 19) rfl))) (ty := (.array .byte)) (by decide)
  have F_unreadableItems_b : Fld Z h1 b "com/example/insegel/insegel/keyring/Destruction" "unreadableItems" "Ljava/lang/Exception;" .null := D1 (Or.inr (hw _ (List.mem_of_getElem? (i := 21) rfl))) (ty := (.object "java/lang/Exception")) (by decide)
  have c2 : Steps p.tables e below S0 (T1.setTop (mkF m 3 #[.val (.int p1), .val (.int p2), .val (.ref a3)] [(.ref b)])) := c0.trans (st1 _ (Steps.refl _))
  have c3 : Steps p.tables e below S0 (T1.setTop (mkF m 17 #[.val (.int p1), .val (.int p2), .val (.ref a3)] [.null, (.ref a3), (.int (1 : Int32)), (.int p2), (.int p1), (.ref b), (.ref b)])) := c2.trans (by
    refine XS.dup X1.here hx rfl (hb hby d1_3) rfl rfl ?_
    show Steps p.tables e below (T1.setTop (mkF m 4 #[.val (.int p1), .val (.int p2), .val (.ref a3)] [(.ref b), (.ref b)])) _
    refine XS.iloadN X1.here hx rfl (hb hby d1_4) rfl ?_
    show Steps p.tables e below (T1.setTop (mkF m 5 #[.val (.int p1), .val (.int p2), .val (.ref a3)] [(.int p1), (.ref b), (.ref b)])) _
    refine XS.iloadN X1.here hx rfl (hb hby d1_5) rfl ?_
    show Steps p.tables e below (T1.setTop (mkF m 6 #[.val (.int p1), .val (.int p2), .val (.ref a3)] [(.int p2), (.int p1), (.ref b), (.ref b)])) _
    refine XS.aloadN X1.here hx rfl (hb hby d1_6) rfl rfl ?_
    show Steps p.tables e below (T1.setTop (mkF m 7 #[.val (.int p1), .val (.int p2), .val (.ref a3)] [(.ref a3), (.int p2), (.int p1), (.ref b), (.ref b)])) _
    refine XS.ifnullNo X1.here hx rfl (hb hby d1_7) rfl ?_
    show Steps p.tables e below (T1.setTop (mkF m 10 #[.val (.int p1), .val (.int p2), .val (.ref a3)] [(.int p2), (.int p1), (.ref b), (.ref b)])) _
    refine XT.iconstV X1.here hx rfl (1 : Int32) (hb hby d1_10) (by decide) ?_
    show Steps p.tables e below (T1.setTop (mkF m 11 #[.val (.int p1), .val (.int p2), .val (.ref a3)] [(.int (1 : Int32)), (.int p2), (.int p1), (.ref b), (.ref b)])) _
    refine XS.goto X1.here hx rfl (pc0 := 11) (pc' := 15) rfl (hb hby d1_11) (by decide) (by decide) ?_
    show Steps p.tables e below (T1.setTop (mkF m 15 #[.val (.int p1), .val (.int p2), .val (.ref a3)] [(.int (1 : Int32)), (.int p2), (.int p1), (.ref b), (.ref b)])) _
    refine XS.aloadN X1.here hx rfl (hb hby d1_15) rfl rfl ?_
    show Steps p.tables e below (T1.setTop (mkF m 16 #[.val (.int p1), .val (.int p2), .val (.ref a3)] [(.ref a3), (.int (1 : Int32)), (.int p2), (.int p1), (.ref b), (.ref b)])) _
    refine XS.aconstNull X1.here hx rfl (hb hby d1_16) ?_
    show Steps p.tables e below (T1.setTop (mkF m 17 #[.val (.int p1), .val (.int p2), .val (.ref a3)] [.null, (.ref a3), (.int (1 : Int32)), (.int p2), (.int p1), (.ref b), (.ref b)])) _
    exact Steps.refl _)
  obtain ⟨_, _, ⟨T4, L4, k4, n4⟩, -, X4, hQ4, st4⟩ := X1.specialBack hx (y := (⟨"com/example/insegel/insegel/keyring/Destruction", "<init>", "(IIZ[BLjava/lang/Exception;)V"⟩ : MethodName)) rfl hown (mvT hZ (hw _ (List.mem_of_getElem? (i := 6) rfl))) (mvT hZ (hw _ (List.mem_of_getElem? (i := 7) rfl))) (mvT hZ (hw _ (List.mem_of_getElem? (i := 8) rfl))) (by decide) (backOf (W := 1) (rm2k l Z a0 hw [] b p1 p2 (1 : Int32) a3 h1 n0 sz1 E_b F_items_b F_identities_b F_keptNoKeyFile_b F_keyIdKeptElsewhere_b F_unreadableItems_b g_b) hZ (hw _ (List.mem_of_getElem? (i := 8) rfl)) (hw _ (List.mem_of_getElem? (i := 2) rfl)) (by decide) (by decide)) (g := (mkF m 17 #[.val (.int p1), .val (.int p2), .val (.ref a3)] [.null, (.ref a3), (.int (1 : Int32)), (.int p2), (.int p1), (.ref b), (.ref b)])) rfl (by rw [hml]; rfl) (Steps.refl _) (a := b) (argsL := [(.int p1), (.int p2), (.int (1 : Int32)), (.ref a3), .null]) (rest := [(.ref b)]) (lenOf own_pd__IIZ_BLjava_lang_Exception__V rfl) rfl (by show 2 * 0 + _ ≤ _; exact Nat.le_of_eq rfl) (hb hby d1_17) (fun _ _ => ⟨rfl, e1, (by decide : 1 + 0 ≤ _), (by decide : 5 + 0 ≤ _)⟩)
  dsimp only [Pt.U, Pt.locs, Pt.cells, Pt.slots] at X4 hQ4 st4
  obtain ⟨Lc4, hR4, l4, y4, z4⟩ := hQ4
  subst l4 y4 z4
  obtain ⟨rfl, Nq4, Kc, Ec, Fi, Fd, Fk⟩ := hR4
  have N4 := Fr.app N0 Nq4
  have c5 : Steps p.tables e below S0 (T4.setTop (mkF m 20 #[.val (.int p1), .val (.int p2), .val (.ref a3)] [(.ref b)])) := c3.trans (st4)
  obtain ⟨fs, hr, hrun, hended, hW, hsame⟩ := X4.leave (v := some (.ref b)) (fun h => by rw [Bd.returns] at h; cases h)
  refine ⟨_, _, pre0 _ ?_, hrun, hended, _, _, rfl, ?_, ⟨_, rfl⟩, hW, hsame.mono (by decide) (by decide)⟩
  · rw [← hS0]
    refine c5.trans ?_
    jvm_step X4.here [X4.here.top, hx, (hb hby d1_20), X4.method', Bd.returns, Value.isRef, FieldType.isReference]
    first | (intro acts; rw [hr _ acts rfl rfl rfl]) | rw [hr _ _ rfl rfl rfl]
    exact Steps.refl _
  · show Qrm1k Z p1 p2 a3 h0 n0 _ T4.heap _
    exact ⟨b, rfl, N4, Nat.le_trans E1.1 Kc.1, Ec, Fi, Fd, Fk⟩
theorem d4_0 : decode prog_14_method_4_code 0 = .ok (.aload_n 0, 1) := by decide +kernel
theorem d4_1 : decode prog_14_method_4_code 1 = .ok (.getfield 7, 3) := by decide +kernel
theorem d4_4 : decode prog_14_method_4_code 4 = .ok (.ireturn, 1) := by decide +kernel
theorem ef_4 (m : MethodId) (x0 : Addr) : entryFrame m #[(.ref x0)] 1 = mkF m 0 #[.val (.ref x0)] [] := by first | (simp [entryFrame, mkF, argsToLocals, Value.category]; done) | rfl
def Qrm4 (Z : State) (a1 : Addr) (p2 : Int32) (h0 : Heap) (n0 : Nat) (v : Option Value) (h : Heap) (L : List Loc) : Prop := v = some (.int p2) ∧ Fr n0 L ∧ h = h0
set_option maxRecDepth 65536 in
set_option maxHeartbeats 40000000 in
theorem rm4 (l : Launch) (Z : State) (a0 : Array Value) (hw : ∀ d ∈ tables_1, d.before a0 Z = true) (ws : List Jvm.Cond) (a1 : Addr) (p2 : Int32) (h0 : Heap) (n0 : Nat) (Z0 : n0 ≤ h0.size) (F1 : Fld Z h0 a1 "com/example/insegel/insegel/keyring/Destruction" "items" "I" (.int p2)) :
    MetFree l (⟨"com/example/insegel/insegel/keyring/Destruction", "items", "()I"⟩ : MethodName) (head1 (Jvm.Cond.code (⟨"com/example/insegel/insegel/keyring/Destruction", "items", "()I"⟩ : MethodName) prog_14_method_4_code 1 (some .int) :: ws) ({ frames := 0, cells := 0, slots := 0, locals := 0 } : Room)) (fun a U => a = #[(.ref a1)] ∧ Z.Warmed39 U.vm ∧ U.heap = h0) (fun _ _ _ _ _ => True) (fun _ U o U' => ∃ v L, o = .returned v ∧ Qrm4 Z a1 p2 h0 n0 v U'.heap L ∧ FrameEnd U o U' L ({ frames := 0, cells := 0, slots := 0, locals := 0 } : Room).cells ({ frames := 0, cells := 0, slots := 0, locals := 0 } : Room).slots) := by
  refine MetFree.of_bodySF (plainFor_of_name own_pn_Destruction) hisR ?_
  intro p e s m args below meth c s₁ Bd hml0 hP hK
  obtain ⟨rfl, hZ, hh⟩ := hP
  have hx := Bd.exec
  have hby := Bd.bytes
  have hml : c.maxLocals = 1 := hml0
  have hown : s.vm.findClass "com/example/insegel/insegel/keyring/Destruction" = some m.cls := findClass_of_methodNamed Bd.named
  have hnm := (name_of_methodNamed Bd.named Bd.method).1
  have X0 : Stand p l e ({ frames := 0, cells := 0, slots := 0, locals := 0 } : Room) s m #[(.ref a1)] below meth c s₁ [] 0 0 := Stand.of_body Bd
  have e0 : s₁.heap = h0 := by rw [← hh, Bd.state]; rfl
  have N0 := Fr.nil n0
  have pre0 : ∀ t, Steps p.tables e below (s₁.setTop (mkF m 0 #[.val (.ref a1)] [])) t → Steps p.tables e below (s₁.setTop (entryFrame m #[(.ref a1)] 1)) t := fun t k => castTop (ef_4 m a1) k
  obtain ⟨S0, hS0⟩ : ∃ z, z = s₁.setTop (mkF m 0 #[.val (.ref a1)] []) := ⟨_, rfl⟩
  have c0 : Steps p.tables e below S0 (s₁.setTop (mkF m 0 #[.val (.ref a1)] [])) := by rw [hS0]; exact Steps.refl _
  have c1 : Steps p.tables e below S0 (s₁.setTop (mkF m 1 #[.val (.ref a1)] [(.ref a1)])) := c0.trans (by
    refine XS.aloadN X0.here hx rfl (hb hby d4_0) rfl rfl ?_
    show Steps p.tables e below (s₁.setTop (mkF m 1 #[.val (.ref a1)] [(.ref a1)])) _
    exact Steps.refl _)
  obtain ⟨T2, X2, e2, st2⟩ := getF X0 hx hZ hown (host := "") (Or.inl (hw _ (List.mem_of_getElem? (i := 12) rfl))) Via.refl e0 F1 (g := (mkF m 1 #[.val (.ref a1)] [(.ref a1)])) rfl rfl (hb hby d4_1)
  have c3 : Steps p.tables e below S0 (T2.setTop (mkF m 4 #[.val (.ref a1)] [(.int p2)])) := c1.trans (st2 _ (Steps.refl _))
  obtain ⟨fs, hr, hrun, hended, hW, hsame⟩ := X2.leave (v := some (.int p2)) (fun h => by rw [Bd.returns] at h; cases h)
  refine ⟨_, _, pre0 _ ?_, hrun, hended, _, _, rfl, ?_, ⟨_, rfl⟩, hW, hsame.mono (by decide) (by decide)⟩
  · rw [← hS0]
    exact c3.trans (retI X2 hx Bd.returns (hb hby d4_4) hr)
  · show Qrm4 Z a1 p2 h0 n0 _ T2.heap _
    rw [e2]
    exact ⟨rfl, N0, rfl⟩
theorem d5_0 : decode prog_14_method_5_code 0 = .ok (.aload_n 0, 1) := by decide +kernel
theorem d5_1 : decode prog_14_method_5_code 1 = .ok (.getfield 13, 3) := by decide +kernel
theorem d5_4 : decode prog_14_method_5_code 4 = .ok (.ireturn, 1) := by decide +kernel
theorem ef_5 (m : MethodId) (x0 : Addr) : entryFrame m #[(.ref x0)] 1 = mkF m 0 #[.val (.ref x0)] [] := by first | (simp [entryFrame, mkF, argsToLocals, Value.category]; done) | rfl
def Qrm5 (Z : State) (a1 : Addr) (p2 : Int32) (h0 : Heap) (n0 : Nat) (v : Option Value) (h : Heap) (L : List Loc) : Prop := v = some (.int p2) ∧ Fr n0 L ∧ h = h0
set_option maxRecDepth 65536 in
set_option maxHeartbeats 40000000 in
theorem rm5 (l : Launch) (Z : State) (a0 : Array Value) (hw : ∀ d ∈ tables_1, d.before a0 Z = true) (ws : List Jvm.Cond) (a1 : Addr) (p2 : Int32) (h0 : Heap) (n0 : Nat) (Z0 : n0 ≤ h0.size) (F1 : Fld Z h0 a1 "com/example/insegel/insegel/keyring/Destruction" "identities" "I" (.int p2)) :
    MetFree l (⟨"com/example/insegel/insegel/keyring/Destruction", "identities", "()I"⟩ : MethodName) (head1 (Jvm.Cond.code (⟨"com/example/insegel/insegel/keyring/Destruction", "identities", "()I"⟩ : MethodName) prog_14_method_5_code 1 (some .int) :: ws) ({ frames := 0, cells := 0, slots := 0, locals := 0 } : Room)) (fun a U => a = #[(.ref a1)] ∧ Z.Warmed39 U.vm ∧ U.heap = h0) (fun _ _ _ _ _ => True) (fun _ U o U' => ∃ v L, o = .returned v ∧ Qrm5 Z a1 p2 h0 n0 v U'.heap L ∧ FrameEnd U o U' L ({ frames := 0, cells := 0, slots := 0, locals := 0 } : Room).cells ({ frames := 0, cells := 0, slots := 0, locals := 0 } : Room).slots) := by
  refine MetFree.of_bodySF (plainFor_of_name own_pn_Destruction) hisR ?_
  intro p e s m args below meth c s₁ Bd hml0 hP hK
  obtain ⟨rfl, hZ, hh⟩ := hP
  have hx := Bd.exec
  have hby := Bd.bytes
  have hml : c.maxLocals = 1 := hml0
  have hown : s.vm.findClass "com/example/insegel/insegel/keyring/Destruction" = some m.cls := findClass_of_methodNamed Bd.named
  have hnm := (name_of_methodNamed Bd.named Bd.method).1
  have X0 : Stand p l e ({ frames := 0, cells := 0, slots := 0, locals := 0 } : Room) s m #[(.ref a1)] below meth c s₁ [] 0 0 := Stand.of_body Bd
  have e0 : s₁.heap = h0 := by rw [← hh, Bd.state]; rfl
  have N0 := Fr.nil n0
  have pre0 : ∀ t, Steps p.tables e below (s₁.setTop (mkF m 0 #[.val (.ref a1)] [])) t → Steps p.tables e below (s₁.setTop (entryFrame m #[(.ref a1)] 1)) t := fun t k => castTop (ef_5 m a1) k
  obtain ⟨S0, hS0⟩ : ∃ z, z = s₁.setTop (mkF m 0 #[.val (.ref a1)] []) := ⟨_, rfl⟩
  have c0 : Steps p.tables e below S0 (s₁.setTop (mkF m 0 #[.val (.ref a1)] [])) := by rw [hS0]; exact Steps.refl _
  have c1 : Steps p.tables e below S0 (s₁.setTop (mkF m 1 #[.val (.ref a1)] [(.ref a1)])) := c0.trans (by
    refine XS.aloadN X0.here hx rfl (hb hby d5_0) rfl rfl ?_
    show Steps p.tables e below (s₁.setTop (mkF m 1 #[.val (.ref a1)] [(.ref a1)])) _
    exact Steps.refl _)
  obtain ⟨T2, X2, e2, st2⟩ := getF X0 hx hZ hown (host := "") (Or.inl (hw _ (List.mem_of_getElem? (i := 14) rfl))) Via.refl e0 F1 (g := (mkF m 1 #[.val (.ref a1)] [(.ref a1)])) rfl rfl (hb hby d5_1)
  have c3 : Steps p.tables e below S0 (T2.setTop (mkF m 4 #[.val (.ref a1)] [(.int p2)])) := c1.trans (st2 _ (Steps.refl _))
  obtain ⟨fs, hr, hrun, hended, hW, hsame⟩ := X2.leave (v := some (.int p2)) (fun h => by rw [Bd.returns] at h; cases h)
  refine ⟨_, _, pre0 _ ?_, hrun, hended, _, _, rfl, ?_, ⟨_, rfl⟩, hW, hsame.mono (by decide) (by decide)⟩
  · rw [← hS0]
    exact c3.trans (retI X2 hx Bd.returns (hb hby d5_4) hr)
  · show Qrm5 Z a1 p2 h0 n0 _ T2.heap _
    rw [e2]
    exact ⟨rfl, N0, rfl⟩
theorem d6_0 : decode prog_14_method_7_code 0 = .ok (.aload_n 0, 1) := by decide +kernel
theorem d6_1 : decode prog_14_method_7_code 1 = .ok (.getfield 16, 3) := by decide +kernel
theorem d6_4 : decode prog_14_method_7_code 4 = .ok (.ireturn, 1) := by decide +kernel
theorem ef_6 (m : MethodId) (x0 : Addr) : entryFrame m #[(.ref x0)] 1 = mkF m 0 #[.val (.ref x0)] [] := by first | (simp [entryFrame, mkF, argsToLocals, Value.category]; done) | rfl
def Qrm6n (Z : State) (a1 : Addr) (h0 : Heap) (n0 : Nat) (v : Option Value) (h : Heap) (L : List Loc) : Prop := v = some (.int 0) ∧ Fr n0 L ∧ h = h0
set_option maxRecDepth 65536 in
set_option maxHeartbeats 40000000 in
theorem rm6n (l : Launch) (Z : State) (a0 : Array Value) (hw : ∀ d ∈ tables_1, d.before a0 Z = true) (ws : List Jvm.Cond) (a1 : Addr) (h0 : Heap) (n0 : Nat) (Z0 : n0 ≤ h0.size) (F1 : Fld Z h0 a1 "com/example/insegel/insegel/keyring/Destruction" "keptNoKeyFile" "Z" (.int 0)) :
    MetFree l (⟨"com/example/insegel/insegel/keyring/Destruction", "keptNoKeyFile", "()Z"⟩ : MethodName) (head1 (Jvm.Cond.code (⟨"com/example/insegel/insegel/keyring/Destruction", "keptNoKeyFile", "()Z"⟩ : MethodName) prog_14_method_7_code 1 (some .boolean) :: ws) ({ frames := 0, cells := 0, slots := 0, locals := 0 } : Room)) (fun a U => a = #[(.ref a1)] ∧ Z.Warmed39 U.vm ∧ U.heap = h0) (fun _ _ _ _ _ => True) (fun _ U o U' => ∃ v L, o = .returned v ∧ Qrm6n Z a1 h0 n0 v U'.heap L ∧ FrameEnd U o U' L ({ frames := 0, cells := 0, slots := 0, locals := 0 } : Room).cells ({ frames := 0, cells := 0, slots := 0, locals := 0 } : Room).slots) := by
  refine MetFree.of_bodySF (plainFor_of_name own_pn_Destruction) hisR ?_
  intro p e s m args below meth c s₁ Bd hml0 hP hK
  obtain ⟨rfl, hZ, hh⟩ := hP
  have hx := Bd.exec
  have hby := Bd.bytes
  have hml : c.maxLocals = 1 := hml0
  have hown : s.vm.findClass "com/example/insegel/insegel/keyring/Destruction" = some m.cls := findClass_of_methodNamed Bd.named
  have hnm := (name_of_methodNamed Bd.named Bd.method).1
  have X0 : Stand p l e ({ frames := 0, cells := 0, slots := 0, locals := 0 } : Room) s m #[(.ref a1)] below meth c s₁ [] 0 0 := Stand.of_body Bd
  have e0 : s₁.heap = h0 := by rw [← hh, Bd.state]; rfl
  have N0 := Fr.nil n0
  have pre0 : ∀ t, Steps p.tables e below (s₁.setTop (mkF m 0 #[.val (.ref a1)] [])) t → Steps p.tables e below (s₁.setTop (entryFrame m #[(.ref a1)] 1)) t := fun t k => castTop (ef_6 m a1) k
  obtain ⟨S0, hS0⟩ : ∃ z, z = s₁.setTop (mkF m 0 #[.val (.ref a1)] []) := ⟨_, rfl⟩
  have c0 : Steps p.tables e below S0 (s₁.setTop (mkF m 0 #[.val (.ref a1)] [])) := by rw [hS0]; exact Steps.refl _
  have c1 : Steps p.tables e below S0 (s₁.setTop (mkF m 1 #[.val (.ref a1)] [(.ref a1)])) := c0.trans (by
    refine XS.aloadN X0.here hx rfl (hb hby d6_0) rfl rfl ?_
    show Steps p.tables e below (s₁.setTop (mkF m 1 #[.val (.ref a1)] [(.ref a1)])) _
    exact Steps.refl _)
  obtain ⟨T2, X2, e2, st2⟩ := getF X0 hx hZ hown (host := "") (Or.inl (hw _ (List.mem_of_getElem? (i := 16) rfl))) Via.refl e0 F1 (g := (mkF m 1 #[.val (.ref a1)] [(.ref a1)])) rfl rfl (hb hby d6_1)
  have c3 : Steps p.tables e below S0 (T2.setTop (mkF m 4 #[.val (.ref a1)] [(.int (0 : Int32))])) := c1.trans (st2 _ (Steps.refl _))
  obtain ⟨fs, hr, hrun, hended, hW, hsame⟩ := X2.leave (v := some (.int (0 : Int32))) (fun h => by rw [Bd.returns] at h; cases h)
  refine ⟨_, _, pre0 _ ?_, hrun, hended, _, _, rfl, ?_, ⟨_, rfl⟩, hW, hsame.mono (by decide) (by decide)⟩
  · rw [← hS0]
    exact c3.trans (retN X2 hx (t := .boolean) Bd.returns (by simp) (hb hby d6_4) hr)
  · show Qrm6n Z a1 h0 n0 _ T2.heap _
    rw [e2]
    exact ⟨rfl, N0, rfl⟩
def Qrm6k (Z : State) (a1 : Addr) (h0 : Heap) (n0 : Nat) (v : Option Value) (h : Heap) (L : List Loc) : Prop := v = some (.int 1) ∧ Fr n0 L ∧ h = h0
set_option maxRecDepth 65536 in
set_option maxHeartbeats 40000000 in
theorem rm6k (l : Launch) (Z : State) (a0 : Array Value) (hw : ∀ d ∈ tables_1, d.before a0 Z = true) (ws : List Jvm.Cond) (a1 : Addr) (h0 : Heap) (n0 : Nat) (Z0 : n0 ≤ h0.size) (F1 : Fld Z h0 a1 "com/example/insegel/insegel/keyring/Destruction" "keptNoKeyFile" "Z" (.int 1)) :
    MetFree l (⟨"com/example/insegel/insegel/keyring/Destruction", "keptNoKeyFile", "()Z"⟩ : MethodName) (head1 (Jvm.Cond.code (⟨"com/example/insegel/insegel/keyring/Destruction", "keptNoKeyFile", "()Z"⟩ : MethodName) prog_14_method_7_code 1 (some .boolean) :: ws) ({ frames := 0, cells := 0, slots := 0, locals := 0 } : Room)) (fun a U => a = #[(.ref a1)] ∧ Z.Warmed39 U.vm ∧ U.heap = h0) (fun _ _ _ _ _ => True) (fun _ U o U' => ∃ v L, o = .returned v ∧ Qrm6k Z a1 h0 n0 v U'.heap L ∧ FrameEnd U o U' L ({ frames := 0, cells := 0, slots := 0, locals := 0 } : Room).cells ({ frames := 0, cells := 0, slots := 0, locals := 0 } : Room).slots) := by
  refine MetFree.of_bodySF (plainFor_of_name own_pn_Destruction) hisR ?_
  intro p e s m args below meth c s₁ Bd hml0 hP hK
  obtain ⟨rfl, hZ, hh⟩ := hP
  have hx := Bd.exec
  have hby := Bd.bytes
  have hml : c.maxLocals = 1 := hml0
  have hown : s.vm.findClass "com/example/insegel/insegel/keyring/Destruction" = some m.cls := findClass_of_methodNamed Bd.named
  have hnm := (name_of_methodNamed Bd.named Bd.method).1
  have X0 : Stand p l e ({ frames := 0, cells := 0, slots := 0, locals := 0 } : Room) s m #[(.ref a1)] below meth c s₁ [] 0 0 := Stand.of_body Bd
  have e0 : s₁.heap = h0 := by rw [← hh, Bd.state]; rfl
  have N0 := Fr.nil n0
  have pre0 : ∀ t, Steps p.tables e below (s₁.setTop (mkF m 0 #[.val (.ref a1)] [])) t → Steps p.tables e below (s₁.setTop (entryFrame m #[(.ref a1)] 1)) t := fun t k => castTop (ef_6 m a1) k
  obtain ⟨S0, hS0⟩ : ∃ z, z = s₁.setTop (mkF m 0 #[.val (.ref a1)] []) := ⟨_, rfl⟩
  have c0 : Steps p.tables e below S0 (s₁.setTop (mkF m 0 #[.val (.ref a1)] [])) := by rw [hS0]; exact Steps.refl _
  have c1 : Steps p.tables e below S0 (s₁.setTop (mkF m 1 #[.val (.ref a1)] [(.ref a1)])) := c0.trans (by
    refine XS.aloadN X0.here hx rfl (hb hby d6_0) rfl rfl ?_
    show Steps p.tables e below (s₁.setTop (mkF m 1 #[.val (.ref a1)] [(.ref a1)])) _
    exact Steps.refl _)
  obtain ⟨T2, X2, e2, st2⟩ := getF X0 hx hZ hown (host := "") (Or.inl (hw _ (List.mem_of_getElem? (i := 16) rfl))) Via.refl e0 F1 (g := (mkF m 1 #[.val (.ref a1)] [(.ref a1)])) rfl rfl (hb hby d6_1)
  have c3 : Steps p.tables e below S0 (T2.setTop (mkF m 4 #[.val (.ref a1)] [(.int (1 : Int32))])) := c1.trans (st2 _ (Steps.refl _))
  obtain ⟨fs, hr, hrun, hended, hW, hsame⟩ := X2.leave (v := some (.int (1 : Int32))) (fun h => by rw [Bd.returns] at h; cases h)
  refine ⟨_, _, pre0 _ ?_, hrun, hended, _, _, rfl, ?_, ⟨_, rfl⟩, hW, hsame.mono (by decide) (by decide)⟩
  · rw [← hS0]
    exact c3.trans (retN X2 hx (t := .boolean) Bd.returns (by simp) (hb hby d6_4) hr)
  · show Qrm6k Z a1 h0 n0 _ T2.heap _
    rw [e2]
    exact ⟨rfl, N0, rfl⟩
theorem own_pn_DestructionCountedPinLaw : plainName "com/example/insegel/insegel/keyring/DestructionCountedPinLaw" = true := by first | (simp [plainName, overriddenIn]; done) | decide +kernel
theorem ef_0 (m : MethodId) (x0 : Int32) (x1 : Int32) (x2 : Int32) (x3 : Int32) : entryFrame m #[(.int x0), (.int x1), (.int x2), (.int x3)] maxLocals = mkF m 0 #[.val (.int x0), .val (.int x1), .val (.int x2), .val (.int x3), .unset, .unset, .unset, .unset] [] := by first | (simp [entryFrame, mkF, argsToLocals, Value.category, maxLocals]; done) | rfl
def Qrm0 (Z : State) (p1 : Int32) (p2 : Int32) (p3 : Int32) (p4 : Int32) (h0 : Heap) (n0 : Nat) (v : Option Value) (h : Heap) (L : List Loc) : Prop := v = some (.int 1) ∧ Fr n0 L
set_option maxRecDepth 65536 in
set_option maxHeartbeats 40000000 in
theorem rm0 (l : Launch) (Z : State) (a0 : Array Value) (hw : ∀ d ∈ tables_1, d.before a0 Z = true) (ws : List Jvm.Cond) (p1 : Int32) (p2 : Int32) (p3 : Int32) (p4 : Int32) (h0 : Heap) (n0 : Nat) (Z0 : n0 ≤ h0.size)  :
    MetFree l x (head1 (Jvm.Cond.code x code maxLocals ret :: ws) (room_1 : Room)) (fun a U => a = #[(.int p1), (.int p2), (.int p3), (.int p4)] ∧ Z.Warmed39 U.vm ∧ U.heap = h0) (fun _ _ _ _ _ => True) (fun _ U o U' => ∃ v L, o = .returned v ∧ Qrm0 Z p1 p2 p3 p4 h0 n0 v U'.heap L ∧ FrameEnd U o U' L (room_1 : Room).cells (room_1 : Room).slots) := by
  refine MetFree.of_bodySF (plainFor_of_name own_pn_DestructionCountedPinLaw) hisR ?_
  intro p e s m args below meth c s₁ Bd hml0 hP hK
  obtain ⟨rfl, hZ, hh⟩ := hP
  have hx := Bd.exec
  have hby := Bd.bytes
  have hml : c.maxLocals = 8 := hml0
  have hown : s.vm.findClass "com/example/insegel/insegel/keyring/DestructionCountedPinLaw" = some m.cls := findClass_of_methodNamed Bd.named
  have hnm := (name_of_methodNamed Bd.named Bd.method).1
  have X0 : Stand p l e (room_1 : Room) s m #[(.int p1), (.int p2), (.int p3), (.int p4)] below meth c s₁ [] 0 0 := Stand.of_body Bd
  have e0 : s₁.heap = h0 := by rw [← hh, Bd.state]; rfl
  have N0 := Fr.nil n0
  have pre0 : ∀ t, Steps p.tables e below (s₁.setTop (mkF m 0 #[.val (.int p1), .val (.int p2), .val (.int p3), .val (.int p4), .unset, .unset, .unset, .unset] [])) t → Steps p.tables e below (s₁.setTop (entryFrame m #[(.int p1), (.int p2), (.int p3), (.int p4)] maxLocals)) t := fun t k => castTop (ef_0 m p1 p2 p3 p4) k
  obtain ⟨S0, hS0⟩ : ∃ z, z = s₁.setTop (mkF m 0 #[.val (.int p1), .val (.int p2), .val (.int p3), .val (.int p4), .unset, .unset, .unset, .unset] []) := ⟨_, rfl⟩
  have c0 : Steps p.tables e below S0 (s₁.setTop (mkF m 0 #[.val (.int p1), .val (.int p2), .val (.int p3), .val (.int p4), .unset, .unset, .unset, .unset] [])) := by rw [hS0]; exact Steps.refl _
  have c1 : Steps p.tables e below S0 (s₁.setTop (mkF m 3 #[.val (.int p1), .val (.int p2), .val (.int p3), .val (.int p4), .unset, .unset, .unset, .unset] [(.int (p3 &&& (1 : Int32)))])) := c0.trans (by
    refine XS.iloadN X0.here hx rfl (hb hby at_0) rfl ?_
    show Steps p.tables e below (s₁.setTop (mkF m 1 #[.val (.int p1), .val (.int p2), .val (.int p3), .val (.int p4), .unset, .unset, .unset, .unset] [(.int p3)])) _
    refine XT.iconstV X0.here hx rfl (1 : Int32) (hb hby at_1) (by decide) ?_
    show Steps p.tables e below (s₁.setTop (mkF m 2 #[.val (.int p1), .val (.int p2), .val (.int p3), .val (.int p4), .unset, .unset, .unset, .unset] [(.int (1 : Int32)), (.int p3)])) _
    refine XS.iand X0.here hx rfl (hb hby at_2) rfl ?_
    show Steps p.tables e below (s₁.setTop (mkF m 3 #[.val (.int p1), .val (.int p2), .val (.int p3), .val (.int p4), .unset, .unset, .unset, .unset] [(.int (p3 &&& (1 : Int32)))])) _
    exact Steps.refl _)
  by_cases k1 : (p3 &&& (1 : Int32)) = 0
  ·
    have c2 : Steps p.tables e below S0 (s₁.setTop (mkF m 63 #[.val (.int p1), .val (.int p2), .val (.int p3), .val (.int p4), .val (.int (0 : Int32)), .val .null, .unset, .unset] [.null, (.int p2), (.int p1)])) := c1.trans (by
      refine XS.ifYes X0.here hx rfl (pc0 := 3) (pc' := 10) rfl (hb hby at_3) rfl (XT.i0_eq_t k1) (by decide) (by decide) ?_
      show Steps p.tables e below (s₁.setTop (mkF m 10 #[.val (.int p1), .val (.int p2), .val (.int p3), .val (.int p4), .unset, .unset, .unset, .unset] [])) _
      refine XT.iconstV X0.here hx rfl (0 : Int32) (hb hby at_10) (by decide) ?_
      show Steps p.tables e below (s₁.setTop (mkF m 11 #[.val (.int p1), .val (.int p2), .val (.int p3), .val (.int p4), .unset, .unset, .unset, .unset] [(.int (0 : Int32))])) _
      refine XS.istore X0.here hx rfl (hb hby at_11) rfl (l' := #[.val (.int p1), .val (.int p2), .val (.int p3), .val (.int p4), .val (.int (0 : Int32)), .unset, .unset, .unset]) rfl ?_
      show Steps p.tables e below (s₁.setTop (mkF m 13 #[.val (.int p1), .val (.int p2), .val (.int p3), .val (.int p4), .val (.int (0 : Int32)), .unset, .unset, .unset] [])) _
      refine XS.aconstNull X0.here hx rfl (hb hby at_13) ?_
      show Steps p.tables e below (s₁.setTop (mkF m 14 #[.val (.int p1), .val (.int p2), .val (.int p3), .val (.int p4), .val (.int (0 : Int32)), .unset, .unset, .unset] [.null])) _
      refine XS.astore X0.here hx rfl (hb hby at_14) rfl rfl (l' := #[.val (.int p1), .val (.int p2), .val (.int p3), .val (.int p4), .val (.int (0 : Int32)), .val .null, .unset, .unset]) rfl ?_
      show Steps p.tables e below (s₁.setTop (mkF m 16 #[.val (.int p1), .val (.int p2), .val (.int p3), .val (.int p4), .val (.int (0 : Int32)), .val .null, .unset, .unset] [])) _
      refine XS.iload X0.here hx rfl (hb hby at_16) rfl ?_
      show Steps p.tables e below (s₁.setTop (mkF m 18 #[.val (.int p1), .val (.int p2), .val (.int p3), .val (.int p4), .val (.int (0 : Int32)), .val .null, .unset, .unset] [(.int (0 : Int32))])) _
      refine XS.ifYes X0.here hx rfl (pc0 := 18) (pc' := 59) rfl (hb hby at_18) rfl (XT.i0_eq_t (by decide)) (by decide) (by decide) ?_
      show Steps p.tables e below (s₁.setTop (mkF m 59 #[.val (.int p1), .val (.int p2), .val (.int p3), .val (.int p4), .val (.int (0 : Int32)), .val .null, .unset, .unset] [])) _
      refine XS.iloadN X0.here hx rfl (hb hby at_59) rfl ?_
      show Steps p.tables e below (s₁.setTop (mkF m 60 #[.val (.int p1), .val (.int p2), .val (.int p3), .val (.int p4), .val (.int (0 : Int32)), .val .null, .unset, .unset] [(.int p1)])) _
      refine XS.iloadN X0.here hx rfl (hb hby at_60) rfl ?_
      show Steps p.tables e below (s₁.setTop (mkF m 61 #[.val (.int p1), .val (.int p2), .val (.int p3), .val (.int p4), .val (.int (0 : Int32)), .val .null, .unset, .unset] [(.int p2), (.int p1)])) _
      refine XS.aload X0.here hx rfl (hb hby at_61) rfl rfl ?_
      show Steps p.tables e below (s₁.setTop (mkF m 63 #[.val (.int p1), .val (.int p2), .val (.int p3), .val (.int p4), .val (.int (0 : Int32)), .val .null, .unset, .unset] [.null, (.int p2), (.int p1)])) _
      exact Steps.refl _)
    obtain ⟨_, _, ⟨T3, L3, k3, n3⟩, -, X3, hQ3, st3⟩ := Jvm.LawKit.callS X0 hx (y := (⟨"com/example/insegel/insegel/keyring/Destruction", "counted", "(II[B)Lcom/example/insegel/insegel/keyring/Destruction;"⟩ : MethodName)) hown (mvT hZ (hw _ (List.mem_of_getElem? (i := 0) rfl))) (mvT hZ (hw _ (List.mem_of_getElem? (i := 1) rfl))) (mvT hZ (hw _ (List.mem_of_getElem? (i := 2) rfl))) (mvT hZ (hw _ (List.mem_of_getElem? (i := 3) rfl))) (by decide) (backOf (W := 0) (rm1n l Z a0 hw [] p1 p2  h0 n0 Z0) hZ (hw _ (List.mem_of_getElem? (i := 3) rfl)) (hw _ (List.mem_of_getElem? (i := 2) rfl)) (by decide) (by decide)) (g := (mkF m 63 #[.val (.int p1), .val (.int p2), .val (.int p3), .val (.int p4), .val (.int (0 : Int32)), .val .null, .unset, .unset] [.null, (.int p2), (.int p1)])) rfl (by rw [hml]; rfl) (argsL := [(.int p1), (.int p2), .null]) (rest := []) (lenOf own_pd__II_B_Lcom_example_insegel_insegel_keyring_Destruction_ rfl) rfl (by show 2 * 0 + _ ≤ _; exact Nat.le_of_eq rfl) (hb hby at_63) (fun _ _ => ⟨rfl, e0, (by decide : 0 + 1 ≤ _), (by decide : 0 + 5 ≤ _)⟩)
    dsimp only [Pt.U, Pt.locs, Pt.cells, Pt.slots] at X3 hQ3 st3
    obtain ⟨Lc3, hR3, l3, y3, z3⟩ := hQ3
    subst l3 y3 z3
    obtain ⟨b, rfl, Nq3, zc, Ec, Fi, Fd, Fk⟩ := hR3
    have N3 := Fr.app N0 Nq3
    have c4 : Steps p.tables e below S0 (T3.setTop (mkF m 66 #[.val (.int p1), .val (.int p2), .val (.int p3), .val (.int p4), .val (.int (0 : Int32)), .val .null, .unset, .unset] [(.ref b)])) := c2.trans (st3 _ (Steps.refl _))
    have szc : n0 ≤ T3.heap.size := Nat.le_trans Z0 zc
    have c5 : Steps p.tables e below S0 (T3.setTop (mkF m 70 #[.val (.int p1), .val (.int p2), .val (.int p3), .val (.int p4), .val (.int (0 : Int32)), .val .null, .val (.ref b), .unset] [(.ref b)])) := c4.trans (by
      refine XS.astore X3.here hx rfl (hb hby at_66) rfl rfl (l' := #[.val (.int p1), .val (.int p2), .val (.int p3), .val (.int p4), .val (.int (0 : Int32)), .val .null, .val (.ref b), .unset]) rfl ?_
      show Steps p.tables e below (T3.setTop (mkF m 68 #[.val (.int p1), .val (.int p2), .val (.int p3), .val (.int p4), .val (.int (0 : Int32)), .val .null, .val (.ref b), .unset] [])) _
      refine XS.aload X3.here hx rfl (hb hby at_68) rfl rfl ?_
      show Steps p.tables e below (T3.setTop (mkF m 70 #[.val (.int p1), .val (.int p2), .val (.int p3), .val (.int p4), .val (.int (0 : Int32)), .val .null, .val (.ref b), .unset] [(.ref b)])) _
      exact Steps.refl _)
    obtain ⟨cq6, kq6, q6a, q6b, q6c⟩ := isOf hZ rfl Ec
    obtain ⟨_, _, ⟨T6, L6, k6, n6⟩, -, X6, hQ6, st6⟩ := X3.virtualBack hx (y := (⟨"com/example/insegel/insegel/keyring/Destruction", "items", "()I"⟩ : MethodName)) (z := (⟨"com/example/insegel/insegel/keyring/Destruction", "items", "()I"⟩ : MethodName)) hown (mvT hZ (hw _ (List.mem_of_getElem? (i := 22) rfl))) (mvT hZ (hw _ (List.mem_of_getElem? (i := 23) rfl))) (notFace_of_selects (args := #[]) (mvT hZ (hw _ (List.mem_of_getElem? (i := 25) rfl)))) (mvT hZ (hw _ (List.mem_of_getElem? (i := 25) rfl))) (mvT hZ (hw _ (List.mem_of_getElem? (i := 24) rfl))) (by decide) (backOf (W := 0) (rm4 l Z a0 hw [] b p1 T3.heap n0 szc Fi) hZ (hw _ (List.mem_of_getElem? (i := 26) rfl)) (hw _ (List.mem_of_getElem? (i := 2) rfl)) (by decide) (by decide)) q6a q6c (g := (mkF m 70 #[.val (.int p1), .val (.int p2), .val (.int p3), .val (.int p4), .val (.int (0 : Int32)), .val .null, .val (.ref b), .unset] [(.ref b)])) rfl (by rw [hml]; rfl) (Steps.refl _) (argsL := []) (rest := []) (lenOf own_pd___I rfl) rfl (by show 2 * 0 + _ ≤ _; exact Nat.le_of_eq rfl) (hb hby at_70) (fun _ _ => ⟨rfl, rfl, (by decide : 1 + 0 ≤ _), (by decide : 5 + 0 ≤ _)⟩)
    dsimp only [Pt.U, Pt.locs, Pt.cells, Pt.slots] at X6 hQ6 st6
    obtain ⟨Lc6, hR6, l6, y6, z6⟩ := hQ6
    subst l6 y6 z6
    obtain ⟨rfl, Nq6, eq4⟩ := hR6
    have N6 := Fr.app N3 Nq6
    have c7 : Steps p.tables e below S0 (T6.setTop (mkF m 73 #[.val (.int p1), .val (.int p2), .val (.int p3), .val (.int p4), .val (.int (0 : Int32)), .val .null, .val (.ref b), .unset] [(.int p1)])) := c5.trans (st6)
    have Ec4 : Exa Z T6.heap b "com/example/insegel/insegel/keyring/Destruction" := by rw [eq4]; exact Ec
    have sz4_ : n0 ≤ T6.heap.size := by rw [eq4]; exact szc
    have F4_items : Fld Z T6.heap b "com/example/insegel/insegel/keyring/Destruction" "items" "I" (.int p1) := by rw [eq4]; exact Fi
    have F4_identities : Fld Z T6.heap b "com/example/insegel/insegel/keyring/Destruction" "identities" "I" (.int p2) := by rw [eq4]; exact Fd
    have F4_keptNoKeyFile : Fld Z T6.heap b "com/example/insegel/insegel/keyring/Destruction" "keptNoKeyFile" "Z" (.int 0) := by rw [eq4]; exact Fk
    have c8 : Steps p.tables e below S0 (T6.setTop (mkF m 91 #[.val (.int p1), .val (.int p2), .val (.int p3), .val (.int p4), .val (.int (0 : Int32)), .val .null, .val (.ref b), .val (.int (1 : Int32))] [(.ref b)])) := c7.trans (by
      refine XS.iloadN X6.here hx rfl (hb hby at_73) rfl ?_
      show Steps p.tables e below (T6.setTop (mkF m 74 #[.val (.int p1), .val (.int p2), .val (.int p3), .val (.int p4), .val (.int (0 : Int32)), .val .null, .val (.ref b), .unset] [(.int p1), (.int p1)])) _
      refine XS.icmpNo X6.here hx rfl (hb hby at_74) rfl (XT.ii_ne_f (rfl)) ?_
      show Steps p.tables e below (T6.setTop (mkF m 77 #[.val (.int p1), .val (.int p2), .val (.int p3), .val (.int p4), .val (.int (0 : Int32)), .val .null, .val (.ref b), .unset] [])) _
      refine XT.iconstV X6.here hx rfl (1 : Int32) (hb hby at_77) (by decide) ?_
      show Steps p.tables e below (T6.setTop (mkF m 78 #[.val (.int p1), .val (.int p2), .val (.int p3), .val (.int p4), .val (.int (0 : Int32)), .val .null, .val (.ref b), .unset] [(.int (1 : Int32))])) _
      refine XS.goto X6.here hx rfl (pc0 := 78) (pc' := 82) rfl (hb hby at_78) (by decide) (by decide) ?_
      show Steps p.tables e below (T6.setTop (mkF m 82 #[.val (.int p1), .val (.int p2), .val (.int p3), .val (.int p4), .val (.int (0 : Int32)), .val .null, .val (.ref b), .unset] [(.int (1 : Int32))])) _
      refine XS.istore X6.here hx rfl (hb hby at_82) rfl (l' := #[.val (.int p1), .val (.int p2), .val (.int p3), .val (.int p4), .val (.int (0 : Int32)), .val .null, .val (.ref b), .val (.int (1 : Int32))]) rfl ?_
      show Steps p.tables e below (T6.setTop (mkF m 84 #[.val (.int p1), .val (.int p2), .val (.int p3), .val (.int p4), .val (.int (0 : Int32)), .val .null, .val (.ref b), .val (.int (1 : Int32))] [])) _
      refine XS.iload X6.here hx rfl (hb hby at_84) rfl ?_
      show Steps p.tables e below (T6.setTop (mkF m 86 #[.val (.int p1), .val (.int p2), .val (.int p3), .val (.int p4), .val (.int (0 : Int32)), .val .null, .val (.ref b), .val (.int (1 : Int32))] [(.int (1 : Int32))])) _
      refine XS.ifNo X6.here hx rfl (hb hby at_86) rfl (XT.i0_eq_f (by decide)) ?_
      show Steps p.tables e below (T6.setTop (mkF m 89 #[.val (.int p1), .val (.int p2), .val (.int p3), .val (.int p4), .val (.int (0 : Int32)), .val .null, .val (.ref b), .val (.int (1 : Int32))] [])) _
      refine XS.aload X6.here hx rfl (hb hby at_89) rfl rfl ?_
      show Steps p.tables e below (T6.setTop (mkF m 91 #[.val (.int p1), .val (.int p2), .val (.int p3), .val (.int p4), .val (.int (0 : Int32)), .val .null, .val (.ref b), .val (.int (1 : Int32))] [(.ref b)])) _
      exact Steps.refl _)
    obtain ⟨cq9, kq9, q9a, q9b, q9c⟩ := isOf hZ rfl Ec4
    obtain ⟨_, _, ⟨T9, L9, k9, n9⟩, -, X9, hQ9, st9⟩ := X6.virtualBack hx (y := (⟨"com/example/insegel/insegel/keyring/Destruction", "identities", "()I"⟩ : MethodName)) (z := (⟨"com/example/insegel/insegel/keyring/Destruction", "identities", "()I"⟩ : MethodName)) hown (mvT hZ (hw _ (List.mem_of_getElem? (i := 27) rfl))) (mvT hZ (hw _ (List.mem_of_getElem? (i := 28) rfl))) (notFace_of_selects (args := #[]) (mvT hZ (hw _ (List.mem_of_getElem? (i := 30) rfl)))) (mvT hZ (hw _ (List.mem_of_getElem? (i := 30) rfl))) (mvT hZ (hw _ (List.mem_of_getElem? (i := 29) rfl))) (by decide) (backOf (W := 0) (rm5 l Z a0 hw [] b p2 T6.heap n0 sz4_ F4_identities) hZ (hw _ (List.mem_of_getElem? (i := 31) rfl)) (hw _ (List.mem_of_getElem? (i := 2) rfl)) (by decide) (by decide)) q9a q9c (g := (mkF m 91 #[.val (.int p1), .val (.int p2), .val (.int p3), .val (.int p4), .val (.int (0 : Int32)), .val .null, .val (.ref b), .val (.int (1 : Int32))] [(.ref b)])) rfl (by rw [hml]; rfl) (Steps.refl _) (argsL := []) (rest := []) (lenOf own_pd___I rfl) rfl (by show 2 * 0 + _ ≤ _; exact Nat.le_of_eq rfl) (hb hby at_91) (fun _ _ => ⟨rfl, rfl, (by decide : 1 + 0 ≤ _), (by decide : 5 + 0 ≤ _)⟩)
    dsimp only [Pt.U, Pt.locs, Pt.cells, Pt.slots] at X9 hQ9 st9
    obtain ⟨Lc9, hR9, l9, y9, z9⟩ := hQ9
    subst l9 y9 z9
    obtain ⟨rfl, Nq9, eq5⟩ := hR9
    have N9 := Fr.app N6 Nq9
    have c10 : Steps p.tables e below S0 (T9.setTop (mkF m 94 #[.val (.int p1), .val (.int p2), .val (.int p3), .val (.int p4), .val (.int (0 : Int32)), .val .null, .val (.ref b), .val (.int (1 : Int32))] [(.int p2)])) := c8.trans (st9)
    have Ec5 : Exa Z T9.heap b "com/example/insegel/insegel/keyring/Destruction" := by rw [eq5]; exact Ec4
    have sz5_ : n0 ≤ T9.heap.size := by rw [eq5]; exact sz4_
    have F5_items : Fld Z T9.heap b "com/example/insegel/insegel/keyring/Destruction" "items" "I" (.int p1) := by rw [eq5]; exact F4_items
    have F5_identities : Fld Z T9.heap b "com/example/insegel/insegel/keyring/Destruction" "identities" "I" (.int p2) := by rw [eq5]; exact F4_identities
    have F5_keptNoKeyFile : Fld Z T9.heap b "com/example/insegel/insegel/keyring/Destruction" "keptNoKeyFile" "Z" (.int 0) := by rw [eq5]; exact F4_keptNoKeyFile
    have c11 : Steps p.tables e below S0 (T9.setTop (mkF m 112 #[.val (.int p1), .val (.int p2), .val (.int p3), .val (.int p4), .val (.int (0 : Int32)), .val .null, .val (.ref b), .val (.int (1 : Int32))] [(.ref b)])) := c10.trans (by
      refine XS.iloadN X9.here hx rfl (hb hby at_94) rfl ?_
      show Steps p.tables e below (T9.setTop (mkF m 95 #[.val (.int p1), .val (.int p2), .val (.int p3), .val (.int p4), .val (.int (0 : Int32)), .val .null, .val (.ref b), .val (.int (1 : Int32))] [(.int p2), (.int p2)])) _
      refine XS.icmpNo X9.here hx rfl (hb hby at_95) rfl (XT.ii_ne_f (rfl)) ?_
      show Steps p.tables e below (T9.setTop (mkF m 98 #[.val (.int p1), .val (.int p2), .val (.int p3), .val (.int p4), .val (.int (0 : Int32)), .val .null, .val (.ref b), .val (.int (1 : Int32))] [])) _
      refine XT.iconstV X9.here hx rfl (1 : Int32) (hb hby at_98) (by decide) ?_
      show Steps p.tables e below (T9.setTop (mkF m 99 #[.val (.int p1), .val (.int p2), .val (.int p3), .val (.int p4), .val (.int (0 : Int32)), .val .null, .val (.ref b), .val (.int (1 : Int32))] [(.int (1 : Int32))])) _
      refine XS.goto X9.here hx rfl (pc0 := 99) (pc' := 103) rfl (hb hby at_99) (by decide) (by decide) ?_
      show Steps p.tables e below (T9.setTop (mkF m 103 #[.val (.int p1), .val (.int p2), .val (.int p3), .val (.int p4), .val (.int (0 : Int32)), .val .null, .val (.ref b), .val (.int (1 : Int32))] [(.int (1 : Int32))])) _
      refine XS.istore X9.here hx rfl (hb hby at_103) rfl (l' := #[.val (.int p1), .val (.int p2), .val (.int p3), .val (.int p4), .val (.int (0 : Int32)), .val .null, .val (.ref b), .val (.int (1 : Int32))]) rfl ?_
      show Steps p.tables e below (T9.setTop (mkF m 105 #[.val (.int p1), .val (.int p2), .val (.int p3), .val (.int p4), .val (.int (0 : Int32)), .val .null, .val (.ref b), .val (.int (1 : Int32))] [])) _
      refine XS.iload X9.here hx rfl (hb hby at_105) rfl ?_
      show Steps p.tables e below (T9.setTop (mkF m 107 #[.val (.int p1), .val (.int p2), .val (.int p3), .val (.int p4), .val (.int (0 : Int32)), .val .null, .val (.ref b), .val (.int (1 : Int32))] [(.int (1 : Int32))])) _
      refine XS.ifNo X9.here hx rfl (hb hby at_107) rfl (XT.i0_eq_f (by decide)) ?_
      show Steps p.tables e below (T9.setTop (mkF m 110 #[.val (.int p1), .val (.int p2), .val (.int p3), .val (.int p4), .val (.int (0 : Int32)), .val .null, .val (.ref b), .val (.int (1 : Int32))] [])) _
      refine XS.aload X9.here hx rfl (hb hby at_110) rfl rfl ?_
      show Steps p.tables e below (T9.setTop (mkF m 112 #[.val (.int p1), .val (.int p2), .val (.int p3), .val (.int p4), .val (.int (0 : Int32)), .val .null, .val (.ref b), .val (.int (1 : Int32))] [(.ref b)])) _
      exact Steps.refl _)
    obtain ⟨cq12, kq12, q12a, q12b, q12c⟩ := isOf hZ rfl Ec5
    obtain ⟨_, _, ⟨T12, L12, k12, n12⟩, -, X12, hQ12, st12⟩ := X9.virtualBack hx (y := (⟨"com/example/insegel/insegel/keyring/Destruction", "keptNoKeyFile", "()Z"⟩ : MethodName)) (z := (⟨"com/example/insegel/insegel/keyring/Destruction", "keptNoKeyFile", "()Z"⟩ : MethodName)) hown (mvT hZ (hw _ (List.mem_of_getElem? (i := 32) rfl))) (mvT hZ (hw _ (List.mem_of_getElem? (i := 33) rfl))) (notFace_of_selects (args := #[]) (mvT hZ (hw _ (List.mem_of_getElem? (i := 35) rfl)))) (mvT hZ (hw _ (List.mem_of_getElem? (i := 35) rfl))) (mvT hZ (hw _ (List.mem_of_getElem? (i := 34) rfl))) (by decide) (backOf (W := 0) (rm6n l Z a0 hw [] b T9.heap n0 sz5_ F5_keptNoKeyFile) hZ (hw _ (List.mem_of_getElem? (i := 36) rfl)) (hw _ (List.mem_of_getElem? (i := 2) rfl)) (by decide) (by decide)) q12a q12c (g := (mkF m 112 #[.val (.int p1), .val (.int p2), .val (.int p3), .val (.int p4), .val (.int (0 : Int32)), .val .null, .val (.ref b), .val (.int (1 : Int32))] [(.ref b)])) rfl (by rw [hml]; rfl) (Steps.refl _) (argsL := []) (rest := []) (lenOf own_pd___Z rfl) rfl (by show 2 * 0 + _ ≤ _; exact Nat.le_of_eq rfl) (hb hby at_112) (fun _ _ => ⟨rfl, rfl, (by decide : 1 + 0 ≤ _), (by decide : 5 + 0 ≤ _)⟩)
    dsimp only [Pt.U, Pt.locs, Pt.cells, Pt.slots] at X12 hQ12 st12
    obtain ⟨Lc12, hR12, l12, y12, z12⟩ := hQ12
    subst l12 y12 z12
    obtain ⟨rfl, Nq12, eq6⟩ := hR12
    have N12 := Fr.app N9 Nq12
    have c13 : Steps p.tables e below S0 (T12.setTop (mkF m 115 #[.val (.int p1), .val (.int p2), .val (.int p3), .val (.int p4), .val (.int (0 : Int32)), .val .null, .val (.ref b), .val (.int (1 : Int32))] [(.int (0 : Int32))])) := c11.trans (st12)
    have Ec6 : Exa Z T12.heap b "com/example/insegel/insegel/keyring/Destruction" := by rw [eq6]; exact Ec5
    have sz6_ : n0 ≤ T12.heap.size := by rw [eq6]; exact sz5_
    have F6_items : Fld Z T12.heap b "com/example/insegel/insegel/keyring/Destruction" "items" "I" (.int p1) := by rw [eq6]; exact F5_items
    have F6_identities : Fld Z T12.heap b "com/example/insegel/insegel/keyring/Destruction" "identities" "I" (.int p2) := by rw [eq6]; exact F5_identities
    have F6_keptNoKeyFile : Fld Z T12.heap b "com/example/insegel/insegel/keyring/Destruction" "keptNoKeyFile" "Z" (.int 0) := by rw [eq6]; exact F5_keptNoKeyFile
    have c14 : Steps p.tables e below S0 (T12.setTop (mkF m 129 #[.val (.int p1), .val (.int p2), .val (.int p3), .val (.int p4), .val (.int (0 : Int32)), .val .null, .val (.ref b), .val (.int (1 : Int32))] [(.int (1 : Int32))])) := c13.trans (by
      refine XS.iload X12.here hx rfl (hb hby at_115) rfl ?_
      show Steps p.tables e below (T12.setTop (mkF m 117 #[.val (.int p1), .val (.int p2), .val (.int p3), .val (.int p4), .val (.int (0 : Int32)), .val .null, .val (.ref b), .val (.int (1 : Int32))] [(.int (0 : Int32)), (.int (0 : Int32))])) _
      refine XS.icmpNo X12.here hx rfl (hb hby at_117) rfl (XT.ii_ne_f (rfl)) ?_
      show Steps p.tables e below (T12.setTop (mkF m 120 #[.val (.int p1), .val (.int p2), .val (.int p3), .val (.int p4), .val (.int (0 : Int32)), .val .null, .val (.ref b), .val (.int (1 : Int32))] [])) _
      refine XT.iconstV X12.here hx rfl (1 : Int32) (hb hby at_120) (by decide) ?_
      show Steps p.tables e below (T12.setTop (mkF m 121 #[.val (.int p1), .val (.int p2), .val (.int p3), .val (.int p4), .val (.int (0 : Int32)), .val .null, .val (.ref b), .val (.int (1 : Int32))] [(.int (1 : Int32))])) _
      refine XS.goto X12.here hx rfl (pc0 := 121) (pc' := 125) rfl (hb hby at_121) (by decide) (by decide) ?_
      show Steps p.tables e below (T12.setTop (mkF m 125 #[.val (.int p1), .val (.int p2), .val (.int p3), .val (.int p4), .val (.int (0 : Int32)), .val .null, .val (.ref b), .val (.int (1 : Int32))] [(.int (1 : Int32))])) _
      refine XS.istore X12.here hx rfl (hb hby at_125) rfl (l' := #[.val (.int p1), .val (.int p2), .val (.int p3), .val (.int p4), .val (.int (0 : Int32)), .val .null, .val (.ref b), .val (.int (1 : Int32))]) rfl ?_
      show Steps p.tables e below (T12.setTop (mkF m 127 #[.val (.int p1), .val (.int p2), .val (.int p3), .val (.int p4), .val (.int (0 : Int32)), .val .null, .val (.ref b), .val (.int (1 : Int32))] [])) _
      refine XS.iload X12.here hx rfl (hb hby at_127) rfl ?_
      show Steps p.tables e below (T12.setTop (mkF m 129 #[.val (.int p1), .val (.int p2), .val (.int p3), .val (.int p4), .val (.int (0 : Int32)), .val .null, .val (.ref b), .val (.int (1 : Int32))] [(.int (1 : Int32))])) _
      exact Steps.refl _)
    obtain ⟨fs, hr, hrun, hended, hW, hsame⟩ := X12.leave (v := some (.int (1 : Int32))) (fun h => by rw [Bd.returns] at h; cases h)
    refine ⟨_, _, pre0 _ ?_, hrun, hended, _, _, rfl, ?_, ⟨_, rfl⟩, hW, hsame.mono (by decide) (by decide)⟩
    · rw [← hS0]
      exact c14.trans (retN X12 hx (t := .boolean) Bd.returns (by simp) (hb hby at_129) hr)
    · show Qrm0 Z p1 p2 p3 p4 h0 n0 _ T12.heap _
      exact ⟨rfl, N12⟩
  ·
    have c15 : Steps p.tables e below S0 (s₁.setTop (mkF m 22 #[.val (.int p1), .val (.int p2), .val (.int p3), .val (.int p4), .val (.int (1 : Int32)), .val .null, .unset, .unset] [(.int (4 : Int32))])) := c1.trans (by
      refine XS.ifNo X0.here hx rfl (hb hby at_3) rfl (XT.i0_eq_f k1) ?_
      show Steps p.tables e below (s₁.setTop (mkF m 6 #[.val (.int p1), .val (.int p2), .val (.int p3), .val (.int p4), .unset, .unset, .unset, .unset] [])) _
      refine XT.iconstV X0.here hx rfl (1 : Int32) (hb hby at_6) (by decide) ?_
      show Steps p.tables e below (s₁.setTop (mkF m 7 #[.val (.int p1), .val (.int p2), .val (.int p3), .val (.int p4), .unset, .unset, .unset, .unset] [(.int (1 : Int32))])) _
      refine XS.goto X0.here hx rfl (pc0 := 7) (pc' := 11) rfl (hb hby at_7) (by decide) (by decide) ?_
      show Steps p.tables e below (s₁.setTop (mkF m 11 #[.val (.int p1), .val (.int p2), .val (.int p3), .val (.int p4), .unset, .unset, .unset, .unset] [(.int (1 : Int32))])) _
      refine XS.istore X0.here hx rfl (hb hby at_11) rfl (l' := #[.val (.int p1), .val (.int p2), .val (.int p3), .val (.int p4), .val (.int (1 : Int32)), .unset, .unset, .unset]) rfl ?_
      show Steps p.tables e below (s₁.setTop (mkF m 13 #[.val (.int p1), .val (.int p2), .val (.int p3), .val (.int p4), .val (.int (1 : Int32)), .unset, .unset, .unset] [])) _
      refine XS.aconstNull X0.here hx rfl (hb hby at_13) ?_
      show Steps p.tables e below (s₁.setTop (mkF m 14 #[.val (.int p1), .val (.int p2), .val (.int p3), .val (.int p4), .val (.int (1 : Int32)), .unset, .unset, .unset] [.null])) _
      refine XS.astore X0.here hx rfl (hb hby at_14) rfl rfl (l' := #[.val (.int p1), .val (.int p2), .val (.int p3), .val (.int p4), .val (.int (1 : Int32)), .val .null, .unset, .unset]) rfl ?_
      show Steps p.tables e below (s₁.setTop (mkF m 16 #[.val (.int p1), .val (.int p2), .val (.int p3), .val (.int p4), .val (.int (1 : Int32)), .val .null, .unset, .unset] [])) _
      refine XS.iload X0.here hx rfl (hb hby at_16) rfl ?_
      show Steps p.tables e below (s₁.setTop (mkF m 18 #[.val (.int p1), .val (.int p2), .val (.int p3), .val (.int p4), .val (.int (1 : Int32)), .val .null, .unset, .unset] [(.int (1 : Int32))])) _
      refine XS.ifNo X0.here hx rfl (hb hby at_18) rfl (XT.i0_eq_f (by decide)) ?_
      show Steps p.tables e below (s₁.setTop (mkF m 21 #[.val (.int p1), .val (.int p2), .val (.int p3), .val (.int p4), .val (.int (1 : Int32)), .val .null, .unset, .unset] [])) _
      refine XT.iconstV X0.here hx rfl (4 : Int32) (hb hby at_21) (by decide) ?_
      show Steps p.tables e below (s₁.setTop (mkF m 22 #[.val (.int p1), .val (.int p2), .val (.int p3), .val (.int p4), .val (.int (1 : Int32)), .val .null, .unset, .unset] [(.int (4 : Int32))])) _
      exact Steps.refl _)
    obtain ⟨T16, h16, k16, X16, e16, E16, A16, st16⟩ := newP X0 hx hZ (hw _ (List.mem_of_getElem? (i := 37) rfl)) e0 (g := (mkF m 22 #[.val (.int p1), .val (.int p2), .val (.int p3), .val (.int p4), .val (.int (1 : Int32)), .val .null, .unset, .unset] [(.int (4 : Int32))])) rfl (hb hby at_22) rfl (by decide) (cap := 4) (by decide) (by decide) (by decide) (by decide)
    obtain ⟨ar, g16⟩ : ∃ z, z = h0.size := ⟨_, rfl⟩
    rw [← g16] at A16 st16
    obtain ⟨cl_ar, D_ar⟩ : ∃ z, z = newA k16 .byte (4 : Int32) := ⟨_, rfl⟩
    have Ar_ar : Arr Z h16 ar cl_ar .byte := by rw [D_ar]; exact A16
    have S_ar : cl_ar.slots.size = (4 : Int32).toNatClampNeg := by rw [D_ar]; exact sz_new _ _ _
    have g_ar : n0 ≤ ar := Nat.le_trans Z0 (Nat.le_of_eq g16.symm)
    have sz16 : n0 ≤ h16.size := Nat.le_trans Z0 E16.1
    have c17 : Steps p.tables e below S0 (T16.setTop (mkF m 24 #[.val (.int p1), .val (.int p2), .val (.int p3), .val (.int p4), .val (.int (1 : Int32)), .val .null, .unset, .unset] [(.ref ar)])) := c15.trans (st16 _ (Steps.refl _))
    have S_4 : cl_ar.slots.size = 4 := S_ar.trans (by decide)
    have hin0 : ¬ ((0 : Int32) < 0 ∨ cl_ar.slots.size ≤ (0 : Int32).toNatClampNeg) := by rw [S_4]; decide
    have c18 : Steps p.tables e below S0 (T16.setTop (mkF m 31 #[.val (.int p1), .val (.int p2), .val (.int p3), .val (.int p4), .val (.int (1 : Int32)), .val (.ref ar), .unset, .unset] [(.int (p4.toInt8.toInt32)), (.int (0 : Int32)), (.ref ar)])) := c17.trans (by
      refine XS.astore X16.here hx rfl (hb hby at_24) rfl rfl (l' := #[.val (.int p1), .val (.int p2), .val (.int p3), .val (.int p4), .val (.int (1 : Int32)), .val (.ref ar), .unset, .unset]) rfl ?_
      show Steps p.tables e below (T16.setTop (mkF m 26 #[.val (.int p1), .val (.int p2), .val (.int p3), .val (.int p4), .val (.int (1 : Int32)), .val (.ref ar), .unset, .unset] [])) _
      refine XS.aload X16.here hx rfl (hb hby at_26) rfl rfl ?_
      show Steps p.tables e below (T16.setTop (mkF m 28 #[.val (.int p1), .val (.int p2), .val (.int p3), .val (.int p4), .val (.int (1 : Int32)), .val (.ref ar), .unset, .unset] [(.ref ar)])) _
      refine XT.iconstV X16.here hx rfl (0 : Int32) (hb hby at_28) (by decide) ?_
      show Steps p.tables e below (T16.setTop (mkF m 29 #[.val (.int p1), .val (.int p2), .val (.int p3), .val (.int p4), .val (.int (1 : Int32)), .val (.ref ar), .unset, .unset] [(.int (0 : Int32)), (.ref ar)])) _
      refine XS.iloadN X16.here hx rfl (hb hby at_29) rfl ?_
      show Steps p.tables e below (T16.setTop (mkF m 30 #[.val (.int p1), .val (.int p2), .val (.int p3), .val (.int p4), .val (.int (1 : Int32)), .val (.ref ar), .unset, .unset] [(.int p4), (.int (0 : Int32)), (.ref ar)])) _
      refine XT.i2b X16.here hx rfl (hb hby at_30) rfl ?_
      show Steps p.tables e below (T16.setTop (mkF m 31 #[.val (.int p1), .val (.int p2), .val (.int p3), .val (.int p4), .val (.int (1 : Int32)), .val (.ref ar), .unset, .unset] [(.int (p4.toInt8.toInt32)), (.int (0 : Int32)), (.ref ar)])) _
      exact Steps.refl _)
    obtain ⟨T19, h19, X19, e19, W19, st19⟩ := stB X16 hx hZ e16 Ar_ar (j := (0 : Int32)) hin0 (g := (mkF m 31 #[.val (.int p1), .val (.int p2), .val (.int p3), .val (.int p4), .val (.int (1 : Int32)), .val (.ref ar), .unset, .unset] [(.int (p4.toInt8.toInt32)), (.int (0 : Int32)), (.ref ar)])) rfl rfl (hb hby at_31)
    have c20 : Steps p.tables e below S0 (T19.setTop (mkF m 32 #[.val (.int p1), .val (.int p2), .val (.int p3), .val (.int p4), .val (.int (1 : Int32)), .val (.ref ar), .unset, .unset] [])) := c18.trans (st19 _ (Steps.refl _))
    have N19 := Fr.snoc X19 N0 g_ar
    have sz19 : n0 ≤ h19.size := Nat.le_trans sz16 (Keep.of_wr W19).1
    obtain ⟨cl_ar1, Ar1, S1⟩ : ∃ z : Cell, Arr Z h19 ar z .byte ∧ z.slots.size = 4 := ⟨_, Ar_ar.same W19, (sz_set _ _ _).trans S_4⟩
    have hin1 : ¬ ((1 : Int32) < 0 ∨ cl_ar1.slots.size ≤ (1 : Int32).toNatClampNeg) := by rw [S1]; decide
    have c21 : Steps p.tables e below S0 (T19.setTop (mkF m 40 #[.val (.int p1), .val (.int p2), .val (.int p3), .val (.int p4), .val (.int (1 : Int32)), .val (.ref ar), .unset, .unset] [(.int (((p4.toUInt32 >>> ((8 : Int32) &&& 31).toUInt32).toInt32).toInt8.toInt32)), (.int (1 : Int32)), (.ref ar)])) := c20.trans (by
      refine XS.aload X19.here hx rfl (hb hby at_32) rfl rfl ?_
      show Steps p.tables e below (T19.setTop (mkF m 34 #[.val (.int p1), .val (.int p2), .val (.int p3), .val (.int p4), .val (.int (1 : Int32)), .val (.ref ar), .unset, .unset] [(.ref ar)])) _
      refine XT.iconstV X19.here hx rfl (1 : Int32) (hb hby at_34) (by decide) ?_
      show Steps p.tables e below (T19.setTop (mkF m 35 #[.val (.int p1), .val (.int p2), .val (.int p3), .val (.int p4), .val (.int (1 : Int32)), .val (.ref ar), .unset, .unset] [(.int (1 : Int32)), (.ref ar)])) _
      refine XS.iloadN X19.here hx rfl (hb hby at_35) rfl ?_
      show Steps p.tables e below (T19.setTop (mkF m 36 #[.val (.int p1), .val (.int p2), .val (.int p3), .val (.int p4), .val (.int (1 : Int32)), .val (.ref ar), .unset, .unset] [(.int p4), (.int (1 : Int32)), (.ref ar)])) _
      refine XT.bipushV X19.here hx rfl (8 : Int32) (hb hby at_36) (by decide) ?_
      show Steps p.tables e below (T19.setTop (mkF m 38 #[.val (.int p1), .val (.int p2), .val (.int p3), .val (.int p4), .val (.int (1 : Int32)), .val (.ref ar), .unset, .unset] [(.int (8 : Int32)), (.int p4), (.int (1 : Int32)), (.ref ar)])) _
      refine XT.iushr X19.here hx rfl (hb hby at_38) rfl ?_
      show Steps p.tables e below (T19.setTop (mkF m 39 #[.val (.int p1), .val (.int p2), .val (.int p3), .val (.int p4), .val (.int (1 : Int32)), .val (.ref ar), .unset, .unset] [(.int ((p4.toUInt32 >>> ((8 : Int32) &&& 31).toUInt32).toInt32)), (.int (1 : Int32)), (.ref ar)])) _
      refine XT.i2b X19.here hx rfl (hb hby at_39) rfl ?_
      show Steps p.tables e below (T19.setTop (mkF m 40 #[.val (.int p1), .val (.int p2), .val (.int p3), .val (.int p4), .val (.int (1 : Int32)), .val (.ref ar), .unset, .unset] [(.int (((p4.toUInt32 >>> ((8 : Int32) &&& 31).toUInt32).toInt32).toInt8.toInt32)), (.int (1 : Int32)), (.ref ar)])) _
      exact Steps.refl _)
    obtain ⟨T22, h22, X22, e22, W22, st22⟩ := stB X19 hx hZ e19 Ar1 (j := (1 : Int32)) hin1 (g := (mkF m 40 #[.val (.int p1), .val (.int p2), .val (.int p3), .val (.int p4), .val (.int (1 : Int32)), .val (.ref ar), .unset, .unset] [(.int (((p4.toUInt32 >>> ((8 : Int32) &&& 31).toUInt32).toInt32).toInt8.toInt32)), (.int (1 : Int32)), (.ref ar)])) rfl rfl (hb hby at_40)
    have c23 : Steps p.tables e below S0 (T22.setTop (mkF m 41 #[.val (.int p1), .val (.int p2), .val (.int p3), .val (.int p4), .val (.int (1 : Int32)), .val (.ref ar), .unset, .unset] [])) := c21.trans (st22 _ (Steps.refl _))
    have N22 := Fr.snoc X22 N19 g_ar
    have sz22 : n0 ≤ h22.size := Nat.le_trans sz19 (Keep.of_wr W22).1
    obtain ⟨cl_ar2, Ar2, S2⟩ : ∃ z : Cell, Arr Z h22 ar z .byte ∧ z.slots.size = 4 := ⟨_, Ar1.same W22, (sz_set _ _ _).trans S1⟩
    have hin2 : ¬ ((2 : Int32) < 0 ∨ cl_ar2.slots.size ≤ (2 : Int32).toNatClampNeg) := by rw [S2]; decide
    have c24 : Steps p.tables e below S0 (T22.setTop (mkF m 49 #[.val (.int p1), .val (.int p2), .val (.int p3), .val (.int p4), .val (.int (1 : Int32)), .val (.ref ar), .unset, .unset] [(.int (((p4.toUInt32 >>> ((16 : Int32) &&& 31).toUInt32).toInt32).toInt8.toInt32)), (.int (2 : Int32)), (.ref ar)])) := c23.trans (by
      refine XS.aload X22.here hx rfl (hb hby at_41) rfl rfl ?_
      show Steps p.tables e below (T22.setTop (mkF m 43 #[.val (.int p1), .val (.int p2), .val (.int p3), .val (.int p4), .val (.int (1 : Int32)), .val (.ref ar), .unset, .unset] [(.ref ar)])) _
      refine XT.iconstV X22.here hx rfl (2 : Int32) (hb hby at_43) (by decide) ?_
      show Steps p.tables e below (T22.setTop (mkF m 44 #[.val (.int p1), .val (.int p2), .val (.int p3), .val (.int p4), .val (.int (1 : Int32)), .val (.ref ar), .unset, .unset] [(.int (2 : Int32)), (.ref ar)])) _
      refine XS.iloadN X22.here hx rfl (hb hby at_44) rfl ?_
      show Steps p.tables e below (T22.setTop (mkF m 45 #[.val (.int p1), .val (.int p2), .val (.int p3), .val (.int p4), .val (.int (1 : Int32)), .val (.ref ar), .unset, .unset] [(.int p4), (.int (2 : Int32)), (.ref ar)])) _
      refine XT.bipushV X22.here hx rfl (16 : Int32) (hb hby at_45) (by decide) ?_
      show Steps p.tables e below (T22.setTop (mkF m 47 #[.val (.int p1), .val (.int p2), .val (.int p3), .val (.int p4), .val (.int (1 : Int32)), .val (.ref ar), .unset, .unset] [(.int (16 : Int32)), (.int p4), (.int (2 : Int32)), (.ref ar)])) _
      refine XT.iushr X22.here hx rfl (hb hby at_47) rfl ?_
      show Steps p.tables e below (T22.setTop (mkF m 48 #[.val (.int p1), .val (.int p2), .val (.int p3), .val (.int p4), .val (.int (1 : Int32)), .val (.ref ar), .unset, .unset] [(.int ((p4.toUInt32 >>> ((16 : Int32) &&& 31).toUInt32).toInt32)), (.int (2 : Int32)), (.ref ar)])) _
      refine XT.i2b X22.here hx rfl (hb hby at_48) rfl ?_
      show Steps p.tables e below (T22.setTop (mkF m 49 #[.val (.int p1), .val (.int p2), .val (.int p3), .val (.int p4), .val (.int (1 : Int32)), .val (.ref ar), .unset, .unset] [(.int (((p4.toUInt32 >>> ((16 : Int32) &&& 31).toUInt32).toInt32).toInt8.toInt32)), (.int (2 : Int32)), (.ref ar)])) _
      exact Steps.refl _)
    obtain ⟨T25, h25, X25, e25, W25, st25⟩ := stB X22 hx hZ e22 Ar2 (j := (2 : Int32)) hin2 (g := (mkF m 49 #[.val (.int p1), .val (.int p2), .val (.int p3), .val (.int p4), .val (.int (1 : Int32)), .val (.ref ar), .unset, .unset] [(.int (((p4.toUInt32 >>> ((16 : Int32) &&& 31).toUInt32).toInt32).toInt8.toInt32)), (.int (2 : Int32)), (.ref ar)])) rfl rfl (hb hby at_49)
    have c26 : Steps p.tables e below S0 (T25.setTop (mkF m 50 #[.val (.int p1), .val (.int p2), .val (.int p3), .val (.int p4), .val (.int (1 : Int32)), .val (.ref ar), .unset, .unset] [])) := c24.trans (st25 _ (Steps.refl _))
    have N25 := Fr.snoc X25 N22 g_ar
    have sz25 : n0 ≤ h25.size := Nat.le_trans sz22 (Keep.of_wr W25).1
    obtain ⟨cl_ar3, Ar3, S3⟩ : ∃ z : Cell, Arr Z h25 ar z .byte ∧ z.slots.size = 4 := ⟨_, Ar2.same W25, (sz_set _ _ _).trans S2⟩
    have hin3 : ¬ ((3 : Int32) < 0 ∨ cl_ar3.slots.size ≤ (3 : Int32).toNatClampNeg) := by rw [S3]; decide
    have c27 : Steps p.tables e below S0 (T25.setTop (mkF m 58 #[.val (.int p1), .val (.int p2), .val (.int p3), .val (.int p4), .val (.int (1 : Int32)), .val (.ref ar), .unset, .unset] [(.int (((p4.toUInt32 >>> ((24 : Int32) &&& 31).toUInt32).toInt32).toInt8.toInt32)), (.int (3 : Int32)), (.ref ar)])) := c26.trans (by
      refine XS.aload X25.here hx rfl (hb hby at_50) rfl rfl ?_
      show Steps p.tables e below (T25.setTop (mkF m 52 #[.val (.int p1), .val (.int p2), .val (.int p3), .val (.int p4), .val (.int (1 : Int32)), .val (.ref ar), .unset, .unset] [(.ref ar)])) _
      refine XT.iconstV X25.here hx rfl (3 : Int32) (hb hby at_52) (by decide) ?_
      show Steps p.tables e below (T25.setTop (mkF m 53 #[.val (.int p1), .val (.int p2), .val (.int p3), .val (.int p4), .val (.int (1 : Int32)), .val (.ref ar), .unset, .unset] [(.int (3 : Int32)), (.ref ar)])) _
      refine XS.iloadN X25.here hx rfl (hb hby at_53) rfl ?_
      show Steps p.tables e below (T25.setTop (mkF m 54 #[.val (.int p1), .val (.int p2), .val (.int p3), .val (.int p4), .val (.int (1 : Int32)), .val (.ref ar), .unset, .unset] [(.int p4), (.int (3 : Int32)), (.ref ar)])) _
      refine XT.bipushV X25.here hx rfl (24 : Int32) (hb hby at_54) (by decide) ?_
      show Steps p.tables e below (T25.setTop (mkF m 56 #[.val (.int p1), .val (.int p2), .val (.int p3), .val (.int p4), .val (.int (1 : Int32)), .val (.ref ar), .unset, .unset] [(.int (24 : Int32)), (.int p4), (.int (3 : Int32)), (.ref ar)])) _
      refine XT.iushr X25.here hx rfl (hb hby at_56) rfl ?_
      show Steps p.tables e below (T25.setTop (mkF m 57 #[.val (.int p1), .val (.int p2), .val (.int p3), .val (.int p4), .val (.int (1 : Int32)), .val (.ref ar), .unset, .unset] [(.int ((p4.toUInt32 >>> ((24 : Int32) &&& 31).toUInt32).toInt32)), (.int (3 : Int32)), (.ref ar)])) _
      refine XT.i2b X25.here hx rfl (hb hby at_57) rfl ?_
      show Steps p.tables e below (T25.setTop (mkF m 58 #[.val (.int p1), .val (.int p2), .val (.int p3), .val (.int p4), .val (.int (1 : Int32)), .val (.ref ar), .unset, .unset] [(.int (((p4.toUInt32 >>> ((24 : Int32) &&& 31).toUInt32).toInt32).toInt8.toInt32)), (.int (3 : Int32)), (.ref ar)])) _
      exact Steps.refl _)
    obtain ⟨T28, h28, X28, e28, W28, st28⟩ := stB X25 hx hZ e25 Ar3 (j := (3 : Int32)) hin3 (g := (mkF m 58 #[.val (.int p1), .val (.int p2), .val (.int p3), .val (.int p4), .val (.int (1 : Int32)), .val (.ref ar), .unset, .unset] [(.int (((p4.toUInt32 >>> ((24 : Int32) &&& 31).toUInt32).toInt32).toInt8.toInt32)), (.int (3 : Int32)), (.ref ar)])) rfl rfl (hb hby at_58)
    have c29 : Steps p.tables e below S0 (T28.setTop (mkF m 59 #[.val (.int p1), .val (.int p2), .val (.int p3), .val (.int p4), .val (.int (1 : Int32)), .val (.ref ar), .unset, .unset] [])) := c27.trans (st28 _ (Steps.refl _))
    have N28 := Fr.snoc X28 N25 g_ar
    have sz28 : n0 ≤ h28.size := Nat.le_trans sz25 (Keep.of_wr W28).1
    obtain ⟨cl_ar4, Ar4, S4⟩ : ∃ z : Cell, Arr Z h28 ar z .byte ∧ z.slots.size = 4 := ⟨_, Ar3.same W28, (sz_set _ _ _).trans S3⟩
    have c30 : Steps p.tables e below S0 (T28.setTop (mkF m 63 #[.val (.int p1), .val (.int p2), .val (.int p3), .val (.int p4), .val (.int (1 : Int32)), .val (.ref ar), .unset, .unset] [(.ref ar), (.int p2), (.int p1)])) := c29.trans (by
      refine XS.iloadN X28.here hx rfl (hb hby at_59) rfl ?_
      show Steps p.tables e below (T28.setTop (mkF m 60 #[.val (.int p1), .val (.int p2), .val (.int p3), .val (.int p4), .val (.int (1 : Int32)), .val (.ref ar), .unset, .unset] [(.int p1)])) _
      refine XS.iloadN X28.here hx rfl (hb hby at_60) rfl ?_
      show Steps p.tables e below (T28.setTop (mkF m 61 #[.val (.int p1), .val (.int p2), .val (.int p3), .val (.int p4), .val (.int (1 : Int32)), .val (.ref ar), .unset, .unset] [(.int p2), (.int p1)])) _
      refine XS.aload X28.here hx rfl (hb hby at_61) rfl rfl ?_
      show Steps p.tables e below (T28.setTop (mkF m 63 #[.val (.int p1), .val (.int p2), .val (.int p3), .val (.int p4), .val (.int (1 : Int32)), .val (.ref ar), .unset, .unset] [(.ref ar), (.int p2), (.int p1)])) _
      exact Steps.refl _)
    obtain ⟨_, _, ⟨T31, L31, k31, n31⟩, -, X31, hQ31, st31⟩ := Jvm.LawKit.callS X28 hx (y := (⟨"com/example/insegel/insegel/keyring/Destruction", "counted", "(II[B)Lcom/example/insegel/insegel/keyring/Destruction;"⟩ : MethodName)) hown (mvT hZ (hw _ (List.mem_of_getElem? (i := 0) rfl))) (mvT hZ (hw _ (List.mem_of_getElem? (i := 1) rfl))) (mvT hZ (hw _ (List.mem_of_getElem? (i := 2) rfl))) (mvT hZ (hw _ (List.mem_of_getElem? (i := 3) rfl))) (by decide) (backOf (W := 0) (rm1k l Z a0 hw [] p1 p2 ar h28 n0 sz28) hZ (hw _ (List.mem_of_getElem? (i := 3) rfl)) (hw _ (List.mem_of_getElem? (i := 2) rfl)) (by decide) (by decide)) (g := (mkF m 63 #[.val (.int p1), .val (.int p2), .val (.int p3), .val (.int p4), .val (.int (1 : Int32)), .val (.ref ar), .unset, .unset] [(.ref ar), (.int p2), (.int p1)])) rfl (by rw [hml]; rfl) (argsL := [(.int p1), (.int p2), (.ref ar)]) (rest := []) (lenOf own_pd__II_B_Lcom_example_insegel_insegel_keyring_Destruction_ rfl) rfl (by show 2 * 0 + _ ≤ _; exact Nat.le_of_eq rfl) (hb hby at_63) (fun _ _ => ⟨rfl, e28, (by decide : 1 + 1 ≤ _), (by decide : 4 + 5 ≤ _)⟩)
    dsimp only [Pt.U, Pt.locs, Pt.cells, Pt.slots] at X31 hQ31 st31
    obtain ⟨Lc31, hR31, l31, y31, z31⟩ := hQ31
    subst l31 y31 z31
    obtain ⟨b, rfl, Nq31, zc, Ec, Fi, Fd, Fk⟩ := hR31
    have N31 := Fr.app N28 Nq31
    have c32 : Steps p.tables e below S0 (T31.setTop (mkF m 66 #[.val (.int p1), .val (.int p2), .val (.int p3), .val (.int p4), .val (.int (1 : Int32)), .val (.ref ar), .unset, .unset] [(.ref b)])) := c30.trans (st31 _ (Steps.refl _))
    have szc : n0 ≤ T31.heap.size := Nat.le_trans sz28 zc
    have c33 : Steps p.tables e below S0 (T31.setTop (mkF m 70 #[.val (.int p1), .val (.int p2), .val (.int p3), .val (.int p4), .val (.int (1 : Int32)), .val (.ref ar), .val (.ref b), .unset] [(.ref b)])) := c32.trans (by
      refine XS.astore X31.here hx rfl (hb hby at_66) rfl rfl (l' := #[.val (.int p1), .val (.int p2), .val (.int p3), .val (.int p4), .val (.int (1 : Int32)), .val (.ref ar), .val (.ref b), .unset]) rfl ?_
      show Steps p.tables e below (T31.setTop (mkF m 68 #[.val (.int p1), .val (.int p2), .val (.int p3), .val (.int p4), .val (.int (1 : Int32)), .val (.ref ar), .val (.ref b), .unset] [])) _
      refine XS.aload X31.here hx rfl (hb hby at_68) rfl rfl ?_
      show Steps p.tables e below (T31.setTop (mkF m 70 #[.val (.int p1), .val (.int p2), .val (.int p3), .val (.int p4), .val (.int (1 : Int32)), .val (.ref ar), .val (.ref b), .unset] [(.ref b)])) _
      exact Steps.refl _)
    obtain ⟨cq34, kq34, q34a, q34b, q34c⟩ := isOf hZ rfl Ec
    obtain ⟨_, _, ⟨T34, L34, k34, n34⟩, -, X34, hQ34, st34⟩ := X31.virtualBack hx (y := (⟨"com/example/insegel/insegel/keyring/Destruction", "items", "()I"⟩ : MethodName)) (z := (⟨"com/example/insegel/insegel/keyring/Destruction", "items", "()I"⟩ : MethodName)) hown (mvT hZ (hw _ (List.mem_of_getElem? (i := 22) rfl))) (mvT hZ (hw _ (List.mem_of_getElem? (i := 23) rfl))) (notFace_of_selects (args := #[]) (mvT hZ (hw _ (List.mem_of_getElem? (i := 25) rfl)))) (mvT hZ (hw _ (List.mem_of_getElem? (i := 25) rfl))) (mvT hZ (hw _ (List.mem_of_getElem? (i := 24) rfl))) (by decide) (backOf (W := 0) (rm4 l Z a0 hw [] b p1 T31.heap n0 szc Fi) hZ (hw _ (List.mem_of_getElem? (i := 26) rfl)) (hw _ (List.mem_of_getElem? (i := 2) rfl)) (by decide) (by decide)) q34a q34c (g := (mkF m 70 #[.val (.int p1), .val (.int p2), .val (.int p3), .val (.int p4), .val (.int (1 : Int32)), .val (.ref ar), .val (.ref b), .unset] [(.ref b)])) rfl (by rw [hml]; rfl) (Steps.refl _) (argsL := []) (rest := []) (lenOf own_pd___I rfl) rfl (by show 2 * 0 + _ ≤ _; exact Nat.le_of_eq rfl) (hb hby at_70) (fun _ _ => ⟨rfl, rfl, (by decide : 2 + 0 ≤ _), (by decide : 9 + 0 ≤ _)⟩)
    dsimp only [Pt.U, Pt.locs, Pt.cells, Pt.slots] at X34 hQ34 st34
    obtain ⟨Lc34, hR34, l34, y34, z34⟩ := hQ34
    subst l34 y34 z34
    obtain ⟨rfl, Nq34, eq4⟩ := hR34
    have N34 := Fr.app N31 Nq34
    have c35 : Steps p.tables e below S0 (T34.setTop (mkF m 73 #[.val (.int p1), .val (.int p2), .val (.int p3), .val (.int p4), .val (.int (1 : Int32)), .val (.ref ar), .val (.ref b), .unset] [(.int p1)])) := c33.trans (st34)
    have Ec4 : Exa Z T34.heap b "com/example/insegel/insegel/keyring/Destruction" := by rw [eq4]; exact Ec
    have sz4_ : n0 ≤ T34.heap.size := by rw [eq4]; exact szc
    have F4_items : Fld Z T34.heap b "com/example/insegel/insegel/keyring/Destruction" "items" "I" (.int p1) := by rw [eq4]; exact Fi
    have F4_identities : Fld Z T34.heap b "com/example/insegel/insegel/keyring/Destruction" "identities" "I" (.int p2) := by rw [eq4]; exact Fd
    have F4_keptNoKeyFile : Fld Z T34.heap b "com/example/insegel/insegel/keyring/Destruction" "keptNoKeyFile" "Z" (.int 1) := by rw [eq4]; exact Fk
    have c36 : Steps p.tables e below S0 (T34.setTop (mkF m 91 #[.val (.int p1), .val (.int p2), .val (.int p3), .val (.int p4), .val (.int (1 : Int32)), .val (.ref ar), .val (.ref b), .val (.int (1 : Int32))] [(.ref b)])) := c35.trans (by
      refine XS.iloadN X34.here hx rfl (hb hby at_73) rfl ?_
      show Steps p.tables e below (T34.setTop (mkF m 74 #[.val (.int p1), .val (.int p2), .val (.int p3), .val (.int p4), .val (.int (1 : Int32)), .val (.ref ar), .val (.ref b), .unset] [(.int p1), (.int p1)])) _
      refine XS.icmpNo X34.here hx rfl (hb hby at_74) rfl (XT.ii_ne_f (rfl)) ?_
      show Steps p.tables e below (T34.setTop (mkF m 77 #[.val (.int p1), .val (.int p2), .val (.int p3), .val (.int p4), .val (.int (1 : Int32)), .val (.ref ar), .val (.ref b), .unset] [])) _
      refine XT.iconstV X34.here hx rfl (1 : Int32) (hb hby at_77) (by decide) ?_
      show Steps p.tables e below (T34.setTop (mkF m 78 #[.val (.int p1), .val (.int p2), .val (.int p3), .val (.int p4), .val (.int (1 : Int32)), .val (.ref ar), .val (.ref b), .unset] [(.int (1 : Int32))])) _
      refine XS.goto X34.here hx rfl (pc0 := 78) (pc' := 82) rfl (hb hby at_78) (by decide) (by decide) ?_
      show Steps p.tables e below (T34.setTop (mkF m 82 #[.val (.int p1), .val (.int p2), .val (.int p3), .val (.int p4), .val (.int (1 : Int32)), .val (.ref ar), .val (.ref b), .unset] [(.int (1 : Int32))])) _
      refine XS.istore X34.here hx rfl (hb hby at_82) rfl (l' := #[.val (.int p1), .val (.int p2), .val (.int p3), .val (.int p4), .val (.int (1 : Int32)), .val (.ref ar), .val (.ref b), .val (.int (1 : Int32))]) rfl ?_
      show Steps p.tables e below (T34.setTop (mkF m 84 #[.val (.int p1), .val (.int p2), .val (.int p3), .val (.int p4), .val (.int (1 : Int32)), .val (.ref ar), .val (.ref b), .val (.int (1 : Int32))] [])) _
      refine XS.iload X34.here hx rfl (hb hby at_84) rfl ?_
      show Steps p.tables e below (T34.setTop (mkF m 86 #[.val (.int p1), .val (.int p2), .val (.int p3), .val (.int p4), .val (.int (1 : Int32)), .val (.ref ar), .val (.ref b), .val (.int (1 : Int32))] [(.int (1 : Int32))])) _
      refine XS.ifNo X34.here hx rfl (hb hby at_86) rfl (XT.i0_eq_f (by decide)) ?_
      show Steps p.tables e below (T34.setTop (mkF m 89 #[.val (.int p1), .val (.int p2), .val (.int p3), .val (.int p4), .val (.int (1 : Int32)), .val (.ref ar), .val (.ref b), .val (.int (1 : Int32))] [])) _
      refine XS.aload X34.here hx rfl (hb hby at_89) rfl rfl ?_
      show Steps p.tables e below (T34.setTop (mkF m 91 #[.val (.int p1), .val (.int p2), .val (.int p3), .val (.int p4), .val (.int (1 : Int32)), .val (.ref ar), .val (.ref b), .val (.int (1 : Int32))] [(.ref b)])) _
      exact Steps.refl _)
    obtain ⟨cq37, kq37, q37a, q37b, q37c⟩ := isOf hZ rfl Ec4
    obtain ⟨_, _, ⟨T37, L37, k37, n37⟩, -, X37, hQ37, st37⟩ := X34.virtualBack hx (y := (⟨"com/example/insegel/insegel/keyring/Destruction", "identities", "()I"⟩ : MethodName)) (z := (⟨"com/example/insegel/insegel/keyring/Destruction", "identities", "()I"⟩ : MethodName)) hown (mvT hZ (hw _ (List.mem_of_getElem? (i := 27) rfl))) (mvT hZ (hw _ (List.mem_of_getElem? (i := 28) rfl))) (notFace_of_selects (args := #[]) (mvT hZ (hw _ (List.mem_of_getElem? (i := 30) rfl)))) (mvT hZ (hw _ (List.mem_of_getElem? (i := 30) rfl))) (mvT hZ (hw _ (List.mem_of_getElem? (i := 29) rfl))) (by decide) (backOf (W := 0) (rm5 l Z a0 hw [] b p2 T34.heap n0 sz4_ F4_identities) hZ (hw _ (List.mem_of_getElem? (i := 31) rfl)) (hw _ (List.mem_of_getElem? (i := 2) rfl)) (by decide) (by decide)) q37a q37c (g := (mkF m 91 #[.val (.int p1), .val (.int p2), .val (.int p3), .val (.int p4), .val (.int (1 : Int32)), .val (.ref ar), .val (.ref b), .val (.int (1 : Int32))] [(.ref b)])) rfl (by rw [hml]; rfl) (Steps.refl _) (argsL := []) (rest := []) (lenOf own_pd___I rfl) rfl (by show 2 * 0 + _ ≤ _; exact Nat.le_of_eq rfl) (hb hby at_91) (fun _ _ => ⟨rfl, rfl, (by decide : 2 + 0 ≤ _), (by decide : 9 + 0 ≤ _)⟩)
    dsimp only [Pt.U, Pt.locs, Pt.cells, Pt.slots] at X37 hQ37 st37
    obtain ⟨Lc37, hR37, l37, y37, z37⟩ := hQ37
    subst l37 y37 z37
    obtain ⟨rfl, Nq37, eq5⟩ := hR37
    have N37 := Fr.app N34 Nq37
    have c38 : Steps p.tables e below S0 (T37.setTop (mkF m 94 #[.val (.int p1), .val (.int p2), .val (.int p3), .val (.int p4), .val (.int (1 : Int32)), .val (.ref ar), .val (.ref b), .val (.int (1 : Int32))] [(.int p2)])) := c36.trans (st37)
    have Ec5 : Exa Z T37.heap b "com/example/insegel/insegel/keyring/Destruction" := by rw [eq5]; exact Ec4
    have sz5_ : n0 ≤ T37.heap.size := by rw [eq5]; exact sz4_
    have F5_items : Fld Z T37.heap b "com/example/insegel/insegel/keyring/Destruction" "items" "I" (.int p1) := by rw [eq5]; exact F4_items
    have F5_identities : Fld Z T37.heap b "com/example/insegel/insegel/keyring/Destruction" "identities" "I" (.int p2) := by rw [eq5]; exact F4_identities
    have F5_keptNoKeyFile : Fld Z T37.heap b "com/example/insegel/insegel/keyring/Destruction" "keptNoKeyFile" "Z" (.int 1) := by rw [eq5]; exact F4_keptNoKeyFile
    have c39 : Steps p.tables e below S0 (T37.setTop (mkF m 112 #[.val (.int p1), .val (.int p2), .val (.int p3), .val (.int p4), .val (.int (1 : Int32)), .val (.ref ar), .val (.ref b), .val (.int (1 : Int32))] [(.ref b)])) := c38.trans (by
      refine XS.iloadN X37.here hx rfl (hb hby at_94) rfl ?_
      show Steps p.tables e below (T37.setTop (mkF m 95 #[.val (.int p1), .val (.int p2), .val (.int p3), .val (.int p4), .val (.int (1 : Int32)), .val (.ref ar), .val (.ref b), .val (.int (1 : Int32))] [(.int p2), (.int p2)])) _
      refine XS.icmpNo X37.here hx rfl (hb hby at_95) rfl (XT.ii_ne_f (rfl)) ?_
      show Steps p.tables e below (T37.setTop (mkF m 98 #[.val (.int p1), .val (.int p2), .val (.int p3), .val (.int p4), .val (.int (1 : Int32)), .val (.ref ar), .val (.ref b), .val (.int (1 : Int32))] [])) _
      refine XT.iconstV X37.here hx rfl (1 : Int32) (hb hby at_98) (by decide) ?_
      show Steps p.tables e below (T37.setTop (mkF m 99 #[.val (.int p1), .val (.int p2), .val (.int p3), .val (.int p4), .val (.int (1 : Int32)), .val (.ref ar), .val (.ref b), .val (.int (1 : Int32))] [(.int (1 : Int32))])) _
      refine XS.goto X37.here hx rfl (pc0 := 99) (pc' := 103) rfl (hb hby at_99) (by decide) (by decide) ?_
      show Steps p.tables e below (T37.setTop (mkF m 103 #[.val (.int p1), .val (.int p2), .val (.int p3), .val (.int p4), .val (.int (1 : Int32)), .val (.ref ar), .val (.ref b), .val (.int (1 : Int32))] [(.int (1 : Int32))])) _
      refine XS.istore X37.here hx rfl (hb hby at_103) rfl (l' := #[.val (.int p1), .val (.int p2), .val (.int p3), .val (.int p4), .val (.int (1 : Int32)), .val (.ref ar), .val (.ref b), .val (.int (1 : Int32))]) rfl ?_
      show Steps p.tables e below (T37.setTop (mkF m 105 #[.val (.int p1), .val (.int p2), .val (.int p3), .val (.int p4), .val (.int (1 : Int32)), .val (.ref ar), .val (.ref b), .val (.int (1 : Int32))] [])) _
      refine XS.iload X37.here hx rfl (hb hby at_105) rfl ?_
      show Steps p.tables e below (T37.setTop (mkF m 107 #[.val (.int p1), .val (.int p2), .val (.int p3), .val (.int p4), .val (.int (1 : Int32)), .val (.ref ar), .val (.ref b), .val (.int (1 : Int32))] [(.int (1 : Int32))])) _
      refine XS.ifNo X37.here hx rfl (hb hby at_107) rfl (XT.i0_eq_f (by decide)) ?_
      show Steps p.tables e below (T37.setTop (mkF m 110 #[.val (.int p1), .val (.int p2), .val (.int p3), .val (.int p4), .val (.int (1 : Int32)), .val (.ref ar), .val (.ref b), .val (.int (1 : Int32))] [])) _
      refine XS.aload X37.here hx rfl (hb hby at_110) rfl rfl ?_
      show Steps p.tables e below (T37.setTop (mkF m 112 #[.val (.int p1), .val (.int p2), .val (.int p3), .val (.int p4), .val (.int (1 : Int32)), .val (.ref ar), .val (.ref b), .val (.int (1 : Int32))] [(.ref b)])) _
      exact Steps.refl _)
    obtain ⟨cq40, kq40, q40a, q40b, q40c⟩ := isOf hZ rfl Ec5
    obtain ⟨_, _, ⟨T40, L40, k40, n40⟩, -, X40, hQ40, st40⟩ := X37.virtualBack hx (y := (⟨"com/example/insegel/insegel/keyring/Destruction", "keptNoKeyFile", "()Z"⟩ : MethodName)) (z := (⟨"com/example/insegel/insegel/keyring/Destruction", "keptNoKeyFile", "()Z"⟩ : MethodName)) hown (mvT hZ (hw _ (List.mem_of_getElem? (i := 32) rfl))) (mvT hZ (hw _ (List.mem_of_getElem? (i := 33) rfl))) (notFace_of_selects (args := #[]) (mvT hZ (hw _ (List.mem_of_getElem? (i := 35) rfl)))) (mvT hZ (hw _ (List.mem_of_getElem? (i := 35) rfl))) (mvT hZ (hw _ (List.mem_of_getElem? (i := 34) rfl))) (by decide) (backOf (W := 0) (rm6k l Z a0 hw [] b T37.heap n0 sz5_ F5_keptNoKeyFile) hZ (hw _ (List.mem_of_getElem? (i := 36) rfl)) (hw _ (List.mem_of_getElem? (i := 2) rfl)) (by decide) (by decide)) q40a q40c (g := (mkF m 112 #[.val (.int p1), .val (.int p2), .val (.int p3), .val (.int p4), .val (.int (1 : Int32)), .val (.ref ar), .val (.ref b), .val (.int (1 : Int32))] [(.ref b)])) rfl (by rw [hml]; rfl) (Steps.refl _) (argsL := []) (rest := []) (lenOf own_pd___Z rfl) rfl (by show 2 * 0 + _ ≤ _; exact Nat.le_of_eq rfl) (hb hby at_112) (fun _ _ => ⟨rfl, rfl, (by decide : 2 + 0 ≤ _), (by decide : 9 + 0 ≤ _)⟩)
    dsimp only [Pt.U, Pt.locs, Pt.cells, Pt.slots] at X40 hQ40 st40
    obtain ⟨Lc40, hR40, l40, y40, z40⟩ := hQ40
    subst l40 y40 z40
    obtain ⟨rfl, Nq40, eq6⟩ := hR40
    have N40 := Fr.app N37 Nq40
    have c41 : Steps p.tables e below S0 (T40.setTop (mkF m 115 #[.val (.int p1), .val (.int p2), .val (.int p3), .val (.int p4), .val (.int (1 : Int32)), .val (.ref ar), .val (.ref b), .val (.int (1 : Int32))] [(.int (1 : Int32))])) := c39.trans (st40)
    have Ec6 : Exa Z T40.heap b "com/example/insegel/insegel/keyring/Destruction" := by rw [eq6]; exact Ec5
    have sz6_ : n0 ≤ T40.heap.size := by rw [eq6]; exact sz5_
    have F6_items : Fld Z T40.heap b "com/example/insegel/insegel/keyring/Destruction" "items" "I" (.int p1) := by rw [eq6]; exact F5_items
    have F6_identities : Fld Z T40.heap b "com/example/insegel/insegel/keyring/Destruction" "identities" "I" (.int p2) := by rw [eq6]; exact F5_identities
    have F6_keptNoKeyFile : Fld Z T40.heap b "com/example/insegel/insegel/keyring/Destruction" "keptNoKeyFile" "Z" (.int 1) := by rw [eq6]; exact F5_keptNoKeyFile
    have c42 : Steps p.tables e below S0 (T40.setTop (mkF m 129 #[.val (.int p1), .val (.int p2), .val (.int p3), .val (.int p4), .val (.int (1 : Int32)), .val (.ref ar), .val (.ref b), .val (.int (1 : Int32))] [(.int (1 : Int32))])) := c41.trans (by
      refine XS.iload X40.here hx rfl (hb hby at_115) rfl ?_
      show Steps p.tables e below (T40.setTop (mkF m 117 #[.val (.int p1), .val (.int p2), .val (.int p3), .val (.int p4), .val (.int (1 : Int32)), .val (.ref ar), .val (.ref b), .val (.int (1 : Int32))] [(.int (1 : Int32)), (.int (1 : Int32))])) _
      refine XS.icmpNo X40.here hx rfl (hb hby at_117) rfl (XT.ii_ne_f (rfl)) ?_
      show Steps p.tables e below (T40.setTop (mkF m 120 #[.val (.int p1), .val (.int p2), .val (.int p3), .val (.int p4), .val (.int (1 : Int32)), .val (.ref ar), .val (.ref b), .val (.int (1 : Int32))] [])) _
      refine XT.iconstV X40.here hx rfl (1 : Int32) (hb hby at_120) (by decide) ?_
      show Steps p.tables e below (T40.setTop (mkF m 121 #[.val (.int p1), .val (.int p2), .val (.int p3), .val (.int p4), .val (.int (1 : Int32)), .val (.ref ar), .val (.ref b), .val (.int (1 : Int32))] [(.int (1 : Int32))])) _
      refine XS.goto X40.here hx rfl (pc0 := 121) (pc' := 125) rfl (hb hby at_121) (by decide) (by decide) ?_
      show Steps p.tables e below (T40.setTop (mkF m 125 #[.val (.int p1), .val (.int p2), .val (.int p3), .val (.int p4), .val (.int (1 : Int32)), .val (.ref ar), .val (.ref b), .val (.int (1 : Int32))] [(.int (1 : Int32))])) _
      refine XS.istore X40.here hx rfl (hb hby at_125) rfl (l' := #[.val (.int p1), .val (.int p2), .val (.int p3), .val (.int p4), .val (.int (1 : Int32)), .val (.ref ar), .val (.ref b), .val (.int (1 : Int32))]) rfl ?_
      show Steps p.tables e below (T40.setTop (mkF m 127 #[.val (.int p1), .val (.int p2), .val (.int p3), .val (.int p4), .val (.int (1 : Int32)), .val (.ref ar), .val (.ref b), .val (.int (1 : Int32))] [])) _
      refine XS.iload X40.here hx rfl (hb hby at_127) rfl ?_
      show Steps p.tables e below (T40.setTop (mkF m 129 #[.val (.int p1), .val (.int p2), .val (.int p3), .val (.int p4), .val (.int (1 : Int32)), .val (.ref ar), .val (.ref b), .val (.int (1 : Int32))] [(.int (1 : Int32))])) _
      exact Steps.refl _)
    obtain ⟨fs, hr, hrun, hended, hW, hsame⟩ := X40.leave (v := some (.int (1 : Int32))) (fun h => by rw [Bd.returns] at h; cases h)
    refine ⟨_, _, pre0 _ ?_, hrun, hended, _, _, rfl, ?_, ⟨_, rfl⟩, hW, hsame.mono (by decide) (by decide)⟩
    · rw [← hS0]
      exact c42.trans (retN X40 hx (t := .boolean) Bd.returns (by simp) (hb hby at_129) hr)
    · show Qrm0 Z p1 p2 p3 p4 h0 n0 _ T40.heap _
      exact ⟨rfl, N40⟩
set_option maxRecDepth 65536 in
set_option maxHeartbeats 40000000 in
theorem comes_1 {Post : Tables → Env → Array Value → State → Outcome → State → Prop} (hpost : ∀ tb e args s v u, (limb_1_1.after args s (.returned v) u = true ∧ limb_1_2.after args s (.returned v) u = true ∧ True) → FrameEnd s (.returned v) u (Jvm.fieldLocs frame_1_writes args s ++ Jvm.arrayLocs frame_1_arrays args s ++ Jvm.staticLocs frame_1_statics s) 16 128 → Post tb e args s (.returned v) u) :
    ArmFor flags0 classFile x code maxLocals ret World_1 tables_1 room_1 Calls_1 rest_1 Pre_1 Post := by
  intro l hfl _ _ p e ha hc hk s m args below hf hA hF happ hP
  obtain ⟨hcalls, hrest, hpre⟩ := hP
  obtain ⟨-, -, -, hnamed, -, -, -, hat⟩ := (Spec.applies_iff hf).mp happ
  obtain ⟨hg, hn⟩ := and_e (Cond.before_iff.mp (show (Jvm.Cond.and given_1 narrow_1).before args s = true from hpre))
  obtain ⟨hcount, g0⟩ := and_e hg
  obtain ⟨k0, g1⟩ := and_e g0
  obtain ⟨k1, g2⟩ := and_e g1
  obtain ⟨k2, g3⟩ := and_e g2
  obtain ⟨w0, w1, w2, w3, rfl⟩ : ∃ w0 w1 w2 w3 : Value, args = #[w0, w1, w2, w3] := by
    have hs : args.size = 4 := by simpa [Cond.value, given_1] using hcount
    obtain ⟨L⟩ := args
    match L, hs with
    | [w0, w1, w2, w3], _ => exact ⟨w0, w1, w2, w3, rfl⟩
  have hw := fun d (hd : d ∈ tables_1) => atoms_spec (ws := Jvm.Cond.code x code maxLocals ret :: tables_1) hat d (List.mem_cons_of_mem _ hd)
  obtain ⟨i0, e0⟩ := is_v k0
  obtain rfl : w0 = (.int i0) := Option.some.inj e0
  obtain ⟨i1, e1⟩ := is_v k1
  obtain rfl : w1 = (.int i1) := Option.some.inj e1
  obtain ⟨i2, e2⟩ := is_v k2
  obtain rfl : w2 = (.int i2) := Option.some.inj e2
  obtain ⟨i3, e3⟩ := is_v g3
  obtain rfl : w3 = (.int i3) := Option.some.inj e3
  obtain ⟨n, o, h1, h2, h3, _, L, rfl, ⟨rfl, N⟩, hq⟩ := rm0 l s _ hw tables_1 i0 i1 i2 i3 s.heap s.heap.size (Nat.le_refl _) p e ha hc hk s m _ below hf ((Spec.applies_iff_loose hf).mp happ).1 ⟨rfl, State.Warmed39.refl s, rfl⟩ trivial
  refine ⟨n, _, h1, h2, h3, hpost _ _ _ _ _ _ ⟨Cond.after_iff.mpr rfl, Cond.after_iff.mpr (eq_i res_at (Term.int_eval (1)) rfl), trivial⟩ ⟨hq.1, hq.2.1, (hq.2.2.sift fun y hy => Or.inr (N y hy)).mono (by decide) (by decide)⟩⟩
theorem main_1_1 : Claimed_1_1 := comes_1 fun _ _ _ _ _ _ h hF => ⟨h.1, hF⟩
theorem main_1_2 : Claimed_1_2 := comes_1 fun _ _ _ _ _ _ h hF => ⟨h.2.1, hF⟩
end Jvm.Pilot.@@N@@
namespace Jvm.Pilot.@@N@@
open Jvm Jvm.ClassFile Sem Op Lib Jvm.Free Jvm.Stand Jvm.Pilot.@@N@@.Jvm.D
/-! MADE BY PROGRAM (witnessworld.py) out of the Statement's table words and the real class files: 7 classes; the members and pool entries that the words name. The judged class is class 1, her method 1. -/
namespace start1
open Jvm.ClassFile
def u (s : String) : CpInfo := .utf8 (stringToUtf16 s)
/-- a pool by its gaps: so many unusable entries, then the entry; so many at the end -/
def gap : Nat → List CpInfo → List CpInfo
  | 0, r => r
  | n + 1, r => .unusable :: gap n r
def poolList (es : List (Nat × CpInfo)) (last : Nat) : List CpInfo := es.foldr (fun e r => gap e.1 (e.2 :: r)) (gap last [])
def pool (es : List (Nat × CpInfo)) (last : Nat) : Array CpInfo := ⟨poolList es last⟩
def fileOf (pool : Array CpInfo) (this : Nat) (attrs : Array Attribute := #[]) (ms : Array MethodInfo := #[]) (fl : Nat := 33) (sup : Nat := 0) (ifs : Array Nat := #[]) (fds : Array FieldInfo := #[]) : ClassFile where
  minorVersion := 0
  majorVersion := 65
  constantPool := pool
  accessFlags := fl
  thisClass := this
  superClass := sup
  interfaces := ifs
  fields := fds
  methods := ms
  attributes := attrs
def plain (name : String) (sup : Option ClassId) : Class where
  name := name
  kind := .ordinary
  loader := none
  accessFlags := 33
  super := sup
  interfaces := #[]
  cf := none
  fields := #[]
  methods := #[]
  instanceTypes := #[]
  staticTypes := #[]
  resolved := #[]
  callSites := []
  init := .initialized
  statics := none
  mirror := none

def pool0 : Array CpInfo := pool [(5, u "<init>"), (0, u "()V"), (1, .class_ 10), (1, u "java/lang/Object")] 113

def k0c0 : Code := { maxStack := 0, maxLocals := 1, code := object_method_1_code, exceptionTable := #[], attributes := #[] }
def k0m0 : Method := { name := "<init>", desc := "()V", sig := { parameters := [], returnType := none }, accessFlags := 1, code := some k0c0 }
/-- java/lang/Object -/
def k0 : Class := { plain "java/lang/Object" none with
  accessFlags := 33
  interfaces := #[]
  cf := some (fileOf pool0 8 #[] #[{ accessFlags := 1, nameIndex := 5, descriptorIndex := 6, attributes := #[] }] 33 0 #[] #[])
  fields := #[]
  methods := #[k0m0]
  instanceTypes := #[]
  staticTypes := #[]
  resolved := Array.replicate 124 none
  statics := none }

def pool1 : Array CpInfo := pool [(2, .class_ 4), (1, u "java/lang/Object"), (0, u "<init>"), (0, u "()V"), (0, .methodref 8 9), (0, .class_ 10), (0, .nameAndType 11 12), (0, u "com/example/insegel/insegel/keyring/Destruction"), (0, u "counted"), (0, u "(II[B)Lcom/example/insegel/insegel/keyring/Destruction;"), (0, .methodref 8 14), (0, .nameAndType 15 16), (0, u "items"), (0, u "()I"), (0, .methodref 8 18), (0, .nameAndType 19 16), (0, u "identities"), (0, .methodref 8 21), (0, .nameAndType 22 23), (0, u "keptNoKeyFile"), (0, u "()Z"), (0, .class_ 25), (0, u "com/example/insegel/insegel/keyring/DestructionCountedPinLaw"), (2, u "law"), (0, u "(IIII)Z")] 5

def k1m0 : Method := { name := "<init>", desc := "()V", sig := { parameters := [], returnType := none }, accessFlags := 1, code := none }
def k1c1 : Code := { maxStack := 4, maxLocals := 8, code := code, exceptionTable := #[], attributes := #[] }
def k1m1 : Method := { name := "law", desc := "(IIII)Z", sig := { parameters := [.int, .int, .int, .int], returnType := some .boolean }, accessFlags := 9, code := some k1c1 }
/-- com/example/insegel/insegel/keyring/DestructionCountedPinLaw -/
def k1 : Class := { plain "com/example/insegel/insegel/keyring/DestructionCountedPinLaw" (some 0) with
  accessFlags := 49
  interfaces := #[]
  cf := some (fileOf pool1 24 #[] #[{ accessFlags := 1, nameIndex := 5, descriptorIndex := 6, attributes := #[] }, { accessFlags := 9, nameIndex := 28, descriptorIndex := 29, attributes := #[] }] 49 2 #[] #[])
  fields := #[]
  methods := #[k1m0, k1m1]
  instanceTypes := #[]
  staticTypes := #[]
  resolved := Array.replicate 35 none
  statics := none }

def pool2 : Array CpInfo := pool [(1, .methodref 2 3), (0, .class_ 4), (0, .nameAndType 5 6), (0, u "java/lang/Object"), (0, u "<init>"), (0, u "()V"), (0, .fieldref 8 9), (0, .class_ 10), (0, .nameAndType 11 12), (0, u "com/example/insegel/insegel/keyring/Destruction"), (0, u "items"), (0, u "I"), (0, .fieldref 8 14), (0, .nameAndType 15 12), (0, u "identities"), (0, .fieldref 8 17), (0, .nameAndType 18 19), (0, u "keptNoKeyFile"), (0, u "Z"), (0, .fieldref 8 21), (0, .nameAndType 22 23), (0, u "keyIdKeptElsewhere"), (0, u "[B"), (0, .fieldref 8 25), (0, .nameAndType 26 27), (0, u "unreadableItems"), (0, u "Ljava/lang/Exception;"), (0, .methodref 8 29), (0, .nameAndType 5 30), (0, u "(IIZ[BLjava/lang/Exception;)V"), (20, u "counted"), (0, u "(II[B)Lcom/example/insegel/insegel/keyring/Destruction;"), (3, u "()I"), (2, u "()Z")] 4

def k2c0 : Code := { maxStack := 2, maxLocals := 6, code := prog_14_method_1_code, exceptionTable := #[], attributes := #[] }
def k2m0 : Method := { name := "<init>", desc := "(IIZ[BLjava/lang/Exception;)V", sig := { parameters := [.int, .int, .boolean, (.array .byte), (.object "java/lang/Exception")], returnType := none }, accessFlags := 2, code := some k2c0 }
def k2c1 : Code := { maxStack := 7, maxLocals := 3, code := prog_14_method_2_code, exceptionTable := #[], attributes := #[] }
def k2m1 : Method := { name := "counted", desc := "(II[B)Lcom/example/insegel/insegel/keyring/Destruction;", sig := { parameters := [.int, .int, (.array .byte)], returnType := some (.object "com/example/insegel/insegel/keyring/Destruction") }, accessFlags := 8, code := some k2c1 }
def k2c2 : Code := { maxStack := 1, maxLocals := 1, code := prog_14_method_4_code, exceptionTable := #[], attributes := #[] }
def k2m2 : Method := { name := "items", desc := "()I", sig := { parameters := [], returnType := some .int }, accessFlags := 1, code := some k2c2 }
def k2c3 : Code := { maxStack := 1, maxLocals := 1, code := prog_14_method_5_code, exceptionTable := #[], attributes := #[] }
def k2m3 : Method := { name := "identities", desc := "()I", sig := { parameters := [], returnType := some .int }, accessFlags := 1, code := some k2c3 }
def k2c4 : Code := { maxStack := 1, maxLocals := 1, code := prog_14_method_7_code, exceptionTable := #[], attributes := #[] }
def k2m4 : Method := { name := "keptNoKeyFile", desc := "()Z", sig := { parameters := [], returnType := some .boolean }, accessFlags := 1, code := some k2c4 }
/-- com/example/insegel/insegel/keyring/Destruction -/
def k2 : Class := { plain "com/example/insegel/insegel/keyring/Destruction" (some 0) with
  accessFlags := 33
  interfaces := #[]
  cf := some (fileOf pool2 8 #[] #[{ accessFlags := 2, nameIndex := 5, descriptorIndex := 30, attributes := #[] }, { accessFlags := 8, nameIndex := 51, descriptorIndex := 52, attributes := #[] }, { accessFlags := 1, nameIndex := 11, descriptorIndex := 56, attributes := #[] }, { accessFlags := 1, nameIndex := 15, descriptorIndex := 56, attributes := #[] }, { accessFlags := 1, nameIndex := 18, descriptorIndex := 59, attributes := #[] }] 33 2 #[] #[{ accessFlags := 18, nameIndex := 11, descriptorIndex := 12, attributes := #[] }, { accessFlags := 18, nameIndex := 15, descriptorIndex := 12, attributes := #[] }, { accessFlags := 18, nameIndex := 18, descriptorIndex := 19, attributes := #[] }, { accessFlags := 18, nameIndex := 22, descriptorIndex := 23, attributes := #[] }, { accessFlags := 18, nameIndex := 26, descriptorIndex := 27, attributes := #[] }])
  fields := #[{ name := "items", type := .int, accessFlags := 18, slot := 0, constantValue := 0 }, { name := "identities", type := .int, accessFlags := 18, slot := 1, constantValue := 0 }, { name := "keptNoKeyFile", type := .boolean, accessFlags := 18, slot := 2, constantValue := 0 }, { name := "keyIdKeptElsewhere", type := (.array .byte), accessFlags := 18, slot := 3, constantValue := 0 }, { name := "unreadableItems", type := (.object "java/lang/Exception"), accessFlags := 18, slot := 4, constantValue := 0 }]
  methods := #[k2m0, k2m1, k2m2, k2m3, k2m4]
  instanceTypes := #[.int, .int, .boolean, (.array .byte), (.object "java/lang/Exception")]
  staticTypes := #[]
  resolved := Array.replicate 64 none
  statics := none }

def pool3 : Array CpInfo := pool [(1, u "java/lang/Cloneable"), (0, .class_ 1), (0, u "java/lang/Object"), (0, .class_ 3)] 3

/-- java/lang/Cloneable -/
def k3 : Class := { plain "java/lang/Cloneable" (some 0) with
  accessFlags := 1537
  interfaces := #[]
  cf := some (fileOf pool3 2 #[] #[] 1537 4 #[] #[])
  fields := #[]
  methods := #[]
  instanceTypes := #[]
  staticTypes := #[]
  resolved := Array.replicate 8 none
  statics := none }

def pool4 : Array CpInfo := pool [(1, u "java/io/Serializable"), (0, .class_ 1), (0, u "java/lang/Object"), (0, .class_ 3)] 3

/-- java/io/Serializable -/
def k4 : Class := { plain "java/io/Serializable" (some 0) with
  accessFlags := 1537
  interfaces := #[]
  cf := some (fileOf pool4 2 #[] #[] 1537 4 #[] #[])
  fields := #[]
  methods := #[]
  instanceTypes := #[]
  staticTypes := #[]
  resolved := Array.replicate 8 none
  statics := none }

/-- the primitive byte -/
def k5 : Class := { plain "byte" none with kind := .primitive 'B', accessFlags := 0x411 }
/-- [B -/
def k6 : Class := { plain "[B" (some 0) with kind := .array 5 .byte, interfaces := #[3, 4], accessFlags := 1041 }

def heap : Heap := #[]
def classes : Array Class := #[k0, k1, k2, k3, k4, k5, k6]
def interned : List (Array UInt16 × Addr) := []
def slotsUsed : Nat := 0
def theMethod : MethodId := ⟨1, 1⟩
def args0 : Array Value := #[.int 5, .int 6, .int 1, .int 9]
def aboutOver (below : List Frame) : State where
  vm := { classes := classes, interned := interned.toArray }
  heap := heap
  slotsUsed := slotsUsed
  threads := #[{ frames := .invoking theMethod args0 :: below }]
def below0 : List Frame := [.native { method := ⟨0, 0⟩, args := #[] }]
def about1 : State := aboutOver below0
def p0 : Program := .bare "" "" ""
def e0 : Env := launch0.env 0 0 0
theorem w_frames : about1.frames = Frame.invoking theMethod args0 :: below0 := rfl
set_option maxRecDepth 65536 in
theorem w_args : argsFit about1.vm theMethod args0 = true := by decide +kernel
set_option maxRecDepth 65536 in
theorem w_heap : heapFits about1 = true := by decide +kernel
set_option maxRecDepth 65536 in
theorem w_runnable : about1.curStatus? = some .runnable := by decide +kernel
set_option maxRecDepth 65536 in
theorem w_alone : about1.alone = true := by decide +kernel
set_option maxRecDepth 65536 in
theorem w_named : about1.methodNamed? x = some theMethod := by decide +kernel
set_option maxRecDepth 65536 in
theorem w_hears : about1.hears theMethod below0 = true := by decide +kernel
set_option maxRecDepth 65536 in
theorem w_ripe : about1.ripe theMethod args0 below0 = true := by decide +kernel
theorem w_running : about1.status = .running := rfl
set_option maxRecDepth 65536 in
theorem w_room : about1.hasRoom e0.platform room_1 = true :=
  launch0.hasRoom_least _ room_1 (by decide +kernel) (by decide +kernel) (by decide +kernel) (by decide +kernel) (by decide +kernel) (by decide +kernel)
theorem allAtoms_all (ts : List Jvm.Cond) (a : Array Jvm.Value) (st : Jvm.State) : (allAtoms ts).before a st = ts.all (fun c => c.before a st) := by
  induction ts with
  | nil => rfl
  | cons c t ih =>
    show (Jvm.Cond.and c (allAtoms t)).before a st = _
    rw [Jvm.Cond.before_and, ih, List.all_cons]
def words1 : List Jvm.Cond := Jvm.Cond.code x code maxLocals ret :: tables_1
/-- a 'code' word, met by the world's own term for the bytes: nothing is compared byte by byte -/
theorem code_word {y : MethodName} {bytes : ByteArray} {mx : Nat} {rt : Option FieldType} {a : Array Value} {s : State} {m : MethodId} {meth : Method} {c : Code} (h1 : s.methodNamed? y = some m) (h2 : s.vm.method? m = some meth) (h3 : meth.code = some c) (h4 : c.code = bytes)
    (h5 : (c.maxLocals == mx && c.exceptionTable.isEmpty && decide (c.maxStack ≤ mostOperands) && decide (meth.sig.returnType = rt) && !meth.locks && decide (parseMethodDescriptor y.desc = some meth.sig)) = true) : (Jvm.Cond.code y bytes mx rt).before a s = true := by
  simp only [Bool.and_eq_true, beq_iff_eq, Bool.not_eq_true', decide_eq_true_eq] at h5
  obtain ⟨⟨⟨⟨⟨g1, g2⟩, g3⟩, g4⟩, g5⟩, g6⟩ := h5
  simp [Cond.before, Cond.holds, Cond.value, h1, h2, h3, h4, g1, g2, g3, g4, g5, g6]
def isCode : Jvm.Cond → Bool
  | .code _ _ _ _ => true
  | _ => false
theorem all_split {L : List Jvm.Cond} {P : Jvm.Cond → Bool} (h1 : L.all (fun c => isCode c || P c) = true) (h2 : ∀ c ∈ L.filter isCode, P c = true) : L.all P = true := by
  refine List.all_eq_true.mpr fun c hc => ?_
  have h := List.all_eq_true.mp h1 c hc
  rcases Bool.eq_false_or_eq_true (isCode c) with hi | hi
  · exact h2 c (List.mem_filter.mpr ⟨hc, hi⟩)
  · simpa [hi] using h
set_option maxRecDepth 65536 in
theorem w_c0 : (Jvm.Cond.code x code maxLocals ret).before args0 about1 = true := code_word (m := ⟨1, 1⟩) (meth := k1m1) (c := k1c1) (by decide +kernel) rfl rfl rfl (by decide +kernel)
set_option maxRecDepth 65536 in
theorem w_c1 : (Jvm.Cond.code ({ cls := "com/example/insegel/insegel/keyring/Destruction", name := "counted", desc := "(II[B)Lcom/example/insegel/insegel/keyring/Destruction;" } : Jvm.MethodName) prog_14_method_2_code (3 : Nat) (Option.some (Jvm.ClassFile.FieldType.object "com/example/insegel/insegel/keyring/Destruction"))).before args0 about1 = true := code_word (m := ⟨2, 1⟩) (meth := k2m1) (c := k2c1) (by decide +kernel) rfl rfl rfl (by decide +kernel)
set_option maxRecDepth 65536 in
theorem w_c2 : (Jvm.Cond.code ({ cls := "com/example/insegel/insegel/keyring/Destruction", name := "<init>", desc := "(IIZ[BLjava/lang/Exception;)V" } : Jvm.MethodName) prog_14_method_1_code (6 : Nat) (Option.none : Option Jvm.ClassFile.FieldType)).before args0 about1 = true := code_word (m := ⟨2, 0⟩) (meth := k2m0) (c := k2c0) (by decide +kernel) rfl rfl rfl (by decide +kernel)
set_option maxRecDepth 65536 in
theorem w_c3 : (Jvm.Cond.code ({ cls := "java/lang/Object", name := "<init>", desc := "()V" } : Jvm.MethodName) object_method_1_code (1 : Nat) (Option.none : Option Jvm.ClassFile.FieldType)).before args0 about1 = true := code_word (m := ⟨0, 0⟩) (meth := k0m0) (c := k0c0) (by decide +kernel) rfl rfl rfl (by decide +kernel)
set_option maxRecDepth 65536 in
theorem w_c4 : (Jvm.Cond.code ({ cls := "com/example/insegel/insegel/keyring/Destruction", name := "items", desc := "()I" } : Jvm.MethodName) prog_14_method_4_code (1 : Nat) (Option.some Jvm.ClassFile.FieldType.int)).before args0 about1 = true := code_word (m := ⟨2, 2⟩) (meth := k2m2) (c := k2c2) (by decide +kernel) rfl rfl rfl (by decide +kernel)
set_option maxRecDepth 65536 in
theorem w_c5 : (Jvm.Cond.code ({ cls := "com/example/insegel/insegel/keyring/Destruction", name := "identities", desc := "()I" } : Jvm.MethodName) prog_14_method_5_code (1 : Nat) (Option.some Jvm.ClassFile.FieldType.int)).before args0 about1 = true := code_word (m := ⟨2, 3⟩) (meth := k2m3) (c := k2c3) (by decide +kernel) rfl rfl rfl (by decide +kernel)
set_option maxRecDepth 65536 in
theorem w_c6 : (Jvm.Cond.code ({ cls := "com/example/insegel/insegel/keyring/Destruction", name := "keptNoKeyFile", desc := "()Z" } : Jvm.MethodName) prog_14_method_7_code (1 : Nat) (Option.some Jvm.ClassFile.FieldType.boolean)).before args0 about1 = true := code_word (m := ⟨2, 4⟩) (meth := k2m4) (c := k2c4) (by decide +kernel) rfl rfl rfl (by decide +kernel)
def codes1 : List Jvm.Cond := [Jvm.Cond.code x code maxLocals ret, Jvm.Cond.code ({ cls := "com/example/insegel/insegel/keyring/Destruction", name := "counted", desc := "(II[B)Lcom/example/insegel/insegel/keyring/Destruction;" } : Jvm.MethodName) prog_14_method_2_code (3 : Nat) (Option.some (Jvm.ClassFile.FieldType.object "com/example/insegel/insegel/keyring/Destruction")), Jvm.Cond.code ({ cls := "com/example/insegel/insegel/keyring/Destruction", name := "<init>", desc := "(IIZ[BLjava/lang/Exception;)V" } : Jvm.MethodName) prog_14_method_1_code (6 : Nat) (Option.none : Option Jvm.ClassFile.FieldType), Jvm.Cond.code ({ cls := "java/lang/Object", name := "<init>", desc := "()V" } : Jvm.MethodName) object_method_1_code (1 : Nat) (Option.none : Option Jvm.ClassFile.FieldType), Jvm.Cond.code ({ cls := "com/example/insegel/insegel/keyring/Destruction", name := "items", desc := "()I" } : Jvm.MethodName) prog_14_method_4_code (1 : Nat) (Option.some Jvm.ClassFile.FieldType.int), Jvm.Cond.code ({ cls := "com/example/insegel/insegel/keyring/Destruction", name := "identities", desc := "()I" } : Jvm.MethodName) prog_14_method_5_code (1 : Nat) (Option.some Jvm.ClassFile.FieldType.int), Jvm.Cond.code ({ cls := "com/example/insegel/insegel/keyring/Destruction", name := "keptNoKeyFile", desc := "()Z" } : Jvm.MethodName) prog_14_method_7_code (1 : Nat) (Option.some Jvm.ClassFile.FieldType.boolean)]
set_option maxRecDepth 65536 in
theorem codes_eq : words1.filter isCode = codes1 := rfl
theorem w_codes : ∀ c ∈ words1.filter isCode, c.before args0 about1 = true := by
  rw [codes_eq]
  intro c hc
  simp only [codes1, List.mem_cons, List.not_mem_nil, or_false] at hc
  rcases hc with rfl | rfl | rfl | rfl | rfl | rfl | rfl
  · exact w_c0
  · exact w_c1
  · exact w_c2
  · exact w_c3
  · exact w_c4
  · exact w_c5
  · exact w_c6
set_option maxRecDepth 65536 in
theorem w_t1 : (words1.take 24).all (fun c => isCode c || c.before args0 about1) = true := by decide +kernel
set_option maxRecDepth 65536 in
theorem w_t2 : (words1.drop 24).all (fun c => isCode c || c.before args0 about1) = true := by decide +kernel
theorem w_tables : (allAtoms (Jvm.Cond.code x code maxLocals ret :: tables_1)).before args0 about1 = true := by
  rw [allAtoms_all]
  show words1.all (fun c => c.before args0 about1) = true
  refine all_split ?_ w_codes
  rw [← List.take_append_drop 24 words1, List.all_append, w_t1, w_t2]
  rfl
set_option maxRecDepth 65536 in
theorem w_case : (Jvm.Cond.and given_1 narrow_1).before args0 about1 = true := by decide +kernel
theorem w_applies : (headSpec (Jvm.Cond.code x code maxLocals ret :: tables_1) room_1).applies x e0.platform about1 = true :=
  (Spec.applies_iff w_frames).mpr ⟨w_running, w_runnable, w_alone, w_named, w_hears, w_ripe, w_room, w_tables⟩
theorem atStart : AtStart classFile x code maxLocals ret World_1 tables_1 room_1 Calls_1 rest_1 Pre_1 launch0 p0 e0 about1 theMethod args0 below0 :=
  ⟨lists_1, trivial, launch0.admits_env _ _ _, launch0.least_env, fairChoices_fair.cas, fairChoices_fair.clock, w_frames, w_args, w_heap, w_applies, trivial, trivial, w_case⟩
end start1
theorem witness_1 : WitnessClaimed_1 := ⟨start1.p0, start1.e0, start1.about1, start1.theMethod, start1.args0, start1.below0, start1.atStart⟩
end Jvm.Pilot.@@N@@
