import JvmDerived
import JvmDerived.Pilot.@@N@@Statement
import JvmDerived.Pilot.@@N@@Code
set_option linter.unusedVariables false
set_option linter.unusedSimpArgs false
@@BLOCK:HandJ.lean.txt@@
@@BLOCK:HandW.lean.txt@@
@@BLOCK:HandBits.lean.txt@@
@@BLOCK:NumsL.lean.txt@@
@@BLOCK:SymMore.lean.txt@@
namespace Jvm.RoadKit
open Sem ClassFile Op Lib Jvm.Stand Jvm.Free Jvm.LawKit
section New
variable {p : Program} {l : Launch} {e : Env} {R : Room} {s : State} {m : MethodId} {args : Array Value} {below : List Frame} {meth : Method} {c : Code} {T : State} {locs : List Loc} {cells slots : Nat}
theorem retI (X : Stand p l e R s m args below meth c T locs cells slots) (hx : p.tables.exec = Jvm.exec) {pc : Nat} {Ls : Array Slot} {z : Int32} {rest : List Value} (hret : meth.sig.returnType = some .int) (hd : decode c.code pc = .ok (.ireturn, 1)) {fs : List Frame}
    (hl : ∀ (f : JFrame) (acts : List Action), f.method = m → f.locked = none → f.entered = [] → (doReturn e (T.setTop f) acts (some (.int z))).1 = T.setFrames fs) : Steps p.tables e below (T.setTop (mkF m pc Ls (.int z :: rest))) (T.setFrames fs) := by
  have hm' : T.vm.method? m = some meth := X.method'
  have hn : narrow .int (.int z) = .int z := rfl
  show Steps p.tables e below (T.setTop { method := m, pc := pc, locals := Ls, stack := _ :: rest, locked := none }) _
  jvm_step X.here [X.here.top, hx, hd, hm', hret, hn]
  first | (intro acts; rw [hl _ acts rfl rfl rfl]) | rw [hl _ _ rfl rfl rfl]
  exact Steps.refl _
end New
end Jvm.RoadKit
namespace Jvm.Pilot.@@N@@
open Jvm Jvm.ClassFile Sem Op Lib Jvm.Free Jvm.Stand Jvm.LawKit Jvm.RoadKit Bundle Jvm.Pilot.@@N@@.Jvm.D
theorem own_pd___V : parseMethodDescriptor "()V" = some ⟨[], none⟩ := by decide +kernel
theorem own_pd__II_V : parseMethodDescriptor "(II)V" = some ⟨[.int, .int], none⟩ := by decide +kernel
theorem own_pd___II__I : parseMethodDescriptor "([II)[I" = some ⟨[(.array .int), .int], some (.array .int)⟩ := by decide +kernel
theorem own_pd__II_I : parseMethodDescriptor "(II)I" = some ⟨[.int, .int], some .int⟩ := by decide +kernel
theorem own_pd__Ljava_lang_Object_ILjava_lang_Object_II_V : parseMethodDescriptor "(Ljava/lang/Object;ILjava/lang/Object;II)V" = some ⟨[(.object "java/lang/Object"), .int, (.object "java/lang/Object"), .int, .int], none⟩ := by decide +kernel
theorem own_pd___IIII_V : parseMethodDescriptor "([IIII)V" = some ⟨[(.array .int), .int, .int, .int], none⟩ := by decide +kernel
theorem own_pd__III_V : parseMethodDescriptor "(III)V" = some ⟨[.int, .int, .int], none⟩ := by decide +kernel
theorem own_pd__I_I : parseMethodDescriptor "(I)I" = some ⟨[.int], some .int⟩ := by decide +kernel
theorem own_pd__IIIIIZ_I : parseMethodDescriptor "(IIIIIZ)I" = some ⟨[.int, .int, .int, .int, .int, .boolean], some .int⟩ := by decide +kernel
theorem own_toInt {k : Nat} (h : k ≤ 1000) : (Int32.ofNat k).toInt = k := Int32.toInt_ofNat_small (by omega)
theorem own_clamp {k : Nat} (h : k ≤ 1000) : (Int32.ofNat k).toNatClampNeg = k := by
  show (Int32.ofNat k).toInt.toNat = k
  rw [own_toInt h]; rfl
theorem own_nn {k : Nat} (h : k ≤ 1000) : ¬ Int32.ofNat k < 0 := by
  rw [Int32.lt_iff_toInt_lt, own_toInt h, show (0 : Int32).toInt = 0 by decide]; omega
theorem own_lt {i j : Nat} (hi : i ≤ 1000) (hj : j ≤ 1000) : Int32.ofNat i < Int32.ofNat j ↔ i < j := by
  rw [Int32.lt_iff_toInt_lt, own_toInt hi, own_toInt hj]; omega
theorem own_inj {i j : Nat} (hi : i ≤ 1000) (hj : j ≤ 1000) : Int32.ofNat i = Int32.ofNat j ↔ i = j := by
  constructor
  · intro h
    have h' := congrArg Int32.toInt h
    rw [own_toInt hi, own_toInt hj] at h'; omega
  · intro h; rw [h]
theorem own_succ {k : Nat} (h : k ≤ 900) : Int32.ofNat k + 1 = Int32.ofNat (k + 1) := by
  apply Int32.toInt_inj.mp
  have e1 : (1 : Int32).toInt = 1 := by decide
  have a := own_toInt (k := k) (by omega); have b := own_toInt (k := k + 1) (by omega)
  have s := Jvm.Kit.i32_add (p := Int32.ofNat k) (q := 1) (by omega) (by omega)
  omega
theorem own_dbl {k : Nat} (h : k ≤ 100) : Int32.ofNat k * 2 = Int32.ofNat (2 * k) := by
  apply Int32.toInt_inj.mp
  have e2 : (2 : Int32).toInt = 2 := by decide
  have a := own_toInt (k := k) (by omega); have b := own_toInt (k := 2 * k) (by omega)
  have s := Jvm.Kit.i32_mul (p := Int32.ofNat k) (q := 2) (by rw [e2]; omega) (by rw [e2]; omega)
  rw [e2] at s; omega
theorem own_max {i j : Nat} (hi : i ≤ 1000) (hj : j ≤ 1000) : Jvm.Free.JP.Math_max_II.val (Int32.ofNat i) (Int32.ofNat j) = Int32.ofNat (max i j) := by
  have e : Jvm.Free.JP.Math_max_II.val (Int32.ofNat i) (Int32.ofNat j) = if Int32.ofNat i < Int32.ofNat j then Int32.ofNat j else Int32.ofNat i := rfl
  rw [e]
  by_cases h : i < j
  · rw [if_pos ((own_lt hi hj).mpr h), Nat.max_eq_right (by omega)]
  · rw [if_neg (fun q => h ((own_lt hi hj).mp q)), Nat.max_eq_left (by omega)]
theorem own_min {i j : Nat} (hi : i ≤ 1000) (hj : j ≤ 1000) (h : i < j) : Jvm.Free.JP.Math_min_II.val (Int32.ofNat i) (Int32.ofNat j) = Int32.ofNat i := by
  have e : Jvm.Free.JP.Math_min_II.val (Int32.ofNat i) (Int32.ofNat j) = if Int32.ofNat j < Int32.ofNat i then Int32.ofNat j else Int32.ofNat i := rfl
  rw [e, if_neg (fun q => by have := (own_lt hj hi).mp q; omega)]
theorem own_m15 (p : Int32) : ∃ k, k ≤ 15 ∧ (p &&& (15 : Int32)) = Int32.ofNat k := by
  have e1 : (p &&& 15).toInt = p.toInt % 2 ^ 4 := Jvm.Kit.i32_mask p 15 (k := 4) (by decide) (by decide)
  refine ⟨(p &&& 15).toInt.toNat, by omega, Int32.toInt_inj.mp ?_⟩
  rw [own_toInt (by omega)]; omega
def own_ok (y : Int32) : Prop := y = -1 ∨ ∃ i, i ≤ 15 ∧ y = Int32.ofNat i
theorem own_m1 {i : Nat} (h : i ≤ 1000) : ¬ Int32.ofNat i = -1 := fun q => by
  have q' := congrArg Int32.toInt q
  rw [own_toInt h, show (-1 : Int32).toInt = -1 by decide] at q'; omega
def own_enc2 (x a b c d : Int32) : Int32 := if x = c then d else if x = a then b else -1
def own_enc (x a b c d e : Int32) : Int32 := if e = 0 then own_enc2 x a b c d else if x = a then a else own_enc2 x a b c d
def own_refF (E : Int32 → Int32) (x : Int32) : Int32 :=
  if E x = -1 then x else if E x = x then x else if E (E x) = -1 then E x else if E (E x) = E x then E x else if E (E (E x)) = -1 then E (E x) else if E (E (E x)) = E (E x) then E (E x) else x
theorem own_r1 {E : Int32 → Int32} {x : Int32} (a : E x = -1) : own_refF E x = x := by unfold own_refF; rw [if_pos a]
theorem own_r2 {E : Int32 → Int32} {x : Int32} (a : ¬ E x = -1) (b : E x = x) : own_refF E x = x := by unfold own_refF; rw [if_neg a, if_pos b]
theorem own_r3 {E : Int32 → Int32} {x : Int32} (a : ¬ E x = -1) (b : ¬ E x = x) (c : E (E x) = -1) : own_refF E x = E x := by unfold own_refF; rw [if_neg a, if_neg b, if_pos c]
theorem own_r4 {E : Int32 → Int32} {x : Int32} (a : ¬ E x = -1) (b : ¬ E x = x) (c : ¬ E (E x) = -1) (d : E (E x) = E x) : own_refF E x = E x := by unfold own_refF; rw [if_neg a, if_neg b, if_neg c, if_pos d]
theorem own_r5 {E : Int32 → Int32} {x : Int32} (a : ¬ E x = -1) (b : ¬ E x = x) (c : ¬ E (E x) = -1) (d : ¬ E (E x) = E x) (g : E (E (E x)) = -1) : own_refF E x = E (E x) := by unfold own_refF; rw [if_neg a, if_neg b, if_neg c, if_neg d, if_pos g]
theorem own_r6 {E : Int32 → Int32} {x : Int32} (a : ¬ E x = -1) (b : ¬ E x = x) (c : ¬ E (E x) = -1) (d : ¬ E (E x) = E x) (g : ¬ E (E (E x)) = -1) (k : E (E (E x)) = E (E x)) : own_refF E x = E (E x) := by unfold own_refF; rw [if_neg a, if_neg b, if_neg c, if_neg d, if_neg g, if_pos k]
theorem own_r7 {E : Int32 → Int32} {x : Int32} (a : ¬ E x = -1) (b : ¬ E x = x) (c : ¬ E (E x) = -1) (d : ¬ E (E x) = E x) (g : ¬ E (E (E x)) = -1) (k : ¬ E (E (E x)) = E (E x)) : own_refF E x = x := by unfold own_refF; rw [if_neg a, if_neg b, if_neg c, if_neg d, if_neg g, if_neg k]
def own_ref (x a b c d e : Int32) : Int32 := own_refF (fun y => own_enc y a b c d e) x
def own_loop (E : Int32 → Int32) (sl : Nat) : Nat → Int32 → Int32 → Nat → Int32 × Nat
  | 0, top, _, st => (top, st)
  | fu + 1, top, outer, st => if outer = -1 then (top, st) else if outer = top then (top, st) else if sl < st then (top, st) else own_loop E sl fu outer (E outer) (st + 1)
def own_out (E : Int32 → Int32) (sl : Nat) (x : Int32) : Int32 := if sl < (own_loop E sl (sl + 2) x (E x) 0).2 then x else (own_loop E sl (sl + 2) x (E x) 0).1
theorem own_cyc (E : Int32 → Int32) (sl : Nat) {u w : Int32} (e1 : E u = w) (e2 : E w = u) (hne : ¬ u = w) (hu : ¬ u = -1) (hw : ¬ w = -1) :
    ∀ (fu st : Nat) (top outer : Int32), st + fu = sl + 2 → ((top = u ∧ outer = w) ∨ (top = w ∧ outer = u)) → sl < (own_loop E sl fu top outer st).2 := by
  intro fu
  induction fu with
  | zero => intro st top outer h _; show sl < st; omega
  | succ fu ih =>
    intro st top outer h hc
    rw [own_loop]
    have n1 : ¬ outer = -1 := by rcases hc with ⟨-, rfl⟩ | ⟨-, rfl⟩ <;> assumption
    have n2 : ¬ outer = top := by
      rcases hc with ⟨rfl, rfl⟩ | ⟨rfl, rfl⟩
      · exact fun q => hne q.symm
      · exact hne
    rw [if_neg n1, if_neg n2]
    by_cases hs : sl < st
    · rw [if_pos hs]; exact hs
    · rw [if_neg hs]
      refine ih (st + 1) _ _ (by omega) ?_
      rcases hc with ⟨rfl, rfl⟩ | ⟨rfl, rfl⟩
      · exact Or.inr ⟨rfl, e2⟩
      · exact Or.inl ⟨rfl, e1⟩
theorem own_dom {x a b c d e : Int32} (h : ¬ own_enc x a b c d e = -1) : x = a ∨ x = c := by
  by_cases hc : x = c
  · exact Or.inr hc
  · by_cases ha : x = a
    · exact Or.inl ha
    · exfalso; apply h; unfold own_enc own_enc2
      rw [if_neg hc, if_neg ha, if_neg ha, ite_self]
theorem own_enc_ok {x a b c d e : Int32} (ha : own_ok a) (hb : own_ok b) (hd : own_ok d) : own_ok (own_enc x a b c d e) := by
  have h2 : own_ok (own_enc2 x a b c d) := by
    unfold own_enc2
    by_cases q : x = c
    · rw [if_pos q]; exact hd
    · rw [if_neg q]
      by_cases q2 : x = a
      · rw [if_pos q2]; exact hb
      · rw [if_neg q2]; exact Or.inl rfl
  unfold own_enc
  by_cases q : e = 0
  · rw [if_pos q]; exact h2
  · rw [if_neg q]
    by_cases q2 : x = a
    · rw [if_pos q2]; exact ha
    · rw [if_neg q2]; exact h2
theorem own_out_eq (E F : Int32 → Int32) (sl : Nat) (x : Int32) (hEF : ∀ y, own_ok y → ¬ y = -1 → E y = F y) (hF : ∀ y, own_ok (F y)) (hx : own_ok x) (hx1 : ¬ x = -1) {a c : Int32}
    (hd : ∀ y, ¬ F y = -1 → y = a ∨ y = c) (h1 : 1 ≤ sl) (h2 : ¬ a = c → 2 ≤ sl) : own_out E sl x = own_refF F x := by
  obtain ⟨s, rfl⟩ : ∃ s, sl = s + 1 := ⟨sl - 1, by omega⟩
  unfold own_out own_refF
  have f0 := hEF x hx hx1
  have L1 : own_loop E (s + 1) (s + 1 + 2) x (E x) 0 = if F x = -1 then (x, 0) else if F x = x then (x, 0) else own_loop E (s + 1) (s + 2) (F x) (E (F x)) 1 := by
    show own_loop E (s + 1) ((s + 2) + 1) x (E x) 0 = _
    rw [own_loop, f0, if_neg (show ¬ s + 1 < 0 by omega)]
  rw [L1]
  by_cases k1 : F x = -1
  · rw [if_pos k1, if_pos k1]; simp
  · by_cases k2 : F x = x
    · rw [if_neg k1, if_pos k2, if_neg k1, if_pos k2]; simp
    · rw [if_neg k1, if_neg k2, if_neg k1, if_neg k2]
      have f1 := hEF (F x) (hF x) k1
      have L2 : own_loop E (s + 1) (s + 2) (F x) (E (F x)) 1 = if F (F x) = -1 then (F x, 1) else if F (F x) = F x then (F x, 1) else own_loop E (s + 1) (s + 1) (F (F x)) (E (F (F x))) 2 := by
        show own_loop E (s + 1) ((s + 1) + 1) (F x) (E (F x)) 1 = _
        rw [own_loop, f1, if_neg (show ¬ s + 1 < 1 by omega)]
      rw [L2]
      by_cases k3 : F (F x) = -1
      · rw [if_pos k3, if_pos k3]; simp
      · by_cases k4 : F (F x) = F x
        · rw [if_neg k3, if_pos k4, if_neg k3, if_pos k4]; simp
        · rw [if_neg k3, if_neg k4, if_neg k3, if_neg k4]
          have dx := hd _ k1
          have d1 := hd _ k3
          have hac : ¬ a = c := by
            intro q; subst q
            rcases dx with rfl | rfl <;> rcases d1 with q | q <;> exact k2 q
          have hs2 : 2 ≤ s + 1 := h2 hac
          have f2 := hEF (F (F x)) (hF (F x)) k3
          have L3 : own_loop E (s + 1) (s + 1) (F (F x)) (E (F (F x))) 2 = if F (F (F x)) = -1 then (F (F x), 2) else if F (F (F x)) = F (F x) then (F (F x), 2) else own_loop E (s + 1) (s + 1) (F (F x)) (F (F (F x))) 2 := by
            rw [f2]
            by_cases k5 : F (F (F x)) = -1
            · rw [if_pos k5, own_loop, if_pos k5]
            · rw [if_neg k5]
              by_cases k6 : F (F (F x)) = F (F x)
              · rw [if_pos k6, own_loop, if_neg k5, if_pos k6]
              · rw [if_neg k6]
          rw [L3]
          by_cases k5 : F (F (F x)) = -1
          · rw [if_pos k5, if_pos k5, if_neg (show ¬ s + 1 < (F (F x), 2).2 from by show ¬ s + 1 < 2; omega)]
          · by_cases k6 : F (F (F x)) = F (F x)
            · rw [if_neg k5, if_pos k6, if_neg k5, if_pos k6, if_neg (show ¬ s + 1 < (F (F x), 2).2 from by show ¬ s + 1 < 2; omega)]
            · rw [if_neg k5, if_neg k6, if_neg k5, if_neg k6]
              have d2 := hd _ k5
              have e2 : F (F x) = x := by
                rcases dx with q0 | q0 <;> rcases d1 with q1 | q1 <;> rcases d2 with q2 | q2
                · exact absurd (q1.trans q0.symm) k2
                · exact absurd (q1.trans q0.symm) k2
                · exact q2.trans q0.symm
                · exact absurd (q2.trans q1.symm) k4
                · exact absurd (q2.trans q1.symm) k4
                · exact q2.trans q0.symm
                · exact absurd (q1.trans q0.symm) k2
                · exact absurd (q1.trans q0.symm) k2
              have cy := own_cyc E (s + 1) (u := x) (w := F x) f0 (f1.trans e2) (fun q => k2 q.symm) hx1 k1 (s + 1) 2 (F (F x)) (F (F (F x))) (by omega) (Or.inl ⟨e2, by rw [e2]⟩)
              rw [if_pos cy]
def own_e (nd : Nat) (fd : Nat → Int32) (nl : Nat) (fl : Nat → Int32) (k : Nat) : Int32 :=
  if (if k < nd then fd k else -1) = -1 then (if k < nl then fl k else -1) else (if k < nd then fd k else -1)
def own_E (nd : Nat) (fd : Nat → Int32) (nl : Nat) (fl : Nat → Int32) (y : Int32) : Int32 := own_e nd fd nl fl y.toNatClampNeg
def own_A (Z : State) (h : Heap) (a : Addr) (n : Nat) (f : Nat → Int32) : Prop := ∃ c : Cell, Arr Z h a c .int ∧ c.slots.size = n ∧ n ≤ 32 ∧ ∀ i, i < n → c.slots[i]? = some (.int (f i))
theorem own_A.lt {Z : State} {h : Heap} {a : Addr} {n : Nat} {f : Nat → Int32} (F : own_A Z h a n f) : a < h.size := by obtain ⟨c, A, -⟩ := F; exact A.lt
theorem own_A.ext {Z : State} {h h' : Heap} {a : Addr} {n : Nat} {f : Nat → Int32} (F : own_A Z h a n f) (E : Ext h h') : own_A Z h' a n f := by obtain ⟨c, A, r⟩ := F; exact ⟨c, A.ext E, r⟩
theorem own_A.other {Z : State} {h h' : Heap} {a b : Addr} {n sl : Nat} {v : Value} {f : Nat → Int32} (F : own_A Z h a n f) (W : Wr h h' b sl v) (q : a ≠ b) : own_A Z h' a n f := by obtain ⟨c, A, r⟩ := F; exact ⟨c, A.other W q, r⟩
theorem own_A.keep {Z : State} {h h' : Heap} {a : Addr} {n : Nat} {f : Nat → Int32} {ws : List Addr} (F : own_A Z h a n f) (K : Keep h h' ws) (q : a ∉ ws) : own_A Z h' a n f := by obtain ⟨c, A, r⟩ := F; exact ⟨c, ⟨K.2.1 a c A.1 q, A.2⟩, r⟩
theorem own_A.congr {Z : State} {h : Heap} {a : Addr} {n : Nat} {f g : Nat → Int32} (F : own_A Z h a n f) (e : ∀ i, i < n → f i = g i) : own_A Z h a n g := by obtain ⟨c, A, r1, r2, H⟩ := F; exact ⟨c, A, r1, r2, fun i hi => by rw [← e i hi]; exact H i hi⟩
theorem own_A.set {Z : State} {h h' : Heap} {a : Addr} {n k : Nat} {y : Int32} {f : Nat → Int32} (F : own_A Z h a n f) (W : Wr h h' a k (.int y)) (hk : k < n) : own_A Z h' a n (fun j => if j = k then y else f j) := by
  obtain ⟨c, A, r1, r2, H⟩ := F
  refine ⟨_, A.same W, (sz_set _ _ _).trans r1, r2, fun i hi => ?_⟩
  show (c.slots.setIfInBounds k (.int y))[i]? = some (.int (if i = k then y else f i))
  by_cases q : i = k
  · subst q; rw [if_pos rfl, Array.getElem?_setIfInBounds_self_of_lt (by omega)]
  · rw [if_neg q, Array.getElem?_setIfInBounds_ne (fun z => q z.symm)]; exact H i hi
theorem own_A.toArv {Z : State} {h : Heap} {a : Addr} {n : Nat} {f : Nat → Int32} (F : own_A Z h a n f) : ∃ k, Arv Z h a k .int (Int32.ofNat n) ((List.range n).map fun i => Value.int (f i)) (.int 0) := by
  obtain ⟨c, A, r1, r2, H⟩ := F
  refine ⟨c.cls, c, A, rfl, by rw [own_clamp (by omega)]; exact r1, own_nn (by omega), fun i hi => ?_, fun i hi => ?_⟩
  · rw [r1] at hi; rw [H i hi]; simp [List.getD_eq_getElem?_getD, hi]
  · rw [r1] at hi; simp [List.getD_eq_getElem?_getD, hi, fits]
theorem own_A.ofArv {Z : State} {h : Heap} {a : Addr} {k : ClassId} {n : Nat} {vs : List Value} {d : Value} {f : Nat → Int32} (F : Arv Z h a k .int (Int32.ofNat n) vs d) (hn : n ≤ 32) (e : ∀ i, i < n → vs.getD i d = .int (f i)) : own_A Z h a n f := by
  obtain ⟨c, A, -, S, -, H, -⟩ := F
  rw [own_clamp (by omega)] at S
  exact ⟨c, A, S, hn, fun i hi => by rw [H i (by omega), e i hi]⟩
theorem own_list (f : Nat → Int32) (n m i : Nat) (hn : n < m) (hi : i < m) (vs : List Value) (hv : vs = (List.range n).map fun i => Value.int (f i)) :
    (((([] : List Value) ++ List.replicate m (Value.int 0)).take 0 ++ (List.range n).map (fun i => vs.getD (0 + i) (Value.int 0))) ++ (([] : List Value) ++ List.replicate m (Value.int 0)).drop (0 + n)).getD i (Value.int 0) = .int (if i < n then f i else 0) := by
  subst hv
  simp only [List.nil_append, List.take_zero, Nat.zero_add, List.getD_eq_getElem?_getD]
  by_cases q : i < n
  · rw [if_pos q, List.getElem?_append_left (by simpa using q)]
    simp [q]
  · rw [if_neg q, List.getElem?_append_right (by simp; omega)]
    simp
    rw [List.getElem?_replicate]
    split <;> rfl
def own_N (Z : State) (h : Heap) (n0 : Nat) (b D : Addr) (nd : Nat) (fd : Nat → Int32) (A : Addr) (nl : Nat) (fl : Nat → Int32) : Prop :=
  Exa Z h b "com/example/edge_keeper/edgekeeper/Nesting" ∧ Fld Z h b "com/example/edge_keeper/edgekeeper/Nesting" "declared" "[I" (.ref D) ∧ Fld Z h b "com/example/edge_keeper/edgekeeper/Nesting" "learned" "[I" (.ref A) ∧ own_A Z h D nd fd ∧ own_A Z h A nl fl ∧ D ≠ A ∧ b ≠ D ∧ b ≠ A ∧ n0 ≤ b ∧ n0 ≤ D ∧ n0 ≤ A ∧ n0 ≤ h.size
theorem own_N.move {Z : State} {h h' : Heap} {n0 : Nat} {b D : Addr} {nd : Nat} {fd : Nat → Int32} {A : Addr} {nl : Nat} {fl : Nat → Int32} (H : own_N Z h n0 b D nd fd A nl fl) (e : h' = h) : own_N Z h' n0 b D nd fd A nl fl := by rw [e]; exact H
theorem own_max_tab {a : Array Value} {s : State} (h1 : (Jvm.Cond.code (⟨"java/lang/Math", "max", "(II)I"⟩ : MethodName) jdk_29_method_65_code 2 (some .int)).before a s = true) (h2 : (Jvm.Cond.initialized "java/lang/Math").before a s = true) : Jvm.Free.JP.Math_max_II.tab.before a s = true :=
  Jvm.Free.XT.unparts h1 (fun w hw => by have e := List.mem_singleton.mp hw; subst e; exact h2)
theorem own_min_tab {a : Array Value} {s : State} (h1 : (Jvm.Cond.code (⟨"java/lang/Math", "min", "(II)I"⟩ : MethodName) jdk_29_method_69_code 2 (some .int)).before a s = true) (h2 : (Jvm.Cond.initialized "java/lang/Math").before a s = true) : Jvm.Free.JP.Math_min_II.tab.before a s = true :=
  Jvm.Free.XT.unparts h1 (fun w hw => by have e := List.mem_singleton.mp hw; subst e; exact h2)
theorem own_rc_tab {a : Array Value} {s : State} (h1 : (Jvm.Cond.code (⟨"java/util/Arrays", "rangeCheck", "(III)V"⟩ : MethodName) jdk_65_method_30_code 3 none).before a s = true) (h2 : (Jvm.Cond.initialized "java/util/Arrays").before a s = true) : Jvm.Free.JA.RangeCheck.tab.before a s = true :=
  Jvm.Free.XT.unparts h1 (fun w hw => by have e := List.mem_singleton.mp hw; subst e; exact h2)
theorem own_fill_tab {a : Array Value} {s : State} (h1 : (Jvm.Cond.code (⟨"java/util/Arrays", "fill", "([IIII)V"⟩ : MethodName) jdk_65_method_104_code 5 none).before a s = true) (h2 : (Jvm.Cond.initialized "java/util/Arrays").before a s = true)
    (h3 : (Jvm.Cond.code (⟨"java/util/Arrays", "rangeCheck", "(III)V"⟩ : MethodName) jdk_65_method_30_code 3 none).before a s = true) (h4 : (Jvm.Cond.methodLink "java/util/Arrays" 13 (⟨"java/util/Arrays", "rangeCheck", "(III)V"⟩ : MethodName)).before a s = true) (h5 : (Jvm.Cond.static (⟨"java/util/Arrays", "rangeCheck", "(III)V"⟩ : MethodName)).before a s = true) : Jvm.Free.JA.FillRI.tab.before a s = true :=
  Jvm.Free.XT.unparts h1 (fun w hw => by
    rcases List.mem_cons.mp hw with rfl | hw
    · exact h2
    rcases List.mem_cons.mp hw with rfl | hw
    · exact own_rc_tab h3 h2
    rcases List.mem_cons.mp hw with rfl | hw
    · exact h4
    have e := List.mem_singleton.mp hw; subst e; exact h5)
theorem own_fr_copy {n0 : Nat} {r : Addr} (g : n0 ≤ r) (lo n : Nat) : Fr n0 (copyLocs r lo n) := fun y hy => by
  simp only [copyLocs, List.mem_map] at hy
  obtain ⟨i, -, rfl⟩ := hy; exact g
theorem d14_0 : decode method_2_code 0 = .ok (.iload 5, 2) := by decide +kernel
theorem d14_2 : decode method_2_code 2 = .ok (.ifCond .eq 10, 3) := by decide +kernel
theorem d14_5 : decode method_2_code 5 = .ok (.iload_n 0, 1) := by decide +kernel
theorem d14_6 : decode method_2_code 6 = .ok (.iload_n 1, 1) := by decide +kernel
theorem d14_7 : decode method_2_code 7 = .ok (.if_icmp .ne 5, 3) := by decide +kernel
theorem d14_10 : decode method_2_code 10 = .ok (.iload_n 1, 1) := by decide +kernel
theorem d14_11 : decode method_2_code 11 = .ok (.ireturn, 1) := by decide +kernel
theorem d14_12 : decode method_2_code 12 = .ok (.iload_n 0, 1) := by decide +kernel
theorem d14_13 : decode method_2_code 13 = .ok (.iload_n 3, 1) := by decide +kernel
theorem d14_14 : decode method_2_code 14 = .ok (.if_icmp .ne 6, 3) := by decide +kernel
theorem d14_17 : decode method_2_code 17 = .ok (.iload 4, 2) := by decide +kernel
theorem d14_19 : decode method_2_code 19 = .ok (.ireturn, 1) := by decide +kernel
theorem d14_20 : decode method_2_code 20 = .ok (.iload_n 0, 1) := by decide +kernel
theorem d14_21 : decode method_2_code 21 = .ok (.iload_n 1, 1) := by decide +kernel
theorem d14_22 : decode method_2_code 22 = .ok (.if_icmp .ne 5, 3) := by decide +kernel
theorem d14_25 : decode method_2_code 25 = .ok (.iload_n 2, 1) := by decide +kernel
theorem d14_26 : decode method_2_code 26 = .ok (.ireturn, 1) := by decide +kernel
theorem d14_27 : decode method_2_code 27 = .ok (.iconst (-1), 1) := by decide +kernel
theorem d14_28 : decode method_2_code 28 = .ok (.ireturn, 1) := by decide +kernel
theorem own_pn_NestingLearnPinLaw : plainName "com/example/edge_keeper/edgekeeper/NestingLearnPinLaw" = true := by first | (simp [plainName, overriddenIn]; done) | decide +kernel
theorem ef_14 (m : MethodId) (x0 : Int32) (x1 : Int32) (x2 : Int32) (x3 : Int32) (x4 : Int32) (x5 : Int32) : entryFrame m #[(.int x0), (.int x1), (.int x2), (.int x3), (.int x4), (.int x5)] 6 = mkF m 0 #[.val (.int x0), .val (.int x1), .val (.int x2), .val (.int x3), .val (.int x4), .val (.int x5)] [] := by first | (simp [entryFrame, mkF, argsToLocals, Value.category]; done) | rfl
def Qrm14 (Z : State) (p1 : Int32) (p2 : Int32) (p3 : Int32) (p4 : Int32) (p5 : Int32) (p6 : Int32) (h0 : Heap) (n0 : Nat) (v : Option Value) (h : Heap) (L : List Loc) : Prop := v = some (.int (own_enc p1 p2 p3 p4 p5 p6)) ∧ Fr n0 L ∧ h = h0
set_option maxRecDepth 65536 in
set_option maxHeartbeats 40000000 in
theorem rm14 (l : Launch) (Z : State) (a0 : Array Value) (hw : ∀ d ∈ tables_1, d.before a0 Z = true) (ws : List Jvm.Cond) (p1 : Int32) (p2 : Int32) (p3 : Int32) (p4 : Int32) (p5 : Int32) (p6 : Int32) (h0 : Heap) (n0 : Nat) (Z0 : n0 ≤ h0.size)  :
    MetFree l (⟨"com/example/edge_keeper/edgekeeper/NestingLearnPinLaw", "enc", "(IIIIIZ)I"⟩ : MethodName) (head1 (Jvm.Cond.code (⟨"com/example/edge_keeper/edgekeeper/NestingLearnPinLaw", "enc", "(IIIIIZ)I"⟩ : MethodName) method_2_code 6 (some .int) :: ws) ({ frames := 0, cells := 0, slots := 0, locals := 0 } : Room)) (fun a U => a = #[(.int p1), (.int p2), (.int p3), (.int p4), (.int p5), (.int p6)] ∧ Z.Warmed39 U.vm ∧ U.heap = h0) (fun _ _ _ _ _ => True) (fun _ U o U' => ∃ v L, o = .returned v ∧ Qrm14 Z p1 p2 p3 p4 p5 p6 h0 n0 v U'.heap L ∧ FrameEnd U o U' L ({ frames := 0, cells := 0, slots := 0, locals := 0 } : Room).cells ({ frames := 0, cells := 0, slots := 0, locals := 0 } : Room).slots) := by
  refine MetFree.of_bodySF (plainFor_of_name own_pn_NestingLearnPinLaw) hisR ?_
  intro p e s m args below meth c s₁ Bd hml0 hP hK
  obtain ⟨rfl, hZ, hh⟩ := hP
  have hx := Bd.exec
  have hby := Bd.bytes
  have hml : c.maxLocals = 6 := hml0
  have hown : s.vm.findClass "com/example/edge_keeper/edgekeeper/NestingLearnPinLaw" = some m.cls := findClass_of_methodNamed Bd.named
  have hnm := (name_of_methodNamed Bd.named Bd.method).1
  have X0 : Stand p l e ({ frames := 0, cells := 0, slots := 0, locals := 0 } : Room) s m #[(.int p1), (.int p2), (.int p3), (.int p4), (.int p5), (.int p6)] below meth c s₁ [] 0 0 := Stand.of_body Bd
  have e0 : s₁.heap = h0 := by rw [← hh, Bd.state]; rfl
  have N0 := Fr.nil n0
  have pre0 : ∀ t, Steps p.tables e below (s₁.setTop (mkF m 0 #[.val (.int p1), .val (.int p2), .val (.int p3), .val (.int p4), .val (.int p5), .val (.int p6)] [])) t → Steps p.tables e below (s₁.setTop (entryFrame m #[(.int p1), (.int p2), (.int p3), (.int p4), (.int p5), (.int p6)] 6)) t := fun t0_ k0_ => castTop (ef_14 m p1 p2 p3 p4 p5 p6) k0_
  obtain ⟨S0, hS0⟩ : ∃ z, z = s₁.setTop (mkF m 0 #[.val (.int p1), .val (.int p2), .val (.int p3), .val (.int p4), .val (.int p5), .val (.int p6)] []) := ⟨_, rfl⟩
  have c0 : Steps p.tables e below S0 (s₁.setTop (mkF m 0 #[.val (.int p1), .val (.int p2), .val (.int p3), .val (.int p4), .val (.int p5), .val (.int p6)] [])) := by rw [hS0]; exact Steps.refl _
  have c1 : Steps p.tables e below S0 (s₁.setTop (mkF m 2 #[.val (.int p1), .val (.int p2), .val (.int p3), .val (.int p4), .val (.int p5), .val (.int p6)] [(.int p6)])) := c0.trans (by
    refine XS.iload X0.here hx rfl (hb hby d14_0) rfl ?_
    show Steps p.tables e below (s₁.setTop (mkF m 2 #[.val (.int p1), .val (.int p2), .val (.int p3), .val (.int p4), .val (.int p5), .val (.int p6)] [(.int p6)])) _
    exact Steps.refl _)
  by_cases k1 : p6 = 0
  ·
    have c2 : Steps p.tables e below S0 (s₁.setTop (mkF m 14 #[.val (.int p1), .val (.int p2), .val (.int p3), .val (.int p4), .val (.int p5), .val (.int p6)] [(.int p4), (.int p1)])) := c1.trans (by
      refine XS.ifYes X0.here hx rfl (pc0 := 2) (pc' := 12) rfl (hb hby d14_2) rfl (XT.i0_eq_t k1) (by decide) (by decide) ?_
      show Steps p.tables e below (s₁.setTop (mkF m 12 #[.val (.int p1), .val (.int p2), .val (.int p3), .val (.int p4), .val (.int p5), .val (.int p6)] [])) _
      refine XS.iloadN X0.here hx rfl (hb hby d14_12) rfl ?_
      show Steps p.tables e below (s₁.setTop (mkF m 13 #[.val (.int p1), .val (.int p2), .val (.int p3), .val (.int p4), .val (.int p5), .val (.int p6)] [(.int p1)])) _
      refine XS.iloadN X0.here hx rfl (hb hby d14_13) rfl ?_
      show Steps p.tables e below (s₁.setTop (mkF m 14 #[.val (.int p1), .val (.int p2), .val (.int p3), .val (.int p4), .val (.int p5), .val (.int p6)] [(.int p4), (.int p1)])) _
      exact Steps.refl _)
    by_cases k3 : p1 = p4
    ·
      have c3 : Steps p.tables e below S0 (s₁.setTop (mkF m 19 #[.val (.int p1), .val (.int p2), .val (.int p3), .val (.int p4), .val (.int p5), .val (.int p6)] [(.int p5)])) := c2.trans (by
        refine XS.icmpNo X0.here hx rfl (hb hby d14_14) rfl (XT.ii_ne_f k3) ?_
        show Steps p.tables e below (s₁.setTop (mkF m 17 #[.val (.int p1), .val (.int p2), .val (.int p3), .val (.int p4), .val (.int p5), .val (.int p6)] [])) _
        refine XS.iload X0.here hx rfl (hb hby d14_17) rfl ?_
        show Steps p.tables e below (s₁.setTop (mkF m 19 #[.val (.int p1), .val (.int p2), .val (.int p3), .val (.int p4), .val (.int p5), .val (.int p6)] [(.int p5)])) _
        exact Steps.refl _)
      obtain ⟨fs, hr, hrun, hended, hW, hsame⟩ := X0.leave (v := some (.int p5)) (fun h => by rw [Bd.returns] at h; cases h)
      refine ⟨_, _, pre0 _ ?_, hrun, hended, _, _, rfl, ?_, ⟨_, rfl⟩, hW, hsame.mono (by decide) (by decide)⟩
      · rw [← hS0]
        exact c3.trans (retI X0 hx Bd.returns (hb hby d14_19) hr)
      · show Qrm14 Z p1 p2 p3 p4 p5 p6 h0 n0 _ s₁.heap _
        rw [e0]
        exact ⟨by rw [own_enc, if_pos k1, own_enc2, if_pos k3], N0, rfl⟩
    ·
      have c4 : Steps p.tables e below S0 (s₁.setTop (mkF m 22 #[.val (.int p1), .val (.int p2), .val (.int p3), .val (.int p4), .val (.int p5), .val (.int p6)] [(.int p2), (.int p1)])) := c2.trans (by
        refine XS.icmpYes X0.here hx rfl (pc0 := 14) (pc' := 20) rfl (hb hby d14_14) rfl (XT.ii_ne_t k3) (by decide) (by decide) ?_
        show Steps p.tables e below (s₁.setTop (mkF m 20 #[.val (.int p1), .val (.int p2), .val (.int p3), .val (.int p4), .val (.int p5), .val (.int p6)] [])) _
        refine XS.iloadN X0.here hx rfl (hb hby d14_20) rfl ?_
        show Steps p.tables e below (s₁.setTop (mkF m 21 #[.val (.int p1), .val (.int p2), .val (.int p3), .val (.int p4), .val (.int p5), .val (.int p6)] [(.int p1)])) _
        refine XS.iloadN X0.here hx rfl (hb hby d14_21) rfl ?_
        show Steps p.tables e below (s₁.setTop (mkF m 22 #[.val (.int p1), .val (.int p2), .val (.int p3), .val (.int p4), .val (.int p5), .val (.int p6)] [(.int p2), (.int p1)])) _
        exact Steps.refl _)
      by_cases k4 : p1 = p2
      ·
        have c5 : Steps p.tables e below S0 (s₁.setTop (mkF m 26 #[.val (.int p1), .val (.int p2), .val (.int p3), .val (.int p4), .val (.int p5), .val (.int p6)] [(.int p3)])) := c4.trans (by
          refine XS.icmpNo X0.here hx rfl (hb hby d14_22) rfl (XT.ii_ne_f k4) ?_
          show Steps p.tables e below (s₁.setTop (mkF m 25 #[.val (.int p1), .val (.int p2), .val (.int p3), .val (.int p4), .val (.int p5), .val (.int p6)] [])) _
          refine XS.iloadN X0.here hx rfl (hb hby d14_25) rfl ?_
          show Steps p.tables e below (s₁.setTop (mkF m 26 #[.val (.int p1), .val (.int p2), .val (.int p3), .val (.int p4), .val (.int p5), .val (.int p6)] [(.int p3)])) _
          exact Steps.refl _)
        obtain ⟨fs, hr, hrun, hended, hW, hsame⟩ := X0.leave (v := some (.int p3)) (fun h => by rw [Bd.returns] at h; cases h)
        refine ⟨_, _, pre0 _ ?_, hrun, hended, _, _, rfl, ?_, ⟨_, rfl⟩, hW, hsame.mono (by decide) (by decide)⟩
        · rw [← hS0]
          exact c5.trans (retI X0 hx Bd.returns (hb hby d14_26) hr)
        · show Qrm14 Z p1 p2 p3 p4 p5 p6 h0 n0 _ s₁.heap _
          rw [e0]
          exact ⟨by rw [own_enc, if_pos k1, own_enc2, if_neg k3, if_pos k4], N0, rfl⟩
      ·
        have c6 : Steps p.tables e below S0 (s₁.setTop (mkF m 28 #[.val (.int p1), .val (.int p2), .val (.int p3), .val (.int p4), .val (.int p5), .val (.int p6)] [(.int (-1 : Int32))])) := c4.trans (by
          refine XS.icmpYes X0.here hx rfl (pc0 := 22) (pc' := 27) rfl (hb hby d14_22) rfl (XT.ii_ne_t k4) (by decide) (by decide) ?_
          show Steps p.tables e below (s₁.setTop (mkF m 27 #[.val (.int p1), .val (.int p2), .val (.int p3), .val (.int p4), .val (.int p5), .val (.int p6)] [])) _
          refine XT.iconstV X0.here hx rfl (-1 : Int32) (hb hby d14_27) (by decide) ?_
          show Steps p.tables e below (s₁.setTop (mkF m 28 #[.val (.int p1), .val (.int p2), .val (.int p3), .val (.int p4), .val (.int p5), .val (.int p6)] [(.int (-1 : Int32))])) _
          exact Steps.refl _)
        obtain ⟨fs, hr, hrun, hended, hW, hsame⟩ := X0.leave (v := some (.int (-1 : Int32))) (fun h => by rw [Bd.returns] at h; cases h)
        refine ⟨_, _, pre0 _ ?_, hrun, hended, _, _, rfl, ?_, ⟨_, rfl⟩, hW, hsame.mono (by decide) (by decide)⟩
        · rw [← hS0]
          exact c6.trans (retI X0 hx Bd.returns (hb hby d14_28) hr)
        · show Qrm14 Z p1 p2 p3 p4 p5 p6 h0 n0 _ s₁.heap _
          rw [e0]
          exact ⟨by rw [own_enc, if_pos k1, own_enc2, if_neg k3, if_neg k4], N0, rfl⟩
  ·
    have c7 : Steps p.tables e below S0 (s₁.setTop (mkF m 7 #[.val (.int p1), .val (.int p2), .val (.int p3), .val (.int p4), .val (.int p5), .val (.int p6)] [(.int p2), (.int p1)])) := c1.trans (by
      refine XS.ifNo X0.here hx rfl (hb hby d14_2) rfl (XT.i0_eq_f k1) ?_
      show Steps p.tables e below (s₁.setTop (mkF m 5 #[.val (.int p1), .val (.int p2), .val (.int p3), .val (.int p4), .val (.int p5), .val (.int p6)] [])) _
      refine XS.iloadN X0.here hx rfl (hb hby d14_5) rfl ?_
      show Steps p.tables e below (s₁.setTop (mkF m 6 #[.val (.int p1), .val (.int p2), .val (.int p3), .val (.int p4), .val (.int p5), .val (.int p6)] [(.int p1)])) _
      refine XS.iloadN X0.here hx rfl (hb hby d14_6) rfl ?_
      show Steps p.tables e below (s₁.setTop (mkF m 7 #[.val (.int p1), .val (.int p2), .val (.int p3), .val (.int p4), .val (.int p5), .val (.int p6)] [(.int p2), (.int p1)])) _
      exact Steps.refl _)
    by_cases k2 : p1 = p2
    ·
      have c8 : Steps p.tables e below S0 (s₁.setTop (mkF m 11 #[.val (.int p1), .val (.int p2), .val (.int p3), .val (.int p4), .val (.int p5), .val (.int p6)] [(.int p2)])) := c7.trans (by
        refine XS.icmpNo X0.here hx rfl (hb hby d14_7) rfl (XT.ii_ne_f k2) ?_
        show Steps p.tables e below (s₁.setTop (mkF m 10 #[.val (.int p1), .val (.int p2), .val (.int p3), .val (.int p4), .val (.int p5), .val (.int p6)] [])) _
        refine XS.iloadN X0.here hx rfl (hb hby d14_10) rfl ?_
        show Steps p.tables e below (s₁.setTop (mkF m 11 #[.val (.int p1), .val (.int p2), .val (.int p3), .val (.int p4), .val (.int p5), .val (.int p6)] [(.int p2)])) _
        exact Steps.refl _)
      obtain ⟨fs, hr, hrun, hended, hW, hsame⟩ := X0.leave (v := some (.int p2)) (fun h => by rw [Bd.returns] at h; cases h)
      refine ⟨_, _, pre0 _ ?_, hrun, hended, _, _, rfl, ?_, ⟨_, rfl⟩, hW, hsame.mono (by decide) (by decide)⟩
      · rw [← hS0]
        exact c8.trans (retI X0 hx Bd.returns (hb hby d14_11) hr)
      · show Qrm14 Z p1 p2 p3 p4 p5 p6 h0 n0 _ s₁.heap _
        rw [e0]
        exact ⟨by rw [own_enc, if_neg k1, if_pos k2], N0, rfl⟩
    ·
      have c9 : Steps p.tables e below S0 (s₁.setTop (mkF m 14 #[.val (.int p1), .val (.int p2), .val (.int p3), .val (.int p4), .val (.int p5), .val (.int p6)] [(.int p4), (.int p1)])) := c7.trans (by
        refine XS.icmpYes X0.here hx rfl (pc0 := 7) (pc' := 12) rfl (hb hby d14_7) rfl (XT.ii_ne_t k2) (by decide) (by decide) ?_
        show Steps p.tables e below (s₁.setTop (mkF m 12 #[.val (.int p1), .val (.int p2), .val (.int p3), .val (.int p4), .val (.int p5), .val (.int p6)] [])) _
        refine XS.iloadN X0.here hx rfl (hb hby d14_12) rfl ?_
        show Steps p.tables e below (s₁.setTop (mkF m 13 #[.val (.int p1), .val (.int p2), .val (.int p3), .val (.int p4), .val (.int p5), .val (.int p6)] [(.int p1)])) _
        refine XS.iloadN X0.here hx rfl (hb hby d14_13) rfl ?_
        show Steps p.tables e below (s₁.setTop (mkF m 14 #[.val (.int p1), .val (.int p2), .val (.int p3), .val (.int p4), .val (.int p5), .val (.int p6)] [(.int p4), (.int p1)])) _
        exact Steps.refl _)
      by_cases k3 : p1 = p4
      ·
        have c10 : Steps p.tables e below S0 (s₁.setTop (mkF m 19 #[.val (.int p1), .val (.int p2), .val (.int p3), .val (.int p4), .val (.int p5), .val (.int p6)] [(.int p5)])) := c9.trans (by
          refine XS.icmpNo X0.here hx rfl (hb hby d14_14) rfl (XT.ii_ne_f k3) ?_
          show Steps p.tables e below (s₁.setTop (mkF m 17 #[.val (.int p1), .val (.int p2), .val (.int p3), .val (.int p4), .val (.int p5), .val (.int p6)] [])) _
          refine XS.iload X0.here hx rfl (hb hby d14_17) rfl ?_
          show Steps p.tables e below (s₁.setTop (mkF m 19 #[.val (.int p1), .val (.int p2), .val (.int p3), .val (.int p4), .val (.int p5), .val (.int p6)] [(.int p5)])) _
          exact Steps.refl _)
        obtain ⟨fs, hr, hrun, hended, hW, hsame⟩ := X0.leave (v := some (.int p5)) (fun h => by rw [Bd.returns] at h; cases h)
        refine ⟨_, _, pre0 _ ?_, hrun, hended, _, _, rfl, ?_, ⟨_, rfl⟩, hW, hsame.mono (by decide) (by decide)⟩
        · rw [← hS0]
          exact c10.trans (retI X0 hx Bd.returns (hb hby d14_19) hr)
        · show Qrm14 Z p1 p2 p3 p4 p5 p6 h0 n0 _ s₁.heap _
          rw [e0]
          exact ⟨by rw [own_enc, if_neg k1, if_neg k2, own_enc2, if_pos k3], N0, rfl⟩
      ·
        have c11 : Steps p.tables e below S0 (s₁.setTop (mkF m 22 #[.val (.int p1), .val (.int p2), .val (.int p3), .val (.int p4), .val (.int p5), .val (.int p6)] [(.int p2), (.int p1)])) := c9.trans (by
          refine XS.icmpYes X0.here hx rfl (pc0 := 14) (pc' := 20) rfl (hb hby d14_14) rfl (XT.ii_ne_t k3) (by decide) (by decide) ?_
          show Steps p.tables e below (s₁.setTop (mkF m 20 #[.val (.int p1), .val (.int p2), .val (.int p3), .val (.int p4), .val (.int p5), .val (.int p6)] [])) _
          refine XS.iloadN X0.here hx rfl (hb hby d14_20) rfl ?_
          show Steps p.tables e below (s₁.setTop (mkF m 21 #[.val (.int p1), .val (.int p2), .val (.int p3), .val (.int p4), .val (.int p5), .val (.int p6)] [(.int p1)])) _
          refine XS.iloadN X0.here hx rfl (hb hby d14_21) rfl ?_
          show Steps p.tables e below (s₁.setTop (mkF m 22 #[.val (.int p1), .val (.int p2), .val (.int p3), .val (.int p4), .val (.int p5), .val (.int p6)] [(.int p2), (.int p1)])) _
          exact Steps.refl _)
        by_cases k4 : p1 = p2
        ·
          have c12 : Steps p.tables e below S0 (s₁.setTop (mkF m 26 #[.val (.int p1), .val (.int p2), .val (.int p3), .val (.int p4), .val (.int p5), .val (.int p6)] [(.int p3)])) := c11.trans (by
            refine XS.icmpNo X0.here hx rfl (hb hby d14_22) rfl (XT.ii_ne_f k4) ?_
            show Steps p.tables e below (s₁.setTop (mkF m 25 #[.val (.int p1), .val (.int p2), .val (.int p3), .val (.int p4), .val (.int p5), .val (.int p6)] [])) _
            refine XS.iloadN X0.here hx rfl (hb hby d14_25) rfl ?_
            show Steps p.tables e below (s₁.setTop (mkF m 26 #[.val (.int p1), .val (.int p2), .val (.int p3), .val (.int p4), .val (.int p5), .val (.int p6)] [(.int p3)])) _
            exact Steps.refl _)
          obtain ⟨fs, hr, hrun, hended, hW, hsame⟩ := X0.leave (v := some (.int p3)) (fun h => by rw [Bd.returns] at h; cases h)
          refine ⟨_, _, pre0 _ ?_, hrun, hended, _, _, rfl, ?_, ⟨_, rfl⟩, hW, hsame.mono (by decide) (by decide)⟩
          · rw [← hS0]
            exact c12.trans (retI X0 hx Bd.returns (hb hby d14_26) hr)
          · show Qrm14 Z p1 p2 p3 p4 p5 p6 h0 n0 _ s₁.heap _
            rw [e0]
            exact ⟨by rw [own_enc, if_neg k1, if_neg k2, own_enc2, if_neg k3, if_pos k4], N0, rfl⟩
        ·
          have c13 : Steps p.tables e below S0 (s₁.setTop (mkF m 28 #[.val (.int p1), .val (.int p2), .val (.int p3), .val (.int p4), .val (.int p5), .val (.int p6)] [(.int (-1 : Int32))])) := c11.trans (by
            refine XS.icmpYes X0.here hx rfl (pc0 := 22) (pc' := 27) rfl (hb hby d14_22) rfl (XT.ii_ne_t k4) (by decide) (by decide) ?_
            show Steps p.tables e below (s₁.setTop (mkF m 27 #[.val (.int p1), .val (.int p2), .val (.int p3), .val (.int p4), .val (.int p5), .val (.int p6)] [])) _
            refine XT.iconstV X0.here hx rfl (-1 : Int32) (hb hby d14_27) (by decide) ?_
            show Steps p.tables e below (s₁.setTop (mkF m 28 #[.val (.int p1), .val (.int p2), .val (.int p3), .val (.int p4), .val (.int p5), .val (.int p6)] [(.int (-1 : Int32))])) _
            exact Steps.refl _)
          obtain ⟨fs, hr, hrun, hended, hW, hsame⟩ := X0.leave (v := some (.int (-1 : Int32))) (fun h => by rw [Bd.returns] at h; cases h)
          refine ⟨_, _, pre0 _ ?_, hrun, hended, _, _, rfl, ?_, ⟨_, rfl⟩, hW, hsame.mono (by decide) (by decide)⟩
          · rw [← hS0]
            exact c13.trans (retI X0 hx Bd.returns (hb hby d14_28) hr)
          · show Qrm14 Z p1 p2 p3 p4 p5 p6 h0 n0 _ s₁.heap _
            rw [e0]
            exact ⟨by rw [own_enc, if_neg k1, if_neg k2, own_enc2, if_neg k3, if_neg k4], N0, rfl⟩
theorem d13_0 : decode method_3_code 0 = .ok (.iload_n 0, 1) := by decide +kernel
theorem d13_1 : decode method_3_code 1 = .ok (.iload_n 1, 1) := by decide +kernel
theorem d13_2 : decode method_3_code 2 = .ok (.iload_n 2, 1) := by decide +kernel
theorem d13_3 : decode method_3_code 3 = .ok (.iload_n 3, 1) := by decide +kernel
theorem d13_4 : decode method_3_code 4 = .ok (.iload 4, 2) := by decide +kernel
theorem d13_6 : decode method_3_code 6 = .ok (.iload 5, 2) := by decide +kernel
theorem d13_8 : decode method_3_code 8 = .ok (.invokestatic 7, 3) := by decide +kernel
theorem d13_11 : decode method_3_code 11 = .ok (.istore 6, 2) := by decide +kernel
theorem d13_13 : decode method_3_code 13 = .ok (.iload 6, 2) := by decide +kernel
theorem d13_15 : decode method_3_code 15 = .ok (.iconst (-1), 1) := by decide +kernel
theorem d13_16 : decode method_3_code 16 = .ok (.if_icmp .eq 9, 3) := by decide +kernel
theorem d13_19 : decode method_3_code 19 = .ok (.iload 6, 2) := by decide +kernel
theorem d13_21 : decode method_3_code 21 = .ok (.iload_n 0, 1) := by decide +kernel
theorem d13_22 : decode method_3_code 22 = .ok (.if_icmp .ne 5, 3) := by decide +kernel
theorem d13_25 : decode method_3_code 25 = .ok (.iload_n 0, 1) := by decide +kernel
theorem d13_26 : decode method_3_code 26 = .ok (.ireturn, 1) := by decide +kernel
theorem d13_27 : decode method_3_code 27 = .ok (.iload 6, 2) := by decide +kernel
theorem d13_29 : decode method_3_code 29 = .ok (.istore 7, 2) := by decide +kernel
theorem d13_31 : decode method_3_code 31 = .ok (.iload 7, 2) := by decide +kernel
theorem d13_33 : decode method_3_code 33 = .ok (.iload_n 1, 1) := by decide +kernel
theorem d13_34 : decode method_3_code 34 = .ok (.iload_n 2, 1) := by decide +kernel
theorem d13_35 : decode method_3_code 35 = .ok (.iload_n 3, 1) := by decide +kernel
theorem d13_36 : decode method_3_code 36 = .ok (.iload 4, 2) := by decide +kernel
theorem d13_38 : decode method_3_code 38 = .ok (.iload 5, 2) := by decide +kernel
theorem d13_40 : decode method_3_code 40 = .ok (.invokestatic 7, 3) := by decide +kernel
theorem d13_43 : decode method_3_code 43 = .ok (.istore 8, 2) := by decide +kernel
theorem d13_45 : decode method_3_code 45 = .ok (.iload 8, 2) := by decide +kernel
theorem d13_47 : decode method_3_code 47 = .ok (.iconst (-1), 1) := by decide +kernel
theorem d13_48 : decode method_3_code 48 = .ok (.if_icmp .eq 10, 3) := by decide +kernel
theorem d13_51 : decode method_3_code 51 = .ok (.iload 8, 2) := by decide +kernel
theorem d13_53 : decode method_3_code 53 = .ok (.iload 7, 2) := by decide +kernel
theorem d13_55 : decode method_3_code 55 = .ok (.if_icmp .ne 6, 3) := by decide +kernel
theorem d13_58 : decode method_3_code 58 = .ok (.iload 7, 2) := by decide +kernel
theorem d13_60 : decode method_3_code 60 = .ok (.ireturn, 1) := by decide +kernel
theorem d13_61 : decode method_3_code 61 = .ok (.iload 8, 2) := by decide +kernel
theorem d13_63 : decode method_3_code 63 = .ok (.istore 9, 2) := by decide +kernel
theorem d13_65 : decode method_3_code 65 = .ok (.iload 9, 2) := by decide +kernel
theorem d13_67 : decode method_3_code 67 = .ok (.iload_n 1, 1) := by decide +kernel
theorem d13_68 : decode method_3_code 68 = .ok (.iload_n 2, 1) := by decide +kernel
theorem d13_69 : decode method_3_code 69 = .ok (.iload_n 3, 1) := by decide +kernel
theorem d13_70 : decode method_3_code 70 = .ok (.iload 4, 2) := by decide +kernel
theorem d13_72 : decode method_3_code 72 = .ok (.iload 5, 2) := by decide +kernel
theorem d13_74 : decode method_3_code 74 = .ok (.invokestatic 7, 3) := by decide +kernel
theorem d13_77 : decode method_3_code 77 = .ok (.istore 10, 2) := by decide +kernel
theorem d13_79 : decode method_3_code 79 = .ok (.iload 10, 2) := by decide +kernel
theorem d13_81 : decode method_3_code 81 = .ok (.iconst (-1), 1) := by decide +kernel
theorem d13_82 : decode method_3_code 82 = .ok (.if_icmp .eq 10, 3) := by decide +kernel
theorem d13_85 : decode method_3_code 85 = .ok (.iload 10, 2) := by decide +kernel
theorem d13_87 : decode method_3_code 87 = .ok (.iload 9, 2) := by decide +kernel
theorem d13_89 : decode method_3_code 89 = .ok (.if_icmp .ne 6, 3) := by decide +kernel
theorem d13_92 : decode method_3_code 92 = .ok (.iload 9, 2) := by decide +kernel
theorem d13_94 : decode method_3_code 94 = .ok (.ireturn, 1) := by decide +kernel
theorem d13_95 : decode method_3_code 95 = .ok (.iload_n 0, 1) := by decide +kernel
theorem d13_96 : decode method_3_code 96 = .ok (.ireturn, 1) := by decide +kernel
theorem ef_13 (m : MethodId) (x0 : Int32) (x1 : Int32) (x2 : Int32) (x3 : Int32) (x4 : Int32) (x5 : Int32) : entryFrame m #[(.int x0), (.int x1), (.int x2), (.int x3), (.int x4), (.int x5)] 11 = mkF m 0 #[.val (.int x0), .val (.int x1), .val (.int x2), .val (.int x3), .val (.int x4), .val (.int x5), .unset, .unset, .unset, .unset, .unset] [] := by first | (simp [entryFrame, mkF, argsToLocals, Value.category]; done) | rfl
def Qrm13 (Z : State) (p1 : Int32) (p2 : Int32) (p3 : Int32) (p4 : Int32) (p5 : Int32) (p6 : Int32) (h0 : Heap) (n0 : Nat) (v : Option Value) (h : Heap) (L : List Loc) : Prop := v = some (.int (own_ref p1 p2 p3 p4 p5 p6)) ∧ Fr n0 L ∧ h = h0
set_option maxRecDepth 65536 in
set_option maxHeartbeats 40000000 in
theorem rm13 (l : Launch) (Z : State) (a0 : Array Value) (hw : ∀ d ∈ tables_1, d.before a0 Z = true) (ws : List Jvm.Cond) (p1 : Int32) (p2 : Int32) (p3 : Int32) (p4 : Int32) (p5 : Int32) (p6 : Int32) (h0 : Heap) (n0 : Nat) (Z0 : n0 ≤ h0.size)  :
    MetFree l (⟨"com/example/edge_keeper/edgekeeper/NestingLearnPinLaw", "ref", "(IIIIIZ)I"⟩ : MethodName) (head1 (Jvm.Cond.code (⟨"com/example/edge_keeper/edgekeeper/NestingLearnPinLaw", "ref", "(IIIIIZ)I"⟩ : MethodName) method_3_code 11 (some .int) :: ws) ({ frames := 1, cells := 0, slots := 0, locals := 17 } : Room)) (fun a U => a = #[(.int p1), (.int p2), (.int p3), (.int p4), (.int p5), (.int p6)] ∧ Z.Warmed39 U.vm ∧ U.heap = h0) (fun _ _ _ _ _ => True) (fun _ U o U' => ∃ v L, o = .returned v ∧ Qrm13 Z p1 p2 p3 p4 p5 p6 h0 n0 v U'.heap L ∧ FrameEnd U o U' L ({ frames := 1, cells := 0, slots := 0, locals := 17 } : Room).cells ({ frames := 1, cells := 0, slots := 0, locals := 17 } : Room).slots) := by
  refine MetFree.of_bodySF (plainFor_of_name own_pn_NestingLearnPinLaw) hisR ?_
  intro p e s m args below meth c s₁ Bd hml0 hP hK
  obtain ⟨rfl, hZ, hh⟩ := hP
  have hx := Bd.exec
  have hby := Bd.bytes
  have hml : c.maxLocals = 11 := hml0
  have hown : s.vm.findClass "com/example/edge_keeper/edgekeeper/NestingLearnPinLaw" = some m.cls := findClass_of_methodNamed Bd.named
  have hnm := (name_of_methodNamed Bd.named Bd.method).1
  have X0 : Stand p l e ({ frames := 1, cells := 0, slots := 0, locals := 17 } : Room) s m #[(.int p1), (.int p2), (.int p3), (.int p4), (.int p5), (.int p6)] below meth c s₁ [] 0 0 := Stand.of_body Bd
  have e0 : s₁.heap = h0 := by rw [← hh, Bd.state]; rfl
  have N0 := Fr.nil n0
  have pre0 : ∀ t, Steps p.tables e below (s₁.setTop (mkF m 0 #[.val (.int p1), .val (.int p2), .val (.int p3), .val (.int p4), .val (.int p5), .val (.int p6), .unset, .unset, .unset, .unset, .unset] [])) t → Steps p.tables e below (s₁.setTop (entryFrame m #[(.int p1), (.int p2), (.int p3), (.int p4), (.int p5), (.int p6)] 11)) t := fun t0_ k0_ => castTop (ef_13 m p1 p2 p3 p4 p5 p6) k0_
  obtain ⟨S0, hS0⟩ : ∃ z, z = s₁.setTop (mkF m 0 #[.val (.int p1), .val (.int p2), .val (.int p3), .val (.int p4), .val (.int p5), .val (.int p6), .unset, .unset, .unset, .unset, .unset] []) := ⟨_, rfl⟩
  have c0 : Steps p.tables e below S0 (s₁.setTop (mkF m 0 #[.val (.int p1), .val (.int p2), .val (.int p3), .val (.int p4), .val (.int p5), .val (.int p6), .unset, .unset, .unset, .unset, .unset] [])) := by rw [hS0]; exact Steps.refl _
  have c1 : Steps p.tables e below S0 (s₁.setTop (mkF m 8 #[.val (.int p1), .val (.int p2), .val (.int p3), .val (.int p4), .val (.int p5), .val (.int p6), .unset, .unset, .unset, .unset, .unset] [(.int p6), (.int p5), (.int p4), (.int p3), (.int p2), (.int p1)])) := c0.trans (by
    refine XS.iloadN X0.here hx rfl (hb hby d13_0) rfl ?_
    show Steps p.tables e below (s₁.setTop (mkF m 1 #[.val (.int p1), .val (.int p2), .val (.int p3), .val (.int p4), .val (.int p5), .val (.int p6), .unset, .unset, .unset, .unset, .unset] [(.int p1)])) _
    refine XS.iloadN X0.here hx rfl (hb hby d13_1) rfl ?_
    show Steps p.tables e below (s₁.setTop (mkF m 2 #[.val (.int p1), .val (.int p2), .val (.int p3), .val (.int p4), .val (.int p5), .val (.int p6), .unset, .unset, .unset, .unset, .unset] [(.int p2), (.int p1)])) _
    refine XS.iloadN X0.here hx rfl (hb hby d13_2) rfl ?_
    show Steps p.tables e below (s₁.setTop (mkF m 3 #[.val (.int p1), .val (.int p2), .val (.int p3), .val (.int p4), .val (.int p5), .val (.int p6), .unset, .unset, .unset, .unset, .unset] [(.int p3), (.int p2), (.int p1)])) _
    refine XS.iloadN X0.here hx rfl (hb hby d13_3) rfl ?_
    show Steps p.tables e below (s₁.setTop (mkF m 4 #[.val (.int p1), .val (.int p2), .val (.int p3), .val (.int p4), .val (.int p5), .val (.int p6), .unset, .unset, .unset, .unset, .unset] [(.int p4), (.int p3), (.int p2), (.int p1)])) _
    refine XS.iload X0.here hx rfl (hb hby d13_4) rfl ?_
    show Steps p.tables e below (s₁.setTop (mkF m 6 #[.val (.int p1), .val (.int p2), .val (.int p3), .val (.int p4), .val (.int p5), .val (.int p6), .unset, .unset, .unset, .unset, .unset] [(.int p5), (.int p4), (.int p3), (.int p2), (.int p1)])) _
    refine XS.iload X0.here hx rfl (hb hby d13_6) rfl ?_
    show Steps p.tables e below (s₁.setTop (mkF m 8 #[.val (.int p1), .val (.int p2), .val (.int p3), .val (.int p4), .val (.int p5), .val (.int p6), .unset, .unset, .unset, .unset, .unset] [(.int p6), (.int p5), (.int p4), (.int p3), (.int p2), (.int p1)])) _
    exact Steps.refl _)
  obtain ⟨_, _, ⟨T2, L2, k2, n2⟩, -, X2, hQ2, st2⟩ := Jvm.LawKit.callS X0 hx (y := (⟨"com/example/edge_keeper/edgekeeper/NestingLearnPinLaw", "enc", "(IIIIIZ)I"⟩ : MethodName)) hown (mvT hZ (hw _ (List.mem_of_getElem? (i := 61) rfl))) (mvT hZ (hw _ (List.mem_of_getElem? (i := 62) rfl))) (mvT hZ (hw _ (List.mem_of_getElem? (i := 59) rfl))) (mvT hZ (hw _ (List.mem_of_getElem? (i := 63) rfl))) (by decide) (backOf (W := 0) (rm14 l Z a0 hw [] p1 p2 p3 p4 p5 p6 h0 n0 Z0) hZ (hw _ (List.mem_of_getElem? (i := 63) rfl)) (hw _ (List.mem_of_getElem? (i := 59) rfl)) (by decide) (by decide)) (g := (mkF m 8 #[.val (.int p1), .val (.int p2), .val (.int p3), .val (.int p4), .val (.int p5), .val (.int p6), .unset, .unset, .unset, .unset, .unset] [(.int p6), (.int p5), (.int p4), (.int p3), (.int p2), (.int p1)])) rfl (by rw [hml]; rfl) (argsL := [(.int p1), (.int p2), (.int p3), (.int p4), (.int p5), (.int p6)]) (rest := []) (lenOf own_pd__IIIIIZ_I rfl) rfl (by show 2 * 0 + _ ≤ _; exact Nat.le_of_eq rfl) (hb hby d13_8) (fun _ _ => ⟨rfl, e0, (by decide : 0 + 0 ≤ _), (by decide : 0 + 0 ≤ _)⟩)
  dsimp only [Pt.U, Pt.locs, Pt.cells, Pt.slots] at X2 hQ2 st2
  obtain ⟨Lc2, hR2, l2, y2, z2⟩ := hQ2
  subst l2 y2 z2
  obtain ⟨rfl, Nq2, eh1_⟩ := hR2
  have N2 := Fr.app N0 Nq2
  have c3 : Steps p.tables e below S0 (T2.setTop (mkF m 11 #[.val (.int p1), .val (.int p2), .val (.int p3), .val (.int p4), .val (.int p5), .val (.int p6), .unset, .unset, .unset, .unset, .unset] [(.int (own_enc p1 p2 p3 p4 p5 p6))])) := c1.trans (st2 _ (Steps.refl _))
  obtain ⟨o1, ho1⟩ : ∃ z, z = (own_enc p1 p2 p3 p4 p5 p6) := ⟨_, rfl⟩
  rw [← ho1] at c3
  have c4 : Steps p.tables e below S0 (T2.setTop (mkF m 16 #[.val (.int p1), .val (.int p2), .val (.int p3), .val (.int p4), .val (.int p5), .val (.int p6), .val (.int o1), .unset, .unset, .unset, .unset] [(.int (-1 : Int32)), (.int o1)])) := c3.trans (by
    refine XS.istore X2.here hx rfl (hb hby d13_11) rfl (l' := #[.val (.int p1), .val (.int p2), .val (.int p3), .val (.int p4), .val (.int p5), .val (.int p6), .val (.int o1), .unset, .unset, .unset, .unset]) rfl ?_
    show Steps p.tables e below (T2.setTop (mkF m 13 #[.val (.int p1), .val (.int p2), .val (.int p3), .val (.int p4), .val (.int p5), .val (.int p6), .val (.int o1), .unset, .unset, .unset, .unset] [])) _
    refine XS.iload X2.here hx rfl (hb hby d13_13) rfl ?_
    show Steps p.tables e below (T2.setTop (mkF m 15 #[.val (.int p1), .val (.int p2), .val (.int p3), .val (.int p4), .val (.int p5), .val (.int p6), .val (.int o1), .unset, .unset, .unset, .unset] [(.int o1)])) _
    refine XT.iconstV X2.here hx rfl (-1 : Int32) (hb hby d13_15) (by decide) ?_
    show Steps p.tables e below (T2.setTop (mkF m 16 #[.val (.int p1), .val (.int p2), .val (.int p3), .val (.int p4), .val (.int p5), .val (.int p6), .val (.int o1), .unset, .unset, .unset, .unset] [(.int (-1 : Int32)), (.int o1)])) _
    exact Steps.refl _)
  by_cases k1a : o1 = (-1 : Int32)
  ·
    have c5 : Steps p.tables e below S0 (T2.setTop (mkF m 26 #[.val (.int p1), .val (.int p2), .val (.int p3), .val (.int p4), .val (.int p5), .val (.int p6), .val (.int o1), .unset, .unset, .unset, .unset] [(.int p1)])) := c4.trans (by
      refine XS.icmpYes X2.here hx rfl (pc0 := 16) (pc' := 25) rfl (hb hby d13_16) rfl (XT.ii_eq_t k1a) (by decide) (by decide) ?_
      show Steps p.tables e below (T2.setTop (mkF m 25 #[.val (.int p1), .val (.int p2), .val (.int p3), .val (.int p4), .val (.int p5), .val (.int p6), .val (.int o1), .unset, .unset, .unset, .unset] [])) _
      refine XS.iloadN X2.here hx rfl (hb hby d13_25) rfl ?_
      show Steps p.tables e below (T2.setTop (mkF m 26 #[.val (.int p1), .val (.int p2), .val (.int p3), .val (.int p4), .val (.int p5), .val (.int p6), .val (.int o1), .unset, .unset, .unset, .unset] [(.int p1)])) _
      exact Steps.refl _)
    obtain ⟨fs, hr, hrun, hended, hW, hsame⟩ := X2.leave (v := some (.int p1)) (fun h => by rw [Bd.returns] at h; cases h)
    refine ⟨_, _, pre0 _ ?_, hrun, hended, _, _, rfl, ?_, ⟨_, rfl⟩, hW, hsame.mono (by decide) (by decide)⟩
    · rw [← hS0]
      exact c5.trans (retI X2 hx Bd.returns (hb hby d13_26) hr)
    · show Qrm13 Z p1 p2 p3 p4 p5 p6 h0 n0 _ T2.heap _
      rw [eh1_]
      exact ⟨by subst ho1; exact congrArg (fun z => some (Value.int z)) (own_r1 (E := fun y => own_enc y p2 p3 p4 p5 p6) k1a).symm, N2, rfl⟩
  ·
    have c6 : Steps p.tables e below S0 (T2.setTop (mkF m 22 #[.val (.int p1), .val (.int p2), .val (.int p3), .val (.int p4), .val (.int p5), .val (.int p6), .val (.int o1), .unset, .unset, .unset, .unset] [(.int p1), (.int o1)])) := c4.trans (by
      refine XS.icmpNo X2.here hx rfl (hb hby d13_16) rfl (XT.ii_eq_f k1a) ?_
      show Steps p.tables e below (T2.setTop (mkF m 19 #[.val (.int p1), .val (.int p2), .val (.int p3), .val (.int p4), .val (.int p5), .val (.int p6), .val (.int o1), .unset, .unset, .unset, .unset] [])) _
      refine XS.iload X2.here hx rfl (hb hby d13_19) rfl ?_
      show Steps p.tables e below (T2.setTop (mkF m 21 #[.val (.int p1), .val (.int p2), .val (.int p3), .val (.int p4), .val (.int p5), .val (.int p6), .val (.int o1), .unset, .unset, .unset, .unset] [(.int o1)])) _
      refine XS.iloadN X2.here hx rfl (hb hby d13_21) rfl ?_
      show Steps p.tables e below (T2.setTop (mkF m 22 #[.val (.int p1), .val (.int p2), .val (.int p3), .val (.int p4), .val (.int p5), .val (.int p6), .val (.int o1), .unset, .unset, .unset, .unset] [(.int p1), (.int o1)])) _
      exact Steps.refl _)
    by_cases k1b : o1 = p1
    ·
      have c7 : Steps p.tables e below S0 (T2.setTop (mkF m 26 #[.val (.int p1), .val (.int p2), .val (.int p3), .val (.int p4), .val (.int p5), .val (.int p6), .val (.int o1), .unset, .unset, .unset, .unset] [(.int p1)])) := c6.trans (by
        refine XS.icmpNo X2.here hx rfl (hb hby d13_22) rfl (XT.ii_ne_f k1b) ?_
        show Steps p.tables e below (T2.setTop (mkF m 25 #[.val (.int p1), .val (.int p2), .val (.int p3), .val (.int p4), .val (.int p5), .val (.int p6), .val (.int o1), .unset, .unset, .unset, .unset] [])) _
        refine XS.iloadN X2.here hx rfl (hb hby d13_25) rfl ?_
        show Steps p.tables e below (T2.setTop (mkF m 26 #[.val (.int p1), .val (.int p2), .val (.int p3), .val (.int p4), .val (.int p5), .val (.int p6), .val (.int o1), .unset, .unset, .unset, .unset] [(.int p1)])) _
        exact Steps.refl _)
      obtain ⟨fs, hr, hrun, hended, hW, hsame⟩ := X2.leave (v := some (.int p1)) (fun h => by rw [Bd.returns] at h; cases h)
      refine ⟨_, _, pre0 _ ?_, hrun, hended, _, _, rfl, ?_, ⟨_, rfl⟩, hW, hsame.mono (by decide) (by decide)⟩
      · rw [← hS0]
        exact c7.trans (retI X2 hx Bd.returns (hb hby d13_26) hr)
      · show Qrm13 Z p1 p2 p3 p4 p5 p6 h0 n0 _ T2.heap _
        rw [eh1_]
        exact ⟨by subst ho1; exact congrArg (fun z => some (Value.int z)) (own_r2 (E := fun y => own_enc y p2 p3 p4 p5 p6) k1a k1b).symm, N2, rfl⟩
    ·
      have c8 : Steps p.tables e below S0 (T2.setTop (mkF m 40 #[.val (.int p1), .val (.int p2), .val (.int p3), .val (.int p4), .val (.int p5), .val (.int p6), .val (.int o1), .val (.int o1), .unset, .unset, .unset] [(.int p6), (.int p5), (.int p4), (.int p3), (.int p2), (.int o1)])) := c6.trans (by
        refine XS.icmpYes X2.here hx rfl (pc0 := 22) (pc' := 27) rfl (hb hby d13_22) rfl (XT.ii_ne_t k1b) (by decide) (by decide) ?_
        show Steps p.tables e below (T2.setTop (mkF m 27 #[.val (.int p1), .val (.int p2), .val (.int p3), .val (.int p4), .val (.int p5), .val (.int p6), .val (.int o1), .unset, .unset, .unset, .unset] [])) _
        refine XS.iload X2.here hx rfl (hb hby d13_27) rfl ?_
        show Steps p.tables e below (T2.setTop (mkF m 29 #[.val (.int p1), .val (.int p2), .val (.int p3), .val (.int p4), .val (.int p5), .val (.int p6), .val (.int o1), .unset, .unset, .unset, .unset] [(.int o1)])) _
        refine XS.istore X2.here hx rfl (hb hby d13_29) rfl (l' := #[.val (.int p1), .val (.int p2), .val (.int p3), .val (.int p4), .val (.int p5), .val (.int p6), .val (.int o1), .val (.int o1), .unset, .unset, .unset]) rfl ?_
        show Steps p.tables e below (T2.setTop (mkF m 31 #[.val (.int p1), .val (.int p2), .val (.int p3), .val (.int p4), .val (.int p5), .val (.int p6), .val (.int o1), .val (.int o1), .unset, .unset, .unset] [])) _
        refine XS.iload X2.here hx rfl (hb hby d13_31) rfl ?_
        show Steps p.tables e below (T2.setTop (mkF m 33 #[.val (.int p1), .val (.int p2), .val (.int p3), .val (.int p4), .val (.int p5), .val (.int p6), .val (.int o1), .val (.int o1), .unset, .unset, .unset] [(.int o1)])) _
        refine XS.iloadN X2.here hx rfl (hb hby d13_33) rfl ?_
        show Steps p.tables e below (T2.setTop (mkF m 34 #[.val (.int p1), .val (.int p2), .val (.int p3), .val (.int p4), .val (.int p5), .val (.int p6), .val (.int o1), .val (.int o1), .unset, .unset, .unset] [(.int p2), (.int o1)])) _
        refine XS.iloadN X2.here hx rfl (hb hby d13_34) rfl ?_
        show Steps p.tables e below (T2.setTop (mkF m 35 #[.val (.int p1), .val (.int p2), .val (.int p3), .val (.int p4), .val (.int p5), .val (.int p6), .val (.int o1), .val (.int o1), .unset, .unset, .unset] [(.int p3), (.int p2), (.int o1)])) _
        refine XS.iloadN X2.here hx rfl (hb hby d13_35) rfl ?_
        show Steps p.tables e below (T2.setTop (mkF m 36 #[.val (.int p1), .val (.int p2), .val (.int p3), .val (.int p4), .val (.int p5), .val (.int p6), .val (.int o1), .val (.int o1), .unset, .unset, .unset] [(.int p4), (.int p3), (.int p2), (.int o1)])) _
        refine XS.iload X2.here hx rfl (hb hby d13_36) rfl ?_
        show Steps p.tables e below (T2.setTop (mkF m 38 #[.val (.int p1), .val (.int p2), .val (.int p3), .val (.int p4), .val (.int p5), .val (.int p6), .val (.int o1), .val (.int o1), .unset, .unset, .unset] [(.int p5), (.int p4), (.int p3), (.int p2), (.int o1)])) _
        refine XS.iload X2.here hx rfl (hb hby d13_38) rfl ?_
        show Steps p.tables e below (T2.setTop (mkF m 40 #[.val (.int p1), .val (.int p2), .val (.int p3), .val (.int p4), .val (.int p5), .val (.int p6), .val (.int o1), .val (.int o1), .unset, .unset, .unset] [(.int p6), (.int p5), (.int p4), (.int p3), (.int p2), (.int o1)])) _
        exact Steps.refl _)
      obtain ⟨_, _, ⟨T9, L9, k9, n9⟩, -, X9, hQ9, st9⟩ := Jvm.LawKit.callS X2 hx (y := (⟨"com/example/edge_keeper/edgekeeper/NestingLearnPinLaw", "enc", "(IIIIIZ)I"⟩ : MethodName)) hown (mvT hZ (hw _ (List.mem_of_getElem? (i := 61) rfl))) (mvT hZ (hw _ (List.mem_of_getElem? (i := 62) rfl))) (mvT hZ (hw _ (List.mem_of_getElem? (i := 59) rfl))) (mvT hZ (hw _ (List.mem_of_getElem? (i := 63) rfl))) (by decide) (backOf (W := 0) (rm14 l Z a0 hw [] o1 p2 p3 p4 p5 p6 h0 n0 Z0) hZ (hw _ (List.mem_of_getElem? (i := 63) rfl)) (hw _ (List.mem_of_getElem? (i := 59) rfl)) (by decide) (by decide)) (g := (mkF m 40 #[.val (.int p1), .val (.int p2), .val (.int p3), .val (.int p4), .val (.int p5), .val (.int p6), .val (.int o1), .val (.int o1), .unset, .unset, .unset] [(.int p6), (.int p5), (.int p4), (.int p3), (.int p2), (.int o1)])) rfl (by rw [hml]; rfl) (argsL := [(.int o1), (.int p2), (.int p3), (.int p4), (.int p5), (.int p6)]) (rest := []) (lenOf own_pd__IIIIIZ_I rfl) rfl (by show 2 * 0 + _ ≤ _; exact Nat.le_of_eq rfl) (hb hby d13_40) (fun _ _ => ⟨rfl, eh1_, (by decide : 0 + 0 ≤ _), (by decide : 0 + 0 ≤ _)⟩)
      dsimp only [Pt.U, Pt.locs, Pt.cells, Pt.slots] at X9 hQ9 st9
      obtain ⟨Lc9, hR9, l9, y9, z9⟩ := hQ9
      subst l9 y9 z9
      obtain ⟨rfl, Nq9, eh2_⟩ := hR9
      have N9 := Fr.app N2 Nq9
      have c10 : Steps p.tables e below S0 (T9.setTop (mkF m 43 #[.val (.int p1), .val (.int p2), .val (.int p3), .val (.int p4), .val (.int p5), .val (.int p6), .val (.int o1), .val (.int o1), .unset, .unset, .unset] [(.int (own_enc o1 p2 p3 p4 p5 p6))])) := c8.trans (st9 _ (Steps.refl _))
      obtain ⟨o2, ho2⟩ : ∃ z, z = (own_enc o1 p2 p3 p4 p5 p6) := ⟨_, rfl⟩
      rw [← ho2] at c10
      have c11 : Steps p.tables e below S0 (T9.setTop (mkF m 48 #[.val (.int p1), .val (.int p2), .val (.int p3), .val (.int p4), .val (.int p5), .val (.int p6), .val (.int o1), .val (.int o1), .val (.int o2), .unset, .unset] [(.int (-1 : Int32)), (.int o2)])) := c10.trans (by
        refine XS.istore X9.here hx rfl (hb hby d13_43) rfl (l' := #[.val (.int p1), .val (.int p2), .val (.int p3), .val (.int p4), .val (.int p5), .val (.int p6), .val (.int o1), .val (.int o1), .val (.int o2), .unset, .unset]) rfl ?_
        show Steps p.tables e below (T9.setTop (mkF m 45 #[.val (.int p1), .val (.int p2), .val (.int p3), .val (.int p4), .val (.int p5), .val (.int p6), .val (.int o1), .val (.int o1), .val (.int o2), .unset, .unset] [])) _
        refine XS.iload X9.here hx rfl (hb hby d13_45) rfl ?_
        show Steps p.tables e below (T9.setTop (mkF m 47 #[.val (.int p1), .val (.int p2), .val (.int p3), .val (.int p4), .val (.int p5), .val (.int p6), .val (.int o1), .val (.int o1), .val (.int o2), .unset, .unset] [(.int o2)])) _
        refine XT.iconstV X9.here hx rfl (-1 : Int32) (hb hby d13_47) (by decide) ?_
        show Steps p.tables e below (T9.setTop (mkF m 48 #[.val (.int p1), .val (.int p2), .val (.int p3), .val (.int p4), .val (.int p5), .val (.int p6), .val (.int o1), .val (.int o1), .val (.int o2), .unset, .unset] [(.int (-1 : Int32)), (.int o2)])) _
        exact Steps.refl _)
      by_cases k2a : o2 = (-1 : Int32)
      ·
        have c12 : Steps p.tables e below S0 (T9.setTop (mkF m 60 #[.val (.int p1), .val (.int p2), .val (.int p3), .val (.int p4), .val (.int p5), .val (.int p6), .val (.int o1), .val (.int o1), .val (.int o2), .unset, .unset] [(.int o1)])) := c11.trans (by
          refine XS.icmpYes X9.here hx rfl (pc0 := 48) (pc' := 58) rfl (hb hby d13_48) rfl (XT.ii_eq_t k2a) (by decide) (by decide) ?_
          show Steps p.tables e below (T9.setTop (mkF m 58 #[.val (.int p1), .val (.int p2), .val (.int p3), .val (.int p4), .val (.int p5), .val (.int p6), .val (.int o1), .val (.int o1), .val (.int o2), .unset, .unset] [])) _
          refine XS.iload X9.here hx rfl (hb hby d13_58) rfl ?_
          show Steps p.tables e below (T9.setTop (mkF m 60 #[.val (.int p1), .val (.int p2), .val (.int p3), .val (.int p4), .val (.int p5), .val (.int p6), .val (.int o1), .val (.int o1), .val (.int o2), .unset, .unset] [(.int o1)])) _
          exact Steps.refl _)
        obtain ⟨fs, hr, hrun, hended, hW, hsame⟩ := X9.leave (v := some (.int o1)) (fun h => by rw [Bd.returns] at h; cases h)
        refine ⟨_, _, pre0 _ ?_, hrun, hended, _, _, rfl, ?_, ⟨_, rfl⟩, hW, hsame.mono (by decide) (by decide)⟩
        · rw [← hS0]
          exact c12.trans (retI X9 hx Bd.returns (hb hby d13_60) hr)
        · show Qrm13 Z p1 p2 p3 p4 p5 p6 h0 n0 _ T9.heap _
          rw [eh2_]
          exact ⟨by subst ho2 ho1; exact congrArg (fun z => some (Value.int z)) (own_r3 (E := fun y => own_enc y p2 p3 p4 p5 p6) k1a k1b k2a).symm, N9, rfl⟩
      ·
        have c13 : Steps p.tables e below S0 (T9.setTop (mkF m 55 #[.val (.int p1), .val (.int p2), .val (.int p3), .val (.int p4), .val (.int p5), .val (.int p6), .val (.int o1), .val (.int o1), .val (.int o2), .unset, .unset] [(.int o1), (.int o2)])) := c11.trans (by
          refine XS.icmpNo X9.here hx rfl (hb hby d13_48) rfl (XT.ii_eq_f k2a) ?_
          show Steps p.tables e below (T9.setTop (mkF m 51 #[.val (.int p1), .val (.int p2), .val (.int p3), .val (.int p4), .val (.int p5), .val (.int p6), .val (.int o1), .val (.int o1), .val (.int o2), .unset, .unset] [])) _
          refine XS.iload X9.here hx rfl (hb hby d13_51) rfl ?_
          show Steps p.tables e below (T9.setTop (mkF m 53 #[.val (.int p1), .val (.int p2), .val (.int p3), .val (.int p4), .val (.int p5), .val (.int p6), .val (.int o1), .val (.int o1), .val (.int o2), .unset, .unset] [(.int o2)])) _
          refine XS.iload X9.here hx rfl (hb hby d13_53) rfl ?_
          show Steps p.tables e below (T9.setTop (mkF m 55 #[.val (.int p1), .val (.int p2), .val (.int p3), .val (.int p4), .val (.int p5), .val (.int p6), .val (.int o1), .val (.int o1), .val (.int o2), .unset, .unset] [(.int o1), (.int o2)])) _
          exact Steps.refl _)
        by_cases k2b : o2 = o1
        ·
          have c14 : Steps p.tables e below S0 (T9.setTop (mkF m 60 #[.val (.int p1), .val (.int p2), .val (.int p3), .val (.int p4), .val (.int p5), .val (.int p6), .val (.int o1), .val (.int o1), .val (.int o2), .unset, .unset] [(.int o1)])) := c13.trans (by
            refine XS.icmpNo X9.here hx rfl (hb hby d13_55) rfl (XT.ii_ne_f k2b) ?_
            show Steps p.tables e below (T9.setTop (mkF m 58 #[.val (.int p1), .val (.int p2), .val (.int p3), .val (.int p4), .val (.int p5), .val (.int p6), .val (.int o1), .val (.int o1), .val (.int o2), .unset, .unset] [])) _
            refine XS.iload X9.here hx rfl (hb hby d13_58) rfl ?_
            show Steps p.tables e below (T9.setTop (mkF m 60 #[.val (.int p1), .val (.int p2), .val (.int p3), .val (.int p4), .val (.int p5), .val (.int p6), .val (.int o1), .val (.int o1), .val (.int o2), .unset, .unset] [(.int o1)])) _
            exact Steps.refl _)
          obtain ⟨fs, hr, hrun, hended, hW, hsame⟩ := X9.leave (v := some (.int o1)) (fun h => by rw [Bd.returns] at h; cases h)
          refine ⟨_, _, pre0 _ ?_, hrun, hended, _, _, rfl, ?_, ⟨_, rfl⟩, hW, hsame.mono (by decide) (by decide)⟩
          · rw [← hS0]
            exact c14.trans (retI X9 hx Bd.returns (hb hby d13_60) hr)
          · show Qrm13 Z p1 p2 p3 p4 p5 p6 h0 n0 _ T9.heap _
            rw [eh2_]
            exact ⟨by subst ho2 ho1; exact congrArg (fun z => some (Value.int z)) (own_r4 (E := fun y => own_enc y p2 p3 p4 p5 p6) k1a k1b k2a k2b).symm, N9, rfl⟩
        ·
          have c15 : Steps p.tables e below S0 (T9.setTop (mkF m 74 #[.val (.int p1), .val (.int p2), .val (.int p3), .val (.int p4), .val (.int p5), .val (.int p6), .val (.int o1), .val (.int o1), .val (.int o2), .val (.int o2), .unset] [(.int p6), (.int p5), (.int p4), (.int p3), (.int p2), (.int o2)])) := c13.trans (by
            refine XS.icmpYes X9.here hx rfl (pc0 := 55) (pc' := 61) rfl (hb hby d13_55) rfl (XT.ii_ne_t k2b) (by decide) (by decide) ?_
            show Steps p.tables e below (T9.setTop (mkF m 61 #[.val (.int p1), .val (.int p2), .val (.int p3), .val (.int p4), .val (.int p5), .val (.int p6), .val (.int o1), .val (.int o1), .val (.int o2), .unset, .unset] [])) _
            refine XS.iload X9.here hx rfl (hb hby d13_61) rfl ?_
            show Steps p.tables e below (T9.setTop (mkF m 63 #[.val (.int p1), .val (.int p2), .val (.int p3), .val (.int p4), .val (.int p5), .val (.int p6), .val (.int o1), .val (.int o1), .val (.int o2), .unset, .unset] [(.int o2)])) _
            refine XS.istore X9.here hx rfl (hb hby d13_63) rfl (l' := #[.val (.int p1), .val (.int p2), .val (.int p3), .val (.int p4), .val (.int p5), .val (.int p6), .val (.int o1), .val (.int o1), .val (.int o2), .val (.int o2), .unset]) rfl ?_
            show Steps p.tables e below (T9.setTop (mkF m 65 #[.val (.int p1), .val (.int p2), .val (.int p3), .val (.int p4), .val (.int p5), .val (.int p6), .val (.int o1), .val (.int o1), .val (.int o2), .val (.int o2), .unset] [])) _
            refine XS.iload X9.here hx rfl (hb hby d13_65) rfl ?_
            show Steps p.tables e below (T9.setTop (mkF m 67 #[.val (.int p1), .val (.int p2), .val (.int p3), .val (.int p4), .val (.int p5), .val (.int p6), .val (.int o1), .val (.int o1), .val (.int o2), .val (.int o2), .unset] [(.int o2)])) _
            refine XS.iloadN X9.here hx rfl (hb hby d13_67) rfl ?_
            show Steps p.tables e below (T9.setTop (mkF m 68 #[.val (.int p1), .val (.int p2), .val (.int p3), .val (.int p4), .val (.int p5), .val (.int p6), .val (.int o1), .val (.int o1), .val (.int o2), .val (.int o2), .unset] [(.int p2), (.int o2)])) _
            refine XS.iloadN X9.here hx rfl (hb hby d13_68) rfl ?_
            show Steps p.tables e below (T9.setTop (mkF m 69 #[.val (.int p1), .val (.int p2), .val (.int p3), .val (.int p4), .val (.int p5), .val (.int p6), .val (.int o1), .val (.int o1), .val (.int o2), .val (.int o2), .unset] [(.int p3), (.int p2), (.int o2)])) _
            refine XS.iloadN X9.here hx rfl (hb hby d13_69) rfl ?_
            show Steps p.tables e below (T9.setTop (mkF m 70 #[.val (.int p1), .val (.int p2), .val (.int p3), .val (.int p4), .val (.int p5), .val (.int p6), .val (.int o1), .val (.int o1), .val (.int o2), .val (.int o2), .unset] [(.int p4), (.int p3), (.int p2), (.int o2)])) _
            refine XS.iload X9.here hx rfl (hb hby d13_70) rfl ?_
            show Steps p.tables e below (T9.setTop (mkF m 72 #[.val (.int p1), .val (.int p2), .val (.int p3), .val (.int p4), .val (.int p5), .val (.int p6), .val (.int o1), .val (.int o1), .val (.int o2), .val (.int o2), .unset] [(.int p5), (.int p4), (.int p3), (.int p2), (.int o2)])) _
            refine XS.iload X9.here hx rfl (hb hby d13_72) rfl ?_
            show Steps p.tables e below (T9.setTop (mkF m 74 #[.val (.int p1), .val (.int p2), .val (.int p3), .val (.int p4), .val (.int p5), .val (.int p6), .val (.int o1), .val (.int o1), .val (.int o2), .val (.int o2), .unset] [(.int p6), (.int p5), (.int p4), (.int p3), (.int p2), (.int o2)])) _
            exact Steps.refl _)
          obtain ⟨_, _, ⟨T16, L16, k16, n16⟩, -, X16, hQ16, st16⟩ := Jvm.LawKit.callS X9 hx (y := (⟨"com/example/edge_keeper/edgekeeper/NestingLearnPinLaw", "enc", "(IIIIIZ)I"⟩ : MethodName)) hown (mvT hZ (hw _ (List.mem_of_getElem? (i := 61) rfl))) (mvT hZ (hw _ (List.mem_of_getElem? (i := 62) rfl))) (mvT hZ (hw _ (List.mem_of_getElem? (i := 59) rfl))) (mvT hZ (hw _ (List.mem_of_getElem? (i := 63) rfl))) (by decide) (backOf (W := 0) (rm14 l Z a0 hw [] o2 p2 p3 p4 p5 p6 h0 n0 Z0) hZ (hw _ (List.mem_of_getElem? (i := 63) rfl)) (hw _ (List.mem_of_getElem? (i := 59) rfl)) (by decide) (by decide)) (g := (mkF m 74 #[.val (.int p1), .val (.int p2), .val (.int p3), .val (.int p4), .val (.int p5), .val (.int p6), .val (.int o1), .val (.int o1), .val (.int o2), .val (.int o2), .unset] [(.int p6), (.int p5), (.int p4), (.int p3), (.int p2), (.int o2)])) rfl (by rw [hml]; rfl) (argsL := [(.int o2), (.int p2), (.int p3), (.int p4), (.int p5), (.int p6)]) (rest := []) (lenOf own_pd__IIIIIZ_I rfl) rfl (by show 2 * 0 + _ ≤ _; exact Nat.le_of_eq rfl) (hb hby d13_74) (fun _ _ => ⟨rfl, eh2_, (by decide : 0 + 0 ≤ _), (by decide : 0 + 0 ≤ _)⟩)
          dsimp only [Pt.U, Pt.locs, Pt.cells, Pt.slots] at X16 hQ16 st16
          obtain ⟨Lc16, hR16, l16, y16, z16⟩ := hQ16
          subst l16 y16 z16
          obtain ⟨rfl, Nq16, eh3_⟩ := hR16
          have N16 := Fr.app N9 Nq16
          have c17 : Steps p.tables e below S0 (T16.setTop (mkF m 77 #[.val (.int p1), .val (.int p2), .val (.int p3), .val (.int p4), .val (.int p5), .val (.int p6), .val (.int o1), .val (.int o1), .val (.int o2), .val (.int o2), .unset] [(.int (own_enc o2 p2 p3 p4 p5 p6))])) := c15.trans (st16 _ (Steps.refl _))
          obtain ⟨o3, ho3⟩ : ∃ z, z = (own_enc o2 p2 p3 p4 p5 p6) := ⟨_, rfl⟩
          rw [← ho3] at c17
          have c18 : Steps p.tables e below S0 (T16.setTop (mkF m 82 #[.val (.int p1), .val (.int p2), .val (.int p3), .val (.int p4), .val (.int p5), .val (.int p6), .val (.int o1), .val (.int o1), .val (.int o2), .val (.int o2), .val (.int o3)] [(.int (-1 : Int32)), (.int o3)])) := c17.trans (by
            refine XS.istore X16.here hx rfl (hb hby d13_77) rfl (l' := #[.val (.int p1), .val (.int p2), .val (.int p3), .val (.int p4), .val (.int p5), .val (.int p6), .val (.int o1), .val (.int o1), .val (.int o2), .val (.int o2), .val (.int o3)]) rfl ?_
            show Steps p.tables e below (T16.setTop (mkF m 79 #[.val (.int p1), .val (.int p2), .val (.int p3), .val (.int p4), .val (.int p5), .val (.int p6), .val (.int o1), .val (.int o1), .val (.int o2), .val (.int o2), .val (.int o3)] [])) _
            refine XS.iload X16.here hx rfl (hb hby d13_79) rfl ?_
            show Steps p.tables e below (T16.setTop (mkF m 81 #[.val (.int p1), .val (.int p2), .val (.int p3), .val (.int p4), .val (.int p5), .val (.int p6), .val (.int o1), .val (.int o1), .val (.int o2), .val (.int o2), .val (.int o3)] [(.int o3)])) _
            refine XT.iconstV X16.here hx rfl (-1 : Int32) (hb hby d13_81) (by decide) ?_
            show Steps p.tables e below (T16.setTop (mkF m 82 #[.val (.int p1), .val (.int p2), .val (.int p3), .val (.int p4), .val (.int p5), .val (.int p6), .val (.int o1), .val (.int o1), .val (.int o2), .val (.int o2), .val (.int o3)] [(.int (-1 : Int32)), (.int o3)])) _
            exact Steps.refl _)
          by_cases k3a : o3 = (-1 : Int32)
          ·
            have c19 : Steps p.tables e below S0 (T16.setTop (mkF m 94 #[.val (.int p1), .val (.int p2), .val (.int p3), .val (.int p4), .val (.int p5), .val (.int p6), .val (.int o1), .val (.int o1), .val (.int o2), .val (.int o2), .val (.int o3)] [(.int o2)])) := c18.trans (by
              refine XS.icmpYes X16.here hx rfl (pc0 := 82) (pc' := 92) rfl (hb hby d13_82) rfl (XT.ii_eq_t k3a) (by decide) (by decide) ?_
              show Steps p.tables e below (T16.setTop (mkF m 92 #[.val (.int p1), .val (.int p2), .val (.int p3), .val (.int p4), .val (.int p5), .val (.int p6), .val (.int o1), .val (.int o1), .val (.int o2), .val (.int o2), .val (.int o3)] [])) _
              refine XS.iload X16.here hx rfl (hb hby d13_92) rfl ?_
              show Steps p.tables e below (T16.setTop (mkF m 94 #[.val (.int p1), .val (.int p2), .val (.int p3), .val (.int p4), .val (.int p5), .val (.int p6), .val (.int o1), .val (.int o1), .val (.int o2), .val (.int o2), .val (.int o3)] [(.int o2)])) _
              exact Steps.refl _)
            obtain ⟨fs, hr, hrun, hended, hW, hsame⟩ := X16.leave (v := some (.int o2)) (fun h => by rw [Bd.returns] at h; cases h)
            refine ⟨_, _, pre0 _ ?_, hrun, hended, _, _, rfl, ?_, ⟨_, rfl⟩, hW, hsame.mono (by decide) (by decide)⟩
            · rw [← hS0]
              exact c19.trans (retI X16 hx Bd.returns (hb hby d13_94) hr)
            · show Qrm13 Z p1 p2 p3 p4 p5 p6 h0 n0 _ T16.heap _
              rw [eh3_]
              exact ⟨by subst ho3 ho2 ho1; exact congrArg (fun z => some (Value.int z)) (own_r5 (E := fun y => own_enc y p2 p3 p4 p5 p6) k1a k1b k2a k2b k3a).symm, N16, rfl⟩
          ·
            have c20 : Steps p.tables e below S0 (T16.setTop (mkF m 89 #[.val (.int p1), .val (.int p2), .val (.int p3), .val (.int p4), .val (.int p5), .val (.int p6), .val (.int o1), .val (.int o1), .val (.int o2), .val (.int o2), .val (.int o3)] [(.int o2), (.int o3)])) := c18.trans (by
              refine XS.icmpNo X16.here hx rfl (hb hby d13_82) rfl (XT.ii_eq_f k3a) ?_
              show Steps p.tables e below (T16.setTop (mkF m 85 #[.val (.int p1), .val (.int p2), .val (.int p3), .val (.int p4), .val (.int p5), .val (.int p6), .val (.int o1), .val (.int o1), .val (.int o2), .val (.int o2), .val (.int o3)] [])) _
              refine XS.iload X16.here hx rfl (hb hby d13_85) rfl ?_
              show Steps p.tables e below (T16.setTop (mkF m 87 #[.val (.int p1), .val (.int p2), .val (.int p3), .val (.int p4), .val (.int p5), .val (.int p6), .val (.int o1), .val (.int o1), .val (.int o2), .val (.int o2), .val (.int o3)] [(.int o3)])) _
              refine XS.iload X16.here hx rfl (hb hby d13_87) rfl ?_
              show Steps p.tables e below (T16.setTop (mkF m 89 #[.val (.int p1), .val (.int p2), .val (.int p3), .val (.int p4), .val (.int p5), .val (.int p6), .val (.int o1), .val (.int o1), .val (.int o2), .val (.int o2), .val (.int o3)] [(.int o2), (.int o3)])) _
              exact Steps.refl _)
            by_cases k3b : o3 = o2
            ·
              have c21 : Steps p.tables e below S0 (T16.setTop (mkF m 94 #[.val (.int p1), .val (.int p2), .val (.int p3), .val (.int p4), .val (.int p5), .val (.int p6), .val (.int o1), .val (.int o1), .val (.int o2), .val (.int o2), .val (.int o3)] [(.int o2)])) := c20.trans (by
                refine XS.icmpNo X16.here hx rfl (hb hby d13_89) rfl (XT.ii_ne_f k3b) ?_
                show Steps p.tables e below (T16.setTop (mkF m 92 #[.val (.int p1), .val (.int p2), .val (.int p3), .val (.int p4), .val (.int p5), .val (.int p6), .val (.int o1), .val (.int o1), .val (.int o2), .val (.int o2), .val (.int o3)] [])) _
                refine XS.iload X16.here hx rfl (hb hby d13_92) rfl ?_
                show Steps p.tables e below (T16.setTop (mkF m 94 #[.val (.int p1), .val (.int p2), .val (.int p3), .val (.int p4), .val (.int p5), .val (.int p6), .val (.int o1), .val (.int o1), .val (.int o2), .val (.int o2), .val (.int o3)] [(.int o2)])) _
                exact Steps.refl _)
              obtain ⟨fs, hr, hrun, hended, hW, hsame⟩ := X16.leave (v := some (.int o2)) (fun h => by rw [Bd.returns] at h; cases h)
              refine ⟨_, _, pre0 _ ?_, hrun, hended, _, _, rfl, ?_, ⟨_, rfl⟩, hW, hsame.mono (by decide) (by decide)⟩
              · rw [← hS0]
                exact c21.trans (retI X16 hx Bd.returns (hb hby d13_94) hr)
              · show Qrm13 Z p1 p2 p3 p4 p5 p6 h0 n0 _ T16.heap _
                rw [eh3_]
                exact ⟨by subst ho3 ho2 ho1; exact congrArg (fun z => some (Value.int z)) (own_r6 (E := fun y => own_enc y p2 p3 p4 p5 p6) k1a k1b k2a k2b k3a k3b).symm, N16, rfl⟩
            ·
              have c22 : Steps p.tables e below S0 (T16.setTop (mkF m 96 #[.val (.int p1), .val (.int p2), .val (.int p3), .val (.int p4), .val (.int p5), .val (.int p6), .val (.int o1), .val (.int o1), .val (.int o2), .val (.int o2), .val (.int o3)] [(.int p1)])) := c20.trans (by
                refine XS.icmpYes X16.here hx rfl (pc0 := 89) (pc' := 95) rfl (hb hby d13_89) rfl (XT.ii_ne_t k3b) (by decide) (by decide) ?_
                show Steps p.tables e below (T16.setTop (mkF m 95 #[.val (.int p1), .val (.int p2), .val (.int p3), .val (.int p4), .val (.int p5), .val (.int p6), .val (.int o1), .val (.int o1), .val (.int o2), .val (.int o2), .val (.int o3)] [])) _
                refine XS.iloadN X16.here hx rfl (hb hby d13_95) rfl ?_
                show Steps p.tables e below (T16.setTop (mkF m 96 #[.val (.int p1), .val (.int p2), .val (.int p3), .val (.int p4), .val (.int p5), .val (.int p6), .val (.int o1), .val (.int o1), .val (.int o2), .val (.int o2), .val (.int o3)] [(.int p1)])) _
                exact Steps.refl _)
              obtain ⟨fs, hr, hrun, hended, hW, hsame⟩ := X16.leave (v := some (.int p1)) (fun h => by rw [Bd.returns] at h; cases h)
              refine ⟨_, _, pre0 _ ?_, hrun, hended, _, _, rfl, ?_, ⟨_, rfl⟩, hW, hsame.mono (by decide) (by decide)⟩
              · rw [← hS0]
                exact c22.trans (retI X16 hx Bd.returns (hb hby d13_96) hr)
              · show Qrm13 Z p1 p2 p3 p4 p5 p6 h0 n0 _ T16.heap _
                rw [eh3_]
                exact ⟨by subst ho3 ho2 ho1; exact congrArg (fun z => some (Value.int z)) (own_r7 (E := fun y => own_enc y p2 p3 p4 p5 p6) k1a k1b k2a k2b k3a k3b).symm, N16, rfl⟩
theorem d6_0 : decode jdk_65_method_123_code 0 = .ok (.iload_n 1, 1) := by decide +kernel
theorem d6_1 : decode jdk_65_method_123_code 1 = .ok (.aload_n 0, 1) := by decide +kernel
theorem d6_2 : decode jdk_65_method_123_code 2 = .ok (.arraylength, 1) := by decide +kernel
theorem d6_3 : decode jdk_65_method_123_code 3 = .ok (.if_icmp .ne 11, 3) := by decide +kernel
theorem d6_6 : decode jdk_65_method_123_code 6 = .ok (.aload_n 0, 1) := by decide +kernel
theorem d6_7 : decode jdk_65_method_123_code 7 = .ok (.invokevirtual 316, 3) := by decide +kernel
theorem d6_10 : decode jdk_65_method_123_code 10 = .ok (.checkcast 317, 3) := by decide +kernel
theorem d6_13 : decode jdk_65_method_123_code 13 = .ok (.areturn, 1) := by decide +kernel
theorem d6_14 : decode jdk_65_method_123_code 14 = .ok (.iload_n 1, 1) := by decide +kernel
theorem d6_15 : decode jdk_65_method_123_code 15 = .ok (.newarray .int, 2) := by decide +kernel
theorem d6_17 : decode jdk_65_method_123_code 17 = .ok (.astore_n 2, 1) := by decide +kernel
theorem d6_18 : decode jdk_65_method_123_code 18 = .ok (.aload_n 0, 1) := by decide +kernel
theorem d6_19 : decode jdk_65_method_123_code 19 = .ok (.iconst 0, 1) := by decide +kernel
theorem d6_20 : decode jdk_65_method_123_code 20 = .ok (.aload_n 2, 1) := by decide +kernel
theorem d6_21 : decode jdk_65_method_123_code 21 = .ok (.iconst 0, 1) := by decide +kernel
theorem d6_22 : decode jdk_65_method_123_code 22 = .ok (.aload_n 0, 1) := by decide +kernel
theorem d6_23 : decode jdk_65_method_123_code 23 = .ok (.arraylength, 1) := by decide +kernel
theorem d6_24 : decode jdk_65_method_123_code 24 = .ok (.iload_n 1, 1) := by decide +kernel
theorem d6_25 : decode jdk_65_method_123_code 25 = .ok (.invokestatic 304, 3) := by decide +kernel
theorem d6_28 : decode jdk_65_method_123_code 28 = .ok (.invokestatic 150, 3) := by decide +kernel
theorem d6_31 : decode jdk_65_method_123_code 31 = .ok (.aload_n 2, 1) := by decide +kernel
theorem d6_32 : decode jdk_65_method_123_code 32 = .ok (.areturn, 1) := by decide +kernel
theorem own_pn_Arrays : plainName "java/util/Arrays" = true := by first | (simp [plainName, overriddenIn]; done) | decide +kernel
theorem ef_6 (m : MethodId) (x0 : Addr) (x1 : Int32) : entryFrame m #[(.ref x0), (.int x1)] 3 = mkF m 0 #[.val (.ref x0), .val (.int x1), .unset] [] := by first | (simp [entryFrame, mkF, argsToLocals, Value.category]; done) | rfl
def Qrm6 (Z : State) (a1 : Addr) (mm : Nat) (n : Nat) (f : Nat → Int32) (h0 : Heap) (n0 : Nat) (v : Option Value) (h : Heap) (L : List Loc) : Prop := ∃ r : Addr, v = some (.ref r) ∧ Fr n0 L ∧ Keep h0 h [] ∧ own_A Z h r mm (fun j => if j < n then f j else 0) ∧ h0.size ≤ r
set_option maxRecDepth 65536 in
set_option maxHeartbeats 40000000 in
theorem rm6 (l : Launch) (Z : State) (a0 : Array Value) (hw : ∀ d ∈ tables_1, d.before a0 Z = true) (ws : List Jvm.Cond) (a1 : Addr) (mm : Nat) (n : Nat) (f : Nat → Int32) (h0 : Heap) (n0 : Nat) (Z0 : n0 ≤ h0.size) (HA : own_A Z h0 a1 n f) (hnmm : n < mm) (hm : mm ≤ 32) :
    MetFree l (⟨"java/util/Arrays", "copyOf", "([II)[I"⟩ : MethodName) (head1 (Jvm.Cond.code (⟨"java/util/Arrays", "copyOf", "([II)[I"⟩ : MethodName) jdk_65_method_123_code 3 (some (.array .int)) :: ws) ({ frames := 1, cells := 1, slots := 32, locals := 40 } : Room)) (fun a U => a = #[(.ref a1), (.int (Int32.ofNat mm))] ∧ Z.Warmed39 U.vm ∧ U.heap = h0) (fun _ _ _ _ _ => True) (fun _ U o U' => ∃ v L, o = .returned v ∧ Qrm6 Z a1 mm n f h0 n0 v U'.heap L ∧ FrameEnd U o U' L ({ frames := 1, cells := 1, slots := 32, locals := 40 } : Room).cells ({ frames := 1, cells := 1, slots := 32, locals := 40 } : Room).slots) := by
  refine MetFree.of_bodySF (plainFor_of_name own_pn_Arrays) hisR ?_
  intro p e s m args below meth c s₁ Bd hml0 hP hK
  obtain ⟨rfl, hZ, hh⟩ := hP
  have hx := Bd.exec
  have hby := Bd.bytes
  have hml : c.maxLocals = 3 := hml0
  have hown : s.vm.findClass "java/util/Arrays" = some m.cls := findClass_of_methodNamed Bd.named
  have hnm := (name_of_methodNamed Bd.named Bd.method).1
  have X0 : Stand p l e ({ frames := 1, cells := 1, slots := 32, locals := 40 } : Room) s m #[(.ref a1), (.int (Int32.ofNat mm))] below meth c s₁ [] 0 0 := Stand.of_body Bd
  have e0 : s₁.heap = h0 := by rw [← hh, Bd.state]; rfl
  have N0 := Fr.nil n0
  have pre0 : ∀ t, Steps p.tables e below (s₁.setTop (mkF m 0 #[.val (.ref a1), .val (.int (Int32.ofNat mm)), .unset] [])) t → Steps p.tables e below (s₁.setTop (entryFrame m #[(.ref a1), (.int (Int32.ofNat mm))] 3)) t := fun t0_ k0_ => castTop (ef_6 m a1 (Int32.ofNat mm)) k0_
  obtain ⟨S0, hS0⟩ : ∃ z, z = s₁.setTop (mkF m 0 #[.val (.ref a1), .val (.int (Int32.ofNat mm)), .unset] []) := ⟨_, rfl⟩
  have c0 : Steps p.tables e below S0 (s₁.setTop (mkF m 0 #[.val (.ref a1), .val (.int (Int32.ofNat mm)), .unset] [])) := by rw [hS0]; exact Steps.refl _
  have cp_a := HA
  obtain ⟨c_a, Ar_a, Sz_a, le_a, H_a⟩ := cp_a
  have S_a : c_a.slots.size = (Int32.ofNat n).toNatClampNeg := by rw [own_clamp (by omega)]; exact Sz_a
  have c1 : Steps p.tables e below S0 (s₁.setTop (mkF m 15 #[.val (.ref a1), .val (.int (Int32.ofNat mm)), .unset] [(.int (Int32.ofNat mm))])) := c0.trans (by
    refine XS.iloadN X0.here hx rfl (hb hby d6_0) rfl ?_
    show Steps p.tables e below (s₁.setTop (mkF m 1 #[.val (.ref a1), .val (.int (Int32.ofNat mm)), .unset] [(.int (Int32.ofNat mm))])) _
    refine XS.aloadN X0.here hx rfl (hb hby d6_1) rfl rfl ?_
    show Steps p.tables e below (s₁.setTop (mkF m 2 #[.val (.ref a1), .val (.int (Int32.ofNat mm)), .unset] [(.ref a1), (.int (Int32.ofNat mm))])) _
    refine X0.arraylength hx (by rw [e0]; exact Ar_a.1) (State.isArrayOf_alike hZ.alike Ar_a.2.1) (g := (mkF m 2 #[.val (.ref a1), .val (.int (Int32.ofNat mm)), .unset] [(.ref a1), (.int (Int32.ofNat mm))])) rfl rfl (hb hby d6_2) _ ?_
    rw [len_of S_a (own_nn (by omega))]
    show Steps p.tables e below (s₁.setTop (mkF m 3 #[.val (.ref a1), .val (.int (Int32.ofNat mm)), .unset] [(.int (Int32.ofNat n)), (.int (Int32.ofNat mm))])) _
    refine XS.icmpYes X0.here hx rfl (pc0 := 3) (pc' := 14) rfl (hb hby d6_3) rfl (XT.ii_ne_t (fun q => by have := (own_inj (by omega) (by omega)).mp q; omega)) (by decide) (by decide) ?_
    show Steps p.tables e below (s₁.setTop (mkF m 14 #[.val (.ref a1), .val (.int (Int32.ofNat mm)), .unset] [])) _
    refine XS.iloadN X0.here hx rfl (hb hby d6_14) rfl ?_
    show Steps p.tables e below (s₁.setTop (mkF m 15 #[.val (.ref a1), .val (.int (Int32.ofNat mm)), .unset] [(.int (Int32.ofNat mm))])) _
    exact Steps.refl _)
  obtain ⟨T2, h2, k2, X2, e2, E2, A2, st2⟩ := newP X0 hx hZ (hw _ (List.mem_of_getElem? (i := 9) rfl)) e0 (g := (mkF m 15 #[.val (.ref a1), .val (.int (Int32.ofNat mm)), .unset] [(.int (Int32.ofNat mm))])) rfl (hb hby d6_15) rfl (own_nn (by omega)) (cap := 32) (by rw [own_clamp (by omega)]; exact hm) (by decide) (by decide) (by decide)
  obtain ⟨r, g2⟩ : ∃ z, z = h0.size := ⟨_, rfl⟩
  rw [← g2] at A2 st2
  obtain ⟨cl_r, D_r⟩ : ∃ z, z = newA k2 .int (Int32.ofNat mm) := ⟨_, rfl⟩
  have Ar_r : Arr Z h2 r cl_r .int := by rw [D_r]; exact A2
  have S_r : cl_r.slots.size = (Int32.ofNat mm).toNatClampNeg := by rw [D_r]; exact sz_new _ _ _
  have g_r : n0 ≤ r := Nat.le_trans Z0 (Nat.le_of_eq g2.symm)
  have sz2 : n0 ≤ h2.size := Nat.le_trans Z0 E2.1
  have c3 : Steps p.tables e below S0 (T2.setTop (mkF m 17 #[.val (.ref a1), .val (.int (Int32.ofNat mm)), .unset] [(.ref r)])) := c1.trans (st2 _ (Steps.refl _))
  have HA2 := HA.ext E2
  have cp_b := HA2
  obtain ⟨c_b, Ar_b, Sz_b, le_b, H_b⟩ := cp_b
  have S_b : c_b.slots.size = (Int32.ofNat n).toNatClampNeg := by rw [own_clamp (by omega)]; exact Sz_b
  have c4 : Steps p.tables e below S0 (T2.setTop (mkF m 25 #[.val (.ref a1), .val (.int (Int32.ofNat mm)), .val (.ref r)] [(.int (Int32.ofNat mm)), (.int (Int32.ofNat n)), (.int (0 : Int32)), (.ref r), (.int (0 : Int32)), (.ref a1)])) := c3.trans (by
    refine XS.astoreN X2.here hx rfl (hb hby d6_17) rfl rfl (l' := #[.val (.ref a1), .val (.int (Int32.ofNat mm)), .val (.ref r)]) rfl ?_
    show Steps p.tables e below (T2.setTop (mkF m 18 #[.val (.ref a1), .val (.int (Int32.ofNat mm)), .val (.ref r)] [])) _
    refine XS.aloadN X2.here hx rfl (hb hby d6_18) rfl rfl ?_
    show Steps p.tables e below (T2.setTop (mkF m 19 #[.val (.ref a1), .val (.int (Int32.ofNat mm)), .val (.ref r)] [(.ref a1)])) _
    refine XT.iconstV X2.here hx rfl (0 : Int32) (hb hby d6_19) (by decide) ?_
    show Steps p.tables e below (T2.setTop (mkF m 20 #[.val (.ref a1), .val (.int (Int32.ofNat mm)), .val (.ref r)] [(.int (0 : Int32)), (.ref a1)])) _
    refine XS.aloadN X2.here hx rfl (hb hby d6_20) rfl rfl ?_
    show Steps p.tables e below (T2.setTop (mkF m 21 #[.val (.ref a1), .val (.int (Int32.ofNat mm)), .val (.ref r)] [(.ref r), (.int (0 : Int32)), (.ref a1)])) _
    refine XT.iconstV X2.here hx rfl (0 : Int32) (hb hby d6_21) (by decide) ?_
    show Steps p.tables e below (T2.setTop (mkF m 22 #[.val (.ref a1), .val (.int (Int32.ofNat mm)), .val (.ref r)] [(.int (0 : Int32)), (.ref r), (.int (0 : Int32)), (.ref a1)])) _
    refine XS.aloadN X2.here hx rfl (hb hby d6_22) rfl rfl ?_
    show Steps p.tables e below (T2.setTop (mkF m 23 #[.val (.ref a1), .val (.int (Int32.ofNat mm)), .val (.ref r)] [(.ref a1), (.int (0 : Int32)), (.ref r), (.int (0 : Int32)), (.ref a1)])) _
    refine X2.arraylength hx (by rw [e2]; exact Ar_b.1) (State.isArrayOf_alike hZ.alike Ar_b.2.1) (g := (mkF m 23 #[.val (.ref a1), .val (.int (Int32.ofNat mm)), .val (.ref r)] [(.ref a1), (.int (0 : Int32)), (.ref r), (.int (0 : Int32)), (.ref a1)])) rfl rfl (hb hby d6_23) _ ?_
    rw [len_of S_b (own_nn (by omega))]
    show Steps p.tables e below (T2.setTop (mkF m 24 #[.val (.ref a1), .val (.int (Int32.ofNat mm)), .val (.ref r)] [(.int (Int32.ofNat n)), (.int (0 : Int32)), (.ref r), (.int (0 : Int32)), (.ref a1)])) _
    refine XS.iloadN X2.here hx rfl (hb hby d6_24) rfl ?_
    show Steps p.tables e below (T2.setTop (mkF m 25 #[.val (.ref a1), .val (.int (Int32.ofNat mm)), .val (.ref r)] [(.int (Int32.ofNat mm)), (.int (Int32.ofNat n)), (.int (0 : Int32)), (.ref r), (.int (0 : Int32)), (.ref a1)])) _
    exact Steps.refl _)
  obtain ⟨_, _, ⟨T5, L5, k5, n5⟩, -, X5, hQ5, st5⟩ := Jvm.LawKit.callS X2 hx (y := (⟨"java/lang/Math", "min", "(II)I"⟩ : MethodName)) hown (mvT hZ (hw _ (List.mem_of_getElem? (i := 30) rfl))) (mvT hZ (hw _ (List.mem_of_getElem? (i := 31) rfl))) (mvT hZ (hw _ (List.mem_of_getElem? (i := 24) rfl))) (mvT hZ (hw _ (List.mem_of_getElem? (i := 32) rfl))) (by decide) (Jvm.Free.JP.Math_min_II.pays (W := 4) (Int32.ofNat n) (Int32.ofNat mm) (own_min_tab (mvT hZ (hw _ (List.mem_of_getElem? (i := 32) rfl))) (mvT hZ (hw _ (List.mem_of_getElem? (i := 24) rfl)))) (by decide) (by decide)) (g := (mkF m 25 #[.val (.ref a1), .val (.int (Int32.ofNat mm)), .val (.ref r)] [(.int (Int32.ofNat mm)), (.int (Int32.ofNat n)), (.int (0 : Int32)), (.ref r), (.int (0 : Int32)), (.ref a1)])) rfl (by rw [hml]; rfl) (argsL := [(.int (Int32.ofNat n)), (.int (Int32.ofNat mm))]) (rest := [(.int (0 : Int32)), (.ref r), (.int (0 : Int32)), (.ref a1)]) (lenOf own_pd__II_I rfl) rfl (by show 2 * 0 + _ ≤ _; exact Nat.le_of_eq rfl) (hb hby d6_25) (fun _ _ => ⟨Nat.le_of_ble_eq_true rfl, Nat.le_of_ble_eq_true rfl, rfl, trivial⟩)
  dsimp only [Pt.U, Pt.locs, Pt.cells, Pt.slots] at X5 hQ5 st5
  obtain ⟨⟨rfl, eh5⟩, l5, y5, z5⟩ := hQ5
  subst l5 y5 z5
  have eq5 : T5.heap = h2 := eh5.trans e2
  have N5 := Fr.app N0 (Fr.nil n0)
  have c6 : Steps p.tables e below S0 (T5.setTop (mkF m 28 #[.val (.ref a1), .val (.int (Int32.ofNat mm)), .val (.ref r)] [(.int (Jvm.Free.JP.Math_min_II.val (Int32.ofNat n) (Int32.ofNat mm))), (.int (0 : Int32)), (.ref r), (.int (0 : Int32)), (.ref a1)])) := c4.trans (st5 _ (Steps.refl _))
  have hr7 : (Jvm.Free.JP.Math_min_II.val (Int32.ofNat n) (Int32.ofNat mm)) = (Int32.ofNat n) := own_min (by omega) (by omega) hnmm
  rw [hr7] at c6
  obtain ⟨ka, VA⟩ := HA2.toArv
  have VB : Arv Z h2 r k2 .int (Int32.ofNat mm) ([] ++ List.replicate mm (Value.int 0)) (.int 0) := (Arv.new (ty := .int) A2 (own_nn (by omega))).pad (pad_rep [] (.int 0) mm)
  obtain ⟨T8, h8, Lx8, X8, e8, N8, K8, V8, st8⟩ := cpA X5 hx hZ hown (hw _ (List.mem_of_getElem? (i := 33) rfl)) (hw _ (List.mem_of_getElem? (i := 36) rfl)) (hw _ (List.mem_of_getElem? (i := 34) rfl)) (hw _ (List.mem_of_getElem? (i := 35) rfl)) eq5 VA VB (Or.inl ⟨rfl, rfl⟩) (by decide) (by decide) (own_nn (by omega)) (by rw [own_clamp (by omega)]; show 0 + n ≤ n; omega) (by rw [own_clamp (by omega), own_clamp (by omega)]; show 0 + n ≤ mm; omega) rfl (by rw [own_clamp (by omega)]; simp; omega) N5 g_r (g := (mkF m 28 #[.val (.ref a1), .val (.int (Int32.ofNat mm)), .val (.ref r)] [(.int (Int32.ofNat n)), (.int (0 : Int32)), (.ref r), (.int (0 : Int32)), (.ref a1)])) rfl (by rw [hml]; rfl) rfl (hb hby d6_28) (by decide) (W := 0) (by show 2 * 0 + _ ≤ _; exact Nat.le_of_eq rfl) (by decide)
  have c9 : Steps p.tables e below S0 (T8.setTop (mkF m 31 #[.val (.ref a1), .val (.int (Int32.ofNat mm)), .val (.ref r)] [])) := c6.trans (st8 _ (Steps.refl _))
  rw [own_clamp (k := n) (by omega)] at V8
  have HR : own_A Z h8 r mm (fun j => if j < n then f j else 0) := own_A.ofArv V8 hm (fun i hi => own_list f n mm i hnmm hi _ rfl)
  have szr : h0.size ≤ r := Nat.le_of_eq g2.symm
  have c10 : Steps p.tables e below S0 (T8.setTop (mkF m 32 #[.val (.ref a1), .val (.int (Int32.ofNat mm)), .val (.ref r)] [(.ref r)])) := c9.trans (by
    refine XS.aloadN X8.here hx rfl (hb hby d6_31) rfl rfl ?_
    show Steps p.tables e below (T8.setTop (mkF m 32 #[.val (.ref a1), .val (.int (Int32.ofNat mm)), .val (.ref r)] [(.ref r)])) _
    exact Steps.refl _)
  obtain ⟨fs, hr, hrun, hended, hW, hsame⟩ := X8.leave (v := some (.ref r)) (fun h => by rw [Bd.returns] at h; cases h)
  refine ⟨_, _, pre0 _ ?_, hrun, hended, _, _, rfl, ?_, ⟨_, rfl⟩, hW, hsame.mono (by decide) (by decide)⟩
  · rw [← hS0]
    refine c10.trans ?_
    jvm_step X8.here [X8.here.top, hx, (hb hby d6_32), X8.method', Bd.returns, Value.isRef, FieldType.isReference]
    first | (intro acts; rw [hr _ acts rfl rfl rfl]) | rw [hr _ _ rfl rfl rfl]
    exact Steps.refl _
  · show Qrm6 Z a1 mm n f h0 n0 _ T8.heap _
    rw [e8]
    exact ⟨r, rfl, N8, ((Keep.refl h0 []).ext E2).trans K8 (fun x hx => Or.inr (by rw [List.mem_singleton.mp hx]; exact szr)), HR, szr⟩
theorem d4_0 : decode prog_11_method_4_code 0 = .ok (.aload_n 0, 1) := by decide +kernel
theorem d4_1 : decode prog_11_method_4_code 1 = .ok (.astore_n 2, 1) := by decide +kernel
theorem d4_2 : decode prog_11_method_4_code 2 = .ok (.iload_n 1, 1) := by decide +kernel
theorem d4_3 : decode prog_11_method_4_code 3 = .ok (.aload_n 0, 1) := by decide +kernel
theorem d4_4 : decode prog_11_method_4_code 4 = .ok (.arraylength, 1) := by decide +kernel
theorem d4_5 : decode prog_11_method_4_code 5 = .ok (.if_icmp .lt 27, 3) := by decide +kernel
theorem d4_8 : decode prog_11_method_4_code 8 = .ok (.aload_n 0, 1) := by decide +kernel
theorem d4_9 : decode prog_11_method_4_code 9 = .ok (.iload_n 1, 1) := by decide +kernel
theorem d4_10 : decode prog_11_method_4_code 10 = .ok (.iconst 1, 1) := by decide +kernel
theorem d4_11 : decode prog_11_method_4_code 11 = .ok (.iadd, 1) := by decide +kernel
theorem d4_12 : decode prog_11_method_4_code 12 = .ok (.aload_n 0, 1) := by decide +kernel
theorem d4_13 : decode prog_11_method_4_code 13 = .ok (.arraylength, 1) := by decide +kernel
theorem d4_14 : decode prog_11_method_4_code 14 = .ok (.iconst 2, 1) := by decide +kernel
theorem d4_15 : decode prog_11_method_4_code 15 = .ok (.imul, 1) := by decide +kernel
theorem d4_16 : decode prog_11_method_4_code 16 = .ok (.invokestatic 20, 3) := by decide +kernel
theorem d4_19 : decode prog_11_method_4_code 19 = .ok (.invokestatic 26, 3) := by decide +kernel
theorem d4_22 : decode prog_11_method_4_code 22 = .ok (.astore_n 2, 1) := by decide +kernel
theorem d4_23 : decode prog_11_method_4_code 23 = .ok (.aload_n 2, 1) := by decide +kernel
theorem d4_24 : decode prog_11_method_4_code 24 = .ok (.aload_n 0, 1) := by decide +kernel
theorem d4_25 : decode prog_11_method_4_code 25 = .ok (.arraylength, 1) := by decide +kernel
theorem d4_26 : decode prog_11_method_4_code 26 = .ok (.aload_n 2, 1) := by decide +kernel
theorem d4_27 : decode prog_11_method_4_code 27 = .ok (.arraylength, 1) := by decide +kernel
theorem d4_28 : decode prog_11_method_4_code 28 = .ok (.iconst (-1), 1) := by decide +kernel
theorem d4_29 : decode prog_11_method_4_code 29 = .ok (.invokestatic 31, 3) := by decide +kernel
theorem d4_32 : decode prog_11_method_4_code 32 = .ok (.aload_n 2, 1) := by decide +kernel
theorem d4_33 : decode prog_11_method_4_code 33 = .ok (.areturn, 1) := by decide +kernel
theorem own_pn_Nesting : plainName "com/example/edge_keeper/edgekeeper/Nesting" = true := by first | (simp [plainName, overriddenIn]; done) | decide +kernel
theorem ef_4 (m : MethodId) (x0 : Addr) (x1 : Int32) : entryFrame m #[(.ref x0), (.int x1)] 3 = mkF m 0 #[.val (.ref x0), .val (.int x1), .unset] [] := by first | (simp [entryFrame, mkF, argsToLocals, Value.category]; done) | rfl
def Qrm4 (Z : State) (a1 : Addr) (k : Nat) (n : Nat) (f : Nat → Int32) (h0 : Heap) (n0 : Nat) (v : Option Value) (h : Heap) (L : List Loc) : Prop := ∃ (r : Addr) (n' : Nat), v = some (.ref r) ∧ Fr n0 L ∧ Keep h0 h [] ∧ own_A Z h r n' (fun j => if j < n then f j else -1) ∧ k < n' ∧ n ≤ n' ∧ (r = a1 ∨ h0.size ≤ r)
set_option maxRecDepth 65536 in
set_option maxHeartbeats 40000000 in
theorem rm4 (l : Launch) (Z : State) (a0 : Array Value) (hw : ∀ d ∈ tables_1, d.before a0 Z = true) (ws : List Jvm.Cond) (a1 : Addr) (k : Nat) (n : Nat) (f : Nat → Int32) (h0 : Heap) (n0 : Nat) (Z0 : n0 ≤ h0.size) (HA : own_A Z h0 a1 n f) (hk : k ≤ 15) :
    MetFree l (⟨"com/example/edge_keeper/edgekeeper/Nesting", "room", "([II)[I"⟩ : MethodName) (head1 (Jvm.Cond.code (⟨"com/example/edge_keeper/edgekeeper/Nesting", "room", "([II)[I"⟩ : MethodName) prog_11_method_4_code 3 (some (.array .int)) :: ws) ({ frames := 2, cells := 1, slots := 32, locals := 54 } : Room)) (fun a U => a = #[(.ref a1), (.int (Int32.ofNat k))] ∧ Z.Warmed39 U.vm ∧ U.heap = h0) (fun _ _ _ _ _ => True) (fun _ U o U' => ∃ v L, o = .returned v ∧ Qrm4 Z a1 k n f h0 n0 v U'.heap L ∧ FrameEnd U o U' L ({ frames := 2, cells := 1, slots := 32, locals := 54 } : Room).cells ({ frames := 2, cells := 1, slots := 32, locals := 54 } : Room).slots) := by
  refine MetFree.of_bodySF (plainFor_of_name own_pn_Nesting) hisR ?_
  intro p e s m args below meth c s₁ Bd hml0 hP hK
  obtain ⟨rfl, hZ, hh⟩ := hP
  have hx := Bd.exec
  have hby := Bd.bytes
  have hml : c.maxLocals = 3 := hml0
  have hown : s.vm.findClass "com/example/edge_keeper/edgekeeper/Nesting" = some m.cls := findClass_of_methodNamed Bd.named
  have hnm := (name_of_methodNamed Bd.named Bd.method).1
  have X0 : Stand p l e ({ frames := 2, cells := 1, slots := 32, locals := 54 } : Room) s m #[(.ref a1), (.int (Int32.ofNat k))] below meth c s₁ [] 0 0 := Stand.of_body Bd
  have e0 : s₁.heap = h0 := by rw [← hh, Bd.state]; rfl
  have N0 := Fr.nil n0
  have pre0 : ∀ t, Steps p.tables e below (s₁.setTop (mkF m 0 #[.val (.ref a1), .val (.int (Int32.ofNat k)), .unset] [])) t → Steps p.tables e below (s₁.setTop (entryFrame m #[(.ref a1), (.int (Int32.ofNat k))] 3)) t := fun t0_ k0_ => castTop (ef_4 m a1 (Int32.ofNat k)) k0_
  obtain ⟨S0, hS0⟩ : ∃ z, z = s₁.setTop (mkF m 0 #[.val (.ref a1), .val (.int (Int32.ofNat k)), .unset] []) := ⟨_, rfl⟩
  have c0 : Steps p.tables e below S0 (s₁.setTop (mkF m 0 #[.val (.ref a1), .val (.int (Int32.ofNat k)), .unset] [])) := by rw [hS0]; exact Steps.refl _
  have cp_a := HA
  obtain ⟨c_a, Ar_a, Sz_a, le_a, H_a⟩ := cp_a
  have S_a : c_a.slots.size = (Int32.ofNat n).toNatClampNeg := by rw [own_clamp (by omega)]; exact Sz_a
  have c1 : Steps p.tables e below S0 (s₁.setTop (mkF m 5 #[.val (.ref a1), .val (.int (Int32.ofNat k)), .val (.ref a1)] [(.int (Int32.ofNat n)), (.int (Int32.ofNat k))])) := c0.trans (by
    refine XS.aloadN X0.here hx rfl (hb hby d4_0) rfl rfl ?_
    show Steps p.tables e below (s₁.setTop (mkF m 1 #[.val (.ref a1), .val (.int (Int32.ofNat k)), .unset] [(.ref a1)])) _
    refine XS.astoreN X0.here hx rfl (hb hby d4_1) rfl rfl (l' := #[.val (.ref a1), .val (.int (Int32.ofNat k)), .val (.ref a1)]) rfl ?_
    show Steps p.tables e below (s₁.setTop (mkF m 2 #[.val (.ref a1), .val (.int (Int32.ofNat k)), .val (.ref a1)] [])) _
    refine XS.iloadN X0.here hx rfl (hb hby d4_2) rfl ?_
    show Steps p.tables e below (s₁.setTop (mkF m 3 #[.val (.ref a1), .val (.int (Int32.ofNat k)), .val (.ref a1)] [(.int (Int32.ofNat k))])) _
    refine XS.aloadN X0.here hx rfl (hb hby d4_3) rfl rfl ?_
    show Steps p.tables e below (s₁.setTop (mkF m 4 #[.val (.ref a1), .val (.int (Int32.ofNat k)), .val (.ref a1)] [(.ref a1), (.int (Int32.ofNat k))])) _
    refine X0.arraylength hx (by rw [e0]; exact Ar_a.1) (State.isArrayOf_alike hZ.alike Ar_a.2.1) (g := (mkF m 4 #[.val (.ref a1), .val (.int (Int32.ofNat k)), .val (.ref a1)] [(.ref a1), (.int (Int32.ofNat k))])) rfl rfl (hb hby d4_4) _ ?_
    rw [len_of S_a (own_nn (by omega))]
    show Steps p.tables e below (s₁.setTop (mkF m 5 #[.val (.ref a1), .val (.int (Int32.ofNat k)), .val (.ref a1)] [(.int (Int32.ofNat n)), (.int (Int32.ofNat k))])) _
    exact Steps.refl _)
  by_cases k1 : (Int32.ofNat k) < (Int32.ofNat n)
  ·
    have c2 : Steps p.tables e below S0 (s₁.setTop (mkF m 33 #[.val (.ref a1), .val (.int (Int32.ofNat k)), .val (.ref a1)] [(.ref a1)])) := c1.trans (by
      refine XS.icmpYes X0.here hx rfl (pc0 := 5) (pc' := 32) rfl (hb hby d4_5) rfl (XT.ii_lt_t k1) (by decide) (by decide) ?_
      show Steps p.tables e below (s₁.setTop (mkF m 32 #[.val (.ref a1), .val (.int (Int32.ofNat k)), .val (.ref a1)] [])) _
      refine XS.aloadN X0.here hx rfl (hb hby d4_32) rfl rfl ?_
      show Steps p.tables e below (s₁.setTop (mkF m 33 #[.val (.ref a1), .val (.int (Int32.ofNat k)), .val (.ref a1)] [(.ref a1)])) _
      exact Steps.refl _)
    obtain ⟨fs, hr, hrun, hended, hW, hsame⟩ := X0.leave (v := some (.ref a1)) (fun h => by rw [Bd.returns] at h; cases h)
    refine ⟨_, _, pre0 _ ?_, hrun, hended, _, _, rfl, ?_, ⟨_, rfl⟩, hW, hsame.mono (by decide) (by decide)⟩
    · rw [← hS0]
      refine c2.trans ?_
      jvm_step X0.here [X0.here.top, hx, (hb hby d4_33), X0.method', Bd.returns, Value.isRef, FieldType.isReference]
      first | (intro acts; rw [hr _ acts rfl rfl rfl]) | rw [hr _ _ rfl rfl rfl]
      exact Steps.refl _
    · show Qrm4 Z a1 k n f h0 n0 _ s₁.heap _
      rw [e0]
      exact ⟨a1, n, rfl, N0, Keep.refl _ _, HA.congr (fun i hi => by rw [if_pos hi]), (own_lt (by omega) (by omega)).mp k1, Nat.le_refl _, Or.inl rfl⟩
  ·
    have k1' : n ≤ k := Nat.le_of_not_lt (fun q => k1 ((own_lt (by omega) (by omega)).mpr q))
    have cp_b := HA
    obtain ⟨c_b, Ar_b, Sz_b, le_b, H_b⟩ := cp_b
    have S_b : c_b.slots.size = (Int32.ofNat n).toNatClampNeg := by rw [own_clamp (by omega)]; exact Sz_b
    have c3 : Steps p.tables e below S0 (s₁.setTop (mkF m 16 #[.val (.ref a1), .val (.int (Int32.ofNat k)), .val (.ref a1)] [(.int ((Int32.ofNat n) * (2 : Int32))), (.int ((Int32.ofNat k) + (1 : Int32))), (.ref a1)])) := c1.trans (by
      refine XS.icmpNo X0.here hx rfl (hb hby d4_5) rfl (XT.ii_lt_f k1) ?_
      show Steps p.tables e below (s₁.setTop (mkF m 8 #[.val (.ref a1), .val (.int (Int32.ofNat k)), .val (.ref a1)] [])) _
      refine XS.aloadN X0.here hx rfl (hb hby d4_8) rfl rfl ?_
      show Steps p.tables e below (s₁.setTop (mkF m 9 #[.val (.ref a1), .val (.int (Int32.ofNat k)), .val (.ref a1)] [(.ref a1)])) _
      refine XS.iloadN X0.here hx rfl (hb hby d4_9) rfl ?_
      show Steps p.tables e below (s₁.setTop (mkF m 10 #[.val (.ref a1), .val (.int (Int32.ofNat k)), .val (.ref a1)] [(.int (Int32.ofNat k)), (.ref a1)])) _
      refine XT.iconstV X0.here hx rfl (1 : Int32) (hb hby d4_10) (by decide) ?_
      show Steps p.tables e below (s₁.setTop (mkF m 11 #[.val (.ref a1), .val (.int (Int32.ofNat k)), .val (.ref a1)] [(.int (1 : Int32)), (.int (Int32.ofNat k)), (.ref a1)])) _
      refine XS.iadd X0.here hx rfl (hb hby d4_11) rfl ?_
      show Steps p.tables e below (s₁.setTop (mkF m 12 #[.val (.ref a1), .val (.int (Int32.ofNat k)), .val (.ref a1)] [(.int ((Int32.ofNat k) + (1 : Int32))), (.ref a1)])) _
      refine XS.aloadN X0.here hx rfl (hb hby d4_12) rfl rfl ?_
      show Steps p.tables e below (s₁.setTop (mkF m 13 #[.val (.ref a1), .val (.int (Int32.ofNat k)), .val (.ref a1)] [(.ref a1), (.int ((Int32.ofNat k) + (1 : Int32))), (.ref a1)])) _
      refine X0.arraylength hx (by rw [e0]; exact Ar_b.1) (State.isArrayOf_alike hZ.alike Ar_b.2.1) (g := (mkF m 13 #[.val (.ref a1), .val (.int (Int32.ofNat k)), .val (.ref a1)] [(.ref a1), (.int ((Int32.ofNat k) + (1 : Int32))), (.ref a1)])) rfl rfl (hb hby d4_13) _ ?_
      rw [len_of S_b (own_nn (by omega))]
      show Steps p.tables e below (s₁.setTop (mkF m 14 #[.val (.ref a1), .val (.int (Int32.ofNat k)), .val (.ref a1)] [(.int (Int32.ofNat n)), (.int ((Int32.ofNat k) + (1 : Int32))), (.ref a1)])) _
      refine XT.iconstV X0.here hx rfl (2 : Int32) (hb hby d4_14) (by decide) ?_
      show Steps p.tables e below (s₁.setTop (mkF m 15 #[.val (.ref a1), .val (.int (Int32.ofNat k)), .val (.ref a1)] [(.int (2 : Int32)), (.int (Int32.ofNat n)), (.int ((Int32.ofNat k) + (1 : Int32))), (.ref a1)])) _
      refine XS.imul X0.here hx rfl (hb hby d4_15) rfl ?_
      show Steps p.tables e below (s₁.setTop (mkF m 16 #[.val (.ref a1), .val (.int (Int32.ofNat k)), .val (.ref a1)] [(.int ((Int32.ofNat n) * (2 : Int32))), (.int ((Int32.ofNat k) + (1 : Int32))), (.ref a1)])) _
      exact Steps.refl _)
    have hr4 : ((Int32.ofNat k) + (1 : Int32)) = (Int32.ofNat (k + 1)) := own_succ (by omega)
    rw [hr4] at c3
    have hr5 : ((Int32.ofNat n) * (2 : Int32)) = (Int32.ofNat (2 * n)) := own_dbl (by omega)
    rw [hr5] at c3
    obtain ⟨_, _, ⟨T6, L6, k6, n6⟩, -, X6, hQ6, st6⟩ := Jvm.LawKit.callS X0 hx (y := (⟨"java/lang/Math", "max", "(II)I"⟩ : MethodName)) hown (mvT hZ (hw _ (List.mem_of_getElem? (i := 22) rfl))) (mvT hZ (hw _ (List.mem_of_getElem? (i := 23) rfl))) (mvT hZ (hw _ (List.mem_of_getElem? (i := 24) rfl))) (mvT hZ (hw _ (List.mem_of_getElem? (i := 25) rfl))) (by decide) (Jvm.Free.JP.Math_max_II.pays (W := 1) (Int32.ofNat (k + 1)) (Int32.ofNat (2 * n)) (own_max_tab (mvT hZ (hw _ (List.mem_of_getElem? (i := 25) rfl))) (mvT hZ (hw _ (List.mem_of_getElem? (i := 24) rfl)))) (by decide) (by decide)) (g := (mkF m 16 #[.val (.ref a1), .val (.int (Int32.ofNat k)), .val (.ref a1)] [(.int (Int32.ofNat (2 * n))), (.int (Int32.ofNat (k + 1))), (.ref a1)])) rfl (by rw [hml]; rfl) (argsL := [(.int (Int32.ofNat (k + 1))), (.int (Int32.ofNat (2 * n)))]) (rest := [(.ref a1)]) (lenOf own_pd__II_I rfl) rfl (by show 2 * 0 + _ ≤ _; exact Nat.le_of_eq rfl) (hb hby d4_16) (fun _ _ => ⟨Nat.le_of_ble_eq_true rfl, Nat.le_of_ble_eq_true rfl, rfl, trivial⟩)
    dsimp only [Pt.U, Pt.locs, Pt.cells, Pt.slots] at X6 hQ6 st6
    obtain ⟨⟨rfl, eh6⟩, l6, y6, z6⟩ := hQ6
    subst l6 y6 z6
    have eq6 : T6.heap = h0 := eh6.trans e0
    have N6 := Fr.app N0 (Fr.nil n0)
    have c7 : Steps p.tables e below S0 (T6.setTop (mkF m 19 #[.val (.ref a1), .val (.int (Int32.ofNat k)), .val (.ref a1)] [(.int (Jvm.Free.JP.Math_max_II.val (Int32.ofNat (k + 1)) (Int32.ofNat (2 * n)))), (.ref a1)])) := c3.trans (st6 _ (Steps.refl _))
    obtain ⟨mm, hmm⟩ : ∃ z, z = max (k + 1) (2 * n) := ⟨_, rfl⟩
    have hr8 : (Jvm.Free.JP.Math_max_II.val (Int32.ofNat (k + 1)) (Int32.ofNat (2 * n))) = (Int32.ofNat mm) := by rw [own_max (by omega) (by omega), ← hmm]
    rw [hr8] at c7
    have hm1 : k < mm := by omega
    have hm2 : mm ≤ 32 := by omega
    have hm3 : n < mm := by omega
    obtain ⟨_, _, ⟨T9, L9, k9, n9⟩, -, X9, hQ9, st9⟩ := Jvm.LawKit.callS X6 hx (y := (⟨"java/util/Arrays", "copyOf", "([II)[I"⟩ : MethodName)) hown (mvT hZ (hw _ (List.mem_of_getElem? (i := 26) rfl))) (mvT hZ (hw _ (List.mem_of_getElem? (i := 27) rfl))) (mvT hZ (hw _ (List.mem_of_getElem? (i := 28) rfl))) (mvT hZ (hw _ (List.mem_of_getElem? (i := 29) rfl))) (by decide) (backOf (W := 0) (rm6 l Z a0 hw [] a1 mm n f h0 n0 Z0 HA hm3 hm2) hZ (hw _ (List.mem_of_getElem? (i := 29) rfl)) (hw _ (List.mem_of_getElem? (i := 28) rfl)) (by decide) (by decide)) (g := (mkF m 19 #[.val (.ref a1), .val (.int (Int32.ofNat k)), .val (.ref a1)] [(.int (Int32.ofNat mm)), (.ref a1)])) rfl (by rw [hml]; rfl) (argsL := [(.ref a1), (.int (Int32.ofNat mm))]) (rest := []) (lenOf own_pd___II__I rfl) rfl (by show 2 * 0 + _ ≤ _; exact Nat.le_of_eq rfl) (hb hby d4_19) (fun _ _ => ⟨rfl, eq6, (by decide : 0 + 1 ≤ _), (by decide : 0 + 32 ≤ _)⟩)
    dsimp only [Pt.U, Pt.locs, Pt.cells, Pt.slots] at X9 hQ9 st9
    obtain ⟨Lc9, hR9, l9, y9, z9⟩ := hQ9
    subst l9 y9 z9
    obtain ⟨r, rfl, Nq9, Kc, HR, szr⟩ := hR9
    have N9 := Fr.app N6 Nq9
    have c10 : Steps p.tables e below S0 (T9.setTop (mkF m 22 #[.val (.ref a1), .val (.int (Int32.ofNat k)), .val (.ref a1)] [(.ref r)])) := c7.trans (st9 _ (Steps.refl _))
    have HA3 := HA.keep Kc nin0
    have cp_c := HA3
    obtain ⟨c_c, Ar_c, Sz_c, le_c, H_c⟩ := cp_c
    have S_c : c_c.slots.size = (Int32.ofNat n).toNatClampNeg := by rw [own_clamp (by omega)]; exact Sz_c
    have cp_d := HR
    obtain ⟨c_d, Ar_d, Sz_d, le_d, H_d⟩ := cp_d
    have S_d : c_d.slots.size = (Int32.ofNat mm).toNatClampNeg := by rw [own_clamp (by omega)]; exact Sz_d
    have c11 : Steps p.tables e below S0 (T9.setTop (mkF m 29 #[.val (.ref a1), .val (.int (Int32.ofNat k)), .val (.ref r)] [(.int (-1 : Int32)), (.int (Int32.ofNat mm)), (.int (Int32.ofNat n)), (.ref r)])) := c10.trans (by
      refine XS.astoreN X9.here hx rfl (hb hby d4_22) rfl rfl (l' := #[.val (.ref a1), .val (.int (Int32.ofNat k)), .val (.ref r)]) rfl ?_
      show Steps p.tables e below (T9.setTop (mkF m 23 #[.val (.ref a1), .val (.int (Int32.ofNat k)), .val (.ref r)] [])) _
      refine XS.aloadN X9.here hx rfl (hb hby d4_23) rfl rfl ?_
      show Steps p.tables e below (T9.setTop (mkF m 24 #[.val (.ref a1), .val (.int (Int32.ofNat k)), .val (.ref r)] [(.ref r)])) _
      refine XS.aloadN X9.here hx rfl (hb hby d4_24) rfl rfl ?_
      show Steps p.tables e below (T9.setTop (mkF m 25 #[.val (.ref a1), .val (.int (Int32.ofNat k)), .val (.ref r)] [(.ref a1), (.ref r)])) _
      refine X9.arraylength hx Ar_c.1 (State.isArrayOf_alike hZ.alike Ar_c.2.1) (g := (mkF m 25 #[.val (.ref a1), .val (.int (Int32.ofNat k)), .val (.ref r)] [(.ref a1), (.ref r)])) rfl rfl (hb hby d4_25) _ ?_
      rw [len_of S_c (own_nn (by omega))]
      show Steps p.tables e below (T9.setTop (mkF m 26 #[.val (.ref a1), .val (.int (Int32.ofNat k)), .val (.ref r)] [(.int (Int32.ofNat n)), (.ref r)])) _
      refine XS.aloadN X9.here hx rfl (hb hby d4_26) rfl rfl ?_
      show Steps p.tables e below (T9.setTop (mkF m 27 #[.val (.ref a1), .val (.int (Int32.ofNat k)), .val (.ref r)] [(.ref r), (.int (Int32.ofNat n)), (.ref r)])) _
      refine X9.arraylength hx Ar_d.1 (State.isArrayOf_alike hZ.alike Ar_d.2.1) (g := (mkF m 27 #[.val (.ref a1), .val (.int (Int32.ofNat k)), .val (.ref r)] [(.ref r), (.int (Int32.ofNat n)), (.ref r)])) rfl rfl (hb hby d4_27) _ ?_
      rw [len_of S_d (own_nn (by omega))]
      show Steps p.tables e below (T9.setTop (mkF m 28 #[.val (.ref a1), .val (.int (Int32.ofNat k)), .val (.ref r)] [(.int (Int32.ofNat mm)), (.int (Int32.ofNat n)), (.ref r)])) _
      refine XT.iconstV X9.here hx rfl (-1 : Int32) (hb hby d4_28) (by decide) ?_
      show Steps p.tables e below (T9.setTop (mkF m 29 #[.val (.ref a1), .val (.int (Int32.ofNat k)), .val (.ref r)] [(.int (-1 : Int32)), (.int (Int32.ofNat mm)), (.int (Int32.ofNat n)), (.ref r)])) _
      exact Steps.refl _)
    obtain ⟨_, _, ⟨T12, L12, k12, n12⟩, -, X12, hQ12, st12⟩ := Jvm.LawKit.callS X9 hx (y := (⟨"java/util/Arrays", "fill", "([IIII)V"⟩ : MethodName)) hown (mvT hZ (hw _ (List.mem_of_getElem? (i := 37) rfl))) (mvT hZ (hw _ (List.mem_of_getElem? (i := 38) rfl))) (mvT hZ (hw _ (List.mem_of_getElem? (i := 28) rfl))) (mvT hZ (hw _ (List.mem_of_getElem? (i := 39) rfl))) (by decide) (Jvm.Free.JA.FillRI.pays (W := 0) r c_d n mm (-1 : Int32) (own_fill_tab (mvT hZ (hw _ (List.mem_of_getElem? (i := 39) rfl))) (mvT hZ (hw _ (List.mem_of_getElem? (i := 28) rfl))) (mvT hZ (hw _ (List.mem_of_getElem? (i := 42) rfl))) (mvT hZ (hw _ (List.mem_of_getElem? (i := 40) rfl))) (mvT hZ (hw _ (List.mem_of_getElem? (i := 41) rfl)))) (by decide) (by decide)) (g := (mkF m 29 #[.val (.ref a1), .val (.int (Int32.ofNat k)), .val (.ref r)] [(.int (-1 : Int32)), (.int (Int32.ofNat mm)), (.int (Int32.ofNat n)), (.ref r)])) rfl (by rw [hml]; rfl) (argsL := [(.ref r), (.int (Int32.ofNat n)), (.int (Int32.ofNat mm)), (.int (-1 : Int32))]) (rest := []) (lenOf own_pd___IIII_V rfl) rfl (by show 2 * 0 + _ ≤ _; exact Nat.le_of_eq rfl) (hb hby d4_29) (fun vm₁ hv => ⟨Nat.le_of_ble_eq_true rfl, Nat.le_of_ble_eq_true rfl, rfl, ⟨Ar_d.1, State.isArrayOf_alike (wtrans (U := T9.setVm vm₁) hZ hv).alike Ar_d.2.1, Ar_d.2.2, by omega⟩, ⟨by omega, by omega⟩, rfl⟩)
    dsimp only [Pt.U, Pt.locs, Pt.cells, Pt.slots] at X12 hQ12 st12
    obtain ⟨⟨rfl, c2, ⟨P1, P2, P3⟩, F1, F2, F3, F4⟩, l12, y12, z12⟩ := hQ12
    subst l12 y12 z12
    have g_r : n0 ≤ r := Nat.le_trans Z0 szr
    have N12 := Fr.app N9 (own_fr_copy g_r n (mm - n))
    have P2' : ∀ y : Addr, y ≠ r → T12.heap[y]? = T9.heap[y]? := P2
    have P3' : T12.heap.size = T9.heap.size := P3
    have HF : own_A Z T12.heap r mm (fun j => if j < n then f j else -1) := by
      refine ⟨c2, ⟨P1, ?_, by rw [F2]; exact Ar_d.2.2⟩, F3.trans Sz_d, hm2, fun i hi => ?_⟩
      · obtain ⟨o, kk, h1, h2⟩ := Ar_d.2.1; exact ⟨by rw [F2]; exact o, kk, by rw [F1]; exact h1, h2⟩
      · rw [F4 i]
        by_cases q : i < n
        · rw [if_neg (by omega), H_d i hi]; show some (Value.int (if i < n then f i else 0)) = some (Value.int (if i < n then f i else -1)); rw [if_pos q, if_pos q]
        · rw [if_pos ⟨by omega, hi⟩]; show some (Value.int (-1)) = some (Value.int (if i < n then f i else -1)); rw [if_neg q]
    have KF : Keep h0 T12.heap [] := by
      refine ⟨by rw [P3']; exact Kc.1, fun x c hx _ => ?_, fun x c hx => ⟨c, ?_, rfl, rfl, rfl⟩⟩
      · rw [P2' x (fun q => absurd (Array.getElem?_eq_some_iff.mp hx).1 (Nat.not_lt.mpr (by rw [q]; exact szr)))]; exact Kc.2.1 x c hx nin0
      · rw [P2' x (fun q => absurd (Array.getElem?_eq_some_iff.mp hx).1 (Nat.not_lt.mpr (by rw [q]; exact szr)))]; exact Kc.2.1 x c hx nin0
    have c13 : Steps p.tables e below S0 (T12.setTop (mkF m 32 #[.val (.ref a1), .val (.int (Int32.ofNat k)), .val (.ref r)] [])) := c11.trans (st12 _ (Steps.refl _))
    have c14 : Steps p.tables e below S0 (T12.setTop (mkF m 33 #[.val (.ref a1), .val (.int (Int32.ofNat k)), .val (.ref r)] [(.ref r)])) := c13.trans (by
      refine XS.aloadN X12.here hx rfl (hb hby d4_32) rfl rfl ?_
      show Steps p.tables e below (T12.setTop (mkF m 33 #[.val (.ref a1), .val (.int (Int32.ofNat k)), .val (.ref r)] [(.ref r)])) _
      exact Steps.refl _)
    obtain ⟨fs, hr, hrun, hended, hW, hsame⟩ := X12.leave (v := some (.ref r)) (fun h => by rw [Bd.returns] at h; cases h)
    refine ⟨_, _, pre0 _ ?_, hrun, hended, _, _, rfl, ?_, ⟨_, rfl⟩, hW, hsame.mono (by decide) (by decide)⟩
    · rw [← hS0]
      refine c14.trans ?_
      jvm_step X12.here [X12.here.top, hx, (hb hby d4_33), X12.method', Bd.returns, Value.isRef, FieldType.isReference]
      first | (intro acts; rw [hr _ acts rfl rfl rfl]) | rw [hr _ _ rfl rfl rfl]
      exact Steps.refl _
    · show Qrm4 Z a1 k n f h0 n0 _ T12.heap _
      exact ⟨r, mm, rfl, N12, KF, HF, hm1, by omega, Or.inr szr⟩
theorem d1_0 : decode prog_11_method_1_code 0 = .ok (.aload_n 0, 1) := by decide +kernel
theorem d1_1 : decode prog_11_method_1_code 1 = .ok (.invokespecial 1, 3) := by decide +kernel
theorem d1_4 : decode prog_11_method_1_code 4 = .ok (.aload_n 0, 1) := by decide +kernel
theorem d1_5 : decode prog_11_method_1_code 5 = .ok (.iconst 0, 1) := by decide +kernel
theorem d1_6 : decode prog_11_method_1_code 6 = .ok (.newarray .int, 2) := by decide +kernel
theorem d1_8 : decode prog_11_method_1_code 8 = .ok (.putfield 7, 3) := by decide +kernel
theorem d1_11 : decode prog_11_method_1_code 11 = .ok (.aload_n 0, 1) := by decide +kernel
theorem d1_12 : decode prog_11_method_1_code 12 = .ok (.iconst 0, 1) := by decide +kernel
theorem d1_13 : decode prog_11_method_1_code 13 = .ok (.newarray .int, 2) := by decide +kernel
theorem d1_15 : decode prog_11_method_1_code 15 = .ok (.putfield 13, 3) := by decide +kernel
theorem d1_18 : decode prog_11_method_1_code 18 = .ok (.return_, 1) := by decide +kernel
theorem ef_1 (m : MethodId) (x0 : Addr) : entryFrame m #[(.ref x0)] 1 = mkF m 0 #[.val (.ref x0)] [] := by first | (simp [entryFrame, mkF, argsToLocals, Value.category]; done) | rfl
def Qrm1 (Z : State) (a1 : Addr) (h0 : Heap) (n0 : Nat) (v : Option Value) (h : Heap) (L : List Loc) : Prop := v = none ∧ Fr n0 L ∧ ∃ D A : Addr, own_N Z h n0 a1 D 0 (fun _ => -1) A 0 (fun _ => -1)
set_option maxRecDepth 65536 in
set_option maxHeartbeats 40000000 in
theorem rm1 (l : Launch) (Z : State) (a0 : Array Value) (hw : ∀ d ∈ tables_1, d.before a0 Z = true) (ws : List Jvm.Cond) (a1 : Addr) (h0 : Heap) (n0 : Nat) (Z0 : n0 ≤ h0.size) (E1 : Exa Z h0 a1 "com/example/edge_keeper/edgekeeper/Nesting") (Fd : Fld Z h0 a1 "com/example/edge_keeper/edgekeeper/Nesting" "declared" "[I" .null) (Fl : Fld Z h0 a1 "com/example/edge_keeper/edgekeeper/Nesting" "learned" "[I" .null) (g1 : n0 ≤ a1) :
    MetFree l (⟨"com/example/edge_keeper/edgekeeper/Nesting", "<init>", "()V"⟩ : MethodName) (head1 (Jvm.Cond.code (⟨"com/example/edge_keeper/edgekeeper/Nesting", "<init>", "()V"⟩ : MethodName) prog_11_method_1_code 1 none :: ws) ({ frames := 1, cells := 2, slots := 0, locals := 13 } : Room)) (fun a U => a = #[(.ref a1)] ∧ Z.Warmed39 U.vm ∧ U.heap = h0) (fun _ _ _ _ _ => True) (fun _ U o U' => ∃ v L, o = .returned v ∧ Qrm1 Z a1 h0 n0 v U'.heap L ∧ FrameEnd U o U' L ({ frames := 1, cells := 2, slots := 0, locals := 13 } : Room).cells ({ frames := 1, cells := 2, slots := 0, locals := 13 } : Room).slots) := by
  refine MetFree.of_bodySF (plainFor_of_name own_pn_Nesting) hisR ?_
  intro p e s m args below meth c s₁ Bd hml0 hP hK
  obtain ⟨rfl, hZ, hh⟩ := hP
  have hx := Bd.exec
  have hby := Bd.bytes
  have hml : c.maxLocals = 1 := hml0
  have hown : s.vm.findClass "com/example/edge_keeper/edgekeeper/Nesting" = some m.cls := findClass_of_methodNamed Bd.named
  have hnm := (name_of_methodNamed Bd.named Bd.method).1
  have X0 : Stand p l e ({ frames := 1, cells := 2, slots := 0, locals := 13 } : Room) s m #[(.ref a1)] below meth c s₁ [] 0 0 := Stand.of_body Bd
  have e0 : s₁.heap = h0 := by rw [← hh, Bd.state]; rfl
  have N0 := Fr.nil n0
  have pre0 : ∀ t, Steps p.tables e below (s₁.setTop (mkF m 0 #[.val (.ref a1)] [])) t → Steps p.tables e below (s₁.setTop (entryFrame m #[(.ref a1)] 1)) t := fun t0_ k0_ => castTop (ef_1 m a1) k0_
  obtain ⟨S0, hS0⟩ : ∃ z, z = s₁.setTop (mkF m 0 #[.val (.ref a1)] []) := ⟨_, rfl⟩
  have c0 : Steps p.tables e below S0 (s₁.setTop (mkF m 0 #[.val (.ref a1)] [])) := by rw [hS0]; exact Steps.refl _
  have c1 : Steps p.tables e below S0 (s₁.setTop (mkF m 1 #[.val (.ref a1)] [(.ref a1)])) := c0.trans (by
    refine XS.aloadN X0.here hx rfl (hb hby d1_0) rfl rfl ?_
    show Steps p.tables e below (s₁.setTop (mkF m 1 #[.val (.ref a1)] [(.ref a1)])) _
    exact Steps.refl _)
  obtain ⟨T2, X2, e2, st2⟩ := initO X0 hx hZ hown (hw _ (List.mem_of_getElem? (i := 6) rfl)) (hw _ (List.mem_of_getElem? (i := 7) rfl)) (hw _ (List.mem_of_getElem? (i := 8) rfl)) e0 (g := (mkF m 1 #[.val (.ref a1)] [(.ref a1)])) rfl (by rw [hml]; rfl) rfl (hb hby d1_1) (by decide) (W := 0) (by show 2 * 0 + _ ≤ _; exact Nat.le_of_eq rfl) (by decide)
  have c3 : Steps p.tables e below S0 (T2.setTop (mkF m 4 #[.val (.ref a1)] [])) := c1.trans (st2 _ (Steps.refl _))
  have c4 : Steps p.tables e below S0 (T2.setTop (mkF m 6 #[.val (.ref a1)] [(.int (0 : Int32)), (.ref a1)])) := c3.trans (by
    refine XS.aloadN X2.here hx rfl (hb hby d1_4) rfl rfl ?_
    show Steps p.tables e below (T2.setTop (mkF m 5 #[.val (.ref a1)] [(.ref a1)])) _
    refine XT.iconstV X2.here hx rfl (0 : Int32) (hb hby d1_5) (by decide) ?_
    show Steps p.tables e below (T2.setTop (mkF m 6 #[.val (.ref a1)] [(.int (0 : Int32)), (.ref a1)])) _
    exact Steps.refl _)
  obtain ⟨T5, h5, k5, X5, e5, E5, A5, st5⟩ := newP X2 hx hZ (hw _ (List.mem_of_getElem? (i := 9) rfl)) e2 (g := (mkF m 6 #[.val (.ref a1)] [(.int (0 : Int32)), (.ref a1)])) rfl (hb hby d1_6) rfl (by decide) (cap := 0) (by decide) (by decide) (by decide) (by decide)
  obtain ⟨D, g5⟩ : ∃ z, z = h0.size := ⟨_, rfl⟩
  rw [← g5] at A5 st5
  obtain ⟨cl_D, D_D⟩ : ∃ z, z = newA k5 .int (0 : Int32) := ⟨_, rfl⟩
  have Ar_D : Arr Z h5 D cl_D .int := by rw [D_D]; exact A5
  have S_D : cl_D.slots.size = (0 : Int32).toNatClampNeg := by rw [D_D]; exact sz_new _ _ _
  have g_D : n0 ≤ D := Nat.le_trans Z0 (Nat.le_of_eq g5.symm)
  have sz5 : n0 ≤ h5.size := Nat.le_trans Z0 E5.1
  have c6 : Steps p.tables e below S0 (T5.setTop (mkF m 8 #[.val (.ref a1)] [(.ref D), (.ref a1)])) := c4.trans (st5 _ (Steps.refl _))
  have E2 := E1.ext E5
  have Fd2 := Fd.ext E5
  have Fl2 := Fl.ext E5
  have HD : own_A Z h5 D 0 (fun _ => -1) := ⟨_, Ar_D, S_D.trans (by decide), by omega, fun i hi => absurd hi (by omega)⟩
  have ne1 : a1 ≠ D := ne_arr E2 (hw _ (List.mem_of_getElem? (i := 1) rfl)) Ar_D
  obtain ⟨T7, h7, X7, e7, W7, st7⟩ := putF X5 hx hZ hown (host := "") (Or.inl (hw _ (List.mem_of_getElem? (i := 10) rfl))) Via.refl e5 Fd2 E2 (Or.inl (hw _ (List.mem_of_getElem? (i := 11) rfl))) (hw _ (List.mem_of_getElem? (i := 1) rfl)) (ty := (.array .int)) (by decide) rfl rfl (g := (mkF m 8 #[.val (.ref a1)] [(.ref D), (.ref a1)])) rfl rfl (hb hby d1_8)
  have c8 : Steps p.tables e below S0 (T7.setTop (mkF m 11 #[.val (.ref a1)] [])) := c6.trans (st7 _ (Steps.refl _))
  have Fw7 := Fd2.same W7
  have N7 := Fr.snoc X7 N0 g1
  have sz7 : n0 ≤ h7.size := Nat.le_trans sz5 (Keep.of_wr W7).1
  have E3 := E2.wr W7
  have Fl3 := Fl2.other W7 (Or.inr (slot_ne (Or.inl (hw _ (List.mem_of_getElem? (i := 13) rfl))) (Or.inl (hw _ (List.mem_of_getElem? (i := 11) rfl))) (by decide) (t := .array .int) (t' := .array .int) (by decide) (by decide)))
  have HD3 := HD.other W7 (Ne.symm ne1)
  have c9 : Steps p.tables e below S0 (T7.setTop (mkF m 13 #[.val (.ref a1)] [(.int (0 : Int32)), (.ref a1)])) := c8.trans (by
    refine XS.aloadN X7.here hx rfl (hb hby d1_11) rfl rfl ?_
    show Steps p.tables e below (T7.setTop (mkF m 12 #[.val (.ref a1)] [(.ref a1)])) _
    refine XT.iconstV X7.here hx rfl (0 : Int32) (hb hby d1_12) (by decide) ?_
    show Steps p.tables e below (T7.setTop (mkF m 13 #[.val (.ref a1)] [(.int (0 : Int32)), (.ref a1)])) _
    exact Steps.refl _)
  obtain ⟨T10, h10, k10, X10, e10, E10, A10, st10⟩ := newP X7 hx hZ (hw _ (List.mem_of_getElem? (i := 9) rfl)) e7 (g := (mkF m 13 #[.val (.ref a1)] [(.int (0 : Int32)), (.ref a1)])) rfl (hb hby d1_13) rfl (by decide) (cap := 0) (by decide) (by decide) (by decide) (by decide)
  obtain ⟨A, g10⟩ : ∃ z, z = h7.size := ⟨_, rfl⟩
  rw [← g10] at A10 st10
  obtain ⟨cl_A, D_A⟩ : ∃ z, z = newA k10 .int (0 : Int32) := ⟨_, rfl⟩
  have Ar_A : Arr Z h10 A cl_A .int := by rw [D_A]; exact A10
  have S_A : cl_A.slots.size = (0 : Int32).toNatClampNeg := by rw [D_A]; exact sz_new _ _ _
  have g_A : n0 ≤ A := Nat.le_trans sz7 (Nat.le_of_eq g10.symm)
  have sz10 : n0 ≤ h10.size := Nat.le_trans sz7 E10.1
  have c11 : Steps p.tables e below S0 (T10.setTop (mkF m 15 #[.val (.ref a1)] [(.ref A), (.ref a1)])) := c9.trans (st10 _ (Steps.refl _))
  have E4 := E3.ext E10
  have Fd4 := Fw7.ext E10
  have Fl4 := Fl3.ext E10
  have HD4 := HD3.ext E10
  have neDA : D ≠ A := Nat.ne_of_lt (by rw [g10]; exact HD3.lt)
  have HL : own_A Z h10 A 0 (fun _ => -1) := ⟨_, Ar_A, S_A.trans (by decide), by omega, fun i hi => absurd hi (by omega)⟩
  have ne2 : a1 ≠ A := ne_arr E4 (hw _ (List.mem_of_getElem? (i := 1) rfl)) Ar_A
  obtain ⟨T12, h12, X12, e12, W12, st12⟩ := putF X10 hx hZ hown (host := "") (Or.inl (hw _ (List.mem_of_getElem? (i := 12) rfl))) Via.refl e10 Fl4 E4 (Or.inl (hw _ (List.mem_of_getElem? (i := 13) rfl))) (hw _ (List.mem_of_getElem? (i := 1) rfl)) (ty := (.array .int)) (by decide) rfl rfl (g := (mkF m 15 #[.val (.ref a1)] [(.ref A), (.ref a1)])) rfl rfl (hb hby d1_15)
  have c13 : Steps p.tables e below S0 (T12.setTop (mkF m 18 #[.val (.ref a1)] [])) := c11.trans (st12 _ (Steps.refl _))
  have Fw12 := Fl4.same W12
  have N12 := Fr.snoc X12 N7 g1
  have sz12 : n0 ≤ h12.size := Nat.le_trans sz10 (Keep.of_wr W12).1
  have Fd5 := Fd4.other W12 (Or.inr (slot_ne (Or.inl (hw _ (List.mem_of_getElem? (i := 11) rfl))) (Or.inl (hw _ (List.mem_of_getElem? (i := 13) rfl))) (by decide) (t := .array .int) (t' := .array .int) (by decide) (by decide)))
  obtain ⟨fs, hr, hrun, hended, hW, hsame⟩ := X12.leave (v := none) (fun _ => rfl)
  refine ⟨_, _, pre0 _ ?_, hrun, hended, _, _, rfl, ?_, ⟨_, rfl⟩, hW, hsame.mono (by decide) (by decide)⟩
  · rw [← hS0]
    exact c13.trans (X12.returnOut hx Bd.returns (hb hby d1_18) hr)
  · show Qrm1 Z a1 h0 n0 _ T12.heap _
    rw [e12]
    exact ⟨rfl, N12, D, A, E4.wr W12, Fd5, Fw12, HD4.other W12 (Ne.symm ne1), HL.other W12 (Ne.symm ne2), neDA, ne1, ne2, g1, g_D, g_A, sz12⟩
theorem d10_0 : decode prog_11_method_3_code 0 = .ok (.aload_n 0, 1) := by decide +kernel
theorem d10_1 : decode prog_11_method_3_code 1 = .ok (.aload_n 0, 1) := by decide +kernel
theorem d10_2 : decode prog_11_method_3_code 2 = .ok (.getfield 13, 3) := by decide +kernel
theorem d10_5 : decode prog_11_method_3_code 5 = .ok (.iload_n 1, 1) := by decide +kernel
theorem d10_6 : decode prog_11_method_3_code 6 = .ok (.invokestatic 16, 3) := by decide +kernel
theorem d10_9 : decode prog_11_method_3_code 9 = .ok (.putfield 13, 3) := by decide +kernel
theorem d10_12 : decode prog_11_method_3_code 12 = .ok (.aload_n 0, 1) := by decide +kernel
theorem d10_13 : decode prog_11_method_3_code 13 = .ok (.getfield 13, 3) := by decide +kernel
theorem d10_16 : decode prog_11_method_3_code 16 = .ok (.iload_n 1, 1) := by decide +kernel
theorem d10_17 : decode prog_11_method_3_code 17 = .ok (.iload_n 2, 1) := by decide +kernel
theorem d10_18 : decode prog_11_method_3_code 18 = .ok (.iastore, 1) := by decide +kernel
theorem d10_19 : decode prog_11_method_3_code 19 = .ok (.return_, 1) := by decide +kernel
theorem ef_10 (m : MethodId) (x0 : Addr) (x1 : Int32) (x2 : Int32) : entryFrame m #[(.ref x0), (.int x1), (.int x2)] 3 = mkF m 0 #[.val (.ref x0), .val (.int x1), .val (.int x2)] [] := by first | (simp [entryFrame, mkF, argsToLocals, Value.category]; done) | rfl
def Qrm10 (Z : State) (a1 : Addr) (k : Nat) (y : Int32) (D : Addr) (nd : Nat) (fd : Nat → Int32) (A : Addr) (nl : Nat) (fl : Nat → Int32) (h0 : Heap) (n0 : Nat) (v : Option Value) (h : Heap) (L : List Loc) : Prop := v = none ∧ Fr n0 L ∧ ∃ (r : Addr) (n' : Nat), own_N Z h n0 a1 D nd fd r n' (fun j => if j = k then y else if j < nl then fl j else -1) ∧ k < n' ∧ nl ≤ n'
set_option maxRecDepth 65536 in
set_option maxHeartbeats 40000000 in
theorem rm10 (l : Launch) (Z : State) (a0 : Array Value) (hw : ∀ d ∈ tables_1, d.before a0 Z = true) (ws : List Jvm.Cond) (a1 : Addr) (k : Nat) (y : Int32) (D : Addr) (nd : Nat) (fd : Nat → Int32) (A : Addr) (nl : Nat) (fl : Nat → Int32) (h0 : Heap) (n0 : Nat) (Z0 : n0 ≤ h0.size) (HN : own_N Z h0 n0 a1 D nd fd A nl fl) (hk : k ≤ 15) :
    MetFree l (⟨"com/example/edge_keeper/edgekeeper/Nesting", "learn", "(II)V"⟩ : MethodName) (head1 (Jvm.Cond.code (⟨"com/example/edge_keeper/edgekeeper/Nesting", "learn", "(II)V"⟩ : MethodName) prog_11_method_3_code 3 none :: ws) ({ frames := 3, cells := 1, slots := 32, locals := 69 } : Room)) (fun a U => a = #[(.ref a1), (.int (Int32.ofNat k)), (.int y)] ∧ Z.Warmed39 U.vm ∧ U.heap = h0) (fun _ _ _ _ _ => True) (fun _ U o U' => ∃ v L, o = .returned v ∧ Qrm10 Z a1 k y D nd fd A nl fl h0 n0 v U'.heap L ∧ FrameEnd U o U' L ({ frames := 3, cells := 1, slots := 32, locals := 69 } : Room).cells ({ frames := 3, cells := 1, slots := 32, locals := 69 } : Room).slots) := by
  refine MetFree.of_bodySF (plainFor_of_name own_pn_Nesting) hisR ?_
  intro p e s m args below meth c s₁ Bd hml0 hP hK
  obtain ⟨rfl, hZ, hh⟩ := hP
  have hx := Bd.exec
  have hby := Bd.bytes
  have hml : c.maxLocals = 3 := hml0
  have hown : s.vm.findClass "com/example/edge_keeper/edgekeeper/Nesting" = some m.cls := findClass_of_methodNamed Bd.named
  have hnm := (name_of_methodNamed Bd.named Bd.method).1
  have X0 : Stand p l e ({ frames := 3, cells := 1, slots := 32, locals := 69 } : Room) s m #[(.ref a1), (.int (Int32.ofNat k)), (.int y)] below meth c s₁ [] 0 0 := Stand.of_body Bd
  have e0 : s₁.heap = h0 := by rw [← hh, Bd.state]; rfl
  have N0 := Fr.nil n0
  have pre0 : ∀ t, Steps p.tables e below (s₁.setTop (mkF m 0 #[.val (.ref a1), .val (.int (Int32.ofNat k)), .val (.int y)] [])) t → Steps p.tables e below (s₁.setTop (entryFrame m #[(.ref a1), (.int (Int32.ofNat k)), (.int y)] 3)) t := fun t0_ k0_ => castTop (ef_10 m a1 (Int32.ofNat k) y) k0_
  obtain ⟨S0, hS0⟩ : ∃ z, z = s₁.setTop (mkF m 0 #[.val (.ref a1), .val (.int (Int32.ofNat k)), .val (.int y)] []) := ⟨_, rfl⟩
  have c0 : Steps p.tables e below S0 (s₁.setTop (mkF m 0 #[.val (.ref a1), .val (.int (Int32.ofNat k)), .val (.int y)] [])) := by rw [hS0]; exact Steps.refl _
  obtain ⟨E1, Fd, Fl, HD, HA, nDA, nbD, nbA, gb, gD, gA, gs⟩ := HN
  have c1 : Steps p.tables e below S0 (s₁.setTop (mkF m 2 #[.val (.ref a1), .val (.int (Int32.ofNat k)), .val (.int y)] [(.ref a1), (.ref a1)])) := c0.trans (by
    refine XS.aloadN X0.here hx rfl (hb hby d10_0) rfl rfl ?_
    show Steps p.tables e below (s₁.setTop (mkF m 1 #[.val (.ref a1), .val (.int (Int32.ofNat k)), .val (.int y)] [(.ref a1)])) _
    refine XS.aloadN X0.here hx rfl (hb hby d10_1) rfl rfl ?_
    show Steps p.tables e below (s₁.setTop (mkF m 2 #[.val (.ref a1), .val (.int (Int32.ofNat k)), .val (.int y)] [(.ref a1), (.ref a1)])) _
    exact Steps.refl _)
  obtain ⟨T2, X2, e2, st2⟩ := getF X0 hx hZ hown (host := "") (Or.inl (hw _ (List.mem_of_getElem? (i := 12) rfl))) Via.refl e0 Fl (g := (mkF m 2 #[.val (.ref a1), .val (.int (Int32.ofNat k)), .val (.int y)] [(.ref a1), (.ref a1)])) rfl rfl (hb hby d10_2)
  have c3 : Steps p.tables e below S0 (T2.setTop (mkF m 5 #[.val (.ref a1), .val (.int (Int32.ofNat k)), .val (.int y)] [(.ref A), (.ref a1)])) := c1.trans (st2 _ (Steps.refl _))
  have c4 : Steps p.tables e below S0 (T2.setTop (mkF m 6 #[.val (.ref a1), .val (.int (Int32.ofNat k)), .val (.int y)] [(.int (Int32.ofNat k)), (.ref A), (.ref a1)])) := c3.trans (by
    refine XS.iloadN X2.here hx rfl (hb hby d10_5) rfl ?_
    show Steps p.tables e below (T2.setTop (mkF m 6 #[.val (.ref a1), .val (.int (Int32.ofNat k)), .val (.int y)] [(.int (Int32.ofNat k)), (.ref A), (.ref a1)])) _
    exact Steps.refl _)
  obtain ⟨_, _, ⟨T5, L5, k5, n5⟩, -, X5, hQ5, st5⟩ := Jvm.LawKit.callS X2 hx (y := (⟨"com/example/edge_keeper/edgekeeper/Nesting", "room", "([II)[I"⟩ : MethodName)) hown (mvT hZ (hw _ (List.mem_of_getElem? (i := 19) rfl))) (mvT hZ (hw _ (List.mem_of_getElem? (i := 20) rfl))) (mvT hZ (hw _ (List.mem_of_getElem? (i := 2) rfl))) (mvT hZ (hw _ (List.mem_of_getElem? (i := 21) rfl))) (by decide) (backOf (W := 1) (rm4 l Z a0 hw [] A k nl fl h0 n0 Z0 HA hk) hZ (hw _ (List.mem_of_getElem? (i := 21) rfl)) (hw _ (List.mem_of_getElem? (i := 2) rfl)) (by decide) (by decide)) (g := (mkF m 6 #[.val (.ref a1), .val (.int (Int32.ofNat k)), .val (.int y)] [(.int (Int32.ofNat k)), (.ref A), (.ref a1)])) rfl (by rw [hml]; rfl) (argsL := [(.ref A), (.int (Int32.ofNat k))]) (rest := [(.ref a1)]) (lenOf own_pd___II__I rfl) rfl (by show 2 * 0 + _ ≤ _; exact Nat.le_of_eq rfl) (hb hby d10_6) (fun _ _ => ⟨rfl, e2, (by decide : 0 + 1 ≤ _), (by decide : 0 + 32 ≤ _)⟩)
  dsimp only [Pt.U, Pt.locs, Pt.cells, Pt.slots] at X5 hQ5 st5
  obtain ⟨Lc5, hR5, l5, y5, z5⟩ := hQ5
  subst l5 y5 z5
  obtain ⟨r, n', rfl, Nq5, Kc, HR, hk2, hn2, hr⟩ := hR5
  have N5 := Fr.app N0 Nq5
  have c6 : Steps p.tables e below S0 (T5.setTop (mkF m 9 #[.val (.ref a1), .val (.int (Int32.ofNat k)), .val (.int y)] [(.ref r), (.ref a1)])) := c4.trans (st5 _ (Steps.refl _))
  have E2 := E1.keep Kc
  have Fm2 := Fl.keep Kc nin0
  have Fo2 := Fd.keep Kc nin0
  have HY2 := HD.keep Kc nin0
  have lt_b : a1 < h0.size := by obtain ⟨_, _, q, -⟩ := E1; exact (Array.getElem?_eq_some_iff.mp q).1
  have ltY := HD.lt
  have ltX := HA.lt
  have nbr : a1 ≠ r := by rcases hr with rfl | hr; exact nbA; exact Nat.ne_of_lt (Nat.lt_of_lt_of_le lt_b hr)
  have nYr : D ≠ r := by rcases hr with rfl | hr; exact nDA; exact Nat.ne_of_lt (Nat.lt_of_lt_of_le ltY hr)
  have gr : n0 ≤ r := by rcases hr with rfl | hr; exact gA; omega
  have gs2 : n0 ≤ T5.heap.size := Nat.le_trans gs Kc.1
  obtain ⟨T7, h7, X7, e7, W7, st7⟩ := putF X5 hx hZ hown (host := "") (Or.inl (hw _ (List.mem_of_getElem? (i := 12) rfl))) Via.refl rfl Fm2 E2 (Or.inl (hw _ (List.mem_of_getElem? (i := 13) rfl))) (hw _ (List.mem_of_getElem? (i := 1) rfl)) (ty := (.array .int)) (by decide) rfl rfl (g := (mkF m 9 #[.val (.ref a1), .val (.int (Int32.ofNat k)), .val (.int y)] [(.ref r), (.ref a1)])) rfl rfl (hb hby d10_9)
  have c8 : Steps p.tables e below S0 (T7.setTop (mkF m 12 #[.val (.ref a1), .val (.int (Int32.ofNat k)), .val (.int y)] [])) := c6.trans (st7 _ (Steps.refl _))
  have Fw7 := Fm2.same W7
  have N7 := Fr.snoc X7 N5 gb
  have E3 := E2.wr W7
  have Fo3 := Fo2.other W7 (Or.inr (slot_ne (Or.inl (hw _ (List.mem_of_getElem? (i := 11) rfl))) (Or.inl (hw _ (List.mem_of_getElem? (i := 13) rfl))) (by decide) (t := .array .int) (t' := .array .int) (by decide) (by decide)))
  have HY3 := HY2.other W7 (Ne.symm nbD)
  have HR3 := HR.other W7 (Ne.symm nbr)
  have gs3 : n0 ≤ h7.size := Nat.le_trans gs2 (Keep.of_wr W7).1
  have c9 : Steps p.tables e below S0 (T7.setTop (mkF m 13 #[.val (.ref a1), .val (.int (Int32.ofNat k)), .val (.int y)] [(.ref a1)])) := c8.trans (by
    refine XS.aloadN X7.here hx rfl (hb hby d10_12) rfl rfl ?_
    show Steps p.tables e below (T7.setTop (mkF m 13 #[.val (.ref a1), .val (.int (Int32.ofNat k)), .val (.int y)] [(.ref a1)])) _
    exact Steps.refl _)
  obtain ⟨T10, X10, e10, st10⟩ := getF X7 hx hZ hown (host := "") (Or.inl (hw _ (List.mem_of_getElem? (i := 12) rfl))) Via.refl e7 Fw7 (g := (mkF m 13 #[.val (.ref a1), .val (.int (Int32.ofNat k)), .val (.int y)] [(.ref a1)])) rfl rfl (hb hby d10_13)
  have c11 : Steps p.tables e below S0 (T10.setTop (mkF m 16 #[.val (.ref a1), .val (.int (Int32.ofNat k)), .val (.int y)] [(.ref r)])) := c9.trans (st10 _ (Steps.refl _))
  have c12 : Steps p.tables e below S0 (T10.setTop (mkF m 18 #[.val (.ref a1), .val (.int (Int32.ofNat k)), .val (.int y)] [(.int y), (.int (Int32.ofNat k)), (.ref r)])) := c11.trans (by
    refine XS.iloadN X10.here hx rfl (hb hby d10_16) rfl ?_
    show Steps p.tables e below (T10.setTop (mkF m 17 #[.val (.ref a1), .val (.int (Int32.ofNat k)), .val (.int y)] [(.int (Int32.ofNat k)), (.ref r)])) _
    refine XS.iloadN X10.here hx rfl (hb hby d10_17) rfl ?_
    show Steps p.tables e below (T10.setTop (mkF m 18 #[.val (.ref a1), .val (.int (Int32.ofNat k)), .val (.int y)] [(.int y), (.int (Int32.ofNat k)), (.ref r)])) _
    exact Steps.refl _)
  have HRc := HR3
  obtain ⟨c_r, Ar_r, Sz_r, le_r, H_r⟩ := HR3
  have hin : ¬ (Int32.ofNat k < 0 ∨ c_r.slots.size ≤ (Int32.ofNat k).toNatClampNeg) := by rw [own_clamp (by omega), Sz_r]; exact fun q => q.elim (own_nn (by omega)) (by omega)
  obtain ⟨T13, h13, X13, e13, W13, st13⟩ := stI X10 hx hZ e10 Ar_r (j := (Int32.ofNat k)) hin (g := (mkF m 18 #[.val (.ref a1), .val (.int (Int32.ofNat k)), .val (.int y)] [(.int y), (.int (Int32.ofNat k)), (.ref r)])) rfl rfl (hb hby d10_18)
  have c14 : Steps p.tables e below S0 (T13.setTop (mkF m 19 #[.val (.ref a1), .val (.int (Int32.ofNat k)), .val (.int y)] [])) := c12.trans (st13 _ (Steps.refl _))
  have N13 := Fr.snoc X13 N7 gr
  have sz13 : n0 ≤ h13.size := Nat.le_trans gs3 (Keep.of_wr W13).1
  rw [own_clamp (k := k) (by omega)] at W13
  have E4 := E3.wr W13
  have Fo4 := Fo3.other W13 (Or.inl nbr)
  have Fm4 := Fw7.other W13 (Or.inl nbr)
  have HY4 := HY3.other W13 nYr
  have HR4 := HRc.set W13 hk2
  obtain ⟨fs, hr, hrun, hended, hW, hsame⟩ := X13.leave (v := none) (fun _ => rfl)
  refine ⟨_, _, pre0 _ ?_, hrun, hended, _, _, rfl, ?_, ⟨_, rfl⟩, hW, hsame.mono (by decide) (by decide)⟩
  · rw [← hS0]
    exact c14.trans (X13.returnOut hx Bd.returns (hb hby d10_19) hr)
  · show Qrm10 Z a1 k y D nd fd A nl fl h0 n0 _ T13.heap _
    rw [e13]
    exact ⟨rfl, N13, r, n', ⟨E4, Fo4, Fm4, HY4, HR4, nYr, nbD, nbr, gb, gD, gr, sz13⟩, hk2, hn2⟩
theorem d3_0 : decode prog_11_method_2_code 0 = .ok (.aload_n 0, 1) := by decide +kernel
theorem d3_1 : decode prog_11_method_2_code 1 = .ok (.aload_n 0, 1) := by decide +kernel
theorem d3_2 : decode prog_11_method_2_code 2 = .ok (.getfield 7, 3) := by decide +kernel
theorem d3_5 : decode prog_11_method_2_code 5 = .ok (.iload_n 1, 1) := by decide +kernel
theorem d3_6 : decode prog_11_method_2_code 6 = .ok (.invokestatic 16, 3) := by decide +kernel
theorem d3_9 : decode prog_11_method_2_code 9 = .ok (.putfield 7, 3) := by decide +kernel
theorem d3_12 : decode prog_11_method_2_code 12 = .ok (.aload_n 0, 1) := by decide +kernel
theorem d3_13 : decode prog_11_method_2_code 13 = .ok (.getfield 7, 3) := by decide +kernel
theorem d3_16 : decode prog_11_method_2_code 16 = .ok (.iload_n 1, 1) := by decide +kernel
theorem d3_17 : decode prog_11_method_2_code 17 = .ok (.iload_n 2, 1) := by decide +kernel
theorem d3_18 : decode prog_11_method_2_code 18 = .ok (.iastore, 1) := by decide +kernel
theorem d3_19 : decode prog_11_method_2_code 19 = .ok (.return_, 1) := by decide +kernel
theorem ef_3 (m : MethodId) (x0 : Addr) (x1 : Int32) (x2 : Int32) : entryFrame m #[(.ref x0), (.int x1), (.int x2)] 3 = mkF m 0 #[.val (.ref x0), .val (.int x1), .val (.int x2)] [] := by first | (simp [entryFrame, mkF, argsToLocals, Value.category]; done) | rfl
def Qrm3 (Z : State) (a1 : Addr) (k : Nat) (y : Int32) (D : Addr) (nd : Nat) (fd : Nat → Int32) (A : Addr) (nl : Nat) (fl : Nat → Int32) (h0 : Heap) (n0 : Nat) (v : Option Value) (h : Heap) (L : List Loc) : Prop := v = none ∧ Fr n0 L ∧ ∃ (r : Addr) (n' : Nat), own_N Z h n0 a1 r n' (fun j => if j = k then y else if j < nd then fd j else -1) A nl fl ∧ k < n' ∧ nd ≤ n'
set_option maxRecDepth 65536 in
set_option maxHeartbeats 40000000 in
theorem rm3 (l : Launch) (Z : State) (a0 : Array Value) (hw : ∀ d ∈ tables_1, d.before a0 Z = true) (ws : List Jvm.Cond) (a1 : Addr) (k : Nat) (y : Int32) (D : Addr) (nd : Nat) (fd : Nat → Int32) (A : Addr) (nl : Nat) (fl : Nat → Int32) (h0 : Heap) (n0 : Nat) (Z0 : n0 ≤ h0.size) (HN : own_N Z h0 n0 a1 D nd fd A nl fl) (hk : k ≤ 15) :
    MetFree l (⟨"com/example/edge_keeper/edgekeeper/Nesting", "declare", "(II)V"⟩ : MethodName) (head1 (Jvm.Cond.code (⟨"com/example/edge_keeper/edgekeeper/Nesting", "declare", "(II)V"⟩ : MethodName) prog_11_method_2_code 3 none :: ws) ({ frames := 3, cells := 1, slots := 32, locals := 69 } : Room)) (fun a U => a = #[(.ref a1), (.int (Int32.ofNat k)), (.int y)] ∧ Z.Warmed39 U.vm ∧ U.heap = h0) (fun _ _ _ _ _ => True) (fun _ U o U' => ∃ v L, o = .returned v ∧ Qrm3 Z a1 k y D nd fd A nl fl h0 n0 v U'.heap L ∧ FrameEnd U o U' L ({ frames := 3, cells := 1, slots := 32, locals := 69 } : Room).cells ({ frames := 3, cells := 1, slots := 32, locals := 69 } : Room).slots) := by
  refine MetFree.of_bodySF (plainFor_of_name own_pn_Nesting) hisR ?_
  intro p e s m args below meth c s₁ Bd hml0 hP hK
  obtain ⟨rfl, hZ, hh⟩ := hP
  have hx := Bd.exec
  have hby := Bd.bytes
  have hml : c.maxLocals = 3 := hml0
  have hown : s.vm.findClass "com/example/edge_keeper/edgekeeper/Nesting" = some m.cls := findClass_of_methodNamed Bd.named
  have hnm := (name_of_methodNamed Bd.named Bd.method).1
  have X0 : Stand p l e ({ frames := 3, cells := 1, slots := 32, locals := 69 } : Room) s m #[(.ref a1), (.int (Int32.ofNat k)), (.int y)] below meth c s₁ [] 0 0 := Stand.of_body Bd
  have e0 : s₁.heap = h0 := by rw [← hh, Bd.state]; rfl
  have N0 := Fr.nil n0
  have pre0 : ∀ t, Steps p.tables e below (s₁.setTop (mkF m 0 #[.val (.ref a1), .val (.int (Int32.ofNat k)), .val (.int y)] [])) t → Steps p.tables e below (s₁.setTop (entryFrame m #[(.ref a1), (.int (Int32.ofNat k)), (.int y)] 3)) t := fun t0_ k0_ => castTop (ef_3 m a1 (Int32.ofNat k) y) k0_
  obtain ⟨S0, hS0⟩ : ∃ z, z = s₁.setTop (mkF m 0 #[.val (.ref a1), .val (.int (Int32.ofNat k)), .val (.int y)] []) := ⟨_, rfl⟩
  have c0 : Steps p.tables e below S0 (s₁.setTop (mkF m 0 #[.val (.ref a1), .val (.int (Int32.ofNat k)), .val (.int y)] [])) := by rw [hS0]; exact Steps.refl _
  obtain ⟨E1, Fd, Fl, HD, HA, nDA, nbD, nbA, gb, gD, gA, gs⟩ := HN
  have c1 : Steps p.tables e below S0 (s₁.setTop (mkF m 2 #[.val (.ref a1), .val (.int (Int32.ofNat k)), .val (.int y)] [(.ref a1), (.ref a1)])) := c0.trans (by
    refine XS.aloadN X0.here hx rfl (hb hby d3_0) rfl rfl ?_
    show Steps p.tables e below (s₁.setTop (mkF m 1 #[.val (.ref a1), .val (.int (Int32.ofNat k)), .val (.int y)] [(.ref a1)])) _
    refine XS.aloadN X0.here hx rfl (hb hby d3_1) rfl rfl ?_
    show Steps p.tables e below (s₁.setTop (mkF m 2 #[.val (.ref a1), .val (.int (Int32.ofNat k)), .val (.int y)] [(.ref a1), (.ref a1)])) _
    exact Steps.refl _)
  obtain ⟨T2, X2, e2, st2⟩ := getF X0 hx hZ hown (host := "") (Or.inl (hw _ (List.mem_of_getElem? (i := 10) rfl))) Via.refl e0 Fd (g := (mkF m 2 #[.val (.ref a1), .val (.int (Int32.ofNat k)), .val (.int y)] [(.ref a1), (.ref a1)])) rfl rfl (hb hby d3_2)
  have c3 : Steps p.tables e below S0 (T2.setTop (mkF m 5 #[.val (.ref a1), .val (.int (Int32.ofNat k)), .val (.int y)] [(.ref D), (.ref a1)])) := c1.trans (st2 _ (Steps.refl _))
  have c4 : Steps p.tables e below S0 (T2.setTop (mkF m 6 #[.val (.ref a1), .val (.int (Int32.ofNat k)), .val (.int y)] [(.int (Int32.ofNat k)), (.ref D), (.ref a1)])) := c3.trans (by
    refine XS.iloadN X2.here hx rfl (hb hby d3_5) rfl ?_
    show Steps p.tables e below (T2.setTop (mkF m 6 #[.val (.ref a1), .val (.int (Int32.ofNat k)), .val (.int y)] [(.int (Int32.ofNat k)), (.ref D), (.ref a1)])) _
    exact Steps.refl _)
  obtain ⟨_, _, ⟨T5, L5, k5, n5⟩, -, X5, hQ5, st5⟩ := Jvm.LawKit.callS X2 hx (y := (⟨"com/example/edge_keeper/edgekeeper/Nesting", "room", "([II)[I"⟩ : MethodName)) hown (mvT hZ (hw _ (List.mem_of_getElem? (i := 19) rfl))) (mvT hZ (hw _ (List.mem_of_getElem? (i := 20) rfl))) (mvT hZ (hw _ (List.mem_of_getElem? (i := 2) rfl))) (mvT hZ (hw _ (List.mem_of_getElem? (i := 21) rfl))) (by decide) (backOf (W := 1) (rm4 l Z a0 hw [] D k nd fd h0 n0 Z0 HD hk) hZ (hw _ (List.mem_of_getElem? (i := 21) rfl)) (hw _ (List.mem_of_getElem? (i := 2) rfl)) (by decide) (by decide)) (g := (mkF m 6 #[.val (.ref a1), .val (.int (Int32.ofNat k)), .val (.int y)] [(.int (Int32.ofNat k)), (.ref D), (.ref a1)])) rfl (by rw [hml]; rfl) (argsL := [(.ref D), (.int (Int32.ofNat k))]) (rest := [(.ref a1)]) (lenOf own_pd___II__I rfl) rfl (by show 2 * 0 + _ ≤ _; exact Nat.le_of_eq rfl) (hb hby d3_6) (fun _ _ => ⟨rfl, e2, (by decide : 0 + 1 ≤ _), (by decide : 0 + 32 ≤ _)⟩)
  dsimp only [Pt.U, Pt.locs, Pt.cells, Pt.slots] at X5 hQ5 st5
  obtain ⟨Lc5, hR5, l5, y5, z5⟩ := hQ5
  subst l5 y5 z5
  obtain ⟨r, n', rfl, Nq5, Kc, HR, hk2, hn2, hr⟩ := hR5
  have N5 := Fr.app N0 Nq5
  have c6 : Steps p.tables e below S0 (T5.setTop (mkF m 9 #[.val (.ref a1), .val (.int (Int32.ofNat k)), .val (.int y)] [(.ref r), (.ref a1)])) := c4.trans (st5 _ (Steps.refl _))
  have E2 := E1.keep Kc
  have Fm2 := Fd.keep Kc nin0
  have Fo2 := Fl.keep Kc nin0
  have HY2 := HA.keep Kc nin0
  have lt_b : a1 < h0.size := by obtain ⟨_, _, q, -⟩ := E1; exact (Array.getElem?_eq_some_iff.mp q).1
  have ltY := HA.lt
  have ltX := HD.lt
  have nbr : a1 ≠ r := by rcases hr with rfl | hr; exact nbD; exact Nat.ne_of_lt (Nat.lt_of_lt_of_le lt_b hr)
  have nYr : A ≠ r := by rcases hr with rfl | hr; exact Ne.symm nDA; exact Nat.ne_of_lt (Nat.lt_of_lt_of_le ltY hr)
  have gr : n0 ≤ r := by rcases hr with rfl | hr; exact gD; omega
  have gs2 : n0 ≤ T5.heap.size := Nat.le_trans gs Kc.1
  obtain ⟨T7, h7, X7, e7, W7, st7⟩ := putF X5 hx hZ hown (host := "") (Or.inl (hw _ (List.mem_of_getElem? (i := 10) rfl))) Via.refl rfl Fm2 E2 (Or.inl (hw _ (List.mem_of_getElem? (i := 11) rfl))) (hw _ (List.mem_of_getElem? (i := 1) rfl)) (ty := (.array .int)) (by decide) rfl rfl (g := (mkF m 9 #[.val (.ref a1), .val (.int (Int32.ofNat k)), .val (.int y)] [(.ref r), (.ref a1)])) rfl rfl (hb hby d3_9)
  have c8 : Steps p.tables e below S0 (T7.setTop (mkF m 12 #[.val (.ref a1), .val (.int (Int32.ofNat k)), .val (.int y)] [])) := c6.trans (st7 _ (Steps.refl _))
  have Fw7 := Fm2.same W7
  have N7 := Fr.snoc X7 N5 gb
  have E3 := E2.wr W7
  have Fo3 := Fo2.other W7 (Or.inr (slot_ne (Or.inl (hw _ (List.mem_of_getElem? (i := 13) rfl))) (Or.inl (hw _ (List.mem_of_getElem? (i := 11) rfl))) (by decide) (t := .array .int) (t' := .array .int) (by decide) (by decide)))
  have HY3 := HY2.other W7 (Ne.symm nbA)
  have HR3 := HR.other W7 (Ne.symm nbr)
  have gs3 : n0 ≤ h7.size := Nat.le_trans gs2 (Keep.of_wr W7).1
  have c9 : Steps p.tables e below S0 (T7.setTop (mkF m 13 #[.val (.ref a1), .val (.int (Int32.ofNat k)), .val (.int y)] [(.ref a1)])) := c8.trans (by
    refine XS.aloadN X7.here hx rfl (hb hby d3_12) rfl rfl ?_
    show Steps p.tables e below (T7.setTop (mkF m 13 #[.val (.ref a1), .val (.int (Int32.ofNat k)), .val (.int y)] [(.ref a1)])) _
    exact Steps.refl _)
  obtain ⟨T10, X10, e10, st10⟩ := getF X7 hx hZ hown (host := "") (Or.inl (hw _ (List.mem_of_getElem? (i := 10) rfl))) Via.refl e7 Fw7 (g := (mkF m 13 #[.val (.ref a1), .val (.int (Int32.ofNat k)), .val (.int y)] [(.ref a1)])) rfl rfl (hb hby d3_13)
  have c11 : Steps p.tables e below S0 (T10.setTop (mkF m 16 #[.val (.ref a1), .val (.int (Int32.ofNat k)), .val (.int y)] [(.ref r)])) := c9.trans (st10 _ (Steps.refl _))
  have c12 : Steps p.tables e below S0 (T10.setTop (mkF m 18 #[.val (.ref a1), .val (.int (Int32.ofNat k)), .val (.int y)] [(.int y), (.int (Int32.ofNat k)), (.ref r)])) := c11.trans (by
    refine XS.iloadN X10.here hx rfl (hb hby d3_16) rfl ?_
    show Steps p.tables e below (T10.setTop (mkF m 17 #[.val (.ref a1), .val (.int (Int32.ofNat k)), .val (.int y)] [(.int (Int32.ofNat k)), (.ref r)])) _
    refine XS.iloadN X10.here hx rfl (hb hby d3_17) rfl ?_
    show Steps p.tables e below (T10.setTop (mkF m 18 #[.val (.ref a1), .val (.int (Int32.ofNat k)), .val (.int y)] [(.int y), (.int (Int32.ofNat k)), (.ref r)])) _
    exact Steps.refl _)
  have HRc := HR3
  obtain ⟨c_r, Ar_r, Sz_r, le_r, H_r⟩ := HR3
  have hin : ¬ (Int32.ofNat k < 0 ∨ c_r.slots.size ≤ (Int32.ofNat k).toNatClampNeg) := by rw [own_clamp (by omega), Sz_r]; exact fun q => q.elim (own_nn (by omega)) (by omega)
  obtain ⟨T13, h13, X13, e13, W13, st13⟩ := stI X10 hx hZ e10 Ar_r (j := (Int32.ofNat k)) hin (g := (mkF m 18 #[.val (.ref a1), .val (.int (Int32.ofNat k)), .val (.int y)] [(.int y), (.int (Int32.ofNat k)), (.ref r)])) rfl rfl (hb hby d3_18)
  have c14 : Steps p.tables e below S0 (T13.setTop (mkF m 19 #[.val (.ref a1), .val (.int (Int32.ofNat k)), .val (.int y)] [])) := c12.trans (st13 _ (Steps.refl _))
  have N13 := Fr.snoc X13 N7 gr
  have sz13 : n0 ≤ h13.size := Nat.le_trans gs3 (Keep.of_wr W13).1
  rw [own_clamp (k := k) (by omega)] at W13
  have E4 := E3.wr W13
  have Fo4 := Fo3.other W13 (Or.inl nbr)
  have Fm4 := Fw7.other W13 (Or.inl nbr)
  have HY4 := HY3.other W13 nYr
  have HR4 := HRc.set W13 hk2
  obtain ⟨fs, hr, hrun, hended, hW, hsame⟩ := X13.leave (v := none) (fun _ => rfl)
  refine ⟨_, _, pre0 _ ?_, hrun, hended, _, _, rfl, ?_, ⟨_, rfl⟩, hW, hsame.mono (by decide) (by decide)⟩
  · rw [← hS0]
    exact c14.trans (X13.returnOut hx Bd.returns (hb hby d3_19) hr)
  · show Qrm3 Z a1 k y D nd fd A nl fl h0 n0 _ T13.heap _
    rw [e13]
    exact ⟨rfl, N13, r, n', ⟨E4, Fm4, Fo4, HR4, HY4, Ne.symm nYr, nbr, nbA, gb, gr, gA, sz13⟩, hk2, hn2⟩
theorem d12_0 : decode prog_11_method_5_code 0 = .ok (.iconst (-1), 1) := by decide +kernel
theorem d12_1 : decode prog_11_method_5_code 1 = .ok (.istore_n 2, 1) := by decide +kernel
theorem d12_2 : decode prog_11_method_5_code 2 = .ok (.iload_n 1, 1) := by decide +kernel
theorem d12_3 : decode prog_11_method_5_code 3 = .ok (.aload_n 0, 1) := by decide +kernel
theorem d12_4 : decode prog_11_method_5_code 4 = .ok (.getfield 7, 3) := by decide +kernel
theorem d12_7 : decode prog_11_method_5_code 7 = .ok (.arraylength, 1) := by decide +kernel
theorem d12_8 : decode prog_11_method_5_code 8 = .ok (.if_icmp .ge 10, 3) := by decide +kernel
theorem d12_11 : decode prog_11_method_5_code 11 = .ok (.aload_n 0, 1) := by decide +kernel
theorem d12_12 : decode prog_11_method_5_code 12 = .ok (.getfield 7, 3) := by decide +kernel
theorem d12_15 : decode prog_11_method_5_code 15 = .ok (.iload_n 1, 1) := by decide +kernel
theorem d12_16 : decode prog_11_method_5_code 16 = .ok (.iaload, 1) := by decide +kernel
theorem d12_17 : decode prog_11_method_5_code 17 = .ok (.istore_n 2, 1) := by decide +kernel
theorem d12_18 : decode prog_11_method_5_code 18 = .ok (.iload_n 2, 1) := by decide +kernel
theorem d12_19 : decode prog_11_method_5_code 19 = .ok (.iconst (-1), 1) := by decide +kernel
theorem d12_20 : decode prog_11_method_5_code 20 = .ok (.if_icmp .ne 19, 3) := by decide +kernel
theorem d12_23 : decode prog_11_method_5_code 23 = .ok (.iload_n 1, 1) := by decide +kernel
theorem d12_24 : decode prog_11_method_5_code 24 = .ok (.aload_n 0, 1) := by decide +kernel
theorem d12_25 : decode prog_11_method_5_code 25 = .ok (.getfield 13, 3) := by decide +kernel
theorem d12_28 : decode prog_11_method_5_code 28 = .ok (.arraylength, 1) := by decide +kernel
theorem d12_29 : decode prog_11_method_5_code 29 = .ok (.if_icmp .ge 10, 3) := by decide +kernel
theorem d12_32 : decode prog_11_method_5_code 32 = .ok (.aload_n 0, 1) := by decide +kernel
theorem d12_33 : decode prog_11_method_5_code 33 = .ok (.getfield 13, 3) := by decide +kernel
theorem d12_36 : decode prog_11_method_5_code 36 = .ok (.iload_n 1, 1) := by decide +kernel
theorem d12_37 : decode prog_11_method_5_code 37 = .ok (.iaload, 1) := by decide +kernel
theorem d12_38 : decode prog_11_method_5_code 38 = .ok (.istore_n 2, 1) := by decide +kernel
theorem d12_39 : decode prog_11_method_5_code 39 = .ok (.iload_n 2, 1) := by decide +kernel
theorem d12_40 : decode prog_11_method_5_code 40 = .ok (.ireturn, 1) := by decide +kernel
theorem ef_12 (m : MethodId) (x0 : Addr) (x1 : Int32) : entryFrame m #[(.ref x0), (.int x1)] 3 = mkF m 0 #[.val (.ref x0), .val (.int x1), .unset] [] := by first | (simp [entryFrame, mkF, argsToLocals, Value.category]; done) | rfl
def Qrm12 (Z : State) (a1 : Addr) (k : Nat) (D : Addr) (nd : Nat) (fd : Nat → Int32) (A : Addr) (nl : Nat) (fl : Nat → Int32) (h0 : Heap) (n0 : Nat) (v : Option Value) (h : Heap) (L : List Loc) : Prop := v = some (.int (own_e nd fd nl fl k)) ∧ Fr n0 L ∧ h = h0
set_option maxRecDepth 65536 in
set_option maxHeartbeats 40000000 in
theorem rm12 (l : Launch) (Z : State) (a0 : Array Value) (hw : ∀ d ∈ tables_1, d.before a0 Z = true) (ws : List Jvm.Cond) (a1 : Addr) (k : Nat) (D : Addr) (nd : Nat) (fd : Nat → Int32) (A : Addr) (nl : Nat) (fl : Nat → Int32) (h0 : Heap) (n0 : Nat) (Z0 : n0 ≤ h0.size) (HN : own_N Z h0 n0 a1 D nd fd A nl fl) (hk : k ≤ 15) :
    MetFree l (⟨"com/example/edge_keeper/edgekeeper/Nesting", "enclosing", "(I)I"⟩ : MethodName) (head1 (Jvm.Cond.code (⟨"com/example/edge_keeper/edgekeeper/Nesting", "enclosing", "(I)I"⟩ : MethodName) prog_11_method_5_code 3 (some .int) :: ws) ({ frames := 0, cells := 0, slots := 0, locals := 0 } : Room)) (fun a U => a = #[(.ref a1), (.int (Int32.ofNat k))] ∧ Z.Warmed39 U.vm ∧ U.heap = h0) (fun _ _ _ _ _ => True) (fun _ U o U' => ∃ v L, o = .returned v ∧ Qrm12 Z a1 k D nd fd A nl fl h0 n0 v U'.heap L ∧ FrameEnd U o U' L ({ frames := 0, cells := 0, slots := 0, locals := 0 } : Room).cells ({ frames := 0, cells := 0, slots := 0, locals := 0 } : Room).slots) := by
  refine MetFree.of_bodySF (plainFor_of_name own_pn_Nesting) hisR ?_
  intro p e s m args below meth c s₁ Bd hml0 hP hK
  obtain ⟨rfl, hZ, hh⟩ := hP
  have hx := Bd.exec
  have hby := Bd.bytes
  have hml : c.maxLocals = 3 := hml0
  have hown : s.vm.findClass "com/example/edge_keeper/edgekeeper/Nesting" = some m.cls := findClass_of_methodNamed Bd.named
  have hnm := (name_of_methodNamed Bd.named Bd.method).1
  have X0 : Stand p l e ({ frames := 0, cells := 0, slots := 0, locals := 0 } : Room) s m #[(.ref a1), (.int (Int32.ofNat k))] below meth c s₁ [] 0 0 := Stand.of_body Bd
  have e0 : s₁.heap = h0 := by rw [← hh, Bd.state]; rfl
  have N0 := Fr.nil n0
  have pre0 : ∀ t, Steps p.tables e below (s₁.setTop (mkF m 0 #[.val (.ref a1), .val (.int (Int32.ofNat k)), .unset] [])) t → Steps p.tables e below (s₁.setTop (entryFrame m #[(.ref a1), (.int (Int32.ofNat k))] 3)) t := fun t0_ k0_ => castTop (ef_12 m a1 (Int32.ofNat k)) k0_
  obtain ⟨S0, hS0⟩ : ∃ z, z = s₁.setTop (mkF m 0 #[.val (.ref a1), .val (.int (Int32.ofNat k)), .unset] []) := ⟨_, rfl⟩
  have c0 : Steps p.tables e below S0 (s₁.setTop (mkF m 0 #[.val (.ref a1), .val (.int (Int32.ofNat k)), .unset] [])) := by rw [hS0]; exact Steps.refl _
  obtain ⟨E1, Fd, Fl, HD, HA, nDA, nbD, nbA, gb, gD, gA, gs⟩ := HN
  have c1 : Steps p.tables e below S0 (s₁.setTop (mkF m 4 #[.val (.ref a1), .val (.int (Int32.ofNat k)), .val (.int (-1 : Int32))] [(.ref a1), (.int (Int32.ofNat k))])) := c0.trans (by
    refine XT.iconstV X0.here hx rfl (-1 : Int32) (hb hby d12_0) (by decide) ?_
    show Steps p.tables e below (s₁.setTop (mkF m 1 #[.val (.ref a1), .val (.int (Int32.ofNat k)), .unset] [(.int (-1 : Int32))])) _
    refine XS.istoreN X0.here hx rfl (hb hby d12_1) rfl (l' := #[.val (.ref a1), .val (.int (Int32.ofNat k)), .val (.int (-1 : Int32))]) rfl ?_
    show Steps p.tables e below (s₁.setTop (mkF m 2 #[.val (.ref a1), .val (.int (Int32.ofNat k)), .val (.int (-1 : Int32))] [])) _
    refine XS.iloadN X0.here hx rfl (hb hby d12_2) rfl ?_
    show Steps p.tables e below (s₁.setTop (mkF m 3 #[.val (.ref a1), .val (.int (Int32.ofNat k)), .val (.int (-1 : Int32))] [(.int (Int32.ofNat k))])) _
    refine XS.aloadN X0.here hx rfl (hb hby d12_3) rfl rfl ?_
    show Steps p.tables e below (s₁.setTop (mkF m 4 #[.val (.ref a1), .val (.int (Int32.ofNat k)), .val (.int (-1 : Int32))] [(.ref a1), (.int (Int32.ofNat k))])) _
    exact Steps.refl _)
  obtain ⟨T2, X2, e2, st2⟩ := getF X0 hx hZ hown (host := "") (Or.inl (hw _ (List.mem_of_getElem? (i := 10) rfl))) Via.refl e0 Fd (g := (mkF m 4 #[.val (.ref a1), .val (.int (Int32.ofNat k)), .val (.int (-1 : Int32))] [(.ref a1), (.int (Int32.ofNat k))])) rfl rfl (hb hby d12_4)
  have c3 : Steps p.tables e below S0 (T2.setTop (mkF m 7 #[.val (.ref a1), .val (.int (Int32.ofNat k)), .val (.int (-1 : Int32))] [(.ref D), (.int (Int32.ofNat k))])) := c1.trans (st2 _ (Steps.refl _))
  have cp_a := HD
  obtain ⟨c_a, Ar_a, Sz_a, le_a, H_a⟩ := cp_a
  have S_a : c_a.slots.size = (Int32.ofNat nd).toNatClampNeg := by rw [own_clamp (by omega)]; exact Sz_a
  have c4 : Steps p.tables e below S0 (T2.setTop (mkF m 8 #[.val (.ref a1), .val (.int (Int32.ofNat k)), .val (.int (-1 : Int32))] [(.int (Int32.ofNat nd)), (.int (Int32.ofNat k))])) := c3.trans (by
    refine X2.arraylength hx (by rw [e2]; exact Ar_a.1) (State.isArrayOf_alike hZ.alike Ar_a.2.1) (g := (mkF m 7 #[.val (.ref a1), .val (.int (Int32.ofNat k)), .val (.int (-1 : Int32))] [(.ref D), (.int (Int32.ofNat k))])) rfl rfl (hb hby d12_7) _ ?_
    rw [len_of S_a (own_nn (by omega))]
    show Steps p.tables e below (T2.setTop (mkF m 8 #[.val (.ref a1), .val (.int (Int32.ofNat k)), .val (.int (-1 : Int32))] [(.int (Int32.ofNat nd)), (.int (Int32.ofNat k))])) _
    exact Steps.refl _)
  by_cases k1 : (Int32.ofNat k) < (Int32.ofNat nd)
  ·
    have k1' : k < nd := (own_lt (by omega) (by omega)).mp k1
    have c5 : Steps p.tables e below S0 (T2.setTop (mkF m 12 #[.val (.ref a1), .val (.int (Int32.ofNat k)), .val (.int (-1 : Int32))] [(.ref a1)])) := c4.trans (by
      refine XS.icmpNo X2.here hx rfl (hb hby d12_8) rfl (XT.ii_ge_f k1) ?_
      show Steps p.tables e below (T2.setTop (mkF m 11 #[.val (.ref a1), .val (.int (Int32.ofNat k)), .val (.int (-1 : Int32))] [])) _
      refine XS.aloadN X2.here hx rfl (hb hby d12_11) rfl rfl ?_
      show Steps p.tables e below (T2.setTop (mkF m 12 #[.val (.ref a1), .val (.int (Int32.ofNat k)), .val (.int (-1 : Int32))] [(.ref a1)])) _
      exact Steps.refl _)
    obtain ⟨T6, X6, e6, st6⟩ := getF X2 hx hZ hown (host := "") (Or.inl (hw _ (List.mem_of_getElem? (i := 10) rfl))) Via.refl e2 Fd (g := (mkF m 12 #[.val (.ref a1), .val (.int (Int32.ofNat k)), .val (.int (-1 : Int32))] [(.ref a1)])) rfl rfl (hb hby d12_12)
    have c7 : Steps p.tables e below S0 (T6.setTop (mkF m 15 #[.val (.ref a1), .val (.int (Int32.ofNat k)), .val (.int (-1 : Int32))] [(.ref D)])) := c5.trans (st6 _ (Steps.refl _))
    have c8 : Steps p.tables e below S0 (T6.setTop (mkF m 16 #[.val (.ref a1), .val (.int (Int32.ofNat k)), .val (.int (-1 : Int32))] [(.int (Int32.ofNat k)), (.ref D)])) := c7.trans (by
      refine XS.iloadN X6.here hx rfl (hb hby d12_15) rfl ?_
      show Steps p.tables e below (T6.setTop (mkF m 16 #[.val (.ref a1), .val (.int (Int32.ofNat k)), .val (.int (-1 : Int32))] [(.int (Int32.ofNat k)), (.ref D)])) _
      exact Steps.refl _)
    have hin1 : ¬ (Int32.ofNat k < 0 ∨ c_a.slots.size ≤ (Int32.ofNat k).toNatClampNeg) := by rw [own_clamp (by omega), Sz_a]; exact fun q => q.elim (own_nn (by omega)) (by omega)
    have c9 : Steps p.tables e below S0 (T6.setTop (mkF m 20 #[.val (.ref a1), .val (.int (Int32.ofNat k)), .val (.int (fd k))] [(.int (-1 : Int32)), (.int (fd k))])) := c8.trans (by
      refine X6.iaload hx (j := (Int32.ofNat k)) (v := (.int (fd k))) (by rw [e6]; exact Ar_a.1) (State.isArrayOf_alike hZ.alike Ar_a.2.1) Ar_a.2.2 hin1 (by rw [own_clamp (by omega)]; exact H_a k k1') (g := (mkF m 16 #[.val (.ref a1), .val (.int (Int32.ofNat k)), .val (.int (-1 : Int32))] [(.int (Int32.ofNat k)), (.ref D)])) rfl rfl (hb hby d12_16) _ ?_
      show Steps p.tables e below (T6.setTop (mkF m 17 #[.val (.ref a1), .val (.int (Int32.ofNat k)), .val (.int (-1 : Int32))] [(.int (fd k))])) _
      refine XS.istoreN X6.here hx rfl (hb hby d12_17) rfl (l' := #[.val (.ref a1), .val (.int (Int32.ofNat k)), .val (.int (fd k))]) rfl ?_
      show Steps p.tables e below (T6.setTop (mkF m 18 #[.val (.ref a1), .val (.int (Int32.ofNat k)), .val (.int (fd k))] [])) _
      refine XS.iloadN X6.here hx rfl (hb hby d12_18) rfl ?_
      show Steps p.tables e below (T6.setTop (mkF m 19 #[.val (.ref a1), .val (.int (Int32.ofNat k)), .val (.int (fd k))] [(.int (fd k))])) _
      refine XT.iconstV X6.here hx rfl (-1 : Int32) (hb hby d12_19) (by decide) ?_
      show Steps p.tables e below (T6.setTop (mkF m 20 #[.val (.ref a1), .val (.int (Int32.ofNat k)), .val (.int (fd k))] [(.int (-1 : Int32)), (.int (fd k))])) _
      exact Steps.refl _)
    by_cases k2 : (fd k) = (-1 : Int32)
    ·
      have c10 : Steps p.tables e below S0 (T6.setTop (mkF m 25 #[.val (.ref a1), .val (.int (Int32.ofNat k)), .val (.int (fd k))] [(.ref a1), (.int (Int32.ofNat k))])) := c9.trans (by
        refine XS.icmpNo X6.here hx rfl (hb hby d12_20) rfl (XT.ii_ne_f k2) ?_
        show Steps p.tables e below (T6.setTop (mkF m 23 #[.val (.ref a1), .val (.int (Int32.ofNat k)), .val (.int (fd k))] [])) _
        refine XS.iloadN X6.here hx rfl (hb hby d12_23) rfl ?_
        show Steps p.tables e below (T6.setTop (mkF m 24 #[.val (.ref a1), .val (.int (Int32.ofNat k)), .val (.int (fd k))] [(.int (Int32.ofNat k))])) _
        refine XS.aloadN X6.here hx rfl (hb hby d12_24) rfl rfl ?_
        show Steps p.tables e below (T6.setTop (mkF m 25 #[.val (.ref a1), .val (.int (Int32.ofNat k)), .val (.int (fd k))] [(.ref a1), (.int (Int32.ofNat k))])) _
        exact Steps.refl _)
      obtain ⟨T11, X11, e11, st11⟩ := getF X6 hx hZ hown (host := "") (Or.inl (hw _ (List.mem_of_getElem? (i := 12) rfl))) Via.refl e6 Fl (g := (mkF m 25 #[.val (.ref a1), .val (.int (Int32.ofNat k)), .val (.int (fd k))] [(.ref a1), (.int (Int32.ofNat k))])) rfl rfl (hb hby d12_25)
      have c12 : Steps p.tables e below S0 (T11.setTop (mkF m 28 #[.val (.ref a1), .val (.int (Int32.ofNat k)), .val (.int (fd k))] [(.ref A), (.int (Int32.ofNat k))])) := c10.trans (st11 _ (Steps.refl _))
      have cp_b10 := HA
      obtain ⟨c_b10, Ar_b10, Sz_b10, le_b10, H_b10⟩ := cp_b10
      have S_b10 : c_b10.slots.size = (Int32.ofNat nl).toNatClampNeg := by rw [own_clamp (by omega)]; exact Sz_b10
      have c13 : Steps p.tables e below S0 (T11.setTop (mkF m 29 #[.val (.ref a1), .val (.int (Int32.ofNat k)), .val (.int (fd k))] [(.int (Int32.ofNat nl)), (.int (Int32.ofNat k))])) := c12.trans (by
        refine X11.arraylength hx (by rw [e11]; exact Ar_b10.1) (State.isArrayOf_alike hZ.alike Ar_b10.2.1) (g := (mkF m 28 #[.val (.ref a1), .val (.int (Int32.ofNat k)), .val (.int (fd k))] [(.ref A), (.int (Int32.ofNat k))])) rfl rfl (hb hby d12_28) _ ?_
        rw [len_of S_b10 (own_nn (by omega))]
        show Steps p.tables e below (T11.setTop (mkF m 29 #[.val (.ref a1), .val (.int (Int32.ofNat k)), .val (.int (fd k))] [(.int (Int32.ofNat nl)), (.int (Int32.ofNat k))])) _
        exact Steps.refl _)
      by_cases k3 : (Int32.ofNat k) < (Int32.ofNat nl)
      ·
        have k3' : k < nl := (own_lt (by omega) (by omega)).mp k3
        have c14 : Steps p.tables e below S0 (T11.setTop (mkF m 33 #[.val (.ref a1), .val (.int (Int32.ofNat k)), .val (.int (fd k))] [(.ref a1)])) := c13.trans (by
          refine XS.icmpNo X11.here hx rfl (hb hby d12_29) rfl (XT.ii_ge_f k3) ?_
          show Steps p.tables e below (T11.setTop (mkF m 32 #[.val (.ref a1), .val (.int (Int32.ofNat k)), .val (.int (fd k))] [])) _
          refine XS.aloadN X11.here hx rfl (hb hby d12_32) rfl rfl ?_
          show Steps p.tables e below (T11.setTop (mkF m 33 #[.val (.ref a1), .val (.int (Int32.ofNat k)), .val (.int (fd k))] [(.ref a1)])) _
          exact Steps.refl _)
        obtain ⟨T15, X15, e15, st15⟩ := getF X11 hx hZ hown (host := "") (Or.inl (hw _ (List.mem_of_getElem? (i := 12) rfl))) Via.refl e11 Fl (g := (mkF m 33 #[.val (.ref a1), .val (.int (Int32.ofNat k)), .val (.int (fd k))] [(.ref a1)])) rfl rfl (hb hby d12_33)
        have c16 : Steps p.tables e below S0 (T15.setTop (mkF m 36 #[.val (.ref a1), .val (.int (Int32.ofNat k)), .val (.int (fd k))] [(.ref A)])) := c14.trans (st15 _ (Steps.refl _))
        have c17 : Steps p.tables e below S0 (T15.setTop (mkF m 37 #[.val (.ref a1), .val (.int (Int32.ofNat k)), .val (.int (fd k))] [(.int (Int32.ofNat k)), (.ref A)])) := c16.trans (by
          refine XS.iloadN X15.here hx rfl (hb hby d12_36) rfl ?_
          show Steps p.tables e below (T15.setTop (mkF m 37 #[.val (.ref a1), .val (.int (Int32.ofNat k)), .val (.int (fd k))] [(.int (Int32.ofNat k)), (.ref A)])) _
          exact Steps.refl _)
        have hin3 : ¬ (Int32.ofNat k < 0 ∨ c_b10.slots.size ≤ (Int32.ofNat k).toNatClampNeg) := by rw [own_clamp (by omega), Sz_b10]; exact fun q => q.elim (own_nn (by omega)) (by omega)
        have c18 : Steps p.tables e below S0 (T15.setTop (mkF m 40 #[.val (.ref a1), .val (.int (Int32.ofNat k)), .val (.int (fl k))] [(.int (fl k))])) := c17.trans (by
          refine X15.iaload hx (j := (Int32.ofNat k)) (v := (.int (fl k))) (by rw [e15]; exact Ar_b10.1) (State.isArrayOf_alike hZ.alike Ar_b10.2.1) Ar_b10.2.2 hin3 (by rw [own_clamp (by omega)]; exact H_b10 k k3') (g := (mkF m 37 #[.val (.ref a1), .val (.int (Int32.ofNat k)), .val (.int (fd k))] [(.int (Int32.ofNat k)), (.ref A)])) rfl rfl (hb hby d12_37) _ ?_
          show Steps p.tables e below (T15.setTop (mkF m 38 #[.val (.ref a1), .val (.int (Int32.ofNat k)), .val (.int (fd k))] [(.int (fl k))])) _
          refine XS.istoreN X15.here hx rfl (hb hby d12_38) rfl (l' := #[.val (.ref a1), .val (.int (Int32.ofNat k)), .val (.int (fl k))]) rfl ?_
          show Steps p.tables e below (T15.setTop (mkF m 39 #[.val (.ref a1), .val (.int (Int32.ofNat k)), .val (.int (fl k))] [])) _
          refine XS.iloadN X15.here hx rfl (hb hby d12_39) rfl ?_
          show Steps p.tables e below (T15.setTop (mkF m 40 #[.val (.ref a1), .val (.int (Int32.ofNat k)), .val (.int (fl k))] [(.int (fl k))])) _
          exact Steps.refl _)
        obtain ⟨fs, hr, hrun, hended, hW, hsame⟩ := X15.leave (v := some (.int (fl k))) (fun h => by rw [Bd.returns] at h; cases h)
        refine ⟨_, _, pre0 _ ?_, hrun, hended, _, _, rfl, ?_, ⟨_, rfl⟩, hW, hsame.mono (by decide) (by decide)⟩
        · rw [← hS0]
          exact c18.trans (retI X15 hx Bd.returns (hb hby d12_40) hr)
        · show Qrm12 Z a1 k D nd fd A nl fl h0 n0 _ T15.heap _
          rw [e15]
          exact ⟨by rw [own_e, if_pos k1', if_pos k2, if_pos k3'], N0, rfl⟩
      ·
        have k3' : ¬ k < nl := fun q => k3 ((own_lt (by omega) (by omega)).mpr q)
        have c19 : Steps p.tables e below S0 (T11.setTop (mkF m 40 #[.val (.ref a1), .val (.int (Int32.ofNat k)), .val (.int (fd k))] [(.int (fd k))])) := c13.trans (by
          refine XS.icmpYes X11.here hx rfl (pc0 := 29) (pc' := 39) rfl (hb hby d12_29) rfl (XT.ii_ge_t k3) (by decide) (by decide) ?_
          show Steps p.tables e below (T11.setTop (mkF m 39 #[.val (.ref a1), .val (.int (Int32.ofNat k)), .val (.int (fd k))] [])) _
          refine XS.iloadN X11.here hx rfl (hb hby d12_39) rfl ?_
          show Steps p.tables e below (T11.setTop (mkF m 40 #[.val (.ref a1), .val (.int (Int32.ofNat k)), .val (.int (fd k))] [(.int (fd k))])) _
          exact Steps.refl _)
        have k2v : fd k = -1 := k2
        obtain ⟨fs, hr, hrun, hended, hW, hsame⟩ := X11.leave (v := some (.int (fd k))) (fun h => by rw [Bd.returns] at h; cases h)
        refine ⟨_, _, pre0 _ ?_, hrun, hended, _, _, rfl, ?_, ⟨_, rfl⟩, hW, hsame.mono (by decide) (by decide)⟩
        · rw [← hS0]
          exact c19.trans (retI X11 hx Bd.returns (hb hby d12_40) hr)
        · show Qrm12 Z a1 k D nd fd A nl fl h0 n0 _ T11.heap _
          rw [e11]
          exact ⟨by rw [own_e, if_pos k1', if_pos k2, if_neg k3', k2v], N0, rfl⟩
    ·
      have c20 : Steps p.tables e below S0 (T6.setTop (mkF m 40 #[.val (.ref a1), .val (.int (Int32.ofNat k)), .val (.int (fd k))] [(.int (fd k))])) := c9.trans (by
        refine XS.icmpYes X6.here hx rfl (pc0 := 20) (pc' := 39) rfl (hb hby d12_20) rfl (XT.ii_ne_t k2) (by decide) (by decide) ?_
        show Steps p.tables e below (T6.setTop (mkF m 39 #[.val (.ref a1), .val (.int (Int32.ofNat k)), .val (.int (fd k))] [])) _
        refine XS.iloadN X6.here hx rfl (hb hby d12_39) rfl ?_
        show Steps p.tables e below (T6.setTop (mkF m 40 #[.val (.ref a1), .val (.int (Int32.ofNat k)), .val (.int (fd k))] [(.int (fd k))])) _
        exact Steps.refl _)
      obtain ⟨fs, hr, hrun, hended, hW, hsame⟩ := X6.leave (v := some (.int (fd k))) (fun h => by rw [Bd.returns] at h; cases h)
      refine ⟨_, _, pre0 _ ?_, hrun, hended, _, _, rfl, ?_, ⟨_, rfl⟩, hW, hsame.mono (by decide) (by decide)⟩
      · rw [← hS0]
        exact c20.trans (retI X6 hx Bd.returns (hb hby d12_40) hr)
      · show Qrm12 Z a1 k D nd fd A nl fl h0 n0 _ T6.heap _
        rw [e6]
        exact ⟨by rw [own_e, if_pos k1', if_neg k2], N0, rfl⟩
  ·
    have k1' : ¬ k < nd := fun q => k1 ((own_lt (by omega) (by omega)).mpr q)
    have c21 : Steps p.tables e below S0 (T2.setTop (mkF m 20 #[.val (.ref a1), .val (.int (Int32.ofNat k)), .val (.int (-1 : Int32))] [(.int (-1 : Int32)), (.int (-1 : Int32))])) := c4.trans (by
      refine XS.icmpYes X2.here hx rfl (pc0 := 8) (pc' := 18) rfl (hb hby d12_8) rfl (XT.ii_ge_t k1) (by decide) (by decide) ?_
      show Steps p.tables e below (T2.setTop (mkF m 18 #[.val (.ref a1), .val (.int (Int32.ofNat k)), .val (.int (-1 : Int32))] [])) _
      refine XS.iloadN X2.here hx rfl (hb hby d12_18) rfl ?_
      show Steps p.tables e below (T2.setTop (mkF m 19 #[.val (.ref a1), .val (.int (Int32.ofNat k)), .val (.int (-1 : Int32))] [(.int (-1 : Int32))])) _
      refine XT.iconstV X2.here hx rfl (-1 : Int32) (hb hby d12_19) (by decide) ?_
      show Steps p.tables e below (T2.setTop (mkF m 20 #[.val (.ref a1), .val (.int (Int32.ofNat k)), .val (.int (-1 : Int32))] [(.int (-1 : Int32)), (.int (-1 : Int32))])) _
      exact Steps.refl _)
    by_cases k2 : (-1 : Int32) = (-1 : Int32)
    ·
      have c22 : Steps p.tables e below S0 (T2.setTop (mkF m 25 #[.val (.ref a1), .val (.int (Int32.ofNat k)), .val (.int (-1 : Int32))] [(.ref a1), (.int (Int32.ofNat k))])) := c21.trans (by
        refine XS.icmpNo X2.here hx rfl (hb hby d12_20) rfl (XT.ii_ne_f k2) ?_
        show Steps p.tables e below (T2.setTop (mkF m 23 #[.val (.ref a1), .val (.int (Int32.ofNat k)), .val (.int (-1 : Int32))] [])) _
        refine XS.iloadN X2.here hx rfl (hb hby d12_23) rfl ?_
        show Steps p.tables e below (T2.setTop (mkF m 24 #[.val (.ref a1), .val (.int (Int32.ofNat k)), .val (.int (-1 : Int32))] [(.int (Int32.ofNat k))])) _
        refine XS.aloadN X2.here hx rfl (hb hby d12_24) rfl rfl ?_
        show Steps p.tables e below (T2.setTop (mkF m 25 #[.val (.ref a1), .val (.int (Int32.ofNat k)), .val (.int (-1 : Int32))] [(.ref a1), (.int (Int32.ofNat k))])) _
        exact Steps.refl _)
      obtain ⟨T23, X23, e23, st23⟩ := getF X2 hx hZ hown (host := "") (Or.inl (hw _ (List.mem_of_getElem? (i := 12) rfl))) Via.refl e2 Fl (g := (mkF m 25 #[.val (.ref a1), .val (.int (Int32.ofNat k)), .val (.int (-1 : Int32))] [(.ref a1), (.int (Int32.ofNat k))])) rfl rfl (hb hby d12_25)
      have c24 : Steps p.tables e below S0 (T23.setTop (mkF m 28 #[.val (.ref a1), .val (.int (Int32.ofNat k)), .val (.int (-1 : Int32))] [(.ref A), (.int (Int32.ofNat k))])) := c22.trans (st23 _ (Steps.refl _))
      have cp_b10 := HA
      obtain ⟨c_b10, Ar_b10, Sz_b10, le_b10, H_b10⟩ := cp_b10
      have S_b10 : c_b10.slots.size = (Int32.ofNat nl).toNatClampNeg := by rw [own_clamp (by omega)]; exact Sz_b10
      have c25 : Steps p.tables e below S0 (T23.setTop (mkF m 29 #[.val (.ref a1), .val (.int (Int32.ofNat k)), .val (.int (-1 : Int32))] [(.int (Int32.ofNat nl)), (.int (Int32.ofNat k))])) := c24.trans (by
        refine X23.arraylength hx (by rw [e23]; exact Ar_b10.1) (State.isArrayOf_alike hZ.alike Ar_b10.2.1) (g := (mkF m 28 #[.val (.ref a1), .val (.int (Int32.ofNat k)), .val (.int (-1 : Int32))] [(.ref A), (.int (Int32.ofNat k))])) rfl rfl (hb hby d12_28) _ ?_
        rw [len_of S_b10 (own_nn (by omega))]
        show Steps p.tables e below (T23.setTop (mkF m 29 #[.val (.ref a1), .val (.int (Int32.ofNat k)), .val (.int (-1 : Int32))] [(.int (Int32.ofNat nl)), (.int (Int32.ofNat k))])) _
        exact Steps.refl _)
      by_cases k3 : (Int32.ofNat k) < (Int32.ofNat nl)
      ·
        have k3' : k < nl := (own_lt (by omega) (by omega)).mp k3
        have c26 : Steps p.tables e below S0 (T23.setTop (mkF m 33 #[.val (.ref a1), .val (.int (Int32.ofNat k)), .val (.int (-1 : Int32))] [(.ref a1)])) := c25.trans (by
          refine XS.icmpNo X23.here hx rfl (hb hby d12_29) rfl (XT.ii_ge_f k3) ?_
          show Steps p.tables e below (T23.setTop (mkF m 32 #[.val (.ref a1), .val (.int (Int32.ofNat k)), .val (.int (-1 : Int32))] [])) _
          refine XS.aloadN X23.here hx rfl (hb hby d12_32) rfl rfl ?_
          show Steps p.tables e below (T23.setTop (mkF m 33 #[.val (.ref a1), .val (.int (Int32.ofNat k)), .val (.int (-1 : Int32))] [(.ref a1)])) _
          exact Steps.refl _)
        obtain ⟨T27, X27, e27, st27⟩ := getF X23 hx hZ hown (host := "") (Or.inl (hw _ (List.mem_of_getElem? (i := 12) rfl))) Via.refl e23 Fl (g := (mkF m 33 #[.val (.ref a1), .val (.int (Int32.ofNat k)), .val (.int (-1 : Int32))] [(.ref a1)])) rfl rfl (hb hby d12_33)
        have c28 : Steps p.tables e below S0 (T27.setTop (mkF m 36 #[.val (.ref a1), .val (.int (Int32.ofNat k)), .val (.int (-1 : Int32))] [(.ref A)])) := c26.trans (st27 _ (Steps.refl _))
        have c29 : Steps p.tables e below S0 (T27.setTop (mkF m 37 #[.val (.ref a1), .val (.int (Int32.ofNat k)), .val (.int (-1 : Int32))] [(.int (Int32.ofNat k)), (.ref A)])) := c28.trans (by
          refine XS.iloadN X27.here hx rfl (hb hby d12_36) rfl ?_
          show Steps p.tables e below (T27.setTop (mkF m 37 #[.val (.ref a1), .val (.int (Int32.ofNat k)), .val (.int (-1 : Int32))] [(.int (Int32.ofNat k)), (.ref A)])) _
          exact Steps.refl _)
        have hin3 : ¬ (Int32.ofNat k < 0 ∨ c_b10.slots.size ≤ (Int32.ofNat k).toNatClampNeg) := by rw [own_clamp (by omega), Sz_b10]; exact fun q => q.elim (own_nn (by omega)) (by omega)
        have c30 : Steps p.tables e below S0 (T27.setTop (mkF m 40 #[.val (.ref a1), .val (.int (Int32.ofNat k)), .val (.int (fl k))] [(.int (fl k))])) := c29.trans (by
          refine X27.iaload hx (j := (Int32.ofNat k)) (v := (.int (fl k))) (by rw [e27]; exact Ar_b10.1) (State.isArrayOf_alike hZ.alike Ar_b10.2.1) Ar_b10.2.2 hin3 (by rw [own_clamp (by omega)]; exact H_b10 k k3') (g := (mkF m 37 #[.val (.ref a1), .val (.int (Int32.ofNat k)), .val (.int (-1 : Int32))] [(.int (Int32.ofNat k)), (.ref A)])) rfl rfl (hb hby d12_37) _ ?_
          show Steps p.tables e below (T27.setTop (mkF m 38 #[.val (.ref a1), .val (.int (Int32.ofNat k)), .val (.int (-1 : Int32))] [(.int (fl k))])) _
          refine XS.istoreN X27.here hx rfl (hb hby d12_38) rfl (l' := #[.val (.ref a1), .val (.int (Int32.ofNat k)), .val (.int (fl k))]) rfl ?_
          show Steps p.tables e below (T27.setTop (mkF m 39 #[.val (.ref a1), .val (.int (Int32.ofNat k)), .val (.int (fl k))] [])) _
          refine XS.iloadN X27.here hx rfl (hb hby d12_39) rfl ?_
          show Steps p.tables e below (T27.setTop (mkF m 40 #[.val (.ref a1), .val (.int (Int32.ofNat k)), .val (.int (fl k))] [(.int (fl k))])) _
          exact Steps.refl _)
        obtain ⟨fs, hr, hrun, hended, hW, hsame⟩ := X27.leave (v := some (.int (fl k))) (fun h => by rw [Bd.returns] at h; cases h)
        refine ⟨_, _, pre0 _ ?_, hrun, hended, _, _, rfl, ?_, ⟨_, rfl⟩, hW, hsame.mono (by decide) (by decide)⟩
        · rw [← hS0]
          exact c30.trans (retI X27 hx Bd.returns (hb hby d12_40) hr)
        · show Qrm12 Z a1 k D nd fd A nl fl h0 n0 _ T27.heap _
          rw [e27]
          exact ⟨by rw [own_e, if_neg k1', if_pos k2, if_pos k3'], N0, rfl⟩
      ·
        have k3' : ¬ k < nl := fun q => k3 ((own_lt (by omega) (by omega)).mpr q)
        have c31 : Steps p.tables e below S0 (T23.setTop (mkF m 40 #[.val (.ref a1), .val (.int (Int32.ofNat k)), .val (.int (-1 : Int32))] [(.int (-1 : Int32))])) := c25.trans (by
          refine XS.icmpYes X23.here hx rfl (pc0 := 29) (pc' := 39) rfl (hb hby d12_29) rfl (XT.ii_ge_t k3) (by decide) (by decide) ?_
          show Steps p.tables e below (T23.setTop (mkF m 39 #[.val (.ref a1), .val (.int (Int32.ofNat k)), .val (.int (-1 : Int32))] [])) _
          refine XS.iloadN X23.here hx rfl (hb hby d12_39) rfl ?_
          show Steps p.tables e below (T23.setTop (mkF m 40 #[.val (.ref a1), .val (.int (Int32.ofNat k)), .val (.int (-1 : Int32))] [(.int (-1 : Int32))])) _
          exact Steps.refl _)
        have k2v : (-1 : Int32) = -1 := k2
        obtain ⟨fs, hr, hrun, hended, hW, hsame⟩ := X23.leave (v := some (.int (-1 : Int32))) (fun h => by rw [Bd.returns] at h; cases h)
        refine ⟨_, _, pre0 _ ?_, hrun, hended, _, _, rfl, ?_, ⟨_, rfl⟩, hW, hsame.mono (by decide) (by decide)⟩
        · rw [← hS0]
          exact c31.trans (retI X23 hx Bd.returns (hb hby d12_40) hr)
        · show Qrm12 Z a1 k D nd fd A nl fl h0 n0 _ T23.heap _
          rw [e23]
          exact ⟨by rw [own_e, if_neg k1', if_pos k2, if_neg k3', k2v], N0, rfl⟩
    ·
      have c32 : Steps p.tables e below S0 (T2.setTop (mkF m 40 #[.val (.ref a1), .val (.int (Int32.ofNat k)), .val (.int (-1 : Int32))] [(.int (-1 : Int32))])) := c21.trans (by
        refine XS.icmpYes X2.here hx rfl (pc0 := 20) (pc' := 39) rfl (hb hby d12_20) rfl (XT.ii_ne_t k2) (by decide) (by decide) ?_
        show Steps p.tables e below (T2.setTop (mkF m 39 #[.val (.ref a1), .val (.int (Int32.ofNat k)), .val (.int (-1 : Int32))] [])) _
        refine XS.iloadN X2.here hx rfl (hb hby d12_39) rfl ?_
        show Steps p.tables e below (T2.setTop (mkF m 40 #[.val (.ref a1), .val (.int (Int32.ofNat k)), .val (.int (-1 : Int32))] [(.int (-1 : Int32))])) _
        exact Steps.refl _)
      obtain ⟨fs, hr, hrun, hended, hW, hsame⟩ := X2.leave (v := some (.int (-1 : Int32))) (fun h => by rw [Bd.returns] at h; cases h)
      refine ⟨_, _, pre0 _ ?_, hrun, hended, _, _, rfl, ?_, ⟨_, rfl⟩, hW, hsame.mono (by decide) (by decide)⟩
      · rw [← hS0]
        exact c32.trans (retI X2 hx Bd.returns (hb hby d12_40) hr)
      · show Qrm12 Z a1 k D nd fd A nl fl h0 n0 _ T2.heap _
        rw [e2]
        exact ⟨by rw [own_e, if_neg k1', if_neg k2], N0, rfl⟩
theorem d11_0 : decode prog_11_method_6_code 0 = .ok (.aload_n 0, 1) := by decide +kernel
theorem d11_1 : decode prog_11_method_6_code 1 = .ok (.getfield 7, 3) := by decide +kernel
theorem d11_4 : decode prog_11_method_6_code 4 = .ok (.arraylength, 1) := by decide +kernel
theorem d11_5 : decode prog_11_method_6_code 5 = .ok (.aload_n 0, 1) := by decide +kernel
theorem d11_6 : decode prog_11_method_6_code 6 = .ok (.getfield 13, 3) := by decide +kernel
theorem d11_9 : decode prog_11_method_6_code 9 = .ok (.arraylength, 1) := by decide +kernel
theorem d11_10 : decode prog_11_method_6_code 10 = .ok (.invokestatic 20, 3) := by decide +kernel
theorem d11_13 : decode prog_11_method_6_code 13 = .ok (.istore_n 2, 1) := by decide +kernel
theorem d11_14 : decode prog_11_method_6_code 14 = .ok (.iload_n 1, 1) := by decide +kernel
theorem d11_15 : decode prog_11_method_6_code 15 = .ok (.istore_n 3, 1) := by decide +kernel
theorem d11_16 : decode prog_11_method_6_code 16 = .ok (.iconst 0, 1) := by decide +kernel
theorem d11_17 : decode prog_11_method_6_code 17 = .ok (.istore 4, 2) := by decide +kernel
theorem d11_19 : decode prog_11_method_6_code 19 = .ok (.aload_n 0, 1) := by decide +kernel
theorem d11_20 : decode prog_11_method_6_code 20 = .ok (.iload_n 3, 1) := by decide +kernel
theorem d11_21 : decode prog_11_method_6_code 21 = .ok (.invokevirtual 35, 3) := by decide +kernel
theorem d11_24 : decode prog_11_method_6_code 24 = .ok (.istore 5, 2) := by decide +kernel
theorem d11_26 : decode prog_11_method_6_code 26 = .ok (.iload 5, 2) := by decide +kernel
theorem d11_28 : decode prog_11_method_6_code 28 = .ok (.iconst (-1), 1) := by decide +kernel
theorem d11_29 : decode prog_11_method_6_code 29 = .ok (.if_icmp .eq 31, 3) := by decide +kernel
theorem d11_32 : decode prog_11_method_6_code 32 = .ok (.iload 5, 2) := by decide +kernel
theorem d11_34 : decode prog_11_method_6_code 34 = .ok (.iload_n 3, 1) := by decide +kernel
theorem d11_35 : decode prog_11_method_6_code 35 = .ok (.if_icmp .eq 25, 3) := by decide +kernel
theorem d11_38 : decode prog_11_method_6_code 38 = .ok (.iload 4, 2) := by decide +kernel
theorem d11_40 : decode prog_11_method_6_code 40 = .ok (.iload_n 2, 1) := by decide +kernel
theorem d11_41 : decode prog_11_method_6_code 41 = .ok (.if_icmp .gt 19, 3) := by decide +kernel
theorem d11_44 : decode prog_11_method_6_code 44 = .ok (.iload 5, 2) := by decide +kernel
theorem d11_46 : decode prog_11_method_6_code 46 = .ok (.istore_n 3, 1) := by decide +kernel
theorem d11_47 : decode prog_11_method_6_code 47 = .ok (.aload_n 0, 1) := by decide +kernel
theorem d11_48 : decode prog_11_method_6_code 48 = .ok (.iload_n 3, 1) := by decide +kernel
theorem d11_49 : decode prog_11_method_6_code 49 = .ok (.invokevirtual 35, 3) := by decide +kernel
theorem d11_52 : decode prog_11_method_6_code 52 = .ok (.istore 5, 2) := by decide +kernel
theorem d11_54 : decode prog_11_method_6_code 54 = .ok (.iinc 4 1, 3) := by decide +kernel
theorem d11_57 : decode prog_11_method_6_code 57 = .ok (.goto (-31), 3) := by decide +kernel
theorem d11_60 : decode prog_11_method_6_code 60 = .ok (.iload 4, 2) := by decide +kernel
theorem d11_62 : decode prog_11_method_6_code 62 = .ok (.iload_n 2, 1) := by decide +kernel
theorem d11_63 : decode prog_11_method_6_code 63 = .ok (.if_icmp .le 5, 3) := by decide +kernel
theorem d11_66 : decode prog_11_method_6_code 66 = .ok (.iload_n 1, 1) := by decide +kernel
theorem d11_67 : decode prog_11_method_6_code 67 = .ok (.istore_n 3, 1) := by decide +kernel
theorem d11_68 : decode prog_11_method_6_code 68 = .ok (.iload_n 3, 1) := by decide +kernel
theorem d11_69 : decode prog_11_method_6_code 69 = .ok (.ireturn, 1) := by decide +kernel
theorem ef_11 (m : MethodId) (x0 : Addr) (x1 : Int32) : entryFrame m #[(.ref x0), (.int x1)] 6 = mkF m 0 #[.val (.ref x0), .val (.int x1), .unset, .unset, .unset, .unset] [] := by first | (simp [entryFrame, mkF, argsToLocals, Value.category]; done) | rfl
def Qrm11 (Z : State) (a1 : Addr) (k : Nat) (D : Addr) (nd : Nat) (fd : Nat → Int32) (A : Addr) (nl : Nat) (fl : Nat → Int32) (h0 : Heap) (n0 : Nat) (v : Option Value) (h : Heap) (L : List Loc) : Prop := v = some (.int (own_out (own_E nd fd nl fl) (max nd nl) (Int32.ofNat k))) ∧ Fr n0 L ∧ h = h0
set_option maxRecDepth 65536 in
set_option maxHeartbeats 40000000 in
theorem rm11 (l : Launch) (Z : State) (a0 : Array Value) (hw : ∀ d ∈ tables_1, d.before a0 Z = true) (ws : List Jvm.Cond) (a1 : Addr) (k : Nat) (D : Addr) (nd : Nat) (fd : Nat → Int32) (A : Addr) (nl : Nat) (fl : Nat → Int32) (h0 : Heap) (n0 : Nat) (Z0 : n0 ≤ h0.size) (HN : own_N Z h0 n0 a1 D nd fd A nl fl) (hk : k ≤ 15) (hok : ∀ i, i ≤ 15 → own_ok (own_e nd fd nl fl i)) :
    MetFree l (⟨"com/example/edge_keeper/edgekeeper/Nesting", "outermost", "(I)I"⟩ : MethodName) (head1 (Jvm.Cond.code (⟨"com/example/edge_keeper/edgekeeper/Nesting", "outermost", "(I)I"⟩ : MethodName) prog_11_method_6_code 6 (some .int) :: ws) ({ frames := 1, cells := 0, slots := 0, locals := 14 } : Room)) (fun a U => a = #[(.ref a1), (.int (Int32.ofNat k))] ∧ Z.Warmed39 U.vm ∧ U.heap = h0) (fun _ _ _ _ _ => True) (fun _ U o U' => ∃ v L, o = .returned v ∧ Qrm11 Z a1 k D nd fd A nl fl h0 n0 v U'.heap L ∧ FrameEnd U o U' L ({ frames := 1, cells := 0, slots := 0, locals := 14 } : Room).cells ({ frames := 1, cells := 0, slots := 0, locals := 14 } : Room).slots) := by
  refine MetFree.of_bodySF (plainFor_of_name own_pn_Nesting) hisR ?_
  intro p e s m args below meth c s₁ Bd hml0 hP hK
  obtain ⟨rfl, hZ, hh⟩ := hP
  have hx := Bd.exec
  have hby := Bd.bytes
  have hml : c.maxLocals = 6 := hml0
  have hown : s.vm.findClass "com/example/edge_keeper/edgekeeper/Nesting" = some m.cls := findClass_of_methodNamed Bd.named
  have hnm := (name_of_methodNamed Bd.named Bd.method).1
  have X0 : Stand p l e ({ frames := 1, cells := 0, slots := 0, locals := 14 } : Room) s m #[(.ref a1), (.int (Int32.ofNat k))] below meth c s₁ [] 0 0 := Stand.of_body Bd
  have e0 : s₁.heap = h0 := by rw [← hh, Bd.state]; rfl
  have N0 := Fr.nil n0
  have pre0 : ∀ t, Steps p.tables e below (s₁.setTop (mkF m 0 #[.val (.ref a1), .val (.int (Int32.ofNat k)), .unset, .unset, .unset, .unset] [])) t → Steps p.tables e below (s₁.setTop (entryFrame m #[(.ref a1), (.int (Int32.ofNat k))] 6)) t := fun t0_ k0_ => castTop (ef_11 m a1 (Int32.ofNat k)) k0_
  obtain ⟨S0, hS0⟩ : ∃ z, z = s₁.setTop (mkF m 0 #[.val (.ref a1), .val (.int (Int32.ofNat k)), .unset, .unset, .unset, .unset] []) := ⟨_, rfl⟩
  have c0 : Steps p.tables e below S0 (s₁.setTop (mkF m 0 #[.val (.ref a1), .val (.int (Int32.ofNat k)), .unset, .unset, .unset, .unset] [])) := by rw [hS0]; exact Steps.refl _
  have HN' := HN
  obtain ⟨E1, Fd, Fl, HD, HA, nDA, nbD, nbA, gb, gD, gA, gs⟩ := HN'
  have c1 : Steps p.tables e below S0 (s₁.setTop (mkF m 1 #[.val (.ref a1), .val (.int (Int32.ofNat k)), .unset, .unset, .unset, .unset] [(.ref a1)])) := c0.trans (by
    refine XS.aloadN X0.here hx rfl (hb hby d11_0) rfl rfl ?_
    show Steps p.tables e below (s₁.setTop (mkF m 1 #[.val (.ref a1), .val (.int (Int32.ofNat k)), .unset, .unset, .unset, .unset] [(.ref a1)])) _
    exact Steps.refl _)
  obtain ⟨T2, X2, e2, st2⟩ := getF X0 hx hZ hown (host := "") (Or.inl (hw _ (List.mem_of_getElem? (i := 10) rfl))) Via.refl e0 Fd (g := (mkF m 1 #[.val (.ref a1), .val (.int (Int32.ofNat k)), .unset, .unset, .unset, .unset] [(.ref a1)])) rfl rfl (hb hby d11_1)
  have c3 : Steps p.tables e below S0 (T2.setTop (mkF m 4 #[.val (.ref a1), .val (.int (Int32.ofNat k)), .unset, .unset, .unset, .unset] [(.ref D)])) := c1.trans (st2 _ (Steps.refl _))
  have cp_a := HD
  obtain ⟨c_a, Ar_a, Sz_a, le_a, H_a⟩ := cp_a
  have S_a : c_a.slots.size = (Int32.ofNat nd).toNatClampNeg := by rw [own_clamp (by omega)]; exact Sz_a
  have c4 : Steps p.tables e below S0 (T2.setTop (mkF m 6 #[.val (.ref a1), .val (.int (Int32.ofNat k)), .unset, .unset, .unset, .unset] [(.ref a1), (.int (Int32.ofNat nd))])) := c3.trans (by
    refine X2.arraylength hx (by rw [e2]; exact Ar_a.1) (State.isArrayOf_alike hZ.alike Ar_a.2.1) (g := (mkF m 4 #[.val (.ref a1), .val (.int (Int32.ofNat k)), .unset, .unset, .unset, .unset] [(.ref D)])) rfl rfl (hb hby d11_4) _ ?_
    rw [len_of S_a (own_nn (by omega))]
    show Steps p.tables e below (T2.setTop (mkF m 5 #[.val (.ref a1), .val (.int (Int32.ofNat k)), .unset, .unset, .unset, .unset] [(.int (Int32.ofNat nd))])) _
    refine XS.aloadN X2.here hx rfl (hb hby d11_5) rfl rfl ?_
    show Steps p.tables e below (T2.setTop (mkF m 6 #[.val (.ref a1), .val (.int (Int32.ofNat k)), .unset, .unset, .unset, .unset] [(.ref a1), (.int (Int32.ofNat nd))])) _
    exact Steps.refl _)
  obtain ⟨T5, X5, e5, st5⟩ := getF X2 hx hZ hown (host := "") (Or.inl (hw _ (List.mem_of_getElem? (i := 12) rfl))) Via.refl e2 Fl (g := (mkF m 6 #[.val (.ref a1), .val (.int (Int32.ofNat k)), .unset, .unset, .unset, .unset] [(.ref a1), (.int (Int32.ofNat nd))])) rfl rfl (hb hby d11_6)
  have c6 : Steps p.tables e below S0 (T5.setTop (mkF m 9 #[.val (.ref a1), .val (.int (Int32.ofNat k)), .unset, .unset, .unset, .unset] [(.ref A), (.int (Int32.ofNat nd))])) := c4.trans (st5 _ (Steps.refl _))
  have cp_b := HA
  obtain ⟨c_b, Ar_b, Sz_b, le_b, H_b⟩ := cp_b
  have S_b : c_b.slots.size = (Int32.ofNat nl).toNatClampNeg := by rw [own_clamp (by omega)]; exact Sz_b
  have c7 : Steps p.tables e below S0 (T5.setTop (mkF m 10 #[.val (.ref a1), .val (.int (Int32.ofNat k)), .unset, .unset, .unset, .unset] [(.int (Int32.ofNat nl)), (.int (Int32.ofNat nd))])) := c6.trans (by
    refine X5.arraylength hx (by rw [e5]; exact Ar_b.1) (State.isArrayOf_alike hZ.alike Ar_b.2.1) (g := (mkF m 9 #[.val (.ref a1), .val (.int (Int32.ofNat k)), .unset, .unset, .unset, .unset] [(.ref A), (.int (Int32.ofNat nd))])) rfl rfl (hb hby d11_9) _ ?_
    rw [len_of S_b (own_nn (by omega))]
    show Steps p.tables e below (T5.setTop (mkF m 10 #[.val (.ref a1), .val (.int (Int32.ofNat k)), .unset, .unset, .unset, .unset] [(.int (Int32.ofNat nl)), (.int (Int32.ofNat nd))])) _
    exact Steps.refl _)
  obtain ⟨_, _, ⟨T8, L8, k8, n8⟩, -, X8, hQ8, st8⟩ := Jvm.LawKit.callS X5 hx (y := (⟨"java/lang/Math", "max", "(II)I"⟩ : MethodName)) hown (mvT hZ (hw _ (List.mem_of_getElem? (i := 22) rfl))) (mvT hZ (hw _ (List.mem_of_getElem? (i := 23) rfl))) (mvT hZ (hw _ (List.mem_of_getElem? (i := 24) rfl))) (mvT hZ (hw _ (List.mem_of_getElem? (i := 25) rfl))) (by decide) (Jvm.Free.JP.Math_max_II.pays (W := 0) (Int32.ofNat nd) (Int32.ofNat nl) (own_max_tab (mvT hZ (hw _ (List.mem_of_getElem? (i := 25) rfl))) (mvT hZ (hw _ (List.mem_of_getElem? (i := 24) rfl)))) (by decide) (by decide)) (g := (mkF m 10 #[.val (.ref a1), .val (.int (Int32.ofNat k)), .unset, .unset, .unset, .unset] [(.int (Int32.ofNat nl)), (.int (Int32.ofNat nd))])) rfl (by rw [hml]; rfl) (argsL := [(.int (Int32.ofNat nd)), (.int (Int32.ofNat nl))]) (rest := []) (lenOf own_pd__II_I rfl) rfl (by show 2 * 0 + _ ≤ _; exact Nat.le_of_eq rfl) (hb hby d11_10) (fun _ _ => ⟨Nat.le_of_ble_eq_true rfl, Nat.le_of_ble_eq_true rfl, rfl, trivial⟩)
  dsimp only [Pt.U, Pt.locs, Pt.cells, Pt.slots] at X8 hQ8 st8
  obtain ⟨⟨rfl, eh8⟩, l8, y8, z8⟩ := hQ8
  subst l8 y8 z8
  have eq8 : T8.heap = h0 := eh8.trans e5
  have N8 := Fr.app N0 (Fr.nil n0)
  have c9 : Steps p.tables e below S0 (T8.setTop (mkF m 13 #[.val (.ref a1), .val (.int (Int32.ofNat k)), .unset, .unset, .unset, .unset] [(.int (Jvm.Free.JP.Math_max_II.val (Int32.ofNat nd) (Int32.ofNat nl)))])) := c7.trans (st8 _ (Steps.refl _))
  obtain ⟨sl, hsl⟩ : ∃ z, z = max nd nl := ⟨_, rfl⟩
  have sl32 : sl ≤ 32 := by omega
  have hr10 : (Jvm.Free.JP.Math_max_II.val (Int32.ofNat nd) (Int32.ofNat nl)) = (Int32.ofNat sl) := by rw [own_max (by omega) (by omega), ← hsl]
  rw [hr10] at c9
  have c11 : Steps p.tables e below S0 (T8.setTop (mkF m 21 #[.val (.ref a1), .val (.int (Int32.ofNat k)), .val (.int (Int32.ofNat sl)), .val (.int (Int32.ofNat k)), .val (.int (0 : Int32)), .unset] [(.int (Int32.ofNat k)), (.ref a1)])) := c9.trans (by
    refine XS.istoreN X8.here hx rfl (hb hby d11_13) rfl (l' := #[.val (.ref a1), .val (.int (Int32.ofNat k)), .val (.int (Int32.ofNat sl)), .unset, .unset, .unset]) rfl ?_
    show Steps p.tables e below (T8.setTop (mkF m 14 #[.val (.ref a1), .val (.int (Int32.ofNat k)), .val (.int (Int32.ofNat sl)), .unset, .unset, .unset] [])) _
    refine XS.iloadN X8.here hx rfl (hb hby d11_14) rfl ?_
    show Steps p.tables e below (T8.setTop (mkF m 15 #[.val (.ref a1), .val (.int (Int32.ofNat k)), .val (.int (Int32.ofNat sl)), .unset, .unset, .unset] [(.int (Int32.ofNat k))])) _
    refine XS.istoreN X8.here hx rfl (hb hby d11_15) rfl (l' := #[.val (.ref a1), .val (.int (Int32.ofNat k)), .val (.int (Int32.ofNat sl)), .val (.int (Int32.ofNat k)), .unset, .unset]) rfl ?_
    show Steps p.tables e below (T8.setTop (mkF m 16 #[.val (.ref a1), .val (.int (Int32.ofNat k)), .val (.int (Int32.ofNat sl)), .val (.int (Int32.ofNat k)), .unset, .unset] [])) _
    refine XT.iconstV X8.here hx rfl (0 : Int32) (hb hby d11_16) (by decide) ?_
    show Steps p.tables e below (T8.setTop (mkF m 17 #[.val (.ref a1), .val (.int (Int32.ofNat k)), .val (.int (Int32.ofNat sl)), .val (.int (Int32.ofNat k)), .unset, .unset] [(.int (0 : Int32))])) _
    refine XS.istore X8.here hx rfl (hb hby d11_17) rfl (l' := #[.val (.ref a1), .val (.int (Int32.ofNat k)), .val (.int (Int32.ofNat sl)), .val (.int (Int32.ofNat k)), .val (.int (0 : Int32)), .unset]) rfl ?_
    show Steps p.tables e below (T8.setTop (mkF m 19 #[.val (.ref a1), .val (.int (Int32.ofNat k)), .val (.int (Int32.ofNat sl)), .val (.int (Int32.ofNat k)), .val (.int (0 : Int32)), .unset] [])) _
    refine XS.aloadN X8.here hx rfl (hb hby d11_19) rfl rfl ?_
    show Steps p.tables e below (T8.setTop (mkF m 20 #[.val (.ref a1), .val (.int (Int32.ofNat k)), .val (.int (Int32.ofNat sl)), .val (.int (Int32.ofNat k)), .val (.int (0 : Int32)), .unset] [(.ref a1)])) _
    refine XS.iloadN X8.here hx rfl (hb hby d11_20) rfl ?_
    show Steps p.tables e below (T8.setTop (mkF m 21 #[.val (.ref a1), .val (.int (Int32.ofNat k)), .val (.int (Int32.ofNat sl)), .val (.int (Int32.ofNat k)), .val (.int (0 : Int32)), .unset] [(.int (Int32.ofNat k)), (.ref a1)])) _
    exact Steps.refl _)
  obtain ⟨cq12, q12, q12'⟩ := HN.1.cell
  obtain ⟨_, _, ⟨T12, L12, k12, n12⟩, -, X12, hQ12, st12⟩ := X8.privateBack hx (y := (⟨"com/example/edge_keeper/edgekeeper/Nesting", "enclosing", "(I)I"⟩ : MethodName)) hown (mvT hZ (hw _ (List.mem_of_getElem? (i := 53) rfl))) (mvT hZ (hw _ (List.mem_of_getElem? (i := 54) rfl))) (Jvm.Kit.selects_private (by decide) (mvT hZ (hw _ (List.mem_of_getElem? (i := 1) rfl))) (mvP hZ (hw _ (List.mem_of_getElem? (i := 55) rfl))) (mvT hZ (hw _ (List.mem_of_getElem? (i := 54) rfl)))) (Cond.privateMethod_at (mvP hZ (hw _ (List.mem_of_getElem? (i := 55) rfl)) (args := #[]))) (mvT hZ (hw _ (List.mem_of_getElem? (i := 56) rfl))) (by decide) (backOf (W := 0) (rm12 l Z a0 hw [] a1 k D nd fd A nl fl h0 n0 Z0 HN hk) hZ (hw _ (List.mem_of_getElem? (i := 56) rfl)) (hw _ (List.mem_of_getElem? (i := 2) rfl)) (by decide) (by decide)) (g := (mkF m 21 #[.val (.ref a1), .val (.int (Int32.ofNat k)), .val (.int (Int32.ofNat sl)), .val (.int (Int32.ofNat k)), .val (.int (0 : Int32)), .unset] [(.int (Int32.ofNat k)), (.ref a1)])) rfl (by rw [hml]; rfl) (Steps.refl _) (a := a1) (by rw [eq8]; exact q12) q12' (argsL := [(.int (Int32.ofNat k))]) (rest := []) (lenOf own_pd__I_I rfl) rfl (by show 2 * 0 + _ ≤ _; exact Nat.le_of_eq rfl) (hb hby d11_21) (fun _ _ => ⟨rfl, eq8, Nat.le_of_ble_eq_true rfl, Nat.le_of_ble_eq_true rfl⟩)
  dsimp only [Pt.U, Pt.locs, Pt.cells, Pt.slots] at X12 hQ12 st12
  obtain ⟨Lc12, hR12, l12, y12, z12⟩ := hQ12
  subst l12 y12 z12
  obtain ⟨rfl, Nq12, eh12⟩ := hR12
  have N12 := Fr.app N8 Nq12
  have c13 : Steps p.tables e below S0 (T12.setTop (mkF m 24 #[.val (.ref a1), .val (.int (Int32.ofNat k)), .val (.int (Int32.ofNat sl)), .val (.int (Int32.ofNat k)), .val (.int (0 : Int32)), .unset] [(.int (own_e nd fd nl fl k))])) := c11.trans (st12)
  have c14 : Steps p.tables e below S0 (T12.setTop (mkF m 26 #[.val (.ref a1), .val (.int (Int32.ofNat k)), .val (.int (Int32.ofNat sl)), .val (.int (Int32.ofNat k)), .val (.int (0 : Int32)), .val (.int (own_e nd fd nl fl k))] [])) := c13.trans (by
    refine XS.istore X12.here hx rfl (hb hby d11_24) rfl (l' := #[.val (.ref a1), .val (.int (Int32.ofNat k)), .val (.int (Int32.ofNat sl)), .val (.int (Int32.ofNat k)), .val (.int (0 : Int32)), .val (.int (own_e nd fd nl fl k))]) rfl ?_
    show Steps p.tables e below (T12.setTop (mkF m 26 #[.val (.ref a1), .val (.int (Int32.ofNat k)), .val (.int (Int32.ofNat sl)), .val (.int (Int32.ofNat k)), .val (.int (0 : Int32)), .val (.int (own_e nd fd nl fl k))] [])) _
    exact Steps.refl _)
  have hr15 : (0 : Int32) = (Int32.ofNat 0) := rfl
  rw [hr15] at c14
  have heE : ∀ i, i ≤ 15 → (own_E nd fd nl fl) (Int32.ofNat i) = own_e nd fd nl fl i := fun i hi => by rw [own_E, own_clamp (by omega)]
  have loop : ∀ (fu st : Nat) (tp ou : Int32) (T : State) (Ls : List Loc), st + fu = sl + 2 → own_ok ou → T.heap = h0 → Fr n0 Ls → Stand p l e ({ frames := 1, cells := 0, slots := 0, locals := 14 } : Room) s m #[(.ref a1), (.int (Int32.ofNat k))] below meth c T Ls 0 0 → Steps p.tables e below S0 (T.setTop (mkF m 26 #[.val (.ref a1), .val (.int (Int32.ofNat k)), .val (.int (Int32.ofNat sl)), .val (.int tp), .val (.int (Int32.ofNat st)), .val (.int ou)] [])) →
      ∃ (T' : State) (Ls' : List Loc) (ou' : Int32), (own_loop (own_E nd fd nl fl) sl fu tp ou st).2 ≤ sl + 2 ∧ T'.heap = h0 ∧ Fr n0 Ls' ∧ Stand p l e ({ frames := 1, cells := 0, slots := 0, locals := 14 } : Room) s m #[(.ref a1), (.int (Int32.ofNat k))] below meth c T' Ls' 0 0 ∧ Steps p.tables e below S0 (T'.setTop (mkF m 60 #[.val (.ref a1), .val (.int (Int32.ofNat k)), .val (.int (Int32.ofNat sl)), .val (.int (own_loop (own_E nd fd nl fl) sl fu tp ou st).1), .val (.int (Int32.ofNat (own_loop (own_E nd fd nl fl) sl fu tp ou st).2)), .val (.int ou')] [])) := by
    intro fu
    induction fu with
    | zero =>
      intro st tp ou T Ls hst ho hT hN X0 c0
      have c16 : Steps p.tables e below S0 (T.setTop (mkF m 29 #[.val (.ref a1), .val (.int (Int32.ofNat k)), .val (.int (Int32.ofNat sl)), .val (.int tp), .val (.int (Int32.ofNat st)), .val (.int ou)] [(.int (-1 : Int32)), (.int ou)])) := c0.trans (by
        refine XS.iload X0.here hx rfl (hb hby d11_26) rfl ?_
        show Steps p.tables e below (T.setTop (mkF m 28 #[.val (.ref a1), .val (.int (Int32.ofNat k)), .val (.int (Int32.ofNat sl)), .val (.int tp), .val (.int (Int32.ofNat st)), .val (.int ou)] [(.int ou)])) _
        refine XT.iconstV X0.here hx rfl (-1 : Int32) (hb hby d11_28) (by decide) ?_
        show Steps p.tables e below (T.setTop (mkF m 29 #[.val (.ref a1), .val (.int (Int32.ofNat k)), .val (.int (Int32.ofNat sl)), .val (.int tp), .val (.int (Int32.ofNat st)), .val (.int ou)] [(.int (-1 : Int32)), (.int ou)])) _
        exact Steps.refl _)
      by_cases k1 : ou = (-1 : Int32)
      ·
        have c17 : Steps p.tables e below S0 (T.setTop (mkF m 60 #[.val (.ref a1), .val (.int (Int32.ofNat k)), .val (.int (Int32.ofNat sl)), .val (.int tp), .val (.int (Int32.ofNat st)), .val (.int ou)] [])) := c16.trans (by
          refine XS.icmpYes X0.here hx rfl (pc0 := 29) (pc' := 60) rfl (hb hby d11_29) rfl (XT.ii_eq_t k1) (by decide) (by decide) ?_
          show Steps p.tables e below (T.setTop (mkF m 60 #[.val (.ref a1), .val (.int (Int32.ofNat k)), .val (.int (Int32.ofNat sl)), .val (.int tp), .val (.int (Int32.ofNat st)), .val (.int ou)] [])) _
          exact Steps.refl _)
        have hL : own_loop (own_E nd fd nl fl) sl 0 tp ou st = (tp, st) := by rfl
        rw [hL]
        exact ⟨T, Ls, ou, by show st ≤ sl + 2; omega, hT, hN, X0, c17⟩
      ·
        have c18 : Steps p.tables e below S0 (T.setTop (mkF m 35 #[.val (.ref a1), .val (.int (Int32.ofNat k)), .val (.int (Int32.ofNat sl)), .val (.int tp), .val (.int (Int32.ofNat st)), .val (.int ou)] [(.int tp), (.int ou)])) := c16.trans (by
          refine XS.icmpNo X0.here hx rfl (hb hby d11_29) rfl (XT.ii_eq_f k1) ?_
          show Steps p.tables e below (T.setTop (mkF m 32 #[.val (.ref a1), .val (.int (Int32.ofNat k)), .val (.int (Int32.ofNat sl)), .val (.int tp), .val (.int (Int32.ofNat st)), .val (.int ou)] [])) _
          refine XS.iload X0.here hx rfl (hb hby d11_32) rfl ?_
          show Steps p.tables e below (T.setTop (mkF m 34 #[.val (.ref a1), .val (.int (Int32.ofNat k)), .val (.int (Int32.ofNat sl)), .val (.int tp), .val (.int (Int32.ofNat st)), .val (.int ou)] [(.int ou)])) _
          refine XS.iloadN X0.here hx rfl (hb hby d11_34) rfl ?_
          show Steps p.tables e below (T.setTop (mkF m 35 #[.val (.ref a1), .val (.int (Int32.ofNat k)), .val (.int (Int32.ofNat sl)), .val (.int tp), .val (.int (Int32.ofNat st)), .val (.int ou)] [(.int tp), (.int ou)])) _
          exact Steps.refl _)
        by_cases k2 : ou = tp
        ·
          have c19 : Steps p.tables e below S0 (T.setTop (mkF m 60 #[.val (.ref a1), .val (.int (Int32.ofNat k)), .val (.int (Int32.ofNat sl)), .val (.int tp), .val (.int (Int32.ofNat st)), .val (.int ou)] [])) := c18.trans (by
            refine XS.icmpYes X0.here hx rfl (pc0 := 35) (pc' := 60) rfl (hb hby d11_35) rfl (XT.ii_eq_t k2) (by decide) (by decide) ?_
            show Steps p.tables e below (T.setTop (mkF m 60 #[.val (.ref a1), .val (.int (Int32.ofNat k)), .val (.int (Int32.ofNat sl)), .val (.int tp), .val (.int (Int32.ofNat st)), .val (.int ou)] [])) _
            exact Steps.refl _)
          have hL : own_loop (own_E nd fd nl fl) sl 0 tp ou st = (tp, st) := by rfl
          rw [hL]
          exact ⟨T, Ls, ou, by show st ≤ sl + 2; omega, hT, hN, X0, c19⟩
        ·
          have c20 : Steps p.tables e below S0 (T.setTop (mkF m 41 #[.val (.ref a1), .val (.int (Int32.ofNat k)), .val (.int (Int32.ofNat sl)), .val (.int tp), .val (.int (Int32.ofNat st)), .val (.int ou)] [(.int (Int32.ofNat sl)), (.int (Int32.ofNat st))])) := c18.trans (by
            refine XS.icmpNo X0.here hx rfl (hb hby d11_35) rfl (XT.ii_eq_f k2) ?_
            show Steps p.tables e below (T.setTop (mkF m 38 #[.val (.ref a1), .val (.int (Int32.ofNat k)), .val (.int (Int32.ofNat sl)), .val (.int tp), .val (.int (Int32.ofNat st)), .val (.int ou)] [])) _
            refine XS.iload X0.here hx rfl (hb hby d11_38) rfl ?_
            show Steps p.tables e below (T.setTop (mkF m 40 #[.val (.ref a1), .val (.int (Int32.ofNat k)), .val (.int (Int32.ofNat sl)), .val (.int tp), .val (.int (Int32.ofNat st)), .val (.int ou)] [(.int (Int32.ofNat st))])) _
            refine XS.iloadN X0.here hx rfl (hb hby d11_40) rfl ?_
            show Steps p.tables e below (T.setTop (mkF m 41 #[.val (.ref a1), .val (.int (Int32.ofNat k)), .val (.int (Int32.ofNat sl)), .val (.int tp), .val (.int (Int32.ofNat st)), .val (.int ou)] [(.int (Int32.ofNat sl)), (.int (Int32.ofNat st))])) _
            exact Steps.refl _)
          by_cases k3 : (Int32.ofNat sl) < (Int32.ofNat st)
          ·
            have k3' : sl < st := (own_lt (by omega) (by omega)).mp k3
            have c21 : Steps p.tables e below S0 (T.setTop (mkF m 60 #[.val (.ref a1), .val (.int (Int32.ofNat k)), .val (.int (Int32.ofNat sl)), .val (.int tp), .val (.int (Int32.ofNat st)), .val (.int ou)] [])) := c20.trans (by
              refine XS.icmpYes X0.here hx rfl (pc0 := 41) (pc' := 60) rfl (hb hby d11_41) rfl (XT.ii_gt_t k3) (by decide) (by decide) ?_
              show Steps p.tables e below (T.setTop (mkF m 60 #[.val (.ref a1), .val (.int (Int32.ofNat k)), .val (.int (Int32.ofNat sl)), .val (.int tp), .val (.int (Int32.ofNat st)), .val (.int ou)] [])) _
              exact Steps.refl _)
            have hL : own_loop (own_E nd fd nl fl) sl 0 tp ou st = (tp, st) := by rfl
            rw [hL]
            exact ⟨T, Ls, ou, by show st ≤ sl + 2; omega, hT, hN, X0, c21⟩
          ·
            have k3' : ¬ sl < st := fun q => k3 ((own_lt (by omega) (by omega)).mpr q)
            exact absurd hst (by omega)
    | succ fu ih =>
      intro st tp ou T Ls hst ho hT hN X0 c0
      have c22 : Steps p.tables e below S0 (T.setTop (mkF m 29 #[.val (.ref a1), .val (.int (Int32.ofNat k)), .val (.int (Int32.ofNat sl)), .val (.int tp), .val (.int (Int32.ofNat st)), .val (.int ou)] [(.int (-1 : Int32)), (.int ou)])) := c0.trans (by
        refine XS.iload X0.here hx rfl (hb hby d11_26) rfl ?_
        show Steps p.tables e below (T.setTop (mkF m 28 #[.val (.ref a1), .val (.int (Int32.ofNat k)), .val (.int (Int32.ofNat sl)), .val (.int tp), .val (.int (Int32.ofNat st)), .val (.int ou)] [(.int ou)])) _
        refine XT.iconstV X0.here hx rfl (-1 : Int32) (hb hby d11_28) (by decide) ?_
        show Steps p.tables e below (T.setTop (mkF m 29 #[.val (.ref a1), .val (.int (Int32.ofNat k)), .val (.int (Int32.ofNat sl)), .val (.int tp), .val (.int (Int32.ofNat st)), .val (.int ou)] [(.int (-1 : Int32)), (.int ou)])) _
        exact Steps.refl _)
      by_cases k1 : ou = (-1 : Int32)
      ·
        have c23 : Steps p.tables e below S0 (T.setTop (mkF m 60 #[.val (.ref a1), .val (.int (Int32.ofNat k)), .val (.int (Int32.ofNat sl)), .val (.int tp), .val (.int (Int32.ofNat st)), .val (.int ou)] [])) := c22.trans (by
          refine XS.icmpYes X0.here hx rfl (pc0 := 29) (pc' := 60) rfl (hb hby d11_29) rfl (XT.ii_eq_t k1) (by decide) (by decide) ?_
          show Steps p.tables e below (T.setTop (mkF m 60 #[.val (.ref a1), .val (.int (Int32.ofNat k)), .val (.int (Int32.ofNat sl)), .val (.int tp), .val (.int (Int32.ofNat st)), .val (.int ou)] [])) _
          exact Steps.refl _)
        have hL : own_loop (own_E nd fd nl fl) sl (fu + 1) tp ou st = (tp, st) := by rw [own_loop, if_pos k1]
        rw [hL]
        exact ⟨T, Ls, ou, by show st ≤ sl + 2; omega, hT, hN, X0, c23⟩
      ·
        have c24 : Steps p.tables e below S0 (T.setTop (mkF m 35 #[.val (.ref a1), .val (.int (Int32.ofNat k)), .val (.int (Int32.ofNat sl)), .val (.int tp), .val (.int (Int32.ofNat st)), .val (.int ou)] [(.int tp), (.int ou)])) := c22.trans (by
          refine XS.icmpNo X0.here hx rfl (hb hby d11_29) rfl (XT.ii_eq_f k1) ?_
          show Steps p.tables e below (T.setTop (mkF m 32 #[.val (.ref a1), .val (.int (Int32.ofNat k)), .val (.int (Int32.ofNat sl)), .val (.int tp), .val (.int (Int32.ofNat st)), .val (.int ou)] [])) _
          refine XS.iload X0.here hx rfl (hb hby d11_32) rfl ?_
          show Steps p.tables e below (T.setTop (mkF m 34 #[.val (.ref a1), .val (.int (Int32.ofNat k)), .val (.int (Int32.ofNat sl)), .val (.int tp), .val (.int (Int32.ofNat st)), .val (.int ou)] [(.int ou)])) _
          refine XS.iloadN X0.here hx rfl (hb hby d11_34) rfl ?_
          show Steps p.tables e below (T.setTop (mkF m 35 #[.val (.ref a1), .val (.int (Int32.ofNat k)), .val (.int (Int32.ofNat sl)), .val (.int tp), .val (.int (Int32.ofNat st)), .val (.int ou)] [(.int tp), (.int ou)])) _
          exact Steps.refl _)
        by_cases k2 : ou = tp
        ·
          have c25 : Steps p.tables e below S0 (T.setTop (mkF m 60 #[.val (.ref a1), .val (.int (Int32.ofNat k)), .val (.int (Int32.ofNat sl)), .val (.int tp), .val (.int (Int32.ofNat st)), .val (.int ou)] [])) := c24.trans (by
            refine XS.icmpYes X0.here hx rfl (pc0 := 35) (pc' := 60) rfl (hb hby d11_35) rfl (XT.ii_eq_t k2) (by decide) (by decide) ?_
            show Steps p.tables e below (T.setTop (mkF m 60 #[.val (.ref a1), .val (.int (Int32.ofNat k)), .val (.int (Int32.ofNat sl)), .val (.int tp), .val (.int (Int32.ofNat st)), .val (.int ou)] [])) _
            exact Steps.refl _)
          have hL : own_loop (own_E nd fd nl fl) sl (fu + 1) tp ou st = (tp, st) := by rw [own_loop, if_neg k1, if_pos k2]
          rw [hL]
          exact ⟨T, Ls, ou, by show st ≤ sl + 2; omega, hT, hN, X0, c25⟩
        ·
          have c26 : Steps p.tables e below S0 (T.setTop (mkF m 41 #[.val (.ref a1), .val (.int (Int32.ofNat k)), .val (.int (Int32.ofNat sl)), .val (.int tp), .val (.int (Int32.ofNat st)), .val (.int ou)] [(.int (Int32.ofNat sl)), (.int (Int32.ofNat st))])) := c24.trans (by
            refine XS.icmpNo X0.here hx rfl (hb hby d11_35) rfl (XT.ii_eq_f k2) ?_
            show Steps p.tables e below (T.setTop (mkF m 38 #[.val (.ref a1), .val (.int (Int32.ofNat k)), .val (.int (Int32.ofNat sl)), .val (.int tp), .val (.int (Int32.ofNat st)), .val (.int ou)] [])) _
            refine XS.iload X0.here hx rfl (hb hby d11_38) rfl ?_
            show Steps p.tables e below (T.setTop (mkF m 40 #[.val (.ref a1), .val (.int (Int32.ofNat k)), .val (.int (Int32.ofNat sl)), .val (.int tp), .val (.int (Int32.ofNat st)), .val (.int ou)] [(.int (Int32.ofNat st))])) _
            refine XS.iloadN X0.here hx rfl (hb hby d11_40) rfl ?_
            show Steps p.tables e below (T.setTop (mkF m 41 #[.val (.ref a1), .val (.int (Int32.ofNat k)), .val (.int (Int32.ofNat sl)), .val (.int tp), .val (.int (Int32.ofNat st)), .val (.int ou)] [(.int (Int32.ofNat sl)), (.int (Int32.ofNat st))])) _
            exact Steps.refl _)
          by_cases k3 : (Int32.ofNat sl) < (Int32.ofNat st)
          ·
            have k3' : sl < st := (own_lt (by omega) (by omega)).mp k3
            have c27 : Steps p.tables e below S0 (T.setTop (mkF m 60 #[.val (.ref a1), .val (.int (Int32.ofNat k)), .val (.int (Int32.ofNat sl)), .val (.int tp), .val (.int (Int32.ofNat st)), .val (.int ou)] [])) := c26.trans (by
              refine XS.icmpYes X0.here hx rfl (pc0 := 41) (pc' := 60) rfl (hb hby d11_41) rfl (XT.ii_gt_t k3) (by decide) (by decide) ?_
              show Steps p.tables e below (T.setTop (mkF m 60 #[.val (.ref a1), .val (.int (Int32.ofNat k)), .val (.int (Int32.ofNat sl)), .val (.int tp), .val (.int (Int32.ofNat st)), .val (.int ou)] [])) _
              exact Steps.refl _)
            have hL : own_loop (own_E nd fd nl fl) sl (fu + 1) tp ou st = (tp, st) := by rw [own_loop, if_neg k1, if_neg k2, if_pos k3']
            rw [hL]
            exact ⟨T, Ls, ou, by show st ≤ sl + 2; omega, hT, hN, X0, c27⟩
          ·
            have k3' : ¬ sl < st := fun q => k3 ((own_lt (by omega) (by omega)).mpr q)
            obtain ⟨i, hi, hoi⟩ := ho.resolve_left k1
            have c28 : Steps p.tables e below S0 (T.setTop (mkF m 47 #[.val (.ref a1), .val (.int (Int32.ofNat k)), .val (.int (Int32.ofNat sl)), .val (.int ou), .val (.int (Int32.ofNat st)), .val (.int ou)] [])) := c26.trans (by
              refine XS.icmpNo X0.here hx rfl (hb hby d11_41) rfl (XT.ii_gt_f k3) ?_
              show Steps p.tables e below (T.setTop (mkF m 44 #[.val (.ref a1), .val (.int (Int32.ofNat k)), .val (.int (Int32.ofNat sl)), .val (.int tp), .val (.int (Int32.ofNat st)), .val (.int ou)] [])) _
              refine XS.iload X0.here hx rfl (hb hby d11_44) rfl ?_
              show Steps p.tables e below (T.setTop (mkF m 46 #[.val (.ref a1), .val (.int (Int32.ofNat k)), .val (.int (Int32.ofNat sl)), .val (.int tp), .val (.int (Int32.ofNat st)), .val (.int ou)] [(.int ou)])) _
              refine XS.istoreN X0.here hx rfl (hb hby d11_46) rfl (l' := #[.val (.ref a1), .val (.int (Int32.ofNat k)), .val (.int (Int32.ofNat sl)), .val (.int ou), .val (.int (Int32.ofNat st)), .val (.int ou)]) rfl ?_
              show Steps p.tables e below (T.setTop (mkF m 47 #[.val (.ref a1), .val (.int (Int32.ofNat k)), .val (.int (Int32.ofNat sl)), .val (.int ou), .val (.int (Int32.ofNat st)), .val (.int ou)] [])) _
              exact Steps.refl _)
            have hr29 : ou = (Int32.ofNat i) := hoi
            rw [hr29] at c28
            have c30 : Steps p.tables e below S0 (T.setTop (mkF m 49 #[.val (.ref a1), .val (.int (Int32.ofNat k)), .val (.int (Int32.ofNat sl)), .val (.int (Int32.ofNat i)), .val (.int (Int32.ofNat st)), .val (.int (Int32.ofNat i))] [(.int (Int32.ofNat i)), (.ref a1)])) := c28.trans (by
              refine XS.aloadN X0.here hx rfl (hb hby d11_47) rfl rfl ?_
              show Steps p.tables e below (T.setTop (mkF m 48 #[.val (.ref a1), .val (.int (Int32.ofNat k)), .val (.int (Int32.ofNat sl)), .val (.int (Int32.ofNat i)), .val (.int (Int32.ofNat st)), .val (.int (Int32.ofNat i))] [(.ref a1)])) _
              refine XS.iloadN X0.here hx rfl (hb hby d11_48) rfl ?_
              show Steps p.tables e below (T.setTop (mkF m 49 #[.val (.ref a1), .val (.int (Int32.ofNat k)), .val (.int (Int32.ofNat sl)), .val (.int (Int32.ofNat i)), .val (.int (Int32.ofNat st)), .val (.int (Int32.ofNat i))] [(.int (Int32.ofNat i)), (.ref a1)])) _
              exact Steps.refl _)
            obtain ⟨cq31, q31, q31'⟩ := HN.1.cell
            obtain ⟨_, _, ⟨T31, L31, k31, n31⟩, -, X31, hQ31, st31⟩ := X0.privateBack hx (y := (⟨"com/example/edge_keeper/edgekeeper/Nesting", "enclosing", "(I)I"⟩ : MethodName)) hown (mvT hZ (hw _ (List.mem_of_getElem? (i := 53) rfl))) (mvT hZ (hw _ (List.mem_of_getElem? (i := 54) rfl))) (Jvm.Kit.selects_private (by decide) (mvT hZ (hw _ (List.mem_of_getElem? (i := 1) rfl))) (mvP hZ (hw _ (List.mem_of_getElem? (i := 55) rfl))) (mvT hZ (hw _ (List.mem_of_getElem? (i := 54) rfl)))) (Cond.privateMethod_at (mvP hZ (hw _ (List.mem_of_getElem? (i := 55) rfl)) (args := #[]))) (mvT hZ (hw _ (List.mem_of_getElem? (i := 56) rfl))) (by decide) (backOf (W := 0) (rm12 l Z a0 hw [] a1 i D nd fd A nl fl h0 n0 Z0 HN hi) hZ (hw _ (List.mem_of_getElem? (i := 56) rfl)) (hw _ (List.mem_of_getElem? (i := 2) rfl)) (by decide) (by decide)) (g := (mkF m 49 #[.val (.ref a1), .val (.int (Int32.ofNat k)), .val (.int (Int32.ofNat sl)), .val (.int (Int32.ofNat i)), .val (.int (Int32.ofNat st)), .val (.int (Int32.ofNat i))] [(.int (Int32.ofNat i)), (.ref a1)])) rfl (by rw [hml]; rfl) (Steps.refl _) (a := a1) (by rw [hT]; exact q31) q31' (argsL := [(.int (Int32.ofNat i))]) (rest := []) (lenOf own_pd__I_I rfl) rfl (by show 2 * 0 + _ ≤ _; exact Nat.le_of_eq rfl) (hb hby d11_49) (fun _ _ => ⟨rfl, hT, Nat.le_of_ble_eq_true rfl, Nat.le_of_ble_eq_true rfl⟩)
            dsimp only [Pt.U, Pt.locs, Pt.cells, Pt.slots] at X31 hQ31 st31
            obtain ⟨Lc31, hR31, l31, y31, z31⟩ := hQ31
            subst l31 y31 z31
            obtain ⟨rfl, Nq31, eh31⟩ := hR31
            have N31 := Fr.app hN Nq31
            have c32 : Steps p.tables e below S0 (T31.setTop (mkF m 52 #[.val (.ref a1), .val (.int (Int32.ofNat k)), .val (.int (Int32.ofNat sl)), .val (.int (Int32.ofNat i)), .val (.int (Int32.ofNat st)), .val (.int (Int32.ofNat i))] [(.int (own_e nd fd nl fl i))])) := c30.trans (st31)
            have c33 : Steps p.tables e below S0 (T31.setTop (mkF m 26 #[.val (.ref a1), .val (.int (Int32.ofNat k)), .val (.int (Int32.ofNat sl)), .val (.int (Int32.ofNat i)), .val (.int ((Int32.ofNat st) + (1 : Int32))), .val (.int (own_e nd fd nl fl i))] [])) := c32.trans (by
              refine XS.istore X31.here hx rfl (hb hby d11_52) rfl (l' := #[.val (.ref a1), .val (.int (Int32.ofNat k)), .val (.int (Int32.ofNat sl)), .val (.int (Int32.ofNat i)), .val (.int (Int32.ofNat st)), .val (.int (own_e nd fd nl fl i))]) rfl ?_
              show Steps p.tables e below (T31.setTop (mkF m 54 #[.val (.ref a1), .val (.int (Int32.ofNat k)), .val (.int (Int32.ofNat sl)), .val (.int (Int32.ofNat i)), .val (.int (Int32.ofNat st)), .val (.int (own_e nd fd nl fl i))] [])) _
              refine XT.iincV X31.here hx rfl (1 : Int32) (hb hby d11_54) (by decide) rfl (l' := #[.val (.ref a1), .val (.int (Int32.ofNat k)), .val (.int (Int32.ofNat sl)), .val (.int (Int32.ofNat i)), .val (.int ((Int32.ofNat st) + (1 : Int32))), .val (.int (own_e nd fd nl fl i))]) rfl ?_
              show Steps p.tables e below (T31.setTop (mkF m 57 #[.val (.ref a1), .val (.int (Int32.ofNat k)), .val (.int (Int32.ofNat sl)), .val (.int (Int32.ofNat i)), .val (.int ((Int32.ofNat st) + (1 : Int32))), .val (.int (own_e nd fd nl fl i))] [])) _
              refine XS.goto X31.here hx rfl (pc0 := 57) (pc' := 26) rfl (hb hby d11_57) (by decide) (by decide) ?_
              show Steps p.tables e below (T31.setTop (mkF m 26 #[.val (.ref a1), .val (.int (Int32.ofNat k)), .val (.int (Int32.ofNat sl)), .val (.int (Int32.ofNat i)), .val (.int ((Int32.ofNat st) + (1 : Int32))), .val (.int (own_e nd fd nl fl i))] [])) _
              exact Steps.refl _)
            have hr34 : ((Int32.ofNat st) + (1 : Int32)) = (Int32.ofNat (st + 1)) := own_succ (by omega)
            rw [hr34] at c33
            have hL : own_loop (own_E nd fd nl fl) sl (fu + 1) tp ou st = own_loop (own_E nd fd nl fl) sl fu (Int32.ofNat i) (own_e nd fd nl fl i) (st + 1) := by rw [own_loop, if_neg k1, if_neg k2, if_neg k3', hoi, heE i hi]
            rw [hL]
            exact ih (st + 1) _ _ _ _ (by omega) (hok i hi) eh31 N31 X31 c33
  obtain ⟨T', Ls', ou', b1, b2, b3, X', c'⟩ := loop (sl + 2) 0 _ _ _ _ (by omega) (hok k hk) eh12 N12 X12 c14
  have hout : own_out (own_E nd fd nl fl) (max nd nl) (Int32.ofNat k) = if sl < (own_loop (own_E nd fd nl fl) sl (sl + 2) (Int32.ofNat k) (own_e nd fd nl fl k) 0).2 then Int32.ofNat k else (own_loop (own_E nd fd nl fl) sl (sl + 2) (Int32.ofNat k) (own_e nd fd nl fl k) 0).1 := by rw [← hsl, own_out, heE k hk]
  obtain ⟨tp', st', hts⟩ : ∃ a b, own_loop (own_E nd fd nl fl) sl (sl + 2) (Int32.ofNat k) (own_e nd fd nl fl k) 0 = (a, b) := ⟨_, _, rfl⟩
  rw [hts] at b1 c' hout
  have b1' : st' ≤ sl + 2 := b1
  have c35 : Steps p.tables e below S0 (T'.setTop (mkF m 63 #[.val (.ref a1), .val (.int (Int32.ofNat k)), .val (.int (Int32.ofNat sl)), .val (.int tp'), .val (.int (Int32.ofNat st')), .val (.int ou')] [(.int (Int32.ofNat sl)), (.int (Int32.ofNat st'))])) := c'.trans (by
    refine XS.iload X'.here hx rfl (hb hby d11_60) rfl ?_
    show Steps p.tables e below (T'.setTop (mkF m 62 #[.val (.ref a1), .val (.int (Int32.ofNat k)), .val (.int (Int32.ofNat sl)), .val (.int tp'), .val (.int (Int32.ofNat st')), .val (.int ou')] [(.int (Int32.ofNat st'))])) _
    refine XS.iloadN X'.here hx rfl (hb hby d11_62) rfl ?_
    show Steps p.tables e below (T'.setTop (mkF m 63 #[.val (.ref a1), .val (.int (Int32.ofNat k)), .val (.int (Int32.ofNat sl)), .val (.int tp'), .val (.int (Int32.ofNat st')), .val (.int ou')] [(.int (Int32.ofNat sl)), (.int (Int32.ofNat st'))])) _
    exact Steps.refl _)
  by_cases k9 : (Int32.ofNat sl) < (Int32.ofNat st')
  ·
    have k9' : sl < st' := (own_lt (by omega) (by omega)).mp k9
    have c36 : Steps p.tables e below S0 (T'.setTop (mkF m 69 #[.val (.ref a1), .val (.int (Int32.ofNat k)), .val (.int (Int32.ofNat sl)), .val (.int (Int32.ofNat k)), .val (.int (Int32.ofNat st')), .val (.int ou')] [(.int (Int32.ofNat k))])) := c35.trans (by
      refine XS.icmpNo X'.here hx rfl (hb hby d11_63) rfl (XT.ii_le_f k9) ?_
      show Steps p.tables e below (T'.setTop (mkF m 66 #[.val (.ref a1), .val (.int (Int32.ofNat k)), .val (.int (Int32.ofNat sl)), .val (.int tp'), .val (.int (Int32.ofNat st')), .val (.int ou')] [])) _
      refine XS.iloadN X'.here hx rfl (hb hby d11_66) rfl ?_
      show Steps p.tables e below (T'.setTop (mkF m 67 #[.val (.ref a1), .val (.int (Int32.ofNat k)), .val (.int (Int32.ofNat sl)), .val (.int tp'), .val (.int (Int32.ofNat st')), .val (.int ou')] [(.int (Int32.ofNat k))])) _
      refine XS.istoreN X'.here hx rfl (hb hby d11_67) rfl (l' := #[.val (.ref a1), .val (.int (Int32.ofNat k)), .val (.int (Int32.ofNat sl)), .val (.int (Int32.ofNat k)), .val (.int (Int32.ofNat st')), .val (.int ou')]) rfl ?_
      show Steps p.tables e below (T'.setTop (mkF m 68 #[.val (.ref a1), .val (.int (Int32.ofNat k)), .val (.int (Int32.ofNat sl)), .val (.int (Int32.ofNat k)), .val (.int (Int32.ofNat st')), .val (.int ou')] [])) _
      refine XS.iloadN X'.here hx rfl (hb hby d11_68) rfl ?_
      show Steps p.tables e below (T'.setTop (mkF m 69 #[.val (.ref a1), .val (.int (Int32.ofNat k)), .val (.int (Int32.ofNat sl)), .val (.int (Int32.ofNat k)), .val (.int (Int32.ofNat st')), .val (.int ou')] [(.int (Int32.ofNat k))])) _
      exact Steps.refl _)
    obtain ⟨fs, hr, hrun, hended, hW, hsame⟩ := X'.leave (v := some (.int (Int32.ofNat k))) (fun h => by rw [Bd.returns] at h; cases h)
    refine ⟨_, _, pre0 _ ?_, hrun, hended, _, _, rfl, ?_, ⟨_, rfl⟩, hW, hsame.mono (by decide) (by decide)⟩
    · rw [← hS0]
      exact c36.trans (retI X' hx Bd.returns (hb hby d11_69) hr)
    · show Qrm11 Z a1 k D nd fd A nl fl h0 n0 _ T'.heap _
      rw [b2]
      exact ⟨by rw [hout, if_pos (show sl < (tp', st').2 from k9')], b3, rfl⟩
  ·
    have k9' : ¬ sl < st' := fun q => k9 ((own_lt (by omega) (by omega)).mpr q)
    have c37 : Steps p.tables e below S0 (T'.setTop (mkF m 69 #[.val (.ref a1), .val (.int (Int32.ofNat k)), .val (.int (Int32.ofNat sl)), .val (.int tp'), .val (.int (Int32.ofNat st')), .val (.int ou')] [(.int tp')])) := c35.trans (by
      refine XS.icmpYes X'.here hx rfl (pc0 := 63) (pc' := 68) rfl (hb hby d11_63) rfl (XT.ii_le_t k9) (by decide) (by decide) ?_
      show Steps p.tables e below (T'.setTop (mkF m 68 #[.val (.ref a1), .val (.int (Int32.ofNat k)), .val (.int (Int32.ofNat sl)), .val (.int tp'), .val (.int (Int32.ofNat st')), .val (.int ou')] [])) _
      refine XS.iloadN X'.here hx rfl (hb hby d11_68) rfl ?_
      show Steps p.tables e below (T'.setTop (mkF m 69 #[.val (.ref a1), .val (.int (Int32.ofNat k)), .val (.int (Int32.ofNat sl)), .val (.int tp'), .val (.int (Int32.ofNat st')), .val (.int ou')] [(.int tp')])) _
      exact Steps.refl _)
    obtain ⟨fs, hr, hrun, hended, hW, hsame⟩ := X'.leave (v := some (.int tp')) (fun h => by rw [Bd.returns] at h; cases h)
    refine ⟨_, _, pre0 _ ?_, hrun, hended, _, _, rfl, ?_, ⟨_, rfl⟩, hW, hsame.mono (by decide) (by decide)⟩
    · rw [← hS0]
      exact c37.trans (retI X' hx Bd.returns (hb hby d11_69) hr)
    · show Qrm11 Z a1 k D nd fd A nl fl h0 n0 _ T'.heap _
      rw [b2]
      exact ⟨by rw [hout, if_neg (show ¬ sl < (tp', st').2 from k9')], b3, rfl⟩
theorem own_fin0 {i ka kb kc kd na nb : Nat} {de : Int32} (hi : i ≤ 15) (ha : ka ≤ 15) (hc : kc ≤ 15) (xa : ka < na) (xb : kc < nb) (ya : 0 ≤ na) (yb : na ≤ nb) (u : de = 0) :
    own_e 0 (fun _ => -1) nb (fun j => if j = kc then Int32.ofNat kd else if j < na then (fun j => if j = ka then Int32.ofNat kb else if j < 0 then (fun _ => (-1 : Int32)) j else -1) j else -1) i = own_enc (Int32.ofNat i) (Int32.ofNat ka) (Int32.ofNat kb) (Int32.ofNat kc) (Int32.ofNat kd) de := by
  unfold own_e own_enc own_enc2
  rw [if_pos u]
  simp only [Nat.not_lt_zero, if_false, if_true]
  by_cases q1 : i = kc
  · rw [if_pos ((own_inj (by omega) (by omega)).mpr q1), if_pos (by omega), if_pos q1]
  · rw [if_neg (fun q => q1 ((own_inj (by omega) (by omega)).mp q)), if_neg q1]
    by_cases q2 : i = ka
    · rw [if_pos ((own_inj (by omega) (by omega)).mpr q2), if_pos (by omega), if_pos (by omega), if_pos q2]
    · rw [if_neg (fun q => q2 ((own_inj (by omega) (by omega)).mp q)), if_neg q2]; simp
theorem own_fin1 {i ka kb kc kd na nb nc : Nat} {de : Int32} (hi : i ≤ 15) (ha : ka ≤ 15) (hc : kc ≤ 15) (xa : ka < na) (xb : kc < nb) (ya : 0 ≤ na) (yb : na ≤ nb) (xc : ka < nc) (u : ¬ de = 0) :
    own_e nc (fun j => if j = ka then Int32.ofNat ka else if j < 0 then (fun _ => (-1 : Int32)) j else -1) nb (fun j => if j = kc then Int32.ofNat kd else if j < na then (fun j => if j = ka then Int32.ofNat kb else if j < 0 then (fun _ => (-1 : Int32)) j else -1) j else -1) i = own_enc (Int32.ofNat i) (Int32.ofNat ka) (Int32.ofNat kb) (Int32.ofNat kc) (Int32.ofNat kd) de := by
  unfold own_e own_enc own_enc2
  rw [if_neg u]
  simp only [Nat.not_lt_zero, if_false]
  by_cases q2 : i = ka
  · subst q2
    rw [if_pos xc, if_pos rfl, if_neg (own_m1 (by omega)), if_pos rfl]
  · rw [if_neg q2, ite_self, if_pos rfl, if_neg (fun q => q2 ((own_inj (by omega) (by omega)).mp q)), if_neg (fun q => q2 ((own_inj (by omega) (by omega)).mp q))]
    by_cases q1 : i = kc
    · rw [if_pos ((own_inj (by omega) (by omega)).mpr q1), if_pos (by omega), if_pos q1]
    · rw [if_neg (fun q => q1 ((own_inj (by omega) (by omega)).mp q)), if_neg q1]; simp [q2]
theorem own_same {ka kb kc kd k nd nl : Nat} {fd fl : Nat → Int32} {de : Int32} (hE : ∀ i, i ≤ 15 → own_e nd fd nl fl i = own_enc (Int32.ofNat i) (Int32.ofNat ka) (Int32.ofNat kb) (Int32.ofNat kc) (Int32.ofNat kd) de)
    (ha : ka ≤ 15) (hb : kb ≤ 15) (hc : kc ≤ 15) (hd : kd ≤ 15) (hk : k ≤ 15) (h1 : 1 ≤ nl) (h2 : ¬ ka = kc → 2 ≤ nl) (ld : nd ≤ 32) (ll : nl ≤ 32) :
    own_out (own_E nd fd nl fl) (max nd nl) (Int32.ofNat k) = own_ref (Int32.ofNat k) (Int32.ofNat ka) (Int32.ofNat kb) (Int32.ofNat kc) (Int32.ofNat kd) de := by
  refine own_out_eq (own_E nd fd nl fl) (fun y => own_enc y (Int32.ofNat ka) (Int32.ofNat kb) (Int32.ofNat kc) (Int32.ofNat kd) de) (max nd nl) (Int32.ofNat k) (fun y hy hy1 => ?_) (fun y => own_enc_ok (Or.inr ⟨ka, ha, rfl⟩) (Or.inr ⟨kb, hb, rfl⟩) (Or.inr ⟨kd, hd, rfl⟩)) (Or.inr ⟨k, hk, rfl⟩) (own_m1 (by omega)) (a := Int32.ofNat ka) (c := Int32.ofNat kc) (fun y hy => own_dom hy) (by omega) (fun q => ?_)
  · obtain ⟨i, hi, rfl⟩ := hy.resolve_left hy1
    rw [own_E, own_clamp (by omega)]; exact hE i hi
  · have := h2 (fun e => q (by rw [e])); omega
theorem ef_0 (m : MethodId) (x0 : Int32) (x1 : Int32) (x2 : Int32) (x3 : Int32) (x4 : Int32) (x5 : Int32) : entryFrame m #[(.int x0), (.int x1), (.int x2), (.int x3), (.int x4), (.int x5)] maxLocals = mkF m 0 #[.val (.int x0), .val (.int x1), .val (.int x2), .val (.int x3), .val (.int x4), .val (.int x5), .unset, .unset, .unset, .unset, .unset, .unset, .unset, .unset, .unset] [] := by first | (simp [entryFrame, mkF, argsToLocals, Value.category, maxLocals]; done) | rfl
def Qrm0 (Z : State) (p1 : Int32) (p2 : Int32) (p3 : Int32) (p4 : Int32) (p5 : Int32) (p6 : Int32) (h0 : Heap) (n0 : Nat) (v : Option Value) (h : Heap) (L : List Loc) : Prop := v = some (.int 1) ∧ Fr n0 L
set_option maxRecDepth 65536 in
set_option maxHeartbeats 40000000 in
theorem rm0 (l : Launch) (Z : State) (a0 : Array Value) (hw : ∀ d ∈ tables_1, d.before a0 Z = true) (ws : List Jvm.Cond) (p1 : Int32) (p2 : Int32) (p3 : Int32) (p4 : Int32) (p5 : Int32) (p6 : Int32) (h0 : Heap) (n0 : Nat) (Z0 : n0 ≤ h0.size)  :
    MetFree l x (head1 (Jvm.Cond.code x code maxLocals ret :: ws) (room_1 : Room)) (fun a U => a = #[(.int p1), (.int p2), (.int p3), (.int p4), (.int p5), (.int p6)] ∧ Z.Warmed39 U.vm ∧ U.heap = h0) (fun _ _ _ _ _ => True) (fun _ U o U' => ∃ v L, o = .returned v ∧ Qrm0 Z p1 p2 p3 p4 p5 p6 h0 n0 v U'.heap L ∧ FrameEnd U o U' L (room_1 : Room).cells (room_1 : Room).slots) := by
  refine MetFree.of_bodySF (plainFor_of_name own_pn_NestingLearnPinLaw) hisR ?_
  intro p e s m args below meth c s₁ Bd hml0 hP hK
  obtain ⟨rfl, hZ, hh⟩ := hP
  have hx := Bd.exec
  have hby := Bd.bytes
  have hml : c.maxLocals = 15 := hml0
  have hown : s.vm.findClass "com/example/edge_keeper/edgekeeper/NestingLearnPinLaw" = some m.cls := findClass_of_methodNamed Bd.named
  have hnm := (name_of_methodNamed Bd.named Bd.method).1
  have X0 : Stand p l e (room_1 : Room) s m #[(.int p1), (.int p2), (.int p3), (.int p4), (.int p5), (.int p6)] below meth c s₁ [] 0 0 := Stand.of_body Bd
  have e0 : s₁.heap = h0 := by rw [← hh, Bd.state]; rfl
  have N0 := Fr.nil n0
  have pre0 : ∀ t, Steps p.tables e below (s₁.setTop (mkF m 0 #[.val (.int p1), .val (.int p2), .val (.int p3), .val (.int p4), .val (.int p5), .val (.int p6), .unset, .unset, .unset, .unset, .unset, .unset, .unset, .unset, .unset] [])) t → Steps p.tables e below (s₁.setTop (entryFrame m #[(.int p1), (.int p2), (.int p3), (.int p4), (.int p5), (.int p6)] maxLocals)) t := fun t0_ k0_ => castTop (ef_0 m p1 p2 p3 p4 p5 p6) k0_
  obtain ⟨S0, hS0⟩ : ∃ z, z = s₁.setTop (mkF m 0 #[.val (.int p1), .val (.int p2), .val (.int p3), .val (.int p4), .val (.int p5), .val (.int p6), .unset, .unset, .unset, .unset, .unset, .unset, .unset, .unset, .unset] []) := ⟨_, rfl⟩
  have c0 : Steps p.tables e below S0 (s₁.setTop (mkF m 0 #[.val (.int p1), .val (.int p2), .val (.int p3), .val (.int p4), .val (.int p5), .val (.int p6), .unset, .unset, .unset, .unset, .unset, .unset, .unset, .unset, .unset] [])) := by rw [hS0]; exact Steps.refl _
  have c1 : Steps p.tables e below S0 (s₁.setTop (mkF m 6 #[.val (.int p1), .val (.int p2), .val (.int p3), .val (.int p4), .val (.int p5), .val (.int p6), .val (.int (p1 &&& (15 : Int32))), .unset, .unset, .unset, .unset, .unset, .unset, .unset, .unset] [])) := c0.trans (by
    refine XS.iloadN X0.here hx rfl (hb hby at_0) rfl ?_
    show Steps p.tables e below (s₁.setTop (mkF m 1 #[.val (.int p1), .val (.int p2), .val (.int p3), .val (.int p4), .val (.int p5), .val (.int p6), .unset, .unset, .unset, .unset, .unset, .unset, .unset, .unset, .unset] [(.int p1)])) _
    refine XT.bipushV X0.here hx rfl (15 : Int32) (hb hby at_1) (by decide) ?_
    show Steps p.tables e below (s₁.setTop (mkF m 3 #[.val (.int p1), .val (.int p2), .val (.int p3), .val (.int p4), .val (.int p5), .val (.int p6), .unset, .unset, .unset, .unset, .unset, .unset, .unset, .unset, .unset] [(.int (15 : Int32)), (.int p1)])) _
    refine XS.iand X0.here hx rfl (hb hby at_3) rfl ?_
    show Steps p.tables e below (s₁.setTop (mkF m 4 #[.val (.int p1), .val (.int p2), .val (.int p3), .val (.int p4), .val (.int p5), .val (.int p6), .unset, .unset, .unset, .unset, .unset, .unset, .unset, .unset, .unset] [(.int (p1 &&& (15 : Int32)))])) _
    refine XS.istore X0.here hx rfl (hb hby at_4) rfl (l' := #[.val (.int p1), .val (.int p2), .val (.int p3), .val (.int p4), .val (.int p5), .val (.int p6), .val (.int (p1 &&& (15 : Int32))), .unset, .unset, .unset, .unset, .unset, .unset, .unset, .unset]) rfl ?_
    show Steps p.tables e below (s₁.setTop (mkF m 6 #[.val (.int p1), .val (.int p2), .val (.int p3), .val (.int p4), .val (.int p5), .val (.int p6), .val (.int (p1 &&& (15 : Int32))), .unset, .unset, .unset, .unset, .unset, .unset, .unset, .unset] [])) _
    exact Steps.refl _)
  obtain ⟨ka, hka, eka⟩ := own_m15 p1
  have hr2 : (p1 &&& (15 : Int32)) = (Int32.ofNat ka) := eka
  rw [hr2] at c1
  have c3 : Steps p.tables e below S0 (s₁.setTop (mkF m 12 #[.val (.int p1), .val (.int p2), .val (.int p3), .val (.int p4), .val (.int p5), .val (.int p6), .val (.int (Int32.ofNat ka)), .val (.int (p2 &&& (15 : Int32))), .unset, .unset, .unset, .unset, .unset, .unset, .unset] [])) := c1.trans (by
    refine XS.iloadN X0.here hx rfl (hb hby at_6) rfl ?_
    show Steps p.tables e below (s₁.setTop (mkF m 7 #[.val (.int p1), .val (.int p2), .val (.int p3), .val (.int p4), .val (.int p5), .val (.int p6), .val (.int (Int32.ofNat ka)), .unset, .unset, .unset, .unset, .unset, .unset, .unset, .unset] [(.int p2)])) _
    refine XT.bipushV X0.here hx rfl (15 : Int32) (hb hby at_7) (by decide) ?_
    show Steps p.tables e below (s₁.setTop (mkF m 9 #[.val (.int p1), .val (.int p2), .val (.int p3), .val (.int p4), .val (.int p5), .val (.int p6), .val (.int (Int32.ofNat ka)), .unset, .unset, .unset, .unset, .unset, .unset, .unset, .unset] [(.int (15 : Int32)), (.int p2)])) _
    refine XS.iand X0.here hx rfl (hb hby at_9) rfl ?_
    show Steps p.tables e below (s₁.setTop (mkF m 10 #[.val (.int p1), .val (.int p2), .val (.int p3), .val (.int p4), .val (.int p5), .val (.int p6), .val (.int (Int32.ofNat ka)), .unset, .unset, .unset, .unset, .unset, .unset, .unset, .unset] [(.int (p2 &&& (15 : Int32)))])) _
    refine XS.istore X0.here hx rfl (hb hby at_10) rfl (l' := #[.val (.int p1), .val (.int p2), .val (.int p3), .val (.int p4), .val (.int p5), .val (.int p6), .val (.int (Int32.ofNat ka)), .val (.int (p2 &&& (15 : Int32))), .unset, .unset, .unset, .unset, .unset, .unset, .unset]) rfl ?_
    show Steps p.tables e below (s₁.setTop (mkF m 12 #[.val (.int p1), .val (.int p2), .val (.int p3), .val (.int p4), .val (.int p5), .val (.int p6), .val (.int (Int32.ofNat ka)), .val (.int (p2 &&& (15 : Int32))), .unset, .unset, .unset, .unset, .unset, .unset, .unset] [])) _
    exact Steps.refl _)
  obtain ⟨kb, hkb, ekb⟩ := own_m15 p2
  have hr4 : (p2 &&& (15 : Int32)) = (Int32.ofNat kb) := ekb
  rw [hr4] at c3
  have c5 : Steps p.tables e below S0 (s₁.setTop (mkF m 18 #[.val (.int p1), .val (.int p2), .val (.int p3), .val (.int p4), .val (.int p5), .val (.int p6), .val (.int (Int32.ofNat ka)), .val (.int (Int32.ofNat kb)), .val (.int (p3 &&& (15 : Int32))), .unset, .unset, .unset, .unset, .unset, .unset] [])) := c3.trans (by
    refine XS.iloadN X0.here hx rfl (hb hby at_12) rfl ?_
    show Steps p.tables e below (s₁.setTop (mkF m 13 #[.val (.int p1), .val (.int p2), .val (.int p3), .val (.int p4), .val (.int p5), .val (.int p6), .val (.int (Int32.ofNat ka)), .val (.int (Int32.ofNat kb)), .unset, .unset, .unset, .unset, .unset, .unset, .unset] [(.int p3)])) _
    refine XT.bipushV X0.here hx rfl (15 : Int32) (hb hby at_13) (by decide) ?_
    show Steps p.tables e below (s₁.setTop (mkF m 15 #[.val (.int p1), .val (.int p2), .val (.int p3), .val (.int p4), .val (.int p5), .val (.int p6), .val (.int (Int32.ofNat ka)), .val (.int (Int32.ofNat kb)), .unset, .unset, .unset, .unset, .unset, .unset, .unset] [(.int (15 : Int32)), (.int p3)])) _
    refine XS.iand X0.here hx rfl (hb hby at_15) rfl ?_
    show Steps p.tables e below (s₁.setTop (mkF m 16 #[.val (.int p1), .val (.int p2), .val (.int p3), .val (.int p4), .val (.int p5), .val (.int p6), .val (.int (Int32.ofNat ka)), .val (.int (Int32.ofNat kb)), .unset, .unset, .unset, .unset, .unset, .unset, .unset] [(.int (p3 &&& (15 : Int32)))])) _
    refine XS.istore X0.here hx rfl (hb hby at_16) rfl (l' := #[.val (.int p1), .val (.int p2), .val (.int p3), .val (.int p4), .val (.int p5), .val (.int p6), .val (.int (Int32.ofNat ka)), .val (.int (Int32.ofNat kb)), .val (.int (p3 &&& (15 : Int32))), .unset, .unset, .unset, .unset, .unset, .unset]) rfl ?_
    show Steps p.tables e below (s₁.setTop (mkF m 18 #[.val (.int p1), .val (.int p2), .val (.int p3), .val (.int p4), .val (.int p5), .val (.int p6), .val (.int (Int32.ofNat ka)), .val (.int (Int32.ofNat kb)), .val (.int (p3 &&& (15 : Int32))), .unset, .unset, .unset, .unset, .unset, .unset] [])) _
    exact Steps.refl _)
  obtain ⟨kc, hkc, ekc⟩ := own_m15 p3
  have hr6 : (p3 &&& (15 : Int32)) = (Int32.ofNat kc) := ekc
  rw [hr6] at c5
  have c7 : Steps p.tables e below S0 (s₁.setTop (mkF m 24 #[.val (.int p1), .val (.int p2), .val (.int p3), .val (.int p4), .val (.int p5), .val (.int p6), .val (.int (Int32.ofNat ka)), .val (.int (Int32.ofNat kb)), .val (.int (Int32.ofNat kc)), .val (.int (p4 &&& (15 : Int32))), .unset, .unset, .unset, .unset, .unset] [])) := c5.trans (by
    refine XS.iloadN X0.here hx rfl (hb hby at_18) rfl ?_
    show Steps p.tables e below (s₁.setTop (mkF m 19 #[.val (.int p1), .val (.int p2), .val (.int p3), .val (.int p4), .val (.int p5), .val (.int p6), .val (.int (Int32.ofNat ka)), .val (.int (Int32.ofNat kb)), .val (.int (Int32.ofNat kc)), .unset, .unset, .unset, .unset, .unset, .unset] [(.int p4)])) _
    refine XT.bipushV X0.here hx rfl (15 : Int32) (hb hby at_19) (by decide) ?_
    show Steps p.tables e below (s₁.setTop (mkF m 21 #[.val (.int p1), .val (.int p2), .val (.int p3), .val (.int p4), .val (.int p5), .val (.int p6), .val (.int (Int32.ofNat ka)), .val (.int (Int32.ofNat kb)), .val (.int (Int32.ofNat kc)), .unset, .unset, .unset, .unset, .unset, .unset] [(.int (15 : Int32)), (.int p4)])) _
    refine XS.iand X0.here hx rfl (hb hby at_21) rfl ?_
    show Steps p.tables e below (s₁.setTop (mkF m 22 #[.val (.int p1), .val (.int p2), .val (.int p3), .val (.int p4), .val (.int p5), .val (.int p6), .val (.int (Int32.ofNat ka)), .val (.int (Int32.ofNat kb)), .val (.int (Int32.ofNat kc)), .unset, .unset, .unset, .unset, .unset, .unset] [(.int (p4 &&& (15 : Int32)))])) _
    refine XS.istore X0.here hx rfl (hb hby at_22) rfl (l' := #[.val (.int p1), .val (.int p2), .val (.int p3), .val (.int p4), .val (.int p5), .val (.int p6), .val (.int (Int32.ofNat ka)), .val (.int (Int32.ofNat kb)), .val (.int (Int32.ofNat kc)), .val (.int (p4 &&& (15 : Int32))), .unset, .unset, .unset, .unset, .unset]) rfl ?_
    show Steps p.tables e below (s₁.setTop (mkF m 24 #[.val (.int p1), .val (.int p2), .val (.int p3), .val (.int p4), .val (.int p5), .val (.int p6), .val (.int (Int32.ofNat ka)), .val (.int (Int32.ofNat kb)), .val (.int (Int32.ofNat kc)), .val (.int (p4 &&& (15 : Int32))), .unset, .unset, .unset, .unset, .unset] [])) _
    exact Steps.refl _)
  obtain ⟨kd, hkd, ekd⟩ := own_m15 p4
  have hr8 : (p4 &&& (15 : Int32)) = (Int32.ofNat kd) := ekd
  rw [hr8] at c7
  have c9 : Steps p.tables e below S0 (s₁.setTop (mkF m 31 #[.val (.int p1), .val (.int p2), .val (.int p3), .val (.int p4), .val (.int p5), .val (.int p6), .val (.int (Int32.ofNat ka)), .val (.int (Int32.ofNat kb)), .val (.int (Int32.ofNat kc)), .val (.int (Int32.ofNat kd)), .val (.int (p5 &&& (15 : Int32))), .unset, .unset, .unset, .unset] [])) := c7.trans (by
    refine XS.iload X0.here hx rfl (hb hby at_24) rfl ?_
    show Steps p.tables e below (s₁.setTop (mkF m 26 #[.val (.int p1), .val (.int p2), .val (.int p3), .val (.int p4), .val (.int p5), .val (.int p6), .val (.int (Int32.ofNat ka)), .val (.int (Int32.ofNat kb)), .val (.int (Int32.ofNat kc)), .val (.int (Int32.ofNat kd)), .unset, .unset, .unset, .unset, .unset] [(.int p5)])) _
    refine XT.bipushV X0.here hx rfl (15 : Int32) (hb hby at_26) (by decide) ?_
    show Steps p.tables e below (s₁.setTop (mkF m 28 #[.val (.int p1), .val (.int p2), .val (.int p3), .val (.int p4), .val (.int p5), .val (.int p6), .val (.int (Int32.ofNat ka)), .val (.int (Int32.ofNat kb)), .val (.int (Int32.ofNat kc)), .val (.int (Int32.ofNat kd)), .unset, .unset, .unset, .unset, .unset] [(.int (15 : Int32)), (.int p5)])) _
    refine XS.iand X0.here hx rfl (hb hby at_28) rfl ?_
    show Steps p.tables e below (s₁.setTop (mkF m 29 #[.val (.int p1), .val (.int p2), .val (.int p3), .val (.int p4), .val (.int p5), .val (.int p6), .val (.int (Int32.ofNat ka)), .val (.int (Int32.ofNat kb)), .val (.int (Int32.ofNat kc)), .val (.int (Int32.ofNat kd)), .unset, .unset, .unset, .unset, .unset] [(.int (p5 &&& (15 : Int32)))])) _
    refine XS.istore X0.here hx rfl (hb hby at_29) rfl (l' := #[.val (.int p1), .val (.int p2), .val (.int p3), .val (.int p4), .val (.int p5), .val (.int p6), .val (.int (Int32.ofNat ka)), .val (.int (Int32.ofNat kb)), .val (.int (Int32.ofNat kc)), .val (.int (Int32.ofNat kd)), .val (.int (p5 &&& (15 : Int32))), .unset, .unset, .unset, .unset]) rfl ?_
    show Steps p.tables e below (s₁.setTop (mkF m 31 #[.val (.int p1), .val (.int p2), .val (.int p3), .val (.int p4), .val (.int p5), .val (.int p6), .val (.int (Int32.ofNat ka)), .val (.int (Int32.ofNat kb)), .val (.int (Int32.ofNat kc)), .val (.int (Int32.ofNat kd)), .val (.int (p5 &&& (15 : Int32))), .unset, .unset, .unset, .unset] [])) _
    exact Steps.refl _)
  obtain ⟨kq, hkq, ekq⟩ := own_m15 p5
  have hr10 : (p5 &&& (15 : Int32)) = (Int32.ofNat kq) := ekq
  rw [hr10] at c9
  have c11 : Steps p.tables e below S0 (s₁.setTop (mkF m 35 #[.val (.int p1), .val (.int p2), .val (.int p3), .val (.int p4), .val (.int p5), .val (.int p6), .val (.int (Int32.ofNat ka)), .val (.int (Int32.ofNat kb)), .val (.int (Int32.ofNat kc)), .val (.int (Int32.ofNat kd)), .val (.int (Int32.ofNat kq)), .unset, .unset, .unset, .unset] [(.int (p6 &&& (1 : Int32)))])) := c9.trans (by
    refine XS.iload X0.here hx rfl (hb hby at_31) rfl ?_
    show Steps p.tables e below (s₁.setTop (mkF m 33 #[.val (.int p1), .val (.int p2), .val (.int p3), .val (.int p4), .val (.int p5), .val (.int p6), .val (.int (Int32.ofNat ka)), .val (.int (Int32.ofNat kb)), .val (.int (Int32.ofNat kc)), .val (.int (Int32.ofNat kd)), .val (.int (Int32.ofNat kq)), .unset, .unset, .unset, .unset] [(.int p6)])) _
    refine XT.iconstV X0.here hx rfl (1 : Int32) (hb hby at_33) (by decide) ?_
    show Steps p.tables e below (s₁.setTop (mkF m 34 #[.val (.int p1), .val (.int p2), .val (.int p3), .val (.int p4), .val (.int p5), .val (.int p6), .val (.int (Int32.ofNat ka)), .val (.int (Int32.ofNat kb)), .val (.int (Int32.ofNat kc)), .val (.int (Int32.ofNat kd)), .val (.int (Int32.ofNat kq)), .unset, .unset, .unset, .unset] [(.int (1 : Int32)), (.int p6)])) _
    refine XS.iand X0.here hx rfl (hb hby at_34) rfl ?_
    show Steps p.tables e below (s₁.setTop (mkF m 35 #[.val (.int p1), .val (.int p2), .val (.int p3), .val (.int p4), .val (.int p5), .val (.int p6), .val (.int (Int32.ofNat ka)), .val (.int (Int32.ofNat kb)), .val (.int (Int32.ofNat kc)), .val (.int (Int32.ofNat kd)), .val (.int (Int32.ofNat kq)), .unset, .unset, .unset, .unset] [(.int (p6 &&& (1 : Int32)))])) _
    exact Steps.refl _)
  obtain ⟨de, hde⟩ : ∃ z, z = (if (p6 &&& (1 : Int32)) = 0 then (0 : Int32) else (1 : Int32)) := ⟨_, rfl⟩
  have c12 : Steps p.tables e below S0 (s₁.setTop (mkF m 43 #[.val (.int p1), .val (.int p2), .val (.int p3), .val (.int p4), .val (.int p5), .val (.int p6), .val (.int (Int32.ofNat ka)), .val (.int (Int32.ofNat kb)), .val (.int (Int32.ofNat kc)), .val (.int (Int32.ofNat kd)), .val (.int (Int32.ofNat kq)), .unset, .unset, .unset, .unset] [(.int de)])) := by
    by_cases hj0 : (p6 &&& (1 : Int32)) = 0
    ·
      rw [hde, if_pos hj0]
      exact c11.trans (by
        refine XS.ifYes X0.here hx rfl (pc0 := 35) (pc' := 42) rfl (hb hby at_35) rfl (XT.i0_eq_t hj0) (by decide) (by decide) ?_
        show Steps p.tables e below (s₁.setTop (mkF m 42 #[.val (.int p1), .val (.int p2), .val (.int p3), .val (.int p4), .val (.int p5), .val (.int p6), .val (.int (Int32.ofNat ka)), .val (.int (Int32.ofNat kb)), .val (.int (Int32.ofNat kc)), .val (.int (Int32.ofNat kd)), .val (.int (Int32.ofNat kq)), .unset, .unset, .unset, .unset] [])) _
        refine XT.iconstV X0.here hx rfl (0 : Int32) (hb hby at_42) (by decide) ?_
        show Steps p.tables e below (s₁.setTop (mkF m 43 #[.val (.int p1), .val (.int p2), .val (.int p3), .val (.int p4), .val (.int p5), .val (.int p6), .val (.int (Int32.ofNat ka)), .val (.int (Int32.ofNat kb)), .val (.int (Int32.ofNat kc)), .val (.int (Int32.ofNat kd)), .val (.int (Int32.ofNat kq)), .unset, .unset, .unset, .unset] [(.int (0 : Int32))])) _
        exact Steps.refl _)
    ·
      rw [hde, if_neg hj0]
      exact c11.trans (by
        refine XS.ifNo X0.here hx rfl (hb hby at_35) rfl (XT.i0_eq_f hj0) ?_
        show Steps p.tables e below (s₁.setTop (mkF m 38 #[.val (.int p1), .val (.int p2), .val (.int p3), .val (.int p4), .val (.int p5), .val (.int p6), .val (.int (Int32.ofNat ka)), .val (.int (Int32.ofNat kb)), .val (.int (Int32.ofNat kc)), .val (.int (Int32.ofNat kd)), .val (.int (Int32.ofNat kq)), .unset, .unset, .unset, .unset] [])) _
        refine XT.iconstV X0.here hx rfl (1 : Int32) (hb hby at_38) (by decide) ?_
        show Steps p.tables e below (s₁.setTop (mkF m 39 #[.val (.int p1), .val (.int p2), .val (.int p3), .val (.int p4), .val (.int p5), .val (.int p6), .val (.int (Int32.ofNat ka)), .val (.int (Int32.ofNat kb)), .val (.int (Int32.ofNat kc)), .val (.int (Int32.ofNat kd)), .val (.int (Int32.ofNat kq)), .unset, .unset, .unset, .unset] [(.int (1 : Int32))])) _
        refine XS.goto X0.here hx rfl (pc0 := 39) (pc' := 43) rfl (hb hby at_39) (by decide) (by decide) ?_
        show Steps p.tables e below (s₁.setTop (mkF m 43 #[.val (.int p1), .val (.int p2), .val (.int p3), .val (.int p4), .val (.int p5), .val (.int p6), .val (.int (Int32.ofNat ka)), .val (.int (Int32.ofNat kb)), .val (.int (Int32.ofNat kc)), .val (.int (Int32.ofNat kd)), .val (.int (Int32.ofNat kq)), .unset, .unset, .unset, .unset] [(.int (1 : Int32))])) _
        exact Steps.refl _)
  have c13 : Steps p.tables e below S0 (s₁.setTop (mkF m 49 #[.val (.int p1), .val (.int p2), .val (.int p3), .val (.int p4), .val (.int p5), .val (.int p6), .val (.int (Int32.ofNat ka)), .val (.int (Int32.ofNat kb)), .val (.int (Int32.ofNat kc)), .val (.int (Int32.ofNat kd)), .val (.int (Int32.ofNat kq)), .val (.int de), .unset, .unset, .unset] [(.int (p6 &&& (2 : Int32)))])) := c12.trans (by
    refine XS.istore X0.here hx rfl (hb hby at_43) rfl (l' := #[.val (.int p1), .val (.int p2), .val (.int p3), .val (.int p4), .val (.int p5), .val (.int p6), .val (.int (Int32.ofNat ka)), .val (.int (Int32.ofNat kb)), .val (.int (Int32.ofNat kc)), .val (.int (Int32.ofNat kd)), .val (.int (Int32.ofNat kq)), .val (.int de), .unset, .unset, .unset]) rfl ?_
    show Steps p.tables e below (s₁.setTop (mkF m 45 #[.val (.int p1), .val (.int p2), .val (.int p3), .val (.int p4), .val (.int p5), .val (.int p6), .val (.int (Int32.ofNat ka)), .val (.int (Int32.ofNat kb)), .val (.int (Int32.ofNat kc)), .val (.int (Int32.ofNat kd)), .val (.int (Int32.ofNat kq)), .val (.int de), .unset, .unset, .unset] [])) _
    refine XS.iload X0.here hx rfl (hb hby at_45) rfl ?_
    show Steps p.tables e below (s₁.setTop (mkF m 47 #[.val (.int p1), .val (.int p2), .val (.int p3), .val (.int p4), .val (.int p5), .val (.int p6), .val (.int (Int32.ofNat ka)), .val (.int (Int32.ofNat kb)), .val (.int (Int32.ofNat kc)), .val (.int (Int32.ofNat kd)), .val (.int (Int32.ofNat kq)), .val (.int de), .unset, .unset, .unset] [(.int p6)])) _
    refine XT.iconstV X0.here hx rfl (2 : Int32) (hb hby at_47) (by decide) ?_
    show Steps p.tables e below (s₁.setTop (mkF m 48 #[.val (.int p1), .val (.int p2), .val (.int p3), .val (.int p4), .val (.int p5), .val (.int p6), .val (.int (Int32.ofNat ka)), .val (.int (Int32.ofNat kb)), .val (.int (Int32.ofNat kc)), .val (.int (Int32.ofNat kd)), .val (.int (Int32.ofNat kq)), .val (.int de), .unset, .unset, .unset] [(.int (2 : Int32)), (.int p6)])) _
    refine XS.iand X0.here hx rfl (hb hby at_48) rfl ?_
    show Steps p.tables e below (s₁.setTop (mkF m 49 #[.val (.int p1), .val (.int p2), .val (.int p3), .val (.int p4), .val (.int p5), .val (.int p6), .val (.int (Int32.ofNat ka)), .val (.int (Int32.ofNat kb)), .val (.int (Int32.ofNat kc)), .val (.int (Int32.ofNat kd)), .val (.int (Int32.ofNat kq)), .val (.int de), .unset, .unset, .unset] [(.int (p6 &&& (2 : Int32)))])) _
    exact Steps.refl _)
  obtain ⟨df, hdf⟩ : ∃ z, z = (if (p6 &&& (2 : Int32)) = 0 then (0 : Int32) else (1 : Int32)) := ⟨_, rfl⟩
  have c14 : Steps p.tables e below S0 (s₁.setTop (mkF m 57 #[.val (.int p1), .val (.int p2), .val (.int p3), .val (.int p4), .val (.int p5), .val (.int p6), .val (.int (Int32.ofNat ka)), .val (.int (Int32.ofNat kb)), .val (.int (Int32.ofNat kc)), .val (.int (Int32.ofNat kd)), .val (.int (Int32.ofNat kq)), .val (.int de), .unset, .unset, .unset] [(.int df)])) := by
    by_cases hf0 : (p6 &&& (2 : Int32)) = 0
    ·
      rw [hdf, if_pos hf0]
      exact c13.trans (by
        refine XS.ifYes X0.here hx rfl (pc0 := 49) (pc' := 56) rfl (hb hby at_49) rfl (XT.i0_eq_t hf0) (by decide) (by decide) ?_
        show Steps p.tables e below (s₁.setTop (mkF m 56 #[.val (.int p1), .val (.int p2), .val (.int p3), .val (.int p4), .val (.int p5), .val (.int p6), .val (.int (Int32.ofNat ka)), .val (.int (Int32.ofNat kb)), .val (.int (Int32.ofNat kc)), .val (.int (Int32.ofNat kd)), .val (.int (Int32.ofNat kq)), .val (.int de), .unset, .unset, .unset] [])) _
        refine XT.iconstV X0.here hx rfl (0 : Int32) (hb hby at_56) (by decide) ?_
        show Steps p.tables e below (s₁.setTop (mkF m 57 #[.val (.int p1), .val (.int p2), .val (.int p3), .val (.int p4), .val (.int p5), .val (.int p6), .val (.int (Int32.ofNat ka)), .val (.int (Int32.ofNat kb)), .val (.int (Int32.ofNat kc)), .val (.int (Int32.ofNat kd)), .val (.int (Int32.ofNat kq)), .val (.int de), .unset, .unset, .unset] [(.int (0 : Int32))])) _
        exact Steps.refl _)
    ·
      rw [hdf, if_neg hf0]
      exact c13.trans (by
        refine XS.ifNo X0.here hx rfl (hb hby at_49) rfl (XT.i0_eq_f hf0) ?_
        show Steps p.tables e below (s₁.setTop (mkF m 52 #[.val (.int p1), .val (.int p2), .val (.int p3), .val (.int p4), .val (.int p5), .val (.int p6), .val (.int (Int32.ofNat ka)), .val (.int (Int32.ofNat kb)), .val (.int (Int32.ofNat kc)), .val (.int (Int32.ofNat kd)), .val (.int (Int32.ofNat kq)), .val (.int de), .unset, .unset, .unset] [])) _
        refine XT.iconstV X0.here hx rfl (1 : Int32) (hb hby at_52) (by decide) ?_
        show Steps p.tables e below (s₁.setTop (mkF m 53 #[.val (.int p1), .val (.int p2), .val (.int p3), .val (.int p4), .val (.int p5), .val (.int p6), .val (.int (Int32.ofNat ka)), .val (.int (Int32.ofNat kb)), .val (.int (Int32.ofNat kc)), .val (.int (Int32.ofNat kd)), .val (.int (Int32.ofNat kq)), .val (.int de), .unset, .unset, .unset] [(.int (1 : Int32))])) _
        refine XS.goto X0.here hx rfl (pc0 := 53) (pc' := 57) rfl (hb hby at_53) (by decide) (by decide) ?_
        show Steps p.tables e below (s₁.setTop (mkF m 57 #[.val (.int p1), .val (.int p2), .val (.int p3), .val (.int p4), .val (.int p5), .val (.int p6), .val (.int (Int32.ofNat ka)), .val (.int (Int32.ofNat kb)), .val (.int (Int32.ofNat kc)), .val (.int (Int32.ofNat kd)), .val (.int (Int32.ofNat kq)), .val (.int de), .unset, .unset, .unset] [(.int (1 : Int32))])) _
        exact Steps.refl _)
  have c15 : Steps p.tables e below S0 (s₁.setTop (mkF m 59 #[.val (.int p1), .val (.int p2), .val (.int p3), .val (.int p4), .val (.int p5), .val (.int p6), .val (.int (Int32.ofNat ka)), .val (.int (Int32.ofNat kb)), .val (.int (Int32.ofNat kc)), .val (.int (Int32.ofNat kd)), .val (.int (Int32.ofNat kq)), .val (.int de), .val (.int df), .unset, .unset] [])) := c14.trans (by
    refine XS.istore X0.here hx rfl (hb hby at_57) rfl (l' := #[.val (.int p1), .val (.int p2), .val (.int p3), .val (.int p4), .val (.int p5), .val (.int p6), .val (.int (Int32.ofNat ka)), .val (.int (Int32.ofNat kb)), .val (.int (Int32.ofNat kc)), .val (.int (Int32.ofNat kd)), .val (.int (Int32.ofNat kq)), .val (.int de), .val (.int df), .unset, .unset]) rfl ?_
    show Steps p.tables e below (s₁.setTop (mkF m 59 #[.val (.int p1), .val (.int p2), .val (.int p3), .val (.int p4), .val (.int p5), .val (.int p6), .val (.int (Int32.ofNat ka)), .val (.int (Int32.ofNat kb)), .val (.int (Int32.ofNat kc)), .val (.int (Int32.ofNat kd)), .val (.int (Int32.ofNat kq)), .val (.int de), .val (.int df), .unset, .unset] [])) _
    exact Steps.refl _)
  obtain ⟨T16, h16, X16, e16, E16, A16, D16, -, st16⟩ := newO X0 hx hZ hown (hw _ (List.mem_of_getElem? (i := 0) rfl)) (hw _ (List.mem_of_getElem? (i := 1) rfl)) (hw _ (List.mem_of_getElem? (i := 2) rfl)) e0 (g := (mkF m 59 #[.val (.int p1), .val (.int p2), .val (.int p3), .val (.int p4), .val (.int p5), .val (.int p6), .val (.int (Int32.ofNat ka)), .val (.int (Int32.ofNat kb)), .val (.int (Int32.ofNat kc)), .val (.int (Int32.ofNat kd)), .val (.int (Int32.ofNat kq)), .val (.int de), .val (.int df), .unset, .unset] [])) rfl (hb hby at_59) (by decide) (by decide)
  obtain ⟨b, g16⟩ : ∃ z, z = h0.size := ⟨_, rfl⟩
  rw [← g16] at A16 D16 st16
  have E_b := A16
  have g_b : n0 ≤ b := Nat.le_trans Z0 (Nat.le_of_eq g16.symm)
  have sz16 : n0 ≤ h16.size := Nat.le_trans Z0 E16.1
  have F_declared_b : Fld Z h16 b "com/example/edge_keeper/edgekeeper/Nesting" "declared" "[I" .null := D16 (Or.inl (hw _ (List.mem_of_getElem? (i := 11) rfl))) (ty := (.array .int)) (by decide)
  have F_learned_b : Fld Z h16 b "com/example/edge_keeper/edgekeeper/Nesting" "learned" "[I" .null := D16 (Or.inl (hw _ (List.mem_of_getElem? (i := 13) rfl))) (ty := (.array .int)) (by decide)
  have c17 : Steps p.tables e below S0 (T16.setTop (mkF m 62 #[.val (.int p1), .val (.int p2), .val (.int p3), .val (.int p4), .val (.int p5), .val (.int p6), .val (.int (Int32.ofNat ka)), .val (.int (Int32.ofNat kb)), .val (.int (Int32.ofNat kc)), .val (.int (Int32.ofNat kd)), .val (.int (Int32.ofNat kq)), .val (.int de), .val (.int df), .unset, .unset] [(.ref b)])) := c15.trans (st16 _ (Steps.refl _))
  have c18 : Steps p.tables e below S0 (T16.setTop (mkF m 63 #[.val (.int p1), .val (.int p2), .val (.int p3), .val (.int p4), .val (.int p5), .val (.int p6), .val (.int (Int32.ofNat ka)), .val (.int (Int32.ofNat kb)), .val (.int (Int32.ofNat kc)), .val (.int (Int32.ofNat kd)), .val (.int (Int32.ofNat kq)), .val (.int de), .val (.int df), .unset, .unset] [(.ref b), (.ref b)])) := c17.trans (by
    refine XS.dup X16.here hx rfl (hb hby at_62) rfl rfl ?_
    show Steps p.tables e below (T16.setTop (mkF m 63 #[.val (.int p1), .val (.int p2), .val (.int p3), .val (.int p4), .val (.int p5), .val (.int p6), .val (.int (Int32.ofNat ka)), .val (.int (Int32.ofNat kb)), .val (.int (Int32.ofNat kc)), .val (.int (Int32.ofNat kd)), .val (.int (Int32.ofNat kq)), .val (.int de), .val (.int df), .unset, .unset] [(.ref b), (.ref b)])) _
    exact Steps.refl _)
  obtain ⟨_, _, ⟨T19, L19, k19, n19⟩, -, X19, hQ19, st19⟩ := X16.specialBack hx (y := (⟨"com/example/edge_keeper/edgekeeper/Nesting", "<init>", "()V"⟩ : MethodName)) rfl hown (mvT hZ (hw _ (List.mem_of_getElem? (i := 3) rfl))) (mvT hZ (hw _ (List.mem_of_getElem? (i := 4) rfl))) (mvT hZ (hw _ (List.mem_of_getElem? (i := 5) rfl))) (by decide) (backOf (W := 1) (rm1 l Z a0 hw [] b h16 n0 sz16 E_b F_declared_b F_learned_b g_b) hZ (hw _ (List.mem_of_getElem? (i := 5) rfl)) (hw _ (List.mem_of_getElem? (i := 2) rfl)) (by decide) (by decide)) (g := (mkF m 63 #[.val (.int p1), .val (.int p2), .val (.int p3), .val (.int p4), .val (.int p5), .val (.int p6), .val (.int (Int32.ofNat ka)), .val (.int (Int32.ofNat kb)), .val (.int (Int32.ofNat kc)), .val (.int (Int32.ofNat kd)), .val (.int (Int32.ofNat kq)), .val (.int de), .val (.int df), .unset, .unset] [(.ref b), (.ref b)])) rfl (by rw [hml]; rfl) (Steps.refl _) (a := b) (argsL := []) (rest := [(.ref b)]) (lenOf own_pd___V rfl) rfl (by show 2 * 0 + _ ≤ _; exact Nat.le_of_eq rfl) (hb hby at_63) (fun _ _ => ⟨rfl, e16, (by decide : 1 + 2 ≤ _), (by decide : 2 + 0 ≤ _)⟩)
  dsimp only [Pt.U, Pt.locs, Pt.cells, Pt.slots] at X19 hQ19 st19
  obtain ⟨Lc19, hR19, l19, y19, z19⟩ := hQ19
  subst l19 y19 z19
  obtain ⟨rfl, Nq19, D0, A0, HN0⟩ := hR19
  have N19 := Fr.app N0 Nq19
  have c20 : Steps p.tables e below S0 (T19.setTop (mkF m 66 #[.val (.int p1), .val (.int p2), .val (.int p3), .val (.int p4), .val (.int p5), .val (.int p6), .val (.int (Int32.ofNat ka)), .val (.int (Int32.ofNat kb)), .val (.int (Int32.ofNat kc)), .val (.int (Int32.ofNat kd)), .val (.int (Int32.ofNat kq)), .val (.int de), .val (.int df), .unset, .unset] [(.ref b)])) := c18.trans (st19)
  have c21 : Steps p.tables e below S0 (T19.setTop (mkF m 70 #[.val (.int p1), .val (.int p2), .val (.int p3), .val (.int p4), .val (.int p5), .val (.int p6), .val (.int (Int32.ofNat ka)), .val (.int (Int32.ofNat kb)), .val (.int (Int32.ofNat kc)), .val (.int (Int32.ofNat kd)), .val (.int (Int32.ofNat kq)), .val (.int de), .val (.int df), .val (.ref b), .unset] [(.int de)])) := c20.trans (by
    refine XS.astore X19.here hx rfl (hb hby at_66) rfl rfl (l' := #[.val (.int p1), .val (.int p2), .val (.int p3), .val (.int p4), .val (.int p5), .val (.int p6), .val (.int (Int32.ofNat ka)), .val (.int (Int32.ofNat kb)), .val (.int (Int32.ofNat kc)), .val (.int (Int32.ofNat kd)), .val (.int (Int32.ofNat kq)), .val (.int de), .val (.int df), .val (.ref b), .unset]) rfl ?_
    show Steps p.tables e below (T19.setTop (mkF m 68 #[.val (.int p1), .val (.int p2), .val (.int p3), .val (.int p4), .val (.int p5), .val (.int p6), .val (.int (Int32.ofNat ka)), .val (.int (Int32.ofNat kb)), .val (.int (Int32.ofNat kc)), .val (.int (Int32.ofNat kd)), .val (.int (Int32.ofNat kq)), .val (.int de), .val (.int df), .val (.ref b), .unset] [])) _
    refine XS.iload X19.here hx rfl (hb hby at_68) rfl ?_
    show Steps p.tables e below (T19.setTop (mkF m 70 #[.val (.int p1), .val (.int p2), .val (.int p3), .val (.int p4), .val (.int p5), .val (.int p6), .val (.int (Int32.ofNat ka)), .val (.int (Int32.ofNat kb)), .val (.int (Int32.ofNat kc)), .val (.int (Int32.ofNat kd)), .val (.int (Int32.ofNat kq)), .val (.int de), .val (.int df), .val (.ref b), .unset] [(.int de)])) _
    exact Steps.refl _)
  obtain ⟨T9, L9, D, nd, fd, A, nl, fl, X9, N9, HN, hE, hn1, hn2, c9⟩ : ∃ (T9 : State) (L9 : List Loc) (D : Addr) (nd : Nat) (fd : Nat → Int32) (A : Addr) (nl : Nat) (fl : Nat → Int32), Stand p l e (room_1 : Room) s m #[(.int p1), (.int p2), (.int p3), (.int p4), (.int p5), (.int p6)] below meth c T9 L9 6 98 ∧ Fr n0 L9 ∧ own_N Z T9.heap n0 b D nd fd A nl fl ∧ (∀ i, i ≤ 15 → own_e nd fd nl fl i = own_enc (Int32.ofNat i) (Int32.ofNat ka) (Int32.ofNat kb) (Int32.ofNat kc) (Int32.ofNat kd) de) ∧ 1 ≤ nl ∧ (¬ ka = kc → 2 ≤ nl) ∧ Steps p.tables e below S0 (T9.setTop (mkF m 124 #[.val (.int p1), .val (.int p2), .val (.int p3), .val (.int p4), .val (.int p5), .val (.int p6), .val (.int (Int32.ofNat ka)), .val (.int (Int32.ofNat kb)), .val (.int (Int32.ofNat kc)), .val (.int (Int32.ofNat kd)), .val (.int (Int32.ofNat kq)), .val (.int de), .val (.int df), .val (.ref b), .unset] [])) := by
    by_cases u1 : de = 0
    ·
      have c22 : Steps p.tables e below S0 (T19.setTop (mkF m 93 #[.val (.int p1), .val (.int p2), .val (.int p3), .val (.int p4), .val (.int p5), .val (.int p6), .val (.int (Int32.ofNat ka)), .val (.int (Int32.ofNat kb)), .val (.int (Int32.ofNat kc)), .val (.int (Int32.ofNat kd)), .val (.int (Int32.ofNat kq)), .val (.int de), .val (.int df), .val (.ref b), .unset] [(.int (Int32.ofNat kb)), (.int (Int32.ofNat ka)), (.ref b)])) := c21.trans (by
        refine XS.ifYes X19.here hx rfl (pc0 := 70) (pc' := 87) rfl (hb hby at_70) rfl (XT.i0_eq_t u1) (by decide) (by decide) ?_
        show Steps p.tables e below (T19.setTop (mkF m 87 #[.val (.int p1), .val (.int p2), .val (.int p3), .val (.int p4), .val (.int p5), .val (.int p6), .val (.int (Int32.ofNat ka)), .val (.int (Int32.ofNat kb)), .val (.int (Int32.ofNat kc)), .val (.int (Int32.ofNat kd)), .val (.int (Int32.ofNat kq)), .val (.int de), .val (.int df), .val (.ref b), .unset] [])) _
        refine XS.aload X19.here hx rfl (hb hby at_87) rfl rfl ?_
        show Steps p.tables e below (T19.setTop (mkF m 89 #[.val (.int p1), .val (.int p2), .val (.int p3), .val (.int p4), .val (.int p5), .val (.int p6), .val (.int (Int32.ofNat ka)), .val (.int (Int32.ofNat kb)), .val (.int (Int32.ofNat kc)), .val (.int (Int32.ofNat kd)), .val (.int (Int32.ofNat kq)), .val (.int de), .val (.int df), .val (.ref b), .unset] [(.ref b)])) _
        refine XS.iload X19.here hx rfl (hb hby at_89) rfl ?_
        show Steps p.tables e below (T19.setTop (mkF m 91 #[.val (.int p1), .val (.int p2), .val (.int p3), .val (.int p4), .val (.int p5), .val (.int p6), .val (.int (Int32.ofNat ka)), .val (.int (Int32.ofNat kb)), .val (.int (Int32.ofNat kc)), .val (.int (Int32.ofNat kd)), .val (.int (Int32.ofNat kq)), .val (.int de), .val (.int df), .val (.ref b), .unset] [(.int (Int32.ofNat ka)), (.ref b)])) _
        refine XS.iload X19.here hx rfl (hb hby at_91) rfl ?_
        show Steps p.tables e below (T19.setTop (mkF m 93 #[.val (.int p1), .val (.int p2), .val (.int p3), .val (.int p4), .val (.int p5), .val (.int p6), .val (.int (Int32.ofNat ka)), .val (.int (Int32.ofNat kb)), .val (.int (Int32.ofNat kc)), .val (.int (Int32.ofNat kd)), .val (.int (Int32.ofNat kq)), .val (.int de), .val (.int df), .val (.ref b), .unset] [(.int (Int32.ofNat kb)), (.int (Int32.ofNat ka)), (.ref b)])) _
        exact Steps.refl _)
      have sz_a : n0 ≤ T19.heap.size := HN0.2.2.2.2.2.2.2.2.2.2.2
      obtain ⟨cq23, kq23, q23a, q23b, q23c⟩ := isOf hZ rfl HN0.1
      obtain ⟨_, _, ⟨T23, L23, k23, n23⟩, -, X23, hQ23, st23⟩ := X19.virtualBack hx (y := (⟨"com/example/edge_keeper/edgekeeper/Nesting", "learn", "(II)V"⟩ : MethodName)) (z := (⟨"com/example/edge_keeper/edgekeeper/Nesting", "learn", "(II)V"⟩ : MethodName)) hown (mvT hZ (hw _ (List.mem_of_getElem? (i := 43) rfl))) (mvT hZ (hw _ (List.mem_of_getElem? (i := 44) rfl))) (notFace_of_selects (args := #[]) (mvT hZ (hw _ (List.mem_of_getElem? (i := 46) rfl)))) (mvT hZ (hw _ (List.mem_of_getElem? (i := 46) rfl))) (mvT hZ (hw _ (List.mem_of_getElem? (i := 45) rfl))) (by decide) (backOf (W := 0) (rm10 l Z a0 hw [] b ka (Int32.ofNat kb) D0 0 (fun _ => -1) A0 0 (fun _ => -1) T19.heap n0 sz_a HN0 hka) hZ (hw _ (List.mem_of_getElem? (i := 47) rfl)) (hw _ (List.mem_of_getElem? (i := 2) rfl)) (by decide) (by decide)) q23a q23c (g := (mkF m 93 #[.val (.int p1), .val (.int p2), .val (.int p3), .val (.int p4), .val (.int p5), .val (.int p6), .val (.int (Int32.ofNat ka)), .val (.int (Int32.ofNat kb)), .val (.int (Int32.ofNat kc)), .val (.int (Int32.ofNat kd)), .val (.int (Int32.ofNat kq)), .val (.int de), .val (.int df), .val (.ref b), .unset] [(.int (Int32.ofNat kb)), (.int (Int32.ofNat ka)), (.ref b)])) rfl (by rw [hml]; rfl) (Steps.refl _) (argsL := [(.int (Int32.ofNat ka)), (.int (Int32.ofNat kb))]) (rest := []) (lenOf own_pd__II_V rfl) rfl (by show 2 * 0 + _ ≤ _; exact Nat.le_of_eq rfl) (hb hby at_93) (fun _ _ => ⟨rfl, rfl, (by decide : 3 + 1 ≤ _), (by decide : 2 + 32 ≤ _)⟩)
      dsimp only [Pt.U, Pt.locs, Pt.cells, Pt.slots] at X23 hQ23 st23
      obtain ⟨Lc23, hR23, l23, y23, z23⟩ := hQ23
      subst l23 y23 z23
      obtain ⟨rfl, Nq23, ra, na, Ha, xa, ya⟩ := hR23
      have N23 := Fr.app N19 Nq23
      have c24 : Steps p.tables e below S0 (T23.setTop (mkF m 96 #[.val (.int p1), .val (.int p2), .val (.int p3), .val (.int p4), .val (.int p5), .val (.int p6), .val (.int (Int32.ofNat ka)), .val (.int (Int32.ofNat kb)), .val (.int (Int32.ofNat kc)), .val (.int (Int32.ofNat kd)), .val (.int (Int32.ofNat kq)), .val (.int de), .val (.int df), .val (.ref b), .unset] [])) := c22.trans (st23)
      have c25 : Steps p.tables e below S0 (T23.setTop (mkF m 102 #[.val (.int p1), .val (.int p2), .val (.int p3), .val (.int p4), .val (.int p5), .val (.int p6), .val (.int (Int32.ofNat ka)), .val (.int (Int32.ofNat kb)), .val (.int (Int32.ofNat kc)), .val (.int (Int32.ofNat kd)), .val (.int (Int32.ofNat kq)), .val (.int de), .val (.int df), .val (.ref b), .unset] [(.int (Int32.ofNat kd)), (.int (Int32.ofNat kc)), (.ref b)])) := c24.trans (by
        refine XS.aload X23.here hx rfl (hb hby at_96) rfl rfl ?_
        show Steps p.tables e below (T23.setTop (mkF m 98 #[.val (.int p1), .val (.int p2), .val (.int p3), .val (.int p4), .val (.int p5), .val (.int p6), .val (.int (Int32.ofNat ka)), .val (.int (Int32.ofNat kb)), .val (.int (Int32.ofNat kc)), .val (.int (Int32.ofNat kd)), .val (.int (Int32.ofNat kq)), .val (.int de), .val (.int df), .val (.ref b), .unset] [(.ref b)])) _
        refine XS.iload X23.here hx rfl (hb hby at_98) rfl ?_
        show Steps p.tables e below (T23.setTop (mkF m 100 #[.val (.int p1), .val (.int p2), .val (.int p3), .val (.int p4), .val (.int p5), .val (.int p6), .val (.int (Int32.ofNat ka)), .val (.int (Int32.ofNat kb)), .val (.int (Int32.ofNat kc)), .val (.int (Int32.ofNat kd)), .val (.int (Int32.ofNat kq)), .val (.int de), .val (.int df), .val (.ref b), .unset] [(.int (Int32.ofNat kc)), (.ref b)])) _
        refine XS.iload X23.here hx rfl (hb hby at_100) rfl ?_
        show Steps p.tables e below (T23.setTop (mkF m 102 #[.val (.int p1), .val (.int p2), .val (.int p3), .val (.int p4), .val (.int p5), .val (.int p6), .val (.int (Int32.ofNat ka)), .val (.int (Int32.ofNat kb)), .val (.int (Int32.ofNat kc)), .val (.int (Int32.ofNat kd)), .val (.int (Int32.ofNat kq)), .val (.int de), .val (.int df), .val (.ref b), .unset] [(.int (Int32.ofNat kd)), (.int (Int32.ofNat kc)), (.ref b)])) _
        exact Steps.refl _)
      have sz_b : n0 ≤ T23.heap.size := Ha.2.2.2.2.2.2.2.2.2.2.2
      obtain ⟨cq26, kq26, q26a, q26b, q26c⟩ := isOf hZ rfl Ha.1
      obtain ⟨_, _, ⟨T26, L26, k26, n26⟩, -, X26, hQ26, st26⟩ := X23.virtualBack hx (y := (⟨"com/example/edge_keeper/edgekeeper/Nesting", "learn", "(II)V"⟩ : MethodName)) (z := (⟨"com/example/edge_keeper/edgekeeper/Nesting", "learn", "(II)V"⟩ : MethodName)) hown (mvT hZ (hw _ (List.mem_of_getElem? (i := 43) rfl))) (mvT hZ (hw _ (List.mem_of_getElem? (i := 44) rfl))) (notFace_of_selects (args := #[]) (mvT hZ (hw _ (List.mem_of_getElem? (i := 46) rfl)))) (mvT hZ (hw _ (List.mem_of_getElem? (i := 46) rfl))) (mvT hZ (hw _ (List.mem_of_getElem? (i := 45) rfl))) (by decide) (backOf (W := 0) (rm10 l Z a0 hw [] b kc (Int32.ofNat kd) D0 0 (fun _ => -1) ra na (fun j => if j = ka then (Int32.ofNat kb) else if j < 0 then (fun _ => -1) j else -1) T23.heap n0 sz_b Ha hkc) hZ (hw _ (List.mem_of_getElem? (i := 47) rfl)) (hw _ (List.mem_of_getElem? (i := 2) rfl)) (by decide) (by decide)) q26a q26c (g := (mkF m 102 #[.val (.int p1), .val (.int p2), .val (.int p3), .val (.int p4), .val (.int p5), .val (.int p6), .val (.int (Int32.ofNat ka)), .val (.int (Int32.ofNat kb)), .val (.int (Int32.ofNat kc)), .val (.int (Int32.ofNat kd)), .val (.int (Int32.ofNat kq)), .val (.int de), .val (.int df), .val (.ref b), .unset] [(.int (Int32.ofNat kd)), (.int (Int32.ofNat kc)), (.ref b)])) rfl (by rw [hml]; rfl) (Steps.refl _) (argsL := [(.int (Int32.ofNat kc)), (.int (Int32.ofNat kd))]) (rest := []) (lenOf own_pd__II_V rfl) rfl (by show 2 * 0 + _ ≤ _; exact Nat.le_of_eq rfl) (hb hby at_102) (fun _ _ => ⟨rfl, rfl, (by decide : 4 + 1 ≤ _), (by decide : 34 + 32 ≤ _)⟩)
      dsimp only [Pt.U, Pt.locs, Pt.cells, Pt.slots] at X26 hQ26 st26
      obtain ⟨Lc26, hR26, l26, y26, z26⟩ := hQ26
      subst l26 y26 z26
      obtain ⟨rfl, Nq26, rb, nb, Hb, xb, yb⟩ := hR26
      have N26 := Fr.app N23 Nq26
      have c27 : Steps p.tables e below S0 (T26.setTop (mkF m 105 #[.val (.int p1), .val (.int p2), .val (.int p3), .val (.int p4), .val (.int p5), .val (.int p6), .val (.int (Int32.ofNat ka)), .val (.int (Int32.ofNat kb)), .val (.int (Int32.ofNat kc)), .val (.int (Int32.ofNat kd)), .val (.int (Int32.ofNat kq)), .val (.int de), .val (.int df), .val (.ref b), .unset] [])) := c25.trans (st26)
      have c28 : Steps p.tables e below S0 (T26.setTop (mkF m 124 #[.val (.int p1), .val (.int p2), .val (.int p3), .val (.int p4), .val (.int p5), .val (.int p6), .val (.int (Int32.ofNat ka)), .val (.int (Int32.ofNat kb)), .val (.int (Int32.ofNat kc)), .val (.int (Int32.ofNat kd)), .val (.int (Int32.ofNat kq)), .val (.int de), .val (.int df), .val (.ref b), .unset] [])) := c27.trans (by
        refine XS.iload X26.here hx rfl (hb hby at_105) rfl ?_
        show Steps p.tables e below (T26.setTop (mkF m 107 #[.val (.int p1), .val (.int p2), .val (.int p3), .val (.int p4), .val (.int p5), .val (.int p6), .val (.int (Int32.ofNat ka)), .val (.int (Int32.ofNat kb)), .val (.int (Int32.ofNat kc)), .val (.int (Int32.ofNat kd)), .val (.int (Int32.ofNat kq)), .val (.int de), .val (.int df), .val (.ref b), .unset] [(.int de)])) _
        refine XS.ifYes X26.here hx rfl (pc0 := 107) (pc' := 124) rfl (hb hby at_107) rfl (XT.i0_eq_t (u1)) (by decide) (by decide) ?_
        show Steps p.tables e below (T26.setTop (mkF m 124 #[.val (.int p1), .val (.int p2), .val (.int p3), .val (.int p4), .val (.int p5), .val (.int p6), .val (.int (Int32.ofNat ka)), .val (.int (Int32.ofNat kb)), .val (.int (Int32.ofNat kc)), .val (.int (Int32.ofNat kd)), .val (.int (Int32.ofNat kq)), .val (.int de), .val (.int df), .val (.ref b), .unset] [])) _
        exact Steps.refl _)
      exact ⟨T26, _, _, _, _, _, _, _, X26.wide (fun x hx _ => hx) (by decide) (by decide), N26, Hb, fun i hi => own_fin0 hi hka hkc xa xb ya yb u1, by omega, by omega, c28⟩
    ·
      have c29 : Steps p.tables e below S0 (T19.setTop (mkF m 75 #[.val (.int p1), .val (.int p2), .val (.int p3), .val (.int p4), .val (.int p5), .val (.int p6), .val (.int (Int32.ofNat ka)), .val (.int (Int32.ofNat kb)), .val (.int (Int32.ofNat kc)), .val (.int (Int32.ofNat kd)), .val (.int (Int32.ofNat kq)), .val (.int de), .val (.int df), .val (.ref b), .unset] [(.int df)])) := c21.trans (by
        refine XS.ifNo X19.here hx rfl (hb hby at_70) rfl (XT.i0_eq_f u1) ?_
        show Steps p.tables e below (T19.setTop (mkF m 73 #[.val (.int p1), .val (.int p2), .val (.int p3), .val (.int p4), .val (.int p5), .val (.int p6), .val (.int (Int32.ofNat ka)), .val (.int (Int32.ofNat kb)), .val (.int (Int32.ofNat kc)), .val (.int (Int32.ofNat kd)), .val (.int (Int32.ofNat kq)), .val (.int de), .val (.int df), .val (.ref b), .unset] [])) _
        refine XS.iload X19.here hx rfl (hb hby at_73) rfl ?_
        show Steps p.tables e below (T19.setTop (mkF m 75 #[.val (.int p1), .val (.int p2), .val (.int p3), .val (.int p4), .val (.int p5), .val (.int p6), .val (.int (Int32.ofNat ka)), .val (.int (Int32.ofNat kb)), .val (.int (Int32.ofNat kc)), .val (.int (Int32.ofNat kd)), .val (.int (Int32.ofNat kq)), .val (.int de), .val (.int df), .val (.ref b), .unset] [(.int df)])) _
        exact Steps.refl _)
      by_cases u2 : df = 0
      ·
        have c30 : Steps p.tables e below S0 (T19.setTop (mkF m 93 #[.val (.int p1), .val (.int p2), .val (.int p3), .val (.int p4), .val (.int p5), .val (.int p6), .val (.int (Int32.ofNat ka)), .val (.int (Int32.ofNat kb)), .val (.int (Int32.ofNat kc)), .val (.int (Int32.ofNat kd)), .val (.int (Int32.ofNat kq)), .val (.int de), .val (.int df), .val (.ref b), .unset] [(.int (Int32.ofNat kb)), (.int (Int32.ofNat ka)), (.ref b)])) := c29.trans (by
          refine XS.ifYes X19.here hx rfl (pc0 := 75) (pc' := 87) rfl (hb hby at_75) rfl (XT.i0_eq_t u2) (by decide) (by decide) ?_
          show Steps p.tables e below (T19.setTop (mkF m 87 #[.val (.int p1), .val (.int p2), .val (.int p3), .val (.int p4), .val (.int p5), .val (.int p6), .val (.int (Int32.ofNat ka)), .val (.int (Int32.ofNat kb)), .val (.int (Int32.ofNat kc)), .val (.int (Int32.ofNat kd)), .val (.int (Int32.ofNat kq)), .val (.int de), .val (.int df), .val (.ref b), .unset] [])) _
          refine XS.aload X19.here hx rfl (hb hby at_87) rfl rfl ?_
          show Steps p.tables e below (T19.setTop (mkF m 89 #[.val (.int p1), .val (.int p2), .val (.int p3), .val (.int p4), .val (.int p5), .val (.int p6), .val (.int (Int32.ofNat ka)), .val (.int (Int32.ofNat kb)), .val (.int (Int32.ofNat kc)), .val (.int (Int32.ofNat kd)), .val (.int (Int32.ofNat kq)), .val (.int de), .val (.int df), .val (.ref b), .unset] [(.ref b)])) _
          refine XS.iload X19.here hx rfl (hb hby at_89) rfl ?_
          show Steps p.tables e below (T19.setTop (mkF m 91 #[.val (.int p1), .val (.int p2), .val (.int p3), .val (.int p4), .val (.int p5), .val (.int p6), .val (.int (Int32.ofNat ka)), .val (.int (Int32.ofNat kb)), .val (.int (Int32.ofNat kc)), .val (.int (Int32.ofNat kd)), .val (.int (Int32.ofNat kq)), .val (.int de), .val (.int df), .val (.ref b), .unset] [(.int (Int32.ofNat ka)), (.ref b)])) _
          refine XS.iload X19.here hx rfl (hb hby at_91) rfl ?_
          show Steps p.tables e below (T19.setTop (mkF m 93 #[.val (.int p1), .val (.int p2), .val (.int p3), .val (.int p4), .val (.int p5), .val (.int p6), .val (.int (Int32.ofNat ka)), .val (.int (Int32.ofNat kb)), .val (.int (Int32.ofNat kc)), .val (.int (Int32.ofNat kd)), .val (.int (Int32.ofNat kq)), .val (.int de), .val (.int df), .val (.ref b), .unset] [(.int (Int32.ofNat kb)), (.int (Int32.ofNat ka)), (.ref b)])) _
          exact Steps.refl _)
        have sz_a : n0 ≤ T19.heap.size := HN0.2.2.2.2.2.2.2.2.2.2.2
        obtain ⟨cq31, kq31, q31a, q31b, q31c⟩ := isOf hZ rfl HN0.1
        obtain ⟨_, _, ⟨T31, L31, k31, n31⟩, -, X31, hQ31, st31⟩ := X19.virtualBack hx (y := (⟨"com/example/edge_keeper/edgekeeper/Nesting", "learn", "(II)V"⟩ : MethodName)) (z := (⟨"com/example/edge_keeper/edgekeeper/Nesting", "learn", "(II)V"⟩ : MethodName)) hown (mvT hZ (hw _ (List.mem_of_getElem? (i := 43) rfl))) (mvT hZ (hw _ (List.mem_of_getElem? (i := 44) rfl))) (notFace_of_selects (args := #[]) (mvT hZ (hw _ (List.mem_of_getElem? (i := 46) rfl)))) (mvT hZ (hw _ (List.mem_of_getElem? (i := 46) rfl))) (mvT hZ (hw _ (List.mem_of_getElem? (i := 45) rfl))) (by decide) (backOf (W := 0) (rm10 l Z a0 hw [] b ka (Int32.ofNat kb) D0 0 (fun _ => -1) A0 0 (fun _ => -1) T19.heap n0 sz_a HN0 hka) hZ (hw _ (List.mem_of_getElem? (i := 47) rfl)) (hw _ (List.mem_of_getElem? (i := 2) rfl)) (by decide) (by decide)) q31a q31c (g := (mkF m 93 #[.val (.int p1), .val (.int p2), .val (.int p3), .val (.int p4), .val (.int p5), .val (.int p6), .val (.int (Int32.ofNat ka)), .val (.int (Int32.ofNat kb)), .val (.int (Int32.ofNat kc)), .val (.int (Int32.ofNat kd)), .val (.int (Int32.ofNat kq)), .val (.int de), .val (.int df), .val (.ref b), .unset] [(.int (Int32.ofNat kb)), (.int (Int32.ofNat ka)), (.ref b)])) rfl (by rw [hml]; rfl) (Steps.refl _) (argsL := [(.int (Int32.ofNat ka)), (.int (Int32.ofNat kb))]) (rest := []) (lenOf own_pd__II_V rfl) rfl (by show 2 * 0 + _ ≤ _; exact Nat.le_of_eq rfl) (hb hby at_93) (fun _ _ => ⟨rfl, rfl, (by decide : 3 + 1 ≤ _), (by decide : 2 + 32 ≤ _)⟩)
        dsimp only [Pt.U, Pt.locs, Pt.cells, Pt.slots] at X31 hQ31 st31
        obtain ⟨Lc31, hR31, l31, y31, z31⟩ := hQ31
        subst l31 y31 z31
        obtain ⟨rfl, Nq31, ra, na, Ha, xa, ya⟩ := hR31
        have N31 := Fr.app N19 Nq31
        have c32 : Steps p.tables e below S0 (T31.setTop (mkF m 96 #[.val (.int p1), .val (.int p2), .val (.int p3), .val (.int p4), .val (.int p5), .val (.int p6), .val (.int (Int32.ofNat ka)), .val (.int (Int32.ofNat kb)), .val (.int (Int32.ofNat kc)), .val (.int (Int32.ofNat kd)), .val (.int (Int32.ofNat kq)), .val (.int de), .val (.int df), .val (.ref b), .unset] [])) := c30.trans (st31)
        have c33 : Steps p.tables e below S0 (T31.setTop (mkF m 102 #[.val (.int p1), .val (.int p2), .val (.int p3), .val (.int p4), .val (.int p5), .val (.int p6), .val (.int (Int32.ofNat ka)), .val (.int (Int32.ofNat kb)), .val (.int (Int32.ofNat kc)), .val (.int (Int32.ofNat kd)), .val (.int (Int32.ofNat kq)), .val (.int de), .val (.int df), .val (.ref b), .unset] [(.int (Int32.ofNat kd)), (.int (Int32.ofNat kc)), (.ref b)])) := c32.trans (by
          refine XS.aload X31.here hx rfl (hb hby at_96) rfl rfl ?_
          show Steps p.tables e below (T31.setTop (mkF m 98 #[.val (.int p1), .val (.int p2), .val (.int p3), .val (.int p4), .val (.int p5), .val (.int p6), .val (.int (Int32.ofNat ka)), .val (.int (Int32.ofNat kb)), .val (.int (Int32.ofNat kc)), .val (.int (Int32.ofNat kd)), .val (.int (Int32.ofNat kq)), .val (.int de), .val (.int df), .val (.ref b), .unset] [(.ref b)])) _
          refine XS.iload X31.here hx rfl (hb hby at_98) rfl ?_
          show Steps p.tables e below (T31.setTop (mkF m 100 #[.val (.int p1), .val (.int p2), .val (.int p3), .val (.int p4), .val (.int p5), .val (.int p6), .val (.int (Int32.ofNat ka)), .val (.int (Int32.ofNat kb)), .val (.int (Int32.ofNat kc)), .val (.int (Int32.ofNat kd)), .val (.int (Int32.ofNat kq)), .val (.int de), .val (.int df), .val (.ref b), .unset] [(.int (Int32.ofNat kc)), (.ref b)])) _
          refine XS.iload X31.here hx rfl (hb hby at_100) rfl ?_
          show Steps p.tables e below (T31.setTop (mkF m 102 #[.val (.int p1), .val (.int p2), .val (.int p3), .val (.int p4), .val (.int p5), .val (.int p6), .val (.int (Int32.ofNat ka)), .val (.int (Int32.ofNat kb)), .val (.int (Int32.ofNat kc)), .val (.int (Int32.ofNat kd)), .val (.int (Int32.ofNat kq)), .val (.int de), .val (.int df), .val (.ref b), .unset] [(.int (Int32.ofNat kd)), (.int (Int32.ofNat kc)), (.ref b)])) _
          exact Steps.refl _)
        have sz_b : n0 ≤ T31.heap.size := Ha.2.2.2.2.2.2.2.2.2.2.2
        obtain ⟨cq34, kq34, q34a, q34b, q34c⟩ := isOf hZ rfl Ha.1
        obtain ⟨_, _, ⟨T34, L34, k34, n34⟩, -, X34, hQ34, st34⟩ := X31.virtualBack hx (y := (⟨"com/example/edge_keeper/edgekeeper/Nesting", "learn", "(II)V"⟩ : MethodName)) (z := (⟨"com/example/edge_keeper/edgekeeper/Nesting", "learn", "(II)V"⟩ : MethodName)) hown (mvT hZ (hw _ (List.mem_of_getElem? (i := 43) rfl))) (mvT hZ (hw _ (List.mem_of_getElem? (i := 44) rfl))) (notFace_of_selects (args := #[]) (mvT hZ (hw _ (List.mem_of_getElem? (i := 46) rfl)))) (mvT hZ (hw _ (List.mem_of_getElem? (i := 46) rfl))) (mvT hZ (hw _ (List.mem_of_getElem? (i := 45) rfl))) (by decide) (backOf (W := 0) (rm10 l Z a0 hw [] b kc (Int32.ofNat kd) D0 0 (fun _ => -1) ra na (fun j => if j = ka then (Int32.ofNat kb) else if j < 0 then (fun _ => -1) j else -1) T31.heap n0 sz_b Ha hkc) hZ (hw _ (List.mem_of_getElem? (i := 47) rfl)) (hw _ (List.mem_of_getElem? (i := 2) rfl)) (by decide) (by decide)) q34a q34c (g := (mkF m 102 #[.val (.int p1), .val (.int p2), .val (.int p3), .val (.int p4), .val (.int p5), .val (.int p6), .val (.int (Int32.ofNat ka)), .val (.int (Int32.ofNat kb)), .val (.int (Int32.ofNat kc)), .val (.int (Int32.ofNat kd)), .val (.int (Int32.ofNat kq)), .val (.int de), .val (.int df), .val (.ref b), .unset] [(.int (Int32.ofNat kd)), (.int (Int32.ofNat kc)), (.ref b)])) rfl (by rw [hml]; rfl) (Steps.refl _) (argsL := [(.int (Int32.ofNat kc)), (.int (Int32.ofNat kd))]) (rest := []) (lenOf own_pd__II_V rfl) rfl (by show 2 * 0 + _ ≤ _; exact Nat.le_of_eq rfl) (hb hby at_102) (fun _ _ => ⟨rfl, rfl, (by decide : 4 + 1 ≤ _), (by decide : 34 + 32 ≤ _)⟩)
        dsimp only [Pt.U, Pt.locs, Pt.cells, Pt.slots] at X34 hQ34 st34
        obtain ⟨Lc34, hR34, l34, y34, z34⟩ := hQ34
        subst l34 y34 z34
        obtain ⟨rfl, Nq34, rb, nb, Hb, xb, yb⟩ := hR34
        have N34 := Fr.app N31 Nq34
        have c35 : Steps p.tables e below S0 (T34.setTop (mkF m 105 #[.val (.int p1), .val (.int p2), .val (.int p3), .val (.int p4), .val (.int p5), .val (.int p6), .val (.int (Int32.ofNat ka)), .val (.int (Int32.ofNat kb)), .val (.int (Int32.ofNat kc)), .val (.int (Int32.ofNat kd)), .val (.int (Int32.ofNat kq)), .val (.int de), .val (.int df), .val (.ref b), .unset] [])) := c33.trans (st34)
        have c36 : Steps p.tables e below S0 (T34.setTop (mkF m 121 #[.val (.int p1), .val (.int p2), .val (.int p3), .val (.int p4), .val (.int p5), .val (.int p6), .val (.int (Int32.ofNat ka)), .val (.int (Int32.ofNat kb)), .val (.int (Int32.ofNat kc)), .val (.int (Int32.ofNat kd)), .val (.int (Int32.ofNat kq)), .val (.int de), .val (.int df), .val (.ref b), .unset] [(.int (Int32.ofNat ka)), (.int (Int32.ofNat ka)), (.ref b)])) := c35.trans (by
          refine XS.iload X34.here hx rfl (hb hby at_105) rfl ?_
          show Steps p.tables e below (T34.setTop (mkF m 107 #[.val (.int p1), .val (.int p2), .val (.int p3), .val (.int p4), .val (.int p5), .val (.int p6), .val (.int (Int32.ofNat ka)), .val (.int (Int32.ofNat kb)), .val (.int (Int32.ofNat kc)), .val (.int (Int32.ofNat kd)), .val (.int (Int32.ofNat kq)), .val (.int de), .val (.int df), .val (.ref b), .unset] [(.int de)])) _
          refine XS.ifNo X34.here hx rfl (hb hby at_107) rfl (XT.i0_eq_f (u1)) ?_
          show Steps p.tables e below (T34.setTop (mkF m 110 #[.val (.int p1), .val (.int p2), .val (.int p3), .val (.int p4), .val (.int p5), .val (.int p6), .val (.int (Int32.ofNat ka)), .val (.int (Int32.ofNat kb)), .val (.int (Int32.ofNat kc)), .val (.int (Int32.ofNat kd)), .val (.int (Int32.ofNat kq)), .val (.int de), .val (.int df), .val (.ref b), .unset] [])) _
          refine XS.iload X34.here hx rfl (hb hby at_110) rfl ?_
          show Steps p.tables e below (T34.setTop (mkF m 112 #[.val (.int p1), .val (.int p2), .val (.int p3), .val (.int p4), .val (.int p5), .val (.int p6), .val (.int (Int32.ofNat ka)), .val (.int (Int32.ofNat kb)), .val (.int (Int32.ofNat kc)), .val (.int (Int32.ofNat kd)), .val (.int (Int32.ofNat kq)), .val (.int de), .val (.int df), .val (.ref b), .unset] [(.int df)])) _
          refine XS.ifNo X34.here hx rfl (hb hby at_112) rfl (XT.i0_ne_f (u2)) ?_
          show Steps p.tables e below (T34.setTop (mkF m 115 #[.val (.int p1), .val (.int p2), .val (.int p3), .val (.int p4), .val (.int p5), .val (.int p6), .val (.int (Int32.ofNat ka)), .val (.int (Int32.ofNat kb)), .val (.int (Int32.ofNat kc)), .val (.int (Int32.ofNat kd)), .val (.int (Int32.ofNat kq)), .val (.int de), .val (.int df), .val (.ref b), .unset] [])) _
          refine XS.aload X34.here hx rfl (hb hby at_115) rfl rfl ?_
          show Steps p.tables e below (T34.setTop (mkF m 117 #[.val (.int p1), .val (.int p2), .val (.int p3), .val (.int p4), .val (.int p5), .val (.int p6), .val (.int (Int32.ofNat ka)), .val (.int (Int32.ofNat kb)), .val (.int (Int32.ofNat kc)), .val (.int (Int32.ofNat kd)), .val (.int (Int32.ofNat kq)), .val (.int de), .val (.int df), .val (.ref b), .unset] [(.ref b)])) _
          refine XS.iload X34.here hx rfl (hb hby at_117) rfl ?_
          show Steps p.tables e below (T34.setTop (mkF m 119 #[.val (.int p1), .val (.int p2), .val (.int p3), .val (.int p4), .val (.int p5), .val (.int p6), .val (.int (Int32.ofNat ka)), .val (.int (Int32.ofNat kb)), .val (.int (Int32.ofNat kc)), .val (.int (Int32.ofNat kd)), .val (.int (Int32.ofNat kq)), .val (.int de), .val (.int df), .val (.ref b), .unset] [(.int (Int32.ofNat ka)), (.ref b)])) _
          refine XS.iload X34.here hx rfl (hb hby at_119) rfl ?_
          show Steps p.tables e below (T34.setTop (mkF m 121 #[.val (.int p1), .val (.int p2), .val (.int p3), .val (.int p4), .val (.int p5), .val (.int p6), .val (.int (Int32.ofNat ka)), .val (.int (Int32.ofNat kb)), .val (.int (Int32.ofNat kc)), .val (.int (Int32.ofNat kd)), .val (.int (Int32.ofNat kq)), .val (.int de), .val (.int df), .val (.ref b), .unset] [(.int (Int32.ofNat ka)), (.int (Int32.ofNat ka)), (.ref b)])) _
          exact Steps.refl _)
        have sz_c : n0 ≤ T34.heap.size := Hb.2.2.2.2.2.2.2.2.2.2.2
        obtain ⟨cq37, kq37, q37a, q37b, q37c⟩ := isOf hZ rfl Hb.1
        obtain ⟨_, _, ⟨T37, L37, k37, n37⟩, -, X37, hQ37, st37⟩ := X34.virtualBack hx (y := (⟨"com/example/edge_keeper/edgekeeper/Nesting", "declare", "(II)V"⟩ : MethodName)) (z := (⟨"com/example/edge_keeper/edgekeeper/Nesting", "declare", "(II)V"⟩ : MethodName)) hown (mvT hZ (hw _ (List.mem_of_getElem? (i := 14) rfl))) (mvT hZ (hw _ (List.mem_of_getElem? (i := 15) rfl))) (notFace_of_selects (args := #[]) (mvT hZ (hw _ (List.mem_of_getElem? (i := 17) rfl)))) (mvT hZ (hw _ (List.mem_of_getElem? (i := 17) rfl))) (mvT hZ (hw _ (List.mem_of_getElem? (i := 16) rfl))) (by decide) (backOf (W := 0) (rm3 l Z a0 hw [] b ka (Int32.ofNat ka) D0 0 (fun _ => -1) rb nb (fun j => if j = kc then (Int32.ofNat kd) else if j < na then (fun j => if j = ka then (Int32.ofNat kb) else if j < 0 then (fun _ => -1) j else -1) j else -1) T34.heap n0 sz_c Hb hka) hZ (hw _ (List.mem_of_getElem? (i := 18) rfl)) (hw _ (List.mem_of_getElem? (i := 2) rfl)) (by decide) (by decide)) q37a q37c (g := (mkF m 121 #[.val (.int p1), .val (.int p2), .val (.int p3), .val (.int p4), .val (.int p5), .val (.int p6), .val (.int (Int32.ofNat ka)), .val (.int (Int32.ofNat kb)), .val (.int (Int32.ofNat kc)), .val (.int (Int32.ofNat kd)), .val (.int (Int32.ofNat kq)), .val (.int de), .val (.int df), .val (.ref b), .unset] [(.int (Int32.ofNat ka)), (.int (Int32.ofNat ka)), (.ref b)])) rfl (by rw [hml]; rfl) (Steps.refl _) (argsL := [(.int (Int32.ofNat ka)), (.int (Int32.ofNat ka))]) (rest := []) (lenOf own_pd__II_V rfl) rfl (by show 2 * 0 + _ ≤ _; exact Nat.le_of_eq rfl) (hb hby at_121) (fun _ _ => ⟨rfl, rfl, (by decide : 5 + 1 ≤ _), (by decide : 66 + 32 ≤ _)⟩)
        dsimp only [Pt.U, Pt.locs, Pt.cells, Pt.slots] at X37 hQ37 st37
        obtain ⟨Lc37, hR37, l37, y37, z37⟩ := hQ37
        subst l37 y37 z37
        obtain ⟨rfl, Nq37, rc, nc, Hc, xc, yc⟩ := hR37
        have N37 := Fr.app N34 Nq37
        have c38 : Steps p.tables e below S0 (T37.setTop (mkF m 124 #[.val (.int p1), .val (.int p2), .val (.int p3), .val (.int p4), .val (.int p5), .val (.int p6), .val (.int (Int32.ofNat ka)), .val (.int (Int32.ofNat kb)), .val (.int (Int32.ofNat kc)), .val (.int (Int32.ofNat kd)), .val (.int (Int32.ofNat kq)), .val (.int de), .val (.int df), .val (.ref b), .unset] [])) := c36.trans (st37)
        exact ⟨T37, _, _, _, _, _, _, _, X37.wide (fun x hx _ => hx) (by decide) (by decide), N37, Hc, fun i hi => own_fin1 hi hka hkc xa xb ya yb xc u1, by omega, by omega, c38⟩
      ·
        have c39 : Steps p.tables e below S0 (T19.setTop (mkF m 84 #[.val (.int p1), .val (.int p2), .val (.int p3), .val (.int p4), .val (.int p5), .val (.int p6), .val (.int (Int32.ofNat ka)), .val (.int (Int32.ofNat kb)), .val (.int (Int32.ofNat kc)), .val (.int (Int32.ofNat kd)), .val (.int (Int32.ofNat kq)), .val (.int de), .val (.int df), .val (.ref b), .unset] [(.int (Int32.ofNat ka)), (.int (Int32.ofNat ka)), (.ref b)])) := c29.trans (by
          refine XS.ifNo X19.here hx rfl (hb hby at_75) rfl (XT.i0_eq_f u2) ?_
          show Steps p.tables e below (T19.setTop (mkF m 78 #[.val (.int p1), .val (.int p2), .val (.int p3), .val (.int p4), .val (.int p5), .val (.int p6), .val (.int (Int32.ofNat ka)), .val (.int (Int32.ofNat kb)), .val (.int (Int32.ofNat kc)), .val (.int (Int32.ofNat kd)), .val (.int (Int32.ofNat kq)), .val (.int de), .val (.int df), .val (.ref b), .unset] [])) _
          refine XS.aload X19.here hx rfl (hb hby at_78) rfl rfl ?_
          show Steps p.tables e below (T19.setTop (mkF m 80 #[.val (.int p1), .val (.int p2), .val (.int p3), .val (.int p4), .val (.int p5), .val (.int p6), .val (.int (Int32.ofNat ka)), .val (.int (Int32.ofNat kb)), .val (.int (Int32.ofNat kc)), .val (.int (Int32.ofNat kd)), .val (.int (Int32.ofNat kq)), .val (.int de), .val (.int df), .val (.ref b), .unset] [(.ref b)])) _
          refine XS.iload X19.here hx rfl (hb hby at_80) rfl ?_
          show Steps p.tables e below (T19.setTop (mkF m 82 #[.val (.int p1), .val (.int p2), .val (.int p3), .val (.int p4), .val (.int p5), .val (.int p6), .val (.int (Int32.ofNat ka)), .val (.int (Int32.ofNat kb)), .val (.int (Int32.ofNat kc)), .val (.int (Int32.ofNat kd)), .val (.int (Int32.ofNat kq)), .val (.int de), .val (.int df), .val (.ref b), .unset] [(.int (Int32.ofNat ka)), (.ref b)])) _
          refine XS.iload X19.here hx rfl (hb hby at_82) rfl ?_
          show Steps p.tables e below (T19.setTop (mkF m 84 #[.val (.int p1), .val (.int p2), .val (.int p3), .val (.int p4), .val (.int p5), .val (.int p6), .val (.int (Int32.ofNat ka)), .val (.int (Int32.ofNat kb)), .val (.int (Int32.ofNat kc)), .val (.int (Int32.ofNat kd)), .val (.int (Int32.ofNat kq)), .val (.int de), .val (.int df), .val (.ref b), .unset] [(.int (Int32.ofNat ka)), (.int (Int32.ofNat ka)), (.ref b)])) _
          exact Steps.refl _)
        have sz_c : n0 ≤ T19.heap.size := HN0.2.2.2.2.2.2.2.2.2.2.2
        obtain ⟨cq40, kq40, q40a, q40b, q40c⟩ := isOf hZ rfl HN0.1
        obtain ⟨_, _, ⟨T40, L40, k40, n40⟩, -, X40, hQ40, st40⟩ := X19.virtualBack hx (y := (⟨"com/example/edge_keeper/edgekeeper/Nesting", "declare", "(II)V"⟩ : MethodName)) (z := (⟨"com/example/edge_keeper/edgekeeper/Nesting", "declare", "(II)V"⟩ : MethodName)) hown (mvT hZ (hw _ (List.mem_of_getElem? (i := 14) rfl))) (mvT hZ (hw _ (List.mem_of_getElem? (i := 15) rfl))) (notFace_of_selects (args := #[]) (mvT hZ (hw _ (List.mem_of_getElem? (i := 17) rfl)))) (mvT hZ (hw _ (List.mem_of_getElem? (i := 17) rfl))) (mvT hZ (hw _ (List.mem_of_getElem? (i := 16) rfl))) (by decide) (backOf (W := 0) (rm3 l Z a0 hw [] b ka (Int32.ofNat ka) D0 0 (fun _ => -1) A0 0 (fun _ => -1) T19.heap n0 sz_c HN0 hka) hZ (hw _ (List.mem_of_getElem? (i := 18) rfl)) (hw _ (List.mem_of_getElem? (i := 2) rfl)) (by decide) (by decide)) q40a q40c (g := (mkF m 84 #[.val (.int p1), .val (.int p2), .val (.int p3), .val (.int p4), .val (.int p5), .val (.int p6), .val (.int (Int32.ofNat ka)), .val (.int (Int32.ofNat kb)), .val (.int (Int32.ofNat kc)), .val (.int (Int32.ofNat kd)), .val (.int (Int32.ofNat kq)), .val (.int de), .val (.int df), .val (.ref b), .unset] [(.int (Int32.ofNat ka)), (.int (Int32.ofNat ka)), (.ref b)])) rfl (by rw [hml]; rfl) (Steps.refl _) (argsL := [(.int (Int32.ofNat ka)), (.int (Int32.ofNat ka))]) (rest := []) (lenOf own_pd__II_V rfl) rfl (by show 2 * 0 + _ ≤ _; exact Nat.le_of_eq rfl) (hb hby at_84) (fun _ _ => ⟨rfl, rfl, (by decide : 3 + 1 ≤ _), (by decide : 2 + 32 ≤ _)⟩)
        dsimp only [Pt.U, Pt.locs, Pt.cells, Pt.slots] at X40 hQ40 st40
        obtain ⟨Lc40, hR40, l40, y40, z40⟩ := hQ40
        subst l40 y40 z40
        obtain ⟨rfl, Nq40, rc, nc, Hc, xc, yc⟩ := hR40
        have N40 := Fr.app N19 Nq40
        have c41 : Steps p.tables e below S0 (T40.setTop (mkF m 87 #[.val (.int p1), .val (.int p2), .val (.int p3), .val (.int p4), .val (.int p5), .val (.int p6), .val (.int (Int32.ofNat ka)), .val (.int (Int32.ofNat kb)), .val (.int (Int32.ofNat kc)), .val (.int (Int32.ofNat kd)), .val (.int (Int32.ofNat kq)), .val (.int de), .val (.int df), .val (.ref b), .unset] [])) := c39.trans (st40)
        have c42 : Steps p.tables e below S0 (T40.setTop (mkF m 93 #[.val (.int p1), .val (.int p2), .val (.int p3), .val (.int p4), .val (.int p5), .val (.int p6), .val (.int (Int32.ofNat ka)), .val (.int (Int32.ofNat kb)), .val (.int (Int32.ofNat kc)), .val (.int (Int32.ofNat kd)), .val (.int (Int32.ofNat kq)), .val (.int de), .val (.int df), .val (.ref b), .unset] [(.int (Int32.ofNat kb)), (.int (Int32.ofNat ka)), (.ref b)])) := c41.trans (by
          refine XS.aload X40.here hx rfl (hb hby at_87) rfl rfl ?_
          show Steps p.tables e below (T40.setTop (mkF m 89 #[.val (.int p1), .val (.int p2), .val (.int p3), .val (.int p4), .val (.int p5), .val (.int p6), .val (.int (Int32.ofNat ka)), .val (.int (Int32.ofNat kb)), .val (.int (Int32.ofNat kc)), .val (.int (Int32.ofNat kd)), .val (.int (Int32.ofNat kq)), .val (.int de), .val (.int df), .val (.ref b), .unset] [(.ref b)])) _
          refine XS.iload X40.here hx rfl (hb hby at_89) rfl ?_
          show Steps p.tables e below (T40.setTop (mkF m 91 #[.val (.int p1), .val (.int p2), .val (.int p3), .val (.int p4), .val (.int p5), .val (.int p6), .val (.int (Int32.ofNat ka)), .val (.int (Int32.ofNat kb)), .val (.int (Int32.ofNat kc)), .val (.int (Int32.ofNat kd)), .val (.int (Int32.ofNat kq)), .val (.int de), .val (.int df), .val (.ref b), .unset] [(.int (Int32.ofNat ka)), (.ref b)])) _
          refine XS.iload X40.here hx rfl (hb hby at_91) rfl ?_
          show Steps p.tables e below (T40.setTop (mkF m 93 #[.val (.int p1), .val (.int p2), .val (.int p3), .val (.int p4), .val (.int p5), .val (.int p6), .val (.int (Int32.ofNat ka)), .val (.int (Int32.ofNat kb)), .val (.int (Int32.ofNat kc)), .val (.int (Int32.ofNat kd)), .val (.int (Int32.ofNat kq)), .val (.int de), .val (.int df), .val (.ref b), .unset] [(.int (Int32.ofNat kb)), (.int (Int32.ofNat ka)), (.ref b)])) _
          exact Steps.refl _)
        have sz_a : n0 ≤ T40.heap.size := Hc.2.2.2.2.2.2.2.2.2.2.2
        obtain ⟨cq43, kq43, q43a, q43b, q43c⟩ := isOf hZ rfl Hc.1
        obtain ⟨_, _, ⟨T43, L43, k43, n43⟩, -, X43, hQ43, st43⟩ := X40.virtualBack hx (y := (⟨"com/example/edge_keeper/edgekeeper/Nesting", "learn", "(II)V"⟩ : MethodName)) (z := (⟨"com/example/edge_keeper/edgekeeper/Nesting", "learn", "(II)V"⟩ : MethodName)) hown (mvT hZ (hw _ (List.mem_of_getElem? (i := 43) rfl))) (mvT hZ (hw _ (List.mem_of_getElem? (i := 44) rfl))) (notFace_of_selects (args := #[]) (mvT hZ (hw _ (List.mem_of_getElem? (i := 46) rfl)))) (mvT hZ (hw _ (List.mem_of_getElem? (i := 46) rfl))) (mvT hZ (hw _ (List.mem_of_getElem? (i := 45) rfl))) (by decide) (backOf (W := 0) (rm10 l Z a0 hw [] b ka (Int32.ofNat kb) rc nc (fun j => if j = ka then (Int32.ofNat ka) else if j < 0 then (fun _ => -1) j else -1) A0 0 (fun _ => -1) T40.heap n0 sz_a Hc hka) hZ (hw _ (List.mem_of_getElem? (i := 47) rfl)) (hw _ (List.mem_of_getElem? (i := 2) rfl)) (by decide) (by decide)) q43a q43c (g := (mkF m 93 #[.val (.int p1), .val (.int p2), .val (.int p3), .val (.int p4), .val (.int p5), .val (.int p6), .val (.int (Int32.ofNat ka)), .val (.int (Int32.ofNat kb)), .val (.int (Int32.ofNat kc)), .val (.int (Int32.ofNat kd)), .val (.int (Int32.ofNat kq)), .val (.int de), .val (.int df), .val (.ref b), .unset] [(.int (Int32.ofNat kb)), (.int (Int32.ofNat ka)), (.ref b)])) rfl (by rw [hml]; rfl) (Steps.refl _) (argsL := [(.int (Int32.ofNat ka)), (.int (Int32.ofNat kb))]) (rest := []) (lenOf own_pd__II_V rfl) rfl (by show 2 * 0 + _ ≤ _; exact Nat.le_of_eq rfl) (hb hby at_93) (fun _ _ => ⟨rfl, rfl, (by decide : 4 + 1 ≤ _), (by decide : 34 + 32 ≤ _)⟩)
        dsimp only [Pt.U, Pt.locs, Pt.cells, Pt.slots] at X43 hQ43 st43
        obtain ⟨Lc43, hR43, l43, y43, z43⟩ := hQ43
        subst l43 y43 z43
        obtain ⟨rfl, Nq43, ra, na, Ha, xa, ya⟩ := hR43
        have N43 := Fr.app N40 Nq43
        have c44 : Steps p.tables e below S0 (T43.setTop (mkF m 96 #[.val (.int p1), .val (.int p2), .val (.int p3), .val (.int p4), .val (.int p5), .val (.int p6), .val (.int (Int32.ofNat ka)), .val (.int (Int32.ofNat kb)), .val (.int (Int32.ofNat kc)), .val (.int (Int32.ofNat kd)), .val (.int (Int32.ofNat kq)), .val (.int de), .val (.int df), .val (.ref b), .unset] [])) := c42.trans (st43)
        have c45 : Steps p.tables e below S0 (T43.setTop (mkF m 102 #[.val (.int p1), .val (.int p2), .val (.int p3), .val (.int p4), .val (.int p5), .val (.int p6), .val (.int (Int32.ofNat ka)), .val (.int (Int32.ofNat kb)), .val (.int (Int32.ofNat kc)), .val (.int (Int32.ofNat kd)), .val (.int (Int32.ofNat kq)), .val (.int de), .val (.int df), .val (.ref b), .unset] [(.int (Int32.ofNat kd)), (.int (Int32.ofNat kc)), (.ref b)])) := c44.trans (by
          refine XS.aload X43.here hx rfl (hb hby at_96) rfl rfl ?_
          show Steps p.tables e below (T43.setTop (mkF m 98 #[.val (.int p1), .val (.int p2), .val (.int p3), .val (.int p4), .val (.int p5), .val (.int p6), .val (.int (Int32.ofNat ka)), .val (.int (Int32.ofNat kb)), .val (.int (Int32.ofNat kc)), .val (.int (Int32.ofNat kd)), .val (.int (Int32.ofNat kq)), .val (.int de), .val (.int df), .val (.ref b), .unset] [(.ref b)])) _
          refine XS.iload X43.here hx rfl (hb hby at_98) rfl ?_
          show Steps p.tables e below (T43.setTop (mkF m 100 #[.val (.int p1), .val (.int p2), .val (.int p3), .val (.int p4), .val (.int p5), .val (.int p6), .val (.int (Int32.ofNat ka)), .val (.int (Int32.ofNat kb)), .val (.int (Int32.ofNat kc)), .val (.int (Int32.ofNat kd)), .val (.int (Int32.ofNat kq)), .val (.int de), .val (.int df), .val (.ref b), .unset] [(.int (Int32.ofNat kc)), (.ref b)])) _
          refine XS.iload X43.here hx rfl (hb hby at_100) rfl ?_
          show Steps p.tables e below (T43.setTop (mkF m 102 #[.val (.int p1), .val (.int p2), .val (.int p3), .val (.int p4), .val (.int p5), .val (.int p6), .val (.int (Int32.ofNat ka)), .val (.int (Int32.ofNat kb)), .val (.int (Int32.ofNat kc)), .val (.int (Int32.ofNat kd)), .val (.int (Int32.ofNat kq)), .val (.int de), .val (.int df), .val (.ref b), .unset] [(.int (Int32.ofNat kd)), (.int (Int32.ofNat kc)), (.ref b)])) _
          exact Steps.refl _)
        have sz_b : n0 ≤ T43.heap.size := Ha.2.2.2.2.2.2.2.2.2.2.2
        obtain ⟨cq46, kq46, q46a, q46b, q46c⟩ := isOf hZ rfl Ha.1
        obtain ⟨_, _, ⟨T46, L46, k46, n46⟩, -, X46, hQ46, st46⟩ := X43.virtualBack hx (y := (⟨"com/example/edge_keeper/edgekeeper/Nesting", "learn", "(II)V"⟩ : MethodName)) (z := (⟨"com/example/edge_keeper/edgekeeper/Nesting", "learn", "(II)V"⟩ : MethodName)) hown (mvT hZ (hw _ (List.mem_of_getElem? (i := 43) rfl))) (mvT hZ (hw _ (List.mem_of_getElem? (i := 44) rfl))) (notFace_of_selects (args := #[]) (mvT hZ (hw _ (List.mem_of_getElem? (i := 46) rfl)))) (mvT hZ (hw _ (List.mem_of_getElem? (i := 46) rfl))) (mvT hZ (hw _ (List.mem_of_getElem? (i := 45) rfl))) (by decide) (backOf (W := 0) (rm10 l Z a0 hw [] b kc (Int32.ofNat kd) rc nc (fun j => if j = ka then (Int32.ofNat ka) else if j < 0 then (fun _ => -1) j else -1) ra na (fun j => if j = ka then (Int32.ofNat kb) else if j < 0 then (fun _ => -1) j else -1) T43.heap n0 sz_b Ha hkc) hZ (hw _ (List.mem_of_getElem? (i := 47) rfl)) (hw _ (List.mem_of_getElem? (i := 2) rfl)) (by decide) (by decide)) q46a q46c (g := (mkF m 102 #[.val (.int p1), .val (.int p2), .val (.int p3), .val (.int p4), .val (.int p5), .val (.int p6), .val (.int (Int32.ofNat ka)), .val (.int (Int32.ofNat kb)), .val (.int (Int32.ofNat kc)), .val (.int (Int32.ofNat kd)), .val (.int (Int32.ofNat kq)), .val (.int de), .val (.int df), .val (.ref b), .unset] [(.int (Int32.ofNat kd)), (.int (Int32.ofNat kc)), (.ref b)])) rfl (by rw [hml]; rfl) (Steps.refl _) (argsL := [(.int (Int32.ofNat kc)), (.int (Int32.ofNat kd))]) (rest := []) (lenOf own_pd__II_V rfl) rfl (by show 2 * 0 + _ ≤ _; exact Nat.le_of_eq rfl) (hb hby at_102) (fun _ _ => ⟨rfl, rfl, (by decide : 5 + 1 ≤ _), (by decide : 66 + 32 ≤ _)⟩)
        dsimp only [Pt.U, Pt.locs, Pt.cells, Pt.slots] at X46 hQ46 st46
        obtain ⟨Lc46, hR46, l46, y46, z46⟩ := hQ46
        subst l46 y46 z46
        obtain ⟨rfl, Nq46, rb, nb, Hb, xb, yb⟩ := hR46
        have N46 := Fr.app N43 Nq46
        have c47 : Steps p.tables e below S0 (T46.setTop (mkF m 105 #[.val (.int p1), .val (.int p2), .val (.int p3), .val (.int p4), .val (.int p5), .val (.int p6), .val (.int (Int32.ofNat ka)), .val (.int (Int32.ofNat kb)), .val (.int (Int32.ofNat kc)), .val (.int (Int32.ofNat kd)), .val (.int (Int32.ofNat kq)), .val (.int de), .val (.int df), .val (.ref b), .unset] [])) := c45.trans (st46)
        have c48 : Steps p.tables e below S0 (T46.setTop (mkF m 124 #[.val (.int p1), .val (.int p2), .val (.int p3), .val (.int p4), .val (.int p5), .val (.int p6), .val (.int (Int32.ofNat ka)), .val (.int (Int32.ofNat kb)), .val (.int (Int32.ofNat kc)), .val (.int (Int32.ofNat kd)), .val (.int (Int32.ofNat kq)), .val (.int de), .val (.int df), .val (.ref b), .unset] [])) := c47.trans (by
          refine XS.iload X46.here hx rfl (hb hby at_105) rfl ?_
          show Steps p.tables e below (T46.setTop (mkF m 107 #[.val (.int p1), .val (.int p2), .val (.int p3), .val (.int p4), .val (.int p5), .val (.int p6), .val (.int (Int32.ofNat ka)), .val (.int (Int32.ofNat kb)), .val (.int (Int32.ofNat kc)), .val (.int (Int32.ofNat kd)), .val (.int (Int32.ofNat kq)), .val (.int de), .val (.int df), .val (.ref b), .unset] [(.int de)])) _
          refine XS.ifNo X46.here hx rfl (hb hby at_107) rfl (XT.i0_eq_f (u1)) ?_
          show Steps p.tables e below (T46.setTop (mkF m 110 #[.val (.int p1), .val (.int p2), .val (.int p3), .val (.int p4), .val (.int p5), .val (.int p6), .val (.int (Int32.ofNat ka)), .val (.int (Int32.ofNat kb)), .val (.int (Int32.ofNat kc)), .val (.int (Int32.ofNat kd)), .val (.int (Int32.ofNat kq)), .val (.int de), .val (.int df), .val (.ref b), .unset] [])) _
          refine XS.iload X46.here hx rfl (hb hby at_110) rfl ?_
          show Steps p.tables e below (T46.setTop (mkF m 112 #[.val (.int p1), .val (.int p2), .val (.int p3), .val (.int p4), .val (.int p5), .val (.int p6), .val (.int (Int32.ofNat ka)), .val (.int (Int32.ofNat kb)), .val (.int (Int32.ofNat kc)), .val (.int (Int32.ofNat kd)), .val (.int (Int32.ofNat kq)), .val (.int de), .val (.int df), .val (.ref b), .unset] [(.int df)])) _
          refine XS.ifYes X46.here hx rfl (pc0 := 112) (pc' := 124) rfl (hb hby at_112) rfl (XT.i0_ne_t (u2)) (by decide) (by decide) ?_
          show Steps p.tables e below (T46.setTop (mkF m 124 #[.val (.int p1), .val (.int p2), .val (.int p3), .val (.int p4), .val (.int p5), .val (.int p6), .val (.int (Int32.ofNat ka)), .val (.int (Int32.ofNat kb)), .val (.int (Int32.ofNat kc)), .val (.int (Int32.ofNat kd)), .val (.int (Int32.ofNat kq)), .val (.int de), .val (.int df), .val (.ref b), .unset] [])) _
          exact Steps.refl _)
        exact ⟨T46, _, _, _, _, _, _, _, X46.wide (fun x hx _ => hx) (by decide) (by decide), N46, Hb, fun i hi => own_fin1 hi hka hkc xa xb ya yb xc u1, by omega, by omega, c48⟩
  obtain ⟨c_D, Ar_D, Sz_D, le_D, H_D⟩ := HN.2.2.2.1
  obtain ⟨c_A, Ar_A, Sz_A, le_A, H_A⟩ := HN.2.2.2.2.1
  have hokc : ∀ i, i ≤ 15 → own_ok (own_e nd fd nl fl i) := fun i hi => by rw [hE i hi]; exact own_enc_ok (Or.inr ⟨ka, hka, rfl⟩) (Or.inr ⟨kb, hkb, rfl⟩) (Or.inr ⟨kd, hkd, rfl⟩)
  have c49 : Steps p.tables e below S0 (T9.setTop (mkF m 128 #[.val (.int p1), .val (.int p2), .val (.int p3), .val (.int p4), .val (.int p5), .val (.int p6), .val (.int (Int32.ofNat ka)), .val (.int (Int32.ofNat kb)), .val (.int (Int32.ofNat kc)), .val (.int (Int32.ofNat kd)), .val (.int (Int32.ofNat kq)), .val (.int de), .val (.int df), .val (.ref b), .unset] [(.int (Int32.ofNat ka)), (.ref b)])) := c9.trans (by
    refine XS.aload X9.here hx rfl (hb hby at_124) rfl rfl ?_
    show Steps p.tables e below (T9.setTop (mkF m 126 #[.val (.int p1), .val (.int p2), .val (.int p3), .val (.int p4), .val (.int p5), .val (.int p6), .val (.int (Int32.ofNat ka)), .val (.int (Int32.ofNat kb)), .val (.int (Int32.ofNat kc)), .val (.int (Int32.ofNat kd)), .val (.int (Int32.ofNat kq)), .val (.int de), .val (.int df), .val (.ref b), .unset] [(.ref b)])) _
    refine XS.iload X9.here hx rfl (hb hby at_126) rfl ?_
    show Steps p.tables e below (T9.setTop (mkF m 128 #[.val (.int p1), .val (.int p2), .val (.int p3), .val (.int p4), .val (.int p5), .val (.int p6), .val (.int (Int32.ofNat ka)), .val (.int (Int32.ofNat kb)), .val (.int (Int32.ofNat kc)), .val (.int (Int32.ofNat kd)), .val (.int (Int32.ofNat kq)), .val (.int de), .val (.int df), .val (.ref b), .unset] [(.int (Int32.ofNat ka)), (.ref b)])) _
    exact Steps.refl _)
  have szo0 : n0 ≤ T9.heap.size := HN.2.2.2.2.2.2.2.2.2.2.2
  obtain ⟨cq50, kq50, q50a, q50b, q50c⟩ := isOf hZ rfl HN.1
  obtain ⟨_, _, ⟨T50, L50, k50, n50⟩, -, X50, hQ50, st50⟩ := X9.virtualBack hx (y := (⟨"com/example/edge_keeper/edgekeeper/Nesting", "outermost", "(I)I"⟩ : MethodName)) (z := (⟨"com/example/edge_keeper/edgekeeper/Nesting", "outermost", "(I)I"⟩ : MethodName)) hown (mvT hZ (hw _ (List.mem_of_getElem? (i := 48) rfl))) (mvT hZ (hw _ (List.mem_of_getElem? (i := 49) rfl))) (notFace_of_selects (args := #[]) (mvT hZ (hw _ (List.mem_of_getElem? (i := 51) rfl)))) (mvT hZ (hw _ (List.mem_of_getElem? (i := 51) rfl))) (mvT hZ (hw _ (List.mem_of_getElem? (i := 50) rfl))) (by decide) (backOf (W := 0) (rm11 l Z a0 hw [] b ka D nd fd A nl fl T9.heap n0 szo0 HN hka hokc) hZ (hw _ (List.mem_of_getElem? (i := 52) rfl)) (hw _ (List.mem_of_getElem? (i := 2) rfl)) (by decide) (by decide)) q50a q50c (g := (mkF m 128 #[.val (.int p1), .val (.int p2), .val (.int p3), .val (.int p4), .val (.int p5), .val (.int p6), .val (.int (Int32.ofNat ka)), .val (.int (Int32.ofNat kb)), .val (.int (Int32.ofNat kc)), .val (.int (Int32.ofNat kd)), .val (.int (Int32.ofNat kq)), .val (.int de), .val (.int df), .val (.ref b), .unset] [(.int (Int32.ofNat ka)), (.ref b)])) rfl (by rw [hml]; rfl) (Steps.refl _) (argsL := [(.int (Int32.ofNat ka))]) (rest := []) (lenOf own_pd__I_I rfl) rfl (by show 2 * 0 + _ ≤ _; exact Nat.le_of_eq rfl) (hb hby at_128) (fun _ _ => ⟨rfl, rfl, (by decide : 6 + 0 ≤ _), (by decide : 98 + 0 ≤ _)⟩)
  dsimp only [Pt.U, Pt.locs, Pt.cells, Pt.slots] at X50 hQ50 st50
  obtain ⟨Lc50, hR50, l50, y50, z50⟩ := hQ50
  subst l50 y50 z50
  obtain ⟨rfl, Nq50, eo0⟩ := hR50
  have N50 := Fr.app N9 Nq50
  have c51 : Steps p.tables e below S0 (T50.setTop (mkF m 131 #[.val (.int p1), .val (.int p2), .val (.int p3), .val (.int p4), .val (.int p5), .val (.int p6), .val (.int (Int32.ofNat ka)), .val (.int (Int32.ofNat kb)), .val (.int (Int32.ofNat kc)), .val (.int (Int32.ofNat kd)), .val (.int (Int32.ofNat kq)), .val (.int de), .val (.int df), .val (.ref b), .unset] [(.int (own_out (own_E nd fd nl fl) (max nd nl) (Int32.ofNat ka)))])) := c49.trans (st50)
  have HNo0 := HN.move eo0
  have c52 : Steps p.tables e below S0 (T50.setTop (mkF m 143 #[.val (.int p1), .val (.int p2), .val (.int p3), .val (.int p4), .val (.int p5), .val (.int p6), .val (.int (Int32.ofNat ka)), .val (.int (Int32.ofNat kb)), .val (.int (Int32.ofNat kc)), .val (.int (Int32.ofNat kd)), .val (.int (Int32.ofNat kq)), .val (.int de), .val (.int df), .val (.ref b), .unset] [(.int de), (.int (Int32.ofNat kd)), (.int (Int32.ofNat kc)), (.int (Int32.ofNat kb)), (.int (Int32.ofNat ka)), (.int (Int32.ofNat ka)), (.int (own_out (own_E nd fd nl fl) (max nd nl) (Int32.ofNat ka)))])) := c51.trans (by
    refine XS.iload X50.here hx rfl (hb hby at_131) rfl ?_
    show Steps p.tables e below (T50.setTop (mkF m 133 #[.val (.int p1), .val (.int p2), .val (.int p3), .val (.int p4), .val (.int p5), .val (.int p6), .val (.int (Int32.ofNat ka)), .val (.int (Int32.ofNat kb)), .val (.int (Int32.ofNat kc)), .val (.int (Int32.ofNat kd)), .val (.int (Int32.ofNat kq)), .val (.int de), .val (.int df), .val (.ref b), .unset] [(.int (Int32.ofNat ka)), (.int (own_out (own_E nd fd nl fl) (max nd nl) (Int32.ofNat ka)))])) _
    refine XS.iload X50.here hx rfl (hb hby at_133) rfl ?_
    show Steps p.tables e below (T50.setTop (mkF m 135 #[.val (.int p1), .val (.int p2), .val (.int p3), .val (.int p4), .val (.int p5), .val (.int p6), .val (.int (Int32.ofNat ka)), .val (.int (Int32.ofNat kb)), .val (.int (Int32.ofNat kc)), .val (.int (Int32.ofNat kd)), .val (.int (Int32.ofNat kq)), .val (.int de), .val (.int df), .val (.ref b), .unset] [(.int (Int32.ofNat ka)), (.int (Int32.ofNat ka)), (.int (own_out (own_E nd fd nl fl) (max nd nl) (Int32.ofNat ka)))])) _
    refine XS.iload X50.here hx rfl (hb hby at_135) rfl ?_
    show Steps p.tables e below (T50.setTop (mkF m 137 #[.val (.int p1), .val (.int p2), .val (.int p3), .val (.int p4), .val (.int p5), .val (.int p6), .val (.int (Int32.ofNat ka)), .val (.int (Int32.ofNat kb)), .val (.int (Int32.ofNat kc)), .val (.int (Int32.ofNat kd)), .val (.int (Int32.ofNat kq)), .val (.int de), .val (.int df), .val (.ref b), .unset] [(.int (Int32.ofNat kb)), (.int (Int32.ofNat ka)), (.int (Int32.ofNat ka)), (.int (own_out (own_E nd fd nl fl) (max nd nl) (Int32.ofNat ka)))])) _
    refine XS.iload X50.here hx rfl (hb hby at_137) rfl ?_
    show Steps p.tables e below (T50.setTop (mkF m 139 #[.val (.int p1), .val (.int p2), .val (.int p3), .val (.int p4), .val (.int p5), .val (.int p6), .val (.int (Int32.ofNat ka)), .val (.int (Int32.ofNat kb)), .val (.int (Int32.ofNat kc)), .val (.int (Int32.ofNat kd)), .val (.int (Int32.ofNat kq)), .val (.int de), .val (.int df), .val (.ref b), .unset] [(.int (Int32.ofNat kc)), (.int (Int32.ofNat kb)), (.int (Int32.ofNat ka)), (.int (Int32.ofNat ka)), (.int (own_out (own_E nd fd nl fl) (max nd nl) (Int32.ofNat ka)))])) _
    refine XS.iload X50.here hx rfl (hb hby at_139) rfl ?_
    show Steps p.tables e below (T50.setTop (mkF m 141 #[.val (.int p1), .val (.int p2), .val (.int p3), .val (.int p4), .val (.int p5), .val (.int p6), .val (.int (Int32.ofNat ka)), .val (.int (Int32.ofNat kb)), .val (.int (Int32.ofNat kc)), .val (.int (Int32.ofNat kd)), .val (.int (Int32.ofNat kq)), .val (.int de), .val (.int df), .val (.ref b), .unset] [(.int (Int32.ofNat kd)), (.int (Int32.ofNat kc)), (.int (Int32.ofNat kb)), (.int (Int32.ofNat ka)), (.int (Int32.ofNat ka)), (.int (own_out (own_E nd fd nl fl) (max nd nl) (Int32.ofNat ka)))])) _
    refine XS.iload X50.here hx rfl (hb hby at_141) rfl ?_
    show Steps p.tables e below (T50.setTop (mkF m 143 #[.val (.int p1), .val (.int p2), .val (.int p3), .val (.int p4), .val (.int p5), .val (.int p6), .val (.int (Int32.ofNat ka)), .val (.int (Int32.ofNat kb)), .val (.int (Int32.ofNat kc)), .val (.int (Int32.ofNat kd)), .val (.int (Int32.ofNat kq)), .val (.int de), .val (.int df), .val (.ref b), .unset] [(.int de), (.int (Int32.ofNat kd)), (.int (Int32.ofNat kc)), (.int (Int32.ofNat kb)), (.int (Int32.ofNat ka)), (.int (Int32.ofNat ka)), (.int (own_out (own_E nd fd nl fl) (max nd nl) (Int32.ofNat ka)))])) _
    exact Steps.refl _)
  have szr0 : n0 ≤ T50.heap.size := HNo0.2.2.2.2.2.2.2.2.2.2.2
  obtain ⟨_, _, ⟨T53, L53, k53, n53⟩, -, X53, hQ53, st53⟩ := Jvm.LawKit.callS X50 hx (y := (⟨"com/example/edge_keeper/edgekeeper/NestingLearnPinLaw", "ref", "(IIIIIZ)I"⟩ : MethodName)) hown (mvT hZ (hw _ (List.mem_of_getElem? (i := 57) rfl))) (mvT hZ (hw _ (List.mem_of_getElem? (i := 58) rfl))) (mvT hZ (hw _ (List.mem_of_getElem? (i := 59) rfl))) (mvT hZ (hw _ (List.mem_of_getElem? (i := 60) rfl))) (by decide) (backOf (W := 1) (rm13 l Z a0 hw [] (Int32.ofNat ka) (Int32.ofNat ka) (Int32.ofNat kb) (Int32.ofNat kc) (Int32.ofNat kd) de T50.heap n0 szr0) hZ (hw _ (List.mem_of_getElem? (i := 60) rfl)) (hw _ (List.mem_of_getElem? (i := 59) rfl)) (by decide) (by decide)) (g := (mkF m 143 #[.val (.int p1), .val (.int p2), .val (.int p3), .val (.int p4), .val (.int p5), .val (.int p6), .val (.int (Int32.ofNat ka)), .val (.int (Int32.ofNat kb)), .val (.int (Int32.ofNat kc)), .val (.int (Int32.ofNat kd)), .val (.int (Int32.ofNat kq)), .val (.int de), .val (.int df), .val (.ref b), .unset] [(.int de), (.int (Int32.ofNat kd)), (.int (Int32.ofNat kc)), (.int (Int32.ofNat kb)), (.int (Int32.ofNat ka)), (.int (Int32.ofNat ka)), (.int (own_out (own_E nd fd nl fl) (max nd nl) (Int32.ofNat ka)))])) rfl (by rw [hml]; rfl) (argsL := [(.int (Int32.ofNat ka)), (.int (Int32.ofNat ka)), (.int (Int32.ofNat kb)), (.int (Int32.ofNat kc)), (.int (Int32.ofNat kd)), (.int de)]) (rest := [(.int (own_out (own_E nd fd nl fl) (max nd nl) (Int32.ofNat ka)))]) (lenOf own_pd__IIIIIZ_I rfl) rfl (by show 2 * 0 + _ ≤ _; exact Nat.le_of_eq rfl) (hb hby at_143) (fun _ _ => ⟨rfl, rfl, (by decide : 6 + 0 ≤ _), (by decide : 98 + 0 ≤ _)⟩)
  dsimp only [Pt.U, Pt.locs, Pt.cells, Pt.slots] at X53 hQ53 st53
  obtain ⟨Lc53, hR53, l53, y53, z53⟩ := hQ53
  subst l53 y53 z53
  obtain ⟨rfl, Nq53, er0⟩ := hR53
  have N53 := Fr.app N50 Nq53
  have c54 : Steps p.tables e below S0 (T53.setTop (mkF m 146 #[.val (.int p1), .val (.int p2), .val (.int p3), .val (.int p4), .val (.int p5), .val (.int p6), .val (.int (Int32.ofNat ka)), .val (.int (Int32.ofNat kb)), .val (.int (Int32.ofNat kc)), .val (.int (Int32.ofNat kd)), .val (.int (Int32.ofNat kq)), .val (.int de), .val (.int df), .val (.ref b), .unset] [(.int (own_ref (Int32.ofNat ka) (Int32.ofNat ka) (Int32.ofNat kb) (Int32.ofNat kc) (Int32.ofNat kd) de)), (.int (own_out (own_E nd fd nl fl) (max nd nl) (Int32.ofNat ka)))])) := c52.trans (st53 _ (Steps.refl _))
  have HNr0 := HNo0.move er0
  have c55 : Steps p.tables e below S0 (T53.setTop (mkF m 165 #[.val (.int p1), .val (.int p2), .val (.int p3), .val (.int p4), .val (.int p5), .val (.int p6), .val (.int (Int32.ofNat ka)), .val (.int (Int32.ofNat kb)), .val (.int (Int32.ofNat kc)), .val (.int (Int32.ofNat kd)), .val (.int (Int32.ofNat kq)), .val (.int de), .val (.int df), .val (.ref b), .val (.int (1 : Int32))] [(.int (Int32.ofNat kb)), (.ref b)])) := c54.trans (by
    refine XS.icmpNo X53.here hx rfl (hb hby at_146) rfl (XT.ii_ne_f (own_same hE hka hkb hkc hkd hka hn1 hn2 le_D le_A)) ?_
    show Steps p.tables e below (T53.setTop (mkF m 149 #[.val (.int p1), .val (.int p2), .val (.int p3), .val (.int p4), .val (.int p5), .val (.int p6), .val (.int (Int32.ofNat ka)), .val (.int (Int32.ofNat kb)), .val (.int (Int32.ofNat kc)), .val (.int (Int32.ofNat kd)), .val (.int (Int32.ofNat kq)), .val (.int de), .val (.int df), .val (.ref b), .unset] [])) _
    refine XT.iconstV X53.here hx rfl (1 : Int32) (hb hby at_149) (by decide) ?_
    show Steps p.tables e below (T53.setTop (mkF m 150 #[.val (.int p1), .val (.int p2), .val (.int p3), .val (.int p4), .val (.int p5), .val (.int p6), .val (.int (Int32.ofNat ka)), .val (.int (Int32.ofNat kb)), .val (.int (Int32.ofNat kc)), .val (.int (Int32.ofNat kd)), .val (.int (Int32.ofNat kq)), .val (.int de), .val (.int df), .val (.ref b), .unset] [(.int (1 : Int32))])) _
    refine XS.goto X53.here hx rfl (pc0 := 150) (pc' := 154) rfl (hb hby at_150) (by decide) (by decide) ?_
    show Steps p.tables e below (T53.setTop (mkF m 154 #[.val (.int p1), .val (.int p2), .val (.int p3), .val (.int p4), .val (.int p5), .val (.int p6), .val (.int (Int32.ofNat ka)), .val (.int (Int32.ofNat kb)), .val (.int (Int32.ofNat kc)), .val (.int (Int32.ofNat kd)), .val (.int (Int32.ofNat kq)), .val (.int de), .val (.int df), .val (.ref b), .unset] [(.int (1 : Int32))])) _
    refine XS.istore X53.here hx rfl (hb hby at_154) rfl (l' := #[.val (.int p1), .val (.int p2), .val (.int p3), .val (.int p4), .val (.int p5), .val (.int p6), .val (.int (Int32.ofNat ka)), .val (.int (Int32.ofNat kb)), .val (.int (Int32.ofNat kc)), .val (.int (Int32.ofNat kd)), .val (.int (Int32.ofNat kq)), .val (.int de), .val (.int df), .val (.ref b), .val (.int (1 : Int32))]) rfl ?_
    show Steps p.tables e below (T53.setTop (mkF m 156 #[.val (.int p1), .val (.int p2), .val (.int p3), .val (.int p4), .val (.int p5), .val (.int p6), .val (.int (Int32.ofNat ka)), .val (.int (Int32.ofNat kb)), .val (.int (Int32.ofNat kc)), .val (.int (Int32.ofNat kd)), .val (.int (Int32.ofNat kq)), .val (.int de), .val (.int df), .val (.ref b), .val (.int (1 : Int32))] [])) _
    refine XS.iload X53.here hx rfl (hb hby at_156) rfl ?_
    show Steps p.tables e below (T53.setTop (mkF m 158 #[.val (.int p1), .val (.int p2), .val (.int p3), .val (.int p4), .val (.int p5), .val (.int p6), .val (.int (Int32.ofNat ka)), .val (.int (Int32.ofNat kb)), .val (.int (Int32.ofNat kc)), .val (.int (Int32.ofNat kd)), .val (.int (Int32.ofNat kq)), .val (.int de), .val (.int df), .val (.ref b), .val (.int (1 : Int32))] [(.int (1 : Int32))])) _
    refine XS.ifNo X53.here hx rfl (hb hby at_158) rfl (XT.i0_eq_f (by decide)) ?_
    show Steps p.tables e below (T53.setTop (mkF m 161 #[.val (.int p1), .val (.int p2), .val (.int p3), .val (.int p4), .val (.int p5), .val (.int p6), .val (.int (Int32.ofNat ka)), .val (.int (Int32.ofNat kb)), .val (.int (Int32.ofNat kc)), .val (.int (Int32.ofNat kd)), .val (.int (Int32.ofNat kq)), .val (.int de), .val (.int df), .val (.ref b), .val (.int (1 : Int32))] [])) _
    refine XS.aload X53.here hx rfl (hb hby at_161) rfl rfl ?_
    show Steps p.tables e below (T53.setTop (mkF m 163 #[.val (.int p1), .val (.int p2), .val (.int p3), .val (.int p4), .val (.int p5), .val (.int p6), .val (.int (Int32.ofNat ka)), .val (.int (Int32.ofNat kb)), .val (.int (Int32.ofNat kc)), .val (.int (Int32.ofNat kd)), .val (.int (Int32.ofNat kq)), .val (.int de), .val (.int df), .val (.ref b), .val (.int (1 : Int32))] [(.ref b)])) _
    refine XS.iload X53.here hx rfl (hb hby at_163) rfl ?_
    show Steps p.tables e below (T53.setTop (mkF m 165 #[.val (.int p1), .val (.int p2), .val (.int p3), .val (.int p4), .val (.int p5), .val (.int p6), .val (.int (Int32.ofNat ka)), .val (.int (Int32.ofNat kb)), .val (.int (Int32.ofNat kc)), .val (.int (Int32.ofNat kd)), .val (.int (Int32.ofNat kq)), .val (.int de), .val (.int df), .val (.ref b), .val (.int (1 : Int32))] [(.int (Int32.ofNat kb)), (.ref b)])) _
    exact Steps.refl _)
  have szo1 : n0 ≤ T53.heap.size := HNr0.2.2.2.2.2.2.2.2.2.2.2
  obtain ⟨cq56, kq56, q56a, q56b, q56c⟩ := isOf hZ rfl HNr0.1
  obtain ⟨_, _, ⟨T56, L56, k56, n56⟩, -, X56, hQ56, st56⟩ := X53.virtualBack hx (y := (⟨"com/example/edge_keeper/edgekeeper/Nesting", "outermost", "(I)I"⟩ : MethodName)) (z := (⟨"com/example/edge_keeper/edgekeeper/Nesting", "outermost", "(I)I"⟩ : MethodName)) hown (mvT hZ (hw _ (List.mem_of_getElem? (i := 48) rfl))) (mvT hZ (hw _ (List.mem_of_getElem? (i := 49) rfl))) (notFace_of_selects (args := #[]) (mvT hZ (hw _ (List.mem_of_getElem? (i := 51) rfl)))) (mvT hZ (hw _ (List.mem_of_getElem? (i := 51) rfl))) (mvT hZ (hw _ (List.mem_of_getElem? (i := 50) rfl))) (by decide) (backOf (W := 0) (rm11 l Z a0 hw [] b kb D nd fd A nl fl T53.heap n0 szo1 HNr0 hkb hokc) hZ (hw _ (List.mem_of_getElem? (i := 52) rfl)) (hw _ (List.mem_of_getElem? (i := 2) rfl)) (by decide) (by decide)) q56a q56c (g := (mkF m 165 #[.val (.int p1), .val (.int p2), .val (.int p3), .val (.int p4), .val (.int p5), .val (.int p6), .val (.int (Int32.ofNat ka)), .val (.int (Int32.ofNat kb)), .val (.int (Int32.ofNat kc)), .val (.int (Int32.ofNat kd)), .val (.int (Int32.ofNat kq)), .val (.int de), .val (.int df), .val (.ref b), .val (.int (1 : Int32))] [(.int (Int32.ofNat kb)), (.ref b)])) rfl (by rw [hml]; rfl) (Steps.refl _) (argsL := [(.int (Int32.ofNat kb))]) (rest := []) (lenOf own_pd__I_I rfl) rfl (by show 2 * 0 + _ ≤ _; exact Nat.le_of_eq rfl) (hb hby at_165) (fun _ _ => ⟨rfl, rfl, (by decide : 6 + 0 ≤ _), (by decide : 98 + 0 ≤ _)⟩)
  dsimp only [Pt.U, Pt.locs, Pt.cells, Pt.slots] at X56 hQ56 st56
  obtain ⟨Lc56, hR56, l56, y56, z56⟩ := hQ56
  subst l56 y56 z56
  obtain ⟨rfl, Nq56, eo1⟩ := hR56
  have N56 := Fr.app N53 Nq56
  have c57 : Steps p.tables e below S0 (T56.setTop (mkF m 168 #[.val (.int p1), .val (.int p2), .val (.int p3), .val (.int p4), .val (.int p5), .val (.int p6), .val (.int (Int32.ofNat ka)), .val (.int (Int32.ofNat kb)), .val (.int (Int32.ofNat kc)), .val (.int (Int32.ofNat kd)), .val (.int (Int32.ofNat kq)), .val (.int de), .val (.int df), .val (.ref b), .val (.int (1 : Int32))] [(.int (own_out (own_E nd fd nl fl) (max nd nl) (Int32.ofNat kb)))])) := c55.trans (st56)
  have HNo1 := HNr0.move eo1
  have c58 : Steps p.tables e below S0 (T56.setTop (mkF m 180 #[.val (.int p1), .val (.int p2), .val (.int p3), .val (.int p4), .val (.int p5), .val (.int p6), .val (.int (Int32.ofNat ka)), .val (.int (Int32.ofNat kb)), .val (.int (Int32.ofNat kc)), .val (.int (Int32.ofNat kd)), .val (.int (Int32.ofNat kq)), .val (.int de), .val (.int df), .val (.ref b), .val (.int (1 : Int32))] [(.int de), (.int (Int32.ofNat kd)), (.int (Int32.ofNat kc)), (.int (Int32.ofNat kb)), (.int (Int32.ofNat ka)), (.int (Int32.ofNat kb)), (.int (own_out (own_E nd fd nl fl) (max nd nl) (Int32.ofNat kb)))])) := c57.trans (by
    refine XS.iload X56.here hx rfl (hb hby at_168) rfl ?_
    show Steps p.tables e below (T56.setTop (mkF m 170 #[.val (.int p1), .val (.int p2), .val (.int p3), .val (.int p4), .val (.int p5), .val (.int p6), .val (.int (Int32.ofNat ka)), .val (.int (Int32.ofNat kb)), .val (.int (Int32.ofNat kc)), .val (.int (Int32.ofNat kd)), .val (.int (Int32.ofNat kq)), .val (.int de), .val (.int df), .val (.ref b), .val (.int (1 : Int32))] [(.int (Int32.ofNat kb)), (.int (own_out (own_E nd fd nl fl) (max nd nl) (Int32.ofNat kb)))])) _
    refine XS.iload X56.here hx rfl (hb hby at_170) rfl ?_
    show Steps p.tables e below (T56.setTop (mkF m 172 #[.val (.int p1), .val (.int p2), .val (.int p3), .val (.int p4), .val (.int p5), .val (.int p6), .val (.int (Int32.ofNat ka)), .val (.int (Int32.ofNat kb)), .val (.int (Int32.ofNat kc)), .val (.int (Int32.ofNat kd)), .val (.int (Int32.ofNat kq)), .val (.int de), .val (.int df), .val (.ref b), .val (.int (1 : Int32))] [(.int (Int32.ofNat ka)), (.int (Int32.ofNat kb)), (.int (own_out (own_E nd fd nl fl) (max nd nl) (Int32.ofNat kb)))])) _
    refine XS.iload X56.here hx rfl (hb hby at_172) rfl ?_
    show Steps p.tables e below (T56.setTop (mkF m 174 #[.val (.int p1), .val (.int p2), .val (.int p3), .val (.int p4), .val (.int p5), .val (.int p6), .val (.int (Int32.ofNat ka)), .val (.int (Int32.ofNat kb)), .val (.int (Int32.ofNat kc)), .val (.int (Int32.ofNat kd)), .val (.int (Int32.ofNat kq)), .val (.int de), .val (.int df), .val (.ref b), .val (.int (1 : Int32))] [(.int (Int32.ofNat kb)), (.int (Int32.ofNat ka)), (.int (Int32.ofNat kb)), (.int (own_out (own_E nd fd nl fl) (max nd nl) (Int32.ofNat kb)))])) _
    refine XS.iload X56.here hx rfl (hb hby at_174) rfl ?_
    show Steps p.tables e below (T56.setTop (mkF m 176 #[.val (.int p1), .val (.int p2), .val (.int p3), .val (.int p4), .val (.int p5), .val (.int p6), .val (.int (Int32.ofNat ka)), .val (.int (Int32.ofNat kb)), .val (.int (Int32.ofNat kc)), .val (.int (Int32.ofNat kd)), .val (.int (Int32.ofNat kq)), .val (.int de), .val (.int df), .val (.ref b), .val (.int (1 : Int32))] [(.int (Int32.ofNat kc)), (.int (Int32.ofNat kb)), (.int (Int32.ofNat ka)), (.int (Int32.ofNat kb)), (.int (own_out (own_E nd fd nl fl) (max nd nl) (Int32.ofNat kb)))])) _
    refine XS.iload X56.here hx rfl (hb hby at_176) rfl ?_
    show Steps p.tables e below (T56.setTop (mkF m 178 #[.val (.int p1), .val (.int p2), .val (.int p3), .val (.int p4), .val (.int p5), .val (.int p6), .val (.int (Int32.ofNat ka)), .val (.int (Int32.ofNat kb)), .val (.int (Int32.ofNat kc)), .val (.int (Int32.ofNat kd)), .val (.int (Int32.ofNat kq)), .val (.int de), .val (.int df), .val (.ref b), .val (.int (1 : Int32))] [(.int (Int32.ofNat kd)), (.int (Int32.ofNat kc)), (.int (Int32.ofNat kb)), (.int (Int32.ofNat ka)), (.int (Int32.ofNat kb)), (.int (own_out (own_E nd fd nl fl) (max nd nl) (Int32.ofNat kb)))])) _
    refine XS.iload X56.here hx rfl (hb hby at_178) rfl ?_
    show Steps p.tables e below (T56.setTop (mkF m 180 #[.val (.int p1), .val (.int p2), .val (.int p3), .val (.int p4), .val (.int p5), .val (.int p6), .val (.int (Int32.ofNat ka)), .val (.int (Int32.ofNat kb)), .val (.int (Int32.ofNat kc)), .val (.int (Int32.ofNat kd)), .val (.int (Int32.ofNat kq)), .val (.int de), .val (.int df), .val (.ref b), .val (.int (1 : Int32))] [(.int de), (.int (Int32.ofNat kd)), (.int (Int32.ofNat kc)), (.int (Int32.ofNat kb)), (.int (Int32.ofNat ka)), (.int (Int32.ofNat kb)), (.int (own_out (own_E nd fd nl fl) (max nd nl) (Int32.ofNat kb)))])) _
    exact Steps.refl _)
  have szr1 : n0 ≤ T56.heap.size := HNo1.2.2.2.2.2.2.2.2.2.2.2
  obtain ⟨_, _, ⟨T59, L59, k59, n59⟩, -, X59, hQ59, st59⟩ := Jvm.LawKit.callS X56 hx (y := (⟨"com/example/edge_keeper/edgekeeper/NestingLearnPinLaw", "ref", "(IIIIIZ)I"⟩ : MethodName)) hown (mvT hZ (hw _ (List.mem_of_getElem? (i := 57) rfl))) (mvT hZ (hw _ (List.mem_of_getElem? (i := 58) rfl))) (mvT hZ (hw _ (List.mem_of_getElem? (i := 59) rfl))) (mvT hZ (hw _ (List.mem_of_getElem? (i := 60) rfl))) (by decide) (backOf (W := 1) (rm13 l Z a0 hw [] (Int32.ofNat kb) (Int32.ofNat ka) (Int32.ofNat kb) (Int32.ofNat kc) (Int32.ofNat kd) de T56.heap n0 szr1) hZ (hw _ (List.mem_of_getElem? (i := 60) rfl)) (hw _ (List.mem_of_getElem? (i := 59) rfl)) (by decide) (by decide)) (g := (mkF m 180 #[.val (.int p1), .val (.int p2), .val (.int p3), .val (.int p4), .val (.int p5), .val (.int p6), .val (.int (Int32.ofNat ka)), .val (.int (Int32.ofNat kb)), .val (.int (Int32.ofNat kc)), .val (.int (Int32.ofNat kd)), .val (.int (Int32.ofNat kq)), .val (.int de), .val (.int df), .val (.ref b), .val (.int (1 : Int32))] [(.int de), (.int (Int32.ofNat kd)), (.int (Int32.ofNat kc)), (.int (Int32.ofNat kb)), (.int (Int32.ofNat ka)), (.int (Int32.ofNat kb)), (.int (own_out (own_E nd fd nl fl) (max nd nl) (Int32.ofNat kb)))])) rfl (by rw [hml]; rfl) (argsL := [(.int (Int32.ofNat kb)), (.int (Int32.ofNat ka)), (.int (Int32.ofNat kb)), (.int (Int32.ofNat kc)), (.int (Int32.ofNat kd)), (.int de)]) (rest := [(.int (own_out (own_E nd fd nl fl) (max nd nl) (Int32.ofNat kb)))]) (lenOf own_pd__IIIIIZ_I rfl) rfl (by show 2 * 0 + _ ≤ _; exact Nat.le_of_eq rfl) (hb hby at_180) (fun _ _ => ⟨rfl, rfl, (by decide : 6 + 0 ≤ _), (by decide : 98 + 0 ≤ _)⟩)
  dsimp only [Pt.U, Pt.locs, Pt.cells, Pt.slots] at X59 hQ59 st59
  obtain ⟨Lc59, hR59, l59, y59, z59⟩ := hQ59
  subst l59 y59 z59
  obtain ⟨rfl, Nq59, er1⟩ := hR59
  have N59 := Fr.app N56 Nq59
  have c60 : Steps p.tables e below S0 (T59.setTop (mkF m 183 #[.val (.int p1), .val (.int p2), .val (.int p3), .val (.int p4), .val (.int p5), .val (.int p6), .val (.int (Int32.ofNat ka)), .val (.int (Int32.ofNat kb)), .val (.int (Int32.ofNat kc)), .val (.int (Int32.ofNat kd)), .val (.int (Int32.ofNat kq)), .val (.int de), .val (.int df), .val (.ref b), .val (.int (1 : Int32))] [(.int (own_ref (Int32.ofNat kb) (Int32.ofNat ka) (Int32.ofNat kb) (Int32.ofNat kc) (Int32.ofNat kd) de)), (.int (own_out (own_E nd fd nl fl) (max nd nl) (Int32.ofNat kb)))])) := c58.trans (st59 _ (Steps.refl _))
  have HNr1 := HNo1.move er1
  have c61 : Steps p.tables e below S0 (T59.setTop (mkF m 202 #[.val (.int p1), .val (.int p2), .val (.int p3), .val (.int p4), .val (.int p5), .val (.int p6), .val (.int (Int32.ofNat ka)), .val (.int (Int32.ofNat kb)), .val (.int (Int32.ofNat kc)), .val (.int (Int32.ofNat kd)), .val (.int (Int32.ofNat kq)), .val (.int de), .val (.int df), .val (.ref b), .val (.int (1 : Int32))] [(.int (Int32.ofNat kc)), (.ref b)])) := c60.trans (by
    refine XS.icmpNo X59.here hx rfl (hb hby at_183) rfl (XT.ii_ne_f (own_same hE hka hkb hkc hkd hkb hn1 hn2 le_D le_A)) ?_
    show Steps p.tables e below (T59.setTop (mkF m 186 #[.val (.int p1), .val (.int p2), .val (.int p3), .val (.int p4), .val (.int p5), .val (.int p6), .val (.int (Int32.ofNat ka)), .val (.int (Int32.ofNat kb)), .val (.int (Int32.ofNat kc)), .val (.int (Int32.ofNat kd)), .val (.int (Int32.ofNat kq)), .val (.int de), .val (.int df), .val (.ref b), .val (.int (1 : Int32))] [])) _
    refine XT.iconstV X59.here hx rfl (1 : Int32) (hb hby at_186) (by decide) ?_
    show Steps p.tables e below (T59.setTop (mkF m 187 #[.val (.int p1), .val (.int p2), .val (.int p3), .val (.int p4), .val (.int p5), .val (.int p6), .val (.int (Int32.ofNat ka)), .val (.int (Int32.ofNat kb)), .val (.int (Int32.ofNat kc)), .val (.int (Int32.ofNat kd)), .val (.int (Int32.ofNat kq)), .val (.int de), .val (.int df), .val (.ref b), .val (.int (1 : Int32))] [(.int (1 : Int32))])) _
    refine XS.goto X59.here hx rfl (pc0 := 187) (pc' := 191) rfl (hb hby at_187) (by decide) (by decide) ?_
    show Steps p.tables e below (T59.setTop (mkF m 191 #[.val (.int p1), .val (.int p2), .val (.int p3), .val (.int p4), .val (.int p5), .val (.int p6), .val (.int (Int32.ofNat ka)), .val (.int (Int32.ofNat kb)), .val (.int (Int32.ofNat kc)), .val (.int (Int32.ofNat kd)), .val (.int (Int32.ofNat kq)), .val (.int de), .val (.int df), .val (.ref b), .val (.int (1 : Int32))] [(.int (1 : Int32))])) _
    refine XS.istore X59.here hx rfl (hb hby at_191) rfl (l' := #[.val (.int p1), .val (.int p2), .val (.int p3), .val (.int p4), .val (.int p5), .val (.int p6), .val (.int (Int32.ofNat ka)), .val (.int (Int32.ofNat kb)), .val (.int (Int32.ofNat kc)), .val (.int (Int32.ofNat kd)), .val (.int (Int32.ofNat kq)), .val (.int de), .val (.int df), .val (.ref b), .val (.int (1 : Int32))]) rfl ?_
    show Steps p.tables e below (T59.setTop (mkF m 193 #[.val (.int p1), .val (.int p2), .val (.int p3), .val (.int p4), .val (.int p5), .val (.int p6), .val (.int (Int32.ofNat ka)), .val (.int (Int32.ofNat kb)), .val (.int (Int32.ofNat kc)), .val (.int (Int32.ofNat kd)), .val (.int (Int32.ofNat kq)), .val (.int de), .val (.int df), .val (.ref b), .val (.int (1 : Int32))] [])) _
    refine XS.iload X59.here hx rfl (hb hby at_193) rfl ?_
    show Steps p.tables e below (T59.setTop (mkF m 195 #[.val (.int p1), .val (.int p2), .val (.int p3), .val (.int p4), .val (.int p5), .val (.int p6), .val (.int (Int32.ofNat ka)), .val (.int (Int32.ofNat kb)), .val (.int (Int32.ofNat kc)), .val (.int (Int32.ofNat kd)), .val (.int (Int32.ofNat kq)), .val (.int de), .val (.int df), .val (.ref b), .val (.int (1 : Int32))] [(.int (1 : Int32))])) _
    refine XS.ifNo X59.here hx rfl (hb hby at_195) rfl (XT.i0_eq_f (by decide)) ?_
    show Steps p.tables e below (T59.setTop (mkF m 198 #[.val (.int p1), .val (.int p2), .val (.int p3), .val (.int p4), .val (.int p5), .val (.int p6), .val (.int (Int32.ofNat ka)), .val (.int (Int32.ofNat kb)), .val (.int (Int32.ofNat kc)), .val (.int (Int32.ofNat kd)), .val (.int (Int32.ofNat kq)), .val (.int de), .val (.int df), .val (.ref b), .val (.int (1 : Int32))] [])) _
    refine XS.aload X59.here hx rfl (hb hby at_198) rfl rfl ?_
    show Steps p.tables e below (T59.setTop (mkF m 200 #[.val (.int p1), .val (.int p2), .val (.int p3), .val (.int p4), .val (.int p5), .val (.int p6), .val (.int (Int32.ofNat ka)), .val (.int (Int32.ofNat kb)), .val (.int (Int32.ofNat kc)), .val (.int (Int32.ofNat kd)), .val (.int (Int32.ofNat kq)), .val (.int de), .val (.int df), .val (.ref b), .val (.int (1 : Int32))] [(.ref b)])) _
    refine XS.iload X59.here hx rfl (hb hby at_200) rfl ?_
    show Steps p.tables e below (T59.setTop (mkF m 202 #[.val (.int p1), .val (.int p2), .val (.int p3), .val (.int p4), .val (.int p5), .val (.int p6), .val (.int (Int32.ofNat ka)), .val (.int (Int32.ofNat kb)), .val (.int (Int32.ofNat kc)), .val (.int (Int32.ofNat kd)), .val (.int (Int32.ofNat kq)), .val (.int de), .val (.int df), .val (.ref b), .val (.int (1 : Int32))] [(.int (Int32.ofNat kc)), (.ref b)])) _
    exact Steps.refl _)
  have szo2 : n0 ≤ T59.heap.size := HNr1.2.2.2.2.2.2.2.2.2.2.2
  obtain ⟨cq62, kq62, q62a, q62b, q62c⟩ := isOf hZ rfl HNr1.1
  obtain ⟨_, _, ⟨T62, L62, k62, n62⟩, -, X62, hQ62, st62⟩ := X59.virtualBack hx (y := (⟨"com/example/edge_keeper/edgekeeper/Nesting", "outermost", "(I)I"⟩ : MethodName)) (z := (⟨"com/example/edge_keeper/edgekeeper/Nesting", "outermost", "(I)I"⟩ : MethodName)) hown (mvT hZ (hw _ (List.mem_of_getElem? (i := 48) rfl))) (mvT hZ (hw _ (List.mem_of_getElem? (i := 49) rfl))) (notFace_of_selects (args := #[]) (mvT hZ (hw _ (List.mem_of_getElem? (i := 51) rfl)))) (mvT hZ (hw _ (List.mem_of_getElem? (i := 51) rfl))) (mvT hZ (hw _ (List.mem_of_getElem? (i := 50) rfl))) (by decide) (backOf (W := 0) (rm11 l Z a0 hw [] b kc D nd fd A nl fl T59.heap n0 szo2 HNr1 hkc hokc) hZ (hw _ (List.mem_of_getElem? (i := 52) rfl)) (hw _ (List.mem_of_getElem? (i := 2) rfl)) (by decide) (by decide)) q62a q62c (g := (mkF m 202 #[.val (.int p1), .val (.int p2), .val (.int p3), .val (.int p4), .val (.int p5), .val (.int p6), .val (.int (Int32.ofNat ka)), .val (.int (Int32.ofNat kb)), .val (.int (Int32.ofNat kc)), .val (.int (Int32.ofNat kd)), .val (.int (Int32.ofNat kq)), .val (.int de), .val (.int df), .val (.ref b), .val (.int (1 : Int32))] [(.int (Int32.ofNat kc)), (.ref b)])) rfl (by rw [hml]; rfl) (Steps.refl _) (argsL := [(.int (Int32.ofNat kc))]) (rest := []) (lenOf own_pd__I_I rfl) rfl (by show 2 * 0 + _ ≤ _; exact Nat.le_of_eq rfl) (hb hby at_202) (fun _ _ => ⟨rfl, rfl, (by decide : 6 + 0 ≤ _), (by decide : 98 + 0 ≤ _)⟩)
  dsimp only [Pt.U, Pt.locs, Pt.cells, Pt.slots] at X62 hQ62 st62
  obtain ⟨Lc62, hR62, l62, y62, z62⟩ := hQ62
  subst l62 y62 z62
  obtain ⟨rfl, Nq62, eo2⟩ := hR62
  have N62 := Fr.app N59 Nq62
  have c63 : Steps p.tables e below S0 (T62.setTop (mkF m 205 #[.val (.int p1), .val (.int p2), .val (.int p3), .val (.int p4), .val (.int p5), .val (.int p6), .val (.int (Int32.ofNat ka)), .val (.int (Int32.ofNat kb)), .val (.int (Int32.ofNat kc)), .val (.int (Int32.ofNat kd)), .val (.int (Int32.ofNat kq)), .val (.int de), .val (.int df), .val (.ref b), .val (.int (1 : Int32))] [(.int (own_out (own_E nd fd nl fl) (max nd nl) (Int32.ofNat kc)))])) := c61.trans (st62)
  have HNo2 := HNr1.move eo2
  have c64 : Steps p.tables e below S0 (T62.setTop (mkF m 217 #[.val (.int p1), .val (.int p2), .val (.int p3), .val (.int p4), .val (.int p5), .val (.int p6), .val (.int (Int32.ofNat ka)), .val (.int (Int32.ofNat kb)), .val (.int (Int32.ofNat kc)), .val (.int (Int32.ofNat kd)), .val (.int (Int32.ofNat kq)), .val (.int de), .val (.int df), .val (.ref b), .val (.int (1 : Int32))] [(.int de), (.int (Int32.ofNat kd)), (.int (Int32.ofNat kc)), (.int (Int32.ofNat kb)), (.int (Int32.ofNat ka)), (.int (Int32.ofNat kc)), (.int (own_out (own_E nd fd nl fl) (max nd nl) (Int32.ofNat kc)))])) := c63.trans (by
    refine XS.iload X62.here hx rfl (hb hby at_205) rfl ?_
    show Steps p.tables e below (T62.setTop (mkF m 207 #[.val (.int p1), .val (.int p2), .val (.int p3), .val (.int p4), .val (.int p5), .val (.int p6), .val (.int (Int32.ofNat ka)), .val (.int (Int32.ofNat kb)), .val (.int (Int32.ofNat kc)), .val (.int (Int32.ofNat kd)), .val (.int (Int32.ofNat kq)), .val (.int de), .val (.int df), .val (.ref b), .val (.int (1 : Int32))] [(.int (Int32.ofNat kc)), (.int (own_out (own_E nd fd nl fl) (max nd nl) (Int32.ofNat kc)))])) _
    refine XS.iload X62.here hx rfl (hb hby at_207) rfl ?_
    show Steps p.tables e below (T62.setTop (mkF m 209 #[.val (.int p1), .val (.int p2), .val (.int p3), .val (.int p4), .val (.int p5), .val (.int p6), .val (.int (Int32.ofNat ka)), .val (.int (Int32.ofNat kb)), .val (.int (Int32.ofNat kc)), .val (.int (Int32.ofNat kd)), .val (.int (Int32.ofNat kq)), .val (.int de), .val (.int df), .val (.ref b), .val (.int (1 : Int32))] [(.int (Int32.ofNat ka)), (.int (Int32.ofNat kc)), (.int (own_out (own_E nd fd nl fl) (max nd nl) (Int32.ofNat kc)))])) _
    refine XS.iload X62.here hx rfl (hb hby at_209) rfl ?_
    show Steps p.tables e below (T62.setTop (mkF m 211 #[.val (.int p1), .val (.int p2), .val (.int p3), .val (.int p4), .val (.int p5), .val (.int p6), .val (.int (Int32.ofNat ka)), .val (.int (Int32.ofNat kb)), .val (.int (Int32.ofNat kc)), .val (.int (Int32.ofNat kd)), .val (.int (Int32.ofNat kq)), .val (.int de), .val (.int df), .val (.ref b), .val (.int (1 : Int32))] [(.int (Int32.ofNat kb)), (.int (Int32.ofNat ka)), (.int (Int32.ofNat kc)), (.int (own_out (own_E nd fd nl fl) (max nd nl) (Int32.ofNat kc)))])) _
    refine XS.iload X62.here hx rfl (hb hby at_211) rfl ?_
    show Steps p.tables e below (T62.setTop (mkF m 213 #[.val (.int p1), .val (.int p2), .val (.int p3), .val (.int p4), .val (.int p5), .val (.int p6), .val (.int (Int32.ofNat ka)), .val (.int (Int32.ofNat kb)), .val (.int (Int32.ofNat kc)), .val (.int (Int32.ofNat kd)), .val (.int (Int32.ofNat kq)), .val (.int de), .val (.int df), .val (.ref b), .val (.int (1 : Int32))] [(.int (Int32.ofNat kc)), (.int (Int32.ofNat kb)), (.int (Int32.ofNat ka)), (.int (Int32.ofNat kc)), (.int (own_out (own_E nd fd nl fl) (max nd nl) (Int32.ofNat kc)))])) _
    refine XS.iload X62.here hx rfl (hb hby at_213) rfl ?_
    show Steps p.tables e below (T62.setTop (mkF m 215 #[.val (.int p1), .val (.int p2), .val (.int p3), .val (.int p4), .val (.int p5), .val (.int p6), .val (.int (Int32.ofNat ka)), .val (.int (Int32.ofNat kb)), .val (.int (Int32.ofNat kc)), .val (.int (Int32.ofNat kd)), .val (.int (Int32.ofNat kq)), .val (.int de), .val (.int df), .val (.ref b), .val (.int (1 : Int32))] [(.int (Int32.ofNat kd)), (.int (Int32.ofNat kc)), (.int (Int32.ofNat kb)), (.int (Int32.ofNat ka)), (.int (Int32.ofNat kc)), (.int (own_out (own_E nd fd nl fl) (max nd nl) (Int32.ofNat kc)))])) _
    refine XS.iload X62.here hx rfl (hb hby at_215) rfl ?_
    show Steps p.tables e below (T62.setTop (mkF m 217 #[.val (.int p1), .val (.int p2), .val (.int p3), .val (.int p4), .val (.int p5), .val (.int p6), .val (.int (Int32.ofNat ka)), .val (.int (Int32.ofNat kb)), .val (.int (Int32.ofNat kc)), .val (.int (Int32.ofNat kd)), .val (.int (Int32.ofNat kq)), .val (.int de), .val (.int df), .val (.ref b), .val (.int (1 : Int32))] [(.int de), (.int (Int32.ofNat kd)), (.int (Int32.ofNat kc)), (.int (Int32.ofNat kb)), (.int (Int32.ofNat ka)), (.int (Int32.ofNat kc)), (.int (own_out (own_E nd fd nl fl) (max nd nl) (Int32.ofNat kc)))])) _
    exact Steps.refl _)
  have szr2 : n0 ≤ T62.heap.size := HNo2.2.2.2.2.2.2.2.2.2.2.2
  obtain ⟨_, _, ⟨T65, L65, k65, n65⟩, -, X65, hQ65, st65⟩ := Jvm.LawKit.callS X62 hx (y := (⟨"com/example/edge_keeper/edgekeeper/NestingLearnPinLaw", "ref", "(IIIIIZ)I"⟩ : MethodName)) hown (mvT hZ (hw _ (List.mem_of_getElem? (i := 57) rfl))) (mvT hZ (hw _ (List.mem_of_getElem? (i := 58) rfl))) (mvT hZ (hw _ (List.mem_of_getElem? (i := 59) rfl))) (mvT hZ (hw _ (List.mem_of_getElem? (i := 60) rfl))) (by decide) (backOf (W := 1) (rm13 l Z a0 hw [] (Int32.ofNat kc) (Int32.ofNat ka) (Int32.ofNat kb) (Int32.ofNat kc) (Int32.ofNat kd) de T62.heap n0 szr2) hZ (hw _ (List.mem_of_getElem? (i := 60) rfl)) (hw _ (List.mem_of_getElem? (i := 59) rfl)) (by decide) (by decide)) (g := (mkF m 217 #[.val (.int p1), .val (.int p2), .val (.int p3), .val (.int p4), .val (.int p5), .val (.int p6), .val (.int (Int32.ofNat ka)), .val (.int (Int32.ofNat kb)), .val (.int (Int32.ofNat kc)), .val (.int (Int32.ofNat kd)), .val (.int (Int32.ofNat kq)), .val (.int de), .val (.int df), .val (.ref b), .val (.int (1 : Int32))] [(.int de), (.int (Int32.ofNat kd)), (.int (Int32.ofNat kc)), (.int (Int32.ofNat kb)), (.int (Int32.ofNat ka)), (.int (Int32.ofNat kc)), (.int (own_out (own_E nd fd nl fl) (max nd nl) (Int32.ofNat kc)))])) rfl (by rw [hml]; rfl) (argsL := [(.int (Int32.ofNat kc)), (.int (Int32.ofNat ka)), (.int (Int32.ofNat kb)), (.int (Int32.ofNat kc)), (.int (Int32.ofNat kd)), (.int de)]) (rest := [(.int (own_out (own_E nd fd nl fl) (max nd nl) (Int32.ofNat kc)))]) (lenOf own_pd__IIIIIZ_I rfl) rfl (by show 2 * 0 + _ ≤ _; exact Nat.le_of_eq rfl) (hb hby at_217) (fun _ _ => ⟨rfl, rfl, (by decide : 6 + 0 ≤ _), (by decide : 98 + 0 ≤ _)⟩)
  dsimp only [Pt.U, Pt.locs, Pt.cells, Pt.slots] at X65 hQ65 st65
  obtain ⟨Lc65, hR65, l65, y65, z65⟩ := hQ65
  subst l65 y65 z65
  obtain ⟨rfl, Nq65, er2⟩ := hR65
  have N65 := Fr.app N62 Nq65
  have c66 : Steps p.tables e below S0 (T65.setTop (mkF m 220 #[.val (.int p1), .val (.int p2), .val (.int p3), .val (.int p4), .val (.int p5), .val (.int p6), .val (.int (Int32.ofNat ka)), .val (.int (Int32.ofNat kb)), .val (.int (Int32.ofNat kc)), .val (.int (Int32.ofNat kd)), .val (.int (Int32.ofNat kq)), .val (.int de), .val (.int df), .val (.ref b), .val (.int (1 : Int32))] [(.int (own_ref (Int32.ofNat kc) (Int32.ofNat ka) (Int32.ofNat kb) (Int32.ofNat kc) (Int32.ofNat kd) de)), (.int (own_out (own_E nd fd nl fl) (max nd nl) (Int32.ofNat kc)))])) := c64.trans (st65 _ (Steps.refl _))
  have HNr2 := HNo2.move er2
  have c67 : Steps p.tables e below S0 (T65.setTop (mkF m 239 #[.val (.int p1), .val (.int p2), .val (.int p3), .val (.int p4), .val (.int p5), .val (.int p6), .val (.int (Int32.ofNat ka)), .val (.int (Int32.ofNat kb)), .val (.int (Int32.ofNat kc)), .val (.int (Int32.ofNat kd)), .val (.int (Int32.ofNat kq)), .val (.int de), .val (.int df), .val (.ref b), .val (.int (1 : Int32))] [(.int (Int32.ofNat kd)), (.ref b)])) := c66.trans (by
    refine XS.icmpNo X65.here hx rfl (hb hby at_220) rfl (XT.ii_ne_f (own_same hE hka hkb hkc hkd hkc hn1 hn2 le_D le_A)) ?_
    show Steps p.tables e below (T65.setTop (mkF m 223 #[.val (.int p1), .val (.int p2), .val (.int p3), .val (.int p4), .val (.int p5), .val (.int p6), .val (.int (Int32.ofNat ka)), .val (.int (Int32.ofNat kb)), .val (.int (Int32.ofNat kc)), .val (.int (Int32.ofNat kd)), .val (.int (Int32.ofNat kq)), .val (.int de), .val (.int df), .val (.ref b), .val (.int (1 : Int32))] [])) _
    refine XT.iconstV X65.here hx rfl (1 : Int32) (hb hby at_223) (by decide) ?_
    show Steps p.tables e below (T65.setTop (mkF m 224 #[.val (.int p1), .val (.int p2), .val (.int p3), .val (.int p4), .val (.int p5), .val (.int p6), .val (.int (Int32.ofNat ka)), .val (.int (Int32.ofNat kb)), .val (.int (Int32.ofNat kc)), .val (.int (Int32.ofNat kd)), .val (.int (Int32.ofNat kq)), .val (.int de), .val (.int df), .val (.ref b), .val (.int (1 : Int32))] [(.int (1 : Int32))])) _
    refine XS.goto X65.here hx rfl (pc0 := 224) (pc' := 228) rfl (hb hby at_224) (by decide) (by decide) ?_
    show Steps p.tables e below (T65.setTop (mkF m 228 #[.val (.int p1), .val (.int p2), .val (.int p3), .val (.int p4), .val (.int p5), .val (.int p6), .val (.int (Int32.ofNat ka)), .val (.int (Int32.ofNat kb)), .val (.int (Int32.ofNat kc)), .val (.int (Int32.ofNat kd)), .val (.int (Int32.ofNat kq)), .val (.int de), .val (.int df), .val (.ref b), .val (.int (1 : Int32))] [(.int (1 : Int32))])) _
    refine XS.istore X65.here hx rfl (hb hby at_228) rfl (l' := #[.val (.int p1), .val (.int p2), .val (.int p3), .val (.int p4), .val (.int p5), .val (.int p6), .val (.int (Int32.ofNat ka)), .val (.int (Int32.ofNat kb)), .val (.int (Int32.ofNat kc)), .val (.int (Int32.ofNat kd)), .val (.int (Int32.ofNat kq)), .val (.int de), .val (.int df), .val (.ref b), .val (.int (1 : Int32))]) rfl ?_
    show Steps p.tables e below (T65.setTop (mkF m 230 #[.val (.int p1), .val (.int p2), .val (.int p3), .val (.int p4), .val (.int p5), .val (.int p6), .val (.int (Int32.ofNat ka)), .val (.int (Int32.ofNat kb)), .val (.int (Int32.ofNat kc)), .val (.int (Int32.ofNat kd)), .val (.int (Int32.ofNat kq)), .val (.int de), .val (.int df), .val (.ref b), .val (.int (1 : Int32))] [])) _
    refine XS.iload X65.here hx rfl (hb hby at_230) rfl ?_
    show Steps p.tables e below (T65.setTop (mkF m 232 #[.val (.int p1), .val (.int p2), .val (.int p3), .val (.int p4), .val (.int p5), .val (.int p6), .val (.int (Int32.ofNat ka)), .val (.int (Int32.ofNat kb)), .val (.int (Int32.ofNat kc)), .val (.int (Int32.ofNat kd)), .val (.int (Int32.ofNat kq)), .val (.int de), .val (.int df), .val (.ref b), .val (.int (1 : Int32))] [(.int (1 : Int32))])) _
    refine XS.ifNo X65.here hx rfl (hb hby at_232) rfl (XT.i0_eq_f (by decide)) ?_
    show Steps p.tables e below (T65.setTop (mkF m 235 #[.val (.int p1), .val (.int p2), .val (.int p3), .val (.int p4), .val (.int p5), .val (.int p6), .val (.int (Int32.ofNat ka)), .val (.int (Int32.ofNat kb)), .val (.int (Int32.ofNat kc)), .val (.int (Int32.ofNat kd)), .val (.int (Int32.ofNat kq)), .val (.int de), .val (.int df), .val (.ref b), .val (.int (1 : Int32))] [])) _
    refine XS.aload X65.here hx rfl (hb hby at_235) rfl rfl ?_
    show Steps p.tables e below (T65.setTop (mkF m 237 #[.val (.int p1), .val (.int p2), .val (.int p3), .val (.int p4), .val (.int p5), .val (.int p6), .val (.int (Int32.ofNat ka)), .val (.int (Int32.ofNat kb)), .val (.int (Int32.ofNat kc)), .val (.int (Int32.ofNat kd)), .val (.int (Int32.ofNat kq)), .val (.int de), .val (.int df), .val (.ref b), .val (.int (1 : Int32))] [(.ref b)])) _
    refine XS.iload X65.here hx rfl (hb hby at_237) rfl ?_
    show Steps p.tables e below (T65.setTop (mkF m 239 #[.val (.int p1), .val (.int p2), .val (.int p3), .val (.int p4), .val (.int p5), .val (.int p6), .val (.int (Int32.ofNat ka)), .val (.int (Int32.ofNat kb)), .val (.int (Int32.ofNat kc)), .val (.int (Int32.ofNat kd)), .val (.int (Int32.ofNat kq)), .val (.int de), .val (.int df), .val (.ref b), .val (.int (1 : Int32))] [(.int (Int32.ofNat kd)), (.ref b)])) _
    exact Steps.refl _)
  have szo3 : n0 ≤ T65.heap.size := HNr2.2.2.2.2.2.2.2.2.2.2.2
  obtain ⟨cq68, kq68, q68a, q68b, q68c⟩ := isOf hZ rfl HNr2.1
  obtain ⟨_, _, ⟨T68, L68, k68, n68⟩, -, X68, hQ68, st68⟩ := X65.virtualBack hx (y := (⟨"com/example/edge_keeper/edgekeeper/Nesting", "outermost", "(I)I"⟩ : MethodName)) (z := (⟨"com/example/edge_keeper/edgekeeper/Nesting", "outermost", "(I)I"⟩ : MethodName)) hown (mvT hZ (hw _ (List.mem_of_getElem? (i := 48) rfl))) (mvT hZ (hw _ (List.mem_of_getElem? (i := 49) rfl))) (notFace_of_selects (args := #[]) (mvT hZ (hw _ (List.mem_of_getElem? (i := 51) rfl)))) (mvT hZ (hw _ (List.mem_of_getElem? (i := 51) rfl))) (mvT hZ (hw _ (List.mem_of_getElem? (i := 50) rfl))) (by decide) (backOf (W := 0) (rm11 l Z a0 hw [] b kd D nd fd A nl fl T65.heap n0 szo3 HNr2 hkd hokc) hZ (hw _ (List.mem_of_getElem? (i := 52) rfl)) (hw _ (List.mem_of_getElem? (i := 2) rfl)) (by decide) (by decide)) q68a q68c (g := (mkF m 239 #[.val (.int p1), .val (.int p2), .val (.int p3), .val (.int p4), .val (.int p5), .val (.int p6), .val (.int (Int32.ofNat ka)), .val (.int (Int32.ofNat kb)), .val (.int (Int32.ofNat kc)), .val (.int (Int32.ofNat kd)), .val (.int (Int32.ofNat kq)), .val (.int de), .val (.int df), .val (.ref b), .val (.int (1 : Int32))] [(.int (Int32.ofNat kd)), (.ref b)])) rfl (by rw [hml]; rfl) (Steps.refl _) (argsL := [(.int (Int32.ofNat kd))]) (rest := []) (lenOf own_pd__I_I rfl) rfl (by show 2 * 0 + _ ≤ _; exact Nat.le_of_eq rfl) (hb hby at_239) (fun _ _ => ⟨rfl, rfl, (by decide : 6 + 0 ≤ _), (by decide : 98 + 0 ≤ _)⟩)
  dsimp only [Pt.U, Pt.locs, Pt.cells, Pt.slots] at X68 hQ68 st68
  obtain ⟨Lc68, hR68, l68, y68, z68⟩ := hQ68
  subst l68 y68 z68
  obtain ⟨rfl, Nq68, eo3⟩ := hR68
  have N68 := Fr.app N65 Nq68
  have c69 : Steps p.tables e below S0 (T68.setTop (mkF m 242 #[.val (.int p1), .val (.int p2), .val (.int p3), .val (.int p4), .val (.int p5), .val (.int p6), .val (.int (Int32.ofNat ka)), .val (.int (Int32.ofNat kb)), .val (.int (Int32.ofNat kc)), .val (.int (Int32.ofNat kd)), .val (.int (Int32.ofNat kq)), .val (.int de), .val (.int df), .val (.ref b), .val (.int (1 : Int32))] [(.int (own_out (own_E nd fd nl fl) (max nd nl) (Int32.ofNat kd)))])) := c67.trans (st68)
  have HNo3 := HNr2.move eo3
  have c70 : Steps p.tables e below S0 (T68.setTop (mkF m 254 #[.val (.int p1), .val (.int p2), .val (.int p3), .val (.int p4), .val (.int p5), .val (.int p6), .val (.int (Int32.ofNat ka)), .val (.int (Int32.ofNat kb)), .val (.int (Int32.ofNat kc)), .val (.int (Int32.ofNat kd)), .val (.int (Int32.ofNat kq)), .val (.int de), .val (.int df), .val (.ref b), .val (.int (1 : Int32))] [(.int de), (.int (Int32.ofNat kd)), (.int (Int32.ofNat kc)), (.int (Int32.ofNat kb)), (.int (Int32.ofNat ka)), (.int (Int32.ofNat kd)), (.int (own_out (own_E nd fd nl fl) (max nd nl) (Int32.ofNat kd)))])) := c69.trans (by
    refine XS.iload X68.here hx rfl (hb hby at_242) rfl ?_
    show Steps p.tables e below (T68.setTop (mkF m 244 #[.val (.int p1), .val (.int p2), .val (.int p3), .val (.int p4), .val (.int p5), .val (.int p6), .val (.int (Int32.ofNat ka)), .val (.int (Int32.ofNat kb)), .val (.int (Int32.ofNat kc)), .val (.int (Int32.ofNat kd)), .val (.int (Int32.ofNat kq)), .val (.int de), .val (.int df), .val (.ref b), .val (.int (1 : Int32))] [(.int (Int32.ofNat kd)), (.int (own_out (own_E nd fd nl fl) (max nd nl) (Int32.ofNat kd)))])) _
    refine XS.iload X68.here hx rfl (hb hby at_244) rfl ?_
    show Steps p.tables e below (T68.setTop (mkF m 246 #[.val (.int p1), .val (.int p2), .val (.int p3), .val (.int p4), .val (.int p5), .val (.int p6), .val (.int (Int32.ofNat ka)), .val (.int (Int32.ofNat kb)), .val (.int (Int32.ofNat kc)), .val (.int (Int32.ofNat kd)), .val (.int (Int32.ofNat kq)), .val (.int de), .val (.int df), .val (.ref b), .val (.int (1 : Int32))] [(.int (Int32.ofNat ka)), (.int (Int32.ofNat kd)), (.int (own_out (own_E nd fd nl fl) (max nd nl) (Int32.ofNat kd)))])) _
    refine XS.iload X68.here hx rfl (hb hby at_246) rfl ?_
    show Steps p.tables e below (T68.setTop (mkF m 248 #[.val (.int p1), .val (.int p2), .val (.int p3), .val (.int p4), .val (.int p5), .val (.int p6), .val (.int (Int32.ofNat ka)), .val (.int (Int32.ofNat kb)), .val (.int (Int32.ofNat kc)), .val (.int (Int32.ofNat kd)), .val (.int (Int32.ofNat kq)), .val (.int de), .val (.int df), .val (.ref b), .val (.int (1 : Int32))] [(.int (Int32.ofNat kb)), (.int (Int32.ofNat ka)), (.int (Int32.ofNat kd)), (.int (own_out (own_E nd fd nl fl) (max nd nl) (Int32.ofNat kd)))])) _
    refine XS.iload X68.here hx rfl (hb hby at_248) rfl ?_
    show Steps p.tables e below (T68.setTop (mkF m 250 #[.val (.int p1), .val (.int p2), .val (.int p3), .val (.int p4), .val (.int p5), .val (.int p6), .val (.int (Int32.ofNat ka)), .val (.int (Int32.ofNat kb)), .val (.int (Int32.ofNat kc)), .val (.int (Int32.ofNat kd)), .val (.int (Int32.ofNat kq)), .val (.int de), .val (.int df), .val (.ref b), .val (.int (1 : Int32))] [(.int (Int32.ofNat kc)), (.int (Int32.ofNat kb)), (.int (Int32.ofNat ka)), (.int (Int32.ofNat kd)), (.int (own_out (own_E nd fd nl fl) (max nd nl) (Int32.ofNat kd)))])) _
    refine XS.iload X68.here hx rfl (hb hby at_250) rfl ?_
    show Steps p.tables e below (T68.setTop (mkF m 252 #[.val (.int p1), .val (.int p2), .val (.int p3), .val (.int p4), .val (.int p5), .val (.int p6), .val (.int (Int32.ofNat ka)), .val (.int (Int32.ofNat kb)), .val (.int (Int32.ofNat kc)), .val (.int (Int32.ofNat kd)), .val (.int (Int32.ofNat kq)), .val (.int de), .val (.int df), .val (.ref b), .val (.int (1 : Int32))] [(.int (Int32.ofNat kd)), (.int (Int32.ofNat kc)), (.int (Int32.ofNat kb)), (.int (Int32.ofNat ka)), (.int (Int32.ofNat kd)), (.int (own_out (own_E nd fd nl fl) (max nd nl) (Int32.ofNat kd)))])) _
    refine XS.iload X68.here hx rfl (hb hby at_252) rfl ?_
    show Steps p.tables e below (T68.setTop (mkF m 254 #[.val (.int p1), .val (.int p2), .val (.int p3), .val (.int p4), .val (.int p5), .val (.int p6), .val (.int (Int32.ofNat ka)), .val (.int (Int32.ofNat kb)), .val (.int (Int32.ofNat kc)), .val (.int (Int32.ofNat kd)), .val (.int (Int32.ofNat kq)), .val (.int de), .val (.int df), .val (.ref b), .val (.int (1 : Int32))] [(.int de), (.int (Int32.ofNat kd)), (.int (Int32.ofNat kc)), (.int (Int32.ofNat kb)), (.int (Int32.ofNat ka)), (.int (Int32.ofNat kd)), (.int (own_out (own_E nd fd nl fl) (max nd nl) (Int32.ofNat kd)))])) _
    exact Steps.refl _)
  have szr3 : n0 ≤ T68.heap.size := HNo3.2.2.2.2.2.2.2.2.2.2.2
  obtain ⟨_, _, ⟨T71, L71, k71, n71⟩, -, X71, hQ71, st71⟩ := Jvm.LawKit.callS X68 hx (y := (⟨"com/example/edge_keeper/edgekeeper/NestingLearnPinLaw", "ref", "(IIIIIZ)I"⟩ : MethodName)) hown (mvT hZ (hw _ (List.mem_of_getElem? (i := 57) rfl))) (mvT hZ (hw _ (List.mem_of_getElem? (i := 58) rfl))) (mvT hZ (hw _ (List.mem_of_getElem? (i := 59) rfl))) (mvT hZ (hw _ (List.mem_of_getElem? (i := 60) rfl))) (by decide) (backOf (W := 1) (rm13 l Z a0 hw [] (Int32.ofNat kd) (Int32.ofNat ka) (Int32.ofNat kb) (Int32.ofNat kc) (Int32.ofNat kd) de T68.heap n0 szr3) hZ (hw _ (List.mem_of_getElem? (i := 60) rfl)) (hw _ (List.mem_of_getElem? (i := 59) rfl)) (by decide) (by decide)) (g := (mkF m 254 #[.val (.int p1), .val (.int p2), .val (.int p3), .val (.int p4), .val (.int p5), .val (.int p6), .val (.int (Int32.ofNat ka)), .val (.int (Int32.ofNat kb)), .val (.int (Int32.ofNat kc)), .val (.int (Int32.ofNat kd)), .val (.int (Int32.ofNat kq)), .val (.int de), .val (.int df), .val (.ref b), .val (.int (1 : Int32))] [(.int de), (.int (Int32.ofNat kd)), (.int (Int32.ofNat kc)), (.int (Int32.ofNat kb)), (.int (Int32.ofNat ka)), (.int (Int32.ofNat kd)), (.int (own_out (own_E nd fd nl fl) (max nd nl) (Int32.ofNat kd)))])) rfl (by rw [hml]; rfl) (argsL := [(.int (Int32.ofNat kd)), (.int (Int32.ofNat ka)), (.int (Int32.ofNat kb)), (.int (Int32.ofNat kc)), (.int (Int32.ofNat kd)), (.int de)]) (rest := [(.int (own_out (own_E nd fd nl fl) (max nd nl) (Int32.ofNat kd)))]) (lenOf own_pd__IIIIIZ_I rfl) rfl (by show 2 * 0 + _ ≤ _; exact Nat.le_of_eq rfl) (hb hby at_254) (fun _ _ => ⟨rfl, rfl, (by decide : 6 + 0 ≤ _), (by decide : 98 + 0 ≤ _)⟩)
  dsimp only [Pt.U, Pt.locs, Pt.cells, Pt.slots] at X71 hQ71 st71
  obtain ⟨Lc71, hR71, l71, y71, z71⟩ := hQ71
  subst l71 y71 z71
  obtain ⟨rfl, Nq71, er3⟩ := hR71
  have N71 := Fr.app N68 Nq71
  have c72 : Steps p.tables e below S0 (T71.setTop (mkF m 257 #[.val (.int p1), .val (.int p2), .val (.int p3), .val (.int p4), .val (.int p5), .val (.int p6), .val (.int (Int32.ofNat ka)), .val (.int (Int32.ofNat kb)), .val (.int (Int32.ofNat kc)), .val (.int (Int32.ofNat kd)), .val (.int (Int32.ofNat kq)), .val (.int de), .val (.int df), .val (.ref b), .val (.int (1 : Int32))] [(.int (own_ref (Int32.ofNat kd) (Int32.ofNat ka) (Int32.ofNat kb) (Int32.ofNat kc) (Int32.ofNat kd) de)), (.int (own_out (own_E nd fd nl fl) (max nd nl) (Int32.ofNat kd)))])) := c70.trans (st71 _ (Steps.refl _))
  have HNr3 := HNo3.move er3
  have c73 : Steps p.tables e below S0 (T71.setTop (mkF m 276 #[.val (.int p1), .val (.int p2), .val (.int p3), .val (.int p4), .val (.int p5), .val (.int p6), .val (.int (Int32.ofNat ka)), .val (.int (Int32.ofNat kb)), .val (.int (Int32.ofNat kc)), .val (.int (Int32.ofNat kd)), .val (.int (Int32.ofNat kq)), .val (.int de), .val (.int df), .val (.ref b), .val (.int (1 : Int32))] [(.int (Int32.ofNat kq)), (.ref b)])) := c72.trans (by
    refine XS.icmpNo X71.here hx rfl (hb hby at_257) rfl (XT.ii_ne_f (own_same hE hka hkb hkc hkd hkd hn1 hn2 le_D le_A)) ?_
    show Steps p.tables e below (T71.setTop (mkF m 260 #[.val (.int p1), .val (.int p2), .val (.int p3), .val (.int p4), .val (.int p5), .val (.int p6), .val (.int (Int32.ofNat ka)), .val (.int (Int32.ofNat kb)), .val (.int (Int32.ofNat kc)), .val (.int (Int32.ofNat kd)), .val (.int (Int32.ofNat kq)), .val (.int de), .val (.int df), .val (.ref b), .val (.int (1 : Int32))] [])) _
    refine XT.iconstV X71.here hx rfl (1 : Int32) (hb hby at_260) (by decide) ?_
    show Steps p.tables e below (T71.setTop (mkF m 261 #[.val (.int p1), .val (.int p2), .val (.int p3), .val (.int p4), .val (.int p5), .val (.int p6), .val (.int (Int32.ofNat ka)), .val (.int (Int32.ofNat kb)), .val (.int (Int32.ofNat kc)), .val (.int (Int32.ofNat kd)), .val (.int (Int32.ofNat kq)), .val (.int de), .val (.int df), .val (.ref b), .val (.int (1 : Int32))] [(.int (1 : Int32))])) _
    refine XS.goto X71.here hx rfl (pc0 := 261) (pc' := 265) rfl (hb hby at_261) (by decide) (by decide) ?_
    show Steps p.tables e below (T71.setTop (mkF m 265 #[.val (.int p1), .val (.int p2), .val (.int p3), .val (.int p4), .val (.int p5), .val (.int p6), .val (.int (Int32.ofNat ka)), .val (.int (Int32.ofNat kb)), .val (.int (Int32.ofNat kc)), .val (.int (Int32.ofNat kd)), .val (.int (Int32.ofNat kq)), .val (.int de), .val (.int df), .val (.ref b), .val (.int (1 : Int32))] [(.int (1 : Int32))])) _
    refine XS.istore X71.here hx rfl (hb hby at_265) rfl (l' := #[.val (.int p1), .val (.int p2), .val (.int p3), .val (.int p4), .val (.int p5), .val (.int p6), .val (.int (Int32.ofNat ka)), .val (.int (Int32.ofNat kb)), .val (.int (Int32.ofNat kc)), .val (.int (Int32.ofNat kd)), .val (.int (Int32.ofNat kq)), .val (.int de), .val (.int df), .val (.ref b), .val (.int (1 : Int32))]) rfl ?_
    show Steps p.tables e below (T71.setTop (mkF m 267 #[.val (.int p1), .val (.int p2), .val (.int p3), .val (.int p4), .val (.int p5), .val (.int p6), .val (.int (Int32.ofNat ka)), .val (.int (Int32.ofNat kb)), .val (.int (Int32.ofNat kc)), .val (.int (Int32.ofNat kd)), .val (.int (Int32.ofNat kq)), .val (.int de), .val (.int df), .val (.ref b), .val (.int (1 : Int32))] [])) _
    refine XS.iload X71.here hx rfl (hb hby at_267) rfl ?_
    show Steps p.tables e below (T71.setTop (mkF m 269 #[.val (.int p1), .val (.int p2), .val (.int p3), .val (.int p4), .val (.int p5), .val (.int p6), .val (.int (Int32.ofNat ka)), .val (.int (Int32.ofNat kb)), .val (.int (Int32.ofNat kc)), .val (.int (Int32.ofNat kd)), .val (.int (Int32.ofNat kq)), .val (.int de), .val (.int df), .val (.ref b), .val (.int (1 : Int32))] [(.int (1 : Int32))])) _
    refine XS.ifNo X71.here hx rfl (hb hby at_269) rfl (XT.i0_eq_f (by decide)) ?_
    show Steps p.tables e below (T71.setTop (mkF m 272 #[.val (.int p1), .val (.int p2), .val (.int p3), .val (.int p4), .val (.int p5), .val (.int p6), .val (.int (Int32.ofNat ka)), .val (.int (Int32.ofNat kb)), .val (.int (Int32.ofNat kc)), .val (.int (Int32.ofNat kd)), .val (.int (Int32.ofNat kq)), .val (.int de), .val (.int df), .val (.ref b), .val (.int (1 : Int32))] [])) _
    refine XS.aload X71.here hx rfl (hb hby at_272) rfl rfl ?_
    show Steps p.tables e below (T71.setTop (mkF m 274 #[.val (.int p1), .val (.int p2), .val (.int p3), .val (.int p4), .val (.int p5), .val (.int p6), .val (.int (Int32.ofNat ka)), .val (.int (Int32.ofNat kb)), .val (.int (Int32.ofNat kc)), .val (.int (Int32.ofNat kd)), .val (.int (Int32.ofNat kq)), .val (.int de), .val (.int df), .val (.ref b), .val (.int (1 : Int32))] [(.ref b)])) _
    refine XS.iload X71.here hx rfl (hb hby at_274) rfl ?_
    show Steps p.tables e below (T71.setTop (mkF m 276 #[.val (.int p1), .val (.int p2), .val (.int p3), .val (.int p4), .val (.int p5), .val (.int p6), .val (.int (Int32.ofNat ka)), .val (.int (Int32.ofNat kb)), .val (.int (Int32.ofNat kc)), .val (.int (Int32.ofNat kd)), .val (.int (Int32.ofNat kq)), .val (.int de), .val (.int df), .val (.ref b), .val (.int (1 : Int32))] [(.int (Int32.ofNat kq)), (.ref b)])) _
    exact Steps.refl _)
  have szo4 : n0 ≤ T71.heap.size := HNr3.2.2.2.2.2.2.2.2.2.2.2
  obtain ⟨cq74, kq74, q74a, q74b, q74c⟩ := isOf hZ rfl HNr3.1
  obtain ⟨_, _, ⟨T74, L74, k74, n74⟩, -, X74, hQ74, st74⟩ := X71.virtualBack hx (y := (⟨"com/example/edge_keeper/edgekeeper/Nesting", "outermost", "(I)I"⟩ : MethodName)) (z := (⟨"com/example/edge_keeper/edgekeeper/Nesting", "outermost", "(I)I"⟩ : MethodName)) hown (mvT hZ (hw _ (List.mem_of_getElem? (i := 48) rfl))) (mvT hZ (hw _ (List.mem_of_getElem? (i := 49) rfl))) (notFace_of_selects (args := #[]) (mvT hZ (hw _ (List.mem_of_getElem? (i := 51) rfl)))) (mvT hZ (hw _ (List.mem_of_getElem? (i := 51) rfl))) (mvT hZ (hw _ (List.mem_of_getElem? (i := 50) rfl))) (by decide) (backOf (W := 0) (rm11 l Z a0 hw [] b kq D nd fd A nl fl T71.heap n0 szo4 HNr3 hkq hokc) hZ (hw _ (List.mem_of_getElem? (i := 52) rfl)) (hw _ (List.mem_of_getElem? (i := 2) rfl)) (by decide) (by decide)) q74a q74c (g := (mkF m 276 #[.val (.int p1), .val (.int p2), .val (.int p3), .val (.int p4), .val (.int p5), .val (.int p6), .val (.int (Int32.ofNat ka)), .val (.int (Int32.ofNat kb)), .val (.int (Int32.ofNat kc)), .val (.int (Int32.ofNat kd)), .val (.int (Int32.ofNat kq)), .val (.int de), .val (.int df), .val (.ref b), .val (.int (1 : Int32))] [(.int (Int32.ofNat kq)), (.ref b)])) rfl (by rw [hml]; rfl) (Steps.refl _) (argsL := [(.int (Int32.ofNat kq))]) (rest := []) (lenOf own_pd__I_I rfl) rfl (by show 2 * 0 + _ ≤ _; exact Nat.le_of_eq rfl) (hb hby at_276) (fun _ _ => ⟨rfl, rfl, (by decide : 6 + 0 ≤ _), (by decide : 98 + 0 ≤ _)⟩)
  dsimp only [Pt.U, Pt.locs, Pt.cells, Pt.slots] at X74 hQ74 st74
  obtain ⟨Lc74, hR74, l74, y74, z74⟩ := hQ74
  subst l74 y74 z74
  obtain ⟨rfl, Nq74, eo4⟩ := hR74
  have N74 := Fr.app N71 Nq74
  have c75 : Steps p.tables e below S0 (T74.setTop (mkF m 279 #[.val (.int p1), .val (.int p2), .val (.int p3), .val (.int p4), .val (.int p5), .val (.int p6), .val (.int (Int32.ofNat ka)), .val (.int (Int32.ofNat kb)), .val (.int (Int32.ofNat kc)), .val (.int (Int32.ofNat kd)), .val (.int (Int32.ofNat kq)), .val (.int de), .val (.int df), .val (.ref b), .val (.int (1 : Int32))] [(.int (own_out (own_E nd fd nl fl) (max nd nl) (Int32.ofNat kq)))])) := c73.trans (st74)
  have HNo4 := HNr3.move eo4
  have c76 : Steps p.tables e below S0 (T74.setTop (mkF m 291 #[.val (.int p1), .val (.int p2), .val (.int p3), .val (.int p4), .val (.int p5), .val (.int p6), .val (.int (Int32.ofNat ka)), .val (.int (Int32.ofNat kb)), .val (.int (Int32.ofNat kc)), .val (.int (Int32.ofNat kd)), .val (.int (Int32.ofNat kq)), .val (.int de), .val (.int df), .val (.ref b), .val (.int (1 : Int32))] [(.int de), (.int (Int32.ofNat kd)), (.int (Int32.ofNat kc)), (.int (Int32.ofNat kb)), (.int (Int32.ofNat ka)), (.int (Int32.ofNat kq)), (.int (own_out (own_E nd fd nl fl) (max nd nl) (Int32.ofNat kq)))])) := c75.trans (by
    refine XS.iload X74.here hx rfl (hb hby at_279) rfl ?_
    show Steps p.tables e below (T74.setTop (mkF m 281 #[.val (.int p1), .val (.int p2), .val (.int p3), .val (.int p4), .val (.int p5), .val (.int p6), .val (.int (Int32.ofNat ka)), .val (.int (Int32.ofNat kb)), .val (.int (Int32.ofNat kc)), .val (.int (Int32.ofNat kd)), .val (.int (Int32.ofNat kq)), .val (.int de), .val (.int df), .val (.ref b), .val (.int (1 : Int32))] [(.int (Int32.ofNat kq)), (.int (own_out (own_E nd fd nl fl) (max nd nl) (Int32.ofNat kq)))])) _
    refine XS.iload X74.here hx rfl (hb hby at_281) rfl ?_
    show Steps p.tables e below (T74.setTop (mkF m 283 #[.val (.int p1), .val (.int p2), .val (.int p3), .val (.int p4), .val (.int p5), .val (.int p6), .val (.int (Int32.ofNat ka)), .val (.int (Int32.ofNat kb)), .val (.int (Int32.ofNat kc)), .val (.int (Int32.ofNat kd)), .val (.int (Int32.ofNat kq)), .val (.int de), .val (.int df), .val (.ref b), .val (.int (1 : Int32))] [(.int (Int32.ofNat ka)), (.int (Int32.ofNat kq)), (.int (own_out (own_E nd fd nl fl) (max nd nl) (Int32.ofNat kq)))])) _
    refine XS.iload X74.here hx rfl (hb hby at_283) rfl ?_
    show Steps p.tables e below (T74.setTop (mkF m 285 #[.val (.int p1), .val (.int p2), .val (.int p3), .val (.int p4), .val (.int p5), .val (.int p6), .val (.int (Int32.ofNat ka)), .val (.int (Int32.ofNat kb)), .val (.int (Int32.ofNat kc)), .val (.int (Int32.ofNat kd)), .val (.int (Int32.ofNat kq)), .val (.int de), .val (.int df), .val (.ref b), .val (.int (1 : Int32))] [(.int (Int32.ofNat kb)), (.int (Int32.ofNat ka)), (.int (Int32.ofNat kq)), (.int (own_out (own_E nd fd nl fl) (max nd nl) (Int32.ofNat kq)))])) _
    refine XS.iload X74.here hx rfl (hb hby at_285) rfl ?_
    show Steps p.tables e below (T74.setTop (mkF m 287 #[.val (.int p1), .val (.int p2), .val (.int p3), .val (.int p4), .val (.int p5), .val (.int p6), .val (.int (Int32.ofNat ka)), .val (.int (Int32.ofNat kb)), .val (.int (Int32.ofNat kc)), .val (.int (Int32.ofNat kd)), .val (.int (Int32.ofNat kq)), .val (.int de), .val (.int df), .val (.ref b), .val (.int (1 : Int32))] [(.int (Int32.ofNat kc)), (.int (Int32.ofNat kb)), (.int (Int32.ofNat ka)), (.int (Int32.ofNat kq)), (.int (own_out (own_E nd fd nl fl) (max nd nl) (Int32.ofNat kq)))])) _
    refine XS.iload X74.here hx rfl (hb hby at_287) rfl ?_
    show Steps p.tables e below (T74.setTop (mkF m 289 #[.val (.int p1), .val (.int p2), .val (.int p3), .val (.int p4), .val (.int p5), .val (.int p6), .val (.int (Int32.ofNat ka)), .val (.int (Int32.ofNat kb)), .val (.int (Int32.ofNat kc)), .val (.int (Int32.ofNat kd)), .val (.int (Int32.ofNat kq)), .val (.int de), .val (.int df), .val (.ref b), .val (.int (1 : Int32))] [(.int (Int32.ofNat kd)), (.int (Int32.ofNat kc)), (.int (Int32.ofNat kb)), (.int (Int32.ofNat ka)), (.int (Int32.ofNat kq)), (.int (own_out (own_E nd fd nl fl) (max nd nl) (Int32.ofNat kq)))])) _
    refine XS.iload X74.here hx rfl (hb hby at_289) rfl ?_
    show Steps p.tables e below (T74.setTop (mkF m 291 #[.val (.int p1), .val (.int p2), .val (.int p3), .val (.int p4), .val (.int p5), .val (.int p6), .val (.int (Int32.ofNat ka)), .val (.int (Int32.ofNat kb)), .val (.int (Int32.ofNat kc)), .val (.int (Int32.ofNat kd)), .val (.int (Int32.ofNat kq)), .val (.int de), .val (.int df), .val (.ref b), .val (.int (1 : Int32))] [(.int de), (.int (Int32.ofNat kd)), (.int (Int32.ofNat kc)), (.int (Int32.ofNat kb)), (.int (Int32.ofNat ka)), (.int (Int32.ofNat kq)), (.int (own_out (own_E nd fd nl fl) (max nd nl) (Int32.ofNat kq)))])) _
    exact Steps.refl _)
  have szr4 : n0 ≤ T74.heap.size := HNo4.2.2.2.2.2.2.2.2.2.2.2
  obtain ⟨_, _, ⟨T77, L77, k77, n77⟩, -, X77, hQ77, st77⟩ := Jvm.LawKit.callS X74 hx (y := (⟨"com/example/edge_keeper/edgekeeper/NestingLearnPinLaw", "ref", "(IIIIIZ)I"⟩ : MethodName)) hown (mvT hZ (hw _ (List.mem_of_getElem? (i := 57) rfl))) (mvT hZ (hw _ (List.mem_of_getElem? (i := 58) rfl))) (mvT hZ (hw _ (List.mem_of_getElem? (i := 59) rfl))) (mvT hZ (hw _ (List.mem_of_getElem? (i := 60) rfl))) (by decide) (backOf (W := 1) (rm13 l Z a0 hw [] (Int32.ofNat kq) (Int32.ofNat ka) (Int32.ofNat kb) (Int32.ofNat kc) (Int32.ofNat kd) de T74.heap n0 szr4) hZ (hw _ (List.mem_of_getElem? (i := 60) rfl)) (hw _ (List.mem_of_getElem? (i := 59) rfl)) (by decide) (by decide)) (g := (mkF m 291 #[.val (.int p1), .val (.int p2), .val (.int p3), .val (.int p4), .val (.int p5), .val (.int p6), .val (.int (Int32.ofNat ka)), .val (.int (Int32.ofNat kb)), .val (.int (Int32.ofNat kc)), .val (.int (Int32.ofNat kd)), .val (.int (Int32.ofNat kq)), .val (.int de), .val (.int df), .val (.ref b), .val (.int (1 : Int32))] [(.int de), (.int (Int32.ofNat kd)), (.int (Int32.ofNat kc)), (.int (Int32.ofNat kb)), (.int (Int32.ofNat ka)), (.int (Int32.ofNat kq)), (.int (own_out (own_E nd fd nl fl) (max nd nl) (Int32.ofNat kq)))])) rfl (by rw [hml]; rfl) (argsL := [(.int (Int32.ofNat kq)), (.int (Int32.ofNat ka)), (.int (Int32.ofNat kb)), (.int (Int32.ofNat kc)), (.int (Int32.ofNat kd)), (.int de)]) (rest := [(.int (own_out (own_E nd fd nl fl) (max nd nl) (Int32.ofNat kq)))]) (lenOf own_pd__IIIIIZ_I rfl) rfl (by show 2 * 0 + _ ≤ _; exact Nat.le_of_eq rfl) (hb hby at_291) (fun _ _ => ⟨rfl, rfl, (by decide : 6 + 0 ≤ _), (by decide : 98 + 0 ≤ _)⟩)
  dsimp only [Pt.U, Pt.locs, Pt.cells, Pt.slots] at X77 hQ77 st77
  obtain ⟨Lc77, hR77, l77, y77, z77⟩ := hQ77
  subst l77 y77 z77
  obtain ⟨rfl, Nq77, er4⟩ := hR77
  have N77 := Fr.app N74 Nq77
  have c78 : Steps p.tables e below S0 (T77.setTop (mkF m 294 #[.val (.int p1), .val (.int p2), .val (.int p3), .val (.int p4), .val (.int p5), .val (.int p6), .val (.int (Int32.ofNat ka)), .val (.int (Int32.ofNat kb)), .val (.int (Int32.ofNat kc)), .val (.int (Int32.ofNat kd)), .val (.int (Int32.ofNat kq)), .val (.int de), .val (.int df), .val (.ref b), .val (.int (1 : Int32))] [(.int (own_ref (Int32.ofNat kq) (Int32.ofNat ka) (Int32.ofNat kb) (Int32.ofNat kc) (Int32.ofNat kd) de)), (.int (own_out (own_E nd fd nl fl) (max nd nl) (Int32.ofNat kq)))])) := c76.trans (st77 _ (Steps.refl _))
  have HNr4 := HNo4.move er4
  have c79 : Steps p.tables e below S0 (T77.setTop (mkF m 306 #[.val (.int p1), .val (.int p2), .val (.int p3), .val (.int p4), .val (.int p5), .val (.int p6), .val (.int (Int32.ofNat ka)), .val (.int (Int32.ofNat kb)), .val (.int (Int32.ofNat kc)), .val (.int (Int32.ofNat kd)), .val (.int (Int32.ofNat kq)), .val (.int de), .val (.int df), .val (.ref b), .val (.int (1 : Int32))] [(.int (1 : Int32))])) := c78.trans (by
    refine XS.icmpNo X77.here hx rfl (hb hby at_294) rfl (XT.ii_ne_f (own_same hE hka hkb hkc hkd hkq hn1 hn2 le_D le_A)) ?_
    show Steps p.tables e below (T77.setTop (mkF m 297 #[.val (.int p1), .val (.int p2), .val (.int p3), .val (.int p4), .val (.int p5), .val (.int p6), .val (.int (Int32.ofNat ka)), .val (.int (Int32.ofNat kb)), .val (.int (Int32.ofNat kc)), .val (.int (Int32.ofNat kd)), .val (.int (Int32.ofNat kq)), .val (.int de), .val (.int df), .val (.ref b), .val (.int (1 : Int32))] [])) _
    refine XT.iconstV X77.here hx rfl (1 : Int32) (hb hby at_297) (by decide) ?_
    show Steps p.tables e below (T77.setTop (mkF m 298 #[.val (.int p1), .val (.int p2), .val (.int p3), .val (.int p4), .val (.int p5), .val (.int p6), .val (.int (Int32.ofNat ka)), .val (.int (Int32.ofNat kb)), .val (.int (Int32.ofNat kc)), .val (.int (Int32.ofNat kd)), .val (.int (Int32.ofNat kq)), .val (.int de), .val (.int df), .val (.ref b), .val (.int (1 : Int32))] [(.int (1 : Int32))])) _
    refine XS.goto X77.here hx rfl (pc0 := 298) (pc' := 302) rfl (hb hby at_298) (by decide) (by decide) ?_
    show Steps p.tables e below (T77.setTop (mkF m 302 #[.val (.int p1), .val (.int p2), .val (.int p3), .val (.int p4), .val (.int p5), .val (.int p6), .val (.int (Int32.ofNat ka)), .val (.int (Int32.ofNat kb)), .val (.int (Int32.ofNat kc)), .val (.int (Int32.ofNat kd)), .val (.int (Int32.ofNat kq)), .val (.int de), .val (.int df), .val (.ref b), .val (.int (1 : Int32))] [(.int (1 : Int32))])) _
    refine XS.istore X77.here hx rfl (hb hby at_302) rfl (l' := #[.val (.int p1), .val (.int p2), .val (.int p3), .val (.int p4), .val (.int p5), .val (.int p6), .val (.int (Int32.ofNat ka)), .val (.int (Int32.ofNat kb)), .val (.int (Int32.ofNat kc)), .val (.int (Int32.ofNat kd)), .val (.int (Int32.ofNat kq)), .val (.int de), .val (.int df), .val (.ref b), .val (.int (1 : Int32))]) rfl ?_
    show Steps p.tables e below (T77.setTop (mkF m 304 #[.val (.int p1), .val (.int p2), .val (.int p3), .val (.int p4), .val (.int p5), .val (.int p6), .val (.int (Int32.ofNat ka)), .val (.int (Int32.ofNat kb)), .val (.int (Int32.ofNat kc)), .val (.int (Int32.ofNat kd)), .val (.int (Int32.ofNat kq)), .val (.int de), .val (.int df), .val (.ref b), .val (.int (1 : Int32))] [])) _
    refine XS.iload X77.here hx rfl (hb hby at_304) rfl ?_
    show Steps p.tables e below (T77.setTop (mkF m 306 #[.val (.int p1), .val (.int p2), .val (.int p3), .val (.int p4), .val (.int p5), .val (.int p6), .val (.int (Int32.ofNat ka)), .val (.int (Int32.ofNat kb)), .val (.int (Int32.ofNat kc)), .val (.int (Int32.ofNat kd)), .val (.int (Int32.ofNat kq)), .val (.int de), .val (.int df), .val (.ref b), .val (.int (1 : Int32))] [(.int (1 : Int32))])) _
    exact Steps.refl _)
  obtain ⟨fs, hr, hrun, hended, hW, hsame⟩ := X77.leave (v := some (.int (1 : Int32))) (fun h => by rw [Bd.returns] at h; cases h)
  refine ⟨_, _, pre0 _ ?_, hrun, hended, _, _, rfl, ?_, ⟨_, rfl⟩, hW, hsame.mono (by decide) (by decide)⟩
  · rw [← hS0]
    exact c79.trans (retN X77 hx (t := .boolean) Bd.returns (by simp) (hb hby at_306) hr)
  · show Qrm0 Z p1 p2 p3 p4 p5 p6 h0 n0 _ T77.heap _
    exact ⟨rfl, N77⟩
set_option maxRecDepth 65536 in
set_option maxHeartbeats 40000000 in
theorem comes_1 {Post : Tables → Env → Array Value → State → Outcome → State → Prop} (hpost : ∀ tb e args s v u, (limb_1_1.after args s (.returned v) u = true ∧ limb_1_2.after args s (.returned v) u = true ∧ True) → FrameEnd s (.returned v) u (Jvm.fieldLocs frame_1_writes args s ++ Jvm.arrayLocs frame_1_arrays args s ++ Jvm.staticLocs frame_1_statics s) 24 192 → Post tb e args s (.returned v) u) :
    ArmFor flags0 classFile x code maxLocals ret World_1 tables_1 room_1 Calls_1 rest_1 Pre_1 Post := by
  intro l hfl _ _ p e ha hc hk s m args below hf hA hF happ hP
  obtain ⟨hcalls, hrest, hpre⟩ := hP
  obtain ⟨-, -, -, hnamed, -, -, -, hat⟩ := (Spec.applies_iff hf).mp happ
  obtain ⟨hg, hn⟩ := and_e (Cond.before_iff.mp (show (Jvm.Cond.and given_1 narrow_1).before args s = true from hpre))
  obtain ⟨hcount, g0⟩ := and_e hg
  obtain ⟨k0, g1⟩ := and_e g0
  obtain ⟨k1, g2⟩ := and_e g1
  obtain ⟨k2, g3⟩ := and_e g2
  obtain ⟨k3, g4⟩ := and_e g3
  obtain ⟨k4, g5⟩ := and_e g4
  obtain ⟨w0, w1, w2, w3, w4, w5, rfl⟩ : ∃ w0 w1 w2 w3 w4 w5 : Value, args = #[w0, w1, w2, w3, w4, w5] := by
    have hs : args.size = 6 := by simpa [Cond.value, given_1] using hcount
    obtain ⟨L⟩ := args
    match L, hs with
    | [w0, w1, w2, w3, w4, w5], _ => exact ⟨w0, w1, w2, w3, w4, w5, rfl⟩
  have hw := fun d (hd : d ∈ tables_1) => atoms_spec (ws := Jvm.Cond.code x code maxLocals ret :: tables_1) hat d (List.mem_cons_of_mem _ hd)
  obtain ⟨i0, e0⟩ := is_v k0
  obtain rfl : w0 = (.int i0) := Option.some.inj e0
  obtain ⟨i1, e1⟩ := is_v k1
  obtain rfl : w1 = (.int i1) := Option.some.inj e1
  obtain ⟨i2, e2⟩ := is_v k2
  obtain rfl : w2 = (.int i2) := Option.some.inj e2
  obtain ⟨i3, e3⟩ := is_v k3
  obtain rfl : w3 = (.int i3) := Option.some.inj e3
  obtain ⟨i4, e4⟩ := is_v k4
  obtain rfl : w4 = (.int i4) := Option.some.inj e4
  obtain ⟨i5, e5⟩ := is_v g5
  obtain rfl : w5 = (.int i5) := Option.some.inj e5
  obtain ⟨n, o, h1, h2, h3, _, L, rfl, ⟨rfl, N⟩, hq⟩ := rm0 l s _ hw tables_1 i0 i1 i2 i3 i4 i5 s.heap s.heap.size (Nat.le_refl _) p e ha hc hk s m _ below hf ((Spec.applies_iff_loose hf).mp happ).1 ⟨rfl, State.Warmed39.refl s, rfl⟩ trivial
  refine ⟨n, _, h1, h2, h3, hpost _ _ _ _ _ _ ⟨Cond.after_iff.mpr rfl, Cond.after_iff.mpr (eq_i res_at (Term.int_eval (1)) rfl), trivial⟩ ⟨hq.1, hq.2.1, (hq.2.2.sift fun y hy => Or.inr (N y hy)).mono (by decide) (by decide)⟩⟩
theorem main_1_1 : Claimed_1_1 := comes_1 fun _ _ _ _ _ _ h hF => ⟨h.1, hF⟩
theorem main_1_2 : Claimed_1_2 := comes_1 fun _ _ _ _ _ _ h hF => ⟨h.2.1, hF⟩
end Jvm.Pilot.@@N@@
namespace Jvm.Pilot.@@N@@
open Jvm Jvm.ClassFile Sem Op Lib Jvm.Free Jvm.Stand Jvm.Pilot.@@N@@.Jvm.D
/-! MADE BY PROGRAM (witnessworld.py) out of the Statement's table words and the real class files: 12 classes; the members and pool entries that the words name. The judged class is class 1, her method 3. -/
namespace start1
open Jvm.ClassFile
def u (s : String) : CpInfo := .utf8 (stringToUtf16 s)
/-- a pool by its gaps: so many unusable entries, then the entry; so many at the end -/
def gap : Nat → List CpInfo → List CpInfo
  | 0, r => r
  | n + 1, r => .unusable :: gap n r
def poolList (es : List (Nat × CpInfo)) (last : Nat) : List CpInfo := es.foldr (fun e r => gap e.1 (e.2 :: r)) (gap last [])
def pool (es : List (Nat × CpInfo)) (last : Nat) : Array CpInfo := ⟨poolList es last⟩
def fileOf (pool : Array CpInfo) (this : Nat) (attrs : Array Attribute := #[]) (ms : Array MethodInfo := #[]) (fl : Nat := 33) (sup : Nat := 0) (ifs : Array Nat := #[]) (fds : Array FieldInfo := #[]) : ClassFile where
  minorVersion := 0
  majorVersion := 65
  constantPool := pool
  accessFlags := fl
  thisClass := this
  superClass := sup
  interfaces := ifs
  fields := fds
  methods := ms
  attributes := attrs
def plain (name : String) (sup : Option ClassId) : Class where
  name := name
  kind := .ordinary
  loader := none
  accessFlags := 33
  super := sup
  interfaces := #[]
  cf := none
  fields := #[]
  methods := #[]
  instanceTypes := #[]
  staticTypes := #[]
  resolved := #[]
  callSites := []
  init := .initialized
  statics := none
  mirror := none

def pool0 : Array CpInfo := pool [(5, u "<init>"), (0, u "()V"), (1, .class_ 10), (1, u "java/lang/Object")] 113

def k0c0 : Code := { maxStack := 0, maxLocals := 1, code := object_method_1_code, exceptionTable := #[], attributes := #[] }
def k0m0 : Method := { name := "<init>", desc := "()V", sig := { parameters := [], returnType := none }, accessFlags := 1, code := some k0c0 }
/-- java/lang/Object -/
def k0 : Class := { plain "java/lang/Object" none with
  accessFlags := 33
  interfaces := #[]
  cf := some (fileOf pool0 8 #[] #[{ accessFlags := 1, nameIndex := 5, descriptorIndex := 6, attributes := #[] }] 33 0 #[] #[])
  fields := #[]
  methods := #[k0m0]
  instanceTypes := #[]
  staticTypes := #[]
  resolved := Array.replicate 124 none
  statics := none }

def pool1 : Array CpInfo := pool [(2, .class_ 4), (0, .nameAndType 5 6), (0, u "java/lang/Object"), (0, u "<init>"), (0, u "()V"), (0, .methodref 8 9), (0, .class_ 10), (0, .nameAndType 11 12), (0, u "com/example/edge_keeper/edgekeeper/NestingLearnPinLaw"), (0, u "enc"), (0, u "(IIIIIZ)I"), (0, .class_ 14), (0, u "com/example/edge_keeper/edgekeeper/Nesting"), (0, .methodref 13 3), (0, .methodref 13 17), (0, .nameAndType 18 19), (0, u "declare"), (0, u "(II)V"), (0, .methodref 13 21), (0, .nameAndType 22 19), (0, u "learn"), (0, .methodref 13 24), (0, .nameAndType 25 26), (0, u "outermost"), (0, u "(I)I"), (0, .methodref 8 28), (0, .nameAndType 29 12), (0, u "ref"), (3, u "law"), (0, u "(IIIIII)Z")] 2

def k1m0 : Method := { name := "<init>", desc := "()V", sig := { parameters := [], returnType := none }, accessFlags := 1, code := none }
def k1c1 : Code := { maxStack := 2, maxLocals := 6, code := method_2_code, exceptionTable := #[], attributes := #[] }
def k1m1 : Method := { name := "enc", desc := "(IIIIIZ)I", sig := { parameters := [.int, .int, .int, .int, .int, .boolean], returnType := some .int }, accessFlags := 10, code := some k1c1 }
def k1c2 : Code := { maxStack := 6, maxLocals := 11, code := method_3_code, exceptionTable := #[], attributes := #[] }
def k1m2 : Method := { name := "ref", desc := "(IIIIIZ)I", sig := { parameters := [.int, .int, .int, .int, .int, .boolean], returnType := some .int }, accessFlags := 10, code := some k1c2 }
def k1c3 : Code := { maxStack := 7, maxLocals := 15, code := code, exceptionTable := #[], attributes := #[] }
def k1m3 : Method := { name := "law", desc := "(IIIIII)Z", sig := { parameters := [.int, .int, .int, .int, .int, .int], returnType := some .boolean }, accessFlags := 9, code := some k1c3 }
/-- com/example/edge_keeper/edgekeeper/NestingLearnPinLaw -/
def k1 : Class := { plain "com/example/edge_keeper/edgekeeper/NestingLearnPinLaw" (some 0) with
  accessFlags := 49
  interfaces := #[]
  cf := some (fileOf pool1 8 #[] #[{ accessFlags := 1, nameIndex := 5, descriptorIndex := 6, attributes := #[] }, { accessFlags := 10, nameIndex := 11, descriptorIndex := 12, attributes := #[] }, { accessFlags := 10, nameIndex := 29, descriptorIndex := 12, attributes := #[] }, { accessFlags := 9, nameIndex := 33, descriptorIndex := 34, attributes := #[] }] 49 2 #[] #[])
  fields := #[]
  methods := #[k1m0, k1m1, k1m2, k1m3]
  instanceTypes := #[]
  staticTypes := #[]
  resolved := Array.replicate 37 none
  statics := none }

def pool2 : Array CpInfo := pool [(1, .methodref 2 3), (0, .class_ 4), (0, .nameAndType 5 6), (0, u "java/lang/Object"), (0, u "<init>"), (0, u "()V"), (0, .fieldref 8 9), (0, .class_ 10), (0, .nameAndType 11 12), (0, u "com/example/edge_keeper/edgekeeper/Nesting"), (0, u "declared"), (0, u "[I"), (0, .fieldref 8 14), (0, .nameAndType 15 12), (0, u "learned"), (0, .methodref 8 17), (0, .nameAndType 18 19), (0, u "room"), (0, u "([II)[I"), (0, .methodref 21 22), (0, .class_ 23), (0, .nameAndType 24 25), (0, u "java/lang/Math"), (0, u "max"), (0, u "(II)I"), (0, .methodref 27 28), (0, .class_ 29), (0, .nameAndType 30 19), (0, u "java/util/Arrays"), (0, u "copyOf"), (0, .methodref 27 32), (0, .nameAndType 33 34), (0, u "fill"), (0, u "([IIII)V"), (0, .methodref 8 36), (0, .nameAndType 37 38), (0, u "enclosing"), (0, u "(I)I"), (0, u "UNKNOWN"), (0, u "I"), (4, u "declare"), (0, u "(II)V"), (0, u "learn"), (2, u "outermost")] 2

def k2c0 : Code := { maxStack := 2, maxLocals := 1, code := prog_11_method_1_code, exceptionTable := #[], attributes := #[] }
def k2m0 : Method := { name := "<init>", desc := "()V", sig := { parameters := [], returnType := none }, accessFlags := 0, code := some k2c0 }
def k2c1 : Code := { maxStack := 3, maxLocals := 3, code := prog_11_method_2_code, exceptionTable := #[], attributes := #[] }
def k2m1 : Method := { name := "declare", desc := "(II)V", sig := { parameters := [.int, .int], returnType := none }, accessFlags := 0, code := some k2c1 }
def k2c2 : Code := { maxStack := 3, maxLocals := 3, code := prog_11_method_3_code, exceptionTable := #[], attributes := #[] }
def k2m2 : Method := { name := "learn", desc := "(II)V", sig := { parameters := [.int, .int], returnType := none }, accessFlags := 0, code := some k2c2 }
def k2c3 : Code := { maxStack := 4, maxLocals := 3, code := prog_11_method_4_code, exceptionTable := #[], attributes := #[] }
def k2m3 : Method := { name := "room", desc := "([II)[I", sig := { parameters := [(.array .int), .int], returnType := some (.array .int) }, accessFlags := 10, code := some k2c3 }
def k2c4 : Code := { maxStack := 2, maxLocals := 3, code := prog_11_method_5_code, exceptionTable := #[], attributes := #[] }
def k2m4 : Method := { name := "enclosing", desc := "(I)I", sig := { parameters := [.int], returnType := some .int }, accessFlags := 2, code := some k2c4 }
def k2c5 : Code := { maxStack := 2, maxLocals := 6, code := prog_11_method_6_code, exceptionTable := #[], attributes := #[] }
def k2m5 : Method := { name := "outermost", desc := "(I)I", sig := { parameters := [.int], returnType := some .int }, accessFlags := 0, code := some k2c5 }
/-- com/example/edge_keeper/edgekeeper/Nesting -/
def k2 : Class := { plain "com/example/edge_keeper/edgekeeper/Nesting" (some 0) with
  accessFlags := 32
  interfaces := #[]
  cf := some (fileOf pool2 8 #[] #[{ accessFlags := 0, nameIndex := 5, descriptorIndex := 6, attributes := #[] }, { accessFlags := 0, nameIndex := 45, descriptorIndex := 46, attributes := #[] }, { accessFlags := 0, nameIndex := 47, descriptorIndex := 46, attributes := #[] }, { accessFlags := 10, nameIndex := 18, descriptorIndex := 19, attributes := #[] }, { accessFlags := 2, nameIndex := 37, descriptorIndex := 38, attributes := #[] }, { accessFlags := 0, nameIndex := 50, descriptorIndex := 38, attributes := #[] }] 32 2 #[] #[{ accessFlags := 26, nameIndex := 39, descriptorIndex := 40, attributes := #[] }, { accessFlags := 2, nameIndex := 11, descriptorIndex := 12, attributes := #[] }, { accessFlags := 2, nameIndex := 15, descriptorIndex := 12, attributes := #[] }])
  fields := #[{ name := "UNKNOWN", type := .int, accessFlags := 26, slot := 0, constantValue := 0 }, { name := "declared", type := (.array .int), accessFlags := 2, slot := 0, constantValue := 0 }, { name := "learned", type := (.array .int), accessFlags := 2, slot := 1, constantValue := 0 }]
  methods := #[k2m0, k2m1, k2m2, k2m3, k2m4, k2m5]
  instanceTypes := #[(.array .int), (.array .int)]
  staticTypes := #[.int]
  resolved := Array.replicate 53 none
  statics := none }

def pool3 : Array CpInfo := pool [(1, .class_ 2), (0, u "java/lang/Math"), (1, .class_ 6), (1, u "java/lang/Object"), (0, u "<init>"), (0, u "()V"), (89, .class_ 100), (1, u "java/lang/Math$RandomNumberGeneratorHolder"), (71, u "negativeZeroFloatBits"), (0, u "J"), (2, u "negativeZeroDoubleBits"), (21, u "max"), (2, u "min"), (43, u "$assertionsDisabled"), (0, u "Z"), (88, u "(II)I"), (2, u "twoToTheDoubleScaleDown"), (0, u "D"), (4, u "twoToTheDoubleScaleUp"), (9, u "E"), (3, u "PI"), (2, u "TAU"), (2, u "DEGREES_TO_RADIANS"), (0, u "RADIANS_TO_DEGREES")] 94

def k3m0 : Method := { name := "<init>", desc := "()V", sig := { parameters := [], returnType := none }, accessFlags := 2, code := none }
def k3c1 : Code := { maxStack := 2, maxLocals := 2, code := jdk_29_method_65_code, exceptionTable := #[], attributes := #[] }
def k3m1 : Method := { name := "max", desc := "(II)I", sig := { parameters := [.int, .int], returnType := some .int }, accessFlags := 9, code := some k3c1 }
def k3c2 : Code := { maxStack := 2, maxLocals := 2, code := jdk_29_method_69_code, exceptionTable := #[], attributes := #[] }
def k3m2 : Method := { name := "min", desc := "(II)I", sig := { parameters := [.int, .int], returnType := some .int }, accessFlags := 9, code := some k3c2 }
/-- java/lang/Math -/
def k3 : Class := { plain "java/lang/Math" (some 0) with
  accessFlags := 49
  interfaces := #[]
  cf := some (fileOf pool3 1 #[.nestMembers #[98]] #[{ accessFlags := 2, nameIndex := 7, descriptorIndex := 8, attributes := #[] }, { accessFlags := 9, nameIndex := 198, descriptorIndex := 335, attributes := #[] }, { accessFlags := 9, nameIndex := 201, descriptorIndex := 335, attributes := #[] }] 49 4 #[] #[{ accessFlags := 25, nameIndex := 354, descriptorIndex := 339, attributes := #[] }, { accessFlags := 25, nameIndex := 358, descriptorIndex := 339, attributes := #[] }, { accessFlags := 25, nameIndex := 361, descriptorIndex := 339, attributes := #[] }, { accessFlags := 26, nameIndex := 364, descriptorIndex := 339, attributes := #[] }, { accessFlags := 26, nameIndex := 365, descriptorIndex := 339, attributes := #[] }, { accessFlags := 26, nameIndex := 172, descriptorIndex := 173, attributes := #[] }, { accessFlags := 26, nameIndex := 176, descriptorIndex := 173, attributes := #[] }, { accessFlags := 8, nameIndex := 344, descriptorIndex := 339, attributes := #[] }, { accessFlags := 8, nameIndex := 338, descriptorIndex := 339, attributes := #[] }, { accessFlags := 4120, nameIndex := 245, descriptorIndex := 246, attributes := #[] }])
  fields := #[{ name := "E", type := .double, accessFlags := 25, slot := 0, constantValue := 0 }, { name := "PI", type := .double, accessFlags := 25, slot := 1, constantValue := 0 }, { name := "TAU", type := .double, accessFlags := 25, slot := 2, constantValue := 0 }, { name := "DEGREES_TO_RADIANS", type := .double, accessFlags := 26, slot := 3, constantValue := 0 }, { name := "RADIANS_TO_DEGREES", type := .double, accessFlags := 26, slot := 4, constantValue := 0 }, { name := "negativeZeroFloatBits", type := .long, accessFlags := 26, slot := 5, constantValue := 0 }, { name := "negativeZeroDoubleBits", type := .long, accessFlags := 26, slot := 6, constantValue := 0 }, { name := "twoToTheDoubleScaleUp", type := .double, accessFlags := 8, slot := 7, constantValue := 0 }, { name := "twoToTheDoubleScaleDown", type := .double, accessFlags := 8, slot := 8, constantValue := 0 }, { name := "$assertionsDisabled", type := .boolean, accessFlags := 4120, slot := 9, constantValue := 0 }]
  methods := #[k3m0, k3m1, k3m2]
  instanceTypes := #[]
  staticTypes := #[.double, .double, .double, .double, .double, .long, .long, .double, .double, .boolean]
  resolved := Array.replicate 460 none
  statics := none }

def pool4 : Array CpInfo := pool [(2, .class_ 4), (1, u "java/lang/Object"), (0, u "<init>"), (0, u "()V"), (5, u "([IIII)V"), (0, .methodref 14 15), (0, .class_ 16), (0, .nameAndType 17 18), (0, u "java/util/Arrays"), (0, u "rangeCheck"), (0, u "(III)V"), (55, .class_ 76), (1, u "java/util/Arrays$NaturalOrder"), (36, .class_ 115), (1, u "java/util/Arrays$LegacyMergeSort"), (1, u "Z"), (32, .methodref 151 152), (0, .class_ 153), (0, .nameAndType 154 155), (0, u "java/lang/System"), (0, u "arraycopy"), (0, u "(Ljava/lang/Object;ILjava/lang/Object;II)V"), (146, u "copyOf"), (1, .methodref 305 306), (0, .class_ 307), (0, .nameAndType 308 309), (0, u "java/lang/Math"), (0, u "min"), (0, u "(II)I"), (65, .class_ 376), (0, u "java/util/Arrays$ArrayList"), (68, u "$assertionsDisabled"), (269, u "MIN_ARRAY_SORT_GRAN"), (0, u "I"), (2, u "INSERTIONSORT_THRESHOLD"), (120, u "fill"), (30, u "([II)[I"), (103, .class_ 976), (0, u "java/util/Arrays$ArrayItr")] 52

def k4m0 : Method := { name := "<init>", desc := "()V", sig := { parameters := [], returnType := none }, accessFlags := 2, code := none }
def k4c1 : Code := { maxStack := 4, maxLocals := 3, code := jdk_65_method_30_code, exceptionTable := #[], attributes := #[] }
def k4m1 : Method := { name := "rangeCheck", desc := "(III)V", sig := { parameters := [.int, .int, .int], returnType := none }, accessFlags := 8, code := some k4c1 }
def k4c2 : Code := { maxStack := 3, maxLocals := 5, code := jdk_65_method_104_code, exceptionTable := #[], attributes := #[] }
def k4m2 : Method := { name := "fill", desc := "([IIII)V", sig := { parameters := [(.array .int), .int, .int, .int], returnType := none }, accessFlags := 9, code := some k4c2 }
def k4c3 : Code := { maxStack := 6, maxLocals := 3, code := jdk_65_method_123_code, exceptionTable := #[], attributes := #[] }
def k4m3 : Method := { name := "copyOf", desc := "([II)[I", sig := { parameters := [(.array .int), .int], returnType := some (.array .int) }, accessFlags := 9, code := some k4c3 }
/-- java/util/Arrays -/
def k4 : Class := { plain "java/util/Arrays" (some 0) with
  accessFlags := 49
  interfaces := #[]
  cf := some (fileOf pool4 14 #[.nestMembers #[975, 375, 113, 74]] #[{ accessFlags := 2, nameIndex := 5, descriptorIndex := 6, attributes := #[] }, { accessFlags := 8, nameIndex := 17, descriptorIndex := 18, attributes := #[] }, { accessFlags := 9, nameIndex := 840, descriptorIndex := 12, attributes := #[] }, { accessFlags := 9, nameIndex := 302, descriptorIndex := 871, attributes := #[] }] 49 2 #[] #[{ accessFlags := 26, nameIndex := 715, descriptorIndex := 716, attributes := #[] }, { accessFlags := 26, nameIndex := 719, descriptorIndex := 716, attributes := #[] }, { accessFlags := 4120, nameIndex := 445, descriptorIndex := 117, attributes := #[] }])
  fields := #[{ name := "MIN_ARRAY_SORT_GRAN", type := .int, accessFlags := 26, slot := 0, constantValue := 0 }, { name := "INSERTIONSORT_THRESHOLD", type := .int, accessFlags := 26, slot := 1, constantValue := 0 }, { name := "$assertionsDisabled", type := .boolean, accessFlags := 4120, slot := 2, constantValue := 0 }]
  methods := #[k4m0, k4m1, k4m2, k4m3]
  instanceTypes := #[]
  staticTypes := #[.int, .int, .boolean]
  resolved := Array.replicate 1029 none
  statics := none }

def pool5 : Array CpInfo := pool [(2, .class_ 4), (1, u "java/lang/Object"), (0, u "<init>"), (0, u "()V"), (1, .class_ 10), (1, u "java/lang/System"), (0, u "allowSecurityManager"), (0, u "I"), (16, u "cons"), (0, u "Ljava/io/Console;"), (77, .class_ 110), (1, u "java/lang/System$CallersHolder"), (43, u "initialErrStream"), (0, u "Ljava/io/PrintStream;"), (19, u "security"), (0, u "Ljava/lang/SecurityManager;"), (31, .class_ 209), (0, u "java/lang/System$1"), (7, u "props"), (0, u "Ljava/util/Properties;"), (2, u "lineSeparator"), (0, u "Ljava/lang/String;"), (96, .class_ 321), (1, u "java/lang/System$LoggerFinder"), (5, .class_ 328), (0, u "java/lang/System$Logger"), (67, u "err"), (2, u "out"), (91, u "notSupportedJnuEncoding"), (15, u "in"), (17, u "initialIn"), (0, u "Ljava/io/InputStream;"), (35, u "bootLayer"), (0, u "Ljava/lang/ModuleLayer;"), (99, .class_ 664), (0, u "java/lang/System$2"), (9, u "NEVER"), (2, u "MAYBE"), (49, u "arraycopy"), (0, u "(Ljava/lang/Object;ILjava/lang/Object;II)V"), (72, .class_ 802), (0, u "java/lang/System$Logger$Level")] 31

def k5m0 : Method := { name := "<init>", desc := "()V", sig := { parameters := [], returnType := none }, accessFlags := 2, code := none }
def k5m1 : Method := { name := "arraycopy", desc := "(Ljava/lang/Object;ILjava/lang/Object;II)V", sig := { parameters := [(.object "java/lang/Object"), .int, (.object "java/lang/Object"), .int, .int], returnType := none }, accessFlags := 265, code := none }
/-- java/lang/System -/
def k5 : Class := { plain "java/lang/System" (some 0) with
  accessFlags := 49
  interfaces := #[]
  cf := some (fileOf pool5 8 #[.nestMembers #[319, 327, 801, 108, 663, 208]] #[{ accessFlags := 2, nameIndex := 5, descriptorIndex := 6, attributes := #[] }, { accessFlags := 265, nameIndex := 727, descriptorIndex := 728, attributes := #[] }] 49 2 #[] #[{ accessFlags := 25, nameIndex := 507, descriptorIndex := 526, attributes := #[] }, { accessFlags := 25, nameIndex := 399, descriptorIndex := 155, attributes := #[] }, { accessFlags := 25, nameIndex := 396, descriptorIndex := 155, attributes := #[] }, { accessFlags := 10, nameIndex := 525, descriptorIndex := 526, attributes := #[] }, { accessFlags := 26, nameIndex := 674, descriptorIndex := 12, attributes := #[] }, { accessFlags := 26, nameIndex := 677, descriptorIndex := 12, attributes := #[] }, { accessFlags := 10, nameIndex := 11, descriptorIndex := 12, attributes := #[] }, { accessFlags := 74, nameIndex := 175, descriptorIndex := 176, attributes := #[] }, { accessFlags := 10, nameIndex := 491, descriptorIndex := 222, attributes := #[] }, { accessFlags := 74, nameIndex := 29, descriptorIndex := 30, attributes := #[] }, { accessFlags := 74, nameIndex := 154, descriptorIndex := 155, attributes := #[] }, { accessFlags := 10, nameIndex := 217, descriptorIndex := 218, attributes := #[] }, { accessFlags := 10, nameIndex := 221, descriptorIndex := 222, attributes := #[] }, { accessFlags := 8, nameIndex := 562, descriptorIndex := 563, attributes := #[] }])
  fields := #[{ name := "in", type := (.object "java/io/InputStream"), accessFlags := 25, slot := 0, constantValue := 0 }, { name := "out", type := (.object "java/io/PrintStream"), accessFlags := 25, slot := 1, constantValue := 0 }, { name := "err", type := (.object "java/io/PrintStream"), accessFlags := 25, slot := 2, constantValue := 0 }, { name := "initialIn", type := (.object "java/io/InputStream"), accessFlags := 10, slot := 3, constantValue := 0 }, { name := "NEVER", type := .int, accessFlags := 26, slot := 4, constantValue := 0 }, { name := "MAYBE", type := .int, accessFlags := 26, slot := 5, constantValue := 0 }, { name := "allowSecurityManager", type := .int, accessFlags := 10, slot := 6, constantValue := 0 }, { name := "security", type := (.object "java/lang/SecurityManager"), accessFlags := 74, slot := 7, constantValue := 0 }, { name := "notSupportedJnuEncoding", type := (.object "java/lang/String"), accessFlags := 10, slot := 8, constantValue := 0 }, { name := "cons", type := (.object "java/io/Console"), accessFlags := 74, slot := 9, constantValue := 0 }, { name := "initialErrStream", type := (.object "java/io/PrintStream"), accessFlags := 74, slot := 10, constantValue := 0 }, { name := "props", type := (.object "java/util/Properties"), accessFlags := 10, slot := 11, constantValue := 0 }, { name := "lineSeparator", type := (.object "java/lang/String"), accessFlags := 10, slot := 12, constantValue := 0 }, { name := "bootLayer", type := (.object "java/lang/ModuleLayer"), accessFlags := 8, slot := 13, constantValue := 0 }]
  methods := #[k5m0, k5m1]
  instanceTypes := #[]
  staticTypes := #[(.object "java/io/InputStream"), (.object "java/io/PrintStream"), (.object "java/io/PrintStream"), (.object "java/io/InputStream"), .int, .int, .int, (.object "java/lang/SecurityManager"), (.object "java/lang/String"), (.object "java/io/Console"), (.object "java/io/PrintStream"), (.object "java/util/Properties"), (.object "java/lang/String"), (.object "java/lang/ModuleLayer")]
  resolved := Array.replicate 834 none
  statics := none }

def pool6 : Array CpInfo := pool [(1, u "java/lang/Cloneable"), (0, .class_ 1), (0, u "java/lang/Object"), (0, .class_ 3)] 3

/-- java/lang/Cloneable -/
def k6 : Class := { plain "java/lang/Cloneable" (some 0) with
  accessFlags := 1537
  interfaces := #[]
  cf := some (fileOf pool6 2 #[] #[] 1537 4 #[] #[])
  fields := #[]
  methods := #[]
  instanceTypes := #[]
  staticTypes := #[]
  resolved := Array.replicate 8 none
  statics := none }

def pool7 : Array CpInfo := pool [(1, u "java/io/Serializable"), (0, .class_ 1), (0, u "java/lang/Object"), (0, .class_ 3)] 3

/-- java/io/Serializable -/
def k7 : Class := { plain "java/io/Serializable" (some 0) with
  accessFlags := 1537
  interfaces := #[]
  cf := some (fileOf pool7 2 #[] #[] 1537 4 #[] #[])
  fields := #[]
  methods := #[]
  instanceTypes := #[]
  staticTypes := #[]
  resolved := Array.replicate 8 none
  statics := none }

/-- the primitive byte -/
def k8 : Class := { plain "byte" none with kind := .primitive 'B', accessFlags := 0x411 }
/-- [B -/
def k9 : Class := { plain "[B" (some 0) with kind := .array 8 .byte, interfaces := #[6, 7], accessFlags := 1041 }

/-- the primitive int -/
def k10 : Class := { plain "int" none with kind := .primitive 'I', accessFlags := 0x411 }
/-- [I -/
def k11 : Class := { plain "[I" (some 0) with kind := .array 10 .int, interfaces := #[6, 7], accessFlags := 1041 }

def heap : Heap := #[]
def classes : Array Class := #[k0, k1, k2, k3, k4, k5, k6, k7, k8, k9, k10, k11]
def interned : List (Array UInt16 × Addr) := []
def slotsUsed : Nat := 0
def theMethod : MethodId := ⟨1, 3⟩
def args0 : Array Value := #[.int 3, .int 5, .int 6, .int 7, .int 8, .int 1]
def aboutOver (below : List Frame) : State where
  vm := { classes := classes, interned := interned.toArray }
  heap := heap
  slotsUsed := slotsUsed
  threads := #[{ frames := .invoking theMethod args0 :: below }]
def below0 : List Frame := [.native { method := ⟨0, 0⟩, args := #[] }]
def about1 : State := aboutOver below0
def p0 : Program := .bare "" "" ""
def e0 : Env := launch0.env 0 0 0
theorem w_frames : about1.frames = Frame.invoking theMethod args0 :: below0 := rfl
set_option maxRecDepth 65536 in
theorem w_args : argsFit about1.vm theMethod args0 = true := by decide +kernel
set_option maxRecDepth 65536 in
theorem w_heap : heapFits about1 = true := by decide +kernel
set_option maxRecDepth 65536 in
theorem w_runnable : about1.curStatus? = some .runnable := by decide +kernel
set_option maxRecDepth 65536 in
theorem w_alone : about1.alone = true := by decide +kernel
set_option maxRecDepth 65536 in
theorem w_named : about1.methodNamed? x = some theMethod := by decide +kernel
set_option maxRecDepth 65536 in
theorem w_hears : about1.hears theMethod below0 = true := by decide +kernel
set_option maxRecDepth 65536 in
theorem w_ripe : about1.ripe theMethod args0 below0 = true := by decide +kernel
theorem w_running : about1.status = .running := rfl
set_option maxRecDepth 65536 in
theorem w_room : about1.hasRoom e0.platform room_1 = true :=
  launch0.hasRoom_least _ room_1 (by decide +kernel) (by decide +kernel) (by decide +kernel) (by decide +kernel) (by decide +kernel) (by decide +kernel)
theorem allAtoms_all (ts : List Jvm.Cond) (a : Array Jvm.Value) (st : Jvm.State) : (allAtoms ts).before a st = ts.all (fun c => c.before a st) := by
  induction ts with
  | nil => rfl
  | cons c t ih =>
    show (Jvm.Cond.and c (allAtoms t)).before a st = _
    rw [Jvm.Cond.before_and, ih, List.all_cons]
def words1 : List Jvm.Cond := Jvm.Cond.code x code maxLocals ret :: tables_1
/-- a 'code' word, met by the world's own term for the bytes: nothing is compared byte by byte -/
theorem code_word {y : MethodName} {bytes : ByteArray} {mx : Nat} {rt : Option FieldType} {a : Array Value} {s : State} {m : MethodId} {meth : Method} {c : Code} (h1 : s.methodNamed? y = some m) (h2 : s.vm.method? m = some meth) (h3 : meth.code = some c) (h4 : c.code = bytes)
    (h5 : (c.maxLocals == mx && c.exceptionTable.isEmpty && decide (c.maxStack ≤ mostOperands) && decide (meth.sig.returnType = rt) && !meth.locks && decide (parseMethodDescriptor y.desc = some meth.sig)) = true) : (Jvm.Cond.code y bytes mx rt).before a s = true := by
  simp only [Bool.and_eq_true, beq_iff_eq, Bool.not_eq_true', decide_eq_true_eq] at h5
  obtain ⟨⟨⟨⟨⟨g1, g2⟩, g3⟩, g4⟩, g5⟩, g6⟩ := h5
  simp [Cond.before, Cond.holds, Cond.value, h1, h2, h3, h4, g1, g2, g3, g4, g5, g6]
def isCode : Jvm.Cond → Bool
  | .code _ _ _ _ => true
  | _ => false
theorem all_split {L : List Jvm.Cond} {P : Jvm.Cond → Bool} (h1 : L.all (fun c => isCode c || P c) = true) (h2 : ∀ c ∈ L.filter isCode, P c = true) : L.all P = true := by
  refine List.all_eq_true.mpr fun c hc => ?_
  have h := List.all_eq_true.mp h1 c hc
  rcases Bool.eq_false_or_eq_true (isCode c) with hi | hi
  · exact h2 c (List.mem_filter.mpr ⟨hc, hi⟩)
  · simpa [hi] using h
set_option maxRecDepth 65536 in
theorem w_c0 : (Jvm.Cond.code x code maxLocals ret).before args0 about1 = true := code_word (m := ⟨1, 3⟩) (meth := k1m3) (c := k1c3) (by decide +kernel) rfl rfl rfl (by decide +kernel)
set_option maxRecDepth 65536 in
theorem w_c1 : (Jvm.Cond.code ({ cls := "com/example/edge_keeper/edgekeeper/Nesting", name := "<init>", desc := "()V" } : Jvm.MethodName) prog_11_method_1_code (1 : Nat) (Option.none : Option Jvm.ClassFile.FieldType)).before args0 about1 = true := code_word (m := ⟨2, 0⟩) (meth := k2m0) (c := k2c0) (by decide +kernel) rfl rfl rfl (by decide +kernel)
set_option maxRecDepth 65536 in
theorem w_c2 : (Jvm.Cond.code ({ cls := "java/lang/Object", name := "<init>", desc := "()V" } : Jvm.MethodName) object_method_1_code (1 : Nat) (Option.none : Option Jvm.ClassFile.FieldType)).before args0 about1 = true := code_word (m := ⟨0, 0⟩) (meth := k0m0) (c := k0c0) (by decide +kernel) rfl rfl rfl (by decide +kernel)
set_option maxRecDepth 65536 in
theorem w_c3 : (Jvm.Cond.code ({ cls := "com/example/edge_keeper/edgekeeper/Nesting", name := "declare", desc := "(II)V" } : Jvm.MethodName) prog_11_method_2_code (3 : Nat) (Option.none : Option Jvm.ClassFile.FieldType)).before args0 about1 = true := code_word (m := ⟨2, 1⟩) (meth := k2m1) (c := k2c1) (by decide +kernel) rfl rfl rfl (by decide +kernel)
set_option maxRecDepth 65536 in
theorem w_c4 : (Jvm.Cond.code ({ cls := "com/example/edge_keeper/edgekeeper/Nesting", name := "room", desc := "([II)[I" } : Jvm.MethodName) prog_11_method_4_code (3 : Nat) (Option.some (Jvm.ClassFile.FieldType.array Jvm.ClassFile.FieldType.int))).before args0 about1 = true := code_word (m := ⟨2, 3⟩) (meth := k2m3) (c := k2c3) (by decide +kernel) rfl rfl rfl (by decide +kernel)
set_option maxRecDepth 65536 in
theorem w_c5 : (Jvm.Cond.code ({ cls := "java/lang/Math", name := "max", desc := "(II)I" } : Jvm.MethodName) jdk_29_method_65_code (2 : Nat) (Option.some Jvm.ClassFile.FieldType.int)).before args0 about1 = true := code_word (m := ⟨3, 1⟩) (meth := k3m1) (c := k3c1) (by decide +kernel) rfl rfl rfl (by decide +kernel)
set_option maxRecDepth 65536 in
theorem w_c6 : (Jvm.Cond.code ({ cls := "java/util/Arrays", name := "copyOf", desc := "([II)[I" } : Jvm.MethodName) jdk_65_method_123_code (3 : Nat) (Option.some (Jvm.ClassFile.FieldType.array Jvm.ClassFile.FieldType.int))).before args0 about1 = true := code_word (m := ⟨4, 3⟩) (meth := k4m3) (c := k4c3) (by decide +kernel) rfl rfl rfl (by decide +kernel)
set_option maxRecDepth 65536 in
theorem w_c7 : (Jvm.Cond.code ({ cls := "java/lang/Math", name := "min", desc := "(II)I" } : Jvm.MethodName) jdk_29_method_69_code (2 : Nat) (Option.some Jvm.ClassFile.FieldType.int)).before args0 about1 = true := code_word (m := ⟨3, 2⟩) (meth := k3m2) (c := k3c2) (by decide +kernel) rfl rfl rfl (by decide +kernel)
set_option maxRecDepth 65536 in
theorem w_c8 : (Jvm.Cond.code ({ cls := "java/util/Arrays", name := "fill", desc := "([IIII)V" } : Jvm.MethodName) jdk_65_method_104_code (5 : Nat) (Option.none : Option Jvm.ClassFile.FieldType)).before args0 about1 = true := code_word (m := ⟨4, 2⟩) (meth := k4m2) (c := k4c2) (by decide +kernel) rfl rfl rfl (by decide +kernel)
set_option maxRecDepth 65536 in
theorem w_c9 : (Jvm.Cond.code ({ cls := "java/util/Arrays", name := "rangeCheck", desc := "(III)V" } : Jvm.MethodName) jdk_65_method_30_code (3 : Nat) (Option.none : Option Jvm.ClassFile.FieldType)).before args0 about1 = true := code_word (m := ⟨4, 1⟩) (meth := k4m1) (c := k4c1) (by decide +kernel) rfl rfl rfl (by decide +kernel)
set_option maxRecDepth 65536 in
theorem w_c10 : (Jvm.Cond.code ({ cls := "com/example/edge_keeper/edgekeeper/Nesting", name := "learn", desc := "(II)V" } : Jvm.MethodName) prog_11_method_3_code (3 : Nat) (Option.none : Option Jvm.ClassFile.FieldType)).before args0 about1 = true := code_word (m := ⟨2, 2⟩) (meth := k2m2) (c := k2c2) (by decide +kernel) rfl rfl rfl (by decide +kernel)
set_option maxRecDepth 65536 in
theorem w_c11 : (Jvm.Cond.code ({ cls := "com/example/edge_keeper/edgekeeper/Nesting", name := "outermost", desc := "(I)I" } : Jvm.MethodName) prog_11_method_6_code (6 : Nat) (Option.some Jvm.ClassFile.FieldType.int)).before args0 about1 = true := code_word (m := ⟨2, 5⟩) (meth := k2m5) (c := k2c5) (by decide +kernel) rfl rfl rfl (by decide +kernel)
set_option maxRecDepth 65536 in
theorem w_c12 : (Jvm.Cond.code ({ cls := "com/example/edge_keeper/edgekeeper/Nesting", name := "enclosing", desc := "(I)I" } : Jvm.MethodName) prog_11_method_5_code (3 : Nat) (Option.some Jvm.ClassFile.FieldType.int)).before args0 about1 = true := code_word (m := ⟨2, 4⟩) (meth := k2m4) (c := k2c4) (by decide +kernel) rfl rfl rfl (by decide +kernel)
set_option maxRecDepth 65536 in
theorem w_c13 : (Jvm.Cond.code ({ cls := "com/example/edge_keeper/edgekeeper/NestingLearnPinLaw", name := "ref", desc := "(IIIIIZ)I" } : Jvm.MethodName) method_3_code (11 : Nat) (Option.some Jvm.ClassFile.FieldType.int)).before args0 about1 = true := code_word (m := ⟨1, 2⟩) (meth := k1m2) (c := k1c2) (by decide +kernel) rfl rfl rfl (by decide +kernel)
set_option maxRecDepth 65536 in
theorem w_c14 : (Jvm.Cond.code ({ cls := "com/example/edge_keeper/edgekeeper/NestingLearnPinLaw", name := "enc", desc := "(IIIIIZ)I" } : Jvm.MethodName) method_2_code (6 : Nat) (Option.some Jvm.ClassFile.FieldType.int)).before args0 about1 = true := code_word (m := ⟨1, 1⟩) (meth := k1m1) (c := k1c1) (by decide +kernel) rfl rfl rfl (by decide +kernel)
def codes1 : List Jvm.Cond := [Jvm.Cond.code x code maxLocals ret, Jvm.Cond.code ({ cls := "com/example/edge_keeper/edgekeeper/Nesting", name := "<init>", desc := "()V" } : Jvm.MethodName) prog_11_method_1_code (1 : Nat) (Option.none : Option Jvm.ClassFile.FieldType), Jvm.Cond.code ({ cls := "java/lang/Object", name := "<init>", desc := "()V" } : Jvm.MethodName) object_method_1_code (1 : Nat) (Option.none : Option Jvm.ClassFile.FieldType), Jvm.Cond.code ({ cls := "com/example/edge_keeper/edgekeeper/Nesting", name := "declare", desc := "(II)V" } : Jvm.MethodName) prog_11_method_2_code (3 : Nat) (Option.none : Option Jvm.ClassFile.FieldType), Jvm.Cond.code ({ cls := "com/example/edge_keeper/edgekeeper/Nesting", name := "room", desc := "([II)[I" } : Jvm.MethodName) prog_11_method_4_code (3 : Nat) (Option.some (Jvm.ClassFile.FieldType.array Jvm.ClassFile.FieldType.int)), Jvm.Cond.code ({ cls := "java/lang/Math", name := "max", desc := "(II)I" } : Jvm.MethodName) jdk_29_method_65_code (2 : Nat) (Option.some Jvm.ClassFile.FieldType.int), Jvm.Cond.code ({ cls := "java/util/Arrays", name := "copyOf", desc := "([II)[I" } : Jvm.MethodName) jdk_65_method_123_code (3 : Nat) (Option.some (Jvm.ClassFile.FieldType.array Jvm.ClassFile.FieldType.int)), Jvm.Cond.code ({ cls := "java/lang/Math", name := "min", desc := "(II)I" } : Jvm.MethodName) jdk_29_method_69_code (2 : Nat) (Option.some Jvm.ClassFile.FieldType.int), Jvm.Cond.code ({ cls := "java/util/Arrays", name := "fill", desc := "([IIII)V" } : Jvm.MethodName) jdk_65_method_104_code (5 : Nat) (Option.none : Option Jvm.ClassFile.FieldType), Jvm.Cond.code ({ cls := "java/util/Arrays", name := "rangeCheck", desc := "(III)V" } : Jvm.MethodName) jdk_65_method_30_code (3 : Nat) (Option.none : Option Jvm.ClassFile.FieldType), Jvm.Cond.code ({ cls := "com/example/edge_keeper/edgekeeper/Nesting", name := "learn", desc := "(II)V" } : Jvm.MethodName) prog_11_method_3_code (3 : Nat) (Option.none : Option Jvm.ClassFile.FieldType), Jvm.Cond.code ({ cls := "com/example/edge_keeper/edgekeeper/Nesting", name := "outermost", desc := "(I)I" } : Jvm.MethodName) prog_11_method_6_code (6 : Nat) (Option.some Jvm.ClassFile.FieldType.int), Jvm.Cond.code ({ cls := "com/example/edge_keeper/edgekeeper/Nesting", name := "enclosing", desc := "(I)I" } : Jvm.MethodName) prog_11_method_5_code (3 : Nat) (Option.some Jvm.ClassFile.FieldType.int), Jvm.Cond.code ({ cls := "com/example/edge_keeper/edgekeeper/NestingLearnPinLaw", name := "ref", desc := "(IIIIIZ)I" } : Jvm.MethodName) method_3_code (11 : Nat) (Option.some Jvm.ClassFile.FieldType.int), Jvm.Cond.code ({ cls := "com/example/edge_keeper/edgekeeper/NestingLearnPinLaw", name := "enc", desc := "(IIIIIZ)I" } : Jvm.MethodName) method_2_code (6 : Nat) (Option.some Jvm.ClassFile.FieldType.int)]
set_option maxRecDepth 65536 in
theorem codes_eq : words1.filter isCode = codes1 := rfl
theorem w_codes : ∀ c ∈ words1.filter isCode, c.before args0 about1 = true := by
  rw [codes_eq]
  intro c hc
  simp only [codes1, List.mem_cons, List.not_mem_nil, or_false] at hc
  rcases hc with rfl | rfl | rfl | rfl | rfl | rfl | rfl | rfl | rfl | rfl | rfl | rfl | rfl | rfl | rfl
  · exact w_c0
  · exact w_c1
  · exact w_c2
  · exact w_c3
  · exact w_c4
  · exact w_c5
  · exact w_c6
  · exact w_c7
  · exact w_c8
  · exact w_c9
  · exact w_c10
  · exact w_c11
  · exact w_c12
  · exact w_c13
  · exact w_c14
set_option maxRecDepth 65536 in
theorem w_t1 : (words1.take 24).all (fun c => isCode c || c.before args0 about1) = true := by decide +kernel
set_option maxRecDepth 65536 in
theorem w_t2 : ((words1.drop 24).take 24).all (fun c => isCode c || c.before args0 about1) = true := by decide +kernel
set_option maxRecDepth 65536 in
theorem w_t3 : ((words1.drop 24).drop 24).all (fun c => isCode c || c.before args0 about1) = true := by decide +kernel
theorem w_tables : (allAtoms (Jvm.Cond.code x code maxLocals ret :: tables_1)).before args0 about1 = true := by
  rw [allAtoms_all]
  show words1.all (fun c => c.before args0 about1) = true
  refine all_split ?_ w_codes
  rw [← List.take_append_drop 24 words1, List.all_append, w_t1, ← List.take_append_drop 24 (words1.drop 24), List.all_append, w_t2, w_t3]
  rfl
set_option maxRecDepth 65536 in
theorem w_case : (Jvm.Cond.and given_1 narrow_1).before args0 about1 = true := by decide +kernel
theorem w_applies : (headSpec (Jvm.Cond.code x code maxLocals ret :: tables_1) room_1).applies x e0.platform about1 = true :=
  (Spec.applies_iff w_frames).mpr ⟨w_running, w_runnable, w_alone, w_named, w_hears, w_ripe, w_room, w_tables⟩
theorem atStart : AtStart classFile x code maxLocals ret World_1 tables_1 room_1 Calls_1 rest_1 Pre_1 launch0 p0 e0 about1 theMethod args0 below0 :=
  ⟨lists_1, trivial, launch0.admits_env _ _ _, launch0.least_env, fairChoices_fair.cas, fairChoices_fair.clock, w_frames, w_args, w_heap, w_applies, trivial, trivial, w_case⟩
end start1
theorem witness_1 : WitnessClaimed_1 := ⟨start1.p0, start1.e0, start1.about1, start1.theMethod, start1.args0, start1.below0, start1.atStart⟩
end Jvm.Pilot.@@N@@
