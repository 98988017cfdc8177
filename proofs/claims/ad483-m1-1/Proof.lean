import JvmDerived
import JvmDerived.Pilot.@@N@@Statement
import JvmDerived.Pilot.@@N@@Code
set_option linter.unusedVariables false
set_option linter.unusedSimpArgs false
@@BLOCK:NumsL.lean.txt@@
namespace Jvm.RoadKit
open Sem ClassFile Op Lib Jvm.Stand Jvm.Free Jvm.LawKit
section New
variable {p : Program} {l : Launch} {e : Env} {R : Room} {s : State} {m : MethodId} {args : Array Value} {below : List Frame} {meth : Method} {c : Code} {T : State} {locs : List Loc} {cells slots : Nat}
theorem retI (X : Stand p l e R s m args below meth c T locs cells slots) (hx : p.tables.exec = Jvm.exec) {pc : Nat} {Ls : Array Slot} {z : Int32} {rest : List Value} (hret : meth.sig.returnType = some .int) (hd : decode c.code pc = .ok (.ireturn, 1)) {fs : List Frame}
    (hl : ∀ (f : JFrame) (acts : List Action), f.method = m → f.locked = none → f.entered = [] → (doReturn e (T.setTop f) acts (some (.int z))).1 = T.setFrames fs) : Steps p.tables e below (T.setTop (mkF m pc Ls (.int z :: rest))) (T.setFrames fs) := by
  have hm' : T.vm.method? m = some meth := X.method'
  have hn : narrow .int (.int z) = .int z := rfl
  show Steps p.tables e below (T.setTop { method := m, pc := pc, locals := Ls, stack := _ :: rest, locked := none }) _
  jvm_step X.here [X.here.top, hx, hd, hm', hret, hn]
  first | (intro acts; rw [hl _ acts rfl rfl rfl]) | rw [hl _ _ rfl rfl rfl]
  exact Steps.refl _
end New
end Jvm.RoadKit
namespace Jvm.Pilot.@@N@@
open Jvm Jvm.ClassFile Sem Op Lib Jvm.Free Jvm.Stand Jvm.LawKit Jvm.RoadKit Bundle Jvm.Pilot.@@N@@.Jvm.D

theorem own_nn (p : Int32) : 0 ≤ (p &&& (2147483647 : Int32)).toInt := by
  rw [Jvm.Kit.i32_mask p 2147483647 (k := 31) (by decide) (by decide)]; omega
theorem own_n {p n : Int32} (h : n = (((p &&& (2147483647 : Int32)) % (3 : Int32)) + (1 : Int32))) : n = 1 ∨ n = 2 ∨ n = 3 := by
  have h0 := own_nn p
  have o : (1 : Int32).toInt = 1 := rfl
  have e : ((p &&& (2147483647 : Int32)) % (3 : Int32)).toInt = (p &&& (2147483647 : Int32)).toInt % 3 := Jvm.Kit.i32_rem_nonneg h0
  have e2 : n.toInt = (p &&& (2147483647 : Int32)).toInt % 3 + 1 := by rw [h, Jvm.Kit.i32_add (by rw [e, o]; omega) (by rw [e, o]; omega), e, o]
  have q : n.toInt = 1 ∨ n.toInt = 2 ∨ n.toInt = 3 := by omega
  rcases q with q | q | q
  · exact Or.inl (Int32.toInt_inj.mp q)
  · exact Or.inr (Or.inl (Int32.toInt_inj.mp q))
  · exact Or.inr (Or.inr (Int32.toInt_inj.mp q))
theorem own_nz {n : Int32} (h : n = 1 ∨ n = 2 ∨ n = 3) : n ≠ 0 := by rcases h with rfl | rfl | rfl <;> decide
theorem own_cases {n k p : Int32} (h : n = 1 ∨ n = 2 ∨ n = 3) (hk : k = ((p &&& (2147483647 : Int32)) % n)) : (n = 1 ∧ k = 0) ∨ (n = 2 ∧ k = 0) ∨ (n = 2 ∧ k = 1) ∨ (n = 3 ∧ k = 0) ∨ (n = 3 ∧ k = 1) ∨ (n = 3 ∧ k = 2) := by
  have h0 := own_nn p
  have e : k.toInt = (p &&& (2147483647 : Int32)).toInt % n.toInt := by rw [hk]; exact Jvm.Kit.i32_rem_nonneg h0
  have i0 : k.toInt = 0 → k = 0 := fun q => Int32.toInt_inj.mp q
  have i1 : k.toInt = 1 → k = 1 := fun q => Int32.toInt_inj.mp q
  have i2 : k.toInt = 2 → k = 2 := fun q => Int32.toInt_inj.mp q
  rcases h with rfl | rfl | rfl
  · have o : (1 : Int32).toInt = 1 := rfl
    rw [o] at e
    exact Or.inl ⟨rfl, i0 (by omega)⟩
  · have o : (2 : Int32).toInt = 2 := rfl
    rw [o] at e
    have q : k.toInt = 0 ∨ k.toInt = 1 := by omega
    rcases q with q | q
    · exact Or.inr (Or.inl ⟨rfl, i0 q⟩)
    · exact Or.inr (Or.inr (Or.inl ⟨rfl, i1 q⟩))
  · have o : (3 : Int32).toInt = 3 := rfl
    rw [o] at e
    have q : k.toInt = 0 ∨ k.toInt = 1 ∨ k.toInt = 2 := by omega
    rcases q with q | q | q
    · exact Or.inr (Or.inr (Or.inr (Or.inl ⟨rfl, i0 q⟩)))
    · exact Or.inr (Or.inr (Or.inr (Or.inr (Or.inl ⟨rfl, i1 q⟩))))
    · exact Or.inr (Or.inr (Or.inr (Or.inr (Or.inr ⟨rfl, i2 q⟩))))
theorem nar_ref {v : Value} (h : v.isRef = true) {ty : FieldType} : narrow ty v = v := by rcases ref_cases h with rfl | ⟨a, rfl⟩ <;> cases ty <;> rfl
theorem fit_ref {v : Value} (h : v.isRef = true) {ty : FieldType} (ht : ty.isReference = true) : fits ty v = true := by rcases ref_cases h with rfl | ⟨a, rfl⟩ <;> cases ty <;> first | rfl | cases ht
theorem pn_5 : plainName "java/util/AbstractCollection" = true := by first | (simp [plainName, overriddenIn]; done) | decide +kernel
theorem ef_5 (m : MethodId) (o : Addr) : entryFrame m #[(.ref o)] 1 = mkF m 0 #[.val (.ref o)] [] := by first | (simp [entryFrame, mkF, argsToLocals, Value.category]; done) | rfl
def Q5 (Z : State) (o : Addr) (h0 : Heap) (n0 : Nat) (v : Option Value) (h : Heap) (L : List Loc) : Prop := v = none ∧ Fr n0 L ∧ h = h0
theorem d5_0 : decode jdk_22_method_1_code 0 = .ok (.aload_n 0, 1) := by decide +kernel
theorem d5_1 : decode jdk_22_method_1_code 1 = .ok (.invokespecial 1, 3) := by decide +kernel
theorem d5_4 : decode jdk_22_method_1_code 4 = .ok (.return_, 1) := by decide +kernel
set_option maxRecDepth 65536 in
set_option maxHeartbeats 40000000 in
theorem rm5 (l : Launch) (Z : State) (a0 : Array Value) (hw : ∀ d ∈ tables_1, d.before a0 Z = true) (ws : List Jvm.Cond) (o : Addr) (h0 : Heap) (n0 : Nat) (Z0 : n0 ≤ h0.size)  :
    MetFree l (⟨"java/util/AbstractCollection", "<init>", "()V"⟩ : MethodName) (head1 (Jvm.Cond.code (⟨"java/util/AbstractCollection", "<init>", "()V"⟩ : MethodName) jdk_22_method_1_code 1 none :: ws) ({ frames := 1, cells := 0, slots := 0, locals := 12 } : Room)) (fun a U => a = #[(.ref o)] ∧ Z.Warmed39 U.vm ∧ U.heap = h0) (fun _ _ _ _ _ => True) (fun _ U oU U' => ∃ v L, oU = .returned v ∧ Q5 Z o h0 n0 v U'.heap L ∧ FrameEnd U oU U' L ({ frames := 1, cells := 0, slots := 0, locals := 12 } : Room).cells ({ frames := 1, cells := 0, slots := 0, locals := 12 } : Room).slots) := by
  refine MetFree.of_bodySF (plainFor_of_name pn_5) hisR ?_
  intro p e s m args below meth c s₁ Bd hml0 hP hK
  obtain ⟨rfl, hZ, hh⟩ := hP
  have hx := Bd.exec
  have hby := Bd.bytes
  have hml : c.maxLocals = 1 := hml0
  have hown : s.vm.findClass "java/util/AbstractCollection" = some m.cls := findClass_of_methodNamed Bd.named
  have hnm := (name_of_methodNamed Bd.named Bd.method).1
  have X0 : Stand p l e ({ frames := 1, cells := 0, slots := 0, locals := 12 } : Room) s m #[(.ref o)] below meth c s₁ [] 0 0 := Stand.of_body Bd
  have e0 : s₁.heap = h0 := by rw [← hh, Bd.state]; rfl
  have N0 := Fr.nil n0
  have go0 : ∀ t, Steps p.tables e below (s₁.setTop (mkF m 0 #[.val (.ref o)] [])) t → Steps p.tables e below (s₁.setTop (entryFrame m #[(.ref o)] 1)) t := fun t k => castTop (ef_5 m o) k
  obtain ⟨T1, X1, e1, st1⟩ := initO X0 hx hZ hown (hw _ (List.mem_of_getElem? (i := 37) rfl)) (hw _ (List.mem_of_getElem? (i := 17) rfl)) (hw _ (List.mem_of_getElem? (i := 18) rfl)) e0 (g := (mkF m 1 #[.val (.ref o)] [(.ref o)])) rfl (by rw [hml]; rfl) rfl (hb hby d5_1) (by decide) (W := 0) (by show 2 * 0 + _ ≤ _; exact Nat.le_of_eq rfl) (by decide)
  obtain ⟨fs, hr, hrun, hended, hW, hsame⟩ := X1.leave (v := none) (fun _ => rfl)
  refine ⟨_, _, go0 _ ?_, hrun, hended, _, _, rfl, ?_, ⟨_, rfl⟩, hW, hsame.mono (by decide) (by decide)⟩
  · show Steps p.tables e below (s₁.setTop (mkF m 0 #[.val (.ref o)] [])) _
    refine XS.aloadN X0.here hx rfl (hb hby d5_0) rfl rfl ?_
    show Steps p.tables e below (s₁.setTop (mkF m 1 #[.val (.ref o)] [(.ref o)])) _
    refine st1 _ ?_
    show Steps p.tables e below (T1.setTop (mkF m 4 #[.val (.ref o)] [])) _
    exact X1.returnOut hx Bd.returns (hb hby d5_4) hr
  · show Q5 Z o h0 n0 _ T1.heap _
    rw [e1]
    exact ⟨rfl, N0, rfl⟩
theorem pn_4 : plainName "java/util/AbstractList" = true := by first | (simp [plainName, overriddenIn]; done) | decide +kernel
theorem ef_4 (m : MethodId) (o : Addr) : entryFrame m #[(.ref o)] 1 = mkF m 0 #[.val (.ref o)] [] := by first | (simp [entryFrame, mkF, argsToLocals, Value.category]; done) | rfl
def Q4 (Z : State) (o : Addr) (h0 : Heap) (n0 : Nat) (v : Option Value) (h : Heap) (L : List Loc) : Prop := v = none ∧ Fr n0 L ∧ Keep h0 h [o] ∧ Fld Z h o "java/util/AbstractList" "modCount" "I" (.int (0 : Int32)) ∧ Fld Z h o "java/util/ArrayList" "elementData" "[Ljava/lang/Object;" .null
theorem d4_0 : decode jdk_39_method_1_code 0 = .ok (.aload_n 0, 1) := by decide +kernel
theorem d4_1 : decode jdk_39_method_1_code 1 = .ok (.invokespecial 1, 3) := by decide +kernel
theorem pd_0 : parseMethodDescriptor "()V" = some ⟨[], none⟩ := by decide +kernel
theorem d4_4 : decode jdk_39_method_1_code 4 = .ok (.aload_n 0, 1) := by decide +kernel
theorem d4_5 : decode jdk_39_method_1_code 5 = .ok (.iconst 0, 1) := by decide +kernel
theorem d4_6 : decode jdk_39_method_1_code 6 = .ok (.putfield 7, 3) := by decide +kernel
theorem d4_9 : decode jdk_39_method_1_code 9 = .ok (.return_, 1) := by decide +kernel
set_option maxRecDepth 65536 in
set_option maxHeartbeats 40000000 in
theorem rm4 (l : Launch) (Z : State) (a0 : Array Value) (hw : ∀ d ∈ tables_1, d.before a0 Z = true) (ws : List Jvm.Cond) (o : Addr) (h0 : Heap) (n0 : Nat) (Z0 : n0 ≤ h0.size) (ge_o : n0 ≤ o) (E_o : Exa Z h0 o "java/util/ArrayList") (F_o_modCount : Fld Z h0 o "java/util/AbstractList" "modCount" "I" (.int (0 : Int32))) (F_o_elementData : Fld Z h0 o "java/util/ArrayList" "elementData" "[Ljava/lang/Object;" .null) :
    MetFree l (⟨"java/util/AbstractList", "<init>", "()V"⟩ : MethodName) (head1 (Jvm.Cond.code (⟨"java/util/AbstractList", "<init>", "()V"⟩ : MethodName) jdk_39_method_1_code 1 none :: ws) ({ frames := 2, cells := 0, slots := 0, locals := 24 } : Room)) (fun a U => a = #[(.ref o)] ∧ Z.Warmed39 U.vm ∧ U.heap = h0) (fun _ _ _ _ _ => True) (fun _ U oU U' => ∃ v L, oU = .returned v ∧ Q4 Z o h0 n0 v U'.heap L ∧ FrameEnd U oU U' L ({ frames := 2, cells := 0, slots := 0, locals := 24 } : Room).cells ({ frames := 2, cells := 0, slots := 0, locals := 24 } : Room).slots) := by
  refine MetFree.of_bodySF (plainFor_of_name pn_4) hisR ?_
  intro p e s m args below meth c s₁ Bd hml0 hP hK
  obtain ⟨rfl, hZ, hh⟩ := hP
  have hx := Bd.exec
  have hby := Bd.bytes
  have hml : c.maxLocals = 1 := hml0
  have hown : s.vm.findClass "java/util/AbstractList" = some m.cls := findClass_of_methodNamed Bd.named
  have hnm := (name_of_methodNamed Bd.named Bd.method).1
  have X0 : Stand p l e ({ frames := 2, cells := 0, slots := 0, locals := 24 } : Room) s m #[(.ref o)] below meth c s₁ [] 0 0 := Stand.of_body Bd
  have e0 : s₁.heap = h0 := by rw [← hh, Bd.state]; rfl
  have N0 := Fr.nil n0
  have go0 : ∀ t, Steps p.tables e below (s₁.setTop (mkF m 0 #[.val (.ref o)] [])) t → Steps p.tables e below (s₁.setTop (entryFrame m #[(.ref o)] 1)) t := fun t k => castTop (ef_4 m o) k
  obtain ⟨_, _, ⟨T1, L1, k1, n1⟩, -, X1, ⟨Lc1, hQ1, l1, y1, z1⟩, st1⟩ := X0.specialBack hx (y := (⟨"java/util/AbstractCollection", "<init>", "()V"⟩ : MethodName)) rfl hown (mvT hZ (hw _ (List.mem_of_getElem? (i := 31) rfl))) (mvT hZ (hw _ (List.mem_of_getElem? (i := 32) rfl))) (mvT hZ (hw _ (List.mem_of_getElem? (i := 36) rfl))) (by decide) (backOf (W := 0) (rm5 l Z a0 hw [] o h0 n0 Z0) hZ (hw _ (List.mem_of_getElem? (i := 36) rfl)) (hw _ (List.mem_of_getElem? (i := 35) rfl)) (by decide) (by decide)) (g := (mkF m 1 #[.val (.ref o)] [(.ref o)])) rfl (by rw [hml]; rfl) (Steps.refl _) (a := o) (argsL := []) (rest := []) (lenOf pd_0 rfl) rfl (by show 2 * 0 + _ ≤ _; exact Nat.le_of_eq rfl) (hb hby d4_1) (fun _ _ => ⟨rfl, e0, (by decide : 0 + 0 ≤ _), (by decide : 0 + 0 ≤ _)⟩)
  dsimp only [Pt.U, Pt.locs, Pt.cells, Pt.slots] at X1 l1 y1 z1 st1 hQ1
  subst l1 y1 z1
  obtain ⟨rfl, N1q, eh1⟩ := hQ1
  have N1 := Fr.app N0 N1q
  obtain ⟨T2, h2, X2, e2, W2, st2⟩ := putF X1 hx hZ hown (host := "") (Or.inl (hw _ (List.mem_of_getElem? (i := 38) rfl))) Via.refl eh1 F_o_modCount E_o (Or.inl (hw _ (List.mem_of_getElem? (i := 39) rfl))) (hw _ (List.mem_of_getElem? (i := 20) rfl)) (ty := .int) (by decide) rfl rfl (g := (mkF m 6 #[.val (.ref o)] [(.int (0 : Int32)), (.ref o)])) rfl rfl (hb hby d4_6)
  have E2_o := E_o.wr W2
  have F2_o_modCount := F_o_modCount.same W2
  have F2_o_elementData := F_o_elementData.other W2 (Or.inr (slot_ne (Or.inl (hw _ (List.mem_of_getElem? (i := 42) rfl))) (Or.inl (hw _ (List.mem_of_getElem? (i := 39) rfl))) (by decide) (t := (.array (.object "java/lang/Object"))) (t' := .int) (by decide) (by decide)))
  have N2 := Fr.snoc X2 N1 ge_o
  have K2 : Keep h0 h2 [o] := (Keep.refl h0 [o]).wr W2 (Or.inl (List.mem_of_getElem? (i := 0) rfl))
  obtain ⟨fs, hr, hrun, hended, hW, hsame⟩ := X2.leave (v := none) (fun _ => rfl)
  refine ⟨_, _, go0 _ ?_, hrun, hended, _, _, rfl, ?_, ⟨_, rfl⟩, hW, hsame.mono (by decide) (by decide)⟩
  · show Steps p.tables e below (s₁.setTop (mkF m 0 #[.val (.ref o)] [])) _
    refine XS.aloadN X0.here hx rfl (hb hby d4_0) rfl rfl ?_
    show Steps p.tables e below (s₁.setTop (mkF m 1 #[.val (.ref o)] [(.ref o)])) _
    refine st1.trans ?_
    show Steps p.tables e below (T1.setTop (mkF m 4 #[.val (.ref o)] [])) _
    refine XS.aloadN X1.here hx rfl (hb hby d4_4) rfl rfl ?_
    show Steps p.tables e below (T1.setTop (mkF m 5 #[.val (.ref o)] [(.ref o)])) _
    refine XS.iconst X1.here hx rfl (hb hby d4_5) ?_
    show Steps p.tables e below (T1.setTop (mkF m 6 #[.val (.ref o)] [(.int (0 : Int32)), (.ref o)])) _
    refine st2 _ ?_
    show Steps p.tables e below (T2.setTop (mkF m 9 #[.val (.ref o)] [])) _
    exact X2.returnOut hx Bd.returns (hb hby d4_9) hr
  · show Q4 Z o h0 n0 _ T2.heap _
    rw [e2]
    exact ⟨rfl, N2, K2, F2_o_modCount, F2_o_elementData⟩
theorem pn_3 : plainName "java/util/ArrayList" = true := by first | (simp [plainName, overriddenIn]; done) | decide +kernel
theorem ef_3 (m : MethodId) (o : Addr) : entryFrame m #[(.ref o)] 1 = mkF m 0 #[.val (.ref o)] [] := by first | (simp [entryFrame, mkF, argsToLocals, Value.category]; done) | rfl
def Q3 (Z : State) (o sd : Addr) (h0 : Heap) (n0 : Nat) (v : Option Value) (h : Heap) (L : List Loc) : Prop := v = none ∧ Fr n0 L ∧ Keep h0 h [o] ∧ Fld Z h o "java/util/AbstractList" "modCount" "I" (.int (0 : Int32)) ∧ Fld Z h o "java/util/ArrayList" "elementData" "[Ljava/lang/Object;" (.ref sd)
theorem d3_0 : decode jdk_38_method_2_code 0 = .ok (.aload_n 0, 1) := by decide +kernel
theorem d3_1 : decode jdk_38_method_2_code 1 = .ok (.invokespecial 1, 3) := by decide +kernel
theorem d3_4 : decode jdk_38_method_2_code 4 = .ok (.aload_n 0, 1) := by decide +kernel
theorem d3_5 : decode jdk_38_method_2_code 5 = .ok (.getstatic 39, 3) := by decide +kernel
theorem d3_8 : decode jdk_38_method_2_code 8 = .ok (.putfield 9, 3) := by decide +kernel
theorem d3_11 : decode jdk_38_method_2_code 11 = .ok (.return_, 1) := by decide +kernel
set_option maxRecDepth 65536 in
set_option maxHeartbeats 40000000 in
theorem rm3 (l : Launch) (Z : State) (a0 : Array Value) (hw : ∀ d ∈ tables_1, d.before a0 Z = true) (ws : List Jvm.Cond) (o sd : Addr) (h0 : Heap) (n0 : Nat) (Z0 : n0 ≤ h0.size) (ge_o : n0 ≤ o) (E_o : Exa Z h0 o "java/util/ArrayList") (F_o_modCount : Fld Z h0 o "java/util/AbstractList" "modCount" "I" (.int (0 : Int32))) (F_o_elementData : Fld Z h0 o "java/util/ArrayList" "elementData" "[Ljava/lang/Object;" .null) (OL : Old Z n0 h0) (SD : Sta Z Z.heap "java/util/ArrayList" "DEFAULTCAPACITY_EMPTY_ELEMENTDATA" "[Ljava/lang/Object;" (.ref sd)) :
    MetFree l (⟨"java/util/ArrayList", "<init>", "()V"⟩ : MethodName) (head1 (Jvm.Cond.code (⟨"java/util/ArrayList", "<init>", "()V"⟩ : MethodName) jdk_38_method_2_code 1 none :: ws) ({ frames := 3, cells := 0, slots := 0, locals := 36 } : Room)) (fun a U => a = #[(.ref o)] ∧ Z.Warmed39 U.vm ∧ U.heap = h0) (fun _ _ _ _ _ => True) (fun _ U oU U' => ∃ v L, oU = .returned v ∧ Q3 Z o sd h0 n0 v U'.heap L ∧ FrameEnd U oU U' L ({ frames := 3, cells := 0, slots := 0, locals := 36 } : Room).cells ({ frames := 3, cells := 0, slots := 0, locals := 36 } : Room).slots) := by
  refine MetFree.of_bodySF (plainFor_of_name pn_3) hisR ?_
  intro p e s m args below meth c s₁ Bd hml0 hP hK
  obtain ⟨rfl, hZ, hh⟩ := hP
  have hx := Bd.exec
  have hby := Bd.bytes
  have hml : c.maxLocals = 1 := hml0
  have hown : s.vm.findClass "java/util/ArrayList" = some m.cls := findClass_of_methodNamed Bd.named
  have hnm := (name_of_methodNamed Bd.named Bd.method).1
  have X0 : Stand p l e ({ frames := 3, cells := 0, slots := 0, locals := 36 } : Room) s m #[(.ref o)] below meth c s₁ [] 0 0 := Stand.of_body Bd
  have e0 : s₁.heap = h0 := by rw [← hh, Bd.state]; rfl
  have N0 := Fr.nil n0
  have go0 : ∀ t, Steps p.tables e below (s₁.setTop (mkF m 0 #[.val (.ref o)] [])) t → Steps p.tables e below (s₁.setTop (entryFrame m #[(.ref o)] 1)) t := fun t k => castTop (ef_3 m o) k
  obtain ⟨_, _, ⟨T1, L1, k1, n1⟩, -, X1, ⟨Lc1, hQ1, l1, y1, z1⟩, st1⟩ := X0.specialBack hx (y := (⟨"java/util/AbstractList", "<init>", "()V"⟩ : MethodName)) rfl hown (mvT hZ (hw _ (List.mem_of_getElem? (i := 25) rfl))) (mvT hZ (hw _ (List.mem_of_getElem? (i := 26) rfl))) (mvT hZ (hw _ (List.mem_of_getElem? (i := 30) rfl))) (by decide) (backOf (W := 0) (rm4 l Z a0 hw [] o h0 n0 Z0 ge_o E_o F_o_modCount F_o_elementData) hZ (hw _ (List.mem_of_getElem? (i := 30) rfl)) (hw _ (List.mem_of_getElem? (i := 29) rfl)) (by decide) (by decide)) (g := (mkF m 1 #[.val (.ref o)] [(.ref o)])) rfl (by rw [hml]; rfl) (Steps.refl _) (a := o) (argsL := []) (rest := []) (lenOf pd_0 rfl) rfl (by show 2 * 0 + _ ≤ _; exact Nat.le_of_eq rfl) (hb hby d3_1) (fun _ _ => ⟨rfl, e0, (by decide : 0 + 0 ≤ _), (by decide : 0 + 0 ≤ _)⟩)
  dsimp only [Pt.U, Pt.locs, Pt.cells, Pt.slots] at X1 l1 y1 z1 st1 hQ1
  subst l1 y1 z1
  obtain ⟨rfl, N1q, K1c, F1_o_modCount, F1_o_elementData⟩ := hQ1
  have N1 := Fr.app N0 N1q
  have E1_o := E_o.keep K1c
  have O1 : Old Z n0 T1.heap := OL.keep K1c (allS ge_o all0)
  obtain ⟨T2, X2, e2, st2⟩ := getS2 X1 hx hZ hown (host := "") (Or.inl (hw _ (List.mem_of_getElem? (i := 40) rfl))) Via.refl rfl (SD.ext O1.2) (g := (mkF m 5 #[.val (.ref o)] [(.ref o)])) rfl (hb hby d3_5)
  obtain ⟨T3, h3, X3, e3, W3, st3⟩ := putF X2 hx hZ hown (host := "") (Or.inl (hw _ (List.mem_of_getElem? (i := 41) rfl))) Via.refl e2 F1_o_elementData E1_o (Or.inl (hw _ (List.mem_of_getElem? (i := 42) rfl))) (hw _ (List.mem_of_getElem? (i := 20) rfl)) (ty := (.array (.object "java/lang/Object"))) (by decide) rfl rfl (g := (mkF m 8 #[.val (.ref o)] [(.ref sd), (.ref o)])) rfl rfl (hb hby d3_8)
  have E3_o := E1_o.wr W3
  have F3_o_modCount := F1_o_modCount.other W3 (Or.inr (slot_ne (Or.inl (hw _ (List.mem_of_getElem? (i := 39) rfl))) (Or.inl (hw _ (List.mem_of_getElem? (i := 42) rfl))) (by decide) (t := .int) (t' := (.array (.object "java/lang/Object"))) (by decide) (by decide)))
  have F3_o_elementData := F1_o_elementData.same W3
  have N3 := Fr.snoc X3 N1 ge_o
  have O3 : Old Z n0 h3 := O1.wr W3 ge_o
  have K3 : Keep h0 h3 [o] := K1c.wr W3 (Or.inl (List.mem_of_getElem? (i := 0) rfl))
  obtain ⟨fs, hr, hrun, hended, hW, hsame⟩ := X3.leave (v := none) (fun _ => rfl)
  refine ⟨_, _, go0 _ ?_, hrun, hended, _, _, rfl, ?_, ⟨_, rfl⟩, hW, hsame.mono (by decide) (by decide)⟩
  · show Steps p.tables e below (s₁.setTop (mkF m 0 #[.val (.ref o)] [])) _
    refine XS.aloadN X0.here hx rfl (hb hby d3_0) rfl rfl ?_
    show Steps p.tables e below (s₁.setTop (mkF m 1 #[.val (.ref o)] [(.ref o)])) _
    refine st1.trans ?_
    show Steps p.tables e below (T1.setTop (mkF m 4 #[.val (.ref o)] [])) _
    refine XS.aloadN X1.here hx rfl (hb hby d3_4) rfl rfl ?_
    show Steps p.tables e below (T1.setTop (mkF m 5 #[.val (.ref o)] [(.ref o)])) _
    refine st2 _ ?_
    show Steps p.tables e below (T2.setTop (mkF m 8 #[.val (.ref o)] [(.ref sd), (.ref o)])) _
    refine st3 _ ?_
    show Steps p.tables e below (T3.setTop (mkF m 11 #[.val (.ref o)] [])) _
    exact X3.returnOut hx Bd.returns (hb hby d3_11) hr
  · show Q3 Z o sd h0 n0 _ T3.heap _
    rw [e3]
    exact ⟨rfl, N3, K3, F3_o_modCount, F3_o_elementData⟩
theorem pn_1 : plainName "com/example/unhurried_reaper/unhurriedreaper/Task" = true := by first | (simp [plainName, overriddenIn]; done) | decide +kernel
theorem ef_1 (m : MethodId) (o : Addr) (q : Addr) : entryFrame m #[(.ref o), (.ref q)] 2 = mkF m 0 #[.val (.ref o), .val (.ref q)] [] := by first | (simp [entryFrame, mkF, argsToLocals, Value.category]; done) | rfl
def Q1 (Z : State) (o : Addr) (h0 : Heap) (n0 : Nat) (v : Option Value) (h : Heap) (L : List Loc) : Prop := v = none ∧ Fr n0 L ∧ Keep h0 h [o] ∧ Fld Z h o "com/example/unhurried_reaper/unhurriedreaper/Task" "nearerFront" "Lcom/example/unhurried_reaper/unhurriedreaper/Task;" .null ∧ Fld Z h o "com/example/unhurried_reaper/unhurriedreaper/Task" "furtherBack" "Lcom/example/unhurried_reaper/unhurriedreaper/Task;" .null ∧ Fld Z h o "com/example/unhurried_reaper/unhurriedreaper/Task" "frontedAt" "J" (.long (0 : Int64))
theorem d1_0 : decode prog_33_method_1_code 0 = .ok (.aload_n 0, 1) := by decide +kernel
theorem d1_1 : decode prog_33_method_1_code 1 = .ok (.invokespecial 1, 3) := by decide +kernel
theorem d1_4 : decode prog_33_method_1_code 4 = .ok (.aload_n 0, 1) := by decide +kernel
theorem d1_5 : decode prog_33_method_1_code 5 = .ok (.new 7, 3) := by decide +kernel
theorem d1_8 : decode prog_33_method_1_code 8 = .ok (.dup, 1) := by decide +kernel
theorem d1_9 : decode prog_33_method_1_code 9 = .ok (.invokespecial 9, 3) := by decide +kernel
theorem d1_12 : decode prog_33_method_1_code 12 = .ok (.putfield 10, 3) := by decide +kernel
theorem d1_15 : decode prog_33_method_1_code 15 = .ok (.aload_n 0, 1) := by decide +kernel
theorem d1_16 : decode prog_33_method_1_code 16 = .ok (.aload_n 1, 1) := by decide +kernel
theorem d1_17 : decode prog_33_method_1_code 17 = .ok (.putfield 16, 3) := by decide +kernel
theorem d1_20 : decode prog_33_method_1_code 20 = .ok (.return_, 1) := by decide +kernel
set_option maxRecDepth 65536 in
set_option maxHeartbeats 40000000 in
theorem rm1 (l : Launch) (Z : State) (a0 : Array Value) (hw : ∀ d ∈ tables_1, d.before a0 Z = true) (ws : List Jvm.Cond) (o q sd : Addr) (h0 : Heap) (n0 : Nat) (Z0 : n0 ≤ h0.size) (ge_o : n0 ≤ o) (E_o : Exa Z h0 o "com/example/unhurried_reaper/unhurriedreaper/Task") (F_o_activities : Fld Z h0 o "com/example/unhurried_reaper/unhurriedreaper/Task" "activities" "Ljava/util/List;" .null) (F_o_name : Fld Z h0 o "com/example/unhurried_reaper/unhurriedreaper/Task" "name" "Ljava/lang/String;" .null) (F_o_nearerFront : Fld Z h0 o "com/example/unhurried_reaper/unhurriedreaper/Task" "nearerFront" "Lcom/example/unhurried_reaper/unhurriedreaper/Task;" .null) (F_o_furtherBack : Fld Z h0 o "com/example/unhurried_reaper/unhurriedreaper/Task" "furtherBack" "Lcom/example/unhurried_reaper/unhurriedreaper/Task;" .null) (F_o_frontedAt : Fld Z h0 o "com/example/unhurried_reaper/unhurriedreaper/Task" "frontedAt" "J" (.long (0 : Int64))) (OL : Old Z n0 h0) (SD : Sta Z Z.heap "java/util/ArrayList" "DEFAULTCAPACITY_EMPTY_ELEMENTDATA" "[Ljava/lang/Object;" (.ref sd)) :
    MetFree l (⟨"com/example/unhurried_reaper/unhurriedreaper/Task", "<init>", "(Ljava/lang/String;)V"⟩ : MethodName) (head1 (Jvm.Cond.code (⟨"com/example/unhurried_reaper/unhurriedreaper/Task", "<init>", "(Ljava/lang/String;)V"⟩ : MethodName) prog_33_method_1_code 2 none :: ws) ({ frames := 4, cells := 1, slots := 3, locals := 52 } : Room)) (fun a U => a = #[(.ref o), (.ref q)] ∧ Z.Warmed39 U.vm ∧ U.heap = h0) (fun _ _ _ _ _ => True) (fun _ U oU U' => ∃ v L, oU = .returned v ∧ Q1 Z o h0 n0 v U'.heap L ∧ FrameEnd U oU U' L ({ frames := 4, cells := 1, slots := 3, locals := 52 } : Room).cells ({ frames := 4, cells := 1, slots := 3, locals := 52 } : Room).slots) := by
  refine MetFree.of_bodySF (plainFor_of_name pn_1) hisR ?_
  intro p e s m args below meth c s₁ Bd hml0 hP hK
  obtain ⟨rfl, hZ, hh⟩ := hP
  have hx := Bd.exec
  have hby := Bd.bytes
  have hml : c.maxLocals = 2 := hml0
  have hown : s.vm.findClass "com/example/unhurried_reaper/unhurriedreaper/Task" = some m.cls := findClass_of_methodNamed Bd.named
  have hnm := (name_of_methodNamed Bd.named Bd.method).1
  have X0 : Stand p l e ({ frames := 4, cells := 1, slots := 3, locals := 52 } : Room) s m #[(.ref o), (.ref q)] below meth c s₁ [] 0 0 := Stand.of_body Bd
  have e0 : s₁.heap = h0 := by rw [← hh, Bd.state]; rfl
  have N0 := Fr.nil n0
  have go0 : ∀ t, Steps p.tables e below (s₁.setTop (mkF m 0 #[.val (.ref o), .val (.ref q)] [])) t → Steps p.tables e below (s₁.setTop (entryFrame m #[(.ref o), (.ref q)] 2)) t := fun t k => castTop (ef_1 m o q) k
  obtain ⟨T1, X1, e1, st1⟩ := initO X0 hx hZ hown (hw _ (List.mem_of_getElem? (i := 16) rfl)) (hw _ (List.mem_of_getElem? (i := 17) rfl)) (hw _ (List.mem_of_getElem? (i := 18) rfl)) e0 (g := (mkF m 1 #[.val (.ref o), .val (.ref q)] [(.ref o)])) rfl (by rw [hml]; rfl) rfl (hb hby d1_1) (by decide) (W := 0) (by show 2 * 0 + _ ≤ _; exact Nat.le_of_eq rfl) (by decide)
  obtain ⟨T2, h2, X2, e2, E2, A2, D2, -, st2⟩ := newO X1 hx hZ hown (hw _ (List.mem_of_getElem? (i := 19) rfl)) (hw _ (List.mem_of_getElem? (i := 20) rfl)) (hw _ (List.mem_of_getElem? (i := 21) rfl)) e1 (g := (mkF m 5 #[.val (.ref o), .val (.ref q)] [(.ref o)])) rfl (hb hby d1_5) (by decide) (by decide)
  obtain ⟨b2, g2⟩ : ∃ z, z = h0.size := ⟨_, rfl⟩
  rw [← g2] at A2 D2 st2
  have ne_o_b2 : o ≠ b2 := Nat.ne_of_lt (Nat.lt_of_lt_of_le E_o.lt (Nat.le_of_eq g2.symm))
  have E2_o := E_o.ext E2
  have F2_o_activities := F_o_activities.ext E2
  have F2_o_name := F_o_name.ext E2
  have F2_o_nearerFront := F_o_nearerFront.ext E2
  have F2_o_furtherBack := F_o_furtherBack.ext E2
  have F2_o_frontedAt := F_o_frontedAt.ext E2
  have K2 : Keep h0 h2 [o] := (Keep.refl h0 [o]).ext E2
  have O2 : Old Z n0 h2 := OL.ext E2
  have ge_b2 : n0 ≤ b2 := (Nat.le_trans Z0 (Nat.le_of_eq g2.symm))
  have sz_b2 : h0.size ≤ b2 := (Nat.le_trans (Keep.refl h0 [o]).1 (Nat.le_of_eq g2.symm))
  have F2_b2_modCount : Fld Z h2 b2 "java/util/AbstractList" "modCount" "I" (.int (0 : Int32)) := D2 (Or.inl (hw _ (List.mem_of_getElem? (i := 39) rfl))) (ty := .int) (by decide)
  have F2_b2_elementData : Fld Z h2 b2 "java/util/ArrayList" "elementData" "[Ljava/lang/Object;" .null := D2 (Or.inl (hw _ (List.mem_of_getElem? (i := 42) rfl))) (ty := (.array (.object "java/lang/Object"))) (by decide)
  obtain ⟨_, _, ⟨T3, L3, k3, n3⟩, -, X3, ⟨Lc3, hQ3, l3, y3, z3⟩, st3⟩ := X2.specialBack hx (y := (⟨"java/util/ArrayList", "<init>", "()V"⟩ : MethodName)) rfl hown (mvT hZ (hw _ (List.mem_of_getElem? (i := 22) rfl))) (mvT hZ (hw _ (List.mem_of_getElem? (i := 23) rfl))) (mvT hZ (hw _ (List.mem_of_getElem? (i := 24) rfl))) (by decide) (backOf (W := 2) (rm3 l Z a0 hw [] b2 sd h2 n0 (Nat.le_trans Z0 E2.1) ge_b2 A2 F2_b2_modCount F2_b2_elementData O2 SD) hZ (hw _ (List.mem_of_getElem? (i := 24) rfl)) (hw _ (List.mem_of_getElem? (i := 21) rfl)) (by decide) (by decide)) (g := (mkF m 9 #[.val (.ref o), .val (.ref q)] [(.ref b2), (.ref b2), (.ref o)])) rfl (by rw [hml]; rfl) (Steps.refl _) (a := b2) (argsL := []) (rest := [(.ref b2), (.ref o)]) (lenOf pd_0 rfl) rfl (by show 2 * 0 + _ ≤ _; exact Nat.le_of_eq rfl) (hb hby d1_9) (fun _ _ => ⟨rfl, e2, (by decide : 1 + 0 ≤ _), (by decide : 3 + 0 ≤ _)⟩)
  dsimp only [Pt.U, Pt.locs, Pt.cells, Pt.slots] at X3 l3 y3 z3 st3 hQ3
  subst l3 y3 z3
  obtain ⟨rfl, N3q, K3c, F3_b2_modCount, F3_b2_elementData⟩ := hQ3
  have N3 := Fr.app N0 N3q
  have E3_o := E2_o.keep K3c
  have F3_o_activities := F2_o_activities.keep K3c (ninS ne_o_b2 nin0)
  have F3_o_name := F2_o_name.keep K3c (ninS ne_o_b2 nin0)
  have F3_o_nearerFront := F2_o_nearerFront.keep K3c (ninS ne_o_b2 nin0)
  have F3_o_furtherBack := F2_o_furtherBack.keep K3c (ninS ne_o_b2 nin0)
  have F3_o_frontedAt := F2_o_frontedAt.keep K3c (ninS ne_o_b2 nin0)
  have E3_b2 := A2.keep K3c
  have O3 : Old Z n0 T3.heap := O2.keep K3c (allS ge_b2 all0)
  have K3 : Keep h0 T3.heap [o] := K2.trans K3c (fun x hx => by cases List.mem_singleton.mp hx; exact Or.inr sz_b2)
  obtain ⟨T4, h4, X4, e4, W4, st4⟩ := putF X3 hx hZ hown (host := "") (Or.inl (hw _ (List.mem_of_getElem? (i := 43) rfl))) Via.refl rfl F3_o_activities E3_o (Or.inr ⟨(hw _ (List.mem_of_getElem? (i := 44) rfl)), rfl, hnm⟩) (hw _ (List.mem_of_getElem? (i := 3) rfl)) (ty := (.object "java/util/List")) (by decide) rfl rfl (g := (mkF m 12 #[.val (.ref o), .val (.ref q)] [(.ref b2), (.ref o)])) rfl rfl (hb hby d1_12)
  have E4_o := E3_o.wr W4
  have F4_o_activities := F3_o_activities.same W4
  have F4_o_name := F3_o_name.other W4 (Or.inr (slot_ne (Or.inr (hw _ (List.mem_of_getElem? (i := 46) rfl))) (Or.inr (hw _ (List.mem_of_getElem? (i := 44) rfl))) (by decide) (t := (.object "java/lang/String")) (t' := (.object "java/util/List")) (by decide) (by decide)))
  have F4_o_nearerFront := F3_o_nearerFront.other W4 (Or.inr (slot_ne (Or.inl (hw _ (List.mem_of_getElem? (i := 71) rfl))) (Or.inr (hw _ (List.mem_of_getElem? (i := 44) rfl))) (by decide) (t := (.object "com/example/unhurried_reaper/unhurriedreaper/Task")) (t' := (.object "java/util/List")) (by decide) (by decide)))
  have F4_o_furtherBack := F3_o_furtherBack.other W4 (Or.inr (slot_ne (Or.inl (hw _ (List.mem_of_getElem? (i := 78) rfl))) (Or.inr (hw _ (List.mem_of_getElem? (i := 44) rfl))) (by decide) (t := (.object "com/example/unhurried_reaper/unhurriedreaper/Task")) (t' := (.object "java/util/List")) (by decide) (by decide)))
  have F4_o_frontedAt := F3_o_frontedAt.other W4 (Or.inr (slot_ne (Or.inl (hw _ (List.mem_of_getElem? (i := 87) rfl))) (Or.inr (hw _ (List.mem_of_getElem? (i := 44) rfl))) (by decide) (t := .long) (t' := (.object "java/util/List")) (by decide) (by decide)))
  have E4_b2 := E3_b2.wr W4
  have F4_b2_modCount := F3_b2_modCount.other W4 (Or.inl (Ne.symm ne_o_b2))
  have F4_b2_elementData := F3_b2_elementData.other W4 (Or.inl (Ne.symm ne_o_b2))
  have N4 := Fr.snoc X4 N3 ge_o
  have O4 : Old Z n0 h4 := O3.wr W4 ge_o
  have K4 : Keep h0 h4 [o] := K3.wr W4 (Or.inl (List.mem_of_getElem? (i := 0) rfl))
  obtain ⟨T5, h5, X5, e5, W5, st5⟩ := putF X4 hx hZ hown (host := "") (Or.inl (hw _ (List.mem_of_getElem? (i := 45) rfl))) Via.refl e4 F4_o_name E4_o (Or.inr ⟨(hw _ (List.mem_of_getElem? (i := 46) rfl)), rfl, hnm⟩) (hw _ (List.mem_of_getElem? (i := 3) rfl)) (ty := (.object "java/lang/String")) (by decide) rfl rfl (g := (mkF m 17 #[.val (.ref o), .val (.ref q)] [(.ref q), (.ref o)])) rfl rfl (hb hby d1_17)
  have E5_o := E4_o.wr W5
  have F5_o_activities := F4_o_activities.other W5 (Or.inr (slot_ne (Or.inr (hw _ (List.mem_of_getElem? (i := 44) rfl))) (Or.inr (hw _ (List.mem_of_getElem? (i := 46) rfl))) (by decide) (t := (.object "java/util/List")) (t' := (.object "java/lang/String")) (by decide) (by decide)))
  have F5_o_name := F4_o_name.same W5
  have F5_o_nearerFront := F4_o_nearerFront.other W5 (Or.inr (slot_ne (Or.inl (hw _ (List.mem_of_getElem? (i := 71) rfl))) (Or.inr (hw _ (List.mem_of_getElem? (i := 46) rfl))) (by decide) (t := (.object "com/example/unhurried_reaper/unhurriedreaper/Task")) (t' := (.object "java/lang/String")) (by decide) (by decide)))
  have F5_o_furtherBack := F4_o_furtherBack.other W5 (Or.inr (slot_ne (Or.inl (hw _ (List.mem_of_getElem? (i := 78) rfl))) (Or.inr (hw _ (List.mem_of_getElem? (i := 46) rfl))) (by decide) (t := (.object "com/example/unhurried_reaper/unhurriedreaper/Task")) (t' := (.object "java/lang/String")) (by decide) (by decide)))
  have F5_o_frontedAt := F4_o_frontedAt.other W5 (Or.inr (slot_ne (Or.inl (hw _ (List.mem_of_getElem? (i := 87) rfl))) (Or.inr (hw _ (List.mem_of_getElem? (i := 46) rfl))) (by decide) (t := .long) (t' := (.object "java/lang/String")) (by decide) (by decide)))
  have E5_b2 := E4_b2.wr W5
  have F5_b2_modCount := F4_b2_modCount.other W5 (Or.inl (Ne.symm ne_o_b2))
  have F5_b2_elementData := F4_b2_elementData.other W5 (Or.inl (Ne.symm ne_o_b2))
  have N5 := Fr.snoc X5 N4 ge_o
  have O5 : Old Z n0 h5 := O4.wr W5 ge_o
  have K5 : Keep h0 h5 [o] := K4.wr W5 (Or.inl (List.mem_of_getElem? (i := 0) rfl))
  obtain ⟨fs, hr, hrun, hended, hW, hsame⟩ := X5.leave (v := none) (fun _ => rfl)
  refine ⟨_, _, go0 _ ?_, hrun, hended, _, _, rfl, ?_, ⟨_, rfl⟩, hW, hsame.mono (by decide) (by decide)⟩
  · show Steps p.tables e below (s₁.setTop (mkF m 0 #[.val (.ref o), .val (.ref q)] [])) _
    refine XS.aloadN X0.here hx rfl (hb hby d1_0) rfl rfl ?_
    show Steps p.tables e below (s₁.setTop (mkF m 1 #[.val (.ref o), .val (.ref q)] [(.ref o)])) _
    refine st1 _ ?_
    show Steps p.tables e below (T1.setTop (mkF m 4 #[.val (.ref o), .val (.ref q)] [])) _
    refine XS.aloadN X1.here hx rfl (hb hby d1_4) rfl rfl ?_
    show Steps p.tables e below (T1.setTop (mkF m 5 #[.val (.ref o), .val (.ref q)] [(.ref o)])) _
    refine st2 _ ?_
    show Steps p.tables e below (T2.setTop (mkF m 8 #[.val (.ref o), .val (.ref q)] [(.ref b2), (.ref o)])) _
    refine XS.dup X2.here hx rfl (hb hby d1_8) rfl rfl ?_
    show Steps p.tables e below (T2.setTop (mkF m 9 #[.val (.ref o), .val (.ref q)] [(.ref b2), (.ref b2), (.ref o)])) _
    refine st3.trans ?_
    show Steps p.tables e below (T3.setTop (mkF m 12 #[.val (.ref o), .val (.ref q)] [(.ref b2), (.ref o)])) _
    refine st4 _ ?_
    show Steps p.tables e below (T4.setTop (mkF m 15 #[.val (.ref o), .val (.ref q)] [])) _
    refine XS.aloadN X4.here hx rfl (hb hby d1_15) rfl rfl ?_
    show Steps p.tables e below (T4.setTop (mkF m 16 #[.val (.ref o), .val (.ref q)] [(.ref o)])) _
    refine XS.aloadN X4.here hx rfl (hb hby d1_16) rfl rfl ?_
    show Steps p.tables e below (T4.setTop (mkF m 17 #[.val (.ref o), .val (.ref q)] [(.ref q), (.ref o)])) _
    refine st5 _ ?_
    show Steps p.tables e below (T5.setTop (mkF m 20 #[.val (.ref o), .val (.ref q)] [])) _
    exact X5.returnOut hx Bd.returns (hb hby d1_20) hr
  · show Q1 Z o h0 n0 _ T5.heap _
    rw [e5]
    exact ⟨rfl, N5, K5, F5_o_nearerFront, F5_o_furtherBack, F5_o_frontedAt⟩
theorem pn_6 : plainName "com/example/unhurried_reaper/unhurriedreaper/TaskHistory" = true := by first | (simp [plainName, overriddenIn]; done) | decide +kernel
theorem ef_6 (m : MethodId) (o : Addr) : entryFrame m #[(.ref o)] 1 = mkF m 0 #[.val (.ref o)] [] := by first | (simp [entryFrame, mkF, argsToLocals, Value.category]; done) | rfl
def Q6 (Z : State) (o : Addr) (h0 : Heap) (n0 : Nat) (v : Option Value) (h : Heap) (L : List Loc) : Prop := v = none ∧ Fr n0 L ∧ h = h0
theorem d6_0 : decode prog_34_method_1_code 0 = .ok (.aload_n 0, 1) := by decide +kernel
theorem d6_1 : decode prog_34_method_1_code 1 = .ok (.invokespecial 1, 3) := by decide +kernel
theorem d6_4 : decode prog_34_method_1_code 4 = .ok (.return_, 1) := by decide +kernel
set_option maxRecDepth 65536 in
set_option maxHeartbeats 40000000 in
theorem rm6 (l : Launch) (Z : State) (a0 : Array Value) (hw : ∀ d ∈ tables_1, d.before a0 Z = true) (ws : List Jvm.Cond) (o : Addr) (h0 : Heap) (n0 : Nat) (Z0 : n0 ≤ h0.size)  :
    MetFree l (⟨"com/example/unhurried_reaper/unhurriedreaper/TaskHistory", "<init>", "()V"⟩ : MethodName) (head1 (Jvm.Cond.code (⟨"com/example/unhurried_reaper/unhurriedreaper/TaskHistory", "<init>", "()V"⟩ : MethodName) prog_34_method_1_code 1 none :: ws) ({ frames := 1, cells := 0, slots := 0, locals := 12 } : Room)) (fun a U => a = #[(.ref o)] ∧ Z.Warmed39 U.vm ∧ U.heap = h0) (fun _ _ _ _ _ => True) (fun _ U oU U' => ∃ v L, oU = .returned v ∧ Q6 Z o h0 n0 v U'.heap L ∧ FrameEnd U oU U' L ({ frames := 1, cells := 0, slots := 0, locals := 12 } : Room).cells ({ frames := 1, cells := 0, slots := 0, locals := 12 } : Room).slots) := by
  refine MetFree.of_bodySF (plainFor_of_name pn_6) hisR ?_
  intro p e s m args below meth c s₁ Bd hml0 hP hK
  obtain ⟨rfl, hZ, hh⟩ := hP
  have hx := Bd.exec
  have hby := Bd.bytes
  have hml : c.maxLocals = 1 := hml0
  have hown : s.vm.findClass "com/example/unhurried_reaper/unhurriedreaper/TaskHistory" = some m.cls := findClass_of_methodNamed Bd.named
  have hnm := (name_of_methodNamed Bd.named Bd.method).1
  have X0 : Stand p l e ({ frames := 1, cells := 0, slots := 0, locals := 12 } : Room) s m #[(.ref o)] below meth c s₁ [] 0 0 := Stand.of_body Bd
  have e0 : s₁.heap = h0 := by rw [← hh, Bd.state]; rfl
  have N0 := Fr.nil n0
  have go0 : ∀ t, Steps p.tables e below (s₁.setTop (mkF m 0 #[.val (.ref o)] [])) t → Steps p.tables e below (s₁.setTop (entryFrame m #[(.ref o)] 1)) t := fun t k => castTop (ef_6 m o) k
  obtain ⟨T1, X1, e1, st1⟩ := initO X0 hx hZ hown (hw _ (List.mem_of_getElem? (i := 57) rfl)) (hw _ (List.mem_of_getElem? (i := 17) rfl)) (hw _ (List.mem_of_getElem? (i := 18) rfl)) e0 (g := (mkF m 1 #[.val (.ref o)] [(.ref o)])) rfl (by rw [hml]; rfl) rfl (hb hby d6_1) (by decide) (W := 0) (by show 2 * 0 + _ ≤ _; exact Nat.le_of_eq rfl) (by decide)
  obtain ⟨fs, hr, hrun, hended, hW, hsame⟩ := X1.leave (v := none) (fun _ => rfl)
  refine ⟨_, _, go0 _ ?_, hrun, hended, _, _, rfl, ?_, ⟨_, rfl⟩, hW, hsame.mono (by decide) (by decide)⟩
  · show Steps p.tables e below (s₁.setTop (mkF m 0 #[.val (.ref o)] [])) _
    refine XS.aloadN X0.here hx rfl (hb hby d6_0) rfl rfl ?_
    show Steps p.tables e below (s₁.setTop (mkF m 1 #[.val (.ref o)] [(.ref o)])) _
    refine st1 _ ?_
    show Steps p.tables e below (T1.setTop (mkF m 4 #[.val (.ref o)] [])) _
    exact X1.returnOut hx Bd.returns (hb hby d6_4) hr
  · show Q6 Z o h0 n0 _ T1.heap _
    rw [e1]
    exact ⟨rfl, N0, rfl⟩
theorem ef_8N (m : MethodId) (o : Addr) : entryFrame m #[(.ref o)] 1 = mkF m 0 #[.val (.ref o)] [] := by first | (simp [entryFrame, mkF, argsToLocals, Value.category]; done) | rfl
def Q8N (Z : State) (o : Addr) (h0 : Heap) (n0 : Nat) (v : Option Value) (h : Heap) (L : List Loc) : Prop := v = some .null ∧ Fr n0 L ∧ h = h0
theorem d8_0 : decode prog_33_method_9_code 0 = .ok (.aload_n 0, 1) := by decide +kernel
theorem d8_1 : decode prog_33_method_9_code 1 = .ok (.getfield 44, 3) := by decide +kernel
theorem d8_4 : decode prog_33_method_9_code 4 = .ok (.areturn, 1) := by decide +kernel
set_option maxRecDepth 65536 in
set_option maxHeartbeats 40000000 in
theorem rm8N (l : Launch) (Z : State) (a0 : Array Value) (hw : ∀ d ∈ tables_1, d.before a0 Z = true) (ws : List Jvm.Cond) (o : Addr) (h0 : Heap) (n0 : Nat) (Z0 : n0 ≤ h0.size) (F : Fld Z h0 o "com/example/unhurried_reaper/unhurriedreaper/Task" "nearerFront" "Lcom/example/unhurried_reaper/unhurriedreaper/Task;" .null) :
    MetFree l (⟨"com/example/unhurried_reaper/unhurriedreaper/Task", "nearerFront", "()Lcom/example/unhurried_reaper/unhurriedreaper/Task;"⟩ : MethodName) (head1 (Jvm.Cond.code (⟨"com/example/unhurried_reaper/unhurriedreaper/Task", "nearerFront", "()Lcom/example/unhurried_reaper/unhurriedreaper/Task;"⟩ : MethodName) prog_33_method_9_code 1 (some (.object "com/example/unhurried_reaper/unhurriedreaper/Task")) :: ws) ({ frames := 0, cells := 0, slots := 0, locals := 0 } : Room)) (fun a U => a = #[(.ref o)] ∧ Z.Warmed39 U.vm ∧ U.heap = h0) (fun _ _ _ _ _ => True) (fun _ U oU U' => ∃ v L, oU = .returned v ∧ Q8N Z o h0 n0 v U'.heap L ∧ FrameEnd U oU U' L ({ frames := 0, cells := 0, slots := 0, locals := 0 } : Room).cells ({ frames := 0, cells := 0, slots := 0, locals := 0 } : Room).slots) := by
  refine MetFree.of_bodySF (plainFor_of_name pn_1) hisR ?_
  intro p e s m args below meth c s₁ Bd hml0 hP hK
  obtain ⟨rfl, hZ, hh⟩ := hP
  have hx := Bd.exec
  have hby := Bd.bytes
  have hml : c.maxLocals = 1 := hml0
  have hown : s.vm.findClass "com/example/unhurried_reaper/unhurriedreaper/Task" = some m.cls := findClass_of_methodNamed Bd.named
  have hnm := (name_of_methodNamed Bd.named Bd.method).1
  have X0 : Stand p l e ({ frames := 0, cells := 0, slots := 0, locals := 0 } : Room) s m #[(.ref o)] below meth c s₁ [] 0 0 := Stand.of_body Bd
  have e0 : s₁.heap = h0 := by rw [← hh, Bd.state]; rfl
  have N0 := Fr.nil n0
  have go0 : ∀ t, Steps p.tables e below (s₁.setTop (mkF m 0 #[.val (.ref o)] [])) t → Steps p.tables e below (s₁.setTop (entryFrame m #[(.ref o)] 1)) t := fun t k => castTop (ef_8N m o) k
  obtain ⟨T1, X1, e1, st1⟩ := getF X0 hx hZ hown (host := "") (Or.inl (hw _ (List.mem_of_getElem? (i := 70) rfl))) Via.refl e0 F (g := (mkF m 1 #[.val (.ref o)] [(.ref o)])) rfl rfl (hb hby d8_1)
  obtain ⟨fs, hr, hrun, hended, hW, hsame⟩ := X1.leave (v := some .null) (fun h => by rw [Bd.returns] at h; cases h)
  refine ⟨_, _, go0 _ ?_, hrun, hended, _, _, rfl, ?_, ⟨_, rfl⟩, hW, hsame.mono (by decide) (by decide)⟩
  · show Steps p.tables e below (s₁.setTop (mkF m 0 #[.val (.ref o)] [])) _
    refine XS.aloadN X0.here hx rfl (hb hby d8_0) rfl rfl ?_
    show Steps p.tables e below (s₁.setTop (mkF m 1 #[.val (.ref o)] [(.ref o)])) _
    refine st1 _ ?_
    show Steps p.tables e below (T1.setTop (mkF m 4 #[.val (.ref o)] [.null])) _
    jvm_step X1.here [X1.here.top, hx, (hb hby d8_4), X1.method', Bd.returns, Value.isRef, FieldType.isReference]
    first | (intro acts; rw [hr _ acts rfl rfl rfl]) | rw [hr _ _ rfl rfl rfl]
    exact Steps.refl _
  · show Q8N Z o h0 n0 _ T1.heap _
    rw [e1]
    exact ⟨rfl, N0, rfl⟩
theorem ef_8R (m : MethodId) (o : Addr) : entryFrame m #[(.ref o)] 1 = mkF m 0 #[.val (.ref o)] [] := by first | (simp [entryFrame, mkF, argsToLocals, Value.category]; done) | rfl
def Q8R (Z : State) (w : Addr) (h0 : Heap) (n0 : Nat) (v : Option Value) (h : Heap) (L : List Loc) : Prop := v = some (.ref w) ∧ Fr n0 L ∧ h = h0
set_option maxRecDepth 65536 in
set_option maxHeartbeats 40000000 in
theorem rm8R (l : Launch) (Z : State) (a0 : Array Value) (hw : ∀ d ∈ tables_1, d.before a0 Z = true) (ws : List Jvm.Cond) (o w : Addr) (h0 : Heap) (n0 : Nat) (Z0 : n0 ≤ h0.size) (F : Fld Z h0 o "com/example/unhurried_reaper/unhurriedreaper/Task" "nearerFront" "Lcom/example/unhurried_reaper/unhurriedreaper/Task;" (.ref w)) :
    MetFree l (⟨"com/example/unhurried_reaper/unhurriedreaper/Task", "nearerFront", "()Lcom/example/unhurried_reaper/unhurriedreaper/Task;"⟩ : MethodName) (head1 (Jvm.Cond.code (⟨"com/example/unhurried_reaper/unhurriedreaper/Task", "nearerFront", "()Lcom/example/unhurried_reaper/unhurriedreaper/Task;"⟩ : MethodName) prog_33_method_9_code 1 (some (.object "com/example/unhurried_reaper/unhurriedreaper/Task")) :: ws) ({ frames := 0, cells := 0, slots := 0, locals := 0 } : Room)) (fun a U => a = #[(.ref o)] ∧ Z.Warmed39 U.vm ∧ U.heap = h0) (fun _ _ _ _ _ => True) (fun _ U oU U' => ∃ v L, oU = .returned v ∧ Q8R Z w h0 n0 v U'.heap L ∧ FrameEnd U oU U' L ({ frames := 0, cells := 0, slots := 0, locals := 0 } : Room).cells ({ frames := 0, cells := 0, slots := 0, locals := 0 } : Room).slots) := by
  refine MetFree.of_bodySF (plainFor_of_name pn_1) hisR ?_
  intro p e s m args below meth c s₁ Bd hml0 hP hK
  obtain ⟨rfl, hZ, hh⟩ := hP
  have hx := Bd.exec
  have hby := Bd.bytes
  have hml : c.maxLocals = 1 := hml0
  have hown : s.vm.findClass "com/example/unhurried_reaper/unhurriedreaper/Task" = some m.cls := findClass_of_methodNamed Bd.named
  have hnm := (name_of_methodNamed Bd.named Bd.method).1
  have X0 : Stand p l e ({ frames := 0, cells := 0, slots := 0, locals := 0 } : Room) s m #[(.ref o)] below meth c s₁ [] 0 0 := Stand.of_body Bd
  have e0 : s₁.heap = h0 := by rw [← hh, Bd.state]; rfl
  have N0 := Fr.nil n0
  have go0 : ∀ t, Steps p.tables e below (s₁.setTop (mkF m 0 #[.val (.ref o)] [])) t → Steps p.tables e below (s₁.setTop (entryFrame m #[(.ref o)] 1)) t := fun t k => castTop (ef_8R m o) k
  obtain ⟨T1, X1, e1, st1⟩ := getF X0 hx hZ hown (host := "") (Or.inl (hw _ (List.mem_of_getElem? (i := 70) rfl))) Via.refl e0 F (g := (mkF m 1 #[.val (.ref o)] [(.ref o)])) rfl rfl (hb hby d8_1)
  obtain ⟨fs, hr, hrun, hended, hW, hsame⟩ := X1.leave (v := some (.ref w)) (fun h => by rw [Bd.returns] at h; cases h)
  refine ⟨_, _, go0 _ ?_, hrun, hended, _, _, rfl, ?_, ⟨_, rfl⟩, hW, hsame.mono (by decide) (by decide)⟩
  · show Steps p.tables e below (s₁.setTop (mkF m 0 #[.val (.ref o)] [])) _
    refine XS.aloadN X0.here hx rfl (hb hby d8_0) rfl rfl ?_
    show Steps p.tables e below (s₁.setTop (mkF m 1 #[.val (.ref o)] [(.ref o)])) _
    refine st1 _ ?_
    show Steps p.tables e below (T1.setTop (mkF m 4 #[.val (.ref o)] [(.ref w)])) _
    jvm_step X1.here [X1.here.top, hx, (hb hby d8_4), X1.method', Bd.returns, Value.isRef, FieldType.isReference]
    first | (intro acts; rw [hr _ acts rfl rfl rfl]) | rw [hr _ _ rfl rfl rfl]
    exact Steps.refl _
  · show Q8R Z w h0 n0 _ T1.heap _
    rw [e1]
    exact ⟨rfl, N0, rfl⟩
theorem ef_12N (m : MethodId) (o : Addr) : entryFrame m #[(.ref o)] 1 = mkF m 0 #[.val (.ref o)] [] := by first | (simp [entryFrame, mkF, argsToLocals, Value.category]; done) | rfl
def Q12N (Z : State) (o : Addr) (h0 : Heap) (n0 : Nat) (v : Option Value) (h : Heap) (L : List Loc) : Prop := v = some .null ∧ Fr n0 L ∧ h = h0
theorem d12_0 : decode prog_33_method_11_code 0 = .ok (.aload_n 0, 1) := by decide +kernel
theorem d12_1 : decode prog_33_method_11_code 1 = .ok (.getfield 48, 3) := by decide +kernel
theorem d12_4 : decode prog_33_method_11_code 4 = .ok (.areturn, 1) := by decide +kernel
set_option maxRecDepth 65536 in
set_option maxHeartbeats 40000000 in
theorem rm12N (l : Launch) (Z : State) (a0 : Array Value) (hw : ∀ d ∈ tables_1, d.before a0 Z = true) (ws : List Jvm.Cond) (o : Addr) (h0 : Heap) (n0 : Nat) (Z0 : n0 ≤ h0.size) (F : Fld Z h0 o "com/example/unhurried_reaper/unhurriedreaper/Task" "furtherBack" "Lcom/example/unhurried_reaper/unhurriedreaper/Task;" .null) :
    MetFree l (⟨"com/example/unhurried_reaper/unhurriedreaper/Task", "furtherBack", "()Lcom/example/unhurried_reaper/unhurriedreaper/Task;"⟩ : MethodName) (head1 (Jvm.Cond.code (⟨"com/example/unhurried_reaper/unhurriedreaper/Task", "furtherBack", "()Lcom/example/unhurried_reaper/unhurriedreaper/Task;"⟩ : MethodName) prog_33_method_11_code 1 (some (.object "com/example/unhurried_reaper/unhurriedreaper/Task")) :: ws) ({ frames := 0, cells := 0, slots := 0, locals := 0 } : Room)) (fun a U => a = #[(.ref o)] ∧ Z.Warmed39 U.vm ∧ U.heap = h0) (fun _ _ _ _ _ => True) (fun _ U oU U' => ∃ v L, oU = .returned v ∧ Q12N Z o h0 n0 v U'.heap L ∧ FrameEnd U oU U' L ({ frames := 0, cells := 0, slots := 0, locals := 0 } : Room).cells ({ frames := 0, cells := 0, slots := 0, locals := 0 } : Room).slots) := by
  refine MetFree.of_bodySF (plainFor_of_name pn_1) hisR ?_
  intro p e s m args below meth c s₁ Bd hml0 hP hK
  obtain ⟨rfl, hZ, hh⟩ := hP
  have hx := Bd.exec
  have hby := Bd.bytes
  have hml : c.maxLocals = 1 := hml0
  have hown : s.vm.findClass "com/example/unhurried_reaper/unhurriedreaper/Task" = some m.cls := findClass_of_methodNamed Bd.named
  have hnm := (name_of_methodNamed Bd.named Bd.method).1
  have X0 : Stand p l e ({ frames := 0, cells := 0, slots := 0, locals := 0 } : Room) s m #[(.ref o)] below meth c s₁ [] 0 0 := Stand.of_body Bd
  have e0 : s₁.heap = h0 := by rw [← hh, Bd.state]; rfl
  have N0 := Fr.nil n0
  have go0 : ∀ t, Steps p.tables e below (s₁.setTop (mkF m 0 #[.val (.ref o)] [])) t → Steps p.tables e below (s₁.setTop (entryFrame m #[(.ref o)] 1)) t := fun t k => castTop (ef_12N m o) k
  obtain ⟨T1, X1, e1, st1⟩ := getF X0 hx hZ hown (host := "") (Or.inl (hw _ (List.mem_of_getElem? (i := 77) rfl))) Via.refl e0 F (g := (mkF m 1 #[.val (.ref o)] [(.ref o)])) rfl rfl (hb hby d12_1)
  obtain ⟨fs, hr, hrun, hended, hW, hsame⟩ := X1.leave (v := some .null) (fun h => by rw [Bd.returns] at h; cases h)
  refine ⟨_, _, go0 _ ?_, hrun, hended, _, _, rfl, ?_, ⟨_, rfl⟩, hW, hsame.mono (by decide) (by decide)⟩
  · show Steps p.tables e below (s₁.setTop (mkF m 0 #[.val (.ref o)] [])) _
    refine XS.aloadN X0.here hx rfl (hb hby d12_0) rfl rfl ?_
    show Steps p.tables e below (s₁.setTop (mkF m 1 #[.val (.ref o)] [(.ref o)])) _
    refine st1 _ ?_
    show Steps p.tables e below (T1.setTop (mkF m 4 #[.val (.ref o)] [.null])) _
    jvm_step X1.here [X1.here.top, hx, (hb hby d12_4), X1.method', Bd.returns, Value.isRef, FieldType.isReference]
    first | (intro acts; rw [hr _ acts rfl rfl rfl]) | rw [hr _ _ rfl rfl rfl]
    exact Steps.refl _
  · show Q12N Z o h0 n0 _ T1.heap _
    rw [e1]
    exact ⟨rfl, N0, rfl⟩
theorem ef_12R (m : MethodId) (o : Addr) : entryFrame m #[(.ref o)] 1 = mkF m 0 #[.val (.ref o)] [] := by first | (simp [entryFrame, mkF, argsToLocals, Value.category]; done) | rfl
def Q12R (Z : State) (w : Addr) (h0 : Heap) (n0 : Nat) (v : Option Value) (h : Heap) (L : List Loc) : Prop := v = some (.ref w) ∧ Fr n0 L ∧ h = h0
set_option maxRecDepth 65536 in
set_option maxHeartbeats 40000000 in
theorem rm12R (l : Launch) (Z : State) (a0 : Array Value) (hw : ∀ d ∈ tables_1, d.before a0 Z = true) (ws : List Jvm.Cond) (o w : Addr) (h0 : Heap) (n0 : Nat) (Z0 : n0 ≤ h0.size) (F : Fld Z h0 o "com/example/unhurried_reaper/unhurriedreaper/Task" "furtherBack" "Lcom/example/unhurried_reaper/unhurriedreaper/Task;" (.ref w)) :
    MetFree l (⟨"com/example/unhurried_reaper/unhurriedreaper/Task", "furtherBack", "()Lcom/example/unhurried_reaper/unhurriedreaper/Task;"⟩ : MethodName) (head1 (Jvm.Cond.code (⟨"com/example/unhurried_reaper/unhurriedreaper/Task", "furtherBack", "()Lcom/example/unhurried_reaper/unhurriedreaper/Task;"⟩ : MethodName) prog_33_method_11_code 1 (some (.object "com/example/unhurried_reaper/unhurriedreaper/Task")) :: ws) ({ frames := 0, cells := 0, slots := 0, locals := 0 } : Room)) (fun a U => a = #[(.ref o)] ∧ Z.Warmed39 U.vm ∧ U.heap = h0) (fun _ _ _ _ _ => True) (fun _ U oU U' => ∃ v L, oU = .returned v ∧ Q12R Z w h0 n0 v U'.heap L ∧ FrameEnd U oU U' L ({ frames := 0, cells := 0, slots := 0, locals := 0 } : Room).cells ({ frames := 0, cells := 0, slots := 0, locals := 0 } : Room).slots) := by
  refine MetFree.of_bodySF (plainFor_of_name pn_1) hisR ?_
  intro p e s m args below meth c s₁ Bd hml0 hP hK
  obtain ⟨rfl, hZ, hh⟩ := hP
  have hx := Bd.exec
  have hby := Bd.bytes
  have hml : c.maxLocals = 1 := hml0
  have hown : s.vm.findClass "com/example/unhurried_reaper/unhurriedreaper/Task" = some m.cls := findClass_of_methodNamed Bd.named
  have hnm := (name_of_methodNamed Bd.named Bd.method).1
  have X0 : Stand p l e ({ frames := 0, cells := 0, slots := 0, locals := 0 } : Room) s m #[(.ref o)] below meth c s₁ [] 0 0 := Stand.of_body Bd
  have e0 : s₁.heap = h0 := by rw [← hh, Bd.state]; rfl
  have N0 := Fr.nil n0
  have go0 : ∀ t, Steps p.tables e below (s₁.setTop (mkF m 0 #[.val (.ref o)] [])) t → Steps p.tables e below (s₁.setTop (entryFrame m #[(.ref o)] 1)) t := fun t k => castTop (ef_12R m o) k
  obtain ⟨T1, X1, e1, st1⟩ := getF X0 hx hZ hown (host := "") (Or.inl (hw _ (List.mem_of_getElem? (i := 77) rfl))) Via.refl e0 F (g := (mkF m 1 #[.val (.ref o)] [(.ref o)])) rfl rfl (hb hby d12_1)
  obtain ⟨fs, hr, hrun, hended, hW, hsame⟩ := X1.leave (v := some (.ref w)) (fun h => by rw [Bd.returns] at h; cases h)
  refine ⟨_, _, go0 _ ?_, hrun, hended, _, _, rfl, ?_, ⟨_, rfl⟩, hW, hsame.mono (by decide) (by decide)⟩
  · show Steps p.tables e below (s₁.setTop (mkF m 0 #[.val (.ref o)] [])) _
    refine XS.aloadN X0.here hx rfl (hb hby d12_0) rfl rfl ?_
    show Steps p.tables e below (s₁.setTop (mkF m 1 #[.val (.ref o)] [(.ref o)])) _
    refine st1 _ ?_
    show Steps p.tables e below (T1.setTop (mkF m 4 #[.val (.ref o)] [(.ref w)])) _
    jvm_step X1.here [X1.here.top, hx, (hb hby d12_4), X1.method', Bd.returns, Value.isRef, FieldType.isReference]
    first | (intro acts; rw [hr _ acts rfl rfl rfl]) | rw [hr _ _ rfl rfl rfl]
    exact Steps.refl _
  · show Q12R Z w h0 n0 _ T1.heap _
    rw [e1]
    exact ⟨rfl, N0, rfl⟩
theorem ef_9 (m : MethodId) (o : Addr) (r : Value) (hr0 : r.isRef = true) : entryFrame m #[(.ref o), r] 2 = mkF m 0 #[.val (.ref o), .val r] [] := by
  rcases ref_cases hr0 with rfl | ⟨_, rfl⟩ <;>
  first | rfl | (simp [entryFrame, mkF, argsToLocals, Value.category]; done)
def Q9 (Z : State) (o : Addr) (r : Value) (h0 : Heap) (n0 : Nat) (v : Option Value) (h : Heap) (L : List Loc) : Prop := v = none ∧ Fr n0 L ∧ Wr h0 h o (Jvm.RoadKit.slotOf Z "com/example/unhurried_reaper/unhurriedreaper/Task" "furtherBack" "Lcom/example/unhurried_reaper/unhurriedreaper/Task;") r
theorem d9_0 : decode prog_33_method_12_code 0 = .ok (.aload_n 0, 1) := by decide +kernel
theorem d9_1 : decode prog_33_method_12_code 1 = .ok (.aload_n 1, 1) := by decide +kernel
theorem d9_2 : decode prog_33_method_12_code 2 = .ok (.putfield 48, 3) := by decide +kernel
theorem d9_5 : decode prog_33_method_12_code 5 = .ok (.return_, 1) := by decide +kernel
set_option maxRecDepth 65536 in
set_option maxHeartbeats 40000000 in
theorem rm9 (l : Launch) (Z : State) (a0 : Array Value) (hw : ∀ d ∈ tables_1, d.before a0 Z = true) (ws : List Jvm.Cond) (o : Addr) (r : Value) (w : Value) (h0 : Heap) (n0 : Nat) (Z0 : n0 ≤ h0.size) (hr0 : r.isRef = true) (ge : n0 ≤ o) (E : Exa Z h0 o "com/example/unhurried_reaper/unhurriedreaper/Task") (F : Fld Z h0 o "com/example/unhurried_reaper/unhurriedreaper/Task" "furtherBack" "Lcom/example/unhurried_reaper/unhurriedreaper/Task;" w) :
    MetFree l (⟨"com/example/unhurried_reaper/unhurriedreaper/Task", "setFurtherBack", "(Lcom/example/unhurried_reaper/unhurriedreaper/Task;)V"⟩ : MethodName) (head1 (Jvm.Cond.code (⟨"com/example/unhurried_reaper/unhurriedreaper/Task", "setFurtherBack", "(Lcom/example/unhurried_reaper/unhurriedreaper/Task;)V"⟩ : MethodName) prog_33_method_12_code 2 none :: ws) ({ frames := 0, cells := 0, slots := 0, locals := 0 } : Room)) (fun a U => a = #[(.ref o), r] ∧ Z.Warmed39 U.vm ∧ U.heap = h0) (fun _ _ _ _ _ => True) (fun _ U oU U' => ∃ v L, oU = .returned v ∧ Q9 Z o r h0 n0 v U'.heap L ∧ FrameEnd U oU U' L ({ frames := 0, cells := 0, slots := 0, locals := 0 } : Room).cells ({ frames := 0, cells := 0, slots := 0, locals := 0 } : Room).slots) := by
  refine MetFree.of_bodySF (plainFor_of_name pn_1) hisR ?_
  intro p e s m args below meth c s₁ Bd hml0 hP hK
  obtain ⟨rfl, hZ, hh⟩ := hP
  have hx := Bd.exec
  have hby := Bd.bytes
  have hml : c.maxLocals = 2 := hml0
  have hown : s.vm.findClass "com/example/unhurried_reaper/unhurriedreaper/Task" = some m.cls := findClass_of_methodNamed Bd.named
  have hnm := (name_of_methodNamed Bd.named Bd.method).1
  have X0 : Stand p l e ({ frames := 0, cells := 0, slots := 0, locals := 0 } : Room) s m #[(.ref o), r] below meth c s₁ [] 0 0 := Stand.of_body Bd
  have e0 : s₁.heap = h0 := by rw [← hh, Bd.state]; rfl
  have N0 := Fr.nil n0
  have go0 : ∀ t, Steps p.tables e below (s₁.setTop (mkF m 0 #[.val (.ref o), .val r] [])) t → Steps p.tables e below (s₁.setTop (entryFrame m #[(.ref o), r] 2)) t := fun t k => castTop (ef_9 m o r hr0) k
  obtain ⟨T1, h1, X1, e1, W1, st1⟩ := putF X0 hx hZ hown (host := "") (Or.inl (hw _ (List.mem_of_getElem? (i := 77) rfl))) Via.refl e0 F E (Or.inl (hw _ (List.mem_of_getElem? (i := 78) rfl))) (hw _ (List.mem_of_getElem? (i := 3) rfl)) (ty := (.object "com/example/unhurried_reaper/unhurriedreaper/Task")) (by decide) (nar_ref hr0) (fit_ref hr0 rfl) (g := (mkF m 2 #[.val (.ref o), .val r] [r, (.ref o)])) rfl rfl (hb hby d9_2)
  have E1_o := E.wr W1
  have F1_o_furtherBack := F.same W1
  have N1 := Fr.snoc X1 N0 ge
  obtain ⟨fs, hr, hrun, hended, hW, hsame⟩ := X1.leave (v := none) (fun _ => rfl)
  refine ⟨_, _, go0 _ ?_, hrun, hended, _, _, rfl, ?_, ⟨_, rfl⟩, hW, hsame.mono (by decide) (by decide)⟩
  · show Steps p.tables e below (s₁.setTop (mkF m 0 #[.val (.ref o), .val r] [])) _
    refine XS.aloadN X0.here hx rfl (hb hby d9_0) rfl rfl ?_
    show Steps p.tables e below (s₁.setTop (mkF m 1 #[.val (.ref o), .val r] [(.ref o)])) _
    refine XS.aloadN X0.here hx rfl (hb hby d9_1) rfl hr0 ?_
    show Steps p.tables e below (s₁.setTop (mkF m 2 #[.val (.ref o), .val r] [r, (.ref o)])) _
    refine st1 _ ?_
    show Steps p.tables e below (T1.setTop (mkF m 5 #[.val (.ref o), .val r] [])) _
    exact X1.returnOut hx Bd.returns (hb hby d9_5) hr
  · show Q9 Z o r h0 n0 _ T1.heap _
    rw [e1]
    exact ⟨rfl, N1, W1⟩
theorem ef_13 (m : MethodId) (o : Addr) (r : Value) (hr0 : r.isRef = true) : entryFrame m #[(.ref o), r] 2 = mkF m 0 #[.val (.ref o), .val r] [] := by
  rcases ref_cases hr0 with rfl | ⟨_, rfl⟩ <;>
  first | rfl | (simp [entryFrame, mkF, argsToLocals, Value.category]; done)
def Q13 (Z : State) (o : Addr) (r : Value) (h0 : Heap) (n0 : Nat) (v : Option Value) (h : Heap) (L : List Loc) : Prop := v = none ∧ Fr n0 L ∧ Wr h0 h o (Jvm.RoadKit.slotOf Z "com/example/unhurried_reaper/unhurriedreaper/Task" "nearerFront" "Lcom/example/unhurried_reaper/unhurriedreaper/Task;") r
theorem d13_0 : decode prog_33_method_10_code 0 = .ok (.aload_n 0, 1) := by decide +kernel
theorem d13_1 : decode prog_33_method_10_code 1 = .ok (.aload_n 1, 1) := by decide +kernel
theorem d13_2 : decode prog_33_method_10_code 2 = .ok (.putfield 44, 3) := by decide +kernel
theorem d13_5 : decode prog_33_method_10_code 5 = .ok (.return_, 1) := by decide +kernel
set_option maxRecDepth 65536 in
set_option maxHeartbeats 40000000 in
theorem rm13 (l : Launch) (Z : State) (a0 : Array Value) (hw : ∀ d ∈ tables_1, d.before a0 Z = true) (ws : List Jvm.Cond) (o : Addr) (r : Value) (w : Value) (h0 : Heap) (n0 : Nat) (Z0 : n0 ≤ h0.size) (hr0 : r.isRef = true) (ge : n0 ≤ o) (E : Exa Z h0 o "com/example/unhurried_reaper/unhurriedreaper/Task") (F : Fld Z h0 o "com/example/unhurried_reaper/unhurriedreaper/Task" "nearerFront" "Lcom/example/unhurried_reaper/unhurriedreaper/Task;" w) :
    MetFree l (⟨"com/example/unhurried_reaper/unhurriedreaper/Task", "setNearerFront", "(Lcom/example/unhurried_reaper/unhurriedreaper/Task;)V"⟩ : MethodName) (head1 (Jvm.Cond.code (⟨"com/example/unhurried_reaper/unhurriedreaper/Task", "setNearerFront", "(Lcom/example/unhurried_reaper/unhurriedreaper/Task;)V"⟩ : MethodName) prog_33_method_10_code 2 none :: ws) ({ frames := 0, cells := 0, slots := 0, locals := 0 } : Room)) (fun a U => a = #[(.ref o), r] ∧ Z.Warmed39 U.vm ∧ U.heap = h0) (fun _ _ _ _ _ => True) (fun _ U oU U' => ∃ v L, oU = .returned v ∧ Q13 Z o r h0 n0 v U'.heap L ∧ FrameEnd U oU U' L ({ frames := 0, cells := 0, slots := 0, locals := 0 } : Room).cells ({ frames := 0, cells := 0, slots := 0, locals := 0 } : Room).slots) := by
  refine MetFree.of_bodySF (plainFor_of_name pn_1) hisR ?_
  intro p e s m args below meth c s₁ Bd hml0 hP hK
  obtain ⟨rfl, hZ, hh⟩ := hP
  have hx := Bd.exec
  have hby := Bd.bytes
  have hml : c.maxLocals = 2 := hml0
  have hown : s.vm.findClass "com/example/unhurried_reaper/unhurriedreaper/Task" = some m.cls := findClass_of_methodNamed Bd.named
  have hnm := (name_of_methodNamed Bd.named Bd.method).1
  have X0 : Stand p l e ({ frames := 0, cells := 0, slots := 0, locals := 0 } : Room) s m #[(.ref o), r] below meth c s₁ [] 0 0 := Stand.of_body Bd
  have e0 : s₁.heap = h0 := by rw [← hh, Bd.state]; rfl
  have N0 := Fr.nil n0
  have go0 : ∀ t, Steps p.tables e below (s₁.setTop (mkF m 0 #[.val (.ref o), .val r] [])) t → Steps p.tables e below (s₁.setTop (entryFrame m #[(.ref o), r] 2)) t := fun t k => castTop (ef_13 m o r hr0) k
  obtain ⟨T1, h1, X1, e1, W1, st1⟩ := putF X0 hx hZ hown (host := "") (Or.inl (hw _ (List.mem_of_getElem? (i := 70) rfl))) Via.refl e0 F E (Or.inl (hw _ (List.mem_of_getElem? (i := 71) rfl))) (hw _ (List.mem_of_getElem? (i := 3) rfl)) (ty := (.object "com/example/unhurried_reaper/unhurriedreaper/Task")) (by decide) (nar_ref hr0) (fit_ref hr0 rfl) (g := (mkF m 2 #[.val (.ref o), .val r] [r, (.ref o)])) rfl rfl (hb hby d13_2)
  have E1_o := E.wr W1
  have F1_o_nearerFront := F.same W1
  have N1 := Fr.snoc X1 N0 ge
  obtain ⟨fs, hr, hrun, hended, hW, hsame⟩ := X1.leave (v := none) (fun _ => rfl)
  refine ⟨_, _, go0 _ ?_, hrun, hended, _, _, rfl, ?_, ⟨_, rfl⟩, hW, hsame.mono (by decide) (by decide)⟩
  · show Steps p.tables e below (s₁.setTop (mkF m 0 #[.val (.ref o), .val r] [])) _
    refine XS.aloadN X0.here hx rfl (hb hby d13_0) rfl rfl ?_
    show Steps p.tables e below (s₁.setTop (mkF m 1 #[.val (.ref o), .val r] [(.ref o)])) _
    refine XS.aloadN X0.here hx rfl (hb hby d13_1) rfl hr0 ?_
    show Steps p.tables e below (s₁.setTop (mkF m 2 #[.val (.ref o), .val r] [r, (.ref o)])) _
    refine st1 _ ?_
    show Steps p.tables e below (T1.setTop (mkF m 5 #[.val (.ref o), .val r] [])) _
    exact X1.returnOut hx Bd.returns (hb hby d13_5) hr
  · show Q13 Z o r h0 n0 _ T1.heap _
    rw [e1]
    exact ⟨rfl, N1, W1⟩
theorem ef_10 (m : MethodId) (o : Addr) (r : Int64) : entryFrame m #[(.ref o), (.long r)] 3 = mkF m 0 #[.val (.ref o), .val (.long r), .second] [] := by first | (simp [entryFrame, mkF, argsToLocals, Value.category]; done) | rfl
def Q10 (Z : State) (o : Addr) (r : Int64) (h0 : Heap) (n0 : Nat) (v : Option Value) (h : Heap) (L : List Loc) : Prop := v = none ∧ Fr n0 L ∧ Wr h0 h o (Jvm.RoadKit.slotOf Z "com/example/unhurried_reaper/unhurriedreaper/Task" "frontedAt" "J") (.long r)
theorem d10_0 : decode prog_33_method_8_code 0 = .ok (.aload_n 0, 1) := by decide +kernel
theorem d10_1 : decode prog_33_method_8_code 1 = .ok (.lload_n 1, 1) := by decide +kernel
theorem d10_2 : decode prog_33_method_8_code 2 = .ok (.putfield 40, 3) := by decide +kernel
theorem d10_5 : decode prog_33_method_8_code 5 = .ok (.return_, 1) := by decide +kernel
set_option maxRecDepth 65536 in
set_option maxHeartbeats 40000000 in
theorem rm10 (l : Launch) (Z : State) (a0 : Array Value) (hw : ∀ d ∈ tables_1, d.before a0 Z = true) (ws : List Jvm.Cond) (o : Addr) (r : Int64) (w : Value) (h0 : Heap) (n0 : Nat) (Z0 : n0 ≤ h0.size) (ge : n0 ≤ o) (E : Exa Z h0 o "com/example/unhurried_reaper/unhurriedreaper/Task") (F : Fld Z h0 o "com/example/unhurried_reaper/unhurriedreaper/Task" "frontedAt" "J" w) :
    MetFree l (⟨"com/example/unhurried_reaper/unhurriedreaper/Task", "setFrontedAt", "(J)V"⟩ : MethodName) (head1 (Jvm.Cond.code (⟨"com/example/unhurried_reaper/unhurriedreaper/Task", "setFrontedAt", "(J)V"⟩ : MethodName) prog_33_method_8_code 3 none :: ws) ({ frames := 0, cells := 0, slots := 0, locals := 0 } : Room)) (fun a U => a = #[(.ref o), (.long r)] ∧ Z.Warmed39 U.vm ∧ U.heap = h0) (fun _ _ _ _ _ => True) (fun _ U oU U' => ∃ v L, oU = .returned v ∧ Q10 Z o r h0 n0 v U'.heap L ∧ FrameEnd U oU U' L ({ frames := 0, cells := 0, slots := 0, locals := 0 } : Room).cells ({ frames := 0, cells := 0, slots := 0, locals := 0 } : Room).slots) := by
  refine MetFree.of_bodySF (plainFor_of_name pn_1) hisR ?_
  intro p e s m args below meth c s₁ Bd hml0 hP hK
  obtain ⟨rfl, hZ, hh⟩ := hP
  have hx := Bd.exec
  have hby := Bd.bytes
  have hml : c.maxLocals = 3 := hml0
  have hown : s.vm.findClass "com/example/unhurried_reaper/unhurriedreaper/Task" = some m.cls := findClass_of_methodNamed Bd.named
  have hnm := (name_of_methodNamed Bd.named Bd.method).1
  have X0 : Stand p l e ({ frames := 0, cells := 0, slots := 0, locals := 0 } : Room) s m #[(.ref o), (.long r)] below meth c s₁ [] 0 0 := Stand.of_body Bd
  have e0 : s₁.heap = h0 := by rw [← hh, Bd.state]; rfl
  have N0 := Fr.nil n0
  have go0 : ∀ t, Steps p.tables e below (s₁.setTop (mkF m 0 #[.val (.ref o), .val (.long r), .second] [])) t → Steps p.tables e below (s₁.setTop (entryFrame m #[(.ref o), (.long r)] 3)) t := fun t k => castTop (ef_10 m o r) k
  obtain ⟨T1, h1, X1, e1, W1, st1⟩ := putF X0 hx hZ hown (host := "") (Or.inl (hw _ (List.mem_of_getElem? (i := 86) rfl))) Via.refl e0 F E (Or.inl (hw _ (List.mem_of_getElem? (i := 87) rfl))) (hw _ (List.mem_of_getElem? (i := 3) rfl)) (ty := .long) (by decide) rfl rfl (g := (mkF m 2 #[.val (.ref o), .val (.long r), .second] [(.long r), (.ref o)])) rfl rfl (hb hby d10_2)
  have E1_o := E.wr W1
  have F1_o_frontedAt := F.same W1
  have N1 := Fr.snoc X1 N0 ge
  obtain ⟨fs, hr, hrun, hended, hW, hsame⟩ := X1.leave (v := none) (fun _ => rfl)
  refine ⟨_, _, go0 _ ?_, hrun, hended, _, _, rfl, ?_, ⟨_, rfl⟩, hW, hsame.mono (by decide) (by decide)⟩
  · show Steps p.tables e below (s₁.setTop (mkF m 0 #[.val (.ref o), .val (.long r), .second] [])) _
    refine XS.aloadN X0.here hx rfl (hb hby d10_0) rfl rfl ?_
    show Steps p.tables e below (s₁.setTop (mkF m 1 #[.val (.ref o), .val (.long r), .second] [(.ref o)])) _
    refine XS.lloadN X0.here hx rfl (hb hby d10_1) rfl ?_
    show Steps p.tables e below (s₁.setTop (mkF m 2 #[.val (.ref o), .val (.long r), .second] [(.long r), (.ref o)])) _
    refine st1 _ ?_
    show Steps p.tables e below (T1.setTop (mkF m 5 #[.val (.ref o), .val (.long r), .second] [])) _
    exact X1.returnOut hx Bd.returns (hb hby d10_5) hr
  · show Q10 Z o r h0 n0 _ T1.heap _
    rw [e1]
    exact ⟨rfl, N1, W1⟩
theorem ef_7a (m : MethodId) (hi : Addr) (tk : Addr) : entryFrame m #[(.ref hi), (.ref tk)] 2 = mkF m 0 #[.val (.ref hi), .val (.ref tk)] [] := by first | (simp [entryFrame, mkF, argsToLocals, Value.category]; done) | rfl
def Q7a (Z : State) (hi tk : Addr) (br q : Int64) (h0 : Heap) (n0 : Nat) (v : Option Value) (h : Heap) (L : List Loc) : Prop := v = none ∧ Fr n0 L ∧ Keep h0 h [hi, tk] ∧ Fld Z h hi "com/example/unhurried_reaper/unhurriedreaper/TaskHistory" "front" "Lcom/example/unhurried_reaper/unhurriedreaper/Task;" (.ref tk) ∧ Fld Z h hi "com/example/unhurried_reaper/unhurriedreaper/TaskHistory" "bringings" "J" (.long (br + (1 : Int64))) ∧ Fld Z h tk "com/example/unhurried_reaper/unhurriedreaper/Task" "nearerFront" "Lcom/example/unhurried_reaper/unhurriedreaper/Task;" .null ∧ Fld Z h tk "com/example/unhurried_reaper/unhurriedreaper/Task" "furtherBack" "Lcom/example/unhurried_reaper/unhurriedreaper/Task;" .null ∧ Fld Z h tk "com/example/unhurried_reaper/unhurriedreaper/Task" "frontedAt" "J" (.long br)
theorem d7_0 : decode prog_34_method_2_code 0 = .ok (.aload_n 1, 1) := by decide +kernel
theorem d7_1 : decode prog_34_method_2_code 1 = .ok (.aload_n 0, 1) := by decide +kernel
theorem d7_2 : decode prog_34_method_2_code 2 = .ok (.getfield 7, 3) := by decide +kernel
theorem d7_5 : decode prog_34_method_2_code 5 = .ok (.if_acmp .eq 43, 3) := by decide +kernel
theorem d7_8 : decode prog_34_method_2_code 8 = .ok (.aload_n 1, 1) := by decide +kernel
theorem d7_9 : decode prog_34_method_2_code 9 = .ok (.invokevirtual 13, 3) := by decide +kernel
theorem pd_1 : parseMethodDescriptor "()Lcom/example/unhurried_reaper/unhurriedreaper/Task;" = some ⟨[], some (.object "com/example/unhurried_reaper/unhurriedreaper/Task")⟩ := by decide +kernel
theorem d7_12 : decode prog_34_method_2_code 12 = .ok (.ifnull 8, 3) := by decide +kernel
theorem d7_20 : decode prog_34_method_2_code 20 = .ok (.aload_n 1, 1) := by decide +kernel
theorem d7_21 : decode prog_34_method_2_code 21 = .ok (.aload_n 0, 1) := by decide +kernel
theorem d7_22 : decode prog_34_method_2_code 22 = .ok (.getfield 7, 3) := by decide +kernel
theorem d7_25 : decode prog_34_method_2_code 25 = .ok (.invokevirtual 23, 3) := by decide +kernel
theorem pd_2 : parseMethodDescriptor "(Lcom/example/unhurried_reaper/unhurriedreaper/Task;)V" = some ⟨[(.object "com/example/unhurried_reaper/unhurriedreaper/Task")], none⟩ := by decide +kernel
theorem d7_28 : decode prog_34_method_2_code 28 = .ok (.aload_n 0, 1) := by decide +kernel
theorem d7_29 : decode prog_34_method_2_code 29 = .ok (.getfield 7, 3) := by decide +kernel
theorem d7_32 : decode prog_34_method_2_code 32 = .ok (.ifnull 11, 3) := by decide +kernel
theorem d7_43 : decode prog_34_method_2_code 43 = .ok (.aload_n 0, 1) := by decide +kernel
theorem d7_44 : decode prog_34_method_2_code 44 = .ok (.aload_n 1, 1) := by decide +kernel
theorem d7_45 : decode prog_34_method_2_code 45 = .ok (.putfield 7, 3) := by decide +kernel
theorem d7_48 : decode prog_34_method_2_code 48 = .ok (.aload_n 1, 1) := by decide +kernel
theorem d7_49 : decode prog_34_method_2_code 49 = .ok (.aload_n 0, 1) := by decide +kernel
theorem d7_50 : decode prog_34_method_2_code 50 = .ok (.dup, 1) := by decide +kernel
theorem d7_51 : decode prog_34_method_2_code 51 = .ok (.getfield 29, 3) := by decide +kernel
theorem d7_54 : decode prog_34_method_2_code 54 = .ok (.dup2_x1, 1) := by decide +kernel
theorem d7_55 : decode prog_34_method_2_code 55 = .ok (.lconst 1, 1) := by decide +kernel
theorem d7_56 : decode prog_34_method_2_code 56 = .ok (.ladd, 1) := by decide +kernel
theorem d7_57 : decode prog_34_method_2_code 57 = .ok (.putfield 29, 3) := by decide +kernel
theorem d7_60 : decode prog_34_method_2_code 60 = .ok (.invokevirtual 33, 3) := by decide +kernel
theorem pd_3 : parseMethodDescriptor "(J)V" = some ⟨[.long], none⟩ := by decide +kernel
theorem d7_63 : decode prog_34_method_2_code 63 = .ok (.return_, 1) := by decide +kernel
set_option maxRecDepth 65536 in
set_option maxHeartbeats 40000000 in
theorem rm7a (l : Launch) (Z : State) (a0 : Array Value) (hw : ∀ d ∈ tables_1, d.before a0 Z = true) (ws : List Jvm.Cond) (hi tk : Addr) (br q : Int64) (h0 : Heap) (n0 : Nat) (Z0 : n0 ≤ h0.size) (ge_hi : n0 ≤ hi) (E_hi : Exa Z h0 hi "com/example/unhurried_reaper/unhurriedreaper/TaskHistory") (F_hi_front : Fld Z h0 hi "com/example/unhurried_reaper/unhurriedreaper/TaskHistory" "front" "Lcom/example/unhurried_reaper/unhurriedreaper/Task;" .null) (F_hi_bringings : Fld Z h0 hi "com/example/unhurried_reaper/unhurriedreaper/TaskHistory" "bringings" "J" (.long br)) (ge_tk : n0 ≤ tk) (E_tk : Exa Z h0 tk "com/example/unhurried_reaper/unhurriedreaper/Task") (F_tk_nearerFront : Fld Z h0 tk "com/example/unhurried_reaper/unhurriedreaper/Task" "nearerFront" "Lcom/example/unhurried_reaper/unhurriedreaper/Task;" .null) (F_tk_furtherBack : Fld Z h0 tk "com/example/unhurried_reaper/unhurriedreaper/Task" "furtherBack" "Lcom/example/unhurried_reaper/unhurriedreaper/Task;" .null) (F_tk_frontedAt : Fld Z h0 tk "com/example/unhurried_reaper/unhurriedreaper/Task" "frontedAt" "J" (.long q)) (ne_hi_tk : hi ≠ tk) :
    MetFree l (⟨"com/example/unhurried_reaper/unhurriedreaper/TaskHistory", "toFront", "(Lcom/example/unhurried_reaper/unhurriedreaper/Task;)V"⟩ : MethodName) (head1 (Jvm.Cond.code (⟨"com/example/unhurried_reaper/unhurriedreaper/TaskHistory", "toFront", "(Lcom/example/unhurried_reaper/unhurriedreaper/Task;)V"⟩ : MethodName) prog_34_method_2_code 2 none :: ws) ({ frames := 1, cells := 0, slots := 0, locals := 20 } : Room)) (fun a U => a = #[(.ref hi), (.ref tk)] ∧ Z.Warmed39 U.vm ∧ U.heap = h0) (fun _ _ _ _ _ => True) (fun _ U oU U' => ∃ v L, oU = .returned v ∧ Q7a Z hi tk br q h0 n0 v U'.heap L ∧ FrameEnd U oU U' L ({ frames := 1, cells := 0, slots := 0, locals := 20 } : Room).cells ({ frames := 1, cells := 0, slots := 0, locals := 20 } : Room).slots) := by
  refine MetFree.of_bodySF (plainFor_of_name pn_6) hisR ?_
  intro p e s m args below meth c s₁ Bd hml0 hP hK
  obtain ⟨rfl, hZ, hh⟩ := hP
  have hx := Bd.exec
  have hby := Bd.bytes
  have hml : c.maxLocals = 2 := hml0
  have hown : s.vm.findClass "com/example/unhurried_reaper/unhurriedreaper/TaskHistory" = some m.cls := findClass_of_methodNamed Bd.named
  have hnm := (name_of_methodNamed Bd.named Bd.method).1
  have X0 : Stand p l e ({ frames := 1, cells := 0, slots := 0, locals := 20 } : Room) s m #[(.ref hi), (.ref tk)] below meth c s₁ [] 0 0 := Stand.of_body Bd
  have e0 : s₁.heap = h0 := by rw [← hh, Bd.state]; rfl
  have N0 := Fr.nil n0
  have go0 : ∀ t, Steps p.tables e below (s₁.setTop (mkF m 0 #[.val (.ref hi), .val (.ref tk)] [])) t → Steps p.tables e below (s₁.setTop (entryFrame m #[(.ref hi), (.ref tk)] 2)) t := fun t k => castTop (ef_7a m hi tk) k
  obtain ⟨T1, X1, e1, st1⟩ := getF X0 hx hZ hown (host := "") (Or.inl (hw _ (List.mem_of_getElem? (i := 63) rfl))) Via.refl e0 F_hi_front (g := (mkF m 2 #[.val (.ref hi), .val (.ref tk)] [(.ref hi), (.ref tk)])) rfl rfl (hb hby d7_2)
  obtain ⟨cq2, kq2, q2a, q2b, q2c⟩ := isOf hZ e1 E_tk
  obtain ⟨_, _, ⟨T2, L2, k2, n2⟩, -, X2, ⟨Lc2, hQ2, l2, y2, z2⟩, st2⟩ := X1.virtualBack hx (y := (⟨"com/example/unhurried_reaper/unhurriedreaper/Task", "nearerFront", "()Lcom/example/unhurried_reaper/unhurriedreaper/Task;"⟩ : MethodName)) (z := (⟨"com/example/unhurried_reaper/unhurriedreaper/Task", "nearerFront", "()Lcom/example/unhurried_reaper/unhurriedreaper/Task;"⟩ : MethodName)) hown (mvT hZ (hw _ (List.mem_of_getElem? (i := 65) rfl))) (mvT hZ (hw _ (List.mem_of_getElem? (i := 66) rfl))) (notFace_of_selects (args := #[]) (mvT hZ (hw _ (List.mem_of_getElem? (i := 68) rfl)))) (mvT hZ (hw _ (List.mem_of_getElem? (i := 68) rfl))) (mvT hZ (hw _ (List.mem_of_getElem? (i := 67) rfl))) (by decide) (backOf (W := 0) (rm8N l Z a0 hw [] tk h0 n0 Z0 F_tk_nearerFront) hZ (hw _ (List.mem_of_getElem? (i := 69) rfl)) (hw _ (List.mem_of_getElem? (i := 4) rfl)) (by decide) (by decide)) q2a q2c (g := (mkF m 9 #[.val (.ref hi), .val (.ref tk)] [(.ref tk)])) rfl (by rw [hml]; rfl) (Steps.refl _) (argsL := []) (rest := []) (lenOf pd_1 rfl) rfl (by show 2 * 0 + _ ≤ _; exact Nat.le_of_eq rfl) (hb hby d7_9) (fun _ _ => ⟨rfl, e1, (by decide : 0 + 0 ≤ _), (by decide : 0 + 0 ≤ _)⟩)
  dsimp only [Pt.U, Pt.locs, Pt.cells, Pt.slots] at X2 l2 y2 z2 st2 hQ2
  subst l2 y2 z2
  obtain ⟨rfl, N2q, eh2⟩ := hQ2
  have N2 := Fr.app N0 N2q
  obtain ⟨T3, X3, e3, st3⟩ := getF X2 hx hZ hown (host := "") (Or.inl (hw _ (List.mem_of_getElem? (i := 63) rfl))) Via.refl eh2 F_hi_front (g := (mkF m 22 #[.val (.ref hi), .val (.ref tk)] [(.ref hi), (.ref tk)])) rfl rfl (hb hby d7_22)
  obtain ⟨cq4, kq4, q4a, q4b, q4c⟩ := isOf hZ e3 E_tk
  obtain ⟨_, _, ⟨T4, L4, k4, n4⟩, -, X4, ⟨Lc4, hQ4, l4, y4, z4⟩, st4⟩ := X3.virtualBack hx (y := (⟨"com/example/unhurried_reaper/unhurriedreaper/Task", "setFurtherBack", "(Lcom/example/unhurried_reaper/unhurriedreaper/Task;)V"⟩ : MethodName)) (z := (⟨"com/example/unhurried_reaper/unhurriedreaper/Task", "setFurtherBack", "(Lcom/example/unhurried_reaper/unhurriedreaper/Task;)V"⟩ : MethodName)) hown (mvT hZ (hw _ (List.mem_of_getElem? (i := 72) rfl))) (mvT hZ (hw _ (List.mem_of_getElem? (i := 73) rfl))) (notFace_of_selects (args := #[]) (mvT hZ (hw _ (List.mem_of_getElem? (i := 75) rfl)))) (mvT hZ (hw _ (List.mem_of_getElem? (i := 75) rfl))) (mvT hZ (hw _ (List.mem_of_getElem? (i := 74) rfl))) (by decide) (backOf (W := 0) (rm9 l Z a0 hw [] tk .null .null h0 n0 Z0 rfl ge_tk E_tk F_tk_furtherBack) hZ (hw _ (List.mem_of_getElem? (i := 76) rfl)) (hw _ (List.mem_of_getElem? (i := 4) rfl)) (by decide) (by decide)) q4a q4c (g := (mkF m 25 #[.val (.ref hi), .val (.ref tk)] [.null, (.ref tk)])) rfl (by rw [hml]; rfl) (Steps.refl _) (argsL := [.null]) (rest := []) (lenOf pd_2 rfl) rfl (by show 2 * 0 + _ ≤ _; exact Nat.le_of_eq rfl) (hb hby d7_25) (fun _ _ => ⟨rfl, e3, (by decide : 0 + 0 ≤ _), (by decide : 0 + 0 ≤ _)⟩)
  dsimp only [Pt.U, Pt.locs, Pt.cells, Pt.slots] at X4 l4 y4 z4 st4 hQ4
  subst l4 y4 z4
  obtain ⟨rfl, N4q, W4⟩ := hQ4
  have N4 := Fr.app N2 N4q
  obtain ⟨h4, e4⟩ : ∃ z : Heap, T4.heap = z := ⟨_, rfl⟩
  rw [e4] at W4
  have E4_hi := E_hi.wr W4
  have F4_hi_front := F_hi_front.other W4 (Or.inl ne_hi_tk)
  have F4_hi_bringings := F_hi_bringings.other W4 (Or.inl ne_hi_tk)
  have E4_tk := E_tk.wr W4
  have F4_tk_nearerFront := F_tk_nearerFront.other W4 (Or.inr (slot_ne (Or.inl (hw _ (List.mem_of_getElem? (i := 71) rfl))) (Or.inl (hw _ (List.mem_of_getElem? (i := 78) rfl))) (by decide) (t := (.object "com/example/unhurried_reaper/unhurriedreaper/Task")) (t' := (.object "com/example/unhurried_reaper/unhurriedreaper/Task")) (by decide) (by decide)))
  have F4_tk_furtherBack := F_tk_furtherBack.same W4
  have F4_tk_frontedAt := F_tk_frontedAt.other W4 (Or.inr (slot_ne (Or.inl (hw _ (List.mem_of_getElem? (i := 87) rfl))) (Or.inl (hw _ (List.mem_of_getElem? (i := 78) rfl))) (by decide) (t := .long) (t' := (.object "com/example/unhurried_reaper/unhurriedreaper/Task")) (by decide) (by decide)))
  have K4 : Keep h0 h4 [hi, tk] := (Keep.refl h0 [hi, tk]).wr W4 (Or.inl (List.mem_of_getElem? (i := 1) rfl))
  obtain ⟨T5, X5, e5, st5⟩ := getF X4 hx hZ hown (host := "") (Or.inl (hw _ (List.mem_of_getElem? (i := 63) rfl))) Via.refl e4 F4_hi_front (g := (mkF m 29 #[.val (.ref hi), .val (.ref tk)] [(.ref hi)])) rfl rfl (hb hby d7_29)
  obtain ⟨T6, h6, X6, e6, W6, st6⟩ := putF X5 hx hZ hown (host := "") (Or.inl (hw _ (List.mem_of_getElem? (i := 63) rfl))) Via.refl e5 F4_hi_front E4_hi (Or.inl (hw _ (List.mem_of_getElem? (i := 64) rfl))) (hw _ (List.mem_of_getElem? (i := 52) rfl)) (ty := (.object "com/example/unhurried_reaper/unhurriedreaper/Task")) (by decide) rfl rfl (g := (mkF m 45 #[.val (.ref hi), .val (.ref tk)] [(.ref tk), (.ref hi)])) rfl rfl (hb hby d7_45)
  have E6_hi := E4_hi.wr W6
  have F6_hi_front := F4_hi_front.same W6
  have F6_hi_bringings := F4_hi_bringings.other W6 (Or.inr (slot_ne (Or.inl (hw _ (List.mem_of_getElem? (i := 80) rfl))) (Or.inl (hw _ (List.mem_of_getElem? (i := 64) rfl))) (by decide) (t := .long) (t' := (.object "com/example/unhurried_reaper/unhurriedreaper/Task")) (by decide) (by decide)))
  have E6_tk := E4_tk.wr W6
  have F6_tk_nearerFront := F4_tk_nearerFront.other W6 (Or.inl (Ne.symm ne_hi_tk))
  have F6_tk_furtherBack := F4_tk_furtherBack.other W6 (Or.inl (Ne.symm ne_hi_tk))
  have F6_tk_frontedAt := F4_tk_frontedAt.other W6 (Or.inl (Ne.symm ne_hi_tk))
  have N6 := Fr.snoc X6 N4 ge_hi
  have K6 : Keep h0 h6 [hi, tk] := K4.wr W6 (Or.inl (List.mem_of_getElem? (i := 0) rfl))
  obtain ⟨T7, X7, e7, st7⟩ := getF X6 hx hZ hown (host := "") (Or.inl (hw _ (List.mem_of_getElem? (i := 79) rfl))) Via.refl e6 F6_hi_bringings (g := (mkF m 51 #[.val (.ref hi), .val (.ref tk)] [(.ref hi), (.ref hi), (.ref tk)])) rfl rfl (hb hby d7_51)
  obtain ⟨T8, h8, X8, e8, W8, st8⟩ := putF X7 hx hZ hown (host := "") (Or.inl (hw _ (List.mem_of_getElem? (i := 79) rfl))) Via.refl e7 F6_hi_bringings E6_hi (Or.inl (hw _ (List.mem_of_getElem? (i := 80) rfl))) (hw _ (List.mem_of_getElem? (i := 52) rfl)) (ty := .long) (by decide) rfl rfl (g := (mkF m 57 #[.val (.ref hi), .val (.ref tk)] [(.long (br + (1 : Int64))), (.ref hi), (.long br), (.ref tk)])) rfl rfl (hb hby d7_57)
  have E8_hi := E6_hi.wr W8
  have F8_hi_front := F6_hi_front.other W8 (Or.inr (slot_ne (Or.inl (hw _ (List.mem_of_getElem? (i := 64) rfl))) (Or.inl (hw _ (List.mem_of_getElem? (i := 80) rfl))) (by decide) (t := (.object "com/example/unhurried_reaper/unhurriedreaper/Task")) (t' := .long) (by decide) (by decide)))
  have F8_hi_bringings := F6_hi_bringings.same W8
  have E8_tk := E6_tk.wr W8
  have F8_tk_nearerFront := F6_tk_nearerFront.other W8 (Or.inl (Ne.symm ne_hi_tk))
  have F8_tk_furtherBack := F6_tk_furtherBack.other W8 (Or.inl (Ne.symm ne_hi_tk))
  have F8_tk_frontedAt := F6_tk_frontedAt.other W8 (Or.inl (Ne.symm ne_hi_tk))
  have N8 := Fr.snoc X8 N6 ge_hi
  have K8 : Keep h0 h8 [hi, tk] := K6.wr W8 (Or.inl (List.mem_of_getElem? (i := 0) rfl))
  obtain ⟨cq9, kq9, q9a, q9b, q9c⟩ := isOf hZ e8 E8_tk
  obtain ⟨_, _, ⟨T9, L9, k9, n9⟩, -, X9, ⟨Lc9, hQ9, l9, y9, z9⟩, st9⟩ := X8.virtualBack hx (y := (⟨"com/example/unhurried_reaper/unhurriedreaper/Task", "setFrontedAt", "(J)V"⟩ : MethodName)) (z := (⟨"com/example/unhurried_reaper/unhurriedreaper/Task", "setFrontedAt", "(J)V"⟩ : MethodName)) hown (mvT hZ (hw _ (List.mem_of_getElem? (i := 81) rfl))) (mvT hZ (hw _ (List.mem_of_getElem? (i := 82) rfl))) (notFace_of_selects (args := #[]) (mvT hZ (hw _ (List.mem_of_getElem? (i := 84) rfl)))) (mvT hZ (hw _ (List.mem_of_getElem? (i := 84) rfl))) (mvT hZ (hw _ (List.mem_of_getElem? (i := 83) rfl))) (by decide) (backOf (W := 0) (rm10 l Z a0 hw [] tk br (.long q) h8 n0 (Nat.le_trans (Nat.le_trans (Nat.le_trans Z0 (Keep.of_wr W4).1) (Keep.of_wr W6).1) (Keep.of_wr W8).1) ge_tk E8_tk F8_tk_frontedAt) hZ (hw _ (List.mem_of_getElem? (i := 85) rfl)) (hw _ (List.mem_of_getElem? (i := 4) rfl)) (by decide) (by decide)) q9a q9c (g := (mkF m 60 #[.val (.ref hi), .val (.ref tk)] [(.long br), (.ref tk)])) rfl (by rw [hml]; rfl) (Steps.refl _) (argsL := [(.long br)]) (rest := []) (lenOf pd_3 rfl) rfl (by show 2 * 0 + _ ≤ _; exact Nat.le_of_eq rfl) (hb hby d7_60) (fun _ _ => ⟨rfl, e8, (by decide : 0 + 0 ≤ _), (by decide : 0 + 0 ≤ _)⟩)
  dsimp only [Pt.U, Pt.locs, Pt.cells, Pt.slots] at X9 l9 y9 z9 st9 hQ9
  subst l9 y9 z9
  obtain ⟨rfl, N9q, W9⟩ := hQ9
  have N9 := Fr.app N8 N9q
  obtain ⟨h9, e9⟩ : ∃ z : Heap, T9.heap = z := ⟨_, rfl⟩
  rw [e9] at W9
  have E9_hi := E8_hi.wr W9
  have F9_hi_front := F8_hi_front.other W9 (Or.inl ne_hi_tk)
  have F9_hi_bringings := F8_hi_bringings.other W9 (Or.inl ne_hi_tk)
  have E9_tk := E8_tk.wr W9
  have F9_tk_nearerFront := F8_tk_nearerFront.other W9 (Or.inr (slot_ne (Or.inl (hw _ (List.mem_of_getElem? (i := 71) rfl))) (Or.inl (hw _ (List.mem_of_getElem? (i := 87) rfl))) (by decide) (t := (.object "com/example/unhurried_reaper/unhurriedreaper/Task")) (t' := .long) (by decide) (by decide)))
  have F9_tk_furtherBack := F8_tk_furtherBack.other W9 (Or.inr (slot_ne (Or.inl (hw _ (List.mem_of_getElem? (i := 78) rfl))) (Or.inl (hw _ (List.mem_of_getElem? (i := 87) rfl))) (by decide) (t := (.object "com/example/unhurried_reaper/unhurriedreaper/Task")) (t' := .long) (by decide) (by decide)))
  have F9_tk_frontedAt := F8_tk_frontedAt.same W9
  have K9 : Keep h0 h9 [hi, tk] := K8.wr W9 (Or.inl (List.mem_of_getElem? (i := 1) rfl))
  obtain ⟨fs, hr, hrun, hended, hW, hsame⟩ := X9.leave (v := none) (fun _ => rfl)
  refine ⟨_, _, go0 _ ?_, hrun, hended, _, _, rfl, ?_, ⟨_, rfl⟩, hW, hsame.mono (by decide) (by decide)⟩
  · show Steps p.tables e below (s₁.setTop (mkF m 0 #[.val (.ref hi), .val (.ref tk)] [])) _
    refine XS.aloadN X0.here hx rfl (hb hby d7_0) rfl rfl ?_
    show Steps p.tables e below (s₁.setTop (mkF m 1 #[.val (.ref hi), .val (.ref tk)] [(.ref tk)])) _
    refine XS.aloadN X0.here hx rfl (hb hby d7_1) rfl rfl ?_
    show Steps p.tables e below (s₁.setTop (mkF m 2 #[.val (.ref hi), .val (.ref tk)] [(.ref hi), (.ref tk)])) _
    refine st1 _ ?_
    show Steps p.tables e below (T1.setTop (mkF m 5 #[.val (.ref hi), .val (.ref tk)] [.null, (.ref tk)])) _
    refine Jvm.RoadKit.acmp (g := (mkF m 5 #[.val (.ref hi), .val (.ref tk)] [.null, (.ref tk)])) X1 hx rfl rfl rfl (pc0 := 5) (pc' := 8) (same := false) rfl (hb hby d7_5) rfl (decide_eq_false nofun) (by decide) (by decide) ?_
    show Steps p.tables e below (T1.setTop (mkF m 8 #[.val (.ref hi), .val (.ref tk)] [])) _
    refine XS.aloadN X1.here hx rfl (hb hby d7_8) rfl rfl ?_
    show Steps p.tables e below (T1.setTop (mkF m 9 #[.val (.ref hi), .val (.ref tk)] [(.ref tk)])) _
    refine st2.trans ?_
    show Steps p.tables e below (T2.setTop (mkF m 12 #[.val (.ref hi), .val (.ref tk)] [.null])) _
    refine XS.ifnullYes X2.here hx rfl (pc0 := 12) (pc' := 20) rfl (hb hby d7_12) rfl (by decide) (by decide) ?_
    show Steps p.tables e below (T2.setTop (mkF m 20 #[.val (.ref hi), .val (.ref tk)] [])) _
    refine XS.aloadN X2.here hx rfl (hb hby d7_20) rfl rfl ?_
    show Steps p.tables e below (T2.setTop (mkF m 21 #[.val (.ref hi), .val (.ref tk)] [(.ref tk)])) _
    refine XS.aloadN X2.here hx rfl (hb hby d7_21) rfl rfl ?_
    show Steps p.tables e below (T2.setTop (mkF m 22 #[.val (.ref hi), .val (.ref tk)] [(.ref hi), (.ref tk)])) _
    refine st3 _ ?_
    show Steps p.tables e below (T3.setTop (mkF m 25 #[.val (.ref hi), .val (.ref tk)] [.null, (.ref tk)])) _
    refine st4.trans ?_
    show Steps p.tables e below (T4.setTop (mkF m 28 #[.val (.ref hi), .val (.ref tk)] [])) _
    refine XS.aloadN X4.here hx rfl (hb hby d7_28) rfl rfl ?_
    show Steps p.tables e below (T4.setTop (mkF m 29 #[.val (.ref hi), .val (.ref tk)] [(.ref hi)])) _
    refine st5 _ ?_
    show Steps p.tables e below (T5.setTop (mkF m 32 #[.val (.ref hi), .val (.ref tk)] [.null])) _
    refine XS.ifnullYes X5.here hx rfl (pc0 := 32) (pc' := 43) rfl (hb hby d7_32) rfl (by decide) (by decide) ?_
    show Steps p.tables e below (T5.setTop (mkF m 43 #[.val (.ref hi), .val (.ref tk)] [])) _
    refine XS.aloadN X5.here hx rfl (hb hby d7_43) rfl rfl ?_
    show Steps p.tables e below (T5.setTop (mkF m 44 #[.val (.ref hi), .val (.ref tk)] [(.ref hi)])) _
    refine XS.aloadN X5.here hx rfl (hb hby d7_44) rfl rfl ?_
    show Steps p.tables e below (T5.setTop (mkF m 45 #[.val (.ref hi), .val (.ref tk)] [(.ref tk), (.ref hi)])) _
    refine st6 _ ?_
    show Steps p.tables e below (T6.setTop (mkF m 48 #[.val (.ref hi), .val (.ref tk)] [])) _
    refine XS.aloadN X6.here hx rfl (hb hby d7_48) rfl rfl ?_
    show Steps p.tables e below (T6.setTop (mkF m 49 #[.val (.ref hi), .val (.ref tk)] [(.ref tk)])) _
    refine XS.aloadN X6.here hx rfl (hb hby d7_49) rfl rfl ?_
    show Steps p.tables e below (T6.setTop (mkF m 50 #[.val (.ref hi), .val (.ref tk)] [(.ref hi), (.ref tk)])) _
    refine XS.dup X6.here hx rfl (hb hby d7_50) rfl rfl ?_
    show Steps p.tables e below (T6.setTop (mkF m 51 #[.val (.ref hi), .val (.ref tk)] [(.ref hi), (.ref hi), (.ref tk)])) _
    refine st7 _ ?_
    show Steps p.tables e below (T7.setTop (mkF m 54 #[.val (.ref hi), .val (.ref tk)] [(.long br), (.ref hi), (.ref tk)])) _
    jvm_step X7.here [X7.here.top, hx, (hb hby d7_54), Value.category]
    show Steps p.tables e below (T7.setTop (mkF m 55 #[.val (.ref hi), .val (.ref tk)] [(.long br), (.ref hi), (.long br), (.ref tk)])) _
    refine XS.lconst X7.here hx rfl (hb hby d7_55) ?_
    show Steps p.tables e below (T7.setTop (mkF m 56 #[.val (.ref hi), .val (.ref tk)] [(.long (1 : Int64)), (.long br), (.ref hi), (.long br), (.ref tk)])) _
    refine XS.ladd X7.here hx rfl (hb hby d7_56) rfl ?_
    show Steps p.tables e below (T7.setTop (mkF m 57 #[.val (.ref hi), .val (.ref tk)] [(.long (br + (1 : Int64))), (.ref hi), (.long br), (.ref tk)])) _
    refine st8 _ ?_
    show Steps p.tables e below (T8.setTop (mkF m 60 #[.val (.ref hi), .val (.ref tk)] [(.long br), (.ref tk)])) _
    refine st9.trans ?_
    show Steps p.tables e below (T9.setTop (mkF m 63 #[.val (.ref hi), .val (.ref tk)] [])) _
    exact X9.returnOut hx Bd.returns (hb hby d7_63) hr
  · show Q7a Z hi tk br q h0 n0 _ T9.heap _
    rw [e9]
    exact ⟨rfl, N9, K9, F9_hi_front, F9_hi_bringings, F9_tk_nearerFront, F9_tk_furtherBack, F9_tk_frontedAt⟩
theorem ef_7b (m : MethodId) (hi : Addr) (tk : Addr) : entryFrame m #[(.ref hi), (.ref tk)] 2 = mkF m 0 #[.val (.ref hi), .val (.ref tk)] [] := by first | (simp [entryFrame, mkF, argsToLocals, Value.category]; done) | rfl
def Q7b (Z : State) (hi tk f : Addr) (br q qf : Int64) (wf : Value) (h0 : Heap) (n0 : Nat) (v : Option Value) (h : Heap) (L : List Loc) : Prop := v = none ∧ Fr n0 L ∧ Keep h0 h [hi, tk, f] ∧ Fld Z h hi "com/example/unhurried_reaper/unhurriedreaper/TaskHistory" "front" "Lcom/example/unhurried_reaper/unhurriedreaper/Task;" (.ref tk) ∧ Fld Z h hi "com/example/unhurried_reaper/unhurriedreaper/TaskHistory" "bringings" "J" (.long (br + (1 : Int64))) ∧ Fld Z h tk "com/example/unhurried_reaper/unhurriedreaper/Task" "nearerFront" "Lcom/example/unhurried_reaper/unhurriedreaper/Task;" .null ∧ Fld Z h tk "com/example/unhurried_reaper/unhurriedreaper/Task" "furtherBack" "Lcom/example/unhurried_reaper/unhurriedreaper/Task;" (.ref f) ∧ Fld Z h tk "com/example/unhurried_reaper/unhurriedreaper/Task" "frontedAt" "J" (.long br) ∧ Fld Z h f "com/example/unhurried_reaper/unhurriedreaper/Task" "nearerFront" "Lcom/example/unhurried_reaper/unhurriedreaper/Task;" (.ref tk) ∧ Fld Z h f "com/example/unhurried_reaper/unhurriedreaper/Task" "furtherBack" "Lcom/example/unhurried_reaper/unhurriedreaper/Task;" wf ∧ Fld Z h f "com/example/unhurried_reaper/unhurriedreaper/Task" "frontedAt" "J" (.long qf)
theorem d7_35 : decode prog_34_method_2_code 35 = .ok (.aload_n 0, 1) := by decide +kernel
theorem d7_36 : decode prog_34_method_2_code 36 = .ok (.getfield 7, 3) := by decide +kernel
theorem d7_39 : decode prog_34_method_2_code 39 = .ok (.aload_n 1, 1) := by decide +kernel
theorem d7_40 : decode prog_34_method_2_code 40 = .ok (.invokevirtual 26, 3) := by decide +kernel
set_option maxRecDepth 65536 in
set_option maxHeartbeats 40000000 in
theorem rm7b (l : Launch) (Z : State) (a0 : Array Value) (hw : ∀ d ∈ tables_1, d.before a0 Z = true) (ws : List Jvm.Cond) (hi tk f : Addr) (br q qf : Int64) (wf : Value) (h0 : Heap) (n0 : Nat) (Z0 : n0 ≤ h0.size) (ge_hi : n0 ≤ hi) (E_hi : Exa Z h0 hi "com/example/unhurried_reaper/unhurriedreaper/TaskHistory") (F_hi_front : Fld Z h0 hi "com/example/unhurried_reaper/unhurriedreaper/TaskHistory" "front" "Lcom/example/unhurried_reaper/unhurriedreaper/Task;" (.ref f)) (F_hi_bringings : Fld Z h0 hi "com/example/unhurried_reaper/unhurriedreaper/TaskHistory" "bringings" "J" (.long br)) (ge_tk : n0 ≤ tk) (E_tk : Exa Z h0 tk "com/example/unhurried_reaper/unhurriedreaper/Task") (F_tk_nearerFront : Fld Z h0 tk "com/example/unhurried_reaper/unhurriedreaper/Task" "nearerFront" "Lcom/example/unhurried_reaper/unhurriedreaper/Task;" .null) (F_tk_furtherBack : Fld Z h0 tk "com/example/unhurried_reaper/unhurriedreaper/Task" "furtherBack" "Lcom/example/unhurried_reaper/unhurriedreaper/Task;" .null) (F_tk_frontedAt : Fld Z h0 tk "com/example/unhurried_reaper/unhurriedreaper/Task" "frontedAt" "J" (.long q)) (ge_f : n0 ≤ f) (E_f : Exa Z h0 f "com/example/unhurried_reaper/unhurriedreaper/Task") (F_f_nearerFront : Fld Z h0 f "com/example/unhurried_reaper/unhurriedreaper/Task" "nearerFront" "Lcom/example/unhurried_reaper/unhurriedreaper/Task;" .null) (F_f_furtherBack : Fld Z h0 f "com/example/unhurried_reaper/unhurriedreaper/Task" "furtherBack" "Lcom/example/unhurried_reaper/unhurriedreaper/Task;" wf) (F_f_frontedAt : Fld Z h0 f "com/example/unhurried_reaper/unhurriedreaper/Task" "frontedAt" "J" (.long qf)) (ne_hi_tk : hi ≠ tk) (ne_hi_f : hi ≠ f) (ne_tk_f : tk ≠ f) :
    MetFree l (⟨"com/example/unhurried_reaper/unhurriedreaper/TaskHistory", "toFront", "(Lcom/example/unhurried_reaper/unhurriedreaper/Task;)V"⟩ : MethodName) (head1 (Jvm.Cond.code (⟨"com/example/unhurried_reaper/unhurriedreaper/TaskHistory", "toFront", "(Lcom/example/unhurried_reaper/unhurriedreaper/Task;)V"⟩ : MethodName) prog_34_method_2_code 2 none :: ws) ({ frames := 1, cells := 0, slots := 0, locals := 20 } : Room)) (fun a U => a = #[(.ref hi), (.ref tk)] ∧ Z.Warmed39 U.vm ∧ U.heap = h0) (fun _ _ _ _ _ => True) (fun _ U oU U' => ∃ v L, oU = .returned v ∧ Q7b Z hi tk f br q qf wf h0 n0 v U'.heap L ∧ FrameEnd U oU U' L ({ frames := 1, cells := 0, slots := 0, locals := 20 } : Room).cells ({ frames := 1, cells := 0, slots := 0, locals := 20 } : Room).slots) := by
  refine MetFree.of_bodySF (plainFor_of_name pn_6) hisR ?_
  intro p e s m args below meth c s₁ Bd hml0 hP hK
  obtain ⟨rfl, hZ, hh⟩ := hP
  have hx := Bd.exec
  have hby := Bd.bytes
  have hml : c.maxLocals = 2 := hml0
  have hown : s.vm.findClass "com/example/unhurried_reaper/unhurriedreaper/TaskHistory" = some m.cls := findClass_of_methodNamed Bd.named
  have hnm := (name_of_methodNamed Bd.named Bd.method).1
  have X0 : Stand p l e ({ frames := 1, cells := 0, slots := 0, locals := 20 } : Room) s m #[(.ref hi), (.ref tk)] below meth c s₁ [] 0 0 := Stand.of_body Bd
  have e0 : s₁.heap = h0 := by rw [← hh, Bd.state]; rfl
  have N0 := Fr.nil n0
  have go0 : ∀ t, Steps p.tables e below (s₁.setTop (mkF m 0 #[.val (.ref hi), .val (.ref tk)] [])) t → Steps p.tables e below (s₁.setTop (entryFrame m #[(.ref hi), (.ref tk)] 2)) t := fun t k => castTop (ef_7b m hi tk) k
  obtain ⟨T1, X1, e1, st1⟩ := getF X0 hx hZ hown (host := "") (Or.inl (hw _ (List.mem_of_getElem? (i := 63) rfl))) Via.refl e0 F_hi_front (g := (mkF m 2 #[.val (.ref hi), .val (.ref tk)] [(.ref hi), (.ref tk)])) rfl rfl (hb hby d7_2)
  obtain ⟨cq2, kq2, q2a, q2b, q2c⟩ := isOf hZ e1 E_tk
  obtain ⟨_, _, ⟨T2, L2, k2, n2⟩, -, X2, ⟨Lc2, hQ2, l2, y2, z2⟩, st2⟩ := X1.virtualBack hx (y := (⟨"com/example/unhurried_reaper/unhurriedreaper/Task", "nearerFront", "()Lcom/example/unhurried_reaper/unhurriedreaper/Task;"⟩ : MethodName)) (z := (⟨"com/example/unhurried_reaper/unhurriedreaper/Task", "nearerFront", "()Lcom/example/unhurried_reaper/unhurriedreaper/Task;"⟩ : MethodName)) hown (mvT hZ (hw _ (List.mem_of_getElem? (i := 65) rfl))) (mvT hZ (hw _ (List.mem_of_getElem? (i := 66) rfl))) (notFace_of_selects (args := #[]) (mvT hZ (hw _ (List.mem_of_getElem? (i := 68) rfl)))) (mvT hZ (hw _ (List.mem_of_getElem? (i := 68) rfl))) (mvT hZ (hw _ (List.mem_of_getElem? (i := 67) rfl))) (by decide) (backOf (W := 0) (rm8N l Z a0 hw [] tk h0 n0 Z0 F_tk_nearerFront) hZ (hw _ (List.mem_of_getElem? (i := 69) rfl)) (hw _ (List.mem_of_getElem? (i := 4) rfl)) (by decide) (by decide)) q2a q2c (g := (mkF m 9 #[.val (.ref hi), .val (.ref tk)] [(.ref tk)])) rfl (by rw [hml]; rfl) (Steps.refl _) (argsL := []) (rest := []) (lenOf pd_1 rfl) rfl (by show 2 * 0 + _ ≤ _; exact Nat.le_of_eq rfl) (hb hby d7_9) (fun _ _ => ⟨rfl, e1, (by decide : 0 + 0 ≤ _), (by decide : 0 + 0 ≤ _)⟩)
  dsimp only [Pt.U, Pt.locs, Pt.cells, Pt.slots] at X2 l2 y2 z2 st2 hQ2
  subst l2 y2 z2
  obtain ⟨rfl, N2q, eh2⟩ := hQ2
  have N2 := Fr.app N0 N2q
  obtain ⟨T3, X3, e3, st3⟩ := getF X2 hx hZ hown (host := "") (Or.inl (hw _ (List.mem_of_getElem? (i := 63) rfl))) Via.refl eh2 F_hi_front (g := (mkF m 22 #[.val (.ref hi), .val (.ref tk)] [(.ref hi), (.ref tk)])) rfl rfl (hb hby d7_22)
  obtain ⟨cq4, kq4, q4a, q4b, q4c⟩ := isOf hZ e3 E_tk
  obtain ⟨_, _, ⟨T4, L4, k4, n4⟩, -, X4, ⟨Lc4, hQ4, l4, y4, z4⟩, st4⟩ := X3.virtualBack hx (y := (⟨"com/example/unhurried_reaper/unhurriedreaper/Task", "setFurtherBack", "(Lcom/example/unhurried_reaper/unhurriedreaper/Task;)V"⟩ : MethodName)) (z := (⟨"com/example/unhurried_reaper/unhurriedreaper/Task", "setFurtherBack", "(Lcom/example/unhurried_reaper/unhurriedreaper/Task;)V"⟩ : MethodName)) hown (mvT hZ (hw _ (List.mem_of_getElem? (i := 72) rfl))) (mvT hZ (hw _ (List.mem_of_getElem? (i := 73) rfl))) (notFace_of_selects (args := #[]) (mvT hZ (hw _ (List.mem_of_getElem? (i := 75) rfl)))) (mvT hZ (hw _ (List.mem_of_getElem? (i := 75) rfl))) (mvT hZ (hw _ (List.mem_of_getElem? (i := 74) rfl))) (by decide) (backOf (W := 0) (rm9 l Z a0 hw [] tk (.ref f) .null h0 n0 Z0 rfl ge_tk E_tk F_tk_furtherBack) hZ (hw _ (List.mem_of_getElem? (i := 76) rfl)) (hw _ (List.mem_of_getElem? (i := 4) rfl)) (by decide) (by decide)) q4a q4c (g := (mkF m 25 #[.val (.ref hi), .val (.ref tk)] [(.ref f), (.ref tk)])) rfl (by rw [hml]; rfl) (Steps.refl _) (argsL := [(.ref f)]) (rest := []) (lenOf pd_2 rfl) rfl (by show 2 * 0 + _ ≤ _; exact Nat.le_of_eq rfl) (hb hby d7_25) (fun _ _ => ⟨rfl, e3, (by decide : 0 + 0 ≤ _), (by decide : 0 + 0 ≤ _)⟩)
  dsimp only [Pt.U, Pt.locs, Pt.cells, Pt.slots] at X4 l4 y4 z4 st4 hQ4
  subst l4 y4 z4
  obtain ⟨rfl, N4q, W4⟩ := hQ4
  have N4 := Fr.app N2 N4q
  obtain ⟨h4, e4⟩ : ∃ z : Heap, T4.heap = z := ⟨_, rfl⟩
  rw [e4] at W4
  have E4_hi := E_hi.wr W4
  have F4_hi_front := F_hi_front.other W4 (Or.inl ne_hi_tk)
  have F4_hi_bringings := F_hi_bringings.other W4 (Or.inl ne_hi_tk)
  have E4_tk := E_tk.wr W4
  have F4_tk_nearerFront := F_tk_nearerFront.other W4 (Or.inr (slot_ne (Or.inl (hw _ (List.mem_of_getElem? (i := 71) rfl))) (Or.inl (hw _ (List.mem_of_getElem? (i := 78) rfl))) (by decide) (t := (.object "com/example/unhurried_reaper/unhurriedreaper/Task")) (t' := (.object "com/example/unhurried_reaper/unhurriedreaper/Task")) (by decide) (by decide)))
  have F4_tk_furtherBack := F_tk_furtherBack.same W4
  have F4_tk_frontedAt := F_tk_frontedAt.other W4 (Or.inr (slot_ne (Or.inl (hw _ (List.mem_of_getElem? (i := 87) rfl))) (Or.inl (hw _ (List.mem_of_getElem? (i := 78) rfl))) (by decide) (t := .long) (t' := (.object "com/example/unhurried_reaper/unhurriedreaper/Task")) (by decide) (by decide)))
  have E4_f := E_f.wr W4
  have F4_f_nearerFront := F_f_nearerFront.other W4 (Or.inl (Ne.symm ne_tk_f))
  have F4_f_furtherBack := F_f_furtherBack.other W4 (Or.inl (Ne.symm ne_tk_f))
  have F4_f_frontedAt := F_f_frontedAt.other W4 (Or.inl (Ne.symm ne_tk_f))
  have K4 : Keep h0 h4 [hi, tk, f] := (Keep.refl h0 [hi, tk, f]).wr W4 (Or.inl (List.mem_of_getElem? (i := 1) rfl))
  obtain ⟨T5, X5, e5, st5⟩ := getF X4 hx hZ hown (host := "") (Or.inl (hw _ (List.mem_of_getElem? (i := 63) rfl))) Via.refl e4 F4_hi_front (g := (mkF m 29 #[.val (.ref hi), .val (.ref tk)] [(.ref hi)])) rfl rfl (hb hby d7_29)
  obtain ⟨T6, X6, e6, st6⟩ := getF X5 hx hZ hown (host := "") (Or.inl (hw _ (List.mem_of_getElem? (i := 63) rfl))) Via.refl e5 F4_hi_front (g := (mkF m 36 #[.val (.ref hi), .val (.ref tk)] [(.ref hi)])) rfl rfl (hb hby d7_36)
  obtain ⟨cq7, kq7, q7a, q7b, q7c⟩ := isOf hZ e6 E4_f
  obtain ⟨_, _, ⟨T7, L7, k7, n7⟩, -, X7, ⟨Lc7, hQ7, l7, y7, z7⟩, st7⟩ := X6.virtualBack hx (y := (⟨"com/example/unhurried_reaper/unhurriedreaper/Task", "setNearerFront", "(Lcom/example/unhurried_reaper/unhurriedreaper/Task;)V"⟩ : MethodName)) (z := (⟨"com/example/unhurried_reaper/unhurriedreaper/Task", "setNearerFront", "(Lcom/example/unhurried_reaper/unhurriedreaper/Task;)V"⟩ : MethodName)) hown (mvT hZ (hw _ (List.mem_of_getElem? (i := 98) rfl))) (mvT hZ (hw _ (List.mem_of_getElem? (i := 99) rfl))) (notFace_of_selects (args := #[]) (mvT hZ (hw _ (List.mem_of_getElem? (i := 101) rfl)))) (mvT hZ (hw _ (List.mem_of_getElem? (i := 101) rfl))) (mvT hZ (hw _ (List.mem_of_getElem? (i := 100) rfl))) (by decide) (backOf (W := 0) (rm13 l Z a0 hw [] f (.ref tk) .null h4 n0 (Nat.le_trans Z0 (Keep.of_wr W4).1) rfl ge_f E4_f F4_f_nearerFront) hZ (hw _ (List.mem_of_getElem? (i := 102) rfl)) (hw _ (List.mem_of_getElem? (i := 4) rfl)) (by decide) (by decide)) q7a q7c (g := (mkF m 40 #[.val (.ref hi), .val (.ref tk)] [(.ref tk), (.ref f)])) rfl (by rw [hml]; rfl) (Steps.refl _) (argsL := [(.ref tk)]) (rest := []) (lenOf pd_2 rfl) rfl (by show 2 * 0 + _ ≤ _; exact Nat.le_of_eq rfl) (hb hby d7_40) (fun _ _ => ⟨rfl, e6, (by decide : 0 + 0 ≤ _), (by decide : 0 + 0 ≤ _)⟩)
  dsimp only [Pt.U, Pt.locs, Pt.cells, Pt.slots] at X7 l7 y7 z7 st7 hQ7
  subst l7 y7 z7
  obtain ⟨rfl, N7q, W7⟩ := hQ7
  have N7 := Fr.app N4 N7q
  obtain ⟨h7, e7⟩ : ∃ z : Heap, T7.heap = z := ⟨_, rfl⟩
  rw [e7] at W7
  have E7_hi := E4_hi.wr W7
  have F7_hi_front := F4_hi_front.other W7 (Or.inl ne_hi_f)
  have F7_hi_bringings := F4_hi_bringings.other W7 (Or.inl ne_hi_f)
  have E7_tk := E4_tk.wr W7
  have F7_tk_nearerFront := F4_tk_nearerFront.other W7 (Or.inl ne_tk_f)
  have F7_tk_furtherBack := F4_tk_furtherBack.other W7 (Or.inl ne_tk_f)
  have F7_tk_frontedAt := F4_tk_frontedAt.other W7 (Or.inl ne_tk_f)
  have E7_f := E4_f.wr W7
  have F7_f_nearerFront := F4_f_nearerFront.same W7
  have F7_f_furtherBack := F4_f_furtherBack.other W7 (Or.inr (slot_ne (Or.inl (hw _ (List.mem_of_getElem? (i := 78) rfl))) (Or.inl (hw _ (List.mem_of_getElem? (i := 71) rfl))) (by decide) (t := (.object "com/example/unhurried_reaper/unhurriedreaper/Task")) (t' := (.object "com/example/unhurried_reaper/unhurriedreaper/Task")) (by decide) (by decide)))
  have F7_f_frontedAt := F4_f_frontedAt.other W7 (Or.inr (slot_ne (Or.inl (hw _ (List.mem_of_getElem? (i := 87) rfl))) (Or.inl (hw _ (List.mem_of_getElem? (i := 71) rfl))) (by decide) (t := .long) (t' := (.object "com/example/unhurried_reaper/unhurriedreaper/Task")) (by decide) (by decide)))
  have K7 : Keep h0 h7 [hi, tk, f] := K4.wr W7 (Or.inl (List.mem_of_getElem? (i := 2) rfl))
  obtain ⟨T8, h8, X8, e8, W8, st8⟩ := putF X7 hx hZ hown (host := "") (Or.inl (hw _ (List.mem_of_getElem? (i := 63) rfl))) Via.refl e7 F7_hi_front E7_hi (Or.inl (hw _ (List.mem_of_getElem? (i := 64) rfl))) (hw _ (List.mem_of_getElem? (i := 52) rfl)) (ty := (.object "com/example/unhurried_reaper/unhurriedreaper/Task")) (by decide) rfl rfl (g := (mkF m 45 #[.val (.ref hi), .val (.ref tk)] [(.ref tk), (.ref hi)])) rfl rfl (hb hby d7_45)
  have E8_hi := E7_hi.wr W8
  have F8_hi_front := F7_hi_front.same W8
  have F8_hi_bringings := F7_hi_bringings.other W8 (Or.inr (slot_ne (Or.inl (hw _ (List.mem_of_getElem? (i := 80) rfl))) (Or.inl (hw _ (List.mem_of_getElem? (i := 64) rfl))) (by decide) (t := .long) (t' := (.object "com/example/unhurried_reaper/unhurriedreaper/Task")) (by decide) (by decide)))
  have E8_tk := E7_tk.wr W8
  have F8_tk_nearerFront := F7_tk_nearerFront.other W8 (Or.inl (Ne.symm ne_hi_tk))
  have F8_tk_furtherBack := F7_tk_furtherBack.other W8 (Or.inl (Ne.symm ne_hi_tk))
  have F8_tk_frontedAt := F7_tk_frontedAt.other W8 (Or.inl (Ne.symm ne_hi_tk))
  have E8_f := E7_f.wr W8
  have F8_f_nearerFront := F7_f_nearerFront.other W8 (Or.inl (Ne.symm ne_hi_f))
  have F8_f_furtherBack := F7_f_furtherBack.other W8 (Or.inl (Ne.symm ne_hi_f))
  have F8_f_frontedAt := F7_f_frontedAt.other W8 (Or.inl (Ne.symm ne_hi_f))
  have N8 := Fr.snoc X8 N7 ge_hi
  have K8 : Keep h0 h8 [hi, tk, f] := K7.wr W8 (Or.inl (List.mem_of_getElem? (i := 0) rfl))
  obtain ⟨T9, X9, e9, st9⟩ := getF X8 hx hZ hown (host := "") (Or.inl (hw _ (List.mem_of_getElem? (i := 79) rfl))) Via.refl e8 F8_hi_bringings (g := (mkF m 51 #[.val (.ref hi), .val (.ref tk)] [(.ref hi), (.ref hi), (.ref tk)])) rfl rfl (hb hby d7_51)
  obtain ⟨T10, h10, X10, e10, W10, st10⟩ := putF X9 hx hZ hown (host := "") (Or.inl (hw _ (List.mem_of_getElem? (i := 79) rfl))) Via.refl e9 F8_hi_bringings E8_hi (Or.inl (hw _ (List.mem_of_getElem? (i := 80) rfl))) (hw _ (List.mem_of_getElem? (i := 52) rfl)) (ty := .long) (by decide) rfl rfl (g := (mkF m 57 #[.val (.ref hi), .val (.ref tk)] [(.long (br + (1 : Int64))), (.ref hi), (.long br), (.ref tk)])) rfl rfl (hb hby d7_57)
  have E10_hi := E8_hi.wr W10
  have F10_hi_front := F8_hi_front.other W10 (Or.inr (slot_ne (Or.inl (hw _ (List.mem_of_getElem? (i := 64) rfl))) (Or.inl (hw _ (List.mem_of_getElem? (i := 80) rfl))) (by decide) (t := (.object "com/example/unhurried_reaper/unhurriedreaper/Task")) (t' := .long) (by decide) (by decide)))
  have F10_hi_bringings := F8_hi_bringings.same W10
  have E10_tk := E8_tk.wr W10
  have F10_tk_nearerFront := F8_tk_nearerFront.other W10 (Or.inl (Ne.symm ne_hi_tk))
  have F10_tk_furtherBack := F8_tk_furtherBack.other W10 (Or.inl (Ne.symm ne_hi_tk))
  have F10_tk_frontedAt := F8_tk_frontedAt.other W10 (Or.inl (Ne.symm ne_hi_tk))
  have E10_f := E8_f.wr W10
  have F10_f_nearerFront := F8_f_nearerFront.other W10 (Or.inl (Ne.symm ne_hi_f))
  have F10_f_furtherBack := F8_f_furtherBack.other W10 (Or.inl (Ne.symm ne_hi_f))
  have F10_f_frontedAt := F8_f_frontedAt.other W10 (Or.inl (Ne.symm ne_hi_f))
  have N10 := Fr.snoc X10 N8 ge_hi
  have K10 : Keep h0 h10 [hi, tk, f] := K8.wr W10 (Or.inl (List.mem_of_getElem? (i := 0) rfl))
  obtain ⟨cq11, kq11, q11a, q11b, q11c⟩ := isOf hZ e10 E10_tk
  obtain ⟨_, _, ⟨T11, L11, k11, n11⟩, -, X11, ⟨Lc11, hQ11, l11, y11, z11⟩, st11⟩ := X10.virtualBack hx (y := (⟨"com/example/unhurried_reaper/unhurriedreaper/Task", "setFrontedAt", "(J)V"⟩ : MethodName)) (z := (⟨"com/example/unhurried_reaper/unhurriedreaper/Task", "setFrontedAt", "(J)V"⟩ : MethodName)) hown (mvT hZ (hw _ (List.mem_of_getElem? (i := 81) rfl))) (mvT hZ (hw _ (List.mem_of_getElem? (i := 82) rfl))) (notFace_of_selects (args := #[]) (mvT hZ (hw _ (List.mem_of_getElem? (i := 84) rfl)))) (mvT hZ (hw _ (List.mem_of_getElem? (i := 84) rfl))) (mvT hZ (hw _ (List.mem_of_getElem? (i := 83) rfl))) (by decide) (backOf (W := 0) (rm10 l Z a0 hw [] tk br (.long q) h10 n0 (Nat.le_trans (Nat.le_trans (Nat.le_trans (Nat.le_trans Z0 (Keep.of_wr W4).1) (Keep.of_wr W7).1) (Keep.of_wr W8).1) (Keep.of_wr W10).1) ge_tk E10_tk F10_tk_frontedAt) hZ (hw _ (List.mem_of_getElem? (i := 85) rfl)) (hw _ (List.mem_of_getElem? (i := 4) rfl)) (by decide) (by decide)) q11a q11c (g := (mkF m 60 #[.val (.ref hi), .val (.ref tk)] [(.long br), (.ref tk)])) rfl (by rw [hml]; rfl) (Steps.refl _) (argsL := [(.long br)]) (rest := []) (lenOf pd_3 rfl) rfl (by show 2 * 0 + _ ≤ _; exact Nat.le_of_eq rfl) (hb hby d7_60) (fun _ _ => ⟨rfl, e10, (by decide : 0 + 0 ≤ _), (by decide : 0 + 0 ≤ _)⟩)
  dsimp only [Pt.U, Pt.locs, Pt.cells, Pt.slots] at X11 l11 y11 z11 st11 hQ11
  subst l11 y11 z11
  obtain ⟨rfl, N11q, W11⟩ := hQ11
  have N11 := Fr.app N10 N11q
  obtain ⟨h11, e11⟩ : ∃ z : Heap, T11.heap = z := ⟨_, rfl⟩
  rw [e11] at W11
  have E11_hi := E10_hi.wr W11
  have F11_hi_front := F10_hi_front.other W11 (Or.inl ne_hi_tk)
  have F11_hi_bringings := F10_hi_bringings.other W11 (Or.inl ne_hi_tk)
  have E11_tk := E10_tk.wr W11
  have F11_tk_nearerFront := F10_tk_nearerFront.other W11 (Or.inr (slot_ne (Or.inl (hw _ (List.mem_of_getElem? (i := 71) rfl))) (Or.inl (hw _ (List.mem_of_getElem? (i := 87) rfl))) (by decide) (t := (.object "com/example/unhurried_reaper/unhurriedreaper/Task")) (t' := .long) (by decide) (by decide)))
  have F11_tk_furtherBack := F10_tk_furtherBack.other W11 (Or.inr (slot_ne (Or.inl (hw _ (List.mem_of_getElem? (i := 78) rfl))) (Or.inl (hw _ (List.mem_of_getElem? (i := 87) rfl))) (by decide) (t := (.object "com/example/unhurried_reaper/unhurriedreaper/Task")) (t' := .long) (by decide) (by decide)))
  have F11_tk_frontedAt := F10_tk_frontedAt.same W11
  have E11_f := E10_f.wr W11
  have F11_f_nearerFront := F10_f_nearerFront.other W11 (Or.inl (Ne.symm ne_tk_f))
  have F11_f_furtherBack := F10_f_furtherBack.other W11 (Or.inl (Ne.symm ne_tk_f))
  have F11_f_frontedAt := F10_f_frontedAt.other W11 (Or.inl (Ne.symm ne_tk_f))
  have K11 : Keep h0 h11 [hi, tk, f] := K10.wr W11 (Or.inl (List.mem_of_getElem? (i := 1) rfl))
  obtain ⟨fs, hr, hrun, hended, hW, hsame⟩ := X11.leave (v := none) (fun _ => rfl)
  refine ⟨_, _, go0 _ ?_, hrun, hended, _, _, rfl, ?_, ⟨_, rfl⟩, hW, hsame.mono (by decide) (by decide)⟩
  · show Steps p.tables e below (s₁.setTop (mkF m 0 #[.val (.ref hi), .val (.ref tk)] [])) _
    refine XS.aloadN X0.here hx rfl (hb hby d7_0) rfl rfl ?_
    show Steps p.tables e below (s₁.setTop (mkF m 1 #[.val (.ref hi), .val (.ref tk)] [(.ref tk)])) _
    refine XS.aloadN X0.here hx rfl (hb hby d7_1) rfl rfl ?_
    show Steps p.tables e below (s₁.setTop (mkF m 2 #[.val (.ref hi), .val (.ref tk)] [(.ref hi), (.ref tk)])) _
    refine st1 _ ?_
    show Steps p.tables e below (T1.setTop (mkF m 5 #[.val (.ref hi), .val (.ref tk)] [(.ref f), (.ref tk)])) _
    refine Jvm.RoadKit.acmp (g := (mkF m 5 #[.val (.ref hi), .val (.ref tk)] [(.ref f), (.ref tk)])) X1 hx rfl rfl rfl (pc0 := 5) (pc' := 8) (same := false) rfl (hb hby d7_5) rfl (decide_eq_false fun q => ne_tk_f (Value.ref.inj q)) (by decide) (by decide) ?_
    show Steps p.tables e below (T1.setTop (mkF m 8 #[.val (.ref hi), .val (.ref tk)] [])) _
    refine XS.aloadN X1.here hx rfl (hb hby d7_8) rfl rfl ?_
    show Steps p.tables e below (T1.setTop (mkF m 9 #[.val (.ref hi), .val (.ref tk)] [(.ref tk)])) _
    refine st2.trans ?_
    show Steps p.tables e below (T2.setTop (mkF m 12 #[.val (.ref hi), .val (.ref tk)] [.null])) _
    refine XS.ifnullYes X2.here hx rfl (pc0 := 12) (pc' := 20) rfl (hb hby d7_12) rfl (by decide) (by decide) ?_
    show Steps p.tables e below (T2.setTop (mkF m 20 #[.val (.ref hi), .val (.ref tk)] [])) _
    refine XS.aloadN X2.here hx rfl (hb hby d7_20) rfl rfl ?_
    show Steps p.tables e below (T2.setTop (mkF m 21 #[.val (.ref hi), .val (.ref tk)] [(.ref tk)])) _
    refine XS.aloadN X2.here hx rfl (hb hby d7_21) rfl rfl ?_
    show Steps p.tables e below (T2.setTop (mkF m 22 #[.val (.ref hi), .val (.ref tk)] [(.ref hi), (.ref tk)])) _
    refine st3 _ ?_
    show Steps p.tables e below (T3.setTop (mkF m 25 #[.val (.ref hi), .val (.ref tk)] [(.ref f), (.ref tk)])) _
    refine st4.trans ?_
    show Steps p.tables e below (T4.setTop (mkF m 28 #[.val (.ref hi), .val (.ref tk)] [])) _
    refine XS.aloadN X4.here hx rfl (hb hby d7_28) rfl rfl ?_
    show Steps p.tables e below (T4.setTop (mkF m 29 #[.val (.ref hi), .val (.ref tk)] [(.ref hi)])) _
    refine st5 _ ?_
    show Steps p.tables e below (T5.setTop (mkF m 32 #[.val (.ref hi), .val (.ref tk)] [(.ref f)])) _
    refine XS.ifnullNo X5.here hx rfl (hb hby d7_32) rfl ?_
    show Steps p.tables e below (T5.setTop (mkF m 35 #[.val (.ref hi), .val (.ref tk)] [])) _
    refine XS.aloadN X5.here hx rfl (hb hby d7_35) rfl rfl ?_
    show Steps p.tables e below (T5.setTop (mkF m 36 #[.val (.ref hi), .val (.ref tk)] [(.ref hi)])) _
    refine st6 _ ?_
    show Steps p.tables e below (T6.setTop (mkF m 39 #[.val (.ref hi), .val (.ref tk)] [(.ref f)])) _
    refine XS.aloadN X6.here hx rfl (hb hby d7_39) rfl rfl ?_
    show Steps p.tables e below (T6.setTop (mkF m 40 #[.val (.ref hi), .val (.ref tk)] [(.ref tk), (.ref f)])) _
    refine st7.trans ?_
    show Steps p.tables e below (T7.setTop (mkF m 43 #[.val (.ref hi), .val (.ref tk)] [])) _
    refine XS.aloadN X7.here hx rfl (hb hby d7_43) rfl rfl ?_
    show Steps p.tables e below (T7.setTop (mkF m 44 #[.val (.ref hi), .val (.ref tk)] [(.ref hi)])) _
    refine XS.aloadN X7.here hx rfl (hb hby d7_44) rfl rfl ?_
    show Steps p.tables e below (T7.setTop (mkF m 45 #[.val (.ref hi), .val (.ref tk)] [(.ref tk), (.ref hi)])) _
    refine st8 _ ?_
    show Steps p.tables e below (T8.setTop (mkF m 48 #[.val (.ref hi), .val (.ref tk)] [])) _
    refine XS.aloadN X8.here hx rfl (hb hby d7_48) rfl rfl ?_
    show Steps p.tables e below (T8.setTop (mkF m 49 #[.val (.ref hi), .val (.ref tk)] [(.ref tk)])) _
    refine XS.aloadN X8.here hx rfl (hb hby d7_49) rfl rfl ?_
    show Steps p.tables e below (T8.setTop (mkF m 50 #[.val (.ref hi), .val (.ref tk)] [(.ref hi), (.ref tk)])) _
    refine XS.dup X8.here hx rfl (hb hby d7_50) rfl rfl ?_
    show Steps p.tables e below (T8.setTop (mkF m 51 #[.val (.ref hi), .val (.ref tk)] [(.ref hi), (.ref hi), (.ref tk)])) _
    refine st9 _ ?_
    show Steps p.tables e below (T9.setTop (mkF m 54 #[.val (.ref hi), .val (.ref tk)] [(.long br), (.ref hi), (.ref tk)])) _
    jvm_step X9.here [X9.here.top, hx, (hb hby d7_54), Value.category]
    show Steps p.tables e below (T9.setTop (mkF m 55 #[.val (.ref hi), .val (.ref tk)] [(.long br), (.ref hi), (.long br), (.ref tk)])) _
    refine XS.lconst X9.here hx rfl (hb hby d7_55) ?_
    show Steps p.tables e below (T9.setTop (mkF m 56 #[.val (.ref hi), .val (.ref tk)] [(.long (1 : Int64)), (.long br), (.ref hi), (.long br), (.ref tk)])) _
    refine XS.ladd X9.here hx rfl (hb hby d7_56) rfl ?_
    show Steps p.tables e below (T9.setTop (mkF m 57 #[.val (.ref hi), .val (.ref tk)] [(.long (br + (1 : Int64))), (.ref hi), (.long br), (.ref tk)])) _
    refine st10 _ ?_
    show Steps p.tables e below (T10.setTop (mkF m 60 #[.val (.ref hi), .val (.ref tk)] [(.long br), (.ref tk)])) _
    refine st11.trans ?_
    show Steps p.tables e below (T11.setTop (mkF m 63 #[.val (.ref hi), .val (.ref tk)] [])) _
    exact X11.returnOut hx Bd.returns (hb hby d7_63) hr
  · show Q7b Z hi tk f br q qf wf h0 n0 _ T11.heap _
    rw [e11]
    exact ⟨rfl, N11, K11, F11_hi_front, F11_hi_bringings, F11_tk_nearerFront, F11_tk_furtherBack, F11_tk_frontedAt, F11_f_nearerFront, F11_f_furtherBack, F11_f_frontedAt⟩
theorem ef_11nn (m : MethodId) (hi : Addr) (tk : Addr) : entryFrame m #[(.ref hi), (.ref tk)] 4 = mkF m 0 #[.val (.ref hi), .val (.ref tk), .unset, .unset] [] := by first | (simp [entryFrame, mkF, argsToLocals, Value.category]; done) | rfl
def Q11nn (Z : State) (hi tk : Addr) (br q : Int64) (h0 : Heap) (n0 : Nat) (v : Option Value) (h : Heap) (L : List Loc) : Prop := v = none ∧ Fr n0 L ∧ Keep h0 h [hi, tk] ∧ Fld Z h hi "com/example/unhurried_reaper/unhurriedreaper/TaskHistory" "front" "Lcom/example/unhurried_reaper/unhurriedreaper/Task;" .null ∧ Fld Z h hi "com/example/unhurried_reaper/unhurriedreaper/TaskHistory" "bringings" "J" (.long br) ∧ Fld Z h tk "com/example/unhurried_reaper/unhurriedreaper/Task" "nearerFront" "Lcom/example/unhurried_reaper/unhurriedreaper/Task;" .null ∧ Fld Z h tk "com/example/unhurried_reaper/unhurriedreaper/Task" "furtherBack" "Lcom/example/unhurried_reaper/unhurriedreaper/Task;" .null ∧ Fld Z h tk "com/example/unhurried_reaper/unhurriedreaper/Task" "frontedAt" "J" (.long q)
theorem d11_0 : decode prog_34_method_3_code 0 = .ok (.aload_n 1, 1) := by decide +kernel
theorem d11_1 : decode prog_34_method_3_code 1 = .ok (.invokevirtual 13, 3) := by decide +kernel
theorem d11_4 : decode prog_34_method_3_code 4 = .ok (.astore_n 2, 1) := by decide +kernel
theorem d11_5 : decode prog_34_method_3_code 5 = .ok (.aload_n 1, 1) := by decide +kernel
theorem d11_6 : decode prog_34_method_3_code 6 = .ok (.invokevirtual 37, 3) := by decide +kernel
theorem d11_9 : decode prog_34_method_3_code 9 = .ok (.astore_n 3, 1) := by decide +kernel
theorem d11_10 : decode prog_34_method_3_code 10 = .ok (.aload_n 2, 1) := by decide +kernel
theorem d11_11 : decode prog_34_method_3_code 11 = .ok (.ifnonnull 11, 3) := by decide +kernel
theorem d11_14 : decode prog_34_method_3_code 14 = .ok (.aload_n 0, 1) := by decide +kernel
theorem d11_15 : decode prog_34_method_3_code 15 = .ok (.aload_n 3, 1) := by decide +kernel
theorem d11_16 : decode prog_34_method_3_code 16 = .ok (.putfield 7, 3) := by decide +kernel
theorem d11_19 : decode prog_34_method_3_code 19 = .ok (.goto 8, 3) := by decide +kernel
theorem d11_27 : decode prog_34_method_3_code 27 = .ok (.aload_n 3, 1) := by decide +kernel
theorem d11_28 : decode prog_34_method_3_code 28 = .ok (.ifnull 8, 3) := by decide +kernel
theorem d11_36 : decode prog_34_method_3_code 36 = .ok (.aload_n 1, 1) := by decide +kernel
theorem d11_37 : decode prog_34_method_3_code 37 = .ok (.aconst_null, 1) := by decide +kernel
theorem d11_38 : decode prog_34_method_3_code 38 = .ok (.invokevirtual 26, 3) := by decide +kernel
theorem d11_41 : decode prog_34_method_3_code 41 = .ok (.aload_n 1, 1) := by decide +kernel
theorem d11_42 : decode prog_34_method_3_code 42 = .ok (.aconst_null, 1) := by decide +kernel
theorem d11_43 : decode prog_34_method_3_code 43 = .ok (.invokevirtual 23, 3) := by decide +kernel
theorem d11_46 : decode prog_34_method_3_code 46 = .ok (.return_, 1) := by decide +kernel
set_option maxRecDepth 65536 in
set_option maxHeartbeats 40000000 in
theorem rm11nn (l : Launch) (Z : State) (a0 : Array Value) (hw : ∀ d ∈ tables_1, d.before a0 Z = true) (ws : List Jvm.Cond) (hi tk : Addr) (br q : Int64) (h0 : Heap) (n0 : Nat) (Z0 : n0 ≤ h0.size) (ge_hi : n0 ≤ hi) (E_hi : Exa Z h0 hi "com/example/unhurried_reaper/unhurriedreaper/TaskHistory") (F_hi_front : Fld Z h0 hi "com/example/unhurried_reaper/unhurriedreaper/TaskHistory" "front" "Lcom/example/unhurried_reaper/unhurriedreaper/Task;" (.ref tk)) (F_hi_bringings : Fld Z h0 hi "com/example/unhurried_reaper/unhurriedreaper/TaskHistory" "bringings" "J" (.long br)) (ge_tk : n0 ≤ tk) (E_tk : Exa Z h0 tk "com/example/unhurried_reaper/unhurriedreaper/Task") (F_tk_nearerFront : Fld Z h0 tk "com/example/unhurried_reaper/unhurriedreaper/Task" "nearerFront" "Lcom/example/unhurried_reaper/unhurriedreaper/Task;" .null) (F_tk_furtherBack : Fld Z h0 tk "com/example/unhurried_reaper/unhurriedreaper/Task" "furtherBack" "Lcom/example/unhurried_reaper/unhurriedreaper/Task;" .null) (F_tk_frontedAt : Fld Z h0 tk "com/example/unhurried_reaper/unhurriedreaper/Task" "frontedAt" "J" (.long q)) (ne_hi_tk : hi ≠ tk) :
    MetFree l (⟨"com/example/unhurried_reaper/unhurriedreaper/TaskHistory", "remove", "(Lcom/example/unhurried_reaper/unhurriedreaper/Task;)V"⟩ : MethodName) (head1 (Jvm.Cond.code (⟨"com/example/unhurried_reaper/unhurriedreaper/TaskHistory", "remove", "(Lcom/example/unhurried_reaper/unhurriedreaper/Task;)V"⟩ : MethodName) prog_34_method_3_code 4 none :: ws) ({ frames := 1, cells := 0, slots := 0, locals := 20 } : Room)) (fun a U => a = #[(.ref hi), (.ref tk)] ∧ Z.Warmed39 U.vm ∧ U.heap = h0) (fun _ _ _ _ _ => True) (fun _ U oU U' => ∃ v L, oU = .returned v ∧ Q11nn Z hi tk br q h0 n0 v U'.heap L ∧ FrameEnd U oU U' L ({ frames := 1, cells := 0, slots := 0, locals := 20 } : Room).cells ({ frames := 1, cells := 0, slots := 0, locals := 20 } : Room).slots) := by
  refine MetFree.of_bodySF (plainFor_of_name pn_6) hisR ?_
  intro p e s m args below meth c s₁ Bd hml0 hP hK
  obtain ⟨rfl, hZ, hh⟩ := hP
  have hx := Bd.exec
  have hby := Bd.bytes
  have hml : c.maxLocals = 4 := hml0
  have hown : s.vm.findClass "com/example/unhurried_reaper/unhurriedreaper/TaskHistory" = some m.cls := findClass_of_methodNamed Bd.named
  have hnm := (name_of_methodNamed Bd.named Bd.method).1
  have X0 : Stand p l e ({ frames := 1, cells := 0, slots := 0, locals := 20 } : Room) s m #[(.ref hi), (.ref tk)] below meth c s₁ [] 0 0 := Stand.of_body Bd
  have e0 : s₁.heap = h0 := by rw [← hh, Bd.state]; rfl
  have N0 := Fr.nil n0
  have go0 : ∀ t, Steps p.tables e below (s₁.setTop (mkF m 0 #[.val (.ref hi), .val (.ref tk), .unset, .unset] [])) t → Steps p.tables e below (s₁.setTop (entryFrame m #[(.ref hi), (.ref tk)] 4)) t := fun t k => castTop (ef_11nn m hi tk) k
  obtain ⟨cq1, kq1, q1a, q1b, q1c⟩ := isOf hZ e0 E_tk
  obtain ⟨_, _, ⟨T1, L1, k1, n1⟩, -, X1, ⟨Lc1, hQ1, l1, y1, z1⟩, st1⟩ := X0.virtualBack hx (y := (⟨"com/example/unhurried_reaper/unhurriedreaper/Task", "nearerFront", "()Lcom/example/unhurried_reaper/unhurriedreaper/Task;"⟩ : MethodName)) (z := (⟨"com/example/unhurried_reaper/unhurriedreaper/Task", "nearerFront", "()Lcom/example/unhurried_reaper/unhurriedreaper/Task;"⟩ : MethodName)) hown (mvT hZ (hw _ (List.mem_of_getElem? (i := 65) rfl))) (mvT hZ (hw _ (List.mem_of_getElem? (i := 66) rfl))) (notFace_of_selects (args := #[]) (mvT hZ (hw _ (List.mem_of_getElem? (i := 68) rfl)))) (mvT hZ (hw _ (List.mem_of_getElem? (i := 68) rfl))) (mvT hZ (hw _ (List.mem_of_getElem? (i := 67) rfl))) (by decide) (backOf (W := 0) (rm8N l Z a0 hw [] tk h0 n0 Z0 F_tk_nearerFront) hZ (hw _ (List.mem_of_getElem? (i := 69) rfl)) (hw _ (List.mem_of_getElem? (i := 4) rfl)) (by decide) (by decide)) q1a q1c (g := (mkF m 1 #[.val (.ref hi), .val (.ref tk), .unset, .unset] [(.ref tk)])) rfl (by rw [hml]; rfl) (Steps.refl _) (argsL := []) (rest := []) (lenOf pd_1 rfl) rfl (by show 2 * 0 + _ ≤ _; exact Nat.le_of_eq rfl) (hb hby d11_1) (fun _ _ => ⟨rfl, e0, (by decide : 0 + 0 ≤ _), (by decide : 0 + 0 ≤ _)⟩)
  dsimp only [Pt.U, Pt.locs, Pt.cells, Pt.slots] at X1 l1 y1 z1 st1 hQ1
  subst l1 y1 z1
  obtain ⟨rfl, N1q, eh1⟩ := hQ1
  have N1 := Fr.app N0 N1q
  obtain ⟨cq2, kq2, q2a, q2b, q2c⟩ := isOf hZ eh1 E_tk
  obtain ⟨_, _, ⟨T2, L2, k2, n2⟩, -, X2, ⟨Lc2, hQ2, l2, y2, z2⟩, st2⟩ := X1.virtualBack hx (y := (⟨"com/example/unhurried_reaper/unhurriedreaper/Task", "furtherBack", "()Lcom/example/unhurried_reaper/unhurriedreaper/Task;"⟩ : MethodName)) (z := (⟨"com/example/unhurried_reaper/unhurriedreaper/Task", "furtherBack", "()Lcom/example/unhurried_reaper/unhurriedreaper/Task;"⟩ : MethodName)) hown (mvT hZ (hw _ (List.mem_of_getElem? (i := 93) rfl))) (mvT hZ (hw _ (List.mem_of_getElem? (i := 94) rfl))) (notFace_of_selects (args := #[]) (mvT hZ (hw _ (List.mem_of_getElem? (i := 96) rfl)))) (mvT hZ (hw _ (List.mem_of_getElem? (i := 96) rfl))) (mvT hZ (hw _ (List.mem_of_getElem? (i := 95) rfl))) (by decide) (backOf (W := 0) (rm12N l Z a0 hw [] tk h0 n0 Z0 F_tk_furtherBack) hZ (hw _ (List.mem_of_getElem? (i := 97) rfl)) (hw _ (List.mem_of_getElem? (i := 4) rfl)) (by decide) (by decide)) q2a q2c (g := (mkF m 6 #[.val (.ref hi), .val (.ref tk), .val .null, .unset] [(.ref tk)])) rfl (by rw [hml]; rfl) (Steps.refl _) (argsL := []) (rest := []) (lenOf pd_1 rfl) rfl (by show 2 * 0 + _ ≤ _; exact Nat.le_of_eq rfl) (hb hby d11_6) (fun _ _ => ⟨rfl, eh1, (by decide : 0 + 0 ≤ _), (by decide : 0 + 0 ≤ _)⟩)
  dsimp only [Pt.U, Pt.locs, Pt.cells, Pt.slots] at X2 l2 y2 z2 st2 hQ2
  subst l2 y2 z2
  obtain ⟨rfl, N2q, eh2⟩ := hQ2
  have N2 := Fr.app N1 N2q
  obtain ⟨T3, h3, X3, e3, W3, st3⟩ := putF X2 hx hZ hown (host := "") (Or.inl (hw _ (List.mem_of_getElem? (i := 63) rfl))) Via.refl eh2 F_hi_front E_hi (Or.inl (hw _ (List.mem_of_getElem? (i := 64) rfl))) (hw _ (List.mem_of_getElem? (i := 52) rfl)) (ty := (.object "com/example/unhurried_reaper/unhurriedreaper/Task")) (by decide) rfl rfl (g := (mkF m 16 #[.val (.ref hi), .val (.ref tk), .val .null, .val .null] [.null, (.ref hi)])) rfl rfl (hb hby d11_16)
  have E3_hi := E_hi.wr W3
  have F3_hi_front := F_hi_front.same W3
  have F3_hi_bringings := F_hi_bringings.other W3 (Or.inr (slot_ne (Or.inl (hw _ (List.mem_of_getElem? (i := 80) rfl))) (Or.inl (hw _ (List.mem_of_getElem? (i := 64) rfl))) (by decide) (t := .long) (t' := (.object "com/example/unhurried_reaper/unhurriedreaper/Task")) (by decide) (by decide)))
  have E3_tk := E_tk.wr W3
  have F3_tk_nearerFront := F_tk_nearerFront.other W3 (Or.inl (Ne.symm ne_hi_tk))
  have F3_tk_furtherBack := F_tk_furtherBack.other W3 (Or.inl (Ne.symm ne_hi_tk))
  have F3_tk_frontedAt := F_tk_frontedAt.other W3 (Or.inl (Ne.symm ne_hi_tk))
  have N3 := Fr.snoc X3 N2 ge_hi
  have K3 : Keep h0 h3 [hi, tk] := (Keep.refl h0 [hi, tk]).wr W3 (Or.inl (List.mem_of_getElem? (i := 0) rfl))
  obtain ⟨cq4, kq4, q4a, q4b, q4c⟩ := isOf hZ e3 E3_tk
  obtain ⟨_, _, ⟨T4, L4, k4, n4⟩, -, X4, ⟨Lc4, hQ4, l4, y4, z4⟩, st4⟩ := X3.virtualBack hx (y := (⟨"com/example/unhurried_reaper/unhurriedreaper/Task", "setNearerFront", "(Lcom/example/unhurried_reaper/unhurriedreaper/Task;)V"⟩ : MethodName)) (z := (⟨"com/example/unhurried_reaper/unhurriedreaper/Task", "setNearerFront", "(Lcom/example/unhurried_reaper/unhurriedreaper/Task;)V"⟩ : MethodName)) hown (mvT hZ (hw _ (List.mem_of_getElem? (i := 98) rfl))) (mvT hZ (hw _ (List.mem_of_getElem? (i := 99) rfl))) (notFace_of_selects (args := #[]) (mvT hZ (hw _ (List.mem_of_getElem? (i := 101) rfl)))) (mvT hZ (hw _ (List.mem_of_getElem? (i := 101) rfl))) (mvT hZ (hw _ (List.mem_of_getElem? (i := 100) rfl))) (by decide) (backOf (W := 0) (rm13 l Z a0 hw [] tk .null .null h3 n0 (Nat.le_trans Z0 (Keep.of_wr W3).1) rfl ge_tk E3_tk F3_tk_nearerFront) hZ (hw _ (List.mem_of_getElem? (i := 102) rfl)) (hw _ (List.mem_of_getElem? (i := 4) rfl)) (by decide) (by decide)) q4a q4c (g := (mkF m 38 #[.val (.ref hi), .val (.ref tk), .val .null, .val .null] [.null, (.ref tk)])) rfl (by rw [hml]; rfl) (Steps.refl _) (argsL := [.null]) (rest := []) (lenOf pd_2 rfl) rfl (by show 2 * 0 + _ ≤ _; exact Nat.le_of_eq rfl) (hb hby d11_38) (fun _ _ => ⟨rfl, e3, (by decide : 0 + 0 ≤ _), (by decide : 0 + 0 ≤ _)⟩)
  dsimp only [Pt.U, Pt.locs, Pt.cells, Pt.slots] at X4 l4 y4 z4 st4 hQ4
  subst l4 y4 z4
  obtain ⟨rfl, N4q, W4⟩ := hQ4
  have N4 := Fr.app N3 N4q
  obtain ⟨h4, e4⟩ : ∃ z : Heap, T4.heap = z := ⟨_, rfl⟩
  rw [e4] at W4
  have E4_hi := E3_hi.wr W4
  have F4_hi_front := F3_hi_front.other W4 (Or.inl ne_hi_tk)
  have F4_hi_bringings := F3_hi_bringings.other W4 (Or.inl ne_hi_tk)
  have E4_tk := E3_tk.wr W4
  have F4_tk_nearerFront := F3_tk_nearerFront.same W4
  have F4_tk_furtherBack := F3_tk_furtherBack.other W4 (Or.inr (slot_ne (Or.inl (hw _ (List.mem_of_getElem? (i := 78) rfl))) (Or.inl (hw _ (List.mem_of_getElem? (i := 71) rfl))) (by decide) (t := (.object "com/example/unhurried_reaper/unhurriedreaper/Task")) (t' := (.object "com/example/unhurried_reaper/unhurriedreaper/Task")) (by decide) (by decide)))
  have F4_tk_frontedAt := F3_tk_frontedAt.other W4 (Or.inr (slot_ne (Or.inl (hw _ (List.mem_of_getElem? (i := 87) rfl))) (Or.inl (hw _ (List.mem_of_getElem? (i := 71) rfl))) (by decide) (t := .long) (t' := (.object "com/example/unhurried_reaper/unhurriedreaper/Task")) (by decide) (by decide)))
  have K4 : Keep h0 h4 [hi, tk] := K3.wr W4 (Or.inl (List.mem_of_getElem? (i := 1) rfl))
  obtain ⟨cq5, kq5, q5a, q5b, q5c⟩ := isOf hZ e4 E4_tk
  obtain ⟨_, _, ⟨T5, L5, k5, n5⟩, -, X5, ⟨Lc5, hQ5, l5, y5, z5⟩, st5⟩ := X4.virtualBack hx (y := (⟨"com/example/unhurried_reaper/unhurriedreaper/Task", "setFurtherBack", "(Lcom/example/unhurried_reaper/unhurriedreaper/Task;)V"⟩ : MethodName)) (z := (⟨"com/example/unhurried_reaper/unhurriedreaper/Task", "setFurtherBack", "(Lcom/example/unhurried_reaper/unhurriedreaper/Task;)V"⟩ : MethodName)) hown (mvT hZ (hw _ (List.mem_of_getElem? (i := 72) rfl))) (mvT hZ (hw _ (List.mem_of_getElem? (i := 73) rfl))) (notFace_of_selects (args := #[]) (mvT hZ (hw _ (List.mem_of_getElem? (i := 75) rfl)))) (mvT hZ (hw _ (List.mem_of_getElem? (i := 75) rfl))) (mvT hZ (hw _ (List.mem_of_getElem? (i := 74) rfl))) (by decide) (backOf (W := 0) (rm9 l Z a0 hw [] tk .null .null h4 n0 (Nat.le_trans (Nat.le_trans Z0 (Keep.of_wr W3).1) (Keep.of_wr W4).1) rfl ge_tk E4_tk F4_tk_furtherBack) hZ (hw _ (List.mem_of_getElem? (i := 76) rfl)) (hw _ (List.mem_of_getElem? (i := 4) rfl)) (by decide) (by decide)) q5a q5c (g := (mkF m 43 #[.val (.ref hi), .val (.ref tk), .val .null, .val .null] [.null, (.ref tk)])) rfl (by rw [hml]; rfl) (Steps.refl _) (argsL := [.null]) (rest := []) (lenOf pd_2 rfl) rfl (by show 2 * 0 + _ ≤ _; exact Nat.le_of_eq rfl) (hb hby d11_43) (fun _ _ => ⟨rfl, e4, (by decide : 0 + 0 ≤ _), (by decide : 0 + 0 ≤ _)⟩)
  dsimp only [Pt.U, Pt.locs, Pt.cells, Pt.slots] at X5 l5 y5 z5 st5 hQ5
  subst l5 y5 z5
  obtain ⟨rfl, N5q, W5⟩ := hQ5
  have N5 := Fr.app N4 N5q
  obtain ⟨h5, e5⟩ : ∃ z : Heap, T5.heap = z := ⟨_, rfl⟩
  rw [e5] at W5
  have E5_hi := E4_hi.wr W5
  have F5_hi_front := F4_hi_front.other W5 (Or.inl ne_hi_tk)
  have F5_hi_bringings := F4_hi_bringings.other W5 (Or.inl ne_hi_tk)
  have E5_tk := E4_tk.wr W5
  have F5_tk_nearerFront := F4_tk_nearerFront.other W5 (Or.inr (slot_ne (Or.inl (hw _ (List.mem_of_getElem? (i := 71) rfl))) (Or.inl (hw _ (List.mem_of_getElem? (i := 78) rfl))) (by decide) (t := (.object "com/example/unhurried_reaper/unhurriedreaper/Task")) (t' := (.object "com/example/unhurried_reaper/unhurriedreaper/Task")) (by decide) (by decide)))
  have F5_tk_furtherBack := F4_tk_furtherBack.same W5
  have F5_tk_frontedAt := F4_tk_frontedAt.other W5 (Or.inr (slot_ne (Or.inl (hw _ (List.mem_of_getElem? (i := 87) rfl))) (Or.inl (hw _ (List.mem_of_getElem? (i := 78) rfl))) (by decide) (t := .long) (t' := (.object "com/example/unhurried_reaper/unhurriedreaper/Task")) (by decide) (by decide)))
  have K5 : Keep h0 h5 [hi, tk] := K4.wr W5 (Or.inl (List.mem_of_getElem? (i := 1) rfl))
  obtain ⟨fs, hr, hrun, hended, hW, hsame⟩ := X5.leave (v := none) (fun _ => rfl)
  refine ⟨_, _, go0 _ ?_, hrun, hended, _, _, rfl, ?_, ⟨_, rfl⟩, hW, hsame.mono (by decide) (by decide)⟩
  · show Steps p.tables e below (s₁.setTop (mkF m 0 #[.val (.ref hi), .val (.ref tk), .unset, .unset] [])) _
    refine XS.aloadN X0.here hx rfl (hb hby d11_0) rfl rfl ?_
    show Steps p.tables e below (s₁.setTop (mkF m 1 #[.val (.ref hi), .val (.ref tk), .unset, .unset] [(.ref tk)])) _
    refine st1.trans ?_
    show Steps p.tables e below (T1.setTop (mkF m 4 #[.val (.ref hi), .val (.ref tk), .unset, .unset] [.null])) _
    refine XS.astoreN X1.here hx rfl (hb hby d11_4) rfl rfl (l' := #[.val (.ref hi), .val (.ref tk), .val .null, .unset]) rfl ?_
    show Steps p.tables e below (T1.setTop (mkF m 5 #[.val (.ref hi), .val (.ref tk), .val .null, .unset] [])) _
    refine XS.aloadN X1.here hx rfl (hb hby d11_5) rfl rfl ?_
    show Steps p.tables e below (T1.setTop (mkF m 6 #[.val (.ref hi), .val (.ref tk), .val .null, .unset] [(.ref tk)])) _
    refine st2.trans ?_
    show Steps p.tables e below (T2.setTop (mkF m 9 #[.val (.ref hi), .val (.ref tk), .val .null, .unset] [.null])) _
    refine XS.astoreN X2.here hx rfl (hb hby d11_9) rfl rfl (l' := #[.val (.ref hi), .val (.ref tk), .val .null, .val .null]) rfl ?_
    show Steps p.tables e below (T2.setTop (mkF m 10 #[.val (.ref hi), .val (.ref tk), .val .null, .val .null] [])) _
    refine XS.aloadN X2.here hx rfl (hb hby d11_10) rfl rfl ?_
    show Steps p.tables e below (T2.setTop (mkF m 11 #[.val (.ref hi), .val (.ref tk), .val .null, .val .null] [.null])) _
    refine XS.ifnonnullNo X2.here hx rfl (hb hby d11_11) rfl ?_
    show Steps p.tables e below (T2.setTop (mkF m 14 #[.val (.ref hi), .val (.ref tk), .val .null, .val .null] [])) _
    refine XS.aloadN X2.here hx rfl (hb hby d11_14) rfl rfl ?_
    show Steps p.tables e below (T2.setTop (mkF m 15 #[.val (.ref hi), .val (.ref tk), .val .null, .val .null] [(.ref hi)])) _
    refine XS.aloadN X2.here hx rfl (hb hby d11_15) rfl rfl ?_
    show Steps p.tables e below (T2.setTop (mkF m 16 #[.val (.ref hi), .val (.ref tk), .val .null, .val .null] [.null, (.ref hi)])) _
    refine st3 _ ?_
    show Steps p.tables e below (T3.setTop (mkF m 19 #[.val (.ref hi), .val (.ref tk), .val .null, .val .null] [])) _
    refine XS.goto X3.here hx rfl (pc0 := 19) (pc' := 27) rfl (hb hby d11_19) (by decide) (by decide) ?_
    show Steps p.tables e below (T3.setTop (mkF m 27 #[.val (.ref hi), .val (.ref tk), .val .null, .val .null] [])) _
    refine XS.aloadN X3.here hx rfl (hb hby d11_27) rfl rfl ?_
    show Steps p.tables e below (T3.setTop (mkF m 28 #[.val (.ref hi), .val (.ref tk), .val .null, .val .null] [.null])) _
    refine XS.ifnullYes X3.here hx rfl (pc0 := 28) (pc' := 36) rfl (hb hby d11_28) rfl (by decide) (by decide) ?_
    show Steps p.tables e below (T3.setTop (mkF m 36 #[.val (.ref hi), .val (.ref tk), .val .null, .val .null] [])) _
    refine XS.aloadN X3.here hx rfl (hb hby d11_36) rfl rfl ?_
    show Steps p.tables e below (T3.setTop (mkF m 37 #[.val (.ref hi), .val (.ref tk), .val .null, .val .null] [(.ref tk)])) _
    refine XS.aconstNull X3.here hx rfl (hb hby d11_37) ?_
    show Steps p.tables e below (T3.setTop (mkF m 38 #[.val (.ref hi), .val (.ref tk), .val .null, .val .null] [.null, (.ref tk)])) _
    refine st4.trans ?_
    show Steps p.tables e below (T4.setTop (mkF m 41 #[.val (.ref hi), .val (.ref tk), .val .null, .val .null] [])) _
    refine XS.aloadN X4.here hx rfl (hb hby d11_41) rfl rfl ?_
    show Steps p.tables e below (T4.setTop (mkF m 42 #[.val (.ref hi), .val (.ref tk), .val .null, .val .null] [(.ref tk)])) _
    refine XS.aconstNull X4.here hx rfl (hb hby d11_42) ?_
    show Steps p.tables e below (T4.setTop (mkF m 43 #[.val (.ref hi), .val (.ref tk), .val .null, .val .null] [.null, (.ref tk)])) _
    refine st5.trans ?_
    show Steps p.tables e below (T5.setTop (mkF m 46 #[.val (.ref hi), .val (.ref tk), .val .null, .val .null] [])) _
    exact X5.returnOut hx Bd.returns (hb hby d11_46) hr
  · show Q11nn Z hi tk br q h0 n0 _ T5.heap _
    rw [e5]
    exact ⟨rfl, N5, K5, F5_hi_front, F5_hi_bringings, F5_tk_nearerFront, F5_tk_furtherBack, F5_tk_frontedAt⟩
theorem ef_11nb (m : MethodId) (hi : Addr) (tk : Addr) : entryFrame m #[(.ref hi), (.ref tk)] 4 = mkF m 0 #[.val (.ref hi), .val (.ref tk), .unset, .unset] [] := by first | (simp [entryFrame, mkF, argsToLocals, Value.category]; done) | rfl
def Q11nb (Z : State) (hi tk b : Addr) (br q qb : Int64) (wb : Value) (h0 : Heap) (n0 : Nat) (v : Option Value) (h : Heap) (L : List Loc) : Prop := v = none ∧ Fr n0 L ∧ Keep h0 h [hi, tk, b] ∧ Fld Z h hi "com/example/unhurried_reaper/unhurriedreaper/TaskHistory" "front" "Lcom/example/unhurried_reaper/unhurriedreaper/Task;" (.ref b) ∧ Fld Z h hi "com/example/unhurried_reaper/unhurriedreaper/TaskHistory" "bringings" "J" (.long br) ∧ Fld Z h tk "com/example/unhurried_reaper/unhurriedreaper/Task" "nearerFront" "Lcom/example/unhurried_reaper/unhurriedreaper/Task;" .null ∧ Fld Z h tk "com/example/unhurried_reaper/unhurriedreaper/Task" "furtherBack" "Lcom/example/unhurried_reaper/unhurriedreaper/Task;" .null ∧ Fld Z h tk "com/example/unhurried_reaper/unhurriedreaper/Task" "frontedAt" "J" (.long q) ∧ Fld Z h b "com/example/unhurried_reaper/unhurriedreaper/Task" "nearerFront" "Lcom/example/unhurried_reaper/unhurriedreaper/Task;" .null ∧ Fld Z h b "com/example/unhurried_reaper/unhurriedreaper/Task" "furtherBack" "Lcom/example/unhurried_reaper/unhurriedreaper/Task;" wb ∧ Fld Z h b "com/example/unhurried_reaper/unhurriedreaper/Task" "frontedAt" "J" (.long qb)
theorem d11_31 : decode prog_34_method_3_code 31 = .ok (.aload_n 3, 1) := by decide +kernel
theorem d11_32 : decode prog_34_method_3_code 32 = .ok (.aload_n 2, 1) := by decide +kernel
theorem d11_33 : decode prog_34_method_3_code 33 = .ok (.invokevirtual 26, 3) := by decide +kernel
set_option maxRecDepth 65536 in
set_option maxHeartbeats 40000000 in
theorem rm11nb (l : Launch) (Z : State) (a0 : Array Value) (hw : ∀ d ∈ tables_1, d.before a0 Z = true) (ws : List Jvm.Cond) (hi tk b : Addr) (br q qb : Int64) (wb : Value) (h0 : Heap) (n0 : Nat) (Z0 : n0 ≤ h0.size) (ge_hi : n0 ≤ hi) (E_hi : Exa Z h0 hi "com/example/unhurried_reaper/unhurriedreaper/TaskHistory") (F_hi_front : Fld Z h0 hi "com/example/unhurried_reaper/unhurriedreaper/TaskHistory" "front" "Lcom/example/unhurried_reaper/unhurriedreaper/Task;" (.ref tk)) (F_hi_bringings : Fld Z h0 hi "com/example/unhurried_reaper/unhurriedreaper/TaskHistory" "bringings" "J" (.long br)) (ge_tk : n0 ≤ tk) (E_tk : Exa Z h0 tk "com/example/unhurried_reaper/unhurriedreaper/Task") (F_tk_nearerFront : Fld Z h0 tk "com/example/unhurried_reaper/unhurriedreaper/Task" "nearerFront" "Lcom/example/unhurried_reaper/unhurriedreaper/Task;" .null) (F_tk_furtherBack : Fld Z h0 tk "com/example/unhurried_reaper/unhurriedreaper/Task" "furtherBack" "Lcom/example/unhurried_reaper/unhurriedreaper/Task;" (.ref b)) (F_tk_frontedAt : Fld Z h0 tk "com/example/unhurried_reaper/unhurriedreaper/Task" "frontedAt" "J" (.long q)) (ge_b : n0 ≤ b) (E_b : Exa Z h0 b "com/example/unhurried_reaper/unhurriedreaper/Task") (F_b_nearerFront : Fld Z h0 b "com/example/unhurried_reaper/unhurriedreaper/Task" "nearerFront" "Lcom/example/unhurried_reaper/unhurriedreaper/Task;" (.ref tk)) (F_b_furtherBack : Fld Z h0 b "com/example/unhurried_reaper/unhurriedreaper/Task" "furtherBack" "Lcom/example/unhurried_reaper/unhurriedreaper/Task;" wb) (F_b_frontedAt : Fld Z h0 b "com/example/unhurried_reaper/unhurriedreaper/Task" "frontedAt" "J" (.long qb)) (ne_hi_tk : hi ≠ tk) (ne_hi_b : hi ≠ b) (ne_tk_b : tk ≠ b) :
    MetFree l (⟨"com/example/unhurried_reaper/unhurriedreaper/TaskHistory", "remove", "(Lcom/example/unhurried_reaper/unhurriedreaper/Task;)V"⟩ : MethodName) (head1 (Jvm.Cond.code (⟨"com/example/unhurried_reaper/unhurriedreaper/TaskHistory", "remove", "(Lcom/example/unhurried_reaper/unhurriedreaper/Task;)V"⟩ : MethodName) prog_34_method_3_code 4 none :: ws) ({ frames := 1, cells := 0, slots := 0, locals := 20 } : Room)) (fun a U => a = #[(.ref hi), (.ref tk)] ∧ Z.Warmed39 U.vm ∧ U.heap = h0) (fun _ _ _ _ _ => True) (fun _ U oU U' => ∃ v L, oU = .returned v ∧ Q11nb Z hi tk b br q qb wb h0 n0 v U'.heap L ∧ FrameEnd U oU U' L ({ frames := 1, cells := 0, slots := 0, locals := 20 } : Room).cells ({ frames := 1, cells := 0, slots := 0, locals := 20 } : Room).slots) := by
  refine MetFree.of_bodySF (plainFor_of_name pn_6) hisR ?_
  intro p e s m args below meth c s₁ Bd hml0 hP hK
  obtain ⟨rfl, hZ, hh⟩ := hP
  have hx := Bd.exec
  have hby := Bd.bytes
  have hml : c.maxLocals = 4 := hml0
  have hown : s.vm.findClass "com/example/unhurried_reaper/unhurriedreaper/TaskHistory" = some m.cls := findClass_of_methodNamed Bd.named
  have hnm := (name_of_methodNamed Bd.named Bd.method).1
  have X0 : Stand p l e ({ frames := 1, cells := 0, slots := 0, locals := 20 } : Room) s m #[(.ref hi), (.ref tk)] below meth c s₁ [] 0 0 := Stand.of_body Bd
  have e0 : s₁.heap = h0 := by rw [← hh, Bd.state]; rfl
  have N0 := Fr.nil n0
  have go0 : ∀ t, Steps p.tables e below (s₁.setTop (mkF m 0 #[.val (.ref hi), .val (.ref tk), .unset, .unset] [])) t → Steps p.tables e below (s₁.setTop (entryFrame m #[(.ref hi), (.ref tk)] 4)) t := fun t k => castTop (ef_11nb m hi tk) k
  obtain ⟨cq1, kq1, q1a, q1b, q1c⟩ := isOf hZ e0 E_tk
  obtain ⟨_, _, ⟨T1, L1, k1, n1⟩, -, X1, ⟨Lc1, hQ1, l1, y1, z1⟩, st1⟩ := X0.virtualBack hx (y := (⟨"com/example/unhurried_reaper/unhurriedreaper/Task", "nearerFront", "()Lcom/example/unhurried_reaper/unhurriedreaper/Task;"⟩ : MethodName)) (z := (⟨"com/example/unhurried_reaper/unhurriedreaper/Task", "nearerFront", "()Lcom/example/unhurried_reaper/unhurriedreaper/Task;"⟩ : MethodName)) hown (mvT hZ (hw _ (List.mem_of_getElem? (i := 65) rfl))) (mvT hZ (hw _ (List.mem_of_getElem? (i := 66) rfl))) (notFace_of_selects (args := #[]) (mvT hZ (hw _ (List.mem_of_getElem? (i := 68) rfl)))) (mvT hZ (hw _ (List.mem_of_getElem? (i := 68) rfl))) (mvT hZ (hw _ (List.mem_of_getElem? (i := 67) rfl))) (by decide) (backOf (W := 0) (rm8N l Z a0 hw [] tk h0 n0 Z0 F_tk_nearerFront) hZ (hw _ (List.mem_of_getElem? (i := 69) rfl)) (hw _ (List.mem_of_getElem? (i := 4) rfl)) (by decide) (by decide)) q1a q1c (g := (mkF m 1 #[.val (.ref hi), .val (.ref tk), .unset, .unset] [(.ref tk)])) rfl (by rw [hml]; rfl) (Steps.refl _) (argsL := []) (rest := []) (lenOf pd_1 rfl) rfl (by show 2 * 0 + _ ≤ _; exact Nat.le_of_eq rfl) (hb hby d11_1) (fun _ _ => ⟨rfl, e0, (by decide : 0 + 0 ≤ _), (by decide : 0 + 0 ≤ _)⟩)
  dsimp only [Pt.U, Pt.locs, Pt.cells, Pt.slots] at X1 l1 y1 z1 st1 hQ1
  subst l1 y1 z1
  obtain ⟨rfl, N1q, eh1⟩ := hQ1
  have N1 := Fr.app N0 N1q
  obtain ⟨cq2, kq2, q2a, q2b, q2c⟩ := isOf hZ eh1 E_tk
  obtain ⟨_, _, ⟨T2, L2, k2, n2⟩, -, X2, ⟨Lc2, hQ2, l2, y2, z2⟩, st2⟩ := X1.virtualBack hx (y := (⟨"com/example/unhurried_reaper/unhurriedreaper/Task", "furtherBack", "()Lcom/example/unhurried_reaper/unhurriedreaper/Task;"⟩ : MethodName)) (z := (⟨"com/example/unhurried_reaper/unhurriedreaper/Task", "furtherBack", "()Lcom/example/unhurried_reaper/unhurriedreaper/Task;"⟩ : MethodName)) hown (mvT hZ (hw _ (List.mem_of_getElem? (i := 93) rfl))) (mvT hZ (hw _ (List.mem_of_getElem? (i := 94) rfl))) (notFace_of_selects (args := #[]) (mvT hZ (hw _ (List.mem_of_getElem? (i := 96) rfl)))) (mvT hZ (hw _ (List.mem_of_getElem? (i := 96) rfl))) (mvT hZ (hw _ (List.mem_of_getElem? (i := 95) rfl))) (by decide) (backOf (W := 0) (rm12R l Z a0 hw [] tk b h0 n0 Z0 F_tk_furtherBack) hZ (hw _ (List.mem_of_getElem? (i := 97) rfl)) (hw _ (List.mem_of_getElem? (i := 4) rfl)) (by decide) (by decide)) q2a q2c (g := (mkF m 6 #[.val (.ref hi), .val (.ref tk), .val .null, .unset] [(.ref tk)])) rfl (by rw [hml]; rfl) (Steps.refl _) (argsL := []) (rest := []) (lenOf pd_1 rfl) rfl (by show 2 * 0 + _ ≤ _; exact Nat.le_of_eq rfl) (hb hby d11_6) (fun _ _ => ⟨rfl, eh1, (by decide : 0 + 0 ≤ _), (by decide : 0 + 0 ≤ _)⟩)
  dsimp only [Pt.U, Pt.locs, Pt.cells, Pt.slots] at X2 l2 y2 z2 st2 hQ2
  subst l2 y2 z2
  obtain ⟨rfl, N2q, eh2⟩ := hQ2
  have N2 := Fr.app N1 N2q
  obtain ⟨T3, h3, X3, e3, W3, st3⟩ := putF X2 hx hZ hown (host := "") (Or.inl (hw _ (List.mem_of_getElem? (i := 63) rfl))) Via.refl eh2 F_hi_front E_hi (Or.inl (hw _ (List.mem_of_getElem? (i := 64) rfl))) (hw _ (List.mem_of_getElem? (i := 52) rfl)) (ty := (.object "com/example/unhurried_reaper/unhurriedreaper/Task")) (by decide) rfl rfl (g := (mkF m 16 #[.val (.ref hi), .val (.ref tk), .val .null, .val (.ref b)] [(.ref b), (.ref hi)])) rfl rfl (hb hby d11_16)
  have E3_hi := E_hi.wr W3
  have F3_hi_front := F_hi_front.same W3
  have F3_hi_bringings := F_hi_bringings.other W3 (Or.inr (slot_ne (Or.inl (hw _ (List.mem_of_getElem? (i := 80) rfl))) (Or.inl (hw _ (List.mem_of_getElem? (i := 64) rfl))) (by decide) (t := .long) (t' := (.object "com/example/unhurried_reaper/unhurriedreaper/Task")) (by decide) (by decide)))
  have E3_tk := E_tk.wr W3
  have F3_tk_nearerFront := F_tk_nearerFront.other W3 (Or.inl (Ne.symm ne_hi_tk))
  have F3_tk_furtherBack := F_tk_furtherBack.other W3 (Or.inl (Ne.symm ne_hi_tk))
  have F3_tk_frontedAt := F_tk_frontedAt.other W3 (Or.inl (Ne.symm ne_hi_tk))
  have E3_b := E_b.wr W3
  have F3_b_nearerFront := F_b_nearerFront.other W3 (Or.inl (Ne.symm ne_hi_b))
  have F3_b_furtherBack := F_b_furtherBack.other W3 (Or.inl (Ne.symm ne_hi_b))
  have F3_b_frontedAt := F_b_frontedAt.other W3 (Or.inl (Ne.symm ne_hi_b))
  have N3 := Fr.snoc X3 N2 ge_hi
  have K3 : Keep h0 h3 [hi, tk, b] := (Keep.refl h0 [hi, tk, b]).wr W3 (Or.inl (List.mem_of_getElem? (i := 0) rfl))
  obtain ⟨cq4, kq4, q4a, q4b, q4c⟩ := isOf hZ e3 E3_b
  obtain ⟨_, _, ⟨T4, L4, k4, n4⟩, -, X4, ⟨Lc4, hQ4, l4, y4, z4⟩, st4⟩ := X3.virtualBack hx (y := (⟨"com/example/unhurried_reaper/unhurriedreaper/Task", "setNearerFront", "(Lcom/example/unhurried_reaper/unhurriedreaper/Task;)V"⟩ : MethodName)) (z := (⟨"com/example/unhurried_reaper/unhurriedreaper/Task", "setNearerFront", "(Lcom/example/unhurried_reaper/unhurriedreaper/Task;)V"⟩ : MethodName)) hown (mvT hZ (hw _ (List.mem_of_getElem? (i := 98) rfl))) (mvT hZ (hw _ (List.mem_of_getElem? (i := 99) rfl))) (notFace_of_selects (args := #[]) (mvT hZ (hw _ (List.mem_of_getElem? (i := 101) rfl)))) (mvT hZ (hw _ (List.mem_of_getElem? (i := 101) rfl))) (mvT hZ (hw _ (List.mem_of_getElem? (i := 100) rfl))) (by decide) (backOf (W := 0) (rm13 l Z a0 hw [] b .null (.ref tk) h3 n0 (Nat.le_trans Z0 (Keep.of_wr W3).1) rfl ge_b E3_b F3_b_nearerFront) hZ (hw _ (List.mem_of_getElem? (i := 102) rfl)) (hw _ (List.mem_of_getElem? (i := 4) rfl)) (by decide) (by decide)) q4a q4c (g := (mkF m 33 #[.val (.ref hi), .val (.ref tk), .val .null, .val (.ref b)] [.null, (.ref b)])) rfl (by rw [hml]; rfl) (Steps.refl _) (argsL := [.null]) (rest := []) (lenOf pd_2 rfl) rfl (by show 2 * 0 + _ ≤ _; exact Nat.le_of_eq rfl) (hb hby d11_33) (fun _ _ => ⟨rfl, e3, (by decide : 0 + 0 ≤ _), (by decide : 0 + 0 ≤ _)⟩)
  dsimp only [Pt.U, Pt.locs, Pt.cells, Pt.slots] at X4 l4 y4 z4 st4 hQ4
  subst l4 y4 z4
  obtain ⟨rfl, N4q, W4⟩ := hQ4
  have N4 := Fr.app N3 N4q
  obtain ⟨h4, e4⟩ : ∃ z : Heap, T4.heap = z := ⟨_, rfl⟩
  rw [e4] at W4
  have E4_hi := E3_hi.wr W4
  have F4_hi_front := F3_hi_front.other W4 (Or.inl ne_hi_b)
  have F4_hi_bringings := F3_hi_bringings.other W4 (Or.inl ne_hi_b)
  have E4_tk := E3_tk.wr W4
  have F4_tk_nearerFront := F3_tk_nearerFront.other W4 (Or.inl ne_tk_b)
  have F4_tk_furtherBack := F3_tk_furtherBack.other W4 (Or.inl ne_tk_b)
  have F4_tk_frontedAt := F3_tk_frontedAt.other W4 (Or.inl ne_tk_b)
  have E4_b := E3_b.wr W4
  have F4_b_nearerFront := F3_b_nearerFront.same W4
  have F4_b_furtherBack := F3_b_furtherBack.other W4 (Or.inr (slot_ne (Or.inl (hw _ (List.mem_of_getElem? (i := 78) rfl))) (Or.inl (hw _ (List.mem_of_getElem? (i := 71) rfl))) (by decide) (t := (.object "com/example/unhurried_reaper/unhurriedreaper/Task")) (t' := (.object "com/example/unhurried_reaper/unhurriedreaper/Task")) (by decide) (by decide)))
  have F4_b_frontedAt := F3_b_frontedAt.other W4 (Or.inr (slot_ne (Or.inl (hw _ (List.mem_of_getElem? (i := 87) rfl))) (Or.inl (hw _ (List.mem_of_getElem? (i := 71) rfl))) (by decide) (t := .long) (t' := (.object "com/example/unhurried_reaper/unhurriedreaper/Task")) (by decide) (by decide)))
  have K4 : Keep h0 h4 [hi, tk, b] := K3.wr W4 (Or.inl (List.mem_of_getElem? (i := 2) rfl))
  obtain ⟨cq5, kq5, q5a, q5b, q5c⟩ := isOf hZ e4 E4_tk
  obtain ⟨_, _, ⟨T5, L5, k5, n5⟩, -, X5, ⟨Lc5, hQ5, l5, y5, z5⟩, st5⟩ := X4.virtualBack hx (y := (⟨"com/example/unhurried_reaper/unhurriedreaper/Task", "setNearerFront", "(Lcom/example/unhurried_reaper/unhurriedreaper/Task;)V"⟩ : MethodName)) (z := (⟨"com/example/unhurried_reaper/unhurriedreaper/Task", "setNearerFront", "(Lcom/example/unhurried_reaper/unhurriedreaper/Task;)V"⟩ : MethodName)) hown (mvT hZ (hw _ (List.mem_of_getElem? (i := 98) rfl))) (mvT hZ (hw _ (List.mem_of_getElem? (i := 99) rfl))) (notFace_of_selects (args := #[]) (mvT hZ (hw _ (List.mem_of_getElem? (i := 101) rfl)))) (mvT hZ (hw _ (List.mem_of_getElem? (i := 101) rfl))) (mvT hZ (hw _ (List.mem_of_getElem? (i := 100) rfl))) (by decide) (backOf (W := 0) (rm13 l Z a0 hw [] tk .null .null h4 n0 (Nat.le_trans (Nat.le_trans Z0 (Keep.of_wr W3).1) (Keep.of_wr W4).1) rfl ge_tk E4_tk F4_tk_nearerFront) hZ (hw _ (List.mem_of_getElem? (i := 102) rfl)) (hw _ (List.mem_of_getElem? (i := 4) rfl)) (by decide) (by decide)) q5a q5c (g := (mkF m 38 #[.val (.ref hi), .val (.ref tk), .val .null, .val (.ref b)] [.null, (.ref tk)])) rfl (by rw [hml]; rfl) (Steps.refl _) (argsL := [.null]) (rest := []) (lenOf pd_2 rfl) rfl (by show 2 * 0 + _ ≤ _; exact Nat.le_of_eq rfl) (hb hby d11_38) (fun _ _ => ⟨rfl, e4, (by decide : 0 + 0 ≤ _), (by decide : 0 + 0 ≤ _)⟩)
  dsimp only [Pt.U, Pt.locs, Pt.cells, Pt.slots] at X5 l5 y5 z5 st5 hQ5
  subst l5 y5 z5
  obtain ⟨rfl, N5q, W5⟩ := hQ5
  have N5 := Fr.app N4 N5q
  obtain ⟨h5, e5⟩ : ∃ z : Heap, T5.heap = z := ⟨_, rfl⟩
  rw [e5] at W5
  have E5_hi := E4_hi.wr W5
  have F5_hi_front := F4_hi_front.other W5 (Or.inl ne_hi_tk)
  have F5_hi_bringings := F4_hi_bringings.other W5 (Or.inl ne_hi_tk)
  have E5_tk := E4_tk.wr W5
  have F5_tk_nearerFront := F4_tk_nearerFront.same W5
  have F5_tk_furtherBack := F4_tk_furtherBack.other W5 (Or.inr (slot_ne (Or.inl (hw _ (List.mem_of_getElem? (i := 78) rfl))) (Or.inl (hw _ (List.mem_of_getElem? (i := 71) rfl))) (by decide) (t := (.object "com/example/unhurried_reaper/unhurriedreaper/Task")) (t' := (.object "com/example/unhurried_reaper/unhurriedreaper/Task")) (by decide) (by decide)))
  have F5_tk_frontedAt := F4_tk_frontedAt.other W5 (Or.inr (slot_ne (Or.inl (hw _ (List.mem_of_getElem? (i := 87) rfl))) (Or.inl (hw _ (List.mem_of_getElem? (i := 71) rfl))) (by decide) (t := .long) (t' := (.object "com/example/unhurried_reaper/unhurriedreaper/Task")) (by decide) (by decide)))
  have E5_b := E4_b.wr W5
  have F5_b_nearerFront := F4_b_nearerFront.other W5 (Or.inl (Ne.symm ne_tk_b))
  have F5_b_furtherBack := F4_b_furtherBack.other W5 (Or.inl (Ne.symm ne_tk_b))
  have F5_b_frontedAt := F4_b_frontedAt.other W5 (Or.inl (Ne.symm ne_tk_b))
  have K5 : Keep h0 h5 [hi, tk, b] := K4.wr W5 (Or.inl (List.mem_of_getElem? (i := 1) rfl))
  obtain ⟨cq6, kq6, q6a, q6b, q6c⟩ := isOf hZ e5 E5_tk
  obtain ⟨_, _, ⟨T6, L6, k6, n6⟩, -, X6, ⟨Lc6, hQ6, l6, y6, z6⟩, st6⟩ := X5.virtualBack hx (y := (⟨"com/example/unhurried_reaper/unhurriedreaper/Task", "setFurtherBack", "(Lcom/example/unhurried_reaper/unhurriedreaper/Task;)V"⟩ : MethodName)) (z := (⟨"com/example/unhurried_reaper/unhurriedreaper/Task", "setFurtherBack", "(Lcom/example/unhurried_reaper/unhurriedreaper/Task;)V"⟩ : MethodName)) hown (mvT hZ (hw _ (List.mem_of_getElem? (i := 72) rfl))) (mvT hZ (hw _ (List.mem_of_getElem? (i := 73) rfl))) (notFace_of_selects (args := #[]) (mvT hZ (hw _ (List.mem_of_getElem? (i := 75) rfl)))) (mvT hZ (hw _ (List.mem_of_getElem? (i := 75) rfl))) (mvT hZ (hw _ (List.mem_of_getElem? (i := 74) rfl))) (by decide) (backOf (W := 0) (rm9 l Z a0 hw [] tk .null (.ref b) h5 n0 (Nat.le_trans (Nat.le_trans (Nat.le_trans Z0 (Keep.of_wr W3).1) (Keep.of_wr W4).1) (Keep.of_wr W5).1) rfl ge_tk E5_tk F5_tk_furtherBack) hZ (hw _ (List.mem_of_getElem? (i := 76) rfl)) (hw _ (List.mem_of_getElem? (i := 4) rfl)) (by decide) (by decide)) q6a q6c (g := (mkF m 43 #[.val (.ref hi), .val (.ref tk), .val .null, .val (.ref b)] [.null, (.ref tk)])) rfl (by rw [hml]; rfl) (Steps.refl _) (argsL := [.null]) (rest := []) (lenOf pd_2 rfl) rfl (by show 2 * 0 + _ ≤ _; exact Nat.le_of_eq rfl) (hb hby d11_43) (fun _ _ => ⟨rfl, e5, (by decide : 0 + 0 ≤ _), (by decide : 0 + 0 ≤ _)⟩)
  dsimp only [Pt.U, Pt.locs, Pt.cells, Pt.slots] at X6 l6 y6 z6 st6 hQ6
  subst l6 y6 z6
  obtain ⟨rfl, N6q, W6⟩ := hQ6
  have N6 := Fr.app N5 N6q
  obtain ⟨h6, e6⟩ : ∃ z : Heap, T6.heap = z := ⟨_, rfl⟩
  rw [e6] at W6
  have E6_hi := E5_hi.wr W6
  have F6_hi_front := F5_hi_front.other W6 (Or.inl ne_hi_tk)
  have F6_hi_bringings := F5_hi_bringings.other W6 (Or.inl ne_hi_tk)
  have E6_tk := E5_tk.wr W6
  have F6_tk_nearerFront := F5_tk_nearerFront.other W6 (Or.inr (slot_ne (Or.inl (hw _ (List.mem_of_getElem? (i := 71) rfl))) (Or.inl (hw _ (List.mem_of_getElem? (i := 78) rfl))) (by decide) (t := (.object "com/example/unhurried_reaper/unhurriedreaper/Task")) (t' := (.object "com/example/unhurried_reaper/unhurriedreaper/Task")) (by decide) (by decide)))
  have F6_tk_furtherBack := F5_tk_furtherBack.same W6
  have F6_tk_frontedAt := F5_tk_frontedAt.other W6 (Or.inr (slot_ne (Or.inl (hw _ (List.mem_of_getElem? (i := 87) rfl))) (Or.inl (hw _ (List.mem_of_getElem? (i := 78) rfl))) (by decide) (t := .long) (t' := (.object "com/example/unhurried_reaper/unhurriedreaper/Task")) (by decide) (by decide)))
  have E6_b := E5_b.wr W6
  have F6_b_nearerFront := F5_b_nearerFront.other W6 (Or.inl (Ne.symm ne_tk_b))
  have F6_b_furtherBack := F5_b_furtherBack.other W6 (Or.inl (Ne.symm ne_tk_b))
  have F6_b_frontedAt := F5_b_frontedAt.other W6 (Or.inl (Ne.symm ne_tk_b))
  have K6 : Keep h0 h6 [hi, tk, b] := K5.wr W6 (Or.inl (List.mem_of_getElem? (i := 1) rfl))
  obtain ⟨fs, hr, hrun, hended, hW, hsame⟩ := X6.leave (v := none) (fun _ => rfl)
  refine ⟨_, _, go0 _ ?_, hrun, hended, _, _, rfl, ?_, ⟨_, rfl⟩, hW, hsame.mono (by decide) (by decide)⟩
  · show Steps p.tables e below (s₁.setTop (mkF m 0 #[.val (.ref hi), .val (.ref tk), .unset, .unset] [])) _
    refine XS.aloadN X0.here hx rfl (hb hby d11_0) rfl rfl ?_
    show Steps p.tables e below (s₁.setTop (mkF m 1 #[.val (.ref hi), .val (.ref tk), .unset, .unset] [(.ref tk)])) _
    refine st1.trans ?_
    show Steps p.tables e below (T1.setTop (mkF m 4 #[.val (.ref hi), .val (.ref tk), .unset, .unset] [.null])) _
    refine XS.astoreN X1.here hx rfl (hb hby d11_4) rfl rfl (l' := #[.val (.ref hi), .val (.ref tk), .val .null, .unset]) rfl ?_
    show Steps p.tables e below (T1.setTop (mkF m 5 #[.val (.ref hi), .val (.ref tk), .val .null, .unset] [])) _
    refine XS.aloadN X1.here hx rfl (hb hby d11_5) rfl rfl ?_
    show Steps p.tables e below (T1.setTop (mkF m 6 #[.val (.ref hi), .val (.ref tk), .val .null, .unset] [(.ref tk)])) _
    refine st2.trans ?_
    show Steps p.tables e below (T2.setTop (mkF m 9 #[.val (.ref hi), .val (.ref tk), .val .null, .unset] [(.ref b)])) _
    refine XS.astoreN X2.here hx rfl (hb hby d11_9) rfl rfl (l' := #[.val (.ref hi), .val (.ref tk), .val .null, .val (.ref b)]) rfl ?_
    show Steps p.tables e below (T2.setTop (mkF m 10 #[.val (.ref hi), .val (.ref tk), .val .null, .val (.ref b)] [])) _
    refine XS.aloadN X2.here hx rfl (hb hby d11_10) rfl rfl ?_
    show Steps p.tables e below (T2.setTop (mkF m 11 #[.val (.ref hi), .val (.ref tk), .val .null, .val (.ref b)] [.null])) _
    refine XS.ifnonnullNo X2.here hx rfl (hb hby d11_11) rfl ?_
    show Steps p.tables e below (T2.setTop (mkF m 14 #[.val (.ref hi), .val (.ref tk), .val .null, .val (.ref b)] [])) _
    refine XS.aloadN X2.here hx rfl (hb hby d11_14) rfl rfl ?_
    show Steps p.tables e below (T2.setTop (mkF m 15 #[.val (.ref hi), .val (.ref tk), .val .null, .val (.ref b)] [(.ref hi)])) _
    refine XS.aloadN X2.here hx rfl (hb hby d11_15) rfl rfl ?_
    show Steps p.tables e below (T2.setTop (mkF m 16 #[.val (.ref hi), .val (.ref tk), .val .null, .val (.ref b)] [(.ref b), (.ref hi)])) _
    refine st3 _ ?_
    show Steps p.tables e below (T3.setTop (mkF m 19 #[.val (.ref hi), .val (.ref tk), .val .null, .val (.ref b)] [])) _
    refine XS.goto X3.here hx rfl (pc0 := 19) (pc' := 27) rfl (hb hby d11_19) (by decide) (by decide) ?_
    show Steps p.tables e below (T3.setTop (mkF m 27 #[.val (.ref hi), .val (.ref tk), .val .null, .val (.ref b)] [])) _
    refine XS.aloadN X3.here hx rfl (hb hby d11_27) rfl rfl ?_
    show Steps p.tables e below (T3.setTop (mkF m 28 #[.val (.ref hi), .val (.ref tk), .val .null, .val (.ref b)] [(.ref b)])) _
    refine XS.ifnullNo X3.here hx rfl (hb hby d11_28) rfl ?_
    show Steps p.tables e below (T3.setTop (mkF m 31 #[.val (.ref hi), .val (.ref tk), .val .null, .val (.ref b)] [])) _
    refine XS.aloadN X3.here hx rfl (hb hby d11_31) rfl rfl ?_
    show Steps p.tables e below (T3.setTop (mkF m 32 #[.val (.ref hi), .val (.ref tk), .val .null, .val (.ref b)] [(.ref b)])) _
    refine XS.aloadN X3.here hx rfl (hb hby d11_32) rfl rfl ?_
    show Steps p.tables e below (T3.setTop (mkF m 33 #[.val (.ref hi), .val (.ref tk), .val .null, .val (.ref b)] [.null, (.ref b)])) _
    refine st4.trans ?_
    show Steps p.tables e below (T4.setTop (mkF m 36 #[.val (.ref hi), .val (.ref tk), .val .null, .val (.ref b)] [])) _
    refine XS.aloadN X4.here hx rfl (hb hby d11_36) rfl rfl ?_
    show Steps p.tables e below (T4.setTop (mkF m 37 #[.val (.ref hi), .val (.ref tk), .val .null, .val (.ref b)] [(.ref tk)])) _
    refine XS.aconstNull X4.here hx rfl (hb hby d11_37) ?_
    show Steps p.tables e below (T4.setTop (mkF m 38 #[.val (.ref hi), .val (.ref tk), .val .null, .val (.ref b)] [.null, (.ref tk)])) _
    refine st5.trans ?_
    show Steps p.tables e below (T5.setTop (mkF m 41 #[.val (.ref hi), .val (.ref tk), .val .null, .val (.ref b)] [])) _
    refine XS.aloadN X5.here hx rfl (hb hby d11_41) rfl rfl ?_
    show Steps p.tables e below (T5.setTop (mkF m 42 #[.val (.ref hi), .val (.ref tk), .val .null, .val (.ref b)] [(.ref tk)])) _
    refine XS.aconstNull X5.here hx rfl (hb hby d11_42) ?_
    show Steps p.tables e below (T5.setTop (mkF m 43 #[.val (.ref hi), .val (.ref tk), .val .null, .val (.ref b)] [.null, (.ref tk)])) _
    refine st6.trans ?_
    show Steps p.tables e below (T6.setTop (mkF m 46 #[.val (.ref hi), .val (.ref tk), .val .null, .val (.ref b)] [])) _
    exact X6.returnOut hx Bd.returns (hb hby d11_46) hr
  · show Q11nb Z hi tk b br q qb wb h0 n0 _ T6.heap _
    rw [e6]
    exact ⟨rfl, N6, K6, F6_hi_front, F6_hi_bringings, F6_tk_nearerFront, F6_tk_furtherBack, F6_tk_frontedAt, F6_b_nearerFront, F6_b_furtherBack, F6_b_frontedAt⟩
theorem ef_11an (m : MethodId) (hi : Addr) (tk : Addr) : entryFrame m #[(.ref hi), (.ref tk)] 4 = mkF m 0 #[.val (.ref hi), .val (.ref tk), .unset, .unset] [] := by first | (simp [entryFrame, mkF, argsToLocals, Value.category]; done) | rfl
def Q11an (Z : State) (hi tk a : Addr) (q qa : Int64) (wa : Value) (h0 : Heap) (n0 : Nat) (v : Option Value) (h : Heap) (L : List Loc) : Prop := v = none ∧ Fr n0 L ∧ Keep h0 h [tk, a] ∧ Fld Z h tk "com/example/unhurried_reaper/unhurriedreaper/Task" "nearerFront" "Lcom/example/unhurried_reaper/unhurriedreaper/Task;" .null ∧ Fld Z h tk "com/example/unhurried_reaper/unhurriedreaper/Task" "furtherBack" "Lcom/example/unhurried_reaper/unhurriedreaper/Task;" .null ∧ Fld Z h tk "com/example/unhurried_reaper/unhurriedreaper/Task" "frontedAt" "J" (.long q) ∧ Fld Z h a "com/example/unhurried_reaper/unhurriedreaper/Task" "nearerFront" "Lcom/example/unhurried_reaper/unhurriedreaper/Task;" wa ∧ Fld Z h a "com/example/unhurried_reaper/unhurriedreaper/Task" "furtherBack" "Lcom/example/unhurried_reaper/unhurriedreaper/Task;" .null ∧ Fld Z h a "com/example/unhurried_reaper/unhurriedreaper/Task" "frontedAt" "J" (.long qa)
theorem d11_22 : decode prog_34_method_3_code 22 = .ok (.aload_n 2, 1) := by decide +kernel
theorem d11_23 : decode prog_34_method_3_code 23 = .ok (.aload_n 3, 1) := by decide +kernel
theorem d11_24 : decode prog_34_method_3_code 24 = .ok (.invokevirtual 23, 3) := by decide +kernel
set_option maxRecDepth 65536 in
set_option maxHeartbeats 40000000 in
theorem rm11an (l : Launch) (Z : State) (a0 : Array Value) (hw : ∀ d ∈ tables_1, d.before a0 Z = true) (ws : List Jvm.Cond) (hi tk a : Addr) (q qa : Int64) (wa : Value) (h0 : Heap) (n0 : Nat) (Z0 : n0 ≤ h0.size) (ge_hi : n0 ≤ hi) (E_hi : Exa Z h0 hi "com/example/unhurried_reaper/unhurriedreaper/TaskHistory") (ge_tk : n0 ≤ tk) (E_tk : Exa Z h0 tk "com/example/unhurried_reaper/unhurriedreaper/Task") (F_tk_nearerFront : Fld Z h0 tk "com/example/unhurried_reaper/unhurriedreaper/Task" "nearerFront" "Lcom/example/unhurried_reaper/unhurriedreaper/Task;" (.ref a)) (F_tk_furtherBack : Fld Z h0 tk "com/example/unhurried_reaper/unhurriedreaper/Task" "furtherBack" "Lcom/example/unhurried_reaper/unhurriedreaper/Task;" .null) (F_tk_frontedAt : Fld Z h0 tk "com/example/unhurried_reaper/unhurriedreaper/Task" "frontedAt" "J" (.long q)) (ge_a : n0 ≤ a) (E_a : Exa Z h0 a "com/example/unhurried_reaper/unhurriedreaper/Task") (F_a_nearerFront : Fld Z h0 a "com/example/unhurried_reaper/unhurriedreaper/Task" "nearerFront" "Lcom/example/unhurried_reaper/unhurriedreaper/Task;" wa) (F_a_furtherBack : Fld Z h0 a "com/example/unhurried_reaper/unhurriedreaper/Task" "furtherBack" "Lcom/example/unhurried_reaper/unhurriedreaper/Task;" (.ref tk)) (F_a_frontedAt : Fld Z h0 a "com/example/unhurried_reaper/unhurriedreaper/Task" "frontedAt" "J" (.long qa)) (ne_hi_tk : hi ≠ tk) (ne_hi_a : hi ≠ a) (ne_tk_a : tk ≠ a) :
    MetFree l (⟨"com/example/unhurried_reaper/unhurriedreaper/TaskHistory", "remove", "(Lcom/example/unhurried_reaper/unhurriedreaper/Task;)V"⟩ : MethodName) (head1 (Jvm.Cond.code (⟨"com/example/unhurried_reaper/unhurriedreaper/TaskHistory", "remove", "(Lcom/example/unhurried_reaper/unhurriedreaper/Task;)V"⟩ : MethodName) prog_34_method_3_code 4 none :: ws) ({ frames := 1, cells := 0, slots := 0, locals := 20 } : Room)) (fun a U => a = #[(.ref hi), (.ref tk)] ∧ Z.Warmed39 U.vm ∧ U.heap = h0) (fun _ _ _ _ _ => True) (fun _ U oU U' => ∃ v L, oU = .returned v ∧ Q11an Z hi tk a q qa wa h0 n0 v U'.heap L ∧ FrameEnd U oU U' L ({ frames := 1, cells := 0, slots := 0, locals := 20 } : Room).cells ({ frames := 1, cells := 0, slots := 0, locals := 20 } : Room).slots) := by
  refine MetFree.of_bodySF (plainFor_of_name pn_6) hisR ?_
  intro p e s m args below meth c s₁ Bd hml0 hP hK
  obtain ⟨rfl, hZ, hh⟩ := hP
  have hx := Bd.exec
  have hby := Bd.bytes
  have hml : c.maxLocals = 4 := hml0
  have hown : s.vm.findClass "com/example/unhurried_reaper/unhurriedreaper/TaskHistory" = some m.cls := findClass_of_methodNamed Bd.named
  have hnm := (name_of_methodNamed Bd.named Bd.method).1
  have X0 : Stand p l e ({ frames := 1, cells := 0, slots := 0, locals := 20 } : Room) s m #[(.ref hi), (.ref tk)] below meth c s₁ [] 0 0 := Stand.of_body Bd
  have e0 : s₁.heap = h0 := by rw [← hh, Bd.state]; rfl
  have N0 := Fr.nil n0
  have go0 : ∀ t, Steps p.tables e below (s₁.setTop (mkF m 0 #[.val (.ref hi), .val (.ref tk), .unset, .unset] [])) t → Steps p.tables e below (s₁.setTop (entryFrame m #[(.ref hi), (.ref tk)] 4)) t := fun t k => castTop (ef_11an m hi tk) k
  obtain ⟨cq1, kq1, q1a, q1b, q1c⟩ := isOf hZ e0 E_tk
  obtain ⟨_, _, ⟨T1, L1, k1, n1⟩, -, X1, ⟨Lc1, hQ1, l1, y1, z1⟩, st1⟩ := X0.virtualBack hx (y := (⟨"com/example/unhurried_reaper/unhurriedreaper/Task", "nearerFront", "()Lcom/example/unhurried_reaper/unhurriedreaper/Task;"⟩ : MethodName)) (z := (⟨"com/example/unhurried_reaper/unhurriedreaper/Task", "nearerFront", "()Lcom/example/unhurried_reaper/unhurriedreaper/Task;"⟩ : MethodName)) hown (mvT hZ (hw _ (List.mem_of_getElem? (i := 65) rfl))) (mvT hZ (hw _ (List.mem_of_getElem? (i := 66) rfl))) (notFace_of_selects (args := #[]) (mvT hZ (hw _ (List.mem_of_getElem? (i := 68) rfl)))) (mvT hZ (hw _ (List.mem_of_getElem? (i := 68) rfl))) (mvT hZ (hw _ (List.mem_of_getElem? (i := 67) rfl))) (by decide) (backOf (W := 0) (rm8R l Z a0 hw [] tk a h0 n0 Z0 F_tk_nearerFront) hZ (hw _ (List.mem_of_getElem? (i := 69) rfl)) (hw _ (List.mem_of_getElem? (i := 4) rfl)) (by decide) (by decide)) q1a q1c (g := (mkF m 1 #[.val (.ref hi), .val (.ref tk), .unset, .unset] [(.ref tk)])) rfl (by rw [hml]; rfl) (Steps.refl _) (argsL := []) (rest := []) (lenOf pd_1 rfl) rfl (by show 2 * 0 + _ ≤ _; exact Nat.le_of_eq rfl) (hb hby d11_1) (fun _ _ => ⟨rfl, e0, (by decide : 0 + 0 ≤ _), (by decide : 0 + 0 ≤ _)⟩)
  dsimp only [Pt.U, Pt.locs, Pt.cells, Pt.slots] at X1 l1 y1 z1 st1 hQ1
  subst l1 y1 z1
  obtain ⟨rfl, N1q, eh1⟩ := hQ1
  have N1 := Fr.app N0 N1q
  obtain ⟨cq2, kq2, q2a, q2b, q2c⟩ := isOf hZ eh1 E_tk
  obtain ⟨_, _, ⟨T2, L2, k2, n2⟩, -, X2, ⟨Lc2, hQ2, l2, y2, z2⟩, st2⟩ := X1.virtualBack hx (y := (⟨"com/example/unhurried_reaper/unhurriedreaper/Task", "furtherBack", "()Lcom/example/unhurried_reaper/unhurriedreaper/Task;"⟩ : MethodName)) (z := (⟨"com/example/unhurried_reaper/unhurriedreaper/Task", "furtherBack", "()Lcom/example/unhurried_reaper/unhurriedreaper/Task;"⟩ : MethodName)) hown (mvT hZ (hw _ (List.mem_of_getElem? (i := 93) rfl))) (mvT hZ (hw _ (List.mem_of_getElem? (i := 94) rfl))) (notFace_of_selects (args := #[]) (mvT hZ (hw _ (List.mem_of_getElem? (i := 96) rfl)))) (mvT hZ (hw _ (List.mem_of_getElem? (i := 96) rfl))) (mvT hZ (hw _ (List.mem_of_getElem? (i := 95) rfl))) (by decide) (backOf (W := 0) (rm12N l Z a0 hw [] tk h0 n0 Z0 F_tk_furtherBack) hZ (hw _ (List.mem_of_getElem? (i := 97) rfl)) (hw _ (List.mem_of_getElem? (i := 4) rfl)) (by decide) (by decide)) q2a q2c (g := (mkF m 6 #[.val (.ref hi), .val (.ref tk), .val (.ref a), .unset] [(.ref tk)])) rfl (by rw [hml]; rfl) (Steps.refl _) (argsL := []) (rest := []) (lenOf pd_1 rfl) rfl (by show 2 * 0 + _ ≤ _; exact Nat.le_of_eq rfl) (hb hby d11_6) (fun _ _ => ⟨rfl, eh1, (by decide : 0 + 0 ≤ _), (by decide : 0 + 0 ≤ _)⟩)
  dsimp only [Pt.U, Pt.locs, Pt.cells, Pt.slots] at X2 l2 y2 z2 st2 hQ2
  subst l2 y2 z2
  obtain ⟨rfl, N2q, eh2⟩ := hQ2
  have N2 := Fr.app N1 N2q
  obtain ⟨cq3, kq3, q3a, q3b, q3c⟩ := isOf hZ eh2 E_a
  obtain ⟨_, _, ⟨T3, L3, k3, n3⟩, -, X3, ⟨Lc3, hQ3, l3, y3, z3⟩, st3⟩ := X2.virtualBack hx (y := (⟨"com/example/unhurried_reaper/unhurriedreaper/Task", "setFurtherBack", "(Lcom/example/unhurried_reaper/unhurriedreaper/Task;)V"⟩ : MethodName)) (z := (⟨"com/example/unhurried_reaper/unhurriedreaper/Task", "setFurtherBack", "(Lcom/example/unhurried_reaper/unhurriedreaper/Task;)V"⟩ : MethodName)) hown (mvT hZ (hw _ (List.mem_of_getElem? (i := 72) rfl))) (mvT hZ (hw _ (List.mem_of_getElem? (i := 73) rfl))) (notFace_of_selects (args := #[]) (mvT hZ (hw _ (List.mem_of_getElem? (i := 75) rfl)))) (mvT hZ (hw _ (List.mem_of_getElem? (i := 75) rfl))) (mvT hZ (hw _ (List.mem_of_getElem? (i := 74) rfl))) (by decide) (backOf (W := 0) (rm9 l Z a0 hw [] a .null (.ref tk) h0 n0 Z0 rfl ge_a E_a F_a_furtherBack) hZ (hw _ (List.mem_of_getElem? (i := 76) rfl)) (hw _ (List.mem_of_getElem? (i := 4) rfl)) (by decide) (by decide)) q3a q3c (g := (mkF m 24 #[.val (.ref hi), .val (.ref tk), .val (.ref a), .val .null] [.null, (.ref a)])) rfl (by rw [hml]; rfl) (Steps.refl _) (argsL := [.null]) (rest := []) (lenOf pd_2 rfl) rfl (by show 2 * 0 + _ ≤ _; exact Nat.le_of_eq rfl) (hb hby d11_24) (fun _ _ => ⟨rfl, eh2, (by decide : 0 + 0 ≤ _), (by decide : 0 + 0 ≤ _)⟩)
  dsimp only [Pt.U, Pt.locs, Pt.cells, Pt.slots] at X3 l3 y3 z3 st3 hQ3
  subst l3 y3 z3
  obtain ⟨rfl, N3q, W3⟩ := hQ3
  have N3 := Fr.app N2 N3q
  obtain ⟨h3, e3⟩ : ∃ z : Heap, T3.heap = z := ⟨_, rfl⟩
  rw [e3] at W3
  have E3_hi := E_hi.wr W3
  have E3_tk := E_tk.wr W3
  have F3_tk_nearerFront := F_tk_nearerFront.other W3 (Or.inl ne_tk_a)
  have F3_tk_furtherBack := F_tk_furtherBack.other W3 (Or.inl ne_tk_a)
  have F3_tk_frontedAt := F_tk_frontedAt.other W3 (Or.inl ne_tk_a)
  have E3_a := E_a.wr W3
  have F3_a_nearerFront := F_a_nearerFront.other W3 (Or.inr (slot_ne (Or.inl (hw _ (List.mem_of_getElem? (i := 71) rfl))) (Or.inl (hw _ (List.mem_of_getElem? (i := 78) rfl))) (by decide) (t := (.object "com/example/unhurried_reaper/unhurriedreaper/Task")) (t' := (.object "com/example/unhurried_reaper/unhurriedreaper/Task")) (by decide) (by decide)))
  have F3_a_furtherBack := F_a_furtherBack.same W3
  have F3_a_frontedAt := F_a_frontedAt.other W3 (Or.inr (slot_ne (Or.inl (hw _ (List.mem_of_getElem? (i := 87) rfl))) (Or.inl (hw _ (List.mem_of_getElem? (i := 78) rfl))) (by decide) (t := .long) (t' := (.object "com/example/unhurried_reaper/unhurriedreaper/Task")) (by decide) (by decide)))
  have K3 : Keep h0 h3 [tk, a] := (Keep.refl h0 [tk, a]).wr W3 (Or.inl (List.mem_of_getElem? (i := 1) rfl))
  obtain ⟨cq4, kq4, q4a, q4b, q4c⟩ := isOf hZ e3 E3_tk
  obtain ⟨_, _, ⟨T4, L4, k4, n4⟩, -, X4, ⟨Lc4, hQ4, l4, y4, z4⟩, st4⟩ := X3.virtualBack hx (y := (⟨"com/example/unhurried_reaper/unhurriedreaper/Task", "setNearerFront", "(Lcom/example/unhurried_reaper/unhurriedreaper/Task;)V"⟩ : MethodName)) (z := (⟨"com/example/unhurried_reaper/unhurriedreaper/Task", "setNearerFront", "(Lcom/example/unhurried_reaper/unhurriedreaper/Task;)V"⟩ : MethodName)) hown (mvT hZ (hw _ (List.mem_of_getElem? (i := 98) rfl))) (mvT hZ (hw _ (List.mem_of_getElem? (i := 99) rfl))) (notFace_of_selects (args := #[]) (mvT hZ (hw _ (List.mem_of_getElem? (i := 101) rfl)))) (mvT hZ (hw _ (List.mem_of_getElem? (i := 101) rfl))) (mvT hZ (hw _ (List.mem_of_getElem? (i := 100) rfl))) (by decide) (backOf (W := 0) (rm13 l Z a0 hw [] tk .null (.ref a) h3 n0 (Nat.le_trans Z0 (Keep.of_wr W3).1) rfl ge_tk E3_tk F3_tk_nearerFront) hZ (hw _ (List.mem_of_getElem? (i := 102) rfl)) (hw _ (List.mem_of_getElem? (i := 4) rfl)) (by decide) (by decide)) q4a q4c (g := (mkF m 38 #[.val (.ref hi), .val (.ref tk), .val (.ref a), .val .null] [.null, (.ref tk)])) rfl (by rw [hml]; rfl) (Steps.refl _) (argsL := [.null]) (rest := []) (lenOf pd_2 rfl) rfl (by show 2 * 0 + _ ≤ _; exact Nat.le_of_eq rfl) (hb hby d11_38) (fun _ _ => ⟨rfl, e3, (by decide : 0 + 0 ≤ _), (by decide : 0 + 0 ≤ _)⟩)
  dsimp only [Pt.U, Pt.locs, Pt.cells, Pt.slots] at X4 l4 y4 z4 st4 hQ4
  subst l4 y4 z4
  obtain ⟨rfl, N4q, W4⟩ := hQ4
  have N4 := Fr.app N3 N4q
  obtain ⟨h4, e4⟩ : ∃ z : Heap, T4.heap = z := ⟨_, rfl⟩
  rw [e4] at W4
  have E4_hi := E3_hi.wr W4
  have E4_tk := E3_tk.wr W4
  have F4_tk_nearerFront := F3_tk_nearerFront.same W4
  have F4_tk_furtherBack := F3_tk_furtherBack.other W4 (Or.inr (slot_ne (Or.inl (hw _ (List.mem_of_getElem? (i := 78) rfl))) (Or.inl (hw _ (List.mem_of_getElem? (i := 71) rfl))) (by decide) (t := (.object "com/example/unhurried_reaper/unhurriedreaper/Task")) (t' := (.object "com/example/unhurried_reaper/unhurriedreaper/Task")) (by decide) (by decide)))
  have F4_tk_frontedAt := F3_tk_frontedAt.other W4 (Or.inr (slot_ne (Or.inl (hw _ (List.mem_of_getElem? (i := 87) rfl))) (Or.inl (hw _ (List.mem_of_getElem? (i := 71) rfl))) (by decide) (t := .long) (t' := (.object "com/example/unhurried_reaper/unhurriedreaper/Task")) (by decide) (by decide)))
  have E4_a := E3_a.wr W4
  have F4_a_nearerFront := F3_a_nearerFront.other W4 (Or.inl (Ne.symm ne_tk_a))
  have F4_a_furtherBack := F3_a_furtherBack.other W4 (Or.inl (Ne.symm ne_tk_a))
  have F4_a_frontedAt := F3_a_frontedAt.other W4 (Or.inl (Ne.symm ne_tk_a))
  have K4 : Keep h0 h4 [tk, a] := K3.wr W4 (Or.inl (List.mem_of_getElem? (i := 0) rfl))
  obtain ⟨cq5, kq5, q5a, q5b, q5c⟩ := isOf hZ e4 E4_tk
  obtain ⟨_, _, ⟨T5, L5, k5, n5⟩, -, X5, ⟨Lc5, hQ5, l5, y5, z5⟩, st5⟩ := X4.virtualBack hx (y := (⟨"com/example/unhurried_reaper/unhurriedreaper/Task", "setFurtherBack", "(Lcom/example/unhurried_reaper/unhurriedreaper/Task;)V"⟩ : MethodName)) (z := (⟨"com/example/unhurried_reaper/unhurriedreaper/Task", "setFurtherBack", "(Lcom/example/unhurried_reaper/unhurriedreaper/Task;)V"⟩ : MethodName)) hown (mvT hZ (hw _ (List.mem_of_getElem? (i := 72) rfl))) (mvT hZ (hw _ (List.mem_of_getElem? (i := 73) rfl))) (notFace_of_selects (args := #[]) (mvT hZ (hw _ (List.mem_of_getElem? (i := 75) rfl)))) (mvT hZ (hw _ (List.mem_of_getElem? (i := 75) rfl))) (mvT hZ (hw _ (List.mem_of_getElem? (i := 74) rfl))) (by decide) (backOf (W := 0) (rm9 l Z a0 hw [] tk .null .null h4 n0 (Nat.le_trans (Nat.le_trans Z0 (Keep.of_wr W3).1) (Keep.of_wr W4).1) rfl ge_tk E4_tk F4_tk_furtherBack) hZ (hw _ (List.mem_of_getElem? (i := 76) rfl)) (hw _ (List.mem_of_getElem? (i := 4) rfl)) (by decide) (by decide)) q5a q5c (g := (mkF m 43 #[.val (.ref hi), .val (.ref tk), .val (.ref a), .val .null] [.null, (.ref tk)])) rfl (by rw [hml]; rfl) (Steps.refl _) (argsL := [.null]) (rest := []) (lenOf pd_2 rfl) rfl (by show 2 * 0 + _ ≤ _; exact Nat.le_of_eq rfl) (hb hby d11_43) (fun _ _ => ⟨rfl, e4, (by decide : 0 + 0 ≤ _), (by decide : 0 + 0 ≤ _)⟩)
  dsimp only [Pt.U, Pt.locs, Pt.cells, Pt.slots] at X5 l5 y5 z5 st5 hQ5
  subst l5 y5 z5
  obtain ⟨rfl, N5q, W5⟩ := hQ5
  have N5 := Fr.app N4 N5q
  obtain ⟨h5, e5⟩ : ∃ z : Heap, T5.heap = z := ⟨_, rfl⟩
  rw [e5] at W5
  have E5_hi := E4_hi.wr W5
  have E5_tk := E4_tk.wr W5
  have F5_tk_nearerFront := F4_tk_nearerFront.other W5 (Or.inr (slot_ne (Or.inl (hw _ (List.mem_of_getElem? (i := 71) rfl))) (Or.inl (hw _ (List.mem_of_getElem? (i := 78) rfl))) (by decide) (t := (.object "com/example/unhurried_reaper/unhurriedreaper/Task")) (t' := (.object "com/example/unhurried_reaper/unhurriedreaper/Task")) (by decide) (by decide)))
  have F5_tk_furtherBack := F4_tk_furtherBack.same W5
  have F5_tk_frontedAt := F4_tk_frontedAt.other W5 (Or.inr (slot_ne (Or.inl (hw _ (List.mem_of_getElem? (i := 87) rfl))) (Or.inl (hw _ (List.mem_of_getElem? (i := 78) rfl))) (by decide) (t := .long) (t' := (.object "com/example/unhurried_reaper/unhurriedreaper/Task")) (by decide) (by decide)))
  have E5_a := E4_a.wr W5
  have F5_a_nearerFront := F4_a_nearerFront.other W5 (Or.inl (Ne.symm ne_tk_a))
  have F5_a_furtherBack := F4_a_furtherBack.other W5 (Or.inl (Ne.symm ne_tk_a))
  have F5_a_frontedAt := F4_a_frontedAt.other W5 (Or.inl (Ne.symm ne_tk_a))
  have K5 : Keep h0 h5 [tk, a] := K4.wr W5 (Or.inl (List.mem_of_getElem? (i := 0) rfl))
  obtain ⟨fs, hr, hrun, hended, hW, hsame⟩ := X5.leave (v := none) (fun _ => rfl)
  refine ⟨_, _, go0 _ ?_, hrun, hended, _, _, rfl, ?_, ⟨_, rfl⟩, hW, hsame.mono (by decide) (by decide)⟩
  · show Steps p.tables e below (s₁.setTop (mkF m 0 #[.val (.ref hi), .val (.ref tk), .unset, .unset] [])) _
    refine XS.aloadN X0.here hx rfl (hb hby d11_0) rfl rfl ?_
    show Steps p.tables e below (s₁.setTop (mkF m 1 #[.val (.ref hi), .val (.ref tk), .unset, .unset] [(.ref tk)])) _
    refine st1.trans ?_
    show Steps p.tables e below (T1.setTop (mkF m 4 #[.val (.ref hi), .val (.ref tk), .unset, .unset] [(.ref a)])) _
    refine XS.astoreN X1.here hx rfl (hb hby d11_4) rfl rfl (l' := #[.val (.ref hi), .val (.ref tk), .val (.ref a), .unset]) rfl ?_
    show Steps p.tables e below (T1.setTop (mkF m 5 #[.val (.ref hi), .val (.ref tk), .val (.ref a), .unset] [])) _
    refine XS.aloadN X1.here hx rfl (hb hby d11_5) rfl rfl ?_
    show Steps p.tables e below (T1.setTop (mkF m 6 #[.val (.ref hi), .val (.ref tk), .val (.ref a), .unset] [(.ref tk)])) _
    refine st2.trans ?_
    show Steps p.tables e below (T2.setTop (mkF m 9 #[.val (.ref hi), .val (.ref tk), .val (.ref a), .unset] [.null])) _
    refine XS.astoreN X2.here hx rfl (hb hby d11_9) rfl rfl (l' := #[.val (.ref hi), .val (.ref tk), .val (.ref a), .val .null]) rfl ?_
    show Steps p.tables e below (T2.setTop (mkF m 10 #[.val (.ref hi), .val (.ref tk), .val (.ref a), .val .null] [])) _
    refine XS.aloadN X2.here hx rfl (hb hby d11_10) rfl rfl ?_
    show Steps p.tables e below (T2.setTop (mkF m 11 #[.val (.ref hi), .val (.ref tk), .val (.ref a), .val .null] [(.ref a)])) _
    refine XS.ifnonnullYes X2.here hx rfl (pc0 := 11) (pc' := 22) rfl (hb hby d11_11) rfl (by decide) (by decide) ?_
    show Steps p.tables e below (T2.setTop (mkF m 22 #[.val (.ref hi), .val (.ref tk), .val (.ref a), .val .null] [])) _
    refine XS.aloadN X2.here hx rfl (hb hby d11_22) rfl rfl ?_
    show Steps p.tables e below (T2.setTop (mkF m 23 #[.val (.ref hi), .val (.ref tk), .val (.ref a), .val .null] [(.ref a)])) _
    refine XS.aloadN X2.here hx rfl (hb hby d11_23) rfl rfl ?_
    show Steps p.tables e below (T2.setTop (mkF m 24 #[.val (.ref hi), .val (.ref tk), .val (.ref a), .val .null] [.null, (.ref a)])) _
    refine st3.trans ?_
    show Steps p.tables e below (T3.setTop (mkF m 27 #[.val (.ref hi), .val (.ref tk), .val (.ref a), .val .null] [])) _
    refine XS.aloadN X3.here hx rfl (hb hby d11_27) rfl rfl ?_
    show Steps p.tables e below (T3.setTop (mkF m 28 #[.val (.ref hi), .val (.ref tk), .val (.ref a), .val .null] [.null])) _
    refine XS.ifnullYes X3.here hx rfl (pc0 := 28) (pc' := 36) rfl (hb hby d11_28) rfl (by decide) (by decide) ?_
    show Steps p.tables e below (T3.setTop (mkF m 36 #[.val (.ref hi), .val (.ref tk), .val (.ref a), .val .null] [])) _
    refine XS.aloadN X3.here hx rfl (hb hby d11_36) rfl rfl ?_
    show Steps p.tables e below (T3.setTop (mkF m 37 #[.val (.ref hi), .val (.ref tk), .val (.ref a), .val .null] [(.ref tk)])) _
    refine XS.aconstNull X3.here hx rfl (hb hby d11_37) ?_
    show Steps p.tables e below (T3.setTop (mkF m 38 #[.val (.ref hi), .val (.ref tk), .val (.ref a), .val .null] [.null, (.ref tk)])) _
    refine st4.trans ?_
    show Steps p.tables e below (T4.setTop (mkF m 41 #[.val (.ref hi), .val (.ref tk), .val (.ref a), .val .null] [])) _
    refine XS.aloadN X4.here hx rfl (hb hby d11_41) rfl rfl ?_
    show Steps p.tables e below (T4.setTop (mkF m 42 #[.val (.ref hi), .val (.ref tk), .val (.ref a), .val .null] [(.ref tk)])) _
    refine XS.aconstNull X4.here hx rfl (hb hby d11_42) ?_
    show Steps p.tables e below (T4.setTop (mkF m 43 #[.val (.ref hi), .val (.ref tk), .val (.ref a), .val .null] [.null, (.ref tk)])) _
    refine st5.trans ?_
    show Steps p.tables e below (T5.setTop (mkF m 46 #[.val (.ref hi), .val (.ref tk), .val (.ref a), .val .null] [])) _
    exact X5.returnOut hx Bd.returns (hb hby d11_46) hr
  · show Q11an Z hi tk a q qa wa h0 n0 _ T5.heap _
    rw [e5]
    exact ⟨rfl, N5, K5, F5_tk_nearerFront, F5_tk_furtherBack, F5_tk_frontedAt, F5_a_nearerFront, F5_a_furtherBack, F5_a_frontedAt⟩
theorem ef_11ab (m : MethodId) (hi : Addr) (tk : Addr) : entryFrame m #[(.ref hi), (.ref tk)] 4 = mkF m 0 #[.val (.ref hi), .val (.ref tk), .unset, .unset] [] := by first | (simp [entryFrame, mkF, argsToLocals, Value.category]; done) | rfl
def Q11ab (Z : State) (hi tk a b : Addr) (q qa qb : Int64) (wa wb : Value) (h0 : Heap) (n0 : Nat) (v : Option Value) (h : Heap) (L : List Loc) : Prop := v = none ∧ Fr n0 L ∧ Keep h0 h [tk, a, b] ∧ Fld Z h tk "com/example/unhurried_reaper/unhurriedreaper/Task" "nearerFront" "Lcom/example/unhurried_reaper/unhurriedreaper/Task;" .null ∧ Fld Z h tk "com/example/unhurried_reaper/unhurriedreaper/Task" "furtherBack" "Lcom/example/unhurried_reaper/unhurriedreaper/Task;" .null ∧ Fld Z h tk "com/example/unhurried_reaper/unhurriedreaper/Task" "frontedAt" "J" (.long q) ∧ Fld Z h a "com/example/unhurried_reaper/unhurriedreaper/Task" "nearerFront" "Lcom/example/unhurried_reaper/unhurriedreaper/Task;" wa ∧ Fld Z h a "com/example/unhurried_reaper/unhurriedreaper/Task" "furtherBack" "Lcom/example/unhurried_reaper/unhurriedreaper/Task;" (.ref b) ∧ Fld Z h a "com/example/unhurried_reaper/unhurriedreaper/Task" "frontedAt" "J" (.long qa) ∧ Fld Z h b "com/example/unhurried_reaper/unhurriedreaper/Task" "nearerFront" "Lcom/example/unhurried_reaper/unhurriedreaper/Task;" (.ref a) ∧ Fld Z h b "com/example/unhurried_reaper/unhurriedreaper/Task" "furtherBack" "Lcom/example/unhurried_reaper/unhurriedreaper/Task;" wb ∧ Fld Z h b "com/example/unhurried_reaper/unhurriedreaper/Task" "frontedAt" "J" (.long qb)
set_option maxRecDepth 65536 in
set_option maxHeartbeats 40000000 in
theorem rm11ab (l : Launch) (Z : State) (a0 : Array Value) (hw : ∀ d ∈ tables_1, d.before a0 Z = true) (ws : List Jvm.Cond) (hi tk a b : Addr) (q qa qb : Int64) (wa wb : Value) (h0 : Heap) (n0 : Nat) (Z0 : n0 ≤ h0.size) (ge_hi : n0 ≤ hi) (E_hi : Exa Z h0 hi "com/example/unhurried_reaper/unhurriedreaper/TaskHistory") (ge_tk : n0 ≤ tk) (E_tk : Exa Z h0 tk "com/example/unhurried_reaper/unhurriedreaper/Task") (F_tk_nearerFront : Fld Z h0 tk "com/example/unhurried_reaper/unhurriedreaper/Task" "nearerFront" "Lcom/example/unhurried_reaper/unhurriedreaper/Task;" (.ref a)) (F_tk_furtherBack : Fld Z h0 tk "com/example/unhurried_reaper/unhurriedreaper/Task" "furtherBack" "Lcom/example/unhurried_reaper/unhurriedreaper/Task;" (.ref b)) (F_tk_frontedAt : Fld Z h0 tk "com/example/unhurried_reaper/unhurriedreaper/Task" "frontedAt" "J" (.long q)) (ge_a : n0 ≤ a) (E_a : Exa Z h0 a "com/example/unhurried_reaper/unhurriedreaper/Task") (F_a_nearerFront : Fld Z h0 a "com/example/unhurried_reaper/unhurriedreaper/Task" "nearerFront" "Lcom/example/unhurried_reaper/unhurriedreaper/Task;" wa) (F_a_furtherBack : Fld Z h0 a "com/example/unhurried_reaper/unhurriedreaper/Task" "furtherBack" "Lcom/example/unhurried_reaper/unhurriedreaper/Task;" (.ref tk)) (F_a_frontedAt : Fld Z h0 a "com/example/unhurried_reaper/unhurriedreaper/Task" "frontedAt" "J" (.long qa)) (ge_b : n0 ≤ b) (E_b : Exa Z h0 b "com/example/unhurried_reaper/unhurriedreaper/Task") (F_b_nearerFront : Fld Z h0 b "com/example/unhurried_reaper/unhurriedreaper/Task" "nearerFront" "Lcom/example/unhurried_reaper/unhurriedreaper/Task;" (.ref tk)) (F_b_furtherBack : Fld Z h0 b "com/example/unhurried_reaper/unhurriedreaper/Task" "furtherBack" "Lcom/example/unhurried_reaper/unhurriedreaper/Task;" wb) (F_b_frontedAt : Fld Z h0 b "com/example/unhurried_reaper/unhurriedreaper/Task" "frontedAt" "J" (.long qb)) (ne_hi_tk : hi ≠ tk) (ne_hi_a : hi ≠ a) (ne_hi_b : hi ≠ b) (ne_tk_a : tk ≠ a) (ne_tk_b : tk ≠ b) (ne_a_b : a ≠ b) :
    MetFree l (⟨"com/example/unhurried_reaper/unhurriedreaper/TaskHistory", "remove", "(Lcom/example/unhurried_reaper/unhurriedreaper/Task;)V"⟩ : MethodName) (head1 (Jvm.Cond.code (⟨"com/example/unhurried_reaper/unhurriedreaper/TaskHistory", "remove", "(Lcom/example/unhurried_reaper/unhurriedreaper/Task;)V"⟩ : MethodName) prog_34_method_3_code 4 none :: ws) ({ frames := 1, cells := 0, slots := 0, locals := 20 } : Room)) (fun a U => a = #[(.ref hi), (.ref tk)] ∧ Z.Warmed39 U.vm ∧ U.heap = h0) (fun _ _ _ _ _ => True) (fun _ U oU U' => ∃ v L, oU = .returned v ∧ Q11ab Z hi tk a b q qa qb wa wb h0 n0 v U'.heap L ∧ FrameEnd U oU U' L ({ frames := 1, cells := 0, slots := 0, locals := 20 } : Room).cells ({ frames := 1, cells := 0, slots := 0, locals := 20 } : Room).slots) := by
  refine MetFree.of_bodySF (plainFor_of_name pn_6) hisR ?_
  intro p e s m args below meth c s₁ Bd hml0 hP hK
  obtain ⟨rfl, hZ, hh⟩ := hP
  have hx := Bd.exec
  have hby := Bd.bytes
  have hml : c.maxLocals = 4 := hml0
  have hown : s.vm.findClass "com/example/unhurried_reaper/unhurriedreaper/TaskHistory" = some m.cls := findClass_of_methodNamed Bd.named
  have hnm := (name_of_methodNamed Bd.named Bd.method).1
  have X0 : Stand p l e ({ frames := 1, cells := 0, slots := 0, locals := 20 } : Room) s m #[(.ref hi), (.ref tk)] below meth c s₁ [] 0 0 := Stand.of_body Bd
  have e0 : s₁.heap = h0 := by rw [← hh, Bd.state]; rfl
  have N0 := Fr.nil n0
  have go0 : ∀ t, Steps p.tables e below (s₁.setTop (mkF m 0 #[.val (.ref hi), .val (.ref tk), .unset, .unset] [])) t → Steps p.tables e below (s₁.setTop (entryFrame m #[(.ref hi), (.ref tk)] 4)) t := fun t k => castTop (ef_11ab m hi tk) k
  obtain ⟨cq1, kq1, q1a, q1b, q1c⟩ := isOf hZ e0 E_tk
  obtain ⟨_, _, ⟨T1, L1, k1, n1⟩, -, X1, ⟨Lc1, hQ1, l1, y1, z1⟩, st1⟩ := X0.virtualBack hx (y := (⟨"com/example/unhurried_reaper/unhurriedreaper/Task", "nearerFront", "()Lcom/example/unhurried_reaper/unhurriedreaper/Task;"⟩ : MethodName)) (z := (⟨"com/example/unhurried_reaper/unhurriedreaper/Task", "nearerFront", "()Lcom/example/unhurried_reaper/unhurriedreaper/Task;"⟩ : MethodName)) hown (mvT hZ (hw _ (List.mem_of_getElem? (i := 65) rfl))) (mvT hZ (hw _ (List.mem_of_getElem? (i := 66) rfl))) (notFace_of_selects (args := #[]) (mvT hZ (hw _ (List.mem_of_getElem? (i := 68) rfl)))) (mvT hZ (hw _ (List.mem_of_getElem? (i := 68) rfl))) (mvT hZ (hw _ (List.mem_of_getElem? (i := 67) rfl))) (by decide) (backOf (W := 0) (rm8R l Z a0 hw [] tk a h0 n0 Z0 F_tk_nearerFront) hZ (hw _ (List.mem_of_getElem? (i := 69) rfl)) (hw _ (List.mem_of_getElem? (i := 4) rfl)) (by decide) (by decide)) q1a q1c (g := (mkF m 1 #[.val (.ref hi), .val (.ref tk), .unset, .unset] [(.ref tk)])) rfl (by rw [hml]; rfl) (Steps.refl _) (argsL := []) (rest := []) (lenOf pd_1 rfl) rfl (by show 2 * 0 + _ ≤ _; exact Nat.le_of_eq rfl) (hb hby d11_1) (fun _ _ => ⟨rfl, e0, (by decide : 0 + 0 ≤ _), (by decide : 0 + 0 ≤ _)⟩)
  dsimp only [Pt.U, Pt.locs, Pt.cells, Pt.slots] at X1 l1 y1 z1 st1 hQ1
  subst l1 y1 z1
  obtain ⟨rfl, N1q, eh1⟩ := hQ1
  have N1 := Fr.app N0 N1q
  obtain ⟨cq2, kq2, q2a, q2b, q2c⟩ := isOf hZ eh1 E_tk
  obtain ⟨_, _, ⟨T2, L2, k2, n2⟩, -, X2, ⟨Lc2, hQ2, l2, y2, z2⟩, st2⟩ := X1.virtualBack hx (y := (⟨"com/example/unhurried_reaper/unhurriedreaper/Task", "furtherBack", "()Lcom/example/unhurried_reaper/unhurriedreaper/Task;"⟩ : MethodName)) (z := (⟨"com/example/unhurried_reaper/unhurriedreaper/Task", "furtherBack", "()Lcom/example/unhurried_reaper/unhurriedreaper/Task;"⟩ : MethodName)) hown (mvT hZ (hw _ (List.mem_of_getElem? (i := 93) rfl))) (mvT hZ (hw _ (List.mem_of_getElem? (i := 94) rfl))) (notFace_of_selects (args := #[]) (mvT hZ (hw _ (List.mem_of_getElem? (i := 96) rfl)))) (mvT hZ (hw _ (List.mem_of_getElem? (i := 96) rfl))) (mvT hZ (hw _ (List.mem_of_getElem? (i := 95) rfl))) (by decide) (backOf (W := 0) (rm12R l Z a0 hw [] tk b h0 n0 Z0 F_tk_furtherBack) hZ (hw _ (List.mem_of_getElem? (i := 97) rfl)) (hw _ (List.mem_of_getElem? (i := 4) rfl)) (by decide) (by decide)) q2a q2c (g := (mkF m 6 #[.val (.ref hi), .val (.ref tk), .val (.ref a), .unset] [(.ref tk)])) rfl (by rw [hml]; rfl) (Steps.refl _) (argsL := []) (rest := []) (lenOf pd_1 rfl) rfl (by show 2 * 0 + _ ≤ _; exact Nat.le_of_eq rfl) (hb hby d11_6) (fun _ _ => ⟨rfl, eh1, (by decide : 0 + 0 ≤ _), (by decide : 0 + 0 ≤ _)⟩)
  dsimp only [Pt.U, Pt.locs, Pt.cells, Pt.slots] at X2 l2 y2 z2 st2 hQ2
  subst l2 y2 z2
  obtain ⟨rfl, N2q, eh2⟩ := hQ2
  have N2 := Fr.app N1 N2q
  obtain ⟨cq3, kq3, q3a, q3b, q3c⟩ := isOf hZ eh2 E_a
  obtain ⟨_, _, ⟨T3, L3, k3, n3⟩, -, X3, ⟨Lc3, hQ3, l3, y3, z3⟩, st3⟩ := X2.virtualBack hx (y := (⟨"com/example/unhurried_reaper/unhurriedreaper/Task", "setFurtherBack", "(Lcom/example/unhurried_reaper/unhurriedreaper/Task;)V"⟩ : MethodName)) (z := (⟨"com/example/unhurried_reaper/unhurriedreaper/Task", "setFurtherBack", "(Lcom/example/unhurried_reaper/unhurriedreaper/Task;)V"⟩ : MethodName)) hown (mvT hZ (hw _ (List.mem_of_getElem? (i := 72) rfl))) (mvT hZ (hw _ (List.mem_of_getElem? (i := 73) rfl))) (notFace_of_selects (args := #[]) (mvT hZ (hw _ (List.mem_of_getElem? (i := 75) rfl)))) (mvT hZ (hw _ (List.mem_of_getElem? (i := 75) rfl))) (mvT hZ (hw _ (List.mem_of_getElem? (i := 74) rfl))) (by decide) (backOf (W := 0) (rm9 l Z a0 hw [] a (.ref b) (.ref tk) h0 n0 Z0 rfl ge_a E_a F_a_furtherBack) hZ (hw _ (List.mem_of_getElem? (i := 76) rfl)) (hw _ (List.mem_of_getElem? (i := 4) rfl)) (by decide) (by decide)) q3a q3c (g := (mkF m 24 #[.val (.ref hi), .val (.ref tk), .val (.ref a), .val (.ref b)] [(.ref b), (.ref a)])) rfl (by rw [hml]; rfl) (Steps.refl _) (argsL := [(.ref b)]) (rest := []) (lenOf pd_2 rfl) rfl (by show 2 * 0 + _ ≤ _; exact Nat.le_of_eq rfl) (hb hby d11_24) (fun _ _ => ⟨rfl, eh2, (by decide : 0 + 0 ≤ _), (by decide : 0 + 0 ≤ _)⟩)
  dsimp only [Pt.U, Pt.locs, Pt.cells, Pt.slots] at X3 l3 y3 z3 st3 hQ3
  subst l3 y3 z3
  obtain ⟨rfl, N3q, W3⟩ := hQ3
  have N3 := Fr.app N2 N3q
  obtain ⟨h3, e3⟩ : ∃ z : Heap, T3.heap = z := ⟨_, rfl⟩
  rw [e3] at W3
  have E3_hi := E_hi.wr W3
  have E3_tk := E_tk.wr W3
  have F3_tk_nearerFront := F_tk_nearerFront.other W3 (Or.inl ne_tk_a)
  have F3_tk_furtherBack := F_tk_furtherBack.other W3 (Or.inl ne_tk_a)
  have F3_tk_frontedAt := F_tk_frontedAt.other W3 (Or.inl ne_tk_a)
  have E3_a := E_a.wr W3
  have F3_a_nearerFront := F_a_nearerFront.other W3 (Or.inr (slot_ne (Or.inl (hw _ (List.mem_of_getElem? (i := 71) rfl))) (Or.inl (hw _ (List.mem_of_getElem? (i := 78) rfl))) (by decide) (t := (.object "com/example/unhurried_reaper/unhurriedreaper/Task")) (t' := (.object "com/example/unhurried_reaper/unhurriedreaper/Task")) (by decide) (by decide)))
  have F3_a_furtherBack := F_a_furtherBack.same W3
  have F3_a_frontedAt := F_a_frontedAt.other W3 (Or.inr (slot_ne (Or.inl (hw _ (List.mem_of_getElem? (i := 87) rfl))) (Or.inl (hw _ (List.mem_of_getElem? (i := 78) rfl))) (by decide) (t := .long) (t' := (.object "com/example/unhurried_reaper/unhurriedreaper/Task")) (by decide) (by decide)))
  have E3_b := E_b.wr W3
  have F3_b_nearerFront := F_b_nearerFront.other W3 (Or.inl (Ne.symm ne_a_b))
  have F3_b_furtherBack := F_b_furtherBack.other W3 (Or.inl (Ne.symm ne_a_b))
  have F3_b_frontedAt := F_b_frontedAt.other W3 (Or.inl (Ne.symm ne_a_b))
  have K3 : Keep h0 h3 [tk, a, b] := (Keep.refl h0 [tk, a, b]).wr W3 (Or.inl (List.mem_of_getElem? (i := 1) rfl))
  obtain ⟨cq4, kq4, q4a, q4b, q4c⟩ := isOf hZ e3 E3_b
  obtain ⟨_, _, ⟨T4, L4, k4, n4⟩, -, X4, ⟨Lc4, hQ4, l4, y4, z4⟩, st4⟩ := X3.virtualBack hx (y := (⟨"com/example/unhurried_reaper/unhurriedreaper/Task", "setNearerFront", "(Lcom/example/unhurried_reaper/unhurriedreaper/Task;)V"⟩ : MethodName)) (z := (⟨"com/example/unhurried_reaper/unhurriedreaper/Task", "setNearerFront", "(Lcom/example/unhurried_reaper/unhurriedreaper/Task;)V"⟩ : MethodName)) hown (mvT hZ (hw _ (List.mem_of_getElem? (i := 98) rfl))) (mvT hZ (hw _ (List.mem_of_getElem? (i := 99) rfl))) (notFace_of_selects (args := #[]) (mvT hZ (hw _ (List.mem_of_getElem? (i := 101) rfl)))) (mvT hZ (hw _ (List.mem_of_getElem? (i := 101) rfl))) (mvT hZ (hw _ (List.mem_of_getElem? (i := 100) rfl))) (by decide) (backOf (W := 0) (rm13 l Z a0 hw [] b (.ref a) (.ref tk) h3 n0 (Nat.le_trans Z0 (Keep.of_wr W3).1) rfl ge_b E3_b F3_b_nearerFront) hZ (hw _ (List.mem_of_getElem? (i := 102) rfl)) (hw _ (List.mem_of_getElem? (i := 4) rfl)) (by decide) (by decide)) q4a q4c (g := (mkF m 33 #[.val (.ref hi), .val (.ref tk), .val (.ref a), .val (.ref b)] [(.ref a), (.ref b)])) rfl (by rw [hml]; rfl) (Steps.refl _) (argsL := [(.ref a)]) (rest := []) (lenOf pd_2 rfl) rfl (by show 2 * 0 + _ ≤ _; exact Nat.le_of_eq rfl) (hb hby d11_33) (fun _ _ => ⟨rfl, e3, (by decide : 0 + 0 ≤ _), (by decide : 0 + 0 ≤ _)⟩)
  dsimp only [Pt.U, Pt.locs, Pt.cells, Pt.slots] at X4 l4 y4 z4 st4 hQ4
  subst l4 y4 z4
  obtain ⟨rfl, N4q, W4⟩ := hQ4
  have N4 := Fr.app N3 N4q
  obtain ⟨h4, e4⟩ : ∃ z : Heap, T4.heap = z := ⟨_, rfl⟩
  rw [e4] at W4
  have E4_hi := E3_hi.wr W4
  have E4_tk := E3_tk.wr W4
  have F4_tk_nearerFront := F3_tk_nearerFront.other W4 (Or.inl ne_tk_b)
  have F4_tk_furtherBack := F3_tk_furtherBack.other W4 (Or.inl ne_tk_b)
  have F4_tk_frontedAt := F3_tk_frontedAt.other W4 (Or.inl ne_tk_b)
  have E4_a := E3_a.wr W4
  have F4_a_nearerFront := F3_a_nearerFront.other W4 (Or.inl ne_a_b)
  have F4_a_furtherBack := F3_a_furtherBack.other W4 (Or.inl ne_a_b)
  have F4_a_frontedAt := F3_a_frontedAt.other W4 (Or.inl ne_a_b)
  have E4_b := E3_b.wr W4
  have F4_b_nearerFront := F3_b_nearerFront.same W4
  have F4_b_furtherBack := F3_b_furtherBack.other W4 (Or.inr (slot_ne (Or.inl (hw _ (List.mem_of_getElem? (i := 78) rfl))) (Or.inl (hw _ (List.mem_of_getElem? (i := 71) rfl))) (by decide) (t := (.object "com/example/unhurried_reaper/unhurriedreaper/Task")) (t' := (.object "com/example/unhurried_reaper/unhurriedreaper/Task")) (by decide) (by decide)))
  have F4_b_frontedAt := F3_b_frontedAt.other W4 (Or.inr (slot_ne (Or.inl (hw _ (List.mem_of_getElem? (i := 87) rfl))) (Or.inl (hw _ (List.mem_of_getElem? (i := 71) rfl))) (by decide) (t := .long) (t' := (.object "com/example/unhurried_reaper/unhurriedreaper/Task")) (by decide) (by decide)))
  have K4 : Keep h0 h4 [tk, a, b] := K3.wr W4 (Or.inl (List.mem_of_getElem? (i := 2) rfl))
  obtain ⟨cq5, kq5, q5a, q5b, q5c⟩ := isOf hZ e4 E4_tk
  obtain ⟨_, _, ⟨T5, L5, k5, n5⟩, -, X5, ⟨Lc5, hQ5, l5, y5, z5⟩, st5⟩ := X4.virtualBack hx (y := (⟨"com/example/unhurried_reaper/unhurriedreaper/Task", "setNearerFront", "(Lcom/example/unhurried_reaper/unhurriedreaper/Task;)V"⟩ : MethodName)) (z := (⟨"com/example/unhurried_reaper/unhurriedreaper/Task", "setNearerFront", "(Lcom/example/unhurried_reaper/unhurriedreaper/Task;)V"⟩ : MethodName)) hown (mvT hZ (hw _ (List.mem_of_getElem? (i := 98) rfl))) (mvT hZ (hw _ (List.mem_of_getElem? (i := 99) rfl))) (notFace_of_selects (args := #[]) (mvT hZ (hw _ (List.mem_of_getElem? (i := 101) rfl)))) (mvT hZ (hw _ (List.mem_of_getElem? (i := 101) rfl))) (mvT hZ (hw _ (List.mem_of_getElem? (i := 100) rfl))) (by decide) (backOf (W := 0) (rm13 l Z a0 hw [] tk .null (.ref a) h4 n0 (Nat.le_trans (Nat.le_trans Z0 (Keep.of_wr W3).1) (Keep.of_wr W4).1) rfl ge_tk E4_tk F4_tk_nearerFront) hZ (hw _ (List.mem_of_getElem? (i := 102) rfl)) (hw _ (List.mem_of_getElem? (i := 4) rfl)) (by decide) (by decide)) q5a q5c (g := (mkF m 38 #[.val (.ref hi), .val (.ref tk), .val (.ref a), .val (.ref b)] [.null, (.ref tk)])) rfl (by rw [hml]; rfl) (Steps.refl _) (argsL := [.null]) (rest := []) (lenOf pd_2 rfl) rfl (by show 2 * 0 + _ ≤ _; exact Nat.le_of_eq rfl) (hb hby d11_38) (fun _ _ => ⟨rfl, e4, (by decide : 0 + 0 ≤ _), (by decide : 0 + 0 ≤ _)⟩)
  dsimp only [Pt.U, Pt.locs, Pt.cells, Pt.slots] at X5 l5 y5 z5 st5 hQ5
  subst l5 y5 z5
  obtain ⟨rfl, N5q, W5⟩ := hQ5
  have N5 := Fr.app N4 N5q
  obtain ⟨h5, e5⟩ : ∃ z : Heap, T5.heap = z := ⟨_, rfl⟩
  rw [e5] at W5
  have E5_hi := E4_hi.wr W5
  have E5_tk := E4_tk.wr W5
  have F5_tk_nearerFront := F4_tk_nearerFront.same W5
  have F5_tk_furtherBack := F4_tk_furtherBack.other W5 (Or.inr (slot_ne (Or.inl (hw _ (List.mem_of_getElem? (i := 78) rfl))) (Or.inl (hw _ (List.mem_of_getElem? (i := 71) rfl))) (by decide) (t := (.object "com/example/unhurried_reaper/unhurriedreaper/Task")) (t' := (.object "com/example/unhurried_reaper/unhurriedreaper/Task")) (by decide) (by decide)))
  have F5_tk_frontedAt := F4_tk_frontedAt.other W5 (Or.inr (slot_ne (Or.inl (hw _ (List.mem_of_getElem? (i := 87) rfl))) (Or.inl (hw _ (List.mem_of_getElem? (i := 71) rfl))) (by decide) (t := .long) (t' := (.object "com/example/unhurried_reaper/unhurriedreaper/Task")) (by decide) (by decide)))
  have E5_a := E4_a.wr W5
  have F5_a_nearerFront := F4_a_nearerFront.other W5 (Or.inl (Ne.symm ne_tk_a))
  have F5_a_furtherBack := F4_a_furtherBack.other W5 (Or.inl (Ne.symm ne_tk_a))
  have F5_a_frontedAt := F4_a_frontedAt.other W5 (Or.inl (Ne.symm ne_tk_a))
  have E5_b := E4_b.wr W5
  have F5_b_nearerFront := F4_b_nearerFront.other W5 (Or.inl (Ne.symm ne_tk_b))
  have F5_b_furtherBack := F4_b_furtherBack.other W5 (Or.inl (Ne.symm ne_tk_b))
  have F5_b_frontedAt := F4_b_frontedAt.other W5 (Or.inl (Ne.symm ne_tk_b))
  have K5 : Keep h0 h5 [tk, a, b] := K4.wr W5 (Or.inl (List.mem_of_getElem? (i := 0) rfl))
  obtain ⟨cq6, kq6, q6a, q6b, q6c⟩ := isOf hZ e5 E5_tk
  obtain ⟨_, _, ⟨T6, L6, k6, n6⟩, -, X6, ⟨Lc6, hQ6, l6, y6, z6⟩, st6⟩ := X5.virtualBack hx (y := (⟨"com/example/unhurried_reaper/unhurriedreaper/Task", "setFurtherBack", "(Lcom/example/unhurried_reaper/unhurriedreaper/Task;)V"⟩ : MethodName)) (z := (⟨"com/example/unhurried_reaper/unhurriedreaper/Task", "setFurtherBack", "(Lcom/example/unhurried_reaper/unhurriedreaper/Task;)V"⟩ : MethodName)) hown (mvT hZ (hw _ (List.mem_of_getElem? (i := 72) rfl))) (mvT hZ (hw _ (List.mem_of_getElem? (i := 73) rfl))) (notFace_of_selects (args := #[]) (mvT hZ (hw _ (List.mem_of_getElem? (i := 75) rfl)))) (mvT hZ (hw _ (List.mem_of_getElem? (i := 75) rfl))) (mvT hZ (hw _ (List.mem_of_getElem? (i := 74) rfl))) (by decide) (backOf (W := 0) (rm9 l Z a0 hw [] tk .null (.ref b) h5 n0 (Nat.le_trans (Nat.le_trans (Nat.le_trans Z0 (Keep.of_wr W3).1) (Keep.of_wr W4).1) (Keep.of_wr W5).1) rfl ge_tk E5_tk F5_tk_furtherBack) hZ (hw _ (List.mem_of_getElem? (i := 76) rfl)) (hw _ (List.mem_of_getElem? (i := 4) rfl)) (by decide) (by decide)) q6a q6c (g := (mkF m 43 #[.val (.ref hi), .val (.ref tk), .val (.ref a), .val (.ref b)] [.null, (.ref tk)])) rfl (by rw [hml]; rfl) (Steps.refl _) (argsL := [.null]) (rest := []) (lenOf pd_2 rfl) rfl (by show 2 * 0 + _ ≤ _; exact Nat.le_of_eq rfl) (hb hby d11_43) (fun _ _ => ⟨rfl, e5, (by decide : 0 + 0 ≤ _), (by decide : 0 + 0 ≤ _)⟩)
  dsimp only [Pt.U, Pt.locs, Pt.cells, Pt.slots] at X6 l6 y6 z6 st6 hQ6
  subst l6 y6 z6
  obtain ⟨rfl, N6q, W6⟩ := hQ6
  have N6 := Fr.app N5 N6q
  obtain ⟨h6, e6⟩ : ∃ z : Heap, T6.heap = z := ⟨_, rfl⟩
  rw [e6] at W6
  have E6_hi := E5_hi.wr W6
  have E6_tk := E5_tk.wr W6
  have F6_tk_nearerFront := F5_tk_nearerFront.other W6 (Or.inr (slot_ne (Or.inl (hw _ (List.mem_of_getElem? (i := 71) rfl))) (Or.inl (hw _ (List.mem_of_getElem? (i := 78) rfl))) (by decide) (t := (.object "com/example/unhurried_reaper/unhurriedreaper/Task")) (t' := (.object "com/example/unhurried_reaper/unhurriedreaper/Task")) (by decide) (by decide)))
  have F6_tk_furtherBack := F5_tk_furtherBack.same W6
  have F6_tk_frontedAt := F5_tk_frontedAt.other W6 (Or.inr (slot_ne (Or.inl (hw _ (List.mem_of_getElem? (i := 87) rfl))) (Or.inl (hw _ (List.mem_of_getElem? (i := 78) rfl))) (by decide) (t := .long) (t' := (.object "com/example/unhurried_reaper/unhurriedreaper/Task")) (by decide) (by decide)))
  have E6_a := E5_a.wr W6
  have F6_a_nearerFront := F5_a_nearerFront.other W6 (Or.inl (Ne.symm ne_tk_a))
  have F6_a_furtherBack := F5_a_furtherBack.other W6 (Or.inl (Ne.symm ne_tk_a))
  have F6_a_frontedAt := F5_a_frontedAt.other W6 (Or.inl (Ne.symm ne_tk_a))
  have E6_b := E5_b.wr W6
  have F6_b_nearerFront := F5_b_nearerFront.other W6 (Or.inl (Ne.symm ne_tk_b))
  have F6_b_furtherBack := F5_b_furtherBack.other W6 (Or.inl (Ne.symm ne_tk_b))
  have F6_b_frontedAt := F5_b_frontedAt.other W6 (Or.inl (Ne.symm ne_tk_b))
  have K6 : Keep h0 h6 [tk, a, b] := K5.wr W6 (Or.inl (List.mem_of_getElem? (i := 0) rfl))
  obtain ⟨fs, hr, hrun, hended, hW, hsame⟩ := X6.leave (v := none) (fun _ => rfl)
  refine ⟨_, _, go0 _ ?_, hrun, hended, _, _, rfl, ?_, ⟨_, rfl⟩, hW, hsame.mono (by decide) (by decide)⟩
  · show Steps p.tables e below (s₁.setTop (mkF m 0 #[.val (.ref hi), .val (.ref tk), .unset, .unset] [])) _
    refine XS.aloadN X0.here hx rfl (hb hby d11_0) rfl rfl ?_
    show Steps p.tables e below (s₁.setTop (mkF m 1 #[.val (.ref hi), .val (.ref tk), .unset, .unset] [(.ref tk)])) _
    refine st1.trans ?_
    show Steps p.tables e below (T1.setTop (mkF m 4 #[.val (.ref hi), .val (.ref tk), .unset, .unset] [(.ref a)])) _
    refine XS.astoreN X1.here hx rfl (hb hby d11_4) rfl rfl (l' := #[.val (.ref hi), .val (.ref tk), .val (.ref a), .unset]) rfl ?_
    show Steps p.tables e below (T1.setTop (mkF m 5 #[.val (.ref hi), .val (.ref tk), .val (.ref a), .unset] [])) _
    refine XS.aloadN X1.here hx rfl (hb hby d11_5) rfl rfl ?_
    show Steps p.tables e below (T1.setTop (mkF m 6 #[.val (.ref hi), .val (.ref tk), .val (.ref a), .unset] [(.ref tk)])) _
    refine st2.trans ?_
    show Steps p.tables e below (T2.setTop (mkF m 9 #[.val (.ref hi), .val (.ref tk), .val (.ref a), .unset] [(.ref b)])) _
    refine XS.astoreN X2.here hx rfl (hb hby d11_9) rfl rfl (l' := #[.val (.ref hi), .val (.ref tk), .val (.ref a), .val (.ref b)]) rfl ?_
    show Steps p.tables e below (T2.setTop (mkF m 10 #[.val (.ref hi), .val (.ref tk), .val (.ref a), .val (.ref b)] [])) _
    refine XS.aloadN X2.here hx rfl (hb hby d11_10) rfl rfl ?_
    show Steps p.tables e below (T2.setTop (mkF m 11 #[.val (.ref hi), .val (.ref tk), .val (.ref a), .val (.ref b)] [(.ref a)])) _
    refine XS.ifnonnullYes X2.here hx rfl (pc0 := 11) (pc' := 22) rfl (hb hby d11_11) rfl (by decide) (by decide) ?_
    show Steps p.tables e below (T2.setTop (mkF m 22 #[.val (.ref hi), .val (.ref tk), .val (.ref a), .val (.ref b)] [])) _
    refine XS.aloadN X2.here hx rfl (hb hby d11_22) rfl rfl ?_
    show Steps p.tables e below (T2.setTop (mkF m 23 #[.val (.ref hi), .val (.ref tk), .val (.ref a), .val (.ref b)] [(.ref a)])) _
    refine XS.aloadN X2.here hx rfl (hb hby d11_23) rfl rfl ?_
    show Steps p.tables e below (T2.setTop (mkF m 24 #[.val (.ref hi), .val (.ref tk), .val (.ref a), .val (.ref b)] [(.ref b), (.ref a)])) _
    refine st3.trans ?_
    show Steps p.tables e below (T3.setTop (mkF m 27 #[.val (.ref hi), .val (.ref tk), .val (.ref a), .val (.ref b)] [])) _
    refine XS.aloadN X3.here hx rfl (hb hby d11_27) rfl rfl ?_
    show Steps p.tables e below (T3.setTop (mkF m 28 #[.val (.ref hi), .val (.ref tk), .val (.ref a), .val (.ref b)] [(.ref b)])) _
    refine XS.ifnullNo X3.here hx rfl (hb hby d11_28) rfl ?_
    show Steps p.tables e below (T3.setTop (mkF m 31 #[.val (.ref hi), .val (.ref tk), .val (.ref a), .val (.ref b)] [])) _
    refine XS.aloadN X3.here hx rfl (hb hby d11_31) rfl rfl ?_
    show Steps p.tables e below (T3.setTop (mkF m 32 #[.val (.ref hi), .val (.ref tk), .val (.ref a), .val (.ref b)] [(.ref b)])) _
    refine XS.aloadN X3.here hx rfl (hb hby d11_32) rfl rfl ?_
    show Steps p.tables e below (T3.setTop (mkF m 33 #[.val (.ref hi), .val (.ref tk), .val (.ref a), .val (.ref b)] [(.ref a), (.ref b)])) _
    refine st4.trans ?_
    show Steps p.tables e below (T4.setTop (mkF m 36 #[.val (.ref hi), .val (.ref tk), .val (.ref a), .val (.ref b)] [])) _
    refine XS.aloadN X4.here hx rfl (hb hby d11_36) rfl rfl ?_
    show Steps p.tables e below (T4.setTop (mkF m 37 #[.val (.ref hi), .val (.ref tk), .val (.ref a), .val (.ref b)] [(.ref tk)])) _
    refine XS.aconstNull X4.here hx rfl (hb hby d11_37) ?_
    show Steps p.tables e below (T4.setTop (mkF m 38 #[.val (.ref hi), .val (.ref tk), .val (.ref a), .val (.ref b)] [.null, (.ref tk)])) _
    refine st5.trans ?_
    show Steps p.tables e below (T5.setTop (mkF m 41 #[.val (.ref hi), .val (.ref tk), .val (.ref a), .val (.ref b)] [])) _
    refine XS.aloadN X5.here hx rfl (hb hby d11_41) rfl rfl ?_
    show Steps p.tables e below (T5.setTop (mkF m 42 #[.val (.ref hi), .val (.ref tk), .val (.ref a), .val (.ref b)] [(.ref tk)])) _
    refine XS.aconstNull X5.here hx rfl (hb hby d11_42) ?_
    show Steps p.tables e below (T5.setTop (mkF m 43 #[.val (.ref hi), .val (.ref tk), .val (.ref a), .val (.ref b)] [.null, (.ref tk)])) _
    refine st6.trans ?_
    show Steps p.tables e below (T6.setTop (mkF m 46 #[.val (.ref hi), .val (.ref tk), .val (.ref a), .val (.ref b)] [])) _
    exact X6.returnOut hx Bd.returns (hb hby d11_46) hr
  · show Q11ab Z hi tk a b q qa qb wa wb h0 n0 _ T6.heap _
    rw [e6]
    exact ⟨rfl, N6, K6, F6_tk_nearerFront, F6_tk_furtherBack, F6_tk_frontedAt, F6_a_nearerFront, F6_a_furtherBack, F6_a_frontedAt, F6_b_nearerFront, F6_b_furtherBack, F6_b_frontedAt⟩
theorem pn_0 : plainName "com/example/unhurried_reaper/unhurriedreaper/TaskHistoryRemovePinLaw" = true := by first | (simp [plainName, overriddenIn]; done) | decide +kernel
theorem ef_0 (m : MethodId) (p1 : Int32) (p2 : Int32) : entryFrame m #[(.int p1), (.int p2)] maxLocals = mkF m 0 #[.val (.int p1), .val (.int p2), .unset, .unset, .unset, .unset, .unset, .unset, .unset, .unset, .unset, .unset, .unset] [] := by first | (simp [entryFrame, mkF, argsToLocals, Value.category, maxLocals]; done) | rfl
def Q0 (Z : State) (p1 : Int32) (h0 : Heap) (n0 : Nat) (v : Option Value) (h : Heap) (L : List Loc) : Prop := v = some (.int 1) ∧ Fr n0 L
theorem own_strs : ∀ d ∈ Bundle.stringAtoms, d ∈ tables_1 := by decide +kernel
theorem pd_4 : parseMethodDescriptor "(Ljava/lang/String;)V" = some ⟨[(.object "java/lang/String")], none⟩ := by decide +kernel
set_option maxRecDepth 65536 in
set_option maxHeartbeats 40000000 in
theorem rm0 (l : Launch) (Z : State) (a0 : Array Value) (hw : ∀ d ∈ tables_1, d.before a0 Z = true) (ws : List Jvm.Cond) (p1 p2 : Int32) (sd : Addr) (h0 : Heap) (n0 : Nat) (Z0 : n0 ≤ h0.size) (OL : Old Z n0 h0) (SD : Sta Z Z.heap "java/util/ArrayList" "DEFAULTCAPACITY_EMPTY_ELEMENTDATA" "[Ljava/lang/Object;" (.ref sd)) :
    MetFree l x (head1 (Jvm.Cond.code x code maxLocals ret :: ws) room_1) (fun a U => a = #[(.int p1), (.int p2)] ∧ Z.Warmed39 U.vm ∧ U.heap = h0) (fun _ _ _ _ _ => True) (fun _ U oU U' => ∃ v L, oU = .returned v ∧ Q0 Z p1 h0 n0 v U'.heap L ∧ ReturnedEndW U oU U' L room_1.cells room_1.slots) := by
  refine MetFree.of_bodySF (plainFor_of_name pn_0) hisR ?_
  intro p e s m args below meth c s₁ Bd hml0 hP hK
  obtain ⟨rfl, hZ, hh⟩ := hP
  have hx := Bd.exec
  have hby := Bd.bytes
  have hml : c.maxLocals = 13 := hml0
  have hown : s.vm.findClass "com/example/unhurried_reaper/unhurriedreaper/TaskHistoryRemovePinLaw" = some m.cls := findClass_of_methodNamed Bd.named
  have hnm := (name_of_methodNamed Bd.named Bd.method).1
  have X0 : Stand p l e room_1 (s.setVm s.vm) m #[(.int p1), (.int p2)] below meth c s₁ [] 0 0 := Stand.of_body Bd
  have e0 : s₁.heap = h0 := by rw [← hh, Bd.state]; rfl
  have N0 := Fr.nil n0
  have hS0 : s.Since s.vm 0 := (State.WarmedH.refl s).since 0
  have go0 : ∀ t, Steps p.tables e below (s₁.setTop (mkF m 0 #[.val (.int p1), .val (.int p2), .unset, .unset, .unset, .unset, .unset, .unset, .unset, .unset, .unset, .unset, .unset] [])) t → Steps p.tables e below (s₁.setTop (entryFrame m #[(.int p1), (.int p2)] maxLocals)) t := fun t k => castTop (ef_0 m p1 p2) k
  have go1 : ∀ t, Steps p.tables e below (s₁.setTop (mkF m 9 #[.val (.int p1), .val (.int p2), .val (.int (((p1 &&& (2147483647 : Int32)) % (3 : Int32)) + (1 : Int32))), .unset, .unset, .unset, .unset, .unset, .unset, .unset, .unset, .unset, .unset] [])) t → Steps p.tables e below (s₁.setTop (entryFrame m #[(.int p1), (.int p2)] maxLocals)) t := by
    intro t kt
    refine go0 t ?_
    show Steps p.tables e below (s₁.setTop (mkF m 0 #[.val (.int p1), .val (.int p2), .unset, .unset, .unset, .unset, .unset, .unset, .unset, .unset, .unset, .unset, .unset] [])) _
    refine XS.iloadN X0.here hx rfl (hb hby at_0) rfl ?_
    show Steps p.tables e below (s₁.setTop (mkF m 1 #[.val (.int p1), .val (.int p2), .unset, .unset, .unset, .unset, .unset, .unset, .unset, .unset, .unset, .unset, .unset] [(.int p1)])) _
    refine X0.ldcInt hx hown (mvT hZ (hw _ (List.mem_of_getElem? (i := 0) rfl))) (g := (mkF m 1 #[.val (.int p1), .val (.int p2), .unset, .unset, .unset, .unset, .unset, .unset, .unset, .unset, .unset, .unset, .unset] [(.int p1)])) rfl (hb hby at_1) _ ?_
    show Steps p.tables e below (s₁.setTop (mkF m 3 #[.val (.int p1), .val (.int p2), .unset, .unset, .unset, .unset, .unset, .unset, .unset, .unset, .unset, .unset, .unset] [(.int (2147483647 : Int32)), (.int p1)])) _
    refine XS.iand X0.here hx rfl (hb hby at_3) rfl ?_
    show Steps p.tables e below (s₁.setTop (mkF m 4 #[.val (.int p1), .val (.int p2), .unset, .unset, .unset, .unset, .unset, .unset, .unset, .unset, .unset, .unset, .unset] [(.int (p1 &&& (2147483647 : Int32)))])) _
    refine XS.iconst X0.here hx rfl (hb hby at_4) ?_
    show Steps p.tables e below (s₁.setTop (mkF m 5 #[.val (.int p1), .val (.int p2), .unset, .unset, .unset, .unset, .unset, .unset, .unset, .unset, .unset, .unset, .unset] [(.int (3 : Int32)), (.int (p1 &&& (2147483647 : Int32)))])) _
    refine iremM X0 hx rfl (hb hby at_5) rfl (by decide) ?_
    show Steps p.tables e below (s₁.setTop (mkF m 6 #[.val (.int p1), .val (.int p2), .unset, .unset, .unset, .unset, .unset, .unset, .unset, .unset, .unset, .unset, .unset] [(.int ((p1 &&& (2147483647 : Int32)) % (3 : Int32)))])) _
    refine XS.iconst X0.here hx rfl (hb hby at_6) ?_
    show Steps p.tables e below (s₁.setTop (mkF m 7 #[.val (.int p1), .val (.int p2), .unset, .unset, .unset, .unset, .unset, .unset, .unset, .unset, .unset, .unset, .unset] [(.int (1 : Int32)), (.int ((p1 &&& (2147483647 : Int32)) % (3 : Int32)))])) _
    refine XS.iadd X0.here hx rfl (hb hby at_7) rfl ?_
    show Steps p.tables e below (s₁.setTop (mkF m 8 #[.val (.int p1), .val (.int p2), .unset, .unset, .unset, .unset, .unset, .unset, .unset, .unset, .unset, .unset, .unset] [(.int (((p1 &&& (2147483647 : Int32)) % (3 : Int32)) + (1 : Int32)))])) _
    refine XS.istoreN X0.here hx rfl (hb hby at_8) rfl (l' := #[.val (.int p1), .val (.int p2), .val (.int (((p1 &&& (2147483647 : Int32)) % (3 : Int32)) + (1 : Int32))), .unset, .unset, .unset, .unset, .unset, .unset, .unset, .unset, .unset, .unset]) rfl ?_
    exact kt
  obtain ⟨nn, hnn⟩ : ∃ z : Int32, z = (((p1 &&& (2147483647 : Int32)) % (3 : Int32)) + (1 : Int32)) := ⟨_, rfl⟩
  rw [← hnn] at go1
  have hn3 := own_n hnn
  have go2 : ∀ t, Steps p.tables e below (s₁.setTop (mkF m 16 #[.val (.int p1), .val (.int p2), .val (.int nn), .val (.int ((p2 &&& (2147483647 : Int32)) % nn)), .unset, .unset, .unset, .unset, .unset, .unset, .unset, .unset, .unset] [])) t → Steps p.tables e below (s₁.setTop (entryFrame m #[(.int p1), (.int p2)] maxLocals)) t := by
    intro t kt
    refine go1 t ?_
    show Steps p.tables e below (s₁.setTop (mkF m 9 #[.val (.int p1), .val (.int p2), .val (.int nn), .unset, .unset, .unset, .unset, .unset, .unset, .unset, .unset, .unset, .unset] [])) _
    refine XS.iloadN X0.here hx rfl (hb hby at_9) rfl ?_
    show Steps p.tables e below (s₁.setTop (mkF m 10 #[.val (.int p1), .val (.int p2), .val (.int nn), .unset, .unset, .unset, .unset, .unset, .unset, .unset, .unset, .unset, .unset] [(.int p2)])) _
    refine X0.ldcInt hx hown (mvT hZ (hw _ (List.mem_of_getElem? (i := 0) rfl))) (g := (mkF m 10 #[.val (.int p1), .val (.int p2), .val (.int nn), .unset, .unset, .unset, .unset, .unset, .unset, .unset, .unset, .unset, .unset] [(.int p2)])) rfl (hb hby at_10) _ ?_
    show Steps p.tables e below (s₁.setTop (mkF m 12 #[.val (.int p1), .val (.int p2), .val (.int nn), .unset, .unset, .unset, .unset, .unset, .unset, .unset, .unset, .unset, .unset] [(.int (2147483647 : Int32)), (.int p2)])) _
    refine XS.iand X0.here hx rfl (hb hby at_12) rfl ?_
    show Steps p.tables e below (s₁.setTop (mkF m 13 #[.val (.int p1), .val (.int p2), .val (.int nn), .unset, .unset, .unset, .unset, .unset, .unset, .unset, .unset, .unset, .unset] [(.int (p2 &&& (2147483647 : Int32)))])) _
    refine XS.iloadN X0.here hx rfl (hb hby at_13) rfl ?_
    show Steps p.tables e below (s₁.setTop (mkF m 14 #[.val (.int p1), .val (.int p2), .val (.int nn), .unset, .unset, .unset, .unset, .unset, .unset, .unset, .unset, .unset, .unset] [(.int nn), (.int (p2 &&& (2147483647 : Int32)))])) _
    refine iremM X0 hx rfl (hb hby at_14) rfl (own_nz hn3) ?_
    show Steps p.tables e below (s₁.setTop (mkF m 15 #[.val (.int p1), .val (.int p2), .val (.int nn), .unset, .unset, .unset, .unset, .unset, .unset, .unset, .unset, .unset, .unset] [(.int ((p2 &&& (2147483647 : Int32)) % nn))])) _
    refine XS.istoreN X0.here hx rfl (hb hby at_15) rfl (l' := #[.val (.int p1), .val (.int p2), .val (.int nn), .val (.int ((p2 &&& (2147483647 : Int32)) % nn)), .unset, .unset, .unset, .unset, .unset, .unset, .unset, .unset, .unset]) rfl ?_
    exact kt
  obtain ⟨kk, hkk⟩ : ∃ z : Int32, z = ((p2 &&& (2147483647 : Int32)) % nn) := ⟨_, rfl⟩
  rw [← hkk] at go2
  obtain ⟨T3, h3, k3, X3, e3, E3, A3, Ov3, st3⟩ := newR X0 hx hZ hown (hw _ (List.mem_of_getElem? (i := 1) rfl)) (hw _ (List.mem_of_getElem? (i := 2) rfl)) e0 (g := (mkF m 17 #[.val (.int p1), .val (.int p2), .val (.int nn), .val (.int kk), .unset, .unset, .unset, .unset, .unset, .unset, .unset, .unset, .unset] [(.int (3 : Int32))])) rfl (hb hby at_17) rfl (by decide) (cap := 3) (by decide) (by decide) (by decide) (by decide)
  obtain ⟨b3, g3⟩ : ∃ z, z = h0.size := ⟨_, rfl⟩
  rw [← g3] at A3 st3
  have O3 : Old Z n0 h3 := OL.ext E3
  have ge_b3 : n0 ≤ b3 := (Nat.le_trans Z0 (Nat.le_of_eq g3.symm))
  have V3_b3 : Arv Z h3 b3 k3 (.object "com/example/unhurried_reaper/unhurriedreaper/Task") (3 : Int32) [.null, .null, .null] .null := (Arv.new A3 (by decide)).pad (pad_rep [] .null 3)
  obtain ⟨T4, h4, X4, e4, E4, A4, D4, -, st4⟩ := newO X3 hx hZ hown (hw _ (List.mem_of_getElem? (i := 1) rfl)) (hw _ (List.mem_of_getElem? (i := 3) rfl)) (hw _ (List.mem_of_getElem? (i := 4) rfl)) e3 (g := (mkF m 25 #[.val (.int p1), .val (.int p2), .val (.int nn), .val (.int kk), .val (.ref b3), .unset, .unset, .unset, .unset, .unset, .unset, .unset, .unset] [(.int (0 : Int32)), (.ref b3)])) rfl (hb hby at_25) (by decide) (by decide)
  obtain ⟨b4, g4⟩ : ∃ z, z = h3.size := ⟨_, rfl⟩
  rw [← g4] at A4 D4 st4
  have ne_b3_b4 : b3 ≠ b4 := Nat.ne_of_lt (Nat.lt_of_lt_of_le V3_b3.lt (Nat.le_of_eq g4.symm))
  have V4_b3 := V3_b3.ext E4
  have O4 : Old Z n0 h4 := O3.ext E4
  have ge_b4 : n0 ≤ b4 := (Nat.le_trans (Nat.le_trans Z0 E3.1) (Nat.le_of_eq g4.symm))
  have F4_b4_activities : Fld Z h4 b4 "com/example/unhurried_reaper/unhurriedreaper/Task" "activities" "Ljava/util/List;" .null := D4 (Or.inr (hw _ (List.mem_of_getElem? (i := 44) rfl))) (ty := (.object "java/util/List")) (by decide)
  have F4_b4_name : Fld Z h4 b4 "com/example/unhurried_reaper/unhurriedreaper/Task" "name" "Ljava/lang/String;" .null := D4 (Or.inr (hw _ (List.mem_of_getElem? (i := 46) rfl))) (ty := (.object "java/lang/String")) (by decide)
  have F4_b4_nearerFront : Fld Z h4 b4 "com/example/unhurried_reaper/unhurriedreaper/Task" "nearerFront" "Lcom/example/unhurried_reaper/unhurriedreaper/Task;" .null := D4 (Or.inl (hw _ (List.mem_of_getElem? (i := 71) rfl))) (ty := (.object "com/example/unhurried_reaper/unhurriedreaper/Task")) (by decide)
  have F4_b4_furtherBack : Fld Z h4 b4 "com/example/unhurried_reaper/unhurriedreaper/Task" "furtherBack" "Lcom/example/unhurried_reaper/unhurriedreaper/Task;" .null := D4 (Or.inl (hw _ (List.mem_of_getElem? (i := 78) rfl))) (ty := (.object "com/example/unhurried_reaper/unhurriedreaper/Task")) (by decide)
  have F4_b4_frontedAt : Fld Z h4 b4 "com/example/unhurried_reaper/unhurriedreaper/Task" "frontedAt" "J" (.long (0 : Int64)) := D4 (Or.inl (hw _ (List.mem_of_getElem? (i := 87) rfl))) (ty := .long) (by decide)
  obtain ⟨b5, T5, h5, ks5, X5, e5, E5, hS5, hk5, hZ5, hown5, st5⟩ := ldcS X4 hx hZ hown (hw _ (List.mem_of_getElem? (i := 5) rfl)) (fun d hd => hw d (own_strs d hd)) e4 hS0 (Nat.le_trans (Nat.le_trans (Nat.zero_le _) E3.1) E4.1) (g := (mkF m 29 #[.val (.int p1), .val (.int p2), .val (.int nn), .val (.int kk), .val (.ref b3), .unset, .unset, .unset, .unset, .unset, .unset, .unset, .unset] [(.ref b4), (.ref b4), (.int (0 : Int32)), (.ref b3)])) rfl (hb hby at_29) (n := 4) (by decide) (by decide) (by decide) (by decide)
  have V5_b3 := V4_b3.ext E5
  have E5_b4 := A4.ext E5
  have F5_b4_activities := F4_b4_activities.ext E5
  have F5_b4_name := F4_b4_name.ext E5
  have F5_b4_nearerFront := F4_b4_nearerFront.ext E5
  have F5_b4_furtherBack := F4_b4_furtherBack.ext E5
  have F5_b4_frontedAt := F4_b4_frontedAt.ext E5
  have O5 : Old Z n0 h5 := O4.ext E5
  obtain ⟨_, _, ⟨T6, L6, k6, n6⟩, -, X6, ⟨Lc6, hQ6, l6, y6, z6⟩, st6⟩ := X5.specialBack hx (y := (⟨"com/example/unhurried_reaper/unhurriedreaper/Task", "<init>", "(Ljava/lang/String;)V"⟩ : MethodName)) rfl hown5 (mvT hZ5 (hw _ (List.mem_of_getElem? (i := 13) rfl))) (mvT hZ5 (hw _ (List.mem_of_getElem? (i := 14) rfl))) (mvT hZ5 (hw _ (List.mem_of_getElem? (i := 15) rfl))) (by decide) (backOf (W := 3) (rm1 l Z a0 hw [] b4 b5 sd h5 n0 (Nat.le_trans (Nat.le_trans (Nat.le_trans Z0 E3.1) E4.1) E5.1) ge_b4 E5_b4 F5_b4_activities F5_b4_name F5_b4_nearerFront F5_b4_furtherBack F5_b4_frontedAt O5 SD) hZ5 (hw _ (List.mem_of_getElem? (i := 15) rfl)) (hw _ (List.mem_of_getElem? (i := 4) rfl)) (by decide) (by decide)) (g := (mkF m 31 #[.val (.int p1), .val (.int p2), .val (.int nn), .val (.int kk), .val (.ref b3), .unset, .unset, .unset, .unset, .unset, .unset, .unset, .unset] [(.ref b5), (.ref b4), (.ref b4), (.int (0 : Int32)), (.ref b3)])) rfl (by rw [hml]; rfl) (Steps.refl _) (a := b4) (argsL := [(.ref b5)]) (rest := [(.ref b4), (.int (0 : Int32)), (.ref b3)]) (lenOf pd_4 rfl) rfl (by show 2 * 0 + _ ≤ _; exact Nat.le_of_eq rfl) (hb hby at_31) (fun _ _ => ⟨rfl, e5, (by decide : 4 + 1 ≤ _), (by decide : 16 + 3 ≤ _)⟩)
  dsimp only [Pt.U, Pt.locs, Pt.cells, Pt.slots] at X6 l6 y6 z6 st6 hQ6
  subst l6 y6 z6
  obtain ⟨rfl, N6q, K6c, F6_b4_nearerFront, F6_b4_furtherBack, F6_b4_frontedAt⟩ := hQ6
  have N6 := Fr.app N0 N6q
  have V6_b3 := V5_b3.keep K6c (ninS ne_b3_b4 nin0)
  have E6_b4 := E5_b4.keep K6c
  have O6 : Old Z n0 T6.heap := O5.keep K6c (allS ge_b4 all0)
  obtain ⟨cl7, Ar7, q7, S7, M7, Hh7, G7⟩ := id V6_b3
  obtain ⟨T7, h7, X7, e7, W7, st7⟩ := stR X6 hx hZ5 rfl Ar7 (j := (0 : Int32)) (inb_of S7 ⟨by decide, by decide⟩) rfl (Sto.ofV Ar7 q7 Ov3 (Ins.self E6_b4)) (g := (mkF m 34 #[.val (.int p1), .val (.int p2), .val (.int nn), .val (.int kk), .val (.ref b3), .unset, .unset, .unset, .unset, .unset, .unset, .unset, .unset] [(.ref b4), (.int (0 : Int32)), (.ref b3)])) rfl rfl (hb hby at_34)
  have V7_b3 : Arv Z h7 b3 k3 (.object "com/example/unhurried_reaper/unhurriedreaper/Task") (3 : Int32) [(.ref b4), .null, .null] .null := Arv.set Ar7 q7 S7 M7 Hh7 G7 rfl W7 0 rfl (Nat.le_of_ble_eq_true rfl)
  have E7_b4 := E6_b4.wr W7
  have F7_b4_nearerFront := F6_b4_nearerFront.other W7 (Or.inl (Ne.symm ne_b3_b4))
  have F7_b4_furtherBack := F6_b4_furtherBack.other W7 (Or.inl (Ne.symm ne_b3_b4))
  have F7_b4_frontedAt := F6_b4_frontedAt.other W7 (Or.inl (Ne.symm ne_b3_b4))
  have N7 := Fr.snoc X7 N6 ge_b3
  have O7 : Old Z n0 h7 := O6.wr W7 ge_b3
  obtain ⟨T8, h8, X8, e8, E8, A8, D8, -, st8⟩ := newO X7 hx hZ5 hown5 (hw _ (List.mem_of_getElem? (i := 1) rfl)) (hw _ (List.mem_of_getElem? (i := 3) rfl)) (hw _ (List.mem_of_getElem? (i := 4) rfl)) e7 (g := (mkF m 38 #[.val (.int p1), .val (.int p2), .val (.int nn), .val (.int kk), .val (.ref b3), .unset, .unset, .unset, .unset, .unset, .unset, .unset, .unset] [(.int (1 : Int32)), (.ref b3)])) rfl (hb hby at_38) (by decide) (by decide)
  obtain ⟨b8, g8⟩ : ∃ z, z = h7.size := ⟨_, rfl⟩
  rw [← g8] at A8 D8 st8
  have ne_b3_b8 : b3 ≠ b8 := Nat.ne_of_lt (Nat.lt_of_lt_of_le V7_b3.lt (Nat.le_of_eq g8.symm))
  have V8_b3 := V7_b3.ext E8
  have ne_b4_b8 : b4 ≠ b8 := Nat.ne_of_lt (Nat.lt_of_lt_of_le E7_b4.lt (Nat.le_of_eq g8.symm))
  have E8_b4 := E7_b4.ext E8
  have F8_b4_nearerFront := F7_b4_nearerFront.ext E8
  have F8_b4_furtherBack := F7_b4_furtherBack.ext E8
  have F8_b4_frontedAt := F7_b4_frontedAt.ext E8
  have O8 : Old Z n0 h8 := O7.ext E8
  have ge_b8 : n0 ≤ b8 := (Nat.le_trans (Nat.le_trans (Nat.le_trans (Nat.le_trans (Nat.le_trans (Nat.le_trans Z0 E3.1) E4.1) E5.1) K6c.1) (Keep.of_wr W7).1) (Nat.le_of_eq g8.symm))
  have F8_b8_activities : Fld Z h8 b8 "com/example/unhurried_reaper/unhurriedreaper/Task" "activities" "Ljava/util/List;" .null := D8 (Or.inr (hw _ (List.mem_of_getElem? (i := 44) rfl))) (ty := (.object "java/util/List")) (by decide)
  have F8_b8_name : Fld Z h8 b8 "com/example/unhurried_reaper/unhurriedreaper/Task" "name" "Ljava/lang/String;" .null := D8 (Or.inr (hw _ (List.mem_of_getElem? (i := 46) rfl))) (ty := (.object "java/lang/String")) (by decide)
  have F8_b8_nearerFront : Fld Z h8 b8 "com/example/unhurried_reaper/unhurriedreaper/Task" "nearerFront" "Lcom/example/unhurried_reaper/unhurriedreaper/Task;" .null := D8 (Or.inl (hw _ (List.mem_of_getElem? (i := 71) rfl))) (ty := (.object "com/example/unhurried_reaper/unhurriedreaper/Task")) (by decide)
  have F8_b8_furtherBack : Fld Z h8 b8 "com/example/unhurried_reaper/unhurriedreaper/Task" "furtherBack" "Lcom/example/unhurried_reaper/unhurriedreaper/Task;" .null := D8 (Or.inl (hw _ (List.mem_of_getElem? (i := 78) rfl))) (ty := (.object "com/example/unhurried_reaper/unhurriedreaper/Task")) (by decide)
  have F8_b8_frontedAt : Fld Z h8 b8 "com/example/unhurried_reaper/unhurriedreaper/Task" "frontedAt" "J" (.long (0 : Int64)) := D8 (Or.inl (hw _ (List.mem_of_getElem? (i := 87) rfl))) (ty := .long) (by decide)
  obtain ⟨b9, T9, h9, ks9, X9, e9, E9, hS9, hk9, hZ9, hown9, st9⟩ := ldcS X8 hx hZ5 hown5 (hw _ (List.mem_of_getElem? (i := 48) rfl)) (fun d hd => hw d (own_strs d hd)) e8 hS5 (Nat.le_trans (Nat.le_trans (Nat.le_trans hk5 K6c.1) (Keep.of_wr W7).1) E8.1) (g := (mkF m 42 #[.val (.int p1), .val (.int p2), .val (.int nn), .val (.int kk), .val (.ref b3), .unset, .unset, .unset, .unset, .unset, .unset, .unset, .unset] [(.ref b8), (.ref b8), (.int (1 : Int32)), (.ref b3)])) rfl (hb hby at_42) (n := 4) (by decide) (by decide) (by decide) (by decide)
  have V9_b3 := V8_b3.ext E9
  have E9_b4 := E8_b4.ext E9
  have F9_b4_nearerFront := F8_b4_nearerFront.ext E9
  have F9_b4_furtherBack := F8_b4_furtherBack.ext E9
  have F9_b4_frontedAt := F8_b4_frontedAt.ext E9
  have E9_b8 := A8.ext E9
  have F9_b8_activities := F8_b8_activities.ext E9
  have F9_b8_name := F8_b8_name.ext E9
  have F9_b8_nearerFront := F8_b8_nearerFront.ext E9
  have F9_b8_furtherBack := F8_b8_furtherBack.ext E9
  have F9_b8_frontedAt := F8_b8_frontedAt.ext E9
  have O9 : Old Z n0 h9 := O8.ext E9
  obtain ⟨_, _, ⟨T10, L10, k10, n10⟩, -, X10, ⟨Lc10, hQ10, l10, y10, z10⟩, st10⟩ := X9.specialBack hx (y := (⟨"com/example/unhurried_reaper/unhurriedreaper/Task", "<init>", "(Ljava/lang/String;)V"⟩ : MethodName)) rfl hown9 (mvT hZ9 (hw _ (List.mem_of_getElem? (i := 13) rfl))) (mvT hZ9 (hw _ (List.mem_of_getElem? (i := 14) rfl))) (mvT hZ9 (hw _ (List.mem_of_getElem? (i := 15) rfl))) (by decide) (backOf (W := 3) (rm1 l Z a0 hw [] b8 b9 sd h9 n0 (Nat.le_trans (Nat.le_trans (Nat.le_trans (Nat.le_trans (Nat.le_trans (Nat.le_trans (Nat.le_trans Z0 E3.1) E4.1) E5.1) K6c.1) (Keep.of_wr W7).1) E8.1) E9.1) ge_b8 E9_b8 F9_b8_activities F9_b8_name F9_b8_nearerFront F9_b8_furtherBack F9_b8_frontedAt O9 SD) hZ9 (hw _ (List.mem_of_getElem? (i := 15) rfl)) (hw _ (List.mem_of_getElem? (i := 4) rfl)) (by decide) (by decide)) (g := (mkF m 44 #[.val (.int p1), .val (.int p2), .val (.int nn), .val (.int kk), .val (.ref b3), .unset, .unset, .unset, .unset, .unset, .unset, .unset, .unset] [(.ref b9), (.ref b8), (.ref b8), (.int (1 : Int32)), (.ref b3)])) rfl (by rw [hml]; rfl) (Steps.refl _) (a := b8) (argsL := [(.ref b9)]) (rest := [(.ref b8), (.int (1 : Int32)), (.ref b3)]) (lenOf pd_4 rfl) rfl (by show 2 * 0 + _ ≤ _; exact Nat.le_of_eq rfl) (hb hby at_44) (fun _ _ => ⟨rfl, e9, (by decide : 8 + 1 ≤ _), (by decide : 32 + 3 ≤ _)⟩)
  dsimp only [Pt.U, Pt.locs, Pt.cells, Pt.slots] at X10 l10 y10 z10 st10 hQ10
  subst l10 y10 z10
  obtain ⟨rfl, N10q, K10c, F10_b8_nearerFront, F10_b8_furtherBack, F10_b8_frontedAt⟩ := hQ10
  have N10 := Fr.app N7 N10q
  have V10_b3 := V9_b3.keep K10c (ninS ne_b3_b8 nin0)
  have E10_b4 := E9_b4.keep K10c
  have F10_b4_nearerFront := F9_b4_nearerFront.keep K10c (ninS ne_b4_b8 nin0)
  have F10_b4_furtherBack := F9_b4_furtherBack.keep K10c (ninS ne_b4_b8 nin0)
  have F10_b4_frontedAt := F9_b4_frontedAt.keep K10c (ninS ne_b4_b8 nin0)
  have E10_b8 := E9_b8.keep K10c
  have O10 : Old Z n0 T10.heap := O9.keep K10c (allS ge_b8 all0)
  obtain ⟨cl11, Ar11, q11, S11, M11, Hh11, G11⟩ := id V10_b3
  obtain ⟨T11, h11, X11, e11, W11, st11⟩ := stR X10 hx hZ9 rfl Ar11 (j := (1 : Int32)) (inb_of S11 ⟨by decide, by decide⟩) rfl (Sto.ofV Ar11 q11 Ov3 (Ins.self E10_b8)) (g := (mkF m 47 #[.val (.int p1), .val (.int p2), .val (.int nn), .val (.int kk), .val (.ref b3), .unset, .unset, .unset, .unset, .unset, .unset, .unset, .unset] [(.ref b8), (.int (1 : Int32)), (.ref b3)])) rfl rfl (hb hby at_47)
  have V11_b3 : Arv Z h11 b3 k3 (.object "com/example/unhurried_reaper/unhurriedreaper/Task") (3 : Int32) [(.ref b4), (.ref b8), .null] .null := Arv.set Ar11 q11 S11 M11 Hh11 G11 rfl W11 1 rfl (Nat.le_of_ble_eq_true rfl)
  have E11_b4 := E10_b4.wr W11
  have F11_b4_nearerFront := F10_b4_nearerFront.other W11 (Or.inl (Ne.symm ne_b3_b4))
  have F11_b4_furtherBack := F10_b4_furtherBack.other W11 (Or.inl (Ne.symm ne_b3_b4))
  have F11_b4_frontedAt := F10_b4_frontedAt.other W11 (Or.inl (Ne.symm ne_b3_b4))
  have E11_b8 := E10_b8.wr W11
  have F11_b8_nearerFront := F10_b8_nearerFront.other W11 (Or.inl (Ne.symm ne_b3_b8))
  have F11_b8_furtherBack := F10_b8_furtherBack.other W11 (Or.inl (Ne.symm ne_b3_b8))
  have F11_b8_frontedAt := F10_b8_frontedAt.other W11 (Or.inl (Ne.symm ne_b3_b8))
  have N11 := Fr.snoc X11 N10 ge_b3
  have O11 : Old Z n0 h11 := O10.wr W11 ge_b3
  obtain ⟨T12, h12, X12, e12, E12, A12, D12, -, st12⟩ := newO X11 hx hZ9 hown9 (hw _ (List.mem_of_getElem? (i := 1) rfl)) (hw _ (List.mem_of_getElem? (i := 3) rfl)) (hw _ (List.mem_of_getElem? (i := 4) rfl)) e11 (g := (mkF m 51 #[.val (.int p1), .val (.int p2), .val (.int nn), .val (.int kk), .val (.ref b3), .unset, .unset, .unset, .unset, .unset, .unset, .unset, .unset] [(.int (2 : Int32)), (.ref b3)])) rfl (hb hby at_51) (by decide) (by decide)
  obtain ⟨b12, g12⟩ : ∃ z, z = h11.size := ⟨_, rfl⟩
  rw [← g12] at A12 D12 st12
  have ne_b3_b12 : b3 ≠ b12 := Nat.ne_of_lt (Nat.lt_of_lt_of_le V11_b3.lt (Nat.le_of_eq g12.symm))
  have V12_b3 := V11_b3.ext E12
  have ne_b4_b12 : b4 ≠ b12 := Nat.ne_of_lt (Nat.lt_of_lt_of_le E11_b4.lt (Nat.le_of_eq g12.symm))
  have E12_b4 := E11_b4.ext E12
  have F12_b4_nearerFront := F11_b4_nearerFront.ext E12
  have F12_b4_furtherBack := F11_b4_furtherBack.ext E12
  have F12_b4_frontedAt := F11_b4_frontedAt.ext E12
  have ne_b8_b12 : b8 ≠ b12 := Nat.ne_of_lt (Nat.lt_of_lt_of_le E11_b8.lt (Nat.le_of_eq g12.symm))
  have E12_b8 := E11_b8.ext E12
  have F12_b8_nearerFront := F11_b8_nearerFront.ext E12
  have F12_b8_furtherBack := F11_b8_furtherBack.ext E12
  have F12_b8_frontedAt := F11_b8_frontedAt.ext E12
  have O12 : Old Z n0 h12 := O11.ext E12
  have ge_b12 : n0 ≤ b12 := (Nat.le_trans (Nat.le_trans (Nat.le_trans (Nat.le_trans (Nat.le_trans (Nat.le_trans (Nat.le_trans (Nat.le_trans (Nat.le_trans (Nat.le_trans Z0 E3.1) E4.1) E5.1) K6c.1) (Keep.of_wr W7).1) E8.1) E9.1) K10c.1) (Keep.of_wr W11).1) (Nat.le_of_eq g12.symm))
  have F12_b12_activities : Fld Z h12 b12 "com/example/unhurried_reaper/unhurriedreaper/Task" "activities" "Ljava/util/List;" .null := D12 (Or.inr (hw _ (List.mem_of_getElem? (i := 44) rfl))) (ty := (.object "java/util/List")) (by decide)
  have F12_b12_name : Fld Z h12 b12 "com/example/unhurried_reaper/unhurriedreaper/Task" "name" "Ljava/lang/String;" .null := D12 (Or.inr (hw _ (List.mem_of_getElem? (i := 46) rfl))) (ty := (.object "java/lang/String")) (by decide)
  have F12_b12_nearerFront : Fld Z h12 b12 "com/example/unhurried_reaper/unhurriedreaper/Task" "nearerFront" "Lcom/example/unhurried_reaper/unhurriedreaper/Task;" .null := D12 (Or.inl (hw _ (List.mem_of_getElem? (i := 71) rfl))) (ty := (.object "com/example/unhurried_reaper/unhurriedreaper/Task")) (by decide)
  have F12_b12_furtherBack : Fld Z h12 b12 "com/example/unhurried_reaper/unhurriedreaper/Task" "furtherBack" "Lcom/example/unhurried_reaper/unhurriedreaper/Task;" .null := D12 (Or.inl (hw _ (List.mem_of_getElem? (i := 78) rfl))) (ty := (.object "com/example/unhurried_reaper/unhurriedreaper/Task")) (by decide)
  have F12_b12_frontedAt : Fld Z h12 b12 "com/example/unhurried_reaper/unhurriedreaper/Task" "frontedAt" "J" (.long (0 : Int64)) := D12 (Or.inl (hw _ (List.mem_of_getElem? (i := 87) rfl))) (ty := .long) (by decide)
  obtain ⟨b13, T13, h13, ks13, X13, e13, E13, hS13, hk13, hZ13, hown13, st13⟩ := ldcS X12 hx hZ9 hown9 (hw _ (List.mem_of_getElem? (i := 49) rfl)) (fun d hd => hw d (own_strs d hd)) e12 hS9 (Nat.le_trans (Nat.le_trans (Nat.le_trans hk9 K10c.1) (Keep.of_wr W11).1) E12.1) (g := (mkF m 55 #[.val (.int p1), .val (.int p2), .val (.int nn), .val (.int kk), .val (.ref b3), .unset, .unset, .unset, .unset, .unset, .unset, .unset, .unset] [(.ref b12), (.ref b12), (.int (2 : Int32)), (.ref b3)])) rfl (hb hby at_55) (n := 4) (by decide) (by decide) (by decide) (by decide)
  have V13_b3 := V12_b3.ext E13
  have E13_b4 := E12_b4.ext E13
  have F13_b4_nearerFront := F12_b4_nearerFront.ext E13
  have F13_b4_furtherBack := F12_b4_furtherBack.ext E13
  have F13_b4_frontedAt := F12_b4_frontedAt.ext E13
  have E13_b8 := E12_b8.ext E13
  have F13_b8_nearerFront := F12_b8_nearerFront.ext E13
  have F13_b8_furtherBack := F12_b8_furtherBack.ext E13
  have F13_b8_frontedAt := F12_b8_frontedAt.ext E13
  have E13_b12 := A12.ext E13
  have F13_b12_activities := F12_b12_activities.ext E13
  have F13_b12_name := F12_b12_name.ext E13
  have F13_b12_nearerFront := F12_b12_nearerFront.ext E13
  have F13_b12_furtherBack := F12_b12_furtherBack.ext E13
  have F13_b12_frontedAt := F12_b12_frontedAt.ext E13
  have O13 : Old Z n0 h13 := O12.ext E13
  obtain ⟨_, _, ⟨T14, L14, k14, n14⟩, -, X14, ⟨Lc14, hQ14, l14, y14, z14⟩, st14⟩ := X13.specialBack hx (y := (⟨"com/example/unhurried_reaper/unhurriedreaper/Task", "<init>", "(Ljava/lang/String;)V"⟩ : MethodName)) rfl hown13 (mvT hZ13 (hw _ (List.mem_of_getElem? (i := 13) rfl))) (mvT hZ13 (hw _ (List.mem_of_getElem? (i := 14) rfl))) (mvT hZ13 (hw _ (List.mem_of_getElem? (i := 15) rfl))) (by decide) (backOf (W := 3) (rm1 l Z a0 hw [] b12 b13 sd h13 n0 (Nat.le_trans (Nat.le_trans (Nat.le_trans (Nat.le_trans (Nat.le_trans (Nat.le_trans (Nat.le_trans (Nat.le_trans (Nat.le_trans (Nat.le_trans (Nat.le_trans Z0 E3.1) E4.1) E5.1) K6c.1) (Keep.of_wr W7).1) E8.1) E9.1) K10c.1) (Keep.of_wr W11).1) E12.1) E13.1) ge_b12 E13_b12 F13_b12_activities F13_b12_name F13_b12_nearerFront F13_b12_furtherBack F13_b12_frontedAt O13 SD) hZ13 (hw _ (List.mem_of_getElem? (i := 15) rfl)) (hw _ (List.mem_of_getElem? (i := 4) rfl)) (by decide) (by decide)) (g := (mkF m 57 #[.val (.int p1), .val (.int p2), .val (.int nn), .val (.int kk), .val (.ref b3), .unset, .unset, .unset, .unset, .unset, .unset, .unset, .unset] [(.ref b13), (.ref b12), (.ref b12), (.int (2 : Int32)), (.ref b3)])) rfl (by rw [hml]; rfl) (Steps.refl _) (a := b12) (argsL := [(.ref b13)]) (rest := [(.ref b12), (.int (2 : Int32)), (.ref b3)]) (lenOf pd_4 rfl) rfl (by show 2 * 0 + _ ≤ _; exact Nat.le_of_eq rfl) (hb hby at_57) (fun _ _ => ⟨rfl, e13, (by decide : 12 + 1 ≤ _), (by decide : 48 + 3 ≤ _)⟩)
  dsimp only [Pt.U, Pt.locs, Pt.cells, Pt.slots] at X14 l14 y14 z14 st14 hQ14
  subst l14 y14 z14
  obtain ⟨rfl, N14q, K14c, F14_b12_nearerFront, F14_b12_furtherBack, F14_b12_frontedAt⟩ := hQ14
  have N14 := Fr.app N11 N14q
  have V14_b3 := V13_b3.keep K14c (ninS ne_b3_b12 nin0)
  have E14_b4 := E13_b4.keep K14c
  have F14_b4_nearerFront := F13_b4_nearerFront.keep K14c (ninS ne_b4_b12 nin0)
  have F14_b4_furtherBack := F13_b4_furtherBack.keep K14c (ninS ne_b4_b12 nin0)
  have F14_b4_frontedAt := F13_b4_frontedAt.keep K14c (ninS ne_b4_b12 nin0)
  have E14_b8 := E13_b8.keep K14c
  have F14_b8_nearerFront := F13_b8_nearerFront.keep K14c (ninS ne_b8_b12 nin0)
  have F14_b8_furtherBack := F13_b8_furtherBack.keep K14c (ninS ne_b8_b12 nin0)
  have F14_b8_frontedAt := F13_b8_frontedAt.keep K14c (ninS ne_b8_b12 nin0)
  have E14_b12 := E13_b12.keep K14c
  have O14 : Old Z n0 T14.heap := O13.keep K14c (allS ge_b12 all0)
  obtain ⟨cl15, Ar15, q15, S15, M15, Hh15, G15⟩ := id V14_b3
  obtain ⟨T15, h15, X15, e15, W15, st15⟩ := stR X14 hx hZ13 rfl Ar15 (j := (2 : Int32)) (inb_of S15 ⟨by decide, by decide⟩) rfl (Sto.ofV Ar15 q15 Ov3 (Ins.self E14_b12)) (g := (mkF m 60 #[.val (.int p1), .val (.int p2), .val (.int nn), .val (.int kk), .val (.ref b3), .unset, .unset, .unset, .unset, .unset, .unset, .unset, .unset] [(.ref b12), (.int (2 : Int32)), (.ref b3)])) rfl rfl (hb hby at_60)
  have V15_b3 : Arv Z h15 b3 k3 (.object "com/example/unhurried_reaper/unhurriedreaper/Task") (3 : Int32) [(.ref b4), (.ref b8), (.ref b12)] .null := Arv.set Ar15 q15 S15 M15 Hh15 G15 rfl W15 2 rfl (Nat.le_of_ble_eq_true rfl)
  have E15_b4 := E14_b4.wr W15
  have F15_b4_nearerFront := F14_b4_nearerFront.other W15 (Or.inl (Ne.symm ne_b3_b4))
  have F15_b4_furtherBack := F14_b4_furtherBack.other W15 (Or.inl (Ne.symm ne_b3_b4))
  have F15_b4_frontedAt := F14_b4_frontedAt.other W15 (Or.inl (Ne.symm ne_b3_b4))
  have E15_b8 := E14_b8.wr W15
  have F15_b8_nearerFront := F14_b8_nearerFront.other W15 (Or.inl (Ne.symm ne_b3_b8))
  have F15_b8_furtherBack := F14_b8_furtherBack.other W15 (Or.inl (Ne.symm ne_b3_b8))
  have F15_b8_frontedAt := F14_b8_frontedAt.other W15 (Or.inl (Ne.symm ne_b3_b8))
  have E15_b12 := E14_b12.wr W15
  have F15_b12_nearerFront := F14_b12_nearerFront.other W15 (Or.inl (Ne.symm ne_b3_b12))
  have F15_b12_furtherBack := F14_b12_furtherBack.other W15 (Or.inl (Ne.symm ne_b3_b12))
  have F15_b12_frontedAt := F14_b12_frontedAt.other W15 (Or.inl (Ne.symm ne_b3_b12))
  have N15 := Fr.snoc X15 N14 ge_b3
  have O15 : Old Z n0 h15 := O14.wr W15 ge_b3
  obtain ⟨T16, h16, X16, e16, E16, A16, D16, -, st16⟩ := newO X15 hx hZ13 hown13 (hw _ (List.mem_of_getElem? (i := 1) rfl)) (hw _ (List.mem_of_getElem? (i := 3) rfl)) (hw _ (List.mem_of_getElem? (i := 4) rfl)) e15 (g := (mkF m 61 #[.val (.int p1), .val (.int p2), .val (.int nn), .val (.int kk), .val (.ref b3), .unset, .unset, .unset, .unset, .unset, .unset, .unset, .unset] [])) rfl (hb hby at_61) (by decide) (by decide)
  obtain ⟨b16, g16⟩ : ∃ z, z = h15.size := ⟨_, rfl⟩
  rw [← g16] at A16 D16 st16
  have ne_b3_b16 : b3 ≠ b16 := Nat.ne_of_lt (Nat.lt_of_lt_of_le V15_b3.lt (Nat.le_of_eq g16.symm))
  have V16_b3 := V15_b3.ext E16
  have ne_b4_b16 : b4 ≠ b16 := Nat.ne_of_lt (Nat.lt_of_lt_of_le E15_b4.lt (Nat.le_of_eq g16.symm))
  have E16_b4 := E15_b4.ext E16
  have F16_b4_nearerFront := F15_b4_nearerFront.ext E16
  have F16_b4_furtherBack := F15_b4_furtherBack.ext E16
  have F16_b4_frontedAt := F15_b4_frontedAt.ext E16
  have ne_b8_b16 : b8 ≠ b16 := Nat.ne_of_lt (Nat.lt_of_lt_of_le E15_b8.lt (Nat.le_of_eq g16.symm))
  have E16_b8 := E15_b8.ext E16
  have F16_b8_nearerFront := F15_b8_nearerFront.ext E16
  have F16_b8_furtherBack := F15_b8_furtherBack.ext E16
  have F16_b8_frontedAt := F15_b8_frontedAt.ext E16
  have ne_b12_b16 : b12 ≠ b16 := Nat.ne_of_lt (Nat.lt_of_lt_of_le E15_b12.lt (Nat.le_of_eq g16.symm))
  have E16_b12 := E15_b12.ext E16
  have F16_b12_nearerFront := F15_b12_nearerFront.ext E16
  have F16_b12_furtherBack := F15_b12_furtherBack.ext E16
  have F16_b12_frontedAt := F15_b12_frontedAt.ext E16
  have O16 : Old Z n0 h16 := O15.ext E16
  have ge_b16 : n0 ≤ b16 := (Nat.le_trans (Nat.le_trans (Nat.le_trans (Nat.le_trans (Nat.le_trans (Nat.le_trans (Nat.le_trans (Nat.le_trans (Nat.le_trans (Nat.le_trans (Nat.le_trans (Nat.le_trans (Nat.le_trans (Nat.le_trans Z0 E3.1) E4.1) E5.1) K6c.1) (Keep.of_wr W7).1) E8.1) E9.1) K10c.1) (Keep.of_wr W11).1) E12.1) E13.1) K14c.1) (Keep.of_wr W15).1) (Nat.le_of_eq g16.symm))
  have F16_b16_activities : Fld Z h16 b16 "com/example/unhurried_reaper/unhurriedreaper/Task" "activities" "Ljava/util/List;" .null := D16 (Or.inr (hw _ (List.mem_of_getElem? (i := 44) rfl))) (ty := (.object "java/util/List")) (by decide)
  have F16_b16_name : Fld Z h16 b16 "com/example/unhurried_reaper/unhurriedreaper/Task" "name" "Ljava/lang/String;" .null := D16 (Or.inr (hw _ (List.mem_of_getElem? (i := 46) rfl))) (ty := (.object "java/lang/String")) (by decide)
  have F16_b16_nearerFront : Fld Z h16 b16 "com/example/unhurried_reaper/unhurriedreaper/Task" "nearerFront" "Lcom/example/unhurried_reaper/unhurriedreaper/Task;" .null := D16 (Or.inl (hw _ (List.mem_of_getElem? (i := 71) rfl))) (ty := (.object "com/example/unhurried_reaper/unhurriedreaper/Task")) (by decide)
  have F16_b16_furtherBack : Fld Z h16 b16 "com/example/unhurried_reaper/unhurriedreaper/Task" "furtherBack" "Lcom/example/unhurried_reaper/unhurriedreaper/Task;" .null := D16 (Or.inl (hw _ (List.mem_of_getElem? (i := 78) rfl))) (ty := (.object "com/example/unhurried_reaper/unhurriedreaper/Task")) (by decide)
  have F16_b16_frontedAt : Fld Z h16 b16 "com/example/unhurried_reaper/unhurriedreaper/Task" "frontedAt" "J" (.long (0 : Int64)) := D16 (Or.inl (hw _ (List.mem_of_getElem? (i := 87) rfl))) (ty := .long) (by decide)
  obtain ⟨b17, T17, h17, ks17, X17, e17, E17, hS17, hk17, hZ17, hown17, st17⟩ := ldcS X16 hx hZ13 hown13 (hw _ (List.mem_of_getElem? (i := 50) rfl)) (fun d hd => hw d (own_strs d hd)) e16 hS13 (Nat.le_trans (Nat.le_trans (Nat.le_trans hk13 K14c.1) (Keep.of_wr W15).1) E16.1) (g := (mkF m 65 #[.val (.int p1), .val (.int p2), .val (.int nn), .val (.int kk), .val (.ref b3), .unset, .unset, .unset, .unset, .unset, .unset, .unset, .unset] [(.ref b16), (.ref b16)])) rfl (hb hby at_65) (n := 4) (by decide) (by decide) (by decide) (by decide)
  have V17_b3 := V16_b3.ext E17
  have E17_b4 := E16_b4.ext E17
  have F17_b4_nearerFront := F16_b4_nearerFront.ext E17
  have F17_b4_furtherBack := F16_b4_furtherBack.ext E17
  have F17_b4_frontedAt := F16_b4_frontedAt.ext E17
  have E17_b8 := E16_b8.ext E17
  have F17_b8_nearerFront := F16_b8_nearerFront.ext E17
  have F17_b8_furtherBack := F16_b8_furtherBack.ext E17
  have F17_b8_frontedAt := F16_b8_frontedAt.ext E17
  have E17_b12 := E16_b12.ext E17
  have F17_b12_nearerFront := F16_b12_nearerFront.ext E17
  have F17_b12_furtherBack := F16_b12_furtherBack.ext E17
  have F17_b12_frontedAt := F16_b12_frontedAt.ext E17
  have E17_b16 := A16.ext E17
  have F17_b16_activities := F16_b16_activities.ext E17
  have F17_b16_name := F16_b16_name.ext E17
  have F17_b16_nearerFront := F16_b16_nearerFront.ext E17
  have F17_b16_furtherBack := F16_b16_furtherBack.ext E17
  have F17_b16_frontedAt := F16_b16_frontedAt.ext E17
  have O17 : Old Z n0 h17 := O16.ext E17
  obtain ⟨_, _, ⟨T18, L18, k18, n18⟩, -, X18, ⟨Lc18, hQ18, l18, y18, z18⟩, st18⟩ := X17.specialBack hx (y := (⟨"com/example/unhurried_reaper/unhurriedreaper/Task", "<init>", "(Ljava/lang/String;)V"⟩ : MethodName)) rfl hown17 (mvT hZ17 (hw _ (List.mem_of_getElem? (i := 13) rfl))) (mvT hZ17 (hw _ (List.mem_of_getElem? (i := 14) rfl))) (mvT hZ17 (hw _ (List.mem_of_getElem? (i := 15) rfl))) (by decide) (backOf (W := 1) (rm1 l Z a0 hw [] b16 b17 sd h17 n0 (Nat.le_trans (Nat.le_trans (Nat.le_trans (Nat.le_trans (Nat.le_trans (Nat.le_trans (Nat.le_trans (Nat.le_trans (Nat.le_trans (Nat.le_trans (Nat.le_trans (Nat.le_trans (Nat.le_trans (Nat.le_trans (Nat.le_trans Z0 E3.1) E4.1) E5.1) K6c.1) (Keep.of_wr W7).1) E8.1) E9.1) K10c.1) (Keep.of_wr W11).1) E12.1) E13.1) K14c.1) (Keep.of_wr W15).1) E16.1) E17.1) ge_b16 E17_b16 F17_b16_activities F17_b16_name F17_b16_nearerFront F17_b16_furtherBack F17_b16_frontedAt O17 SD) hZ17 (hw _ (List.mem_of_getElem? (i := 15) rfl)) (hw _ (List.mem_of_getElem? (i := 4) rfl)) (by decide) (by decide)) (g := (mkF m 67 #[.val (.int p1), .val (.int p2), .val (.int nn), .val (.int kk), .val (.ref b3), .unset, .unset, .unset, .unset, .unset, .unset, .unset, .unset] [(.ref b17), (.ref b16), (.ref b16)])) rfl (by rw [hml]; rfl) (Steps.refl _) (a := b16) (argsL := [(.ref b17)]) (rest := [(.ref b16)]) (lenOf pd_4 rfl) rfl (by show 2 * 0 + _ ≤ _; exact Nat.le_of_eq rfl) (hb hby at_67) (fun _ _ => ⟨rfl, e17, (by decide : 16 + 1 ≤ _), (by decide : 64 + 3 ≤ _)⟩)
  dsimp only [Pt.U, Pt.locs, Pt.cells, Pt.slots] at X18 l18 y18 z18 st18 hQ18
  subst l18 y18 z18
  obtain ⟨rfl, N18q, K18c, F18_b16_nearerFront, F18_b16_furtherBack, F18_b16_frontedAt⟩ := hQ18
  have N18 := Fr.app N15 N18q
  have V18_b3 := V17_b3.keep K18c (ninS ne_b3_b16 nin0)
  have E18_b4 := E17_b4.keep K18c
  have F18_b4_nearerFront := F17_b4_nearerFront.keep K18c (ninS ne_b4_b16 nin0)
  have F18_b4_furtherBack := F17_b4_furtherBack.keep K18c (ninS ne_b4_b16 nin0)
  have F18_b4_frontedAt := F17_b4_frontedAt.keep K18c (ninS ne_b4_b16 nin0)
  have E18_b8 := E17_b8.keep K18c
  have F18_b8_nearerFront := F17_b8_nearerFront.keep K18c (ninS ne_b8_b16 nin0)
  have F18_b8_furtherBack := F17_b8_furtherBack.keep K18c (ninS ne_b8_b16 nin0)
  have F18_b8_frontedAt := F17_b8_frontedAt.keep K18c (ninS ne_b8_b16 nin0)
  have E18_b12 := E17_b12.keep K18c
  have F18_b12_nearerFront := F17_b12_nearerFront.keep K18c (ninS ne_b12_b16 nin0)
  have F18_b12_furtherBack := F17_b12_furtherBack.keep K18c (ninS ne_b12_b16 nin0)
  have F18_b12_frontedAt := F17_b12_frontedAt.keep K18c (ninS ne_b12_b16 nin0)
  have E18_b16 := E17_b16.keep K18c
  have O18 : Old Z n0 T18.heap := O17.keep K18c (allS ge_b16 all0)
  obtain ⟨T19, h19, X19, e19, E19, A19, D19, -, st19⟩ := newO X18 hx hZ17 hown17 (hw _ (List.mem_of_getElem? (i := 51) rfl)) (hw _ (List.mem_of_getElem? (i := 52) rfl)) (hw _ (List.mem_of_getElem? (i := 53) rfl)) rfl (g := (mkF m 72 #[.val (.int p1), .val (.int p2), .val (.int nn), .val (.int kk), .val (.ref b3), .val (.ref b16), .unset, .unset, .unset, .unset, .unset, .unset, .unset] [])) rfl (hb hby at_72) (by decide) (by decide)
  obtain ⟨b19, g19⟩ : ∃ z, z = T18.heap.size := ⟨_, rfl⟩
  rw [← g19] at A19 D19 st19
  have ne_b3_b19 : b3 ≠ b19 := Nat.ne_of_lt (Nat.lt_of_lt_of_le V18_b3.lt (Nat.le_of_eq g19.symm))
  have V19_b3 := V18_b3.ext E19
  have ne_b4_b19 : b4 ≠ b19 := Nat.ne_of_lt (Nat.lt_of_lt_of_le E18_b4.lt (Nat.le_of_eq g19.symm))
  have E19_b4 := E18_b4.ext E19
  have F19_b4_nearerFront := F18_b4_nearerFront.ext E19
  have F19_b4_furtherBack := F18_b4_furtherBack.ext E19
  have F19_b4_frontedAt := F18_b4_frontedAt.ext E19
  have ne_b8_b19 : b8 ≠ b19 := Nat.ne_of_lt (Nat.lt_of_lt_of_le E18_b8.lt (Nat.le_of_eq g19.symm))
  have E19_b8 := E18_b8.ext E19
  have F19_b8_nearerFront := F18_b8_nearerFront.ext E19
  have F19_b8_furtherBack := F18_b8_furtherBack.ext E19
  have F19_b8_frontedAt := F18_b8_frontedAt.ext E19
  have ne_b12_b19 : b12 ≠ b19 := Nat.ne_of_lt (Nat.lt_of_lt_of_le E18_b12.lt (Nat.le_of_eq g19.symm))
  have E19_b12 := E18_b12.ext E19
  have F19_b12_nearerFront := F18_b12_nearerFront.ext E19
  have F19_b12_furtherBack := F18_b12_furtherBack.ext E19
  have F19_b12_frontedAt := F18_b12_frontedAt.ext E19
  have ne_b16_b19 : b16 ≠ b19 := Nat.ne_of_lt (Nat.lt_of_lt_of_le E18_b16.lt (Nat.le_of_eq g19.symm))
  have E19_b16 := E18_b16.ext E19
  have F19_b16_nearerFront := F18_b16_nearerFront.ext E19
  have F19_b16_furtherBack := F18_b16_furtherBack.ext E19
  have F19_b16_frontedAt := F18_b16_frontedAt.ext E19
  have O19 : Old Z n0 h19 := O18.ext E19
  have ge_b19 : n0 ≤ b19 := (Nat.le_trans (Nat.le_trans (Nat.le_trans (Nat.le_trans (Nat.le_trans (Nat.le_trans (Nat.le_trans (Nat.le_trans (Nat.le_trans (Nat.le_trans (Nat.le_trans (Nat.le_trans (Nat.le_trans (Nat.le_trans (Nat.le_trans (Nat.le_trans (Nat.le_trans Z0 E3.1) E4.1) E5.1) K6c.1) (Keep.of_wr W7).1) E8.1) E9.1) K10c.1) (Keep.of_wr W11).1) E12.1) E13.1) K14c.1) (Keep.of_wr W15).1) E16.1) E17.1) K18c.1) (Nat.le_of_eq g19.symm))
  have F19_b19_front : Fld Z h19 b19 "com/example/unhurried_reaper/unhurriedreaper/TaskHistory" "front" "Lcom/example/unhurried_reaper/unhurriedreaper/Task;" .null := D19 (Or.inl (hw _ (List.mem_of_getElem? (i := 64) rfl))) (ty := (.object "com/example/unhurried_reaper/unhurriedreaper/Task")) (by decide)
  have F19_b19_bringings : Fld Z h19 b19 "com/example/unhurried_reaper/unhurriedreaper/TaskHistory" "bringings" "J" (.long (0 : Int64)) := D19 (Or.inl (hw _ (List.mem_of_getElem? (i := 80) rfl))) (ty := .long) (by decide)
  obtain ⟨_, _, ⟨T20, L20, k20, n20⟩, -, X20, ⟨Lc20, hQ20, l20, y20, z20⟩, st20⟩ := X19.specialBack hx (y := (⟨"com/example/unhurried_reaper/unhurriedreaper/TaskHistory", "<init>", "()V"⟩ : MethodName)) rfl hown17 (mvT hZ17 (hw _ (List.mem_of_getElem? (i := 54) rfl))) (mvT hZ17 (hw _ (List.mem_of_getElem? (i := 55) rfl))) (mvT hZ17 (hw _ (List.mem_of_getElem? (i := 56) rfl))) (by decide) (backOf (W := 1) (rm6 l Z a0 hw [] b19 h19 n0 (Nat.le_trans (Nat.le_trans (Nat.le_trans (Nat.le_trans (Nat.le_trans (Nat.le_trans (Nat.le_trans (Nat.le_trans (Nat.le_trans (Nat.le_trans (Nat.le_trans (Nat.le_trans (Nat.le_trans (Nat.le_trans (Nat.le_trans (Nat.le_trans (Nat.le_trans Z0 E3.1) E4.1) E5.1) K6c.1) (Keep.of_wr W7).1) E8.1) E9.1) K10c.1) (Keep.of_wr W11).1) E12.1) E13.1) K14c.1) (Keep.of_wr W15).1) E16.1) E17.1) K18c.1) E19.1)) hZ17 (hw _ (List.mem_of_getElem? (i := 56) rfl)) (hw _ (List.mem_of_getElem? (i := 53) rfl)) (by decide) (by decide)) (g := (mkF m 76 #[.val (.int p1), .val (.int p2), .val (.int nn), .val (.int kk), .val (.ref b3), .val (.ref b16), .unset, .unset, .unset, .unset, .unset, .unset, .unset] [(.ref b19), (.ref b19)])) rfl (by rw [hml]; rfl) (Steps.refl _) (a := b19) (argsL := []) (rest := [(.ref b19)]) (lenOf pd_0 rfl) rfl (by show 2 * 0 + _ ≤ _; exact Nat.le_of_eq rfl) (hb hby at_76) (fun _ _ => ⟨rfl, e19, (by decide : 18 + 0 ≤ _), (by decide : 69 + 0 ≤ _)⟩)
  dsimp only [Pt.U, Pt.locs, Pt.cells, Pt.slots] at X20 l20 y20 z20 st20 hQ20
  subst l20 y20 z20
  obtain ⟨rfl, N20q, eh20⟩ := hQ20
  have N20 := Fr.app N18 N20q
  obtain ⟨cl21, Ar21, q21, S21, M21, Hh21, G21⟩ := id V19_b3
  have hin21 : ¬ ((0 : Int32) < 0 ∨ cl21.slots.size ≤ ((0 : Int32)).toNatClampNeg) := inb_of S21 ⟨by decide, by decide⟩
  have hat21 : cl21.slots[((0 : Int32)).toNatClampNeg]? = some (.ref b4) := Has.at Hh21 hin21 rfl
  obtain ⟨cq22, kq22, q22a, q22b, q22c⟩ := isOf hZ17 eh20 A19
  obtain ⟨_, _, ⟨T22, L22, k22, n22⟩, -, X22, ⟨Lc22, hQ22, l22, y22, z22⟩, st22⟩ := X20.virtualBack hx (y := (⟨"com/example/unhurried_reaper/unhurriedreaper/TaskHistory", "toFront", "(Lcom/example/unhurried_reaper/unhurriedreaper/Task;)V"⟩ : MethodName)) (z := (⟨"com/example/unhurried_reaper/unhurriedreaper/TaskHistory", "toFront", "(Lcom/example/unhurried_reaper/unhurriedreaper/Task;)V"⟩ : MethodName)) hown17 (mvT hZ17 (hw _ (List.mem_of_getElem? (i := 58) rfl))) (mvT hZ17 (hw _ (List.mem_of_getElem? (i := 59) rfl))) (notFace_of_selects (args := #[]) (mvT hZ17 (hw _ (List.mem_of_getElem? (i := 61) rfl)))) (mvT hZ17 (hw _ (List.mem_of_getElem? (i := 61) rfl))) (mvT hZ17 (hw _ (List.mem_of_getElem? (i := 60) rfl))) (by decide) (backOf (W := 0) (rm7a l Z a0 hw [] b19 b4 (0 : Int64) (0 : Int64) h19 n0 (Nat.le_trans (Nat.le_trans (Nat.le_trans (Nat.le_trans (Nat.le_trans (Nat.le_trans (Nat.le_trans (Nat.le_trans (Nat.le_trans (Nat.le_trans (Nat.le_trans (Nat.le_trans (Nat.le_trans (Nat.le_trans (Nat.le_trans (Nat.le_trans (Nat.le_trans Z0 E3.1) E4.1) E5.1) K6c.1) (Keep.of_wr W7).1) E8.1) E9.1) K10c.1) (Keep.of_wr W11).1) E12.1) E13.1) K14c.1) (Keep.of_wr W15).1) E16.1) E17.1) K18c.1) E19.1) ge_b19 A19 F19_b19_front F19_b19_bringings ge_b4 E19_b4 F19_b4_nearerFront F19_b4_furtherBack F19_b4_frontedAt (Ne.symm ne_b4_b19)) hZ17 (hw _ (List.mem_of_getElem? (i := 62) rfl)) (hw _ (List.mem_of_getElem? (i := 53) rfl)) (by decide) (by decide)) q22a q22c (g := (mkF m 87 #[.val (.int p1), .val (.int p2), .val (.int nn), .val (.int kk), .val (.ref b3), .val (.ref b16), .val (.ref b19), .unset, .unset, .unset, .unset, .unset, .unset] [(.ref b4), (.ref b19)])) rfl (by rw [hml]; rfl) (Steps.refl _) (argsL := [(.ref b4)]) (rest := []) (lenOf pd_2 rfl) rfl (by show 2 * 0 + _ ≤ _; exact Nat.le_of_eq rfl) (hb hby at_87) (fun _ _ => ⟨rfl, eh20, (by decide : 18 + 0 ≤ _), (by decide : 69 + 0 ≤ _)⟩)
  dsimp only [Pt.U, Pt.locs, Pt.cells, Pt.slots] at X22 l22 y22 z22 st22 hQ22
  subst l22 y22 z22
  obtain ⟨rfl, N22q, K22c, F22_b19_front, F22_b19_bringings, F22_b4_nearerFront, F22_b4_furtherBack, F22_b4_frontedAt⟩ := hQ22
  have N22 := Fr.app N20 N22q
  have V22_b3 := V19_b3.keep K22c (ninS ne_b3_b19 (ninS ne_b3_b4 nin0))
  have E22_b4 := E19_b4.keep K22c
  have E22_b8 := E19_b8.keep K22c
  have F22_b8_nearerFront := F19_b8_nearerFront.keep K22c (ninS ne_b8_b19 (ninS (Ne.symm ne_b4_b8) nin0))
  have F22_b8_furtherBack := F19_b8_furtherBack.keep K22c (ninS ne_b8_b19 (ninS (Ne.symm ne_b4_b8) nin0))
  have F22_b8_frontedAt := F19_b8_frontedAt.keep K22c (ninS ne_b8_b19 (ninS (Ne.symm ne_b4_b8) nin0))
  have E22_b12 := E19_b12.keep K22c
  have F22_b12_nearerFront := F19_b12_nearerFront.keep K22c (ninS ne_b12_b19 (ninS (Ne.symm ne_b4_b12) nin0))
  have F22_b12_furtherBack := F19_b12_furtherBack.keep K22c (ninS ne_b12_b19 (ninS (Ne.symm ne_b4_b12) nin0))
  have F22_b12_frontedAt := F19_b12_frontedAt.keep K22c (ninS ne_b12_b19 (ninS (Ne.symm ne_b4_b12) nin0))
  have E22_b16 := E19_b16.keep K22c
  have F22_b16_nearerFront := F19_b16_nearerFront.keep K22c (ninS ne_b16_b19 (ninS (Ne.symm ne_b4_b16) nin0))
  have F22_b16_furtherBack := F19_b16_furtherBack.keep K22c (ninS ne_b16_b19 (ninS (Ne.symm ne_b4_b16) nin0))
  have F22_b16_frontedAt := F19_b16_frontedAt.keep K22c (ninS ne_b16_b19 (ninS (Ne.symm ne_b4_b16) nin0))
  have E22_b19 := A19.keep K22c
  have O22 : Old Z n0 T22.heap := O19.keep K22c (allS ge_b19 (allS ge_b4 all0))
  have go23 : ∀ t, Steps p.tables e below (T22.setTop (mkF m 90 #[.val (.int p1), .val (.int p2), .val (.int nn), .val (.int kk), .val (.ref b3), .val (.ref b16), .val (.ref b19), .unset, .unset, .unset, .unset, .unset, .unset] [])) t → Steps p.tables e below (s₁.setTop (entryFrame m #[(.int p1), (.int p2)] maxLocals)) t := by
    intro t kt
    refine go2 t ?_
    show Steps p.tables e below (s₁.setTop (mkF m 16 #[.val (.int p1), .val (.int p2), .val (.int nn), .val (.int kk), .unset, .unset, .unset, .unset, .unset, .unset, .unset, .unset, .unset] [])) _
    refine XS.iconst X0.here hx rfl (hb hby at_16) ?_
    show Steps p.tables e below (s₁.setTop (mkF m 17 #[.val (.int p1), .val (.int p2), .val (.int nn), .val (.int kk), .unset, .unset, .unset, .unset, .unset, .unset, .unset, .unset, .unset] [(.int (3 : Int32))])) _
    refine st3 _ ?_
    show Steps p.tables e below (T3.setTop (mkF m 20 #[.val (.int p1), .val (.int p2), .val (.int nn), .val (.int kk), .unset, .unset, .unset, .unset, .unset, .unset, .unset, .unset, .unset] [(.ref b3)])) _
    refine XS.astore X3.here hx rfl (hb hby at_20) rfl rfl (l' := #[.val (.int p1), .val (.int p2), .val (.int nn), .val (.int kk), .val (.ref b3), .unset, .unset, .unset, .unset, .unset, .unset, .unset, .unset]) rfl ?_
    show Steps p.tables e below (T3.setTop (mkF m 22 #[.val (.int p1), .val (.int p2), .val (.int nn), .val (.int kk), .val (.ref b3), .unset, .unset, .unset, .unset, .unset, .unset, .unset, .unset] [])) _
    refine XS.aload X3.here hx rfl (hb hby at_22) rfl rfl ?_
    show Steps p.tables e below (T3.setTop (mkF m 24 #[.val (.int p1), .val (.int p2), .val (.int nn), .val (.int kk), .val (.ref b3), .unset, .unset, .unset, .unset, .unset, .unset, .unset, .unset] [(.ref b3)])) _
    refine XS.iconst X3.here hx rfl (hb hby at_24) ?_
    show Steps p.tables e below (T3.setTop (mkF m 25 #[.val (.int p1), .val (.int p2), .val (.int nn), .val (.int kk), .val (.ref b3), .unset, .unset, .unset, .unset, .unset, .unset, .unset, .unset] [(.int (0 : Int32)), (.ref b3)])) _
    refine st4 _ ?_
    show Steps p.tables e below (T4.setTop (mkF m 28 #[.val (.int p1), .val (.int p2), .val (.int nn), .val (.int kk), .val (.ref b3), .unset, .unset, .unset, .unset, .unset, .unset, .unset, .unset] [(.ref b4), (.int (0 : Int32)), (.ref b3)])) _
    refine XS.dup X4.here hx rfl (hb hby at_28) rfl rfl ?_
    show Steps p.tables e below (T4.setTop (mkF m 29 #[.val (.int p1), .val (.int p2), .val (.int nn), .val (.int kk), .val (.ref b3), .unset, .unset, .unset, .unset, .unset, .unset, .unset, .unset] [(.ref b4), (.ref b4), (.int (0 : Int32)), (.ref b3)])) _
    refine st5 _ ?_
    show Steps p.tables e below (T5.setTop (mkF m 31 #[.val (.int p1), .val (.int p2), .val (.int nn), .val (.int kk), .val (.ref b3), .unset, .unset, .unset, .unset, .unset, .unset, .unset, .unset] [(.ref b5), (.ref b4), (.ref b4), (.int (0 : Int32)), (.ref b3)])) _
    refine st6.trans ?_
    show Steps p.tables e below (T6.setTop (mkF m 34 #[.val (.int p1), .val (.int p2), .val (.int nn), .val (.int kk), .val (.ref b3), .unset, .unset, .unset, .unset, .unset, .unset, .unset, .unset] [(.ref b4), (.int (0 : Int32)), (.ref b3)])) _
    refine st7 _ ?_
    show Steps p.tables e below (T7.setTop (mkF m 35 #[.val (.int p1), .val (.int p2), .val (.int nn), .val (.int kk), .val (.ref b3), .unset, .unset, .unset, .unset, .unset, .unset, .unset, .unset] [])) _
    refine XS.aload X7.here hx rfl (hb hby at_35) rfl rfl ?_
    show Steps p.tables e below (T7.setTop (mkF m 37 #[.val (.int p1), .val (.int p2), .val (.int nn), .val (.int kk), .val (.ref b3), .unset, .unset, .unset, .unset, .unset, .unset, .unset, .unset] [(.ref b3)])) _
    refine XS.iconst X7.here hx rfl (hb hby at_37) ?_
    show Steps p.tables e below (T7.setTop (mkF m 38 #[.val (.int p1), .val (.int p2), .val (.int nn), .val (.int kk), .val (.ref b3), .unset, .unset, .unset, .unset, .unset, .unset, .unset, .unset] [(.int (1 : Int32)), (.ref b3)])) _
    refine st8 _ ?_
    show Steps p.tables e below (T8.setTop (mkF m 41 #[.val (.int p1), .val (.int p2), .val (.int nn), .val (.int kk), .val (.ref b3), .unset, .unset, .unset, .unset, .unset, .unset, .unset, .unset] [(.ref b8), (.int (1 : Int32)), (.ref b3)])) _
    refine XS.dup X8.here hx rfl (hb hby at_41) rfl rfl ?_
    show Steps p.tables e below (T8.setTop (mkF m 42 #[.val (.int p1), .val (.int p2), .val (.int nn), .val (.int kk), .val (.ref b3), .unset, .unset, .unset, .unset, .unset, .unset, .unset, .unset] [(.ref b8), (.ref b8), (.int (1 : Int32)), (.ref b3)])) _
    refine st9 _ ?_
    show Steps p.tables e below (T9.setTop (mkF m 44 #[.val (.int p1), .val (.int p2), .val (.int nn), .val (.int kk), .val (.ref b3), .unset, .unset, .unset, .unset, .unset, .unset, .unset, .unset] [(.ref b9), (.ref b8), (.ref b8), (.int (1 : Int32)), (.ref b3)])) _
    refine st10.trans ?_
    show Steps p.tables e below (T10.setTop (mkF m 47 #[.val (.int p1), .val (.int p2), .val (.int nn), .val (.int kk), .val (.ref b3), .unset, .unset, .unset, .unset, .unset, .unset, .unset, .unset] [(.ref b8), (.int (1 : Int32)), (.ref b3)])) _
    refine st11 _ ?_
    show Steps p.tables e below (T11.setTop (mkF m 48 #[.val (.int p1), .val (.int p2), .val (.int nn), .val (.int kk), .val (.ref b3), .unset, .unset, .unset, .unset, .unset, .unset, .unset, .unset] [])) _
    refine XS.aload X11.here hx rfl (hb hby at_48) rfl rfl ?_
    show Steps p.tables e below (T11.setTop (mkF m 50 #[.val (.int p1), .val (.int p2), .val (.int nn), .val (.int kk), .val (.ref b3), .unset, .unset, .unset, .unset, .unset, .unset, .unset, .unset] [(.ref b3)])) _
    refine XS.iconst X11.here hx rfl (hb hby at_50) ?_
    show Steps p.tables e below (T11.setTop (mkF m 51 #[.val (.int p1), .val (.int p2), .val (.int nn), .val (.int kk), .val (.ref b3), .unset, .unset, .unset, .unset, .unset, .unset, .unset, .unset] [(.int (2 : Int32)), (.ref b3)])) _
    refine st12 _ ?_
    show Steps p.tables e below (T12.setTop (mkF m 54 #[.val (.int p1), .val (.int p2), .val (.int nn), .val (.int kk), .val (.ref b3), .unset, .unset, .unset, .unset, .unset, .unset, .unset, .unset] [(.ref b12), (.int (2 : Int32)), (.ref b3)])) _
    refine XS.dup X12.here hx rfl (hb hby at_54) rfl rfl ?_
    show Steps p.tables e below (T12.setTop (mkF m 55 #[.val (.int p1), .val (.int p2), .val (.int nn), .val (.int kk), .val (.ref b3), .unset, .unset, .unset, .unset, .unset, .unset, .unset, .unset] [(.ref b12), (.ref b12), (.int (2 : Int32)), (.ref b3)])) _
    refine st13 _ ?_
    show Steps p.tables e below (T13.setTop (mkF m 57 #[.val (.int p1), .val (.int p2), .val (.int nn), .val (.int kk), .val (.ref b3), .unset, .unset, .unset, .unset, .unset, .unset, .unset, .unset] [(.ref b13), (.ref b12), (.ref b12), (.int (2 : Int32)), (.ref b3)])) _
    refine st14.trans ?_
    show Steps p.tables e below (T14.setTop (mkF m 60 #[.val (.int p1), .val (.int p2), .val (.int nn), .val (.int kk), .val (.ref b3), .unset, .unset, .unset, .unset, .unset, .unset, .unset, .unset] [(.ref b12), (.int (2 : Int32)), (.ref b3)])) _
    refine st15 _ ?_
    show Steps p.tables e below (T15.setTop (mkF m 61 #[.val (.int p1), .val (.int p2), .val (.int nn), .val (.int kk), .val (.ref b3), .unset, .unset, .unset, .unset, .unset, .unset, .unset, .unset] [])) _
    refine st16 _ ?_
    show Steps p.tables e below (T16.setTop (mkF m 64 #[.val (.int p1), .val (.int p2), .val (.int nn), .val (.int kk), .val (.ref b3), .unset, .unset, .unset, .unset, .unset, .unset, .unset, .unset] [(.ref b16)])) _
    refine XS.dup X16.here hx rfl (hb hby at_64) rfl rfl ?_
    show Steps p.tables e below (T16.setTop (mkF m 65 #[.val (.int p1), .val (.int p2), .val (.int nn), .val (.int kk), .val (.ref b3), .unset, .unset, .unset, .unset, .unset, .unset, .unset, .unset] [(.ref b16), (.ref b16)])) _
    refine st17 _ ?_
    show Steps p.tables e below (T17.setTop (mkF m 67 #[.val (.int p1), .val (.int p2), .val (.int nn), .val (.int kk), .val (.ref b3), .unset, .unset, .unset, .unset, .unset, .unset, .unset, .unset] [(.ref b17), (.ref b16), (.ref b16)])) _
    refine st18.trans ?_
    show Steps p.tables e below (T18.setTop (mkF m 70 #[.val (.int p1), .val (.int p2), .val (.int nn), .val (.int kk), .val (.ref b3), .unset, .unset, .unset, .unset, .unset, .unset, .unset, .unset] [(.ref b16)])) _
    refine XS.astore X18.here hx rfl (hb hby at_70) rfl rfl (l' := #[.val (.int p1), .val (.int p2), .val (.int nn), .val (.int kk), .val (.ref b3), .val (.ref b16), .unset, .unset, .unset, .unset, .unset, .unset, .unset]) rfl ?_
    show Steps p.tables e below (T18.setTop (mkF m 72 #[.val (.int p1), .val (.int p2), .val (.int nn), .val (.int kk), .val (.ref b3), .val (.ref b16), .unset, .unset, .unset, .unset, .unset, .unset, .unset] [])) _
    refine st19 _ ?_
    show Steps p.tables e below (T19.setTop (mkF m 75 #[.val (.int p1), .val (.int p2), .val (.int nn), .val (.int kk), .val (.ref b3), .val (.ref b16), .unset, .unset, .unset, .unset, .unset, .unset, .unset] [(.ref b19)])) _
    refine XS.dup X19.here hx rfl (hb hby at_75) rfl rfl ?_
    show Steps p.tables e below (T19.setTop (mkF m 76 #[.val (.int p1), .val (.int p2), .val (.int nn), .val (.int kk), .val (.ref b3), .val (.ref b16), .unset, .unset, .unset, .unset, .unset, .unset, .unset] [(.ref b19), (.ref b19)])) _
    refine st20.trans ?_
    show Steps p.tables e below (T20.setTop (mkF m 79 #[.val (.int p1), .val (.int p2), .val (.int nn), .val (.int kk), .val (.ref b3), .val (.ref b16), .unset, .unset, .unset, .unset, .unset, .unset, .unset] [(.ref b19)])) _
    refine XS.astore X20.here hx rfl (hb hby at_79) rfl rfl (l' := #[.val (.int p1), .val (.int p2), .val (.int nn), .val (.int kk), .val (.ref b3), .val (.ref b16), .val (.ref b19), .unset, .unset, .unset, .unset, .unset, .unset]) rfl ?_
    show Steps p.tables e below (T20.setTop (mkF m 81 #[.val (.int p1), .val (.int p2), .val (.int nn), .val (.int kk), .val (.ref b3), .val (.ref b16), .val (.ref b19), .unset, .unset, .unset, .unset, .unset, .unset] [])) _
    refine XS.aload X20.here hx rfl (hb hby at_81) rfl rfl ?_
    show Steps p.tables e below (T20.setTop (mkF m 83 #[.val (.int p1), .val (.int p2), .val (.int nn), .val (.int kk), .val (.ref b3), .val (.ref b16), .val (.ref b19), .unset, .unset, .unset, .unset, .unset, .unset] [(.ref b19)])) _
    refine XS.aload X20.here hx rfl (hb hby at_83) rfl rfl ?_
    show Steps p.tables e below (T20.setTop (mkF m 85 #[.val (.int p1), .val (.int p2), .val (.int nn), .val (.int kk), .val (.ref b3), .val (.ref b16), .val (.ref b19), .unset, .unset, .unset, .unset, .unset, .unset] [(.ref b3), (.ref b19)])) _
    refine XS.iconst X20.here hx rfl (hb hby at_85) ?_
    show Steps p.tables e below (T20.setTop (mkF m 86 #[.val (.int p1), .val (.int p2), .val (.int nn), .val (.int kk), .val (.ref b3), .val (.ref b16), .val (.ref b19), .unset, .unset, .unset, .unset, .unset, .unset] [(.int (0 : Int32)), (.ref b3), (.ref b19)])) _
    refine X20.aaload hx (j := (0 : Int32)) (v := (.ref b4)) (by rw [eh20]; exact Ar21.1) (State.isArrayOf_alike hZ17.alike Ar21.2.1) rfl Ar21.2.2 hin21 hat21 (g := (mkF m 86 #[.val (.int p1), .val (.int p2), .val (.int nn), .val (.int kk), .val (.ref b3), .val (.ref b16), .val (.ref b19), .unset, .unset, .unset, .unset, .unset, .unset] [(.int (0 : Int32)), (.ref b3), (.ref b19)])) rfl rfl (hb hby at_86) _ ?_
    show Steps p.tables e below (T20.setTop (mkF m 87 #[.val (.int p1), .val (.int p2), .val (.int nn), .val (.int kk), .val (.ref b3), .val (.ref b16), .val (.ref b19), .unset, .unset, .unset, .unset, .unset, .unset] [(.ref b4), (.ref b19)])) _
    refine st22.trans ?_
    exact kt
  rcases own_cases hn3 hkk with ⟨e1, e2⟩ | ⟨e1, e2⟩ | ⟨e1, e2⟩ | ⟨e1, e2⟩ | ⟨e1, e2⟩ | ⟨e1, e2⟩
  · rw [e1, e2] at go23
    obtain ⟨cl24, Ar24, q24, S24, M24, Hh24, G24⟩ := id V22_b3
    have hin24 : ¬ ((((1 : Int32) - (1 : Int32)) - (0 : Int32)) < 0 ∨ cl24.slots.size ≤ ((((1 : Int32) - (1 : Int32)) - (0 : Int32))).toNatClampNeg) := inb_of S24 ⟨by decide, by decide⟩
    have hat24 : cl24.slots[((((1 : Int32) - (1 : Int32)) - (0 : Int32))).toNatClampNeg]? = some (.ref b4) := Has.at Hh24 hin24 rfl
    obtain ⟨cq25, kq25, q25a, q25b, q25c⟩ := isOf hZ17 rfl E22_b19
    obtain ⟨_, _, ⟨T25, L25, k25, n25⟩, -, X25, ⟨Lc25, hQ25, l25, y25, z25⟩, st25⟩ := X22.virtualBack hx (y := (⟨"com/example/unhurried_reaper/unhurriedreaper/TaskHistory", "remove", "(Lcom/example/unhurried_reaper/unhurriedreaper/Task;)V"⟩ : MethodName)) (z := (⟨"com/example/unhurried_reaper/unhurriedreaper/TaskHistory", "remove", "(Lcom/example/unhurried_reaper/unhurriedreaper/Task;)V"⟩ : MethodName)) hown17 (mvT hZ17 (hw _ (List.mem_of_getElem? (i := 88) rfl))) (mvT hZ17 (hw _ (List.mem_of_getElem? (i := 89) rfl))) (notFace_of_selects (args := #[]) (mvT hZ17 (hw _ (List.mem_of_getElem? (i := 91) rfl)))) (mvT hZ17 (hw _ (List.mem_of_getElem? (i := 91) rfl))) (mvT hZ17 (hw _ (List.mem_of_getElem? (i := 90) rfl))) (by decide) (backOf (W := 0) (rm11nn l Z a0 hw [] b19 b4 ((0 : Int64) + (1 : Int64)) (0 : Int64) T22.heap n0 (Nat.le_trans (Nat.le_trans (Nat.le_trans (Nat.le_trans (Nat.le_trans (Nat.le_trans (Nat.le_trans (Nat.le_trans (Nat.le_trans (Nat.le_trans (Nat.le_trans (Nat.le_trans (Nat.le_trans (Nat.le_trans (Nat.le_trans (Nat.le_trans (Nat.le_trans (Nat.le_trans Z0 E3.1) E4.1) E5.1) K6c.1) (Keep.of_wr W7).1) E8.1) E9.1) K10c.1) (Keep.of_wr W11).1) E12.1) E13.1) K14c.1) (Keep.of_wr W15).1) E16.1) E17.1) K18c.1) E19.1) K22c.1) ge_b19 E22_b19 F22_b19_front F22_b19_bringings ge_b4 E22_b4 F22_b4_nearerFront F22_b4_furtherBack F22_b4_frontedAt (Ne.symm ne_b4_b19)) hZ17 (hw _ (List.mem_of_getElem? (i := 92) rfl)) (hw _ (List.mem_of_getElem? (i := 53) rfl)) (by decide) (by decide)) q25a q25c (g := (mkF m 197 #[.val (.int p1), .val (.int p2), .val (.int (1 : Int32)), .val (.int (0 : Int32)), .val (.ref b3), .val (.ref b16), .val (.ref b19), .val (.ref b4), .val (.int (1 : Int32)), .val (.int (2 : Int32)), .val .null, .val .null, .unset] [(.ref b4), (.ref b19)])) rfl (by rw [hml]; rfl) (Steps.refl _) (argsL := [(.ref b4)]) (rest := []) (lenOf pd_2 rfl) rfl (by show 2 * 0 + _ ≤ _; exact Nat.le_of_eq rfl) (hb hby at_197) (fun _ _ => ⟨rfl, rfl, (by decide : 18 + 0 ≤ _), (by decide : 69 + 0 ≤ _)⟩)
    dsimp only [Pt.U, Pt.locs, Pt.cells, Pt.slots] at X25 l25 y25 z25 st25 hQ25
    subst l25 y25 z25
    obtain ⟨rfl, N25q, K25c, F25_b19_front, F25_b19_bringings, F25_b4_nearerFront, F25_b4_furtherBack, F25_b4_frontedAt⟩ := hQ25
    have N25 := Fr.app N22 N25q
    have V25_b3 := V22_b3.keep K25c (ninS ne_b3_b19 (ninS ne_b3_b4 nin0))
    have E25_b4 := E22_b4.keep K25c
    have E25_b8 := E22_b8.keep K25c
    have F25_b8_nearerFront := F22_b8_nearerFront.keep K25c (ninS ne_b8_b19 (ninS (Ne.symm ne_b4_b8) nin0))
    have F25_b8_furtherBack := F22_b8_furtherBack.keep K25c (ninS ne_b8_b19 (ninS (Ne.symm ne_b4_b8) nin0))
    have F25_b8_frontedAt := F22_b8_frontedAt.keep K25c (ninS ne_b8_b19 (ninS (Ne.symm ne_b4_b8) nin0))
    have E25_b12 := E22_b12.keep K25c
    have F25_b12_nearerFront := F22_b12_nearerFront.keep K25c (ninS ne_b12_b19 (ninS (Ne.symm ne_b4_b12) nin0))
    have F25_b12_furtherBack := F22_b12_furtherBack.keep K25c (ninS ne_b12_b19 (ninS (Ne.symm ne_b4_b12) nin0))
    have F25_b12_frontedAt := F22_b12_frontedAt.keep K25c (ninS ne_b12_b19 (ninS (Ne.symm ne_b4_b12) nin0))
    have E25_b16 := E22_b16.keep K25c
    have F25_b16_nearerFront := F22_b16_nearerFront.keep K25c (ninS ne_b16_b19 (ninS (Ne.symm ne_b4_b16) nin0))
    have F25_b16_furtherBack := F22_b16_furtherBack.keep K25c (ninS ne_b16_b19 (ninS (Ne.symm ne_b4_b16) nin0))
    have F25_b16_frontedAt := F22_b16_frontedAt.keep K25c (ninS ne_b16_b19 (ninS (Ne.symm ne_b4_b16) nin0))
    have E25_b19 := E22_b19.keep K25c
    obtain ⟨cq26, kq26, q26a, q26b, q26c⟩ := isOf hZ17 rfl E25_b4
    obtain ⟨_, _, ⟨T26, L26, k26, n26⟩, -, X26, ⟨Lc26, hQ26, l26, y26, z26⟩, st26⟩ := X25.virtualBack hx (y := (⟨"com/example/unhurried_reaper/unhurriedreaper/Task", "nearerFront", "()Lcom/example/unhurried_reaper/unhurriedreaper/Task;"⟩ : MethodName)) (z := (⟨"com/example/unhurried_reaper/unhurriedreaper/Task", "nearerFront", "()Lcom/example/unhurried_reaper/unhurriedreaper/Task;"⟩ : MethodName)) hown17 (mvT hZ17 (hw _ (List.mem_of_getElem? (i := 103) rfl))) (mvT hZ17 (hw _ (List.mem_of_getElem? (i := 66) rfl))) (notFace_of_selects (args := #[]) (mvT hZ17 (hw _ (List.mem_of_getElem? (i := 68) rfl)))) (mvT hZ17 (hw _ (List.mem_of_getElem? (i := 68) rfl))) (mvT hZ17 (hw _ (List.mem_of_getElem? (i := 67) rfl))) (by decide) (backOf (W := 0) (rm8N l Z a0 hw [] b4 T25.heap n0 (Nat.le_trans (Nat.le_trans (Nat.le_trans (Nat.le_trans (Nat.le_trans (Nat.le_trans (Nat.le_trans (Nat.le_trans (Nat.le_trans (Nat.le_trans (Nat.le_trans (Nat.le_trans (Nat.le_trans (Nat.le_trans (Nat.le_trans (Nat.le_trans (Nat.le_trans (Nat.le_trans (Nat.le_trans Z0 E3.1) E4.1) E5.1) K6c.1) (Keep.of_wr W7).1) E8.1) E9.1) K10c.1) (Keep.of_wr W11).1) E12.1) E13.1) K14c.1) (Keep.of_wr W15).1) E16.1) E17.1) K18c.1) E19.1) K22c.1) K25c.1) F25_b4_nearerFront) hZ17 (hw _ (List.mem_of_getElem? (i := 69) rfl)) (hw _ (List.mem_of_getElem? (i := 4) rfl)) (by decide) (by decide)) q26a q26c (g := (mkF m 202 #[.val (.int p1), .val (.int p2), .val (.int (1 : Int32)), .val (.int (0 : Int32)), .val (.ref b3), .val (.ref b16), .val (.ref b19), .val (.ref b4), .val (.int (1 : Int32)), .val (.int (2 : Int32)), .val .null, .val .null, .unset] [(.ref b4)])) rfl (by rw [hml]; rfl) (Steps.refl _) (argsL := []) (rest := []) (lenOf pd_1 rfl) rfl (by show 2 * 0 + _ ≤ _; exact Nat.le_of_eq rfl) (hb hby at_202) (fun _ _ => ⟨rfl, rfl, (by decide : 18 + 0 ≤ _), (by decide : 69 + 0 ≤ _)⟩)
    dsimp only [Pt.U, Pt.locs, Pt.cells, Pt.slots] at X26 l26 y26 z26 st26 hQ26
    subst l26 y26 z26
    obtain ⟨rfl, N26q, eh26⟩ := hQ26
    have N26 := Fr.app N25 N26q
    obtain ⟨cq27, kq27, q27a, q27b, q27c⟩ := isOf hZ17 eh26 E25_b4
    obtain ⟨_, _, ⟨T27, L27, k27, n27⟩, -, X27, ⟨Lc27, hQ27, l27, y27, z27⟩, st27⟩ := X26.virtualBack hx (y := (⟨"com/example/unhurried_reaper/unhurriedreaper/Task", "furtherBack", "()Lcom/example/unhurried_reaper/unhurriedreaper/Task;"⟩ : MethodName)) (z := (⟨"com/example/unhurried_reaper/unhurriedreaper/Task", "furtherBack", "()Lcom/example/unhurried_reaper/unhurriedreaper/Task;"⟩ : MethodName)) hown17 (mvT hZ17 (hw _ (List.mem_of_getElem? (i := 104) rfl))) (mvT hZ17 (hw _ (List.mem_of_getElem? (i := 94) rfl))) (notFace_of_selects (args := #[]) (mvT hZ17 (hw _ (List.mem_of_getElem? (i := 96) rfl)))) (mvT hZ17 (hw _ (List.mem_of_getElem? (i := 96) rfl))) (mvT hZ17 (hw _ (List.mem_of_getElem? (i := 95) rfl))) (by decide) (backOf (W := 0) (rm12N l Z a0 hw [] b4 T25.heap n0 (Nat.le_trans (Nat.le_trans (Nat.le_trans (Nat.le_trans (Nat.le_trans (Nat.le_trans (Nat.le_trans (Nat.le_trans (Nat.le_trans (Nat.le_trans (Nat.le_trans (Nat.le_trans (Nat.le_trans (Nat.le_trans (Nat.le_trans (Nat.le_trans (Nat.le_trans (Nat.le_trans (Nat.le_trans Z0 E3.1) E4.1) E5.1) K6c.1) (Keep.of_wr W7).1) E8.1) E9.1) K10c.1) (Keep.of_wr W11).1) E12.1) E13.1) K14c.1) (Keep.of_wr W15).1) E16.1) E17.1) K18c.1) E19.1) K22c.1) K25c.1) F25_b4_furtherBack) hZ17 (hw _ (List.mem_of_getElem? (i := 97) rfl)) (hw _ (List.mem_of_getElem? (i := 4) rfl)) (by decide) (by decide)) q27a q27c (g := (mkF m 210 #[.val (.int p1), .val (.int p2), .val (.int (1 : Int32)), .val (.int (0 : Int32)), .val (.ref b3), .val (.ref b16), .val (.ref b19), .val (.ref b4), .val (.int (1 : Int32)), .val (.int (2 : Int32)), .val .null, .val .null, .unset] [(.ref b4)])) rfl (by rw [hml]; rfl) (Steps.refl _) (argsL := []) (rest := []) (lenOf pd_1 rfl) rfl (by show 2 * 0 + _ ≤ _; exact Nat.le_of_eq rfl) (hb hby at_210) (fun _ _ => ⟨rfl, eh26, (by decide : 18 + 0 ≤ _), (by decide : 69 + 0 ≤ _)⟩)
    dsimp only [Pt.U, Pt.locs, Pt.cells, Pt.slots] at X27 l27 y27 z27 st27 hQ27
    subst l27 y27 z27
    obtain ⟨rfl, N27q, eh27⟩ := hQ27
    have N27 := Fr.app N26 N27q
    obtain ⟨cq28, kq28, q28a, q28b, q28c⟩ := isOf hZ17 eh27 E25_b19
    obtain ⟨_, _, ⟨T28, L28, k28, n28⟩, -, X28, ⟨Lc28, hQ28, l28, y28, z28⟩, st28⟩ := X27.virtualBack hx (y := (⟨"com/example/unhurried_reaper/unhurriedreaper/TaskHistory", "toFront", "(Lcom/example/unhurried_reaper/unhurriedreaper/Task;)V"⟩ : MethodName)) (z := (⟨"com/example/unhurried_reaper/unhurriedreaper/TaskHistory", "toFront", "(Lcom/example/unhurried_reaper/unhurriedreaper/Task;)V"⟩ : MethodName)) hown17 (mvT hZ17 (hw _ (List.mem_of_getElem? (i := 58) rfl))) (mvT hZ17 (hw _ (List.mem_of_getElem? (i := 59) rfl))) (notFace_of_selects (args := #[]) (mvT hZ17 (hw _ (List.mem_of_getElem? (i := 61) rfl)))) (mvT hZ17 (hw _ (List.mem_of_getElem? (i := 61) rfl))) (mvT hZ17 (hw _ (List.mem_of_getElem? (i := 60) rfl))) (by decide) (backOf (W := 0) (rm7a l Z a0 hw [] b19 b16 ((0 : Int64) + (1 : Int64)) (0 : Int64) T25.heap n0 (Nat.le_trans (Nat.le_trans (Nat.le_trans (Nat.le_trans (Nat.le_trans (Nat.le_trans (Nat.le_trans (Nat.le_trans (Nat.le_trans (Nat.le_trans (Nat.le_trans (Nat.le_trans (Nat.le_trans (Nat.le_trans (Nat.le_trans (Nat.le_trans (Nat.le_trans (Nat.le_trans (Nat.le_trans Z0 E3.1) E4.1) E5.1) K6c.1) (Keep.of_wr W7).1) E8.1) E9.1) K10c.1) (Keep.of_wr W11).1) E12.1) E13.1) K14c.1) (Keep.of_wr W15).1) E16.1) E17.1) K18c.1) E19.1) K22c.1) K25c.1) ge_b19 E25_b19 F25_b19_front F25_b19_bringings ge_b16 E25_b16 F25_b16_nearerFront F25_b16_furtherBack F25_b16_frontedAt (Ne.symm ne_b16_b19)) hZ17 (hw _ (List.mem_of_getElem? (i := 62) rfl)) (hw _ (List.mem_of_getElem? (i := 53) rfl)) (by decide) (by decide)) q28a q28c (g := (mkF m 227 #[.val (.int p1), .val (.int p2), .val (.int (1 : Int32)), .val (.int (0 : Int32)), .val (.ref b3), .val (.ref b16), .val (.ref b19), .val (.ref b4), .val (.int (1 : Int32)), .val (.int (2 : Int32)), .val .null, .val .null, .val (.int (1 : Int32))] [(.ref b16), (.ref b19)])) rfl (by rw [hml]; rfl) (Steps.refl _) (argsL := [(.ref b16)]) (rest := []) (lenOf pd_2 rfl) rfl (by show 2 * 0 + _ ≤ _; exact Nat.le_of_eq rfl) (hb hby at_227) (fun _ _ => ⟨rfl, eh27, (by decide : 18 + 0 ≤ _), (by decide : 69 + 0 ≤ _)⟩)
    dsimp only [Pt.U, Pt.locs, Pt.cells, Pt.slots] at X28 l28 y28 z28 st28 hQ28
    subst l28 y28 z28
    obtain ⟨rfl, N28q, K28c, F28_b19_front, F28_b19_bringings, F28_b16_nearerFront, F28_b16_furtherBack, F28_b16_frontedAt⟩ := hQ28
    have N28 := Fr.app N27 N28q
    have V28_b3 := V25_b3.keep K28c (ninS ne_b3_b19 (ninS ne_b3_b16 nin0))
    have E28_b4 := E25_b4.keep K28c
    have F28_b4_nearerFront := F25_b4_nearerFront.keep K28c (ninS ne_b4_b19 (ninS ne_b4_b16 nin0))
    have F28_b4_furtherBack := F25_b4_furtherBack.keep K28c (ninS ne_b4_b19 (ninS ne_b4_b16 nin0))
    have F28_b4_frontedAt := F25_b4_frontedAt.keep K28c (ninS ne_b4_b19 (ninS ne_b4_b16 nin0))
    have E28_b8 := E25_b8.keep K28c
    have F28_b8_nearerFront := F25_b8_nearerFront.keep K28c (ninS ne_b8_b19 (ninS ne_b8_b16 nin0))
    have F28_b8_furtherBack := F25_b8_furtherBack.keep K28c (ninS ne_b8_b19 (ninS ne_b8_b16 nin0))
    have F28_b8_frontedAt := F25_b8_frontedAt.keep K28c (ninS ne_b8_b19 (ninS ne_b8_b16 nin0))
    have E28_b12 := E25_b12.keep K28c
    have F28_b12_nearerFront := F25_b12_nearerFront.keep K28c (ninS ne_b12_b19 (ninS ne_b12_b16 nin0))
    have F28_b12_furtherBack := F25_b12_furtherBack.keep K28c (ninS ne_b12_b19 (ninS ne_b12_b16 nin0))
    have F28_b12_frontedAt := F25_b12_frontedAt.keep K28c (ninS ne_b12_b19 (ninS ne_b12_b16 nin0))
    have E28_b16 := E25_b16.keep K28c
    have E28_b19 := E25_b19.keep K28c
    obtain ⟨cq29, kq29, q29a, q29b, q29c⟩ := isOf hZ17 rfl E28_b16
    obtain ⟨_, _, ⟨T29, L29, k29, n29⟩, -, X29, ⟨Lc29, hQ29, l29, y29, z29⟩, st29⟩ := X28.virtualBack hx (y := (⟨"com/example/unhurried_reaper/unhurriedreaper/Task", "furtherBack", "()Lcom/example/unhurried_reaper/unhurriedreaper/Task;"⟩ : MethodName)) (z := (⟨"com/example/unhurried_reaper/unhurriedreaper/Task", "furtherBack", "()Lcom/example/unhurried_reaper/unhurriedreaper/Task;"⟩ : MethodName)) hown17 (mvT hZ17 (hw _ (List.mem_of_getElem? (i := 104) rfl))) (mvT hZ17 (hw _ (List.mem_of_getElem? (i := 94) rfl))) (notFace_of_selects (args := #[]) (mvT hZ17 (hw _ (List.mem_of_getElem? (i := 96) rfl)))) (mvT hZ17 (hw _ (List.mem_of_getElem? (i := 96) rfl))) (mvT hZ17 (hw _ (List.mem_of_getElem? (i := 95) rfl))) (by decide) (backOf (W := 0) (rm12N l Z a0 hw [] b16 T28.heap n0 (Nat.le_trans (Nat.le_trans (Nat.le_trans (Nat.le_trans (Nat.le_trans (Nat.le_trans (Nat.le_trans (Nat.le_trans (Nat.le_trans (Nat.le_trans (Nat.le_trans (Nat.le_trans (Nat.le_trans (Nat.le_trans (Nat.le_trans (Nat.le_trans (Nat.le_trans (Nat.le_trans (Nat.le_trans (Nat.le_trans Z0 E3.1) E4.1) E5.1) K6c.1) (Keep.of_wr W7).1) E8.1) E9.1) K10c.1) (Keep.of_wr W11).1) E12.1) E13.1) K14c.1) (Keep.of_wr W15).1) E16.1) E17.1) K18c.1) E19.1) K22c.1) K25c.1) K28c.1) F28_b16_furtherBack) hZ17 (hw _ (List.mem_of_getElem? (i := 97) rfl)) (hw _ (List.mem_of_getElem? (i := 4) rfl)) (by decide) (by decide)) q29a q29c (g := (mkF m 237 #[.val (.int p1), .val (.int p2), .val (.int (1 : Int32)), .val (.int (0 : Int32)), .val (.ref b3), .val (.ref b16), .val (.ref b19), .val (.ref b4), .val (.int (1 : Int32)), .val (.int (2 : Int32)), .val .null, .val .null, .val (.int (1 : Int32))] [(.ref b16)])) rfl (by rw [hml]; rfl) (Steps.refl _) (argsL := []) (rest := []) (lenOf pd_1 rfl) rfl (by show 2 * 0 + _ ≤ _; exact Nat.le_of_eq rfl) (hb hby at_237) (fun _ _ => ⟨rfl, rfl, (by decide : 18 + 0 ≤ _), (by decide : 69 + 0 ≤ _)⟩)
    dsimp only [Pt.U, Pt.locs, Pt.cells, Pt.slots] at X29 l29 y29 z29 st29 hQ29
    subst l29 y29 z29
    obtain ⟨rfl, N29q, eh29⟩ := hQ29
    have N29 := Fr.app N28 N29q
    obtain ⟨fs, hr, hrun, hended, hRW⟩ := X29.leaveW hS17 (by rw [eh29]; exact (Nat.le_trans (Nat.le_trans (Nat.le_trans (Nat.le_trans (Nat.le_trans hk17 K18c.1) E19.1) K22c.1) K25c.1) K28c.1)) (v := some (.int (1 : Int32))) (fun h => by rw [Bd.returns] at h; cases h)
    refine ⟨_, _, go23 _ ?_, hrun, hended, _, _, rfl, ?_, ⟨hRW.1, hRW.2.1, hRW.2.2.1, hRW.2.2.2.mono (by decide) (by decide)⟩⟩
    · show Steps p.tables e below (T22.setTop (mkF m 90 #[.val (.int p1), .val (.int p2), .val (.int (1 : Int32)), .val (.int (0 : Int32)), .val (.ref b3), .val (.ref b16), .val (.ref b19), .unset, .unset, .unset, .unset, .unset, .unset] [])) _
      refine XS.iloadN X22.here hx rfl (hb hby at_90) rfl ?_
      show Steps p.tables e below (T22.setTop (mkF m 91 #[.val (.int p1), .val (.int p2), .val (.int (1 : Int32)), .val (.int (0 : Int32)), .val (.ref b3), .val (.ref b16), .val (.ref b19), .unset, .unset, .unset, .unset, .unset, .unset] [(.int (1 : Int32))])) _
      refine XS.iconst X22.here hx rfl (hb hby at_91) ?_
      show Steps p.tables e below (T22.setTop (mkF m 92 #[.val (.int p1), .val (.int p2), .val (.int (1 : Int32)), .val (.int (0 : Int32)), .val (.ref b3), .val (.ref b16), .val (.ref b19), .unset, .unset, .unset, .unset, .unset, .unset] [(.int (2 : Int32)), (.int (1 : Int32))])) _
      refine XS.icmpYes X22.here hx rfl (pc0 := 92) (pc' := 104) rfl (hb hby at_92) rfl (tlt (by decide)).1 (by decide) (by decide) ?_
      show Steps p.tables e below (T22.setTop (mkF m 104 #[.val (.int p1), .val (.int p2), .val (.int (1 : Int32)), .val (.int (0 : Int32)), .val (.ref b3), .val (.ref b16), .val (.ref b19), .unset, .unset, .unset, .unset, .unset, .unset] [])) _
      refine XS.iloadN X22.here hx rfl (hb hby at_104) rfl ?_
      show Steps p.tables e below (T22.setTop (mkF m 105 #[.val (.int p1), .val (.int p2), .val (.int (1 : Int32)), .val (.int (0 : Int32)), .val (.ref b3), .val (.ref b16), .val (.ref b19), .unset, .unset, .unset, .unset, .unset, .unset] [(.int (1 : Int32))])) _
      refine XS.iconst X22.here hx rfl (hb hby at_105) ?_
      show Steps p.tables e below (T22.setTop (mkF m 106 #[.val (.int p1), .val (.int p2), .val (.int (1 : Int32)), .val (.int (0 : Int32)), .val (.ref b3), .val (.ref b16), .val (.ref b19), .unset, .unset, .unset, .unset, .unset, .unset] [(.int (3 : Int32)), (.int (1 : Int32))])) _
      refine XS.icmpYes X22.here hx rfl (pc0 := 106) (pc' := 118) rfl (hb hby at_106) rfl (tlt (by decide)).1 (by decide) (by decide) ?_
      show Steps p.tables e below (T22.setTop (mkF m 118 #[.val (.int p1), .val (.int p2), .val (.int (1 : Int32)), .val (.int (0 : Int32)), .val (.ref b3), .val (.ref b16), .val (.ref b19), .unset, .unset, .unset, .unset, .unset, .unset] [])) _
      refine XS.aload X22.here hx rfl (hb hby at_118) rfl rfl ?_
      show Steps p.tables e below (T22.setTop (mkF m 120 #[.val (.int p1), .val (.int p2), .val (.int (1 : Int32)), .val (.int (0 : Int32)), .val (.ref b3), .val (.ref b16), .val (.ref b19), .unset, .unset, .unset, .unset, .unset, .unset] [(.ref b3)])) _
      refine XS.iloadN X22.here hx rfl (hb hby at_120) rfl ?_
      show Steps p.tables e below (T22.setTop (mkF m 121 #[.val (.int p1), .val (.int p2), .val (.int (1 : Int32)), .val (.int (0 : Int32)), .val (.ref b3), .val (.ref b16), .val (.ref b19), .unset, .unset, .unset, .unset, .unset, .unset] [(.int (1 : Int32)), (.ref b3)])) _
      refine XS.iconst X22.here hx rfl (hb hby at_121) ?_
      show Steps p.tables e below (T22.setTop (mkF m 122 #[.val (.int p1), .val (.int p2), .val (.int (1 : Int32)), .val (.int (0 : Int32)), .val (.ref b3), .val (.ref b16), .val (.ref b19), .unset, .unset, .unset, .unset, .unset, .unset] [(.int (1 : Int32)), (.int (1 : Int32)), (.ref b3)])) _
      refine XS.isub X22.here hx rfl (hb hby at_122) rfl ?_
      show Steps p.tables e below (T22.setTop (mkF m 123 #[.val (.int p1), .val (.int p2), .val (.int (1 : Int32)), .val (.int (0 : Int32)), .val (.ref b3), .val (.ref b16), .val (.ref b19), .unset, .unset, .unset, .unset, .unset, .unset] [(.int ((1 : Int32) - (1 : Int32))), (.ref b3)])) _
      refine XS.iloadN X22.here hx rfl (hb hby at_123) rfl ?_
      show Steps p.tables e below (T22.setTop (mkF m 124 #[.val (.int p1), .val (.int p2), .val (.int (1 : Int32)), .val (.int (0 : Int32)), .val (.ref b3), .val (.ref b16), .val (.ref b19), .unset, .unset, .unset, .unset, .unset, .unset] [(.int (0 : Int32)), (.int ((1 : Int32) - (1 : Int32))), (.ref b3)])) _
      refine XS.isub X22.here hx rfl (hb hby at_124) rfl ?_
      show Steps p.tables e below (T22.setTop (mkF m 125 #[.val (.int p1), .val (.int p2), .val (.int (1 : Int32)), .val (.int (0 : Int32)), .val (.ref b3), .val (.ref b16), .val (.ref b19), .unset, .unset, .unset, .unset, .unset, .unset] [(.int (((1 : Int32) - (1 : Int32)) - (0 : Int32))), (.ref b3)])) _
      refine X22.aaload hx (j := (((1 : Int32) - (1 : Int32)) - (0 : Int32))) (v := (.ref b4)) Ar24.1 (State.isArrayOf_alike hZ17.alike Ar24.2.1) rfl Ar24.2.2 hin24 hat24 (g := (mkF m 125 #[.val (.int p1), .val (.int p2), .val (.int (1 : Int32)), .val (.int (0 : Int32)), .val (.ref b3), .val (.ref b16), .val (.ref b19), .unset, .unset, .unset, .unset, .unset, .unset] [(.int (((1 : Int32) - (1 : Int32)) - (0 : Int32))), (.ref b3)])) rfl rfl (hb hby at_125) _ ?_
      show Steps p.tables e below (T22.setTop (mkF m 126 #[.val (.int p1), .val (.int p2), .val (.int (1 : Int32)), .val (.int (0 : Int32)), .val (.ref b3), .val (.ref b16), .val (.ref b19), .unset, .unset, .unset, .unset, .unset, .unset] [(.ref b4)])) _
      refine XS.astore X22.here hx rfl (hb hby at_126) rfl rfl (l' := #[.val (.int p1), .val (.int p2), .val (.int (1 : Int32)), .val (.int (0 : Int32)), .val (.ref b3), .val (.ref b16), .val (.ref b19), .val (.ref b4), .unset, .unset, .unset, .unset, .unset]) rfl ?_
      show Steps p.tables e below (T22.setTop (mkF m 128 #[.val (.int p1), .val (.int p2), .val (.int (1 : Int32)), .val (.int (0 : Int32)), .val (.ref b3), .val (.ref b16), .val (.ref b19), .val (.ref b4), .unset, .unset, .unset, .unset, .unset] [])) _
      refine XS.iloadN X22.here hx rfl (hb hby at_128) rfl ?_
      show Steps p.tables e below (T22.setTop (mkF m 129 #[.val (.int p1), .val (.int p2), .val (.int (1 : Int32)), .val (.int (0 : Int32)), .val (.ref b3), .val (.ref b16), .val (.ref b19), .val (.ref b4), .unset, .unset, .unset, .unset, .unset] [(.int (0 : Int32))])) _
      refine XS.ifNo X22.here hx rfl (hb hby at_129) rfl ((if0 _ _).trans (teq (by decide)).2) ?_
      show Steps p.tables e below (T22.setTop (mkF m 132 #[.val (.int p1), .val (.int p2), .val (.int (1 : Int32)), .val (.int (0 : Int32)), .val (.ref b3), .val (.ref b16), .val (.ref b19), .val (.ref b4), .unset, .unset, .unset, .unset, .unset] [])) _
      refine XS.iconst X22.here hx rfl (hb hby at_132) ?_
      show Steps p.tables e below (T22.setTop (mkF m 133 #[.val (.int p1), .val (.int p2), .val (.int (1 : Int32)), .val (.int (0 : Int32)), .val (.ref b3), .val (.ref b16), .val (.ref b19), .val (.ref b4), .unset, .unset, .unset, .unset, .unset] [(.int (1 : Int32))])) _
      refine XS.goto X22.here hx rfl (pc0 := 133) (pc' := 137) rfl (hb hby at_133) (by decide) (by decide) ?_
      show Steps p.tables e below (T22.setTop (mkF m 137 #[.val (.int p1), .val (.int p2), .val (.int (1 : Int32)), .val (.int (0 : Int32)), .val (.ref b3), .val (.ref b16), .val (.ref b19), .val (.ref b4), .unset, .unset, .unset, .unset, .unset] [(.int (1 : Int32))])) _
      refine XS.istore X22.here hx rfl (hb hby at_137) rfl (l' := #[.val (.int p1), .val (.int p2), .val (.int (1 : Int32)), .val (.int (0 : Int32)), .val (.ref b3), .val (.ref b16), .val (.ref b19), .val (.ref b4), .val (.int (1 : Int32)), .unset, .unset, .unset, .unset]) rfl ?_
      show Steps p.tables e below (T22.setTop (mkF m 139 #[.val (.int p1), .val (.int p2), .val (.int (1 : Int32)), .val (.int (0 : Int32)), .val (.ref b3), .val (.ref b16), .val (.ref b19), .val (.ref b4), .val (.int (1 : Int32)), .unset, .unset, .unset, .unset] [])) _
      refine XS.iloadN X22.here hx rfl (hb hby at_139) rfl ?_
      show Steps p.tables e below (T22.setTop (mkF m 140 #[.val (.int p1), .val (.int p2), .val (.int (1 : Int32)), .val (.int (0 : Int32)), .val (.ref b3), .val (.ref b16), .val (.ref b19), .val (.ref b4), .val (.int (1 : Int32)), .unset, .unset, .unset, .unset] [(.int (0 : Int32))])) _
      refine XS.iconst X22.here hx rfl (hb hby at_140) ?_
      show Steps p.tables e below (T22.setTop (mkF m 141 #[.val (.int p1), .val (.int p2), .val (.int (1 : Int32)), .val (.int (0 : Int32)), .val (.ref b3), .val (.ref b16), .val (.ref b19), .val (.ref b4), .val (.int (1 : Int32)), .unset, .unset, .unset, .unset] [(.int (1 : Int32)), (.int (0 : Int32))])) _
      refine XS.icmpNo X22.here hx rfl (hb hby at_141) rfl (flt (by decide)).2.2.1 ?_
      show Steps p.tables e below (T22.setTop (mkF m 144 #[.val (.int p1), .val (.int p2), .val (.int (1 : Int32)), .val (.int (0 : Int32)), .val (.ref b3), .val (.ref b16), .val (.ref b19), .val (.ref b4), .val (.int (1 : Int32)), .unset, .unset, .unset, .unset] [])) _
      refine XS.iconst X22.here hx rfl (hb hby at_144) ?_
      show Steps p.tables e below (T22.setTop (mkF m 145 #[.val (.int p1), .val (.int p2), .val (.int (1 : Int32)), .val (.int (0 : Int32)), .val (.ref b3), .val (.ref b16), .val (.ref b19), .val (.ref b4), .val (.int (1 : Int32)), .unset, .unset, .unset, .unset] [(.int (2 : Int32))])) _
      refine XS.goto X22.here hx rfl (pc0 := 145) (pc' := 149) rfl (hb hby at_145) (by decide) (by decide) ?_
      show Steps p.tables e below (T22.setTop (mkF m 149 #[.val (.int p1), .val (.int p2), .val (.int (1 : Int32)), .val (.int (0 : Int32)), .val (.ref b3), .val (.ref b16), .val (.ref b19), .val (.ref b4), .val (.int (1 : Int32)), .unset, .unset, .unset, .unset] [(.int (2 : Int32))])) _
      refine XS.istore X22.here hx rfl (hb hby at_149) rfl (l' := #[.val (.int p1), .val (.int p2), .val (.int (1 : Int32)), .val (.int (0 : Int32)), .val (.ref b3), .val (.ref b16), .val (.ref b19), .val (.ref b4), .val (.int (1 : Int32)), .val (.int (2 : Int32)), .unset, .unset, .unset]) rfl ?_
      show Steps p.tables e below (T22.setTop (mkF m 151 #[.val (.int p1), .val (.int p2), .val (.int (1 : Int32)), .val (.int (0 : Int32)), .val (.ref b3), .val (.ref b16), .val (.ref b19), .val (.ref b4), .val (.int (1 : Int32)), .val (.int (2 : Int32)), .unset, .unset, .unset] [])) _
      refine XS.iload X22.here hx rfl (hb hby at_151) rfl ?_
      show Steps p.tables e below (T22.setTop (mkF m 153 #[.val (.int p1), .val (.int p2), .val (.int (1 : Int32)), .val (.int (0 : Int32)), .val (.ref b3), .val (.ref b16), .val (.ref b19), .val (.ref b4), .val (.int (1 : Int32)), .val (.int (2 : Int32)), .unset, .unset, .unset] [(.int (1 : Int32))])) _
      refine XS.iloadN X22.here hx rfl (hb hby at_153) rfl ?_
      show Steps p.tables e below (T22.setTop (mkF m 154 #[.val (.int p1), .val (.int p2), .val (.int (1 : Int32)), .val (.int (0 : Int32)), .val (.ref b3), .val (.ref b16), .val (.ref b19), .val (.ref b4), .val (.int (1 : Int32)), .val (.int (2 : Int32)), .unset, .unset, .unset] [(.int (1 : Int32)), (.int (1 : Int32))])) _
      refine XS.icmpYes X22.here hx rfl (pc0 := 154) (pc' := 169) rfl (hb hby at_154) rfl (flt (by decide)).2.1 (by decide) (by decide) ?_
      show Steps p.tables e below (T22.setTop (mkF m 169 #[.val (.int p1), .val (.int p2), .val (.int (1 : Int32)), .val (.int (0 : Int32)), .val (.ref b3), .val (.ref b16), .val (.ref b19), .val (.ref b4), .val (.int (1 : Int32)), .val (.int (2 : Int32)), .unset, .unset, .unset] [])) _
      refine XS.aconstNull X22.here hx rfl (hb hby at_169) ?_
      show Steps p.tables e below (T22.setTop (mkF m 170 #[.val (.int p1), .val (.int p2), .val (.int (1 : Int32)), .val (.int (0 : Int32)), .val (.ref b3), .val (.ref b16), .val (.ref b19), .val (.ref b4), .val (.int (1 : Int32)), .val (.int (2 : Int32)), .unset, .unset, .unset] [.null])) _
      refine XS.astore X22.here hx rfl (hb hby at_170) rfl rfl (l' := #[.val (.int p1), .val (.int p2), .val (.int (1 : Int32)), .val (.int (0 : Int32)), .val (.ref b3), .val (.ref b16), .val (.ref b19), .val (.ref b4), .val (.int (1 : Int32)), .val (.int (2 : Int32)), .val .null, .unset, .unset]) rfl ?_
      show Steps p.tables e below (T22.setTop (mkF m 172 #[.val (.int p1), .val (.int p2), .val (.int (1 : Int32)), .val (.int (0 : Int32)), .val (.ref b3), .val (.ref b16), .val (.ref b19), .val (.ref b4), .val (.int (1 : Int32)), .val (.int (2 : Int32)), .val .null, .unset, .unset] [])) _
      refine XS.iload X22.here hx rfl (hb hby at_172) rfl ?_
      show Steps p.tables e below (T22.setTop (mkF m 174 #[.val (.int p1), .val (.int p2), .val (.int (1 : Int32)), .val (.int (0 : Int32)), .val (.ref b3), .val (.ref b16), .val (.ref b19), .val (.ref b4), .val (.int (1 : Int32)), .val (.int (2 : Int32)), .val .null, .unset, .unset] [(.int (2 : Int32))])) _
      refine XS.iloadN X22.here hx rfl (hb hby at_174) rfl ?_
      show Steps p.tables e below (T22.setTop (mkF m 175 #[.val (.int p1), .val (.int p2), .val (.int (1 : Int32)), .val (.int (0 : Int32)), .val (.ref b3), .val (.ref b16), .val (.ref b19), .val (.ref b4), .val (.int (1 : Int32)), .val (.int (2 : Int32)), .val .null, .unset, .unset] [(.int (1 : Int32)), (.int (2 : Int32))])) _
      refine XS.icmpYes X22.here hx rfl (pc0 := 175) (pc' := 190) rfl (hb hby at_175) rfl (flt (by decide)).2.1 (by decide) (by decide) ?_
      show Steps p.tables e below (T22.setTop (mkF m 190 #[.val (.int p1), .val (.int p2), .val (.int (1 : Int32)), .val (.int (0 : Int32)), .val (.ref b3), .val (.ref b16), .val (.ref b19), .val (.ref b4), .val (.int (1 : Int32)), .val (.int (2 : Int32)), .val .null, .unset, .unset] [])) _
      refine XS.aconstNull X22.here hx rfl (hb hby at_190) ?_
      show Steps p.tables e below (T22.setTop (mkF m 191 #[.val (.int p1), .val (.int p2), .val (.int (1 : Int32)), .val (.int (0 : Int32)), .val (.ref b3), .val (.ref b16), .val (.ref b19), .val (.ref b4), .val (.int (1 : Int32)), .val (.int (2 : Int32)), .val .null, .unset, .unset] [.null])) _
      refine XS.astore X22.here hx rfl (hb hby at_191) rfl rfl (l' := #[.val (.int p1), .val (.int p2), .val (.int (1 : Int32)), .val (.int (0 : Int32)), .val (.ref b3), .val (.ref b16), .val (.ref b19), .val (.ref b4), .val (.int (1 : Int32)), .val (.int (2 : Int32)), .val .null, .val .null, .unset]) rfl ?_
      show Steps p.tables e below (T22.setTop (mkF m 193 #[.val (.int p1), .val (.int p2), .val (.int (1 : Int32)), .val (.int (0 : Int32)), .val (.ref b3), .val (.ref b16), .val (.ref b19), .val (.ref b4), .val (.int (1 : Int32)), .val (.int (2 : Int32)), .val .null, .val .null, .unset] [])) _
      refine XS.aload X22.here hx rfl (hb hby at_193) rfl rfl ?_
      show Steps p.tables e below (T22.setTop (mkF m 195 #[.val (.int p1), .val (.int p2), .val (.int (1 : Int32)), .val (.int (0 : Int32)), .val (.ref b3), .val (.ref b16), .val (.ref b19), .val (.ref b4), .val (.int (1 : Int32)), .val (.int (2 : Int32)), .val .null, .val .null, .unset] [(.ref b19)])) _
      refine XS.aload X22.here hx rfl (hb hby at_195) rfl rfl ?_
      show Steps p.tables e below (T22.setTop (mkF m 197 #[.val (.int p1), .val (.int p2), .val (.int (1 : Int32)), .val (.int (0 : Int32)), .val (.ref b3), .val (.ref b16), .val (.ref b19), .val (.ref b4), .val (.int (1 : Int32)), .val (.int (2 : Int32)), .val .null, .val .null, .unset] [(.ref b4), (.ref b19)])) _
      refine st25.trans ?_
      show Steps p.tables e below (T25.setTop (mkF m 200 #[.val (.int p1), .val (.int p2), .val (.int (1 : Int32)), .val (.int (0 : Int32)), .val (.ref b3), .val (.ref b16), .val (.ref b19), .val (.ref b4), .val (.int (1 : Int32)), .val (.int (2 : Int32)), .val .null, .val .null, .unset] [])) _
      refine XS.aload X25.here hx rfl (hb hby at_200) rfl rfl ?_
      show Steps p.tables e below (T25.setTop (mkF m 202 #[.val (.int p1), .val (.int p2), .val (.int (1 : Int32)), .val (.int (0 : Int32)), .val (.ref b3), .val (.ref b16), .val (.ref b19), .val (.ref b4), .val (.int (1 : Int32)), .val (.int (2 : Int32)), .val .null, .val .null, .unset] [(.ref b4)])) _
      refine st26.trans ?_
      show Steps p.tables e below (T26.setTop (mkF m 205 #[.val (.int p1), .val (.int p2), .val (.int (1 : Int32)), .val (.int (0 : Int32)), .val (.ref b3), .val (.ref b16), .val (.ref b19), .val (.ref b4), .val (.int (1 : Int32)), .val (.int (2 : Int32)), .val .null, .val .null, .unset] [.null])) _
      refine XS.ifnonnullNo X26.here hx rfl (hb hby at_205) rfl ?_
      show Steps p.tables e below (T26.setTop (mkF m 208 #[.val (.int p1), .val (.int p2), .val (.int (1 : Int32)), .val (.int (0 : Int32)), .val (.ref b3), .val (.ref b16), .val (.ref b19), .val (.ref b4), .val (.int (1 : Int32)), .val (.int (2 : Int32)), .val .null, .val .null, .unset] [])) _
      refine XS.aload X26.here hx rfl (hb hby at_208) rfl rfl ?_
      show Steps p.tables e below (T26.setTop (mkF m 210 #[.val (.int p1), .val (.int p2), .val (.int (1 : Int32)), .val (.int (0 : Int32)), .val (.ref b3), .val (.ref b16), .val (.ref b19), .val (.ref b4), .val (.int (1 : Int32)), .val (.int (2 : Int32)), .val .null, .val .null, .unset] [(.ref b4)])) _
      refine st27.trans ?_
      show Steps p.tables e below (T27.setTop (mkF m 213 #[.val (.int p1), .val (.int p2), .val (.int (1 : Int32)), .val (.int (0 : Int32)), .val (.ref b3), .val (.ref b16), .val (.ref b19), .val (.ref b4), .val (.int (1 : Int32)), .val (.int (2 : Int32)), .val .null, .val .null, .unset] [.null])) _
      refine XS.ifnonnullNo X27.here hx rfl (hb hby at_213) rfl ?_
      show Steps p.tables e below (T27.setTop (mkF m 216 #[.val (.int p1), .val (.int p2), .val (.int (1 : Int32)), .val (.int (0 : Int32)), .val (.ref b3), .val (.ref b16), .val (.ref b19), .val (.ref b4), .val (.int (1 : Int32)), .val (.int (2 : Int32)), .val .null, .val .null, .unset] [])) _
      refine XS.iconst X27.here hx rfl (hb hby at_216) ?_
      show Steps p.tables e below (T27.setTop (mkF m 217 #[.val (.int p1), .val (.int p2), .val (.int (1 : Int32)), .val (.int (0 : Int32)), .val (.ref b3), .val (.ref b16), .val (.ref b19), .val (.ref b4), .val (.int (1 : Int32)), .val (.int (2 : Int32)), .val .null, .val .null, .unset] [(.int (1 : Int32))])) _
      refine XS.goto X27.here hx rfl (pc0 := 217) (pc' := 221) rfl (hb hby at_217) (by decide) (by decide) ?_
      show Steps p.tables e below (T27.setTop (mkF m 221 #[.val (.int p1), .val (.int p2), .val (.int (1 : Int32)), .val (.int (0 : Int32)), .val (.ref b3), .val (.ref b16), .val (.ref b19), .val (.ref b4), .val (.int (1 : Int32)), .val (.int (2 : Int32)), .val .null, .val .null, .unset] [(.int (1 : Int32))])) _
      refine XS.istore X27.here hx rfl (hb hby at_221) rfl (l' := #[.val (.int p1), .val (.int p2), .val (.int (1 : Int32)), .val (.int (0 : Int32)), .val (.ref b3), .val (.ref b16), .val (.ref b19), .val (.ref b4), .val (.int (1 : Int32)), .val (.int (2 : Int32)), .val .null, .val .null, .val (.int (1 : Int32))]) rfl ?_
      show Steps p.tables e below (T27.setTop (mkF m 223 #[.val (.int p1), .val (.int p2), .val (.int (1 : Int32)), .val (.int (0 : Int32)), .val (.ref b3), .val (.ref b16), .val (.ref b19), .val (.ref b4), .val (.int (1 : Int32)), .val (.int (2 : Int32)), .val .null, .val .null, .val (.int (1 : Int32))] [])) _
      refine XS.aload X27.here hx rfl (hb hby at_223) rfl rfl ?_
      show Steps p.tables e below (T27.setTop (mkF m 225 #[.val (.int p1), .val (.int p2), .val (.int (1 : Int32)), .val (.int (0 : Int32)), .val (.ref b3), .val (.ref b16), .val (.ref b19), .val (.ref b4), .val (.int (1 : Int32)), .val (.int (2 : Int32)), .val .null, .val .null, .val (.int (1 : Int32))] [(.ref b19)])) _
      refine XS.aload X27.here hx rfl (hb hby at_225) rfl rfl ?_
      show Steps p.tables e below (T27.setTop (mkF m 227 #[.val (.int p1), .val (.int p2), .val (.int (1 : Int32)), .val (.int (0 : Int32)), .val (.ref b3), .val (.ref b16), .val (.ref b19), .val (.ref b4), .val (.int (1 : Int32)), .val (.int (2 : Int32)), .val .null, .val .null, .val (.int (1 : Int32))] [(.ref b16), (.ref b19)])) _
      refine st28.trans ?_
      show Steps p.tables e below (T28.setTop (mkF m 230 #[.val (.int p1), .val (.int p2), .val (.int (1 : Int32)), .val (.int (0 : Int32)), .val (.ref b3), .val (.ref b16), .val (.ref b19), .val (.ref b4), .val (.int (1 : Int32)), .val (.int (2 : Int32)), .val .null, .val .null, .val (.int (1 : Int32))] [])) _
      refine XS.iload X28.here hx rfl (hb hby at_230) rfl ?_
      show Steps p.tables e below (T28.setTop (mkF m 232 #[.val (.int p1), .val (.int p2), .val (.int (1 : Int32)), .val (.int (0 : Int32)), .val (.ref b3), .val (.ref b16), .val (.ref b19), .val (.ref b4), .val (.int (1 : Int32)), .val (.int (2 : Int32)), .val .null, .val .null, .val (.int (1 : Int32))] [(.int (1 : Int32))])) _
      refine XS.ifNo X28.here hx rfl (hb hby at_232) rfl ((if0 _ _).trans (feq (by decide)).1) ?_
      show Steps p.tables e below (T28.setTop (mkF m 235 #[.val (.int p1), .val (.int p2), .val (.int (1 : Int32)), .val (.int (0 : Int32)), .val (.ref b3), .val (.ref b16), .val (.ref b19), .val (.ref b4), .val (.int (1 : Int32)), .val (.int (2 : Int32)), .val .null, .val .null, .val (.int (1 : Int32))] [])) _
      refine XS.aload X28.here hx rfl (hb hby at_235) rfl rfl ?_
      show Steps p.tables e below (T28.setTop (mkF m 237 #[.val (.int p1), .val (.int p2), .val (.int (1 : Int32)), .val (.int (0 : Int32)), .val (.ref b3), .val (.ref b16), .val (.ref b19), .val (.ref b4), .val (.int (1 : Int32)), .val (.int (2 : Int32)), .val .null, .val .null, .val (.int (1 : Int32))] [(.ref b16)])) _
      refine st29.trans ?_
      show Steps p.tables e below (T29.setTop (mkF m 240 #[.val (.int p1), .val (.int p2), .val (.int (1 : Int32)), .val (.int (0 : Int32)), .val (.ref b3), .val (.ref b16), .val (.ref b19), .val (.ref b4), .val (.int (1 : Int32)), .val (.int (2 : Int32)), .val .null, .val .null, .val (.int (1 : Int32))] [.null])) _
      refine XS.aload X29.here hx rfl (hb hby at_240) rfl rfl ?_
      show Steps p.tables e below (T29.setTop (mkF m 242 #[.val (.int p1), .val (.int p2), .val (.int (1 : Int32)), .val (.int (0 : Int32)), .val (.ref b3), .val (.ref b16), .val (.ref b19), .val (.ref b4), .val (.int (1 : Int32)), .val (.int (2 : Int32)), .val .null, .val .null, .val (.int (1 : Int32))] [.null, .null])) _
      refine Jvm.RoadKit.acmp (g := (mkF m 242 #[.val (.int p1), .val (.int p2), .val (.int (1 : Int32)), .val (.int (0 : Int32)), .val (.ref b3), .val (.ref b16), .val (.ref b19), .val (.ref b4), .val (.int (1 : Int32)), .val (.int (2 : Int32)), .val .null, .val .null, .val (.int (1 : Int32))] [.null, .null])) X29 hx rfl rfl rfl (pc0 := 242) (pc' := 245) (same := true) rfl (hb hby at_242) rfl (decide_eq_true rfl) (by decide) (by decide) ?_
      show Steps p.tables e below (T29.setTop (mkF m 245 #[.val (.int p1), .val (.int p2), .val (.int (1 : Int32)), .val (.int (0 : Int32)), .val (.ref b3), .val (.ref b16), .val (.ref b19), .val (.ref b4), .val (.int (1 : Int32)), .val (.int (2 : Int32)), .val .null, .val .null, .val (.int (1 : Int32))] [])) _
      refine XS.iconst X29.here hx rfl (hb hby at_245) ?_
      show Steps p.tables e below (T29.setTop (mkF m 246 #[.val (.int p1), .val (.int p2), .val (.int (1 : Int32)), .val (.int (0 : Int32)), .val (.ref b3), .val (.ref b16), .val (.ref b19), .val (.ref b4), .val (.int (1 : Int32)), .val (.int (2 : Int32)), .val .null, .val .null, .val (.int (1 : Int32))] [(.int (1 : Int32))])) _
      refine XS.goto X29.here hx rfl (pc0 := 246) (pc' := 250) rfl (hb hby at_246) (by decide) (by decide) ?_
      show Steps p.tables e below (T29.setTop (mkF m 250 #[.val (.int p1), .val (.int p2), .val (.int (1 : Int32)), .val (.int (0 : Int32)), .val (.ref b3), .val (.ref b16), .val (.ref b19), .val (.ref b4), .val (.int (1 : Int32)), .val (.int (2 : Int32)), .val .null, .val .null, .val (.int (1 : Int32))] [(.int (1 : Int32))])) _
      refine XS.istore X29.here hx rfl (hb hby at_250) rfl (l' := #[.val (.int p1), .val (.int p2), .val (.int (1 : Int32)), .val (.int (0 : Int32)), .val (.ref b3), .val (.ref b16), .val (.ref b19), .val (.ref b4), .val (.int (1 : Int32)), .val (.int (2 : Int32)), .val .null, .val .null, .val (.int (1 : Int32))]) rfl ?_
      show Steps p.tables e below (T29.setTop (mkF m 252 #[.val (.int p1), .val (.int p2), .val (.int (1 : Int32)), .val (.int (0 : Int32)), .val (.ref b3), .val (.ref b16), .val (.ref b19), .val (.ref b4), .val (.int (1 : Int32)), .val (.int (2 : Int32)), .val .null, .val .null, .val (.int (1 : Int32))] [])) _
      refine XS.aload X29.here hx rfl (hb hby at_252) rfl rfl ?_
      show Steps p.tables e below (T29.setTop (mkF m 254 #[.val (.int p1), .val (.int p2), .val (.int (1 : Int32)), .val (.int (0 : Int32)), .val (.ref b3), .val (.ref b16), .val (.ref b19), .val (.ref b4), .val (.int (1 : Int32)), .val (.int (2 : Int32)), .val .null, .val .null, .val (.int (1 : Int32))] [.null])) _
      refine XS.ifnullYes X29.here hx rfl (pc0 := 254) (pc' := 289) rfl (hb hby at_254) rfl (by decide) (by decide) ?_
      show Steps p.tables e below (T29.setTop (mkF m 289 #[.val (.int p1), .val (.int p2), .val (.int (1 : Int32)), .val (.int (0 : Int32)), .val (.ref b3), .val (.ref b16), .val (.ref b19), .val (.ref b4), .val (.int (1 : Int32)), .val (.int (2 : Int32)), .val .null, .val .null, .val (.int (1 : Int32))] [])) _
      refine XS.aload X29.here hx rfl (hb hby at_289) rfl rfl ?_
      show Steps p.tables e below (T29.setTop (mkF m 291 #[.val (.int p1), .val (.int p2), .val (.int (1 : Int32)), .val (.int (0 : Int32)), .val (.ref b3), .val (.ref b16), .val (.ref b19), .val (.ref b4), .val (.int (1 : Int32)), .val (.int (2 : Int32)), .val .null, .val .null, .val (.int (1 : Int32))] [.null])) _
      refine XS.ifnullYes X29.here hx rfl (pc0 := 291) (pc' := 324) rfl (hb hby at_291) rfl (by decide) (by decide) ?_
      show Steps p.tables e below (T29.setTop (mkF m 324 #[.val (.int p1), .val (.int p2), .val (.int (1 : Int32)), .val (.int (0 : Int32)), .val (.ref b3), .val (.ref b16), .val (.ref b19), .val (.ref b4), .val (.int (1 : Int32)), .val (.int (2 : Int32)), .val .null, .val .null, .val (.int (1 : Int32))] [])) _
      refine XS.iload X29.here hx rfl (hb hby at_324) rfl ?_
      show Steps p.tables e below (T29.setTop (mkF m 326 #[.val (.int p1), .val (.int p2), .val (.int (1 : Int32)), .val (.int (0 : Int32)), .val (.ref b3), .val (.ref b16), .val (.ref b19), .val (.ref b4), .val (.int (1 : Int32)), .val (.int (2 : Int32)), .val .null, .val .null, .val (.int (1 : Int32))] [(.int (1 : Int32))])) _
      exact retN X29 hx (t := .boolean) Bd.returns (by simp) (hb hby at_326) hr
    · show Q0 Z p1 h0 n0 _ T29.heap _
      rw [eh29]
      exact ⟨rfl, N29⟩
  · rw [e1, e2] at go23
    obtain ⟨cl30, Ar30, q30, S30, M30, Hh30, G30⟩ := id V22_b3
    have hin30 : ¬ ((1 : Int32) < 0 ∨ cl30.slots.size ≤ ((1 : Int32)).toNatClampNeg) := inb_of S30 ⟨by decide, by decide⟩
    have hat30 : cl30.slots[((1 : Int32)).toNatClampNeg]? = some (.ref b8) := Has.at Hh30 hin30 rfl
    obtain ⟨cq31, kq31, q31a, q31b, q31c⟩ := isOf hZ17 rfl E22_b19
    obtain ⟨_, _, ⟨T31, L31, k31, n31⟩, -, X31, ⟨Lc31, hQ31, l31, y31, z31⟩, st31⟩ := X22.virtualBack hx (y := (⟨"com/example/unhurried_reaper/unhurriedreaper/TaskHistory", "toFront", "(Lcom/example/unhurried_reaper/unhurriedreaper/Task;)V"⟩ : MethodName)) (z := (⟨"com/example/unhurried_reaper/unhurriedreaper/TaskHistory", "toFront", "(Lcom/example/unhurried_reaper/unhurriedreaper/Task;)V"⟩ : MethodName)) hown17 (mvT hZ17 (hw _ (List.mem_of_getElem? (i := 58) rfl))) (mvT hZ17 (hw _ (List.mem_of_getElem? (i := 59) rfl))) (notFace_of_selects (args := #[]) (mvT hZ17 (hw _ (List.mem_of_getElem? (i := 61) rfl)))) (mvT hZ17 (hw _ (List.mem_of_getElem? (i := 61) rfl))) (mvT hZ17 (hw _ (List.mem_of_getElem? (i := 60) rfl))) (by decide) (backOf (W := 0) (rm7b l Z a0 hw [] b19 b8 b4 ((0 : Int64) + (1 : Int64)) (0 : Int64) (0 : Int64) .null T22.heap n0 (Nat.le_trans (Nat.le_trans (Nat.le_trans (Nat.le_trans (Nat.le_trans (Nat.le_trans (Nat.le_trans (Nat.le_trans (Nat.le_trans (Nat.le_trans (Nat.le_trans (Nat.le_trans (Nat.le_trans (Nat.le_trans (Nat.le_trans (Nat.le_trans (Nat.le_trans (Nat.le_trans Z0 E3.1) E4.1) E5.1) K6c.1) (Keep.of_wr W7).1) E8.1) E9.1) K10c.1) (Keep.of_wr W11).1) E12.1) E13.1) K14c.1) (Keep.of_wr W15).1) E16.1) E17.1) K18c.1) E19.1) K22c.1) ge_b19 E22_b19 F22_b19_front F22_b19_bringings ge_b8 E22_b8 F22_b8_nearerFront F22_b8_furtherBack F22_b8_frontedAt ge_b4 E22_b4 F22_b4_nearerFront F22_b4_furtherBack F22_b4_frontedAt (Ne.symm ne_b8_b19) (Ne.symm ne_b4_b19) (Ne.symm ne_b4_b8)) hZ17 (hw _ (List.mem_of_getElem? (i := 62) rfl)) (hw _ (List.mem_of_getElem? (i := 53) rfl)) (by decide) (by decide)) q31a q31c (g := (mkF m 101 #[.val (.int p1), .val (.int p2), .val (.int (2 : Int32)), .val (.int (0 : Int32)), .val (.ref b3), .val (.ref b16), .val (.ref b19), .unset, .unset, .unset, .unset, .unset, .unset] [(.ref b8), (.ref b19)])) rfl (by rw [hml]; rfl) (Steps.refl _) (argsL := [(.ref b8)]) (rest := []) (lenOf pd_2 rfl) rfl (by show 2 * 0 + _ ≤ _; exact Nat.le_of_eq rfl) (hb hby at_101) (fun _ _ => ⟨rfl, rfl, (by decide : 18 + 0 ≤ _), (by decide : 69 + 0 ≤ _)⟩)
    dsimp only [Pt.U, Pt.locs, Pt.cells, Pt.slots] at X31 l31 y31 z31 st31 hQ31
    subst l31 y31 z31
    obtain ⟨rfl, N31q, K31c, F31_b19_front, F31_b19_bringings, F31_b8_nearerFront, F31_b8_furtherBack, F31_b8_frontedAt, F31_b4_nearerFront, F31_b4_furtherBack, F31_b4_frontedAt⟩ := hQ31
    have N31 := Fr.app N22 N31q
    have V31_b3 := V22_b3.keep K31c (ninS ne_b3_b19 (ninS ne_b3_b8 (ninS ne_b3_b4 nin0)))
    have E31_b4 := E22_b4.keep K31c
    have E31_b8 := E22_b8.keep K31c
    have E31_b12 := E22_b12.keep K31c
    have F31_b12_nearerFront := F22_b12_nearerFront.keep K31c (ninS ne_b12_b19 (ninS (Ne.symm ne_b8_b12) (ninS (Ne.symm ne_b4_b12) nin0)))
    have F31_b12_furtherBack := F22_b12_furtherBack.keep K31c (ninS ne_b12_b19 (ninS (Ne.symm ne_b8_b12) (ninS (Ne.symm ne_b4_b12) nin0)))
    have F31_b12_frontedAt := F22_b12_frontedAt.keep K31c (ninS ne_b12_b19 (ninS (Ne.symm ne_b8_b12) (ninS (Ne.symm ne_b4_b12) nin0)))
    have E31_b16 := E22_b16.keep K31c
    have F31_b16_nearerFront := F22_b16_nearerFront.keep K31c (ninS ne_b16_b19 (ninS (Ne.symm ne_b8_b16) (ninS (Ne.symm ne_b4_b16) nin0)))
    have F31_b16_furtherBack := F22_b16_furtherBack.keep K31c (ninS ne_b16_b19 (ninS (Ne.symm ne_b8_b16) (ninS (Ne.symm ne_b4_b16) nin0)))
    have F31_b16_frontedAt := F22_b16_frontedAt.keep K31c (ninS ne_b16_b19 (ninS (Ne.symm ne_b8_b16) (ninS (Ne.symm ne_b4_b16) nin0)))
    have E31_b19 := E22_b19.keep K31c
    obtain ⟨cl32, Ar32, q32, S32, M32, Hh32, G32⟩ := id V31_b3
    have hin32 : ¬ ((((2 : Int32) - (1 : Int32)) - (0 : Int32)) < 0 ∨ cl32.slots.size ≤ ((((2 : Int32) - (1 : Int32)) - (0 : Int32))).toNatClampNeg) := inb_of S32 ⟨by decide, by decide⟩
    have hat32 : cl32.slots[((((2 : Int32) - (1 : Int32)) - (0 : Int32))).toNatClampNeg]? = some (.ref b8) := Has.at Hh32 hin32 rfl
    obtain ⟨cl33, Ar33, q33, S33, M33, Hh33, G33⟩ := id V31_b3
    have hin33 : ¬ ((((2 : Int32) - (1 : Int32)) - (1 : Int32)) < 0 ∨ cl33.slots.size ≤ ((((2 : Int32) - (1 : Int32)) - (1 : Int32))).toNatClampNeg) := inb_of S33 ⟨by decide, by decide⟩
    have hat33 : cl33.slots[((((2 : Int32) - (1 : Int32)) - (1 : Int32))).toNatClampNeg]? = some (.ref b4) := Has.at Hh33 hin33 rfl
    obtain ⟨cq34, kq34, q34a, q34b, q34c⟩ := isOf hZ17 rfl E31_b19
    obtain ⟨_, _, ⟨T34, L34, k34, n34⟩, -, X34, ⟨Lc34, hQ34, l34, y34, z34⟩, st34⟩ := X31.virtualBack hx (y := (⟨"com/example/unhurried_reaper/unhurriedreaper/TaskHistory", "remove", "(Lcom/example/unhurried_reaper/unhurriedreaper/Task;)V"⟩ : MethodName)) (z := (⟨"com/example/unhurried_reaper/unhurriedreaper/TaskHistory", "remove", "(Lcom/example/unhurried_reaper/unhurriedreaper/Task;)V"⟩ : MethodName)) hown17 (mvT hZ17 (hw _ (List.mem_of_getElem? (i := 88) rfl))) (mvT hZ17 (hw _ (List.mem_of_getElem? (i := 89) rfl))) (notFace_of_selects (args := #[]) (mvT hZ17 (hw _ (List.mem_of_getElem? (i := 91) rfl)))) (mvT hZ17 (hw _ (List.mem_of_getElem? (i := 91) rfl))) (mvT hZ17 (hw _ (List.mem_of_getElem? (i := 90) rfl))) (by decide) (backOf (W := 0) (rm11nb l Z a0 hw [] b19 b8 b4 (((0 : Int64) + (1 : Int64)) + (1 : Int64)) ((0 : Int64) + (1 : Int64)) (0 : Int64) .null T31.heap n0 (Nat.le_trans (Nat.le_trans (Nat.le_trans (Nat.le_trans (Nat.le_trans (Nat.le_trans (Nat.le_trans (Nat.le_trans (Nat.le_trans (Nat.le_trans (Nat.le_trans (Nat.le_trans (Nat.le_trans (Nat.le_trans (Nat.le_trans (Nat.le_trans (Nat.le_trans (Nat.le_trans (Nat.le_trans Z0 E3.1) E4.1) E5.1) K6c.1) (Keep.of_wr W7).1) E8.1) E9.1) K10c.1) (Keep.of_wr W11).1) E12.1) E13.1) K14c.1) (Keep.of_wr W15).1) E16.1) E17.1) K18c.1) E19.1) K22c.1) K31c.1) ge_b19 E31_b19 F31_b19_front F31_b19_bringings ge_b8 E31_b8 F31_b8_nearerFront F31_b8_furtherBack F31_b8_frontedAt ge_b4 E31_b4 F31_b4_nearerFront F31_b4_furtherBack F31_b4_frontedAt (Ne.symm ne_b8_b19) (Ne.symm ne_b4_b19) (Ne.symm ne_b4_b8)) hZ17 (hw _ (List.mem_of_getElem? (i := 92) rfl)) (hw _ (List.mem_of_getElem? (i := 53) rfl)) (by decide) (by decide)) q34a q34c (g := (mkF m 197 #[.val (.int p1), .val (.int p2), .val (.int (2 : Int32)), .val (.int (0 : Int32)), .val (.ref b3), .val (.ref b16), .val (.ref b19), .val (.ref b8), .val (.int (1 : Int32)), .val (.int (2 : Int32)), .val (.ref b4), .val .null, .unset] [(.ref b8), (.ref b19)])) rfl (by rw [hml]; rfl) (Steps.refl _) (argsL := [(.ref b8)]) (rest := []) (lenOf pd_2 rfl) rfl (by show 2 * 0 + _ ≤ _; exact Nat.le_of_eq rfl) (hb hby at_197) (fun _ _ => ⟨rfl, rfl, (by decide : 18 + 0 ≤ _), (by decide : 69 + 0 ≤ _)⟩)
    dsimp only [Pt.U, Pt.locs, Pt.cells, Pt.slots] at X34 l34 y34 z34 st34 hQ34
    subst l34 y34 z34
    obtain ⟨rfl, N34q, K34c, F34_b19_front, F34_b19_bringings, F34_b8_nearerFront, F34_b8_furtherBack, F34_b8_frontedAt, F34_b4_nearerFront, F34_b4_furtherBack, F34_b4_frontedAt⟩ := hQ34
    have N34 := Fr.app N31 N34q
    have V34_b3 := V31_b3.keep K34c (ninS ne_b3_b19 (ninS ne_b3_b8 (ninS ne_b3_b4 nin0)))
    have E34_b4 := E31_b4.keep K34c
    have E34_b8 := E31_b8.keep K34c
    have E34_b12 := E31_b12.keep K34c
    have F34_b12_nearerFront := F31_b12_nearerFront.keep K34c (ninS ne_b12_b19 (ninS (Ne.symm ne_b8_b12) (ninS (Ne.symm ne_b4_b12) nin0)))
    have F34_b12_furtherBack := F31_b12_furtherBack.keep K34c (ninS ne_b12_b19 (ninS (Ne.symm ne_b8_b12) (ninS (Ne.symm ne_b4_b12) nin0)))
    have F34_b12_frontedAt := F31_b12_frontedAt.keep K34c (ninS ne_b12_b19 (ninS (Ne.symm ne_b8_b12) (ninS (Ne.symm ne_b4_b12) nin0)))
    have E34_b16 := E31_b16.keep K34c
    have F34_b16_nearerFront := F31_b16_nearerFront.keep K34c (ninS ne_b16_b19 (ninS (Ne.symm ne_b8_b16) (ninS (Ne.symm ne_b4_b16) nin0)))
    have F34_b16_furtherBack := F31_b16_furtherBack.keep K34c (ninS ne_b16_b19 (ninS (Ne.symm ne_b8_b16) (ninS (Ne.symm ne_b4_b16) nin0)))
    have F34_b16_frontedAt := F31_b16_frontedAt.keep K34c (ninS ne_b16_b19 (ninS (Ne.symm ne_b8_b16) (ninS (Ne.symm ne_b4_b16) nin0)))
    have E34_b19 := E31_b19.keep K34c
    obtain ⟨cq35, kq35, q35a, q35b, q35c⟩ := isOf hZ17 rfl E34_b8
    obtain ⟨_, _, ⟨T35, L35, k35, n35⟩, -, X35, ⟨Lc35, hQ35, l35, y35, z35⟩, st35⟩ := X34.virtualBack hx (y := (⟨"com/example/unhurried_reaper/unhurriedreaper/Task", "nearerFront", "()Lcom/example/unhurried_reaper/unhurriedreaper/Task;"⟩ : MethodName)) (z := (⟨"com/example/unhurried_reaper/unhurriedreaper/Task", "nearerFront", "()Lcom/example/unhurried_reaper/unhurriedreaper/Task;"⟩ : MethodName)) hown17 (mvT hZ17 (hw _ (List.mem_of_getElem? (i := 103) rfl))) (mvT hZ17 (hw _ (List.mem_of_getElem? (i := 66) rfl))) (notFace_of_selects (args := #[]) (mvT hZ17 (hw _ (List.mem_of_getElem? (i := 68) rfl)))) (mvT hZ17 (hw _ (List.mem_of_getElem? (i := 68) rfl))) (mvT hZ17 (hw _ (List.mem_of_getElem? (i := 67) rfl))) (by decide) (backOf (W := 0) (rm8N l Z a0 hw [] b8 T34.heap n0 (Nat.le_trans (Nat.le_trans (Nat.le_trans (Nat.le_trans (Nat.le_trans (Nat.le_trans (Nat.le_trans (Nat.le_trans (Nat.le_trans (Nat.le_trans (Nat.le_trans (Nat.le_trans (Nat.le_trans (Nat.le_trans (Nat.le_trans (Nat.le_trans (Nat.le_trans (Nat.le_trans (Nat.le_trans (Nat.le_trans Z0 E3.1) E4.1) E5.1) K6c.1) (Keep.of_wr W7).1) E8.1) E9.1) K10c.1) (Keep.of_wr W11).1) E12.1) E13.1) K14c.1) (Keep.of_wr W15).1) E16.1) E17.1) K18c.1) E19.1) K22c.1) K31c.1) K34c.1) F34_b8_nearerFront) hZ17 (hw _ (List.mem_of_getElem? (i := 69) rfl)) (hw _ (List.mem_of_getElem? (i := 4) rfl)) (by decide) (by decide)) q35a q35c (g := (mkF m 202 #[.val (.int p1), .val (.int p2), .val (.int (2 : Int32)), .val (.int (0 : Int32)), .val (.ref b3), .val (.ref b16), .val (.ref b19), .val (.ref b8), .val (.int (1 : Int32)), .val (.int (2 : Int32)), .val (.ref b4), .val .null, .unset] [(.ref b8)])) rfl (by rw [hml]; rfl) (Steps.refl _) (argsL := []) (rest := []) (lenOf pd_1 rfl) rfl (by show 2 * 0 + _ ≤ _; exact Nat.le_of_eq rfl) (hb hby at_202) (fun _ _ => ⟨rfl, rfl, (by decide : 18 + 0 ≤ _), (by decide : 69 + 0 ≤ _)⟩)
    dsimp only [Pt.U, Pt.locs, Pt.cells, Pt.slots] at X35 l35 y35 z35 st35 hQ35
    subst l35 y35 z35
    obtain ⟨rfl, N35q, eh35⟩ := hQ35
    have N35 := Fr.app N34 N35q
    obtain ⟨cq36, kq36, q36a, q36b, q36c⟩ := isOf hZ17 eh35 E34_b8
    obtain ⟨_, _, ⟨T36, L36, k36, n36⟩, -, X36, ⟨Lc36, hQ36, l36, y36, z36⟩, st36⟩ := X35.virtualBack hx (y := (⟨"com/example/unhurried_reaper/unhurriedreaper/Task", "furtherBack", "()Lcom/example/unhurried_reaper/unhurriedreaper/Task;"⟩ : MethodName)) (z := (⟨"com/example/unhurried_reaper/unhurriedreaper/Task", "furtherBack", "()Lcom/example/unhurried_reaper/unhurriedreaper/Task;"⟩ : MethodName)) hown17 (mvT hZ17 (hw _ (List.mem_of_getElem? (i := 104) rfl))) (mvT hZ17 (hw _ (List.mem_of_getElem? (i := 94) rfl))) (notFace_of_selects (args := #[]) (mvT hZ17 (hw _ (List.mem_of_getElem? (i := 96) rfl)))) (mvT hZ17 (hw _ (List.mem_of_getElem? (i := 96) rfl))) (mvT hZ17 (hw _ (List.mem_of_getElem? (i := 95) rfl))) (by decide) (backOf (W := 0) (rm12N l Z a0 hw [] b8 T34.heap n0 (Nat.le_trans (Nat.le_trans (Nat.le_trans (Nat.le_trans (Nat.le_trans (Nat.le_trans (Nat.le_trans (Nat.le_trans (Nat.le_trans (Nat.le_trans (Nat.le_trans (Nat.le_trans (Nat.le_trans (Nat.le_trans (Nat.le_trans (Nat.le_trans (Nat.le_trans (Nat.le_trans (Nat.le_trans (Nat.le_trans Z0 E3.1) E4.1) E5.1) K6c.1) (Keep.of_wr W7).1) E8.1) E9.1) K10c.1) (Keep.of_wr W11).1) E12.1) E13.1) K14c.1) (Keep.of_wr W15).1) E16.1) E17.1) K18c.1) E19.1) K22c.1) K31c.1) K34c.1) F34_b8_furtherBack) hZ17 (hw _ (List.mem_of_getElem? (i := 97) rfl)) (hw _ (List.mem_of_getElem? (i := 4) rfl)) (by decide) (by decide)) q36a q36c (g := (mkF m 210 #[.val (.int p1), .val (.int p2), .val (.int (2 : Int32)), .val (.int (0 : Int32)), .val (.ref b3), .val (.ref b16), .val (.ref b19), .val (.ref b8), .val (.int (1 : Int32)), .val (.int (2 : Int32)), .val (.ref b4), .val .null, .unset] [(.ref b8)])) rfl (by rw [hml]; rfl) (Steps.refl _) (argsL := []) (rest := []) (lenOf pd_1 rfl) rfl (by show 2 * 0 + _ ≤ _; exact Nat.le_of_eq rfl) (hb hby at_210) (fun _ _ => ⟨rfl, eh35, (by decide : 18 + 0 ≤ _), (by decide : 69 + 0 ≤ _)⟩)
    dsimp only [Pt.U, Pt.locs, Pt.cells, Pt.slots] at X36 l36 y36 z36 st36 hQ36
    subst l36 y36 z36
    obtain ⟨rfl, N36q, eh36⟩ := hQ36
    have N36 := Fr.app N35 N36q
    obtain ⟨cq37, kq37, q37a, q37b, q37c⟩ := isOf hZ17 eh36 E34_b19
    obtain ⟨_, _, ⟨T37, L37, k37, n37⟩, -, X37, ⟨Lc37, hQ37, l37, y37, z37⟩, st37⟩ := X36.virtualBack hx (y := (⟨"com/example/unhurried_reaper/unhurriedreaper/TaskHistory", "toFront", "(Lcom/example/unhurried_reaper/unhurriedreaper/Task;)V"⟩ : MethodName)) (z := (⟨"com/example/unhurried_reaper/unhurriedreaper/TaskHistory", "toFront", "(Lcom/example/unhurried_reaper/unhurriedreaper/Task;)V"⟩ : MethodName)) hown17 (mvT hZ17 (hw _ (List.mem_of_getElem? (i := 58) rfl))) (mvT hZ17 (hw _ (List.mem_of_getElem? (i := 59) rfl))) (notFace_of_selects (args := #[]) (mvT hZ17 (hw _ (List.mem_of_getElem? (i := 61) rfl)))) (mvT hZ17 (hw _ (List.mem_of_getElem? (i := 61) rfl))) (mvT hZ17 (hw _ (List.mem_of_getElem? (i := 60) rfl))) (by decide) (backOf (W := 0) (rm7b l Z a0 hw [] b19 b16 b4 (((0 : Int64) + (1 : Int64)) + (1 : Int64)) (0 : Int64) (0 : Int64) .null T34.heap n0 (Nat.le_trans (Nat.le_trans (Nat.le_trans (Nat.le_trans (Nat.le_trans (Nat.le_trans (Nat.le_trans (Nat.le_trans (Nat.le_trans (Nat.le_trans (Nat.le_trans (Nat.le_trans (Nat.le_trans (Nat.le_trans (Nat.le_trans (Nat.le_trans (Nat.le_trans (Nat.le_trans (Nat.le_trans (Nat.le_trans Z0 E3.1) E4.1) E5.1) K6c.1) (Keep.of_wr W7).1) E8.1) E9.1) K10c.1) (Keep.of_wr W11).1) E12.1) E13.1) K14c.1) (Keep.of_wr W15).1) E16.1) E17.1) K18c.1) E19.1) K22c.1) K31c.1) K34c.1) ge_b19 E34_b19 F34_b19_front F34_b19_bringings ge_b16 E34_b16 F34_b16_nearerFront F34_b16_furtherBack F34_b16_frontedAt ge_b4 E34_b4 F34_b4_nearerFront F34_b4_furtherBack F34_b4_frontedAt (Ne.symm ne_b16_b19) (Ne.symm ne_b4_b19) (Ne.symm ne_b4_b16)) hZ17 (hw _ (List.mem_of_getElem? (i := 62) rfl)) (hw _ (List.mem_of_getElem? (i := 53) rfl)) (by decide) (by decide)) q37a q37c (g := (mkF m 227 #[.val (.int p1), .val (.int p2), .val (.int (2 : Int32)), .val (.int (0 : Int32)), .val (.ref b3), .val (.ref b16), .val (.ref b19), .val (.ref b8), .val (.int (1 : Int32)), .val (.int (2 : Int32)), .val (.ref b4), .val .null, .val (.int (1 : Int32))] [(.ref b16), (.ref b19)])) rfl (by rw [hml]; rfl) (Steps.refl _) (argsL := [(.ref b16)]) (rest := []) (lenOf pd_2 rfl) rfl (by show 2 * 0 + _ ≤ _; exact Nat.le_of_eq rfl) (hb hby at_227) (fun _ _ => ⟨rfl, eh36, (by decide : 18 + 0 ≤ _), (by decide : 69 + 0 ≤ _)⟩)
    dsimp only [Pt.U, Pt.locs, Pt.cells, Pt.slots] at X37 l37 y37 z37 st37 hQ37
    subst l37 y37 z37
    obtain ⟨rfl, N37q, K37c, F37_b19_front, F37_b19_bringings, F37_b16_nearerFront, F37_b16_furtherBack, F37_b16_frontedAt, F37_b4_nearerFront, F37_b4_furtherBack, F37_b4_frontedAt⟩ := hQ37
    have N37 := Fr.app N36 N37q
    have V37_b3 := V34_b3.keep K37c (ninS ne_b3_b19 (ninS ne_b3_b16 (ninS ne_b3_b4 nin0)))
    have E37_b4 := E34_b4.keep K37c
    have E37_b8 := E34_b8.keep K37c
    have F37_b8_nearerFront := F34_b8_nearerFront.keep K37c (ninS ne_b8_b19 (ninS ne_b8_b16 (ninS (Ne.symm ne_b4_b8) nin0)))
    have F37_b8_furtherBack := F34_b8_furtherBack.keep K37c (ninS ne_b8_b19 (ninS ne_b8_b16 (ninS (Ne.symm ne_b4_b8) nin0)))
    have F37_b8_frontedAt := F34_b8_frontedAt.keep K37c (ninS ne_b8_b19 (ninS ne_b8_b16 (ninS (Ne.symm ne_b4_b8) nin0)))
    have E37_b12 := E34_b12.keep K37c
    have F37_b12_nearerFront := F34_b12_nearerFront.keep K37c (ninS ne_b12_b19 (ninS ne_b12_b16 (ninS (Ne.symm ne_b4_b12) nin0)))
    have F37_b12_furtherBack := F34_b12_furtherBack.keep K37c (ninS ne_b12_b19 (ninS ne_b12_b16 (ninS (Ne.symm ne_b4_b12) nin0)))
    have F37_b12_frontedAt := F34_b12_frontedAt.keep K37c (ninS ne_b12_b19 (ninS ne_b12_b16 (ninS (Ne.symm ne_b4_b12) nin0)))
    have E37_b16 := E34_b16.keep K37c
    have E37_b19 := E34_b19.keep K37c
    obtain ⟨cq38, kq38, q38a, q38b, q38c⟩ := isOf hZ17 rfl E37_b16
    obtain ⟨_, _, ⟨T38, L38, k38, n38⟩, -, X38, ⟨Lc38, hQ38, l38, y38, z38⟩, st38⟩ := X37.virtualBack hx (y := (⟨"com/example/unhurried_reaper/unhurriedreaper/Task", "furtherBack", "()Lcom/example/unhurried_reaper/unhurriedreaper/Task;"⟩ : MethodName)) (z := (⟨"com/example/unhurried_reaper/unhurriedreaper/Task", "furtherBack", "()Lcom/example/unhurried_reaper/unhurriedreaper/Task;"⟩ : MethodName)) hown17 (mvT hZ17 (hw _ (List.mem_of_getElem? (i := 104) rfl))) (mvT hZ17 (hw _ (List.mem_of_getElem? (i := 94) rfl))) (notFace_of_selects (args := #[]) (mvT hZ17 (hw _ (List.mem_of_getElem? (i := 96) rfl)))) (mvT hZ17 (hw _ (List.mem_of_getElem? (i := 96) rfl))) (mvT hZ17 (hw _ (List.mem_of_getElem? (i := 95) rfl))) (by decide) (backOf (W := 0) (rm12R l Z a0 hw [] b16 b4 T37.heap n0 (Nat.le_trans (Nat.le_trans (Nat.le_trans (Nat.le_trans (Nat.le_trans (Nat.le_trans (Nat.le_trans (Nat.le_trans (Nat.le_trans (Nat.le_trans (Nat.le_trans (Nat.le_trans (Nat.le_trans (Nat.le_trans (Nat.le_trans (Nat.le_trans (Nat.le_trans (Nat.le_trans (Nat.le_trans (Nat.le_trans (Nat.le_trans Z0 E3.1) E4.1) E5.1) K6c.1) (Keep.of_wr W7).1) E8.1) E9.1) K10c.1) (Keep.of_wr W11).1) E12.1) E13.1) K14c.1) (Keep.of_wr W15).1) E16.1) E17.1) K18c.1) E19.1) K22c.1) K31c.1) K34c.1) K37c.1) F37_b16_furtherBack) hZ17 (hw _ (List.mem_of_getElem? (i := 97) rfl)) (hw _ (List.mem_of_getElem? (i := 4) rfl)) (by decide) (by decide)) q38a q38c (g := (mkF m 237 #[.val (.int p1), .val (.int p2), .val (.int (2 : Int32)), .val (.int (0 : Int32)), .val (.ref b3), .val (.ref b16), .val (.ref b19), .val (.ref b8), .val (.int (1 : Int32)), .val (.int (2 : Int32)), .val (.ref b4), .val .null, .val (.int (1 : Int32))] [(.ref b16)])) rfl (by rw [hml]; rfl) (Steps.refl _) (argsL := []) (rest := []) (lenOf pd_1 rfl) rfl (by show 2 * 0 + _ ≤ _; exact Nat.le_of_eq rfl) (hb hby at_237) (fun _ _ => ⟨rfl, rfl, (by decide : 18 + 0 ≤ _), (by decide : 69 + 0 ≤ _)⟩)
    dsimp only [Pt.U, Pt.locs, Pt.cells, Pt.slots] at X38 l38 y38 z38 st38 hQ38
    subst l38 y38 z38
    obtain ⟨rfl, N38q, eh38⟩ := hQ38
    have N38 := Fr.app N37 N38q
    obtain ⟨cq39, kq39, q39a, q39b, q39c⟩ := isOf hZ17 eh38 E37_b4
    obtain ⟨_, _, ⟨T39, L39, k39, n39⟩, -, X39, ⟨Lc39, hQ39, l39, y39, z39⟩, st39⟩ := X38.virtualBack hx (y := (⟨"com/example/unhurried_reaper/unhurriedreaper/Task", "nearerFront", "()Lcom/example/unhurried_reaper/unhurriedreaper/Task;"⟩ : MethodName)) (z := (⟨"com/example/unhurried_reaper/unhurriedreaper/Task", "nearerFront", "()Lcom/example/unhurried_reaper/unhurriedreaper/Task;"⟩ : MethodName)) hown17 (mvT hZ17 (hw _ (List.mem_of_getElem? (i := 103) rfl))) (mvT hZ17 (hw _ (List.mem_of_getElem? (i := 66) rfl))) (notFace_of_selects (args := #[]) (mvT hZ17 (hw _ (List.mem_of_getElem? (i := 68) rfl)))) (mvT hZ17 (hw _ (List.mem_of_getElem? (i := 68) rfl))) (mvT hZ17 (hw _ (List.mem_of_getElem? (i := 67) rfl))) (by decide) (backOf (W := 0) (rm8R l Z a0 hw [] b4 b16 T37.heap n0 (Nat.le_trans (Nat.le_trans (Nat.le_trans (Nat.le_trans (Nat.le_trans (Nat.le_trans (Nat.le_trans (Nat.le_trans (Nat.le_trans (Nat.le_trans (Nat.le_trans (Nat.le_trans (Nat.le_trans (Nat.le_trans (Nat.le_trans (Nat.le_trans (Nat.le_trans (Nat.le_trans (Nat.le_trans (Nat.le_trans (Nat.le_trans Z0 E3.1) E4.1) E5.1) K6c.1) (Keep.of_wr W7).1) E8.1) E9.1) K10c.1) (Keep.of_wr W11).1) E12.1) E13.1) K14c.1) (Keep.of_wr W15).1) E16.1) E17.1) K18c.1) E19.1) K22c.1) K31c.1) K34c.1) K37c.1) F37_b4_nearerFront) hZ17 (hw _ (List.mem_of_getElem? (i := 69) rfl)) (hw _ (List.mem_of_getElem? (i := 4) rfl)) (by decide) (by decide)) q39a q39c (g := (mkF m 264 #[.val (.int p1), .val (.int p2), .val (.int (2 : Int32)), .val (.int (0 : Int32)), .val (.ref b3), .val (.ref b16), .val (.ref b19), .val (.ref b8), .val (.int (1 : Int32)), .val (.int (2 : Int32)), .val (.ref b4), .val .null, .val (.int (1 : Int32))] [(.ref b4)])) rfl (by rw [hml]; rfl) (Steps.refl _) (argsL := []) (rest := []) (lenOf pd_1 rfl) rfl (by show 2 * 0 + _ ≤ _; exact Nat.le_of_eq rfl) (hb hby at_264) (fun _ _ => ⟨rfl, eh38, (by decide : 18 + 0 ≤ _), (by decide : 69 + 0 ≤ _)⟩)
    dsimp only [Pt.U, Pt.locs, Pt.cells, Pt.slots] at X39 l39 y39 z39 st39 hQ39
    subst l39 y39 z39
    obtain ⟨rfl, N39q, eh39⟩ := hQ39
    have N39 := Fr.app N38 N39q
    obtain ⟨cq40, kq40, q40a, q40b, q40c⟩ := isOf hZ17 eh39 E37_b4
    obtain ⟨_, _, ⟨T40, L40, k40, n40⟩, -, X40, ⟨Lc40, hQ40, l40, y40, z40⟩, st40⟩ := X39.virtualBack hx (y := (⟨"com/example/unhurried_reaper/unhurriedreaper/Task", "furtherBack", "()Lcom/example/unhurried_reaper/unhurriedreaper/Task;"⟩ : MethodName)) (z := (⟨"com/example/unhurried_reaper/unhurriedreaper/Task", "furtherBack", "()Lcom/example/unhurried_reaper/unhurriedreaper/Task;"⟩ : MethodName)) hown17 (mvT hZ17 (hw _ (List.mem_of_getElem? (i := 104) rfl))) (mvT hZ17 (hw _ (List.mem_of_getElem? (i := 94) rfl))) (notFace_of_selects (args := #[]) (mvT hZ17 (hw _ (List.mem_of_getElem? (i := 96) rfl)))) (mvT hZ17 (hw _ (List.mem_of_getElem? (i := 96) rfl))) (mvT hZ17 (hw _ (List.mem_of_getElem? (i := 95) rfl))) (by decide) (backOf (W := 0) (rm12N l Z a0 hw [] b4 T37.heap n0 (Nat.le_trans (Nat.le_trans (Nat.le_trans (Nat.le_trans (Nat.le_trans (Nat.le_trans (Nat.le_trans (Nat.le_trans (Nat.le_trans (Nat.le_trans (Nat.le_trans (Nat.le_trans (Nat.le_trans (Nat.le_trans (Nat.le_trans (Nat.le_trans (Nat.le_trans (Nat.le_trans (Nat.le_trans (Nat.le_trans (Nat.le_trans Z0 E3.1) E4.1) E5.1) K6c.1) (Keep.of_wr W7).1) E8.1) E9.1) K10c.1) (Keep.of_wr W11).1) E12.1) E13.1) K14c.1) (Keep.of_wr W15).1) E16.1) E17.1) K18c.1) E19.1) K22c.1) K31c.1) K34c.1) K37c.1) F37_b4_furtherBack) hZ17 (hw _ (List.mem_of_getElem? (i := 97) rfl)) (hw _ (List.mem_of_getElem? (i := 4) rfl)) (by decide) (by decide)) q40a q40c (g := (mkF m 274 #[.val (.int p1), .val (.int p2), .val (.int (2 : Int32)), .val (.int (0 : Int32)), .val (.ref b3), .val (.ref b16), .val (.ref b19), .val (.ref b8), .val (.int (1 : Int32)), .val (.int (2 : Int32)), .val (.ref b4), .val .null, .val (.int (1 : Int32))] [(.ref b4)])) rfl (by rw [hml]; rfl) (Steps.refl _) (argsL := []) (rest := []) (lenOf pd_1 rfl) rfl (by show 2 * 0 + _ ≤ _; exact Nat.le_of_eq rfl) (hb hby at_274) (fun _ _ => ⟨rfl, eh39, (by decide : 18 + 0 ≤ _), (by decide : 69 + 0 ≤ _)⟩)
    dsimp only [Pt.U, Pt.locs, Pt.cells, Pt.slots] at X40 l40 y40 z40 st40 hQ40
    subst l40 y40 z40
    obtain ⟨rfl, N40q, eh40⟩ := hQ40
    have N40 := Fr.app N39 N40q
    obtain ⟨fs, hr, hrun, hended, hRW⟩ := X40.leaveW hS17 (by rw [eh40]; exact (Nat.le_trans (Nat.le_trans (Nat.le_trans (Nat.le_trans (Nat.le_trans (Nat.le_trans hk17 K18c.1) E19.1) K22c.1) K31c.1) K34c.1) K37c.1)) (v := some (.int (1 : Int32))) (fun h => by rw [Bd.returns] at h; cases h)
    refine ⟨_, _, go23 _ ?_, hrun, hended, _, _, rfl, ?_, ⟨hRW.1, hRW.2.1, hRW.2.2.1, hRW.2.2.2.mono (by decide) (by decide)⟩⟩
    · show Steps p.tables e below (T22.setTop (mkF m 90 #[.val (.int p1), .val (.int p2), .val (.int (2 : Int32)), .val (.int (0 : Int32)), .val (.ref b3), .val (.ref b16), .val (.ref b19), .unset, .unset, .unset, .unset, .unset, .unset] [])) _
      refine XS.iloadN X22.here hx rfl (hb hby at_90) rfl ?_
      show Steps p.tables e below (T22.setTop (mkF m 91 #[.val (.int p1), .val (.int p2), .val (.int (2 : Int32)), .val (.int (0 : Int32)), .val (.ref b3), .val (.ref b16), .val (.ref b19), .unset, .unset, .unset, .unset, .unset, .unset] [(.int (2 : Int32))])) _
      refine XS.iconst X22.here hx rfl (hb hby at_91) ?_
      show Steps p.tables e below (T22.setTop (mkF m 92 #[.val (.int p1), .val (.int p2), .val (.int (2 : Int32)), .val (.int (0 : Int32)), .val (.ref b3), .val (.ref b16), .val (.ref b19), .unset, .unset, .unset, .unset, .unset, .unset] [(.int (2 : Int32)), (.int (2 : Int32))])) _
      refine XS.icmpNo X22.here hx rfl (hb hby at_92) rfl (flt (by decide)).1 ?_
      show Steps p.tables e below (T22.setTop (mkF m 95 #[.val (.int p1), .val (.int p2), .val (.int (2 : Int32)), .val (.int (0 : Int32)), .val (.ref b3), .val (.ref b16), .val (.ref b19), .unset, .unset, .unset, .unset, .unset, .unset] [])) _
      refine XS.aload X22.here hx rfl (hb hby at_95) rfl rfl ?_
      show Steps p.tables e below (T22.setTop (mkF m 97 #[.val (.int p1), .val (.int p2), .val (.int (2 : Int32)), .val (.int (0 : Int32)), .val (.ref b3), .val (.ref b16), .val (.ref b19), .unset, .unset, .unset, .unset, .unset, .unset] [(.ref b19)])) _
      refine XS.aload X22.here hx rfl (hb hby at_97) rfl rfl ?_
      show Steps p.tables e below (T22.setTop (mkF m 99 #[.val (.int p1), .val (.int p2), .val (.int (2 : Int32)), .val (.int (0 : Int32)), .val (.ref b3), .val (.ref b16), .val (.ref b19), .unset, .unset, .unset, .unset, .unset, .unset] [(.ref b3), (.ref b19)])) _
      refine XS.iconst X22.here hx rfl (hb hby at_99) ?_
      show Steps p.tables e below (T22.setTop (mkF m 100 #[.val (.int p1), .val (.int p2), .val (.int (2 : Int32)), .val (.int (0 : Int32)), .val (.ref b3), .val (.ref b16), .val (.ref b19), .unset, .unset, .unset, .unset, .unset, .unset] [(.int (1 : Int32)), (.ref b3), (.ref b19)])) _
      refine X22.aaload hx (j := (1 : Int32)) (v := (.ref b8)) Ar30.1 (State.isArrayOf_alike hZ17.alike Ar30.2.1) rfl Ar30.2.2 hin30 hat30 (g := (mkF m 100 #[.val (.int p1), .val (.int p2), .val (.int (2 : Int32)), .val (.int (0 : Int32)), .val (.ref b3), .val (.ref b16), .val (.ref b19), .unset, .unset, .unset, .unset, .unset, .unset] [(.int (1 : Int32)), (.ref b3), (.ref b19)])) rfl rfl (hb hby at_100) _ ?_
      show Steps p.tables e below (T22.setTop (mkF m 101 #[.val (.int p1), .val (.int p2), .val (.int (2 : Int32)), .val (.int (0 : Int32)), .val (.ref b3), .val (.ref b16), .val (.ref b19), .unset, .unset, .unset, .unset, .unset, .unset] [(.ref b8), (.ref b19)])) _
      refine st31.trans ?_
      show Steps p.tables e below (T31.setTop (mkF m 104 #[.val (.int p1), .val (.int p2), .val (.int (2 : Int32)), .val (.int (0 : Int32)), .val (.ref b3), .val (.ref b16), .val (.ref b19), .unset, .unset, .unset, .unset, .unset, .unset] [])) _
      refine XS.iloadN X31.here hx rfl (hb hby at_104) rfl ?_
      show Steps p.tables e below (T31.setTop (mkF m 105 #[.val (.int p1), .val (.int p2), .val (.int (2 : Int32)), .val (.int (0 : Int32)), .val (.ref b3), .val (.ref b16), .val (.ref b19), .unset, .unset, .unset, .unset, .unset, .unset] [(.int (2 : Int32))])) _
      refine XS.iconst X31.here hx rfl (hb hby at_105) ?_
      show Steps p.tables e below (T31.setTop (mkF m 106 #[.val (.int p1), .val (.int p2), .val (.int (2 : Int32)), .val (.int (0 : Int32)), .val (.ref b3), .val (.ref b16), .val (.ref b19), .unset, .unset, .unset, .unset, .unset, .unset] [(.int (3 : Int32)), (.int (2 : Int32))])) _
      refine XS.icmpYes X31.here hx rfl (pc0 := 106) (pc' := 118) rfl (hb hby at_106) rfl (tlt (by decide)).1 (by decide) (by decide) ?_
      show Steps p.tables e below (T31.setTop (mkF m 118 #[.val (.int p1), .val (.int p2), .val (.int (2 : Int32)), .val (.int (0 : Int32)), .val (.ref b3), .val (.ref b16), .val (.ref b19), .unset, .unset, .unset, .unset, .unset, .unset] [])) _
      refine XS.aload X31.here hx rfl (hb hby at_118) rfl rfl ?_
      show Steps p.tables e below (T31.setTop (mkF m 120 #[.val (.int p1), .val (.int p2), .val (.int (2 : Int32)), .val (.int (0 : Int32)), .val (.ref b3), .val (.ref b16), .val (.ref b19), .unset, .unset, .unset, .unset, .unset, .unset] [(.ref b3)])) _
      refine XS.iloadN X31.here hx rfl (hb hby at_120) rfl ?_
      show Steps p.tables e below (T31.setTop (mkF m 121 #[.val (.int p1), .val (.int p2), .val (.int (2 : Int32)), .val (.int (0 : Int32)), .val (.ref b3), .val (.ref b16), .val (.ref b19), .unset, .unset, .unset, .unset, .unset, .unset] [(.int (2 : Int32)), (.ref b3)])) _
      refine XS.iconst X31.here hx rfl (hb hby at_121) ?_
      show Steps p.tables e below (T31.setTop (mkF m 122 #[.val (.int p1), .val (.int p2), .val (.int (2 : Int32)), .val (.int (0 : Int32)), .val (.ref b3), .val (.ref b16), .val (.ref b19), .unset, .unset, .unset, .unset, .unset, .unset] [(.int (1 : Int32)), (.int (2 : Int32)), (.ref b3)])) _
      refine XS.isub X31.here hx rfl (hb hby at_122) rfl ?_
      show Steps p.tables e below (T31.setTop (mkF m 123 #[.val (.int p1), .val (.int p2), .val (.int (2 : Int32)), .val (.int (0 : Int32)), .val (.ref b3), .val (.ref b16), .val (.ref b19), .unset, .unset, .unset, .unset, .unset, .unset] [(.int ((2 : Int32) - (1 : Int32))), (.ref b3)])) _
      refine XS.iloadN X31.here hx rfl (hb hby at_123) rfl ?_
      show Steps p.tables e below (T31.setTop (mkF m 124 #[.val (.int p1), .val (.int p2), .val (.int (2 : Int32)), .val (.int (0 : Int32)), .val (.ref b3), .val (.ref b16), .val (.ref b19), .unset, .unset, .unset, .unset, .unset, .unset] [(.int (0 : Int32)), (.int ((2 : Int32) - (1 : Int32))), (.ref b3)])) _
      refine XS.isub X31.here hx rfl (hb hby at_124) rfl ?_
      show Steps p.tables e below (T31.setTop (mkF m 125 #[.val (.int p1), .val (.int p2), .val (.int (2 : Int32)), .val (.int (0 : Int32)), .val (.ref b3), .val (.ref b16), .val (.ref b19), .unset, .unset, .unset, .unset, .unset, .unset] [(.int (((2 : Int32) - (1 : Int32)) - (0 : Int32))), (.ref b3)])) _
      refine X31.aaload hx (j := (((2 : Int32) - (1 : Int32)) - (0 : Int32))) (v := (.ref b8)) Ar32.1 (State.isArrayOf_alike hZ17.alike Ar32.2.1) rfl Ar32.2.2 hin32 hat32 (g := (mkF m 125 #[.val (.int p1), .val (.int p2), .val (.int (2 : Int32)), .val (.int (0 : Int32)), .val (.ref b3), .val (.ref b16), .val (.ref b19), .unset, .unset, .unset, .unset, .unset, .unset] [(.int (((2 : Int32) - (1 : Int32)) - (0 : Int32))), (.ref b3)])) rfl rfl (hb hby at_125) _ ?_
      show Steps p.tables e below (T31.setTop (mkF m 126 #[.val (.int p1), .val (.int p2), .val (.int (2 : Int32)), .val (.int (0 : Int32)), .val (.ref b3), .val (.ref b16), .val (.ref b19), .unset, .unset, .unset, .unset, .unset, .unset] [(.ref b8)])) _
      refine XS.astore X31.here hx rfl (hb hby at_126) rfl rfl (l' := #[.val (.int p1), .val (.int p2), .val (.int (2 : Int32)), .val (.int (0 : Int32)), .val (.ref b3), .val (.ref b16), .val (.ref b19), .val (.ref b8), .unset, .unset, .unset, .unset, .unset]) rfl ?_
      show Steps p.tables e below (T31.setTop (mkF m 128 #[.val (.int p1), .val (.int p2), .val (.int (2 : Int32)), .val (.int (0 : Int32)), .val (.ref b3), .val (.ref b16), .val (.ref b19), .val (.ref b8), .unset, .unset, .unset, .unset, .unset] [])) _
      refine XS.iloadN X31.here hx rfl (hb hby at_128) rfl ?_
      show Steps p.tables e below (T31.setTop (mkF m 129 #[.val (.int p1), .val (.int p2), .val (.int (2 : Int32)), .val (.int (0 : Int32)), .val (.ref b3), .val (.ref b16), .val (.ref b19), .val (.ref b8), .unset, .unset, .unset, .unset, .unset] [(.int (0 : Int32))])) _
      refine XS.ifNo X31.here hx rfl (hb hby at_129) rfl ((if0 _ _).trans (teq (by decide)).2) ?_
      show Steps p.tables e below (T31.setTop (mkF m 132 #[.val (.int p1), .val (.int p2), .val (.int (2 : Int32)), .val (.int (0 : Int32)), .val (.ref b3), .val (.ref b16), .val (.ref b19), .val (.ref b8), .unset, .unset, .unset, .unset, .unset] [])) _
      refine XS.iconst X31.here hx rfl (hb hby at_132) ?_
      show Steps p.tables e below (T31.setTop (mkF m 133 #[.val (.int p1), .val (.int p2), .val (.int (2 : Int32)), .val (.int (0 : Int32)), .val (.ref b3), .val (.ref b16), .val (.ref b19), .val (.ref b8), .unset, .unset, .unset, .unset, .unset] [(.int (1 : Int32))])) _
      refine XS.goto X31.here hx rfl (pc0 := 133) (pc' := 137) rfl (hb hby at_133) (by decide) (by decide) ?_
      show Steps p.tables e below (T31.setTop (mkF m 137 #[.val (.int p1), .val (.int p2), .val (.int (2 : Int32)), .val (.int (0 : Int32)), .val (.ref b3), .val (.ref b16), .val (.ref b19), .val (.ref b8), .unset, .unset, .unset, .unset, .unset] [(.int (1 : Int32))])) _
      refine XS.istore X31.here hx rfl (hb hby at_137) rfl (l' := #[.val (.int p1), .val (.int p2), .val (.int (2 : Int32)), .val (.int (0 : Int32)), .val (.ref b3), .val (.ref b16), .val (.ref b19), .val (.ref b8), .val (.int (1 : Int32)), .unset, .unset, .unset, .unset]) rfl ?_
      show Steps p.tables e below (T31.setTop (mkF m 139 #[.val (.int p1), .val (.int p2), .val (.int (2 : Int32)), .val (.int (0 : Int32)), .val (.ref b3), .val (.ref b16), .val (.ref b19), .val (.ref b8), .val (.int (1 : Int32)), .unset, .unset, .unset, .unset] [])) _
      refine XS.iloadN X31.here hx rfl (hb hby at_139) rfl ?_
      show Steps p.tables e below (T31.setTop (mkF m 140 #[.val (.int p1), .val (.int p2), .val (.int (2 : Int32)), .val (.int (0 : Int32)), .val (.ref b3), .val (.ref b16), .val (.ref b19), .val (.ref b8), .val (.int (1 : Int32)), .unset, .unset, .unset, .unset] [(.int (0 : Int32))])) _
      refine XS.iconst X31.here hx rfl (hb hby at_140) ?_
      show Steps p.tables e below (T31.setTop (mkF m 141 #[.val (.int p1), .val (.int p2), .val (.int (2 : Int32)), .val (.int (0 : Int32)), .val (.ref b3), .val (.ref b16), .val (.ref b19), .val (.ref b8), .val (.int (1 : Int32)), .unset, .unset, .unset, .unset] [(.int (1 : Int32)), (.int (0 : Int32))])) _
      refine XS.icmpNo X31.here hx rfl (hb hby at_141) rfl (flt (by decide)).2.2.1 ?_
      show Steps p.tables e below (T31.setTop (mkF m 144 #[.val (.int p1), .val (.int p2), .val (.int (2 : Int32)), .val (.int (0 : Int32)), .val (.ref b3), .val (.ref b16), .val (.ref b19), .val (.ref b8), .val (.int (1 : Int32)), .unset, .unset, .unset, .unset] [])) _
      refine XS.iconst X31.here hx rfl (hb hby at_144) ?_
      show Steps p.tables e below (T31.setTop (mkF m 145 #[.val (.int p1), .val (.int p2), .val (.int (2 : Int32)), .val (.int (0 : Int32)), .val (.ref b3), .val (.ref b16), .val (.ref b19), .val (.ref b8), .val (.int (1 : Int32)), .unset, .unset, .unset, .unset] [(.int (2 : Int32))])) _
      refine XS.goto X31.here hx rfl (pc0 := 145) (pc' := 149) rfl (hb hby at_145) (by decide) (by decide) ?_
      show Steps p.tables e below (T31.setTop (mkF m 149 #[.val (.int p1), .val (.int p2), .val (.int (2 : Int32)), .val (.int (0 : Int32)), .val (.ref b3), .val (.ref b16), .val (.ref b19), .val (.ref b8), .val (.int (1 : Int32)), .unset, .unset, .unset, .unset] [(.int (2 : Int32))])) _
      refine XS.istore X31.here hx rfl (hb hby at_149) rfl (l' := #[.val (.int p1), .val (.int p2), .val (.int (2 : Int32)), .val (.int (0 : Int32)), .val (.ref b3), .val (.ref b16), .val (.ref b19), .val (.ref b8), .val (.int (1 : Int32)), .val (.int (2 : Int32)), .unset, .unset, .unset]) rfl ?_
      show Steps p.tables e below (T31.setTop (mkF m 151 #[.val (.int p1), .val (.int p2), .val (.int (2 : Int32)), .val (.int (0 : Int32)), .val (.ref b3), .val (.ref b16), .val (.ref b19), .val (.ref b8), .val (.int (1 : Int32)), .val (.int (2 : Int32)), .unset, .unset, .unset] [])) _
      refine XS.iload X31.here hx rfl (hb hby at_151) rfl ?_
      show Steps p.tables e below (T31.setTop (mkF m 153 #[.val (.int p1), .val (.int p2), .val (.int (2 : Int32)), .val (.int (0 : Int32)), .val (.ref b3), .val (.ref b16), .val (.ref b19), .val (.ref b8), .val (.int (1 : Int32)), .val (.int (2 : Int32)), .unset, .unset, .unset] [(.int (1 : Int32))])) _
      refine XS.iloadN X31.here hx rfl (hb hby at_153) rfl ?_
      show Steps p.tables e below (T31.setTop (mkF m 154 #[.val (.int p1), .val (.int p2), .val (.int (2 : Int32)), .val (.int (0 : Int32)), .val (.ref b3), .val (.ref b16), .val (.ref b19), .val (.ref b8), .val (.int (1 : Int32)), .val (.int (2 : Int32)), .unset, .unset, .unset] [(.int (2 : Int32)), (.int (1 : Int32))])) _
      refine XS.icmpNo X31.here hx rfl (hb hby at_154) rfl (tlt (by decide)).2.1 ?_
      show Steps p.tables e below (T31.setTop (mkF m 157 #[.val (.int p1), .val (.int p2), .val (.int (2 : Int32)), .val (.int (0 : Int32)), .val (.ref b3), .val (.ref b16), .val (.ref b19), .val (.ref b8), .val (.int (1 : Int32)), .val (.int (2 : Int32)), .unset, .unset, .unset] [])) _
      refine XS.aload X31.here hx rfl (hb hby at_157) rfl rfl ?_
      show Steps p.tables e below (T31.setTop (mkF m 159 #[.val (.int p1), .val (.int p2), .val (.int (2 : Int32)), .val (.int (0 : Int32)), .val (.ref b3), .val (.ref b16), .val (.ref b19), .val (.ref b8), .val (.int (1 : Int32)), .val (.int (2 : Int32)), .unset, .unset, .unset] [(.ref b3)])) _
      refine XS.iloadN X31.here hx rfl (hb hby at_159) rfl ?_
      show Steps p.tables e below (T31.setTop (mkF m 160 #[.val (.int p1), .val (.int p2), .val (.int (2 : Int32)), .val (.int (0 : Int32)), .val (.ref b3), .val (.ref b16), .val (.ref b19), .val (.ref b8), .val (.int (1 : Int32)), .val (.int (2 : Int32)), .unset, .unset, .unset] [(.int (2 : Int32)), (.ref b3)])) _
      refine XS.iconst X31.here hx rfl (hb hby at_160) ?_
      show Steps p.tables e below (T31.setTop (mkF m 161 #[.val (.int p1), .val (.int p2), .val (.int (2 : Int32)), .val (.int (0 : Int32)), .val (.ref b3), .val (.ref b16), .val (.ref b19), .val (.ref b8), .val (.int (1 : Int32)), .val (.int (2 : Int32)), .unset, .unset, .unset] [(.int (1 : Int32)), (.int (2 : Int32)), (.ref b3)])) _
      refine XS.isub X31.here hx rfl (hb hby at_161) rfl ?_
      show Steps p.tables e below (T31.setTop (mkF m 162 #[.val (.int p1), .val (.int p2), .val (.int (2 : Int32)), .val (.int (0 : Int32)), .val (.ref b3), .val (.ref b16), .val (.ref b19), .val (.ref b8), .val (.int (1 : Int32)), .val (.int (2 : Int32)), .unset, .unset, .unset] [(.int ((2 : Int32) - (1 : Int32))), (.ref b3)])) _
      refine XS.iload X31.here hx rfl (hb hby at_162) rfl ?_
      show Steps p.tables e below (T31.setTop (mkF m 164 #[.val (.int p1), .val (.int p2), .val (.int (2 : Int32)), .val (.int (0 : Int32)), .val (.ref b3), .val (.ref b16), .val (.ref b19), .val (.ref b8), .val (.int (1 : Int32)), .val (.int (2 : Int32)), .unset, .unset, .unset] [(.int (1 : Int32)), (.int ((2 : Int32) - (1 : Int32))), (.ref b3)])) _
      refine XS.isub X31.here hx rfl (hb hby at_164) rfl ?_
      show Steps p.tables e below (T31.setTop (mkF m 165 #[.val (.int p1), .val (.int p2), .val (.int (2 : Int32)), .val (.int (0 : Int32)), .val (.ref b3), .val (.ref b16), .val (.ref b19), .val (.ref b8), .val (.int (1 : Int32)), .val (.int (2 : Int32)), .unset, .unset, .unset] [(.int (((2 : Int32) - (1 : Int32)) - (1 : Int32))), (.ref b3)])) _
      refine X31.aaload hx (j := (((2 : Int32) - (1 : Int32)) - (1 : Int32))) (v := (.ref b4)) Ar33.1 (State.isArrayOf_alike hZ17.alike Ar33.2.1) rfl Ar33.2.2 hin33 hat33 (g := (mkF m 165 #[.val (.int p1), .val (.int p2), .val (.int (2 : Int32)), .val (.int (0 : Int32)), .val (.ref b3), .val (.ref b16), .val (.ref b19), .val (.ref b8), .val (.int (1 : Int32)), .val (.int (2 : Int32)), .unset, .unset, .unset] [(.int (((2 : Int32) - (1 : Int32)) - (1 : Int32))), (.ref b3)])) rfl rfl (hb hby at_165) _ ?_
      show Steps p.tables e below (T31.setTop (mkF m 166 #[.val (.int p1), .val (.int p2), .val (.int (2 : Int32)), .val (.int (0 : Int32)), .val (.ref b3), .val (.ref b16), .val (.ref b19), .val (.ref b8), .val (.int (1 : Int32)), .val (.int (2 : Int32)), .unset, .unset, .unset] [(.ref b4)])) _
      refine XS.goto X31.here hx rfl (pc0 := 166) (pc' := 170) rfl (hb hby at_166) (by decide) (by decide) ?_
      show Steps p.tables e below (T31.setTop (mkF m 170 #[.val (.int p1), .val (.int p2), .val (.int (2 : Int32)), .val (.int (0 : Int32)), .val (.ref b3), .val (.ref b16), .val (.ref b19), .val (.ref b8), .val (.int (1 : Int32)), .val (.int (2 : Int32)), .unset, .unset, .unset] [(.ref b4)])) _
      refine XS.astore X31.here hx rfl (hb hby at_170) rfl rfl (l' := #[.val (.int p1), .val (.int p2), .val (.int (2 : Int32)), .val (.int (0 : Int32)), .val (.ref b3), .val (.ref b16), .val (.ref b19), .val (.ref b8), .val (.int (1 : Int32)), .val (.int (2 : Int32)), .val (.ref b4), .unset, .unset]) rfl ?_
      show Steps p.tables e below (T31.setTop (mkF m 172 #[.val (.int p1), .val (.int p2), .val (.int (2 : Int32)), .val (.int (0 : Int32)), .val (.ref b3), .val (.ref b16), .val (.ref b19), .val (.ref b8), .val (.int (1 : Int32)), .val (.int (2 : Int32)), .val (.ref b4), .unset, .unset] [])) _
      refine XS.iload X31.here hx rfl (hb hby at_172) rfl ?_
      show Steps p.tables e below (T31.setTop (mkF m 174 #[.val (.int p1), .val (.int p2), .val (.int (2 : Int32)), .val (.int (0 : Int32)), .val (.ref b3), .val (.ref b16), .val (.ref b19), .val (.ref b8), .val (.int (1 : Int32)), .val (.int (2 : Int32)), .val (.ref b4), .unset, .unset] [(.int (2 : Int32))])) _
      refine XS.iloadN X31.here hx rfl (hb hby at_174) rfl ?_
      show Steps p.tables e below (T31.setTop (mkF m 175 #[.val (.int p1), .val (.int p2), .val (.int (2 : Int32)), .val (.int (0 : Int32)), .val (.ref b3), .val (.ref b16), .val (.ref b19), .val (.ref b8), .val (.int (1 : Int32)), .val (.int (2 : Int32)), .val (.ref b4), .unset, .unset] [(.int (2 : Int32)), (.int (2 : Int32))])) _
      refine XS.icmpYes X31.here hx rfl (pc0 := 175) (pc' := 190) rfl (hb hby at_175) rfl (flt (by decide)).2.1 (by decide) (by decide) ?_
      show Steps p.tables e below (T31.setTop (mkF m 190 #[.val (.int p1), .val (.int p2), .val (.int (2 : Int32)), .val (.int (0 : Int32)), .val (.ref b3), .val (.ref b16), .val (.ref b19), .val (.ref b8), .val (.int (1 : Int32)), .val (.int (2 : Int32)), .val (.ref b4), .unset, .unset] [])) _
      refine XS.aconstNull X31.here hx rfl (hb hby at_190) ?_
      show Steps p.tables e below (T31.setTop (mkF m 191 #[.val (.int p1), .val (.int p2), .val (.int (2 : Int32)), .val (.int (0 : Int32)), .val (.ref b3), .val (.ref b16), .val (.ref b19), .val (.ref b8), .val (.int (1 : Int32)), .val (.int (2 : Int32)), .val (.ref b4), .unset, .unset] [.null])) _
      refine XS.astore X31.here hx rfl (hb hby at_191) rfl rfl (l' := #[.val (.int p1), .val (.int p2), .val (.int (2 : Int32)), .val (.int (0 : Int32)), .val (.ref b3), .val (.ref b16), .val (.ref b19), .val (.ref b8), .val (.int (1 : Int32)), .val (.int (2 : Int32)), .val (.ref b4), .val .null, .unset]) rfl ?_
      show Steps p.tables e below (T31.setTop (mkF m 193 #[.val (.int p1), .val (.int p2), .val (.int (2 : Int32)), .val (.int (0 : Int32)), .val (.ref b3), .val (.ref b16), .val (.ref b19), .val (.ref b8), .val (.int (1 : Int32)), .val (.int (2 : Int32)), .val (.ref b4), .val .null, .unset] [])) _
      refine XS.aload X31.here hx rfl (hb hby at_193) rfl rfl ?_
      show Steps p.tables e below (T31.setTop (mkF m 195 #[.val (.int p1), .val (.int p2), .val (.int (2 : Int32)), .val (.int (0 : Int32)), .val (.ref b3), .val (.ref b16), .val (.ref b19), .val (.ref b8), .val (.int (1 : Int32)), .val (.int (2 : Int32)), .val (.ref b4), .val .null, .unset] [(.ref b19)])) _
      refine XS.aload X31.here hx rfl (hb hby at_195) rfl rfl ?_
      show Steps p.tables e below (T31.setTop (mkF m 197 #[.val (.int p1), .val (.int p2), .val (.int (2 : Int32)), .val (.int (0 : Int32)), .val (.ref b3), .val (.ref b16), .val (.ref b19), .val (.ref b8), .val (.int (1 : Int32)), .val (.int (2 : Int32)), .val (.ref b4), .val .null, .unset] [(.ref b8), (.ref b19)])) _
      refine st34.trans ?_
      show Steps p.tables e below (T34.setTop (mkF m 200 #[.val (.int p1), .val (.int p2), .val (.int (2 : Int32)), .val (.int (0 : Int32)), .val (.ref b3), .val (.ref b16), .val (.ref b19), .val (.ref b8), .val (.int (1 : Int32)), .val (.int (2 : Int32)), .val (.ref b4), .val .null, .unset] [])) _
      refine XS.aload X34.here hx rfl (hb hby at_200) rfl rfl ?_
      show Steps p.tables e below (T34.setTop (mkF m 202 #[.val (.int p1), .val (.int p2), .val (.int (2 : Int32)), .val (.int (0 : Int32)), .val (.ref b3), .val (.ref b16), .val (.ref b19), .val (.ref b8), .val (.int (1 : Int32)), .val (.int (2 : Int32)), .val (.ref b4), .val .null, .unset] [(.ref b8)])) _
      refine st35.trans ?_
      show Steps p.tables e below (T35.setTop (mkF m 205 #[.val (.int p1), .val (.int p2), .val (.int (2 : Int32)), .val (.int (0 : Int32)), .val (.ref b3), .val (.ref b16), .val (.ref b19), .val (.ref b8), .val (.int (1 : Int32)), .val (.int (2 : Int32)), .val (.ref b4), .val .null, .unset] [.null])) _
      refine XS.ifnonnullNo X35.here hx rfl (hb hby at_205) rfl ?_
      show Steps p.tables e below (T35.setTop (mkF m 208 #[.val (.int p1), .val (.int p2), .val (.int (2 : Int32)), .val (.int (0 : Int32)), .val (.ref b3), .val (.ref b16), .val (.ref b19), .val (.ref b8), .val (.int (1 : Int32)), .val (.int (2 : Int32)), .val (.ref b4), .val .null, .unset] [])) _
      refine XS.aload X35.here hx rfl (hb hby at_208) rfl rfl ?_
      show Steps p.tables e below (T35.setTop (mkF m 210 #[.val (.int p1), .val (.int p2), .val (.int (2 : Int32)), .val (.int (0 : Int32)), .val (.ref b3), .val (.ref b16), .val (.ref b19), .val (.ref b8), .val (.int (1 : Int32)), .val (.int (2 : Int32)), .val (.ref b4), .val .null, .unset] [(.ref b8)])) _
      refine st36.trans ?_
      show Steps p.tables e below (T36.setTop (mkF m 213 #[.val (.int p1), .val (.int p2), .val (.int (2 : Int32)), .val (.int (0 : Int32)), .val (.ref b3), .val (.ref b16), .val (.ref b19), .val (.ref b8), .val (.int (1 : Int32)), .val (.int (2 : Int32)), .val (.ref b4), .val .null, .unset] [.null])) _
      refine XS.ifnonnullNo X36.here hx rfl (hb hby at_213) rfl ?_
      show Steps p.tables e below (T36.setTop (mkF m 216 #[.val (.int p1), .val (.int p2), .val (.int (2 : Int32)), .val (.int (0 : Int32)), .val (.ref b3), .val (.ref b16), .val (.ref b19), .val (.ref b8), .val (.int (1 : Int32)), .val (.int (2 : Int32)), .val (.ref b4), .val .null, .unset] [])) _
      refine XS.iconst X36.here hx rfl (hb hby at_216) ?_
      show Steps p.tables e below (T36.setTop (mkF m 217 #[.val (.int p1), .val (.int p2), .val (.int (2 : Int32)), .val (.int (0 : Int32)), .val (.ref b3), .val (.ref b16), .val (.ref b19), .val (.ref b8), .val (.int (1 : Int32)), .val (.int (2 : Int32)), .val (.ref b4), .val .null, .unset] [(.int (1 : Int32))])) _
      refine XS.goto X36.here hx rfl (pc0 := 217) (pc' := 221) rfl (hb hby at_217) (by decide) (by decide) ?_
      show Steps p.tables e below (T36.setTop (mkF m 221 #[.val (.int p1), .val (.int p2), .val (.int (2 : Int32)), .val (.int (0 : Int32)), .val (.ref b3), .val (.ref b16), .val (.ref b19), .val (.ref b8), .val (.int (1 : Int32)), .val (.int (2 : Int32)), .val (.ref b4), .val .null, .unset] [(.int (1 : Int32))])) _
      refine XS.istore X36.here hx rfl (hb hby at_221) rfl (l' := #[.val (.int p1), .val (.int p2), .val (.int (2 : Int32)), .val (.int (0 : Int32)), .val (.ref b3), .val (.ref b16), .val (.ref b19), .val (.ref b8), .val (.int (1 : Int32)), .val (.int (2 : Int32)), .val (.ref b4), .val .null, .val (.int (1 : Int32))]) rfl ?_
      show Steps p.tables e below (T36.setTop (mkF m 223 #[.val (.int p1), .val (.int p2), .val (.int (2 : Int32)), .val (.int (0 : Int32)), .val (.ref b3), .val (.ref b16), .val (.ref b19), .val (.ref b8), .val (.int (1 : Int32)), .val (.int (2 : Int32)), .val (.ref b4), .val .null, .val (.int (1 : Int32))] [])) _
      refine XS.aload X36.here hx rfl (hb hby at_223) rfl rfl ?_
      show Steps p.tables e below (T36.setTop (mkF m 225 #[.val (.int p1), .val (.int p2), .val (.int (2 : Int32)), .val (.int (0 : Int32)), .val (.ref b3), .val (.ref b16), .val (.ref b19), .val (.ref b8), .val (.int (1 : Int32)), .val (.int (2 : Int32)), .val (.ref b4), .val .null, .val (.int (1 : Int32))] [(.ref b19)])) _
      refine XS.aload X36.here hx rfl (hb hby at_225) rfl rfl ?_
      show Steps p.tables e below (T36.setTop (mkF m 227 #[.val (.int p1), .val (.int p2), .val (.int (2 : Int32)), .val (.int (0 : Int32)), .val (.ref b3), .val (.ref b16), .val (.ref b19), .val (.ref b8), .val (.int (1 : Int32)), .val (.int (2 : Int32)), .val (.ref b4), .val .null, .val (.int (1 : Int32))] [(.ref b16), (.ref b19)])) _
      refine st37.trans ?_
      show Steps p.tables e below (T37.setTop (mkF m 230 #[.val (.int p1), .val (.int p2), .val (.int (2 : Int32)), .val (.int (0 : Int32)), .val (.ref b3), .val (.ref b16), .val (.ref b19), .val (.ref b8), .val (.int (1 : Int32)), .val (.int (2 : Int32)), .val (.ref b4), .val .null, .val (.int (1 : Int32))] [])) _
      refine XS.iload X37.here hx rfl (hb hby at_230) rfl ?_
      show Steps p.tables e below (T37.setTop (mkF m 232 #[.val (.int p1), .val (.int p2), .val (.int (2 : Int32)), .val (.int (0 : Int32)), .val (.ref b3), .val (.ref b16), .val (.ref b19), .val (.ref b8), .val (.int (1 : Int32)), .val (.int (2 : Int32)), .val (.ref b4), .val .null, .val (.int (1 : Int32))] [(.int (1 : Int32))])) _
      refine XS.ifNo X37.here hx rfl (hb hby at_232) rfl ((if0 _ _).trans (feq (by decide)).1) ?_
      show Steps p.tables e below (T37.setTop (mkF m 235 #[.val (.int p1), .val (.int p2), .val (.int (2 : Int32)), .val (.int (0 : Int32)), .val (.ref b3), .val (.ref b16), .val (.ref b19), .val (.ref b8), .val (.int (1 : Int32)), .val (.int (2 : Int32)), .val (.ref b4), .val .null, .val (.int (1 : Int32))] [])) _
      refine XS.aload X37.here hx rfl (hb hby at_235) rfl rfl ?_
      show Steps p.tables e below (T37.setTop (mkF m 237 #[.val (.int p1), .val (.int p2), .val (.int (2 : Int32)), .val (.int (0 : Int32)), .val (.ref b3), .val (.ref b16), .val (.ref b19), .val (.ref b8), .val (.int (1 : Int32)), .val (.int (2 : Int32)), .val (.ref b4), .val .null, .val (.int (1 : Int32))] [(.ref b16)])) _
      refine st38.trans ?_
      show Steps p.tables e below (T38.setTop (mkF m 240 #[.val (.int p1), .val (.int p2), .val (.int (2 : Int32)), .val (.int (0 : Int32)), .val (.ref b3), .val (.ref b16), .val (.ref b19), .val (.ref b8), .val (.int (1 : Int32)), .val (.int (2 : Int32)), .val (.ref b4), .val .null, .val (.int (1 : Int32))] [(.ref b4)])) _
      refine XS.aload X38.here hx rfl (hb hby at_240) rfl rfl ?_
      show Steps p.tables e below (T38.setTop (mkF m 242 #[.val (.int p1), .val (.int p2), .val (.int (2 : Int32)), .val (.int (0 : Int32)), .val (.ref b3), .val (.ref b16), .val (.ref b19), .val (.ref b8), .val (.int (1 : Int32)), .val (.int (2 : Int32)), .val (.ref b4), .val .null, .val (.int (1 : Int32))] [(.ref b4), (.ref b4)])) _
      refine Jvm.RoadKit.acmp (g := (mkF m 242 #[.val (.int p1), .val (.int p2), .val (.int (2 : Int32)), .val (.int (0 : Int32)), .val (.ref b3), .val (.ref b16), .val (.ref b19), .val (.ref b8), .val (.int (1 : Int32)), .val (.int (2 : Int32)), .val (.ref b4), .val .null, .val (.int (1 : Int32))] [(.ref b4), (.ref b4)])) X38 hx rfl rfl rfl (pc0 := 242) (pc' := 245) (same := true) rfl (hb hby at_242) rfl (decide_eq_true rfl) (by decide) (by decide) ?_
      show Steps p.tables e below (T38.setTop (mkF m 245 #[.val (.int p1), .val (.int p2), .val (.int (2 : Int32)), .val (.int (0 : Int32)), .val (.ref b3), .val (.ref b16), .val (.ref b19), .val (.ref b8), .val (.int (1 : Int32)), .val (.int (2 : Int32)), .val (.ref b4), .val .null, .val (.int (1 : Int32))] [])) _
      refine XS.iconst X38.here hx rfl (hb hby at_245) ?_
      show Steps p.tables e below (T38.setTop (mkF m 246 #[.val (.int p1), .val (.int p2), .val (.int (2 : Int32)), .val (.int (0 : Int32)), .val (.ref b3), .val (.ref b16), .val (.ref b19), .val (.ref b8), .val (.int (1 : Int32)), .val (.int (2 : Int32)), .val (.ref b4), .val .null, .val (.int (1 : Int32))] [(.int (1 : Int32))])) _
      refine XS.goto X38.here hx rfl (pc0 := 246) (pc' := 250) rfl (hb hby at_246) (by decide) (by decide) ?_
      show Steps p.tables e below (T38.setTop (mkF m 250 #[.val (.int p1), .val (.int p2), .val (.int (2 : Int32)), .val (.int (0 : Int32)), .val (.ref b3), .val (.ref b16), .val (.ref b19), .val (.ref b8), .val (.int (1 : Int32)), .val (.int (2 : Int32)), .val (.ref b4), .val .null, .val (.int (1 : Int32))] [(.int (1 : Int32))])) _
      refine XS.istore X38.here hx rfl (hb hby at_250) rfl (l' := #[.val (.int p1), .val (.int p2), .val (.int (2 : Int32)), .val (.int (0 : Int32)), .val (.ref b3), .val (.ref b16), .val (.ref b19), .val (.ref b8), .val (.int (1 : Int32)), .val (.int (2 : Int32)), .val (.ref b4), .val .null, .val (.int (1 : Int32))]) rfl ?_
      show Steps p.tables e below (T38.setTop (mkF m 252 #[.val (.int p1), .val (.int p2), .val (.int (2 : Int32)), .val (.int (0 : Int32)), .val (.ref b3), .val (.ref b16), .val (.ref b19), .val (.ref b8), .val (.int (1 : Int32)), .val (.int (2 : Int32)), .val (.ref b4), .val .null, .val (.int (1 : Int32))] [])) _
      refine XS.aload X38.here hx rfl (hb hby at_252) rfl rfl ?_
      show Steps p.tables e below (T38.setTop (mkF m 254 #[.val (.int p1), .val (.int p2), .val (.int (2 : Int32)), .val (.int (0 : Int32)), .val (.ref b3), .val (.ref b16), .val (.ref b19), .val (.ref b8), .val (.int (1 : Int32)), .val (.int (2 : Int32)), .val (.ref b4), .val .null, .val (.int (1 : Int32))] [(.ref b4)])) _
      refine XS.ifnullNo X38.here hx rfl (hb hby at_254) rfl ?_
      show Steps p.tables e below (T38.setTop (mkF m 257 #[.val (.int p1), .val (.int p2), .val (.int (2 : Int32)), .val (.int (0 : Int32)), .val (.ref b3), .val (.ref b16), .val (.ref b19), .val (.ref b8), .val (.int (1 : Int32)), .val (.int (2 : Int32)), .val (.ref b4), .val .null, .val (.int (1 : Int32))] [])) _
      refine XS.iload X38.here hx rfl (hb hby at_257) rfl ?_
      show Steps p.tables e below (T38.setTop (mkF m 259 #[.val (.int p1), .val (.int p2), .val (.int (2 : Int32)), .val (.int (0 : Int32)), .val (.ref b3), .val (.ref b16), .val (.ref b19), .val (.ref b8), .val (.int (1 : Int32)), .val (.int (2 : Int32)), .val (.ref b4), .val .null, .val (.int (1 : Int32))] [(.int (1 : Int32))])) _
      refine XS.ifNo X38.here hx rfl (hb hby at_259) rfl ((if0 _ _).trans (feq (by decide)).1) ?_
      show Steps p.tables e below (T38.setTop (mkF m 262 #[.val (.int p1), .val (.int p2), .val (.int (2 : Int32)), .val (.int (0 : Int32)), .val (.ref b3), .val (.ref b16), .val (.ref b19), .val (.ref b8), .val (.int (1 : Int32)), .val (.int (2 : Int32)), .val (.ref b4), .val .null, .val (.int (1 : Int32))] [])) _
      refine XS.aload X38.here hx rfl (hb hby at_262) rfl rfl ?_
      show Steps p.tables e below (T38.setTop (mkF m 264 #[.val (.int p1), .val (.int p2), .val (.int (2 : Int32)), .val (.int (0 : Int32)), .val (.ref b3), .val (.ref b16), .val (.ref b19), .val (.ref b8), .val (.int (1 : Int32)), .val (.int (2 : Int32)), .val (.ref b4), .val .null, .val (.int (1 : Int32))] [(.ref b4)])) _
      refine st39.trans ?_
      show Steps p.tables e below (T39.setTop (mkF m 267 #[.val (.int p1), .val (.int p2), .val (.int (2 : Int32)), .val (.int (0 : Int32)), .val (.ref b3), .val (.ref b16), .val (.ref b19), .val (.ref b8), .val (.int (1 : Int32)), .val (.int (2 : Int32)), .val (.ref b4), .val .null, .val (.int (1 : Int32))] [(.ref b16)])) _
      refine XS.aload X39.here hx rfl (hb hby at_267) rfl rfl ?_
      show Steps p.tables e below (T39.setTop (mkF m 269 #[.val (.int p1), .val (.int p2), .val (.int (2 : Int32)), .val (.int (0 : Int32)), .val (.ref b3), .val (.ref b16), .val (.ref b19), .val (.ref b8), .val (.int (1 : Int32)), .val (.int (2 : Int32)), .val (.ref b4), .val .null, .val (.int (1 : Int32))] [(.ref b16), (.ref b16)])) _
      refine Jvm.RoadKit.acmp (g := (mkF m 269 #[.val (.int p1), .val (.int p2), .val (.int (2 : Int32)), .val (.int (0 : Int32)), .val (.ref b3), .val (.ref b16), .val (.ref b19), .val (.ref b8), .val (.int (1 : Int32)), .val (.int (2 : Int32)), .val (.ref b4), .val .null, .val (.int (1 : Int32))] [(.ref b16), (.ref b16)])) X39 hx rfl rfl rfl (pc0 := 269) (pc' := 272) (same := true) rfl (hb hby at_269) rfl (decide_eq_true rfl) (by decide) (by decide) ?_
      show Steps p.tables e below (T39.setTop (mkF m 272 #[.val (.int p1), .val (.int p2), .val (.int (2 : Int32)), .val (.int (0 : Int32)), .val (.ref b3), .val (.ref b16), .val (.ref b19), .val (.ref b8), .val (.int (1 : Int32)), .val (.int (2 : Int32)), .val (.ref b4), .val .null, .val (.int (1 : Int32))] [])) _
      refine XS.aload X39.here hx rfl (hb hby at_272) rfl rfl ?_
      show Steps p.tables e below (T39.setTop (mkF m 274 #[.val (.int p1), .val (.int p2), .val (.int (2 : Int32)), .val (.int (0 : Int32)), .val (.ref b3), .val (.ref b16), .val (.ref b19), .val (.ref b8), .val (.int (1 : Int32)), .val (.int (2 : Int32)), .val (.ref b4), .val .null, .val (.int (1 : Int32))] [(.ref b4)])) _
      refine st40.trans ?_
      show Steps p.tables e below (T40.setTop (mkF m 277 #[.val (.int p1), .val (.int p2), .val (.int (2 : Int32)), .val (.int (0 : Int32)), .val (.ref b3), .val (.ref b16), .val (.ref b19), .val (.ref b8), .val (.int (1 : Int32)), .val (.int (2 : Int32)), .val (.ref b4), .val .null, .val (.int (1 : Int32))] [.null])) _
      refine XS.aload X40.here hx rfl (hb hby at_277) rfl rfl ?_
      show Steps p.tables e below (T40.setTop (mkF m 279 #[.val (.int p1), .val (.int p2), .val (.int (2 : Int32)), .val (.int (0 : Int32)), .val (.ref b3), .val (.ref b16), .val (.ref b19), .val (.ref b8), .val (.int (1 : Int32)), .val (.int (2 : Int32)), .val (.ref b4), .val .null, .val (.int (1 : Int32))] [.null, .null])) _
      refine Jvm.RoadKit.acmp (g := (mkF m 279 #[.val (.int p1), .val (.int p2), .val (.int (2 : Int32)), .val (.int (0 : Int32)), .val (.ref b3), .val (.ref b16), .val (.ref b19), .val (.ref b8), .val (.int (1 : Int32)), .val (.int (2 : Int32)), .val (.ref b4), .val .null, .val (.int (1 : Int32))] [.null, .null])) X40 hx rfl rfl rfl (pc0 := 279) (pc' := 282) (same := true) rfl (hb hby at_279) rfl (decide_eq_true rfl) (by decide) (by decide) ?_
      show Steps p.tables e below (T40.setTop (mkF m 282 #[.val (.int p1), .val (.int p2), .val (.int (2 : Int32)), .val (.int (0 : Int32)), .val (.ref b3), .val (.ref b16), .val (.ref b19), .val (.ref b8), .val (.int (1 : Int32)), .val (.int (2 : Int32)), .val (.ref b4), .val .null, .val (.int (1 : Int32))] [])) _
      refine XS.iconst X40.here hx rfl (hb hby at_282) ?_
      show Steps p.tables e below (T40.setTop (mkF m 283 #[.val (.int p1), .val (.int p2), .val (.int (2 : Int32)), .val (.int (0 : Int32)), .val (.ref b3), .val (.ref b16), .val (.ref b19), .val (.ref b8), .val (.int (1 : Int32)), .val (.int (2 : Int32)), .val (.ref b4), .val .null, .val (.int (1 : Int32))] [(.int (1 : Int32))])) _
      refine XS.goto X40.here hx rfl (pc0 := 283) (pc' := 287) rfl (hb hby at_283) (by decide) (by decide) ?_
      show Steps p.tables e below (T40.setTop (mkF m 287 #[.val (.int p1), .val (.int p2), .val (.int (2 : Int32)), .val (.int (0 : Int32)), .val (.ref b3), .val (.ref b16), .val (.ref b19), .val (.ref b8), .val (.int (1 : Int32)), .val (.int (2 : Int32)), .val (.ref b4), .val .null, .val (.int (1 : Int32))] [(.int (1 : Int32))])) _
      refine XS.istore X40.here hx rfl (hb hby at_287) rfl (l' := #[.val (.int p1), .val (.int p2), .val (.int (2 : Int32)), .val (.int (0 : Int32)), .val (.ref b3), .val (.ref b16), .val (.ref b19), .val (.ref b8), .val (.int (1 : Int32)), .val (.int (2 : Int32)), .val (.ref b4), .val .null, .val (.int (1 : Int32))]) rfl ?_
      show Steps p.tables e below (T40.setTop (mkF m 289 #[.val (.int p1), .val (.int p2), .val (.int (2 : Int32)), .val (.int (0 : Int32)), .val (.ref b3), .val (.ref b16), .val (.ref b19), .val (.ref b8), .val (.int (1 : Int32)), .val (.int (2 : Int32)), .val (.ref b4), .val .null, .val (.int (1 : Int32))] [])) _
      refine XS.aload X40.here hx rfl (hb hby at_289) rfl rfl ?_
      show Steps p.tables e below (T40.setTop (mkF m 291 #[.val (.int p1), .val (.int p2), .val (.int (2 : Int32)), .val (.int (0 : Int32)), .val (.ref b3), .val (.ref b16), .val (.ref b19), .val (.ref b8), .val (.int (1 : Int32)), .val (.int (2 : Int32)), .val (.ref b4), .val .null, .val (.int (1 : Int32))] [.null])) _
      refine XS.ifnullYes X40.here hx rfl (pc0 := 291) (pc' := 324) rfl (hb hby at_291) rfl (by decide) (by decide) ?_
      show Steps p.tables e below (T40.setTop (mkF m 324 #[.val (.int p1), .val (.int p2), .val (.int (2 : Int32)), .val (.int (0 : Int32)), .val (.ref b3), .val (.ref b16), .val (.ref b19), .val (.ref b8), .val (.int (1 : Int32)), .val (.int (2 : Int32)), .val (.ref b4), .val .null, .val (.int (1 : Int32))] [])) _
      refine XS.iload X40.here hx rfl (hb hby at_324) rfl ?_
      show Steps p.tables e below (T40.setTop (mkF m 326 #[.val (.int p1), .val (.int p2), .val (.int (2 : Int32)), .val (.int (0 : Int32)), .val (.ref b3), .val (.ref b16), .val (.ref b19), .val (.ref b8), .val (.int (1 : Int32)), .val (.int (2 : Int32)), .val (.ref b4), .val .null, .val (.int (1 : Int32))] [(.int (1 : Int32))])) _
      exact retN X40 hx (t := .boolean) Bd.returns (by simp) (hb hby at_326) hr
    · show Q0 Z p1 h0 n0 _ T40.heap _
      rw [eh40]
      exact ⟨rfl, N40⟩
  · rw [e1, e2] at go23
    obtain ⟨cl41, Ar41, q41, S41, M41, Hh41, G41⟩ := id V22_b3
    have hin41 : ¬ ((1 : Int32) < 0 ∨ cl41.slots.size ≤ ((1 : Int32)).toNatClampNeg) := inb_of S41 ⟨by decide, by decide⟩
    have hat41 : cl41.slots[((1 : Int32)).toNatClampNeg]? = some (.ref b8) := Has.at Hh41 hin41 rfl
    obtain ⟨cq42, kq42, q42a, q42b, q42c⟩ := isOf hZ17 rfl E22_b19
    obtain ⟨_, _, ⟨T42, L42, k42, n42⟩, -, X42, ⟨Lc42, hQ42, l42, y42, z42⟩, st42⟩ := X22.virtualBack hx (y := (⟨"com/example/unhurried_reaper/unhurriedreaper/TaskHistory", "toFront", "(Lcom/example/unhurried_reaper/unhurriedreaper/Task;)V"⟩ : MethodName)) (z := (⟨"com/example/unhurried_reaper/unhurriedreaper/TaskHistory", "toFront", "(Lcom/example/unhurried_reaper/unhurriedreaper/Task;)V"⟩ : MethodName)) hown17 (mvT hZ17 (hw _ (List.mem_of_getElem? (i := 58) rfl))) (mvT hZ17 (hw _ (List.mem_of_getElem? (i := 59) rfl))) (notFace_of_selects (args := #[]) (mvT hZ17 (hw _ (List.mem_of_getElem? (i := 61) rfl)))) (mvT hZ17 (hw _ (List.mem_of_getElem? (i := 61) rfl))) (mvT hZ17 (hw _ (List.mem_of_getElem? (i := 60) rfl))) (by decide) (backOf (W := 0) (rm7b l Z a0 hw [] b19 b8 b4 ((0 : Int64) + (1 : Int64)) (0 : Int64) (0 : Int64) .null T22.heap n0 (Nat.le_trans (Nat.le_trans (Nat.le_trans (Nat.le_trans (Nat.le_trans (Nat.le_trans (Nat.le_trans (Nat.le_trans (Nat.le_trans (Nat.le_trans (Nat.le_trans (Nat.le_trans (Nat.le_trans (Nat.le_trans (Nat.le_trans (Nat.le_trans (Nat.le_trans (Nat.le_trans Z0 E3.1) E4.1) E5.1) K6c.1) (Keep.of_wr W7).1) E8.1) E9.1) K10c.1) (Keep.of_wr W11).1) E12.1) E13.1) K14c.1) (Keep.of_wr W15).1) E16.1) E17.1) K18c.1) E19.1) K22c.1) ge_b19 E22_b19 F22_b19_front F22_b19_bringings ge_b8 E22_b8 F22_b8_nearerFront F22_b8_furtherBack F22_b8_frontedAt ge_b4 E22_b4 F22_b4_nearerFront F22_b4_furtherBack F22_b4_frontedAt (Ne.symm ne_b8_b19) (Ne.symm ne_b4_b19) (Ne.symm ne_b4_b8)) hZ17 (hw _ (List.mem_of_getElem? (i := 62) rfl)) (hw _ (List.mem_of_getElem? (i := 53) rfl)) (by decide) (by decide)) q42a q42c (g := (mkF m 101 #[.val (.int p1), .val (.int p2), .val (.int (2 : Int32)), .val (.int (1 : Int32)), .val (.ref b3), .val (.ref b16), .val (.ref b19), .unset, .unset, .unset, .unset, .unset, .unset] [(.ref b8), (.ref b19)])) rfl (by rw [hml]; rfl) (Steps.refl _) (argsL := [(.ref b8)]) (rest := []) (lenOf pd_2 rfl) rfl (by show 2 * 0 + _ ≤ _; exact Nat.le_of_eq rfl) (hb hby at_101) (fun _ _ => ⟨rfl, rfl, (by decide : 18 + 0 ≤ _), (by decide : 69 + 0 ≤ _)⟩)
    dsimp only [Pt.U, Pt.locs, Pt.cells, Pt.slots] at X42 l42 y42 z42 st42 hQ42
    subst l42 y42 z42
    obtain ⟨rfl, N42q, K42c, F42_b19_front, F42_b19_bringings, F42_b8_nearerFront, F42_b8_furtherBack, F42_b8_frontedAt, F42_b4_nearerFront, F42_b4_furtherBack, F42_b4_frontedAt⟩ := hQ42
    have N42 := Fr.app N22 N42q
    have V42_b3 := V22_b3.keep K42c (ninS ne_b3_b19 (ninS ne_b3_b8 (ninS ne_b3_b4 nin0)))
    have E42_b4 := E22_b4.keep K42c
    have E42_b8 := E22_b8.keep K42c
    have E42_b12 := E22_b12.keep K42c
    have F42_b12_nearerFront := F22_b12_nearerFront.keep K42c (ninS ne_b12_b19 (ninS (Ne.symm ne_b8_b12) (ninS (Ne.symm ne_b4_b12) nin0)))
    have F42_b12_furtherBack := F22_b12_furtherBack.keep K42c (ninS ne_b12_b19 (ninS (Ne.symm ne_b8_b12) (ninS (Ne.symm ne_b4_b12) nin0)))
    have F42_b12_frontedAt := F22_b12_frontedAt.keep K42c (ninS ne_b12_b19 (ninS (Ne.symm ne_b8_b12) (ninS (Ne.symm ne_b4_b12) nin0)))
    have E42_b16 := E22_b16.keep K42c
    have F42_b16_nearerFront := F22_b16_nearerFront.keep K42c (ninS ne_b16_b19 (ninS (Ne.symm ne_b8_b16) (ninS (Ne.symm ne_b4_b16) nin0)))
    have F42_b16_furtherBack := F22_b16_furtherBack.keep K42c (ninS ne_b16_b19 (ninS (Ne.symm ne_b8_b16) (ninS (Ne.symm ne_b4_b16) nin0)))
    have F42_b16_frontedAt := F22_b16_frontedAt.keep K42c (ninS ne_b16_b19 (ninS (Ne.symm ne_b8_b16) (ninS (Ne.symm ne_b4_b16) nin0)))
    have E42_b19 := E22_b19.keep K42c
    obtain ⟨cl43, Ar43, q43, S43, M43, Hh43, G43⟩ := id V42_b3
    have hin43 : ¬ ((((2 : Int32) - (1 : Int32)) - (1 : Int32)) < 0 ∨ cl43.slots.size ≤ ((((2 : Int32) - (1 : Int32)) - (1 : Int32))).toNatClampNeg) := inb_of S43 ⟨by decide, by decide⟩
    have hat43 : cl43.slots[((((2 : Int32) - (1 : Int32)) - (1 : Int32))).toNatClampNeg]? = some (.ref b4) := Has.at Hh43 hin43 rfl
    obtain ⟨cl44, Ar44, q44, S44, M44, Hh44, G44⟩ := id V42_b3
    have hin44 : ¬ ((((2 : Int32) - (1 : Int32)) - (0 : Int32)) < 0 ∨ cl44.slots.size ≤ ((((2 : Int32) - (1 : Int32)) - (0 : Int32))).toNatClampNeg) := inb_of S44 ⟨by decide, by decide⟩
    have hat44 : cl44.slots[((((2 : Int32) - (1 : Int32)) - (0 : Int32))).toNatClampNeg]? = some (.ref b8) := Has.at Hh44 hin44 rfl
    obtain ⟨cq45, kq45, q45a, q45b, q45c⟩ := isOf hZ17 rfl E42_b19
    obtain ⟨_, _, ⟨T45, L45, k45, n45⟩, -, X45, ⟨Lc45, hQ45, l45, y45, z45⟩, st45⟩ := X42.virtualBack hx (y := (⟨"com/example/unhurried_reaper/unhurriedreaper/TaskHistory", "remove", "(Lcom/example/unhurried_reaper/unhurriedreaper/Task;)V"⟩ : MethodName)) (z := (⟨"com/example/unhurried_reaper/unhurriedreaper/TaskHistory", "remove", "(Lcom/example/unhurried_reaper/unhurriedreaper/Task;)V"⟩ : MethodName)) hown17 (mvT hZ17 (hw _ (List.mem_of_getElem? (i := 88) rfl))) (mvT hZ17 (hw _ (List.mem_of_getElem? (i := 89) rfl))) (notFace_of_selects (args := #[]) (mvT hZ17 (hw _ (List.mem_of_getElem? (i := 91) rfl)))) (mvT hZ17 (hw _ (List.mem_of_getElem? (i := 91) rfl))) (mvT hZ17 (hw _ (List.mem_of_getElem? (i := 90) rfl))) (by decide) (backOf (W := 0) (rm11an l Z a0 hw [] b19 b4 b8 (0 : Int64) ((0 : Int64) + (1 : Int64)) .null T42.heap n0 (Nat.le_trans (Nat.le_trans (Nat.le_trans (Nat.le_trans (Nat.le_trans (Nat.le_trans (Nat.le_trans (Nat.le_trans (Nat.le_trans (Nat.le_trans (Nat.le_trans (Nat.le_trans (Nat.le_trans (Nat.le_trans (Nat.le_trans (Nat.le_trans (Nat.le_trans (Nat.le_trans (Nat.le_trans Z0 E3.1) E4.1) E5.1) K6c.1) (Keep.of_wr W7).1) E8.1) E9.1) K10c.1) (Keep.of_wr W11).1) E12.1) E13.1) K14c.1) (Keep.of_wr W15).1) E16.1) E17.1) K18c.1) E19.1) K22c.1) K42c.1) ge_b19 E42_b19 ge_b4 E42_b4 F42_b4_nearerFront F42_b4_furtherBack F42_b4_frontedAt ge_b8 E42_b8 F42_b8_nearerFront F42_b8_furtherBack F42_b8_frontedAt (Ne.symm ne_b4_b19) (Ne.symm ne_b8_b19) ne_b4_b8) hZ17 (hw _ (List.mem_of_getElem? (i := 92) rfl)) (hw _ (List.mem_of_getElem? (i := 53) rfl)) (by decide) (by decide)) q45a q45c (g := (mkF m 197 #[.val (.int p1), .val (.int p2), .val (.int (2 : Int32)), .val (.int (1 : Int32)), .val (.ref b3), .val (.ref b16), .val (.ref b19), .val (.ref b4), .val (.int (0 : Int32)), .val (.int (2 : Int32)), .val (.ref b8), .val .null, .unset] [(.ref b4), (.ref b19)])) rfl (by rw [hml]; rfl) (Steps.refl _) (argsL := [(.ref b4)]) (rest := []) (lenOf pd_2 rfl) rfl (by show 2 * 0 + _ ≤ _; exact Nat.le_of_eq rfl) (hb hby at_197) (fun _ _ => ⟨rfl, rfl, (by decide : 18 + 0 ≤ _), (by decide : 69 + 0 ≤ _)⟩)
    dsimp only [Pt.U, Pt.locs, Pt.cells, Pt.slots] at X45 l45 y45 z45 st45 hQ45
    subst l45 y45 z45
    obtain ⟨rfl, N45q, K45c, F45_b4_nearerFront, F45_b4_furtherBack, F45_b4_frontedAt, F45_b8_nearerFront, F45_b8_furtherBack, F45_b8_frontedAt⟩ := hQ45
    have N45 := Fr.app N42 N45q
    have V45_b3 := V42_b3.keep K45c (ninS ne_b3_b4 (ninS ne_b3_b8 nin0))
    have E45_b4 := E42_b4.keep K45c
    have E45_b8 := E42_b8.keep K45c
    have E45_b12 := E42_b12.keep K45c
    have F45_b12_nearerFront := F42_b12_nearerFront.keep K45c (ninS (Ne.symm ne_b4_b12) (ninS (Ne.symm ne_b8_b12) nin0))
    have F45_b12_furtherBack := F42_b12_furtherBack.keep K45c (ninS (Ne.symm ne_b4_b12) (ninS (Ne.symm ne_b8_b12) nin0))
    have F45_b12_frontedAt := F42_b12_frontedAt.keep K45c (ninS (Ne.symm ne_b4_b12) (ninS (Ne.symm ne_b8_b12) nin0))
    have E45_b16 := E42_b16.keep K45c
    have F45_b16_nearerFront := F42_b16_nearerFront.keep K45c (ninS (Ne.symm ne_b4_b16) (ninS (Ne.symm ne_b8_b16) nin0))
    have F45_b16_furtherBack := F42_b16_furtherBack.keep K45c (ninS (Ne.symm ne_b4_b16) (ninS (Ne.symm ne_b8_b16) nin0))
    have F45_b16_frontedAt := F42_b16_frontedAt.keep K45c (ninS (Ne.symm ne_b4_b16) (ninS (Ne.symm ne_b8_b16) nin0))
    have E45_b19 := E42_b19.keep K45c
    have F45_b19_front := F42_b19_front.keep K45c (ninS (Ne.symm ne_b4_b19) (ninS (Ne.symm ne_b8_b19) nin0))
    have F45_b19_bringings := F42_b19_bringings.keep K45c (ninS (Ne.symm ne_b4_b19) (ninS (Ne.symm ne_b8_b19) nin0))
    obtain ⟨cq46, kq46, q46a, q46b, q46c⟩ := isOf hZ17 rfl E45_b4
    obtain ⟨_, _, ⟨T46, L46, k46, n46⟩, -, X46, ⟨Lc46, hQ46, l46, y46, z46⟩, st46⟩ := X45.virtualBack hx (y := (⟨"com/example/unhurried_reaper/unhurriedreaper/Task", "nearerFront", "()Lcom/example/unhurried_reaper/unhurriedreaper/Task;"⟩ : MethodName)) (z := (⟨"com/example/unhurried_reaper/unhurriedreaper/Task", "nearerFront", "()Lcom/example/unhurried_reaper/unhurriedreaper/Task;"⟩ : MethodName)) hown17 (mvT hZ17 (hw _ (List.mem_of_getElem? (i := 103) rfl))) (mvT hZ17 (hw _ (List.mem_of_getElem? (i := 66) rfl))) (notFace_of_selects (args := #[]) (mvT hZ17 (hw _ (List.mem_of_getElem? (i := 68) rfl)))) (mvT hZ17 (hw _ (List.mem_of_getElem? (i := 68) rfl))) (mvT hZ17 (hw _ (List.mem_of_getElem? (i := 67) rfl))) (by decide) (backOf (W := 0) (rm8N l Z a0 hw [] b4 T45.heap n0 (Nat.le_trans (Nat.le_trans (Nat.le_trans (Nat.le_trans (Nat.le_trans (Nat.le_trans (Nat.le_trans (Nat.le_trans (Nat.le_trans (Nat.le_trans (Nat.le_trans (Nat.le_trans (Nat.le_trans (Nat.le_trans (Nat.le_trans (Nat.le_trans (Nat.le_trans (Nat.le_trans (Nat.le_trans (Nat.le_trans Z0 E3.1) E4.1) E5.1) K6c.1) (Keep.of_wr W7).1) E8.1) E9.1) K10c.1) (Keep.of_wr W11).1) E12.1) E13.1) K14c.1) (Keep.of_wr W15).1) E16.1) E17.1) K18c.1) E19.1) K22c.1) K42c.1) K45c.1) F45_b4_nearerFront) hZ17 (hw _ (List.mem_of_getElem? (i := 69) rfl)) (hw _ (List.mem_of_getElem? (i := 4) rfl)) (by decide) (by decide)) q46a q46c (g := (mkF m 202 #[.val (.int p1), .val (.int p2), .val (.int (2 : Int32)), .val (.int (1 : Int32)), .val (.ref b3), .val (.ref b16), .val (.ref b19), .val (.ref b4), .val (.int (0 : Int32)), .val (.int (2 : Int32)), .val (.ref b8), .val .null, .unset] [(.ref b4)])) rfl (by rw [hml]; rfl) (Steps.refl _) (argsL := []) (rest := []) (lenOf pd_1 rfl) rfl (by show 2 * 0 + _ ≤ _; exact Nat.le_of_eq rfl) (hb hby at_202) (fun _ _ => ⟨rfl, rfl, (by decide : 18 + 0 ≤ _), (by decide : 69 + 0 ≤ _)⟩)
    dsimp only [Pt.U, Pt.locs, Pt.cells, Pt.slots] at X46 l46 y46 z46 st46 hQ46
    subst l46 y46 z46
    obtain ⟨rfl, N46q, eh46⟩ := hQ46
    have N46 := Fr.app N45 N46q
    obtain ⟨cq47, kq47, q47a, q47b, q47c⟩ := isOf hZ17 eh46 E45_b4
    obtain ⟨_, _, ⟨T47, L47, k47, n47⟩, -, X47, ⟨Lc47, hQ47, l47, y47, z47⟩, st47⟩ := X46.virtualBack hx (y := (⟨"com/example/unhurried_reaper/unhurriedreaper/Task", "furtherBack", "()Lcom/example/unhurried_reaper/unhurriedreaper/Task;"⟩ : MethodName)) (z := (⟨"com/example/unhurried_reaper/unhurriedreaper/Task", "furtherBack", "()Lcom/example/unhurried_reaper/unhurriedreaper/Task;"⟩ : MethodName)) hown17 (mvT hZ17 (hw _ (List.mem_of_getElem? (i := 104) rfl))) (mvT hZ17 (hw _ (List.mem_of_getElem? (i := 94) rfl))) (notFace_of_selects (args := #[]) (mvT hZ17 (hw _ (List.mem_of_getElem? (i := 96) rfl)))) (mvT hZ17 (hw _ (List.mem_of_getElem? (i := 96) rfl))) (mvT hZ17 (hw _ (List.mem_of_getElem? (i := 95) rfl))) (by decide) (backOf (W := 0) (rm12N l Z a0 hw [] b4 T45.heap n0 (Nat.le_trans (Nat.le_trans (Nat.le_trans (Nat.le_trans (Nat.le_trans (Nat.le_trans (Nat.le_trans (Nat.le_trans (Nat.le_trans (Nat.le_trans (Nat.le_trans (Nat.le_trans (Nat.le_trans (Nat.le_trans (Nat.le_trans (Nat.le_trans (Nat.le_trans (Nat.le_trans (Nat.le_trans (Nat.le_trans Z0 E3.1) E4.1) E5.1) K6c.1) (Keep.of_wr W7).1) E8.1) E9.1) K10c.1) (Keep.of_wr W11).1) E12.1) E13.1) K14c.1) (Keep.of_wr W15).1) E16.1) E17.1) K18c.1) E19.1) K22c.1) K42c.1) K45c.1) F45_b4_furtherBack) hZ17 (hw _ (List.mem_of_getElem? (i := 97) rfl)) (hw _ (List.mem_of_getElem? (i := 4) rfl)) (by decide) (by decide)) q47a q47c (g := (mkF m 210 #[.val (.int p1), .val (.int p2), .val (.int (2 : Int32)), .val (.int (1 : Int32)), .val (.ref b3), .val (.ref b16), .val (.ref b19), .val (.ref b4), .val (.int (0 : Int32)), .val (.int (2 : Int32)), .val (.ref b8), .val .null, .unset] [(.ref b4)])) rfl (by rw [hml]; rfl) (Steps.refl _) (argsL := []) (rest := []) (lenOf pd_1 rfl) rfl (by show 2 * 0 + _ ≤ _; exact Nat.le_of_eq rfl) (hb hby at_210) (fun _ _ => ⟨rfl, eh46, (by decide : 18 + 0 ≤ _), (by decide : 69 + 0 ≤ _)⟩)
    dsimp only [Pt.U, Pt.locs, Pt.cells, Pt.slots] at X47 l47 y47 z47 st47 hQ47
    subst l47 y47 z47
    obtain ⟨rfl, N47q, eh47⟩ := hQ47
    have N47 := Fr.app N46 N47q
    obtain ⟨cq48, kq48, q48a, q48b, q48c⟩ := isOf hZ17 eh47 E45_b19
    obtain ⟨_, _, ⟨T48, L48, k48, n48⟩, -, X48, ⟨Lc48, hQ48, l48, y48, z48⟩, st48⟩ := X47.virtualBack hx (y := (⟨"com/example/unhurried_reaper/unhurriedreaper/TaskHistory", "toFront", "(Lcom/example/unhurried_reaper/unhurriedreaper/Task;)V"⟩ : MethodName)) (z := (⟨"com/example/unhurried_reaper/unhurriedreaper/TaskHistory", "toFront", "(Lcom/example/unhurried_reaper/unhurriedreaper/Task;)V"⟩ : MethodName)) hown17 (mvT hZ17 (hw _ (List.mem_of_getElem? (i := 58) rfl))) (mvT hZ17 (hw _ (List.mem_of_getElem? (i := 59) rfl))) (notFace_of_selects (args := #[]) (mvT hZ17 (hw _ (List.mem_of_getElem? (i := 61) rfl)))) (mvT hZ17 (hw _ (List.mem_of_getElem? (i := 61) rfl))) (mvT hZ17 (hw _ (List.mem_of_getElem? (i := 60) rfl))) (by decide) (backOf (W := 0) (rm7b l Z a0 hw [] b19 b16 b8 (((0 : Int64) + (1 : Int64)) + (1 : Int64)) (0 : Int64) ((0 : Int64) + (1 : Int64)) .null T45.heap n0 (Nat.le_trans (Nat.le_trans (Nat.le_trans (Nat.le_trans (Nat.le_trans (Nat.le_trans (Nat.le_trans (Nat.le_trans (Nat.le_trans (Nat.le_trans (Nat.le_trans (Nat.le_trans (Nat.le_trans (Nat.le_trans (Nat.le_trans (Nat.le_trans (Nat.le_trans (Nat.le_trans (Nat.le_trans (Nat.le_trans Z0 E3.1) E4.1) E5.1) K6c.1) (Keep.of_wr W7).1) E8.1) E9.1) K10c.1) (Keep.of_wr W11).1) E12.1) E13.1) K14c.1) (Keep.of_wr W15).1) E16.1) E17.1) K18c.1) E19.1) K22c.1) K42c.1) K45c.1) ge_b19 E45_b19 F45_b19_front F45_b19_bringings ge_b16 E45_b16 F45_b16_nearerFront F45_b16_furtherBack F45_b16_frontedAt ge_b8 E45_b8 F45_b8_nearerFront F45_b8_furtherBack F45_b8_frontedAt (Ne.symm ne_b16_b19) (Ne.symm ne_b8_b19) (Ne.symm ne_b8_b16)) hZ17 (hw _ (List.mem_of_getElem? (i := 62) rfl)) (hw _ (List.mem_of_getElem? (i := 53) rfl)) (by decide) (by decide)) q48a q48c (g := (mkF m 227 #[.val (.int p1), .val (.int p2), .val (.int (2 : Int32)), .val (.int (1 : Int32)), .val (.ref b3), .val (.ref b16), .val (.ref b19), .val (.ref b4), .val (.int (0 : Int32)), .val (.int (2 : Int32)), .val (.ref b8), .val .null, .val (.int (1 : Int32))] [(.ref b16), (.ref b19)])) rfl (by rw [hml]; rfl) (Steps.refl _) (argsL := [(.ref b16)]) (rest := []) (lenOf pd_2 rfl) rfl (by show 2 * 0 + _ ≤ _; exact Nat.le_of_eq rfl) (hb hby at_227) (fun _ _ => ⟨rfl, eh47, (by decide : 18 + 0 ≤ _), (by decide : 69 + 0 ≤ _)⟩)
    dsimp only [Pt.U, Pt.locs, Pt.cells, Pt.slots] at X48 l48 y48 z48 st48 hQ48
    subst l48 y48 z48
    obtain ⟨rfl, N48q, K48c, F48_b19_front, F48_b19_bringings, F48_b16_nearerFront, F48_b16_furtherBack, F48_b16_frontedAt, F48_b8_nearerFront, F48_b8_furtherBack, F48_b8_frontedAt⟩ := hQ48
    have N48 := Fr.app N47 N48q
    have V48_b3 := V45_b3.keep K48c (ninS ne_b3_b19 (ninS ne_b3_b16 (ninS ne_b3_b8 nin0)))
    have E48_b4 := E45_b4.keep K48c
    have F48_b4_nearerFront := F45_b4_nearerFront.keep K48c (ninS ne_b4_b19 (ninS ne_b4_b16 (ninS ne_b4_b8 nin0)))
    have F48_b4_furtherBack := F45_b4_furtherBack.keep K48c (ninS ne_b4_b19 (ninS ne_b4_b16 (ninS ne_b4_b8 nin0)))
    have F48_b4_frontedAt := F45_b4_frontedAt.keep K48c (ninS ne_b4_b19 (ninS ne_b4_b16 (ninS ne_b4_b8 nin0)))
    have E48_b8 := E45_b8.keep K48c
    have E48_b12 := E45_b12.keep K48c
    have F48_b12_nearerFront := F45_b12_nearerFront.keep K48c (ninS ne_b12_b19 (ninS ne_b12_b16 (ninS (Ne.symm ne_b8_b12) nin0)))
    have F48_b12_furtherBack := F45_b12_furtherBack.keep K48c (ninS ne_b12_b19 (ninS ne_b12_b16 (ninS (Ne.symm ne_b8_b12) nin0)))
    have F48_b12_frontedAt := F45_b12_frontedAt.keep K48c (ninS ne_b12_b19 (ninS ne_b12_b16 (ninS (Ne.symm ne_b8_b12) nin0)))
    have E48_b16 := E45_b16.keep K48c
    have E48_b19 := E45_b19.keep K48c
    obtain ⟨cq49, kq49, q49a, q49b, q49c⟩ := isOf hZ17 rfl E48_b16
    obtain ⟨_, _, ⟨T49, L49, k49, n49⟩, -, X49, ⟨Lc49, hQ49, l49, y49, z49⟩, st49⟩ := X48.virtualBack hx (y := (⟨"com/example/unhurried_reaper/unhurriedreaper/Task", "furtherBack", "()Lcom/example/unhurried_reaper/unhurriedreaper/Task;"⟩ : MethodName)) (z := (⟨"com/example/unhurried_reaper/unhurriedreaper/Task", "furtherBack", "()Lcom/example/unhurried_reaper/unhurriedreaper/Task;"⟩ : MethodName)) hown17 (mvT hZ17 (hw _ (List.mem_of_getElem? (i := 104) rfl))) (mvT hZ17 (hw _ (List.mem_of_getElem? (i := 94) rfl))) (notFace_of_selects (args := #[]) (mvT hZ17 (hw _ (List.mem_of_getElem? (i := 96) rfl)))) (mvT hZ17 (hw _ (List.mem_of_getElem? (i := 96) rfl))) (mvT hZ17 (hw _ (List.mem_of_getElem? (i := 95) rfl))) (by decide) (backOf (W := 0) (rm12R l Z a0 hw [] b16 b8 T48.heap n0 (Nat.le_trans (Nat.le_trans (Nat.le_trans (Nat.le_trans (Nat.le_trans (Nat.le_trans (Nat.le_trans (Nat.le_trans (Nat.le_trans (Nat.le_trans (Nat.le_trans (Nat.le_trans (Nat.le_trans (Nat.le_trans (Nat.le_trans (Nat.le_trans (Nat.le_trans (Nat.le_trans (Nat.le_trans (Nat.le_trans (Nat.le_trans Z0 E3.1) E4.1) E5.1) K6c.1) (Keep.of_wr W7).1) E8.1) E9.1) K10c.1) (Keep.of_wr W11).1) E12.1) E13.1) K14c.1) (Keep.of_wr W15).1) E16.1) E17.1) K18c.1) E19.1) K22c.1) K42c.1) K45c.1) K48c.1) F48_b16_furtherBack) hZ17 (hw _ (List.mem_of_getElem? (i := 97) rfl)) (hw _ (List.mem_of_getElem? (i := 4) rfl)) (by decide) (by decide)) q49a q49c (g := (mkF m 237 #[.val (.int p1), .val (.int p2), .val (.int (2 : Int32)), .val (.int (1 : Int32)), .val (.ref b3), .val (.ref b16), .val (.ref b19), .val (.ref b4), .val (.int (0 : Int32)), .val (.int (2 : Int32)), .val (.ref b8), .val .null, .val (.int (1 : Int32))] [(.ref b16)])) rfl (by rw [hml]; rfl) (Steps.refl _) (argsL := []) (rest := []) (lenOf pd_1 rfl) rfl (by show 2 * 0 + _ ≤ _; exact Nat.le_of_eq rfl) (hb hby at_237) (fun _ _ => ⟨rfl, rfl, (by decide : 18 + 0 ≤ _), (by decide : 69 + 0 ≤ _)⟩)
    dsimp only [Pt.U, Pt.locs, Pt.cells, Pt.slots] at X49 l49 y49 z49 st49 hQ49
    subst l49 y49 z49
    obtain ⟨rfl, N49q, eh49⟩ := hQ49
    have N49 := Fr.app N48 N49q
    obtain ⟨cq50, kq50, q50a, q50b, q50c⟩ := isOf hZ17 eh49 E48_b8
    obtain ⟨_, _, ⟨T50, L50, k50, n50⟩, -, X50, ⟨Lc50, hQ50, l50, y50, z50⟩, st50⟩ := X49.virtualBack hx (y := (⟨"com/example/unhurried_reaper/unhurriedreaper/Task", "nearerFront", "()Lcom/example/unhurried_reaper/unhurriedreaper/Task;"⟩ : MethodName)) (z := (⟨"com/example/unhurried_reaper/unhurriedreaper/Task", "nearerFront", "()Lcom/example/unhurried_reaper/unhurriedreaper/Task;"⟩ : MethodName)) hown17 (mvT hZ17 (hw _ (List.mem_of_getElem? (i := 103) rfl))) (mvT hZ17 (hw _ (List.mem_of_getElem? (i := 66) rfl))) (notFace_of_selects (args := #[]) (mvT hZ17 (hw _ (List.mem_of_getElem? (i := 68) rfl)))) (mvT hZ17 (hw _ (List.mem_of_getElem? (i := 68) rfl))) (mvT hZ17 (hw _ (List.mem_of_getElem? (i := 67) rfl))) (by decide) (backOf (W := 0) (rm8R l Z a0 hw [] b8 b16 T48.heap n0 (Nat.le_trans (Nat.le_trans (Nat.le_trans (Nat.le_trans (Nat.le_trans (Nat.le_trans (Nat.le_trans (Nat.le_trans (Nat.le_trans (Nat.le_trans (Nat.le_trans (Nat.le_trans (Nat.le_trans (Nat.le_trans (Nat.le_trans (Nat.le_trans (Nat.le_trans (Nat.le_trans (Nat.le_trans (Nat.le_trans (Nat.le_trans Z0 E3.1) E4.1) E5.1) K6c.1) (Keep.of_wr W7).1) E8.1) E9.1) K10c.1) (Keep.of_wr W11).1) E12.1) E13.1) K14c.1) (Keep.of_wr W15).1) E16.1) E17.1) K18c.1) E19.1) K22c.1) K42c.1) K45c.1) K48c.1) F48_b8_nearerFront) hZ17 (hw _ (List.mem_of_getElem? (i := 69) rfl)) (hw _ (List.mem_of_getElem? (i := 4) rfl)) (by decide) (by decide)) q50a q50c (g := (mkF m 264 #[.val (.int p1), .val (.int p2), .val (.int (2 : Int32)), .val (.int (1 : Int32)), .val (.ref b3), .val (.ref b16), .val (.ref b19), .val (.ref b4), .val (.int (0 : Int32)), .val (.int (2 : Int32)), .val (.ref b8), .val .null, .val (.int (1 : Int32))] [(.ref b8)])) rfl (by rw [hml]; rfl) (Steps.refl _) (argsL := []) (rest := []) (lenOf pd_1 rfl) rfl (by show 2 * 0 + _ ≤ _; exact Nat.le_of_eq rfl) (hb hby at_264) (fun _ _ => ⟨rfl, eh49, (by decide : 18 + 0 ≤ _), (by decide : 69 + 0 ≤ _)⟩)
    dsimp only [Pt.U, Pt.locs, Pt.cells, Pt.slots] at X50 l50 y50 z50 st50 hQ50
    subst l50 y50 z50
    obtain ⟨rfl, N50q, eh50⟩ := hQ50
    have N50 := Fr.app N49 N50q
    obtain ⟨cq51, kq51, q51a, q51b, q51c⟩ := isOf hZ17 eh50 E48_b8
    obtain ⟨_, _, ⟨T51, L51, k51, n51⟩, -, X51, ⟨Lc51, hQ51, l51, y51, z51⟩, st51⟩ := X50.virtualBack hx (y := (⟨"com/example/unhurried_reaper/unhurriedreaper/Task", "furtherBack", "()Lcom/example/unhurried_reaper/unhurriedreaper/Task;"⟩ : MethodName)) (z := (⟨"com/example/unhurried_reaper/unhurriedreaper/Task", "furtherBack", "()Lcom/example/unhurried_reaper/unhurriedreaper/Task;"⟩ : MethodName)) hown17 (mvT hZ17 (hw _ (List.mem_of_getElem? (i := 104) rfl))) (mvT hZ17 (hw _ (List.mem_of_getElem? (i := 94) rfl))) (notFace_of_selects (args := #[]) (mvT hZ17 (hw _ (List.mem_of_getElem? (i := 96) rfl)))) (mvT hZ17 (hw _ (List.mem_of_getElem? (i := 96) rfl))) (mvT hZ17 (hw _ (List.mem_of_getElem? (i := 95) rfl))) (by decide) (backOf (W := 0) (rm12N l Z a0 hw [] b8 T48.heap n0 (Nat.le_trans (Nat.le_trans (Nat.le_trans (Nat.le_trans (Nat.le_trans (Nat.le_trans (Nat.le_trans (Nat.le_trans (Nat.le_trans (Nat.le_trans (Nat.le_trans (Nat.le_trans (Nat.le_trans (Nat.le_trans (Nat.le_trans (Nat.le_trans (Nat.le_trans (Nat.le_trans (Nat.le_trans (Nat.le_trans (Nat.le_trans Z0 E3.1) E4.1) E5.1) K6c.1) (Keep.of_wr W7).1) E8.1) E9.1) K10c.1) (Keep.of_wr W11).1) E12.1) E13.1) K14c.1) (Keep.of_wr W15).1) E16.1) E17.1) K18c.1) E19.1) K22c.1) K42c.1) K45c.1) K48c.1) F48_b8_furtherBack) hZ17 (hw _ (List.mem_of_getElem? (i := 97) rfl)) (hw _ (List.mem_of_getElem? (i := 4) rfl)) (by decide) (by decide)) q51a q51c (g := (mkF m 274 #[.val (.int p1), .val (.int p2), .val (.int (2 : Int32)), .val (.int (1 : Int32)), .val (.ref b3), .val (.ref b16), .val (.ref b19), .val (.ref b4), .val (.int (0 : Int32)), .val (.int (2 : Int32)), .val (.ref b8), .val .null, .val (.int (1 : Int32))] [(.ref b8)])) rfl (by rw [hml]; rfl) (Steps.refl _) (argsL := []) (rest := []) (lenOf pd_1 rfl) rfl (by show 2 * 0 + _ ≤ _; exact Nat.le_of_eq rfl) (hb hby at_274) (fun _ _ => ⟨rfl, eh50, (by decide : 18 + 0 ≤ _), (by decide : 69 + 0 ≤ _)⟩)
    dsimp only [Pt.U, Pt.locs, Pt.cells, Pt.slots] at X51 l51 y51 z51 st51 hQ51
    subst l51 y51 z51
    obtain ⟨rfl, N51q, eh51⟩ := hQ51
    have N51 := Fr.app N50 N51q
    obtain ⟨fs, hr, hrun, hended, hRW⟩ := X51.leaveW hS17 (by rw [eh51]; exact (Nat.le_trans (Nat.le_trans (Nat.le_trans (Nat.le_trans (Nat.le_trans (Nat.le_trans hk17 K18c.1) E19.1) K22c.1) K42c.1) K45c.1) K48c.1)) (v := some (.int (1 : Int32))) (fun h => by rw [Bd.returns] at h; cases h)
    refine ⟨_, _, go23 _ ?_, hrun, hended, _, _, rfl, ?_, ⟨hRW.1, hRW.2.1, hRW.2.2.1, hRW.2.2.2.mono (by decide) (by decide)⟩⟩
    · show Steps p.tables e below (T22.setTop (mkF m 90 #[.val (.int p1), .val (.int p2), .val (.int (2 : Int32)), .val (.int (1 : Int32)), .val (.ref b3), .val (.ref b16), .val (.ref b19), .unset, .unset, .unset, .unset, .unset, .unset] [])) _
      refine XS.iloadN X22.here hx rfl (hb hby at_90) rfl ?_
      show Steps p.tables e below (T22.setTop (mkF m 91 #[.val (.int p1), .val (.int p2), .val (.int (2 : Int32)), .val (.int (1 : Int32)), .val (.ref b3), .val (.ref b16), .val (.ref b19), .unset, .unset, .unset, .unset, .unset, .unset] [(.int (2 : Int32))])) _
      refine XS.iconst X22.here hx rfl (hb hby at_91) ?_
      show Steps p.tables e below (T22.setTop (mkF m 92 #[.val (.int p1), .val (.int p2), .val (.int (2 : Int32)), .val (.int (1 : Int32)), .val (.ref b3), .val (.ref b16), .val (.ref b19), .unset, .unset, .unset, .unset, .unset, .unset] [(.int (2 : Int32)), (.int (2 : Int32))])) _
      refine XS.icmpNo X22.here hx rfl (hb hby at_92) rfl (flt (by decide)).1 ?_
      show Steps p.tables e below (T22.setTop (mkF m 95 #[.val (.int p1), .val (.int p2), .val (.int (2 : Int32)), .val (.int (1 : Int32)), .val (.ref b3), .val (.ref b16), .val (.ref b19), .unset, .unset, .unset, .unset, .unset, .unset] [])) _
      refine XS.aload X22.here hx rfl (hb hby at_95) rfl rfl ?_
      show Steps p.tables e below (T22.setTop (mkF m 97 #[.val (.int p1), .val (.int p2), .val (.int (2 : Int32)), .val (.int (1 : Int32)), .val (.ref b3), .val (.ref b16), .val (.ref b19), .unset, .unset, .unset, .unset, .unset, .unset] [(.ref b19)])) _
      refine XS.aload X22.here hx rfl (hb hby at_97) rfl rfl ?_
      show Steps p.tables e below (T22.setTop (mkF m 99 #[.val (.int p1), .val (.int p2), .val (.int (2 : Int32)), .val (.int (1 : Int32)), .val (.ref b3), .val (.ref b16), .val (.ref b19), .unset, .unset, .unset, .unset, .unset, .unset] [(.ref b3), (.ref b19)])) _
      refine XS.iconst X22.here hx rfl (hb hby at_99) ?_
      show Steps p.tables e below (T22.setTop (mkF m 100 #[.val (.int p1), .val (.int p2), .val (.int (2 : Int32)), .val (.int (1 : Int32)), .val (.ref b3), .val (.ref b16), .val (.ref b19), .unset, .unset, .unset, .unset, .unset, .unset] [(.int (1 : Int32)), (.ref b3), (.ref b19)])) _
      refine X22.aaload hx (j := (1 : Int32)) (v := (.ref b8)) Ar41.1 (State.isArrayOf_alike hZ17.alike Ar41.2.1) rfl Ar41.2.2 hin41 hat41 (g := (mkF m 100 #[.val (.int p1), .val (.int p2), .val (.int (2 : Int32)), .val (.int (1 : Int32)), .val (.ref b3), .val (.ref b16), .val (.ref b19), .unset, .unset, .unset, .unset, .unset, .unset] [(.int (1 : Int32)), (.ref b3), (.ref b19)])) rfl rfl (hb hby at_100) _ ?_
      show Steps p.tables e below (T22.setTop (mkF m 101 #[.val (.int p1), .val (.int p2), .val (.int (2 : Int32)), .val (.int (1 : Int32)), .val (.ref b3), .val (.ref b16), .val (.ref b19), .unset, .unset, .unset, .unset, .unset, .unset] [(.ref b8), (.ref b19)])) _
      refine st42.trans ?_
      show Steps p.tables e below (T42.setTop (mkF m 104 #[.val (.int p1), .val (.int p2), .val (.int (2 : Int32)), .val (.int (1 : Int32)), .val (.ref b3), .val (.ref b16), .val (.ref b19), .unset, .unset, .unset, .unset, .unset, .unset] [])) _
      refine XS.iloadN X42.here hx rfl (hb hby at_104) rfl ?_
      show Steps p.tables e below (T42.setTop (mkF m 105 #[.val (.int p1), .val (.int p2), .val (.int (2 : Int32)), .val (.int (1 : Int32)), .val (.ref b3), .val (.ref b16), .val (.ref b19), .unset, .unset, .unset, .unset, .unset, .unset] [(.int (2 : Int32))])) _
      refine XS.iconst X42.here hx rfl (hb hby at_105) ?_
      show Steps p.tables e below (T42.setTop (mkF m 106 #[.val (.int p1), .val (.int p2), .val (.int (2 : Int32)), .val (.int (1 : Int32)), .val (.ref b3), .val (.ref b16), .val (.ref b19), .unset, .unset, .unset, .unset, .unset, .unset] [(.int (3 : Int32)), (.int (2 : Int32))])) _
      refine XS.icmpYes X42.here hx rfl (pc0 := 106) (pc' := 118) rfl (hb hby at_106) rfl (tlt (by decide)).1 (by decide) (by decide) ?_
      show Steps p.tables e below (T42.setTop (mkF m 118 #[.val (.int p1), .val (.int p2), .val (.int (2 : Int32)), .val (.int (1 : Int32)), .val (.ref b3), .val (.ref b16), .val (.ref b19), .unset, .unset, .unset, .unset, .unset, .unset] [])) _
      refine XS.aload X42.here hx rfl (hb hby at_118) rfl rfl ?_
      show Steps p.tables e below (T42.setTop (mkF m 120 #[.val (.int p1), .val (.int p2), .val (.int (2 : Int32)), .val (.int (1 : Int32)), .val (.ref b3), .val (.ref b16), .val (.ref b19), .unset, .unset, .unset, .unset, .unset, .unset] [(.ref b3)])) _
      refine XS.iloadN X42.here hx rfl (hb hby at_120) rfl ?_
      show Steps p.tables e below (T42.setTop (mkF m 121 #[.val (.int p1), .val (.int p2), .val (.int (2 : Int32)), .val (.int (1 : Int32)), .val (.ref b3), .val (.ref b16), .val (.ref b19), .unset, .unset, .unset, .unset, .unset, .unset] [(.int (2 : Int32)), (.ref b3)])) _
      refine XS.iconst X42.here hx rfl (hb hby at_121) ?_
      show Steps p.tables e below (T42.setTop (mkF m 122 #[.val (.int p1), .val (.int p2), .val (.int (2 : Int32)), .val (.int (1 : Int32)), .val (.ref b3), .val (.ref b16), .val (.ref b19), .unset, .unset, .unset, .unset, .unset, .unset] [(.int (1 : Int32)), (.int (2 : Int32)), (.ref b3)])) _
      refine XS.isub X42.here hx rfl (hb hby at_122) rfl ?_
      show Steps p.tables e below (T42.setTop (mkF m 123 #[.val (.int p1), .val (.int p2), .val (.int (2 : Int32)), .val (.int (1 : Int32)), .val (.ref b3), .val (.ref b16), .val (.ref b19), .unset, .unset, .unset, .unset, .unset, .unset] [(.int ((2 : Int32) - (1 : Int32))), (.ref b3)])) _
      refine XS.iloadN X42.here hx rfl (hb hby at_123) rfl ?_
      show Steps p.tables e below (T42.setTop (mkF m 124 #[.val (.int p1), .val (.int p2), .val (.int (2 : Int32)), .val (.int (1 : Int32)), .val (.ref b3), .val (.ref b16), .val (.ref b19), .unset, .unset, .unset, .unset, .unset, .unset] [(.int (1 : Int32)), (.int ((2 : Int32) - (1 : Int32))), (.ref b3)])) _
      refine XS.isub X42.here hx rfl (hb hby at_124) rfl ?_
      show Steps p.tables e below (T42.setTop (mkF m 125 #[.val (.int p1), .val (.int p2), .val (.int (2 : Int32)), .val (.int (1 : Int32)), .val (.ref b3), .val (.ref b16), .val (.ref b19), .unset, .unset, .unset, .unset, .unset, .unset] [(.int (((2 : Int32) - (1 : Int32)) - (1 : Int32))), (.ref b3)])) _
      refine X42.aaload hx (j := (((2 : Int32) - (1 : Int32)) - (1 : Int32))) (v := (.ref b4)) Ar43.1 (State.isArrayOf_alike hZ17.alike Ar43.2.1) rfl Ar43.2.2 hin43 hat43 (g := (mkF m 125 #[.val (.int p1), .val (.int p2), .val (.int (2 : Int32)), .val (.int (1 : Int32)), .val (.ref b3), .val (.ref b16), .val (.ref b19), .unset, .unset, .unset, .unset, .unset, .unset] [(.int (((2 : Int32) - (1 : Int32)) - (1 : Int32))), (.ref b3)])) rfl rfl (hb hby at_125) _ ?_
      show Steps p.tables e below (T42.setTop (mkF m 126 #[.val (.int p1), .val (.int p2), .val (.int (2 : Int32)), .val (.int (1 : Int32)), .val (.ref b3), .val (.ref b16), .val (.ref b19), .unset, .unset, .unset, .unset, .unset, .unset] [(.ref b4)])) _
      refine XS.astore X42.here hx rfl (hb hby at_126) rfl rfl (l' := #[.val (.int p1), .val (.int p2), .val (.int (2 : Int32)), .val (.int (1 : Int32)), .val (.ref b3), .val (.ref b16), .val (.ref b19), .val (.ref b4), .unset, .unset, .unset, .unset, .unset]) rfl ?_
      show Steps p.tables e below (T42.setTop (mkF m 128 #[.val (.int p1), .val (.int p2), .val (.int (2 : Int32)), .val (.int (1 : Int32)), .val (.ref b3), .val (.ref b16), .val (.ref b19), .val (.ref b4), .unset, .unset, .unset, .unset, .unset] [])) _
      refine XS.iloadN X42.here hx rfl (hb hby at_128) rfl ?_
      show Steps p.tables e below (T42.setTop (mkF m 129 #[.val (.int p1), .val (.int p2), .val (.int (2 : Int32)), .val (.int (1 : Int32)), .val (.ref b3), .val (.ref b16), .val (.ref b19), .val (.ref b4), .unset, .unset, .unset, .unset, .unset] [(.int (1 : Int32))])) _
      refine XS.ifYes X42.here hx rfl (pc0 := 129) (pc' := 136) rfl (hb hby at_129) rfl ((if0 _ _).trans (feq (by decide)).2) (by decide) (by decide) ?_
      show Steps p.tables e below (T42.setTop (mkF m 136 #[.val (.int p1), .val (.int p2), .val (.int (2 : Int32)), .val (.int (1 : Int32)), .val (.ref b3), .val (.ref b16), .val (.ref b19), .val (.ref b4), .unset, .unset, .unset, .unset, .unset] [])) _
      refine XS.iconst X42.here hx rfl (hb hby at_136) ?_
      show Steps p.tables e below (T42.setTop (mkF m 137 #[.val (.int p1), .val (.int p2), .val (.int (2 : Int32)), .val (.int (1 : Int32)), .val (.ref b3), .val (.ref b16), .val (.ref b19), .val (.ref b4), .unset, .unset, .unset, .unset, .unset] [(.int (0 : Int32))])) _
      refine XS.istore X42.here hx rfl (hb hby at_137) rfl (l' := #[.val (.int p1), .val (.int p2), .val (.int (2 : Int32)), .val (.int (1 : Int32)), .val (.ref b3), .val (.ref b16), .val (.ref b19), .val (.ref b4), .val (.int (0 : Int32)), .unset, .unset, .unset, .unset]) rfl ?_
      show Steps p.tables e below (T42.setTop (mkF m 139 #[.val (.int p1), .val (.int p2), .val (.int (2 : Int32)), .val (.int (1 : Int32)), .val (.ref b3), .val (.ref b16), .val (.ref b19), .val (.ref b4), .val (.int (0 : Int32)), .unset, .unset, .unset, .unset] [])) _
      refine XS.iloadN X42.here hx rfl (hb hby at_139) rfl ?_
      show Steps p.tables e below (T42.setTop (mkF m 140 #[.val (.int p1), .val (.int p2), .val (.int (2 : Int32)), .val (.int (1 : Int32)), .val (.ref b3), .val (.ref b16), .val (.ref b19), .val (.ref b4), .val (.int (0 : Int32)), .unset, .unset, .unset, .unset] [(.int (1 : Int32))])) _
      refine XS.iconst X42.here hx rfl (hb hby at_140) ?_
      show Steps p.tables e below (T42.setTop (mkF m 141 #[.val (.int p1), .val (.int p2), .val (.int (2 : Int32)), .val (.int (1 : Int32)), .val (.ref b3), .val (.ref b16), .val (.ref b19), .val (.ref b4), .val (.int (0 : Int32)), .unset, .unset, .unset, .unset] [(.int (1 : Int32)), (.int (1 : Int32))])) _
      refine XS.icmpNo X42.here hx rfl (hb hby at_141) rfl (flt (by decide)).2.2.1 ?_
      show Steps p.tables e below (T42.setTop (mkF m 144 #[.val (.int p1), .val (.int p2), .val (.int (2 : Int32)), .val (.int (1 : Int32)), .val (.ref b3), .val (.ref b16), .val (.ref b19), .val (.ref b4), .val (.int (0 : Int32)), .unset, .unset, .unset, .unset] [])) _
      refine XS.iconst X42.here hx rfl (hb hby at_144) ?_
      show Steps p.tables e below (T42.setTop (mkF m 145 #[.val (.int p1), .val (.int p2), .val (.int (2 : Int32)), .val (.int (1 : Int32)), .val (.ref b3), .val (.ref b16), .val (.ref b19), .val (.ref b4), .val (.int (0 : Int32)), .unset, .unset, .unset, .unset] [(.int (2 : Int32))])) _
      refine XS.goto X42.here hx rfl (pc0 := 145) (pc' := 149) rfl (hb hby at_145) (by decide) (by decide) ?_
      show Steps p.tables e below (T42.setTop (mkF m 149 #[.val (.int p1), .val (.int p2), .val (.int (2 : Int32)), .val (.int (1 : Int32)), .val (.ref b3), .val (.ref b16), .val (.ref b19), .val (.ref b4), .val (.int (0 : Int32)), .unset, .unset, .unset, .unset] [(.int (2 : Int32))])) _
      refine XS.istore X42.here hx rfl (hb hby at_149) rfl (l' := #[.val (.int p1), .val (.int p2), .val (.int (2 : Int32)), .val (.int (1 : Int32)), .val (.ref b3), .val (.ref b16), .val (.ref b19), .val (.ref b4), .val (.int (0 : Int32)), .val (.int (2 : Int32)), .unset, .unset, .unset]) rfl ?_
      show Steps p.tables e below (T42.setTop (mkF m 151 #[.val (.int p1), .val (.int p2), .val (.int (2 : Int32)), .val (.int (1 : Int32)), .val (.ref b3), .val (.ref b16), .val (.ref b19), .val (.ref b4), .val (.int (0 : Int32)), .val (.int (2 : Int32)), .unset, .unset, .unset] [])) _
      refine XS.iload X42.here hx rfl (hb hby at_151) rfl ?_
      show Steps p.tables e below (T42.setTop (mkF m 153 #[.val (.int p1), .val (.int p2), .val (.int (2 : Int32)), .val (.int (1 : Int32)), .val (.ref b3), .val (.ref b16), .val (.ref b19), .val (.ref b4), .val (.int (0 : Int32)), .val (.int (2 : Int32)), .unset, .unset, .unset] [(.int (0 : Int32))])) _
      refine XS.iloadN X42.here hx rfl (hb hby at_153) rfl ?_
      show Steps p.tables e below (T42.setTop (mkF m 154 #[.val (.int p1), .val (.int p2), .val (.int (2 : Int32)), .val (.int (1 : Int32)), .val (.ref b3), .val (.ref b16), .val (.ref b19), .val (.ref b4), .val (.int (0 : Int32)), .val (.int (2 : Int32)), .unset, .unset, .unset] [(.int (2 : Int32)), (.int (0 : Int32))])) _
      refine XS.icmpNo X42.here hx rfl (hb hby at_154) rfl (tlt (by decide)).2.1 ?_
      show Steps p.tables e below (T42.setTop (mkF m 157 #[.val (.int p1), .val (.int p2), .val (.int (2 : Int32)), .val (.int (1 : Int32)), .val (.ref b3), .val (.ref b16), .val (.ref b19), .val (.ref b4), .val (.int (0 : Int32)), .val (.int (2 : Int32)), .unset, .unset, .unset] [])) _
      refine XS.aload X42.here hx rfl (hb hby at_157) rfl rfl ?_
      show Steps p.tables e below (T42.setTop (mkF m 159 #[.val (.int p1), .val (.int p2), .val (.int (2 : Int32)), .val (.int (1 : Int32)), .val (.ref b3), .val (.ref b16), .val (.ref b19), .val (.ref b4), .val (.int (0 : Int32)), .val (.int (2 : Int32)), .unset, .unset, .unset] [(.ref b3)])) _
      refine XS.iloadN X42.here hx rfl (hb hby at_159) rfl ?_
      show Steps p.tables e below (T42.setTop (mkF m 160 #[.val (.int p1), .val (.int p2), .val (.int (2 : Int32)), .val (.int (1 : Int32)), .val (.ref b3), .val (.ref b16), .val (.ref b19), .val (.ref b4), .val (.int (0 : Int32)), .val (.int (2 : Int32)), .unset, .unset, .unset] [(.int (2 : Int32)), (.ref b3)])) _
      refine XS.iconst X42.here hx rfl (hb hby at_160) ?_
      show Steps p.tables e below (T42.setTop (mkF m 161 #[.val (.int p1), .val (.int p2), .val (.int (2 : Int32)), .val (.int (1 : Int32)), .val (.ref b3), .val (.ref b16), .val (.ref b19), .val (.ref b4), .val (.int (0 : Int32)), .val (.int (2 : Int32)), .unset, .unset, .unset] [(.int (1 : Int32)), (.int (2 : Int32)), (.ref b3)])) _
      refine XS.isub X42.here hx rfl (hb hby at_161) rfl ?_
      show Steps p.tables e below (T42.setTop (mkF m 162 #[.val (.int p1), .val (.int p2), .val (.int (2 : Int32)), .val (.int (1 : Int32)), .val (.ref b3), .val (.ref b16), .val (.ref b19), .val (.ref b4), .val (.int (0 : Int32)), .val (.int (2 : Int32)), .unset, .unset, .unset] [(.int ((2 : Int32) - (1 : Int32))), (.ref b3)])) _
      refine XS.iload X42.here hx rfl (hb hby at_162) rfl ?_
      show Steps p.tables e below (T42.setTop (mkF m 164 #[.val (.int p1), .val (.int p2), .val (.int (2 : Int32)), .val (.int (1 : Int32)), .val (.ref b3), .val (.ref b16), .val (.ref b19), .val (.ref b4), .val (.int (0 : Int32)), .val (.int (2 : Int32)), .unset, .unset, .unset] [(.int (0 : Int32)), (.int ((2 : Int32) - (1 : Int32))), (.ref b3)])) _
      refine XS.isub X42.here hx rfl (hb hby at_164) rfl ?_
      show Steps p.tables e below (T42.setTop (mkF m 165 #[.val (.int p1), .val (.int p2), .val (.int (2 : Int32)), .val (.int (1 : Int32)), .val (.ref b3), .val (.ref b16), .val (.ref b19), .val (.ref b4), .val (.int (0 : Int32)), .val (.int (2 : Int32)), .unset, .unset, .unset] [(.int (((2 : Int32) - (1 : Int32)) - (0 : Int32))), (.ref b3)])) _
      refine X42.aaload hx (j := (((2 : Int32) - (1 : Int32)) - (0 : Int32))) (v := (.ref b8)) Ar44.1 (State.isArrayOf_alike hZ17.alike Ar44.2.1) rfl Ar44.2.2 hin44 hat44 (g := (mkF m 165 #[.val (.int p1), .val (.int p2), .val (.int (2 : Int32)), .val (.int (1 : Int32)), .val (.ref b3), .val (.ref b16), .val (.ref b19), .val (.ref b4), .val (.int (0 : Int32)), .val (.int (2 : Int32)), .unset, .unset, .unset] [(.int (((2 : Int32) - (1 : Int32)) - (0 : Int32))), (.ref b3)])) rfl rfl (hb hby at_165) _ ?_
      show Steps p.tables e below (T42.setTop (mkF m 166 #[.val (.int p1), .val (.int p2), .val (.int (2 : Int32)), .val (.int (1 : Int32)), .val (.ref b3), .val (.ref b16), .val (.ref b19), .val (.ref b4), .val (.int (0 : Int32)), .val (.int (2 : Int32)), .unset, .unset, .unset] [(.ref b8)])) _
      refine XS.goto X42.here hx rfl (pc0 := 166) (pc' := 170) rfl (hb hby at_166) (by decide) (by decide) ?_
      show Steps p.tables e below (T42.setTop (mkF m 170 #[.val (.int p1), .val (.int p2), .val (.int (2 : Int32)), .val (.int (1 : Int32)), .val (.ref b3), .val (.ref b16), .val (.ref b19), .val (.ref b4), .val (.int (0 : Int32)), .val (.int (2 : Int32)), .unset, .unset, .unset] [(.ref b8)])) _
      refine XS.astore X42.here hx rfl (hb hby at_170) rfl rfl (l' := #[.val (.int p1), .val (.int p2), .val (.int (2 : Int32)), .val (.int (1 : Int32)), .val (.ref b3), .val (.ref b16), .val (.ref b19), .val (.ref b4), .val (.int (0 : Int32)), .val (.int (2 : Int32)), .val (.ref b8), .unset, .unset]) rfl ?_
      show Steps p.tables e below (T42.setTop (mkF m 172 #[.val (.int p1), .val (.int p2), .val (.int (2 : Int32)), .val (.int (1 : Int32)), .val (.ref b3), .val (.ref b16), .val (.ref b19), .val (.ref b4), .val (.int (0 : Int32)), .val (.int (2 : Int32)), .val (.ref b8), .unset, .unset] [])) _
      refine XS.iload X42.here hx rfl (hb hby at_172) rfl ?_
      show Steps p.tables e below (T42.setTop (mkF m 174 #[.val (.int p1), .val (.int p2), .val (.int (2 : Int32)), .val (.int (1 : Int32)), .val (.ref b3), .val (.ref b16), .val (.ref b19), .val (.ref b4), .val (.int (0 : Int32)), .val (.int (2 : Int32)), .val (.ref b8), .unset, .unset] [(.int (2 : Int32))])) _
      refine XS.iloadN X42.here hx rfl (hb hby at_174) rfl ?_
      show Steps p.tables e below (T42.setTop (mkF m 175 #[.val (.int p1), .val (.int p2), .val (.int (2 : Int32)), .val (.int (1 : Int32)), .val (.ref b3), .val (.ref b16), .val (.ref b19), .val (.ref b4), .val (.int (0 : Int32)), .val (.int (2 : Int32)), .val (.ref b8), .unset, .unset] [(.int (2 : Int32)), (.int (2 : Int32))])) _
      refine XS.icmpYes X42.here hx rfl (pc0 := 175) (pc' := 190) rfl (hb hby at_175) rfl (flt (by decide)).2.1 (by decide) (by decide) ?_
      show Steps p.tables e below (T42.setTop (mkF m 190 #[.val (.int p1), .val (.int p2), .val (.int (2 : Int32)), .val (.int (1 : Int32)), .val (.ref b3), .val (.ref b16), .val (.ref b19), .val (.ref b4), .val (.int (0 : Int32)), .val (.int (2 : Int32)), .val (.ref b8), .unset, .unset] [])) _
      refine XS.aconstNull X42.here hx rfl (hb hby at_190) ?_
      show Steps p.tables e below (T42.setTop (mkF m 191 #[.val (.int p1), .val (.int p2), .val (.int (2 : Int32)), .val (.int (1 : Int32)), .val (.ref b3), .val (.ref b16), .val (.ref b19), .val (.ref b4), .val (.int (0 : Int32)), .val (.int (2 : Int32)), .val (.ref b8), .unset, .unset] [.null])) _
      refine XS.astore X42.here hx rfl (hb hby at_191) rfl rfl (l' := #[.val (.int p1), .val (.int p2), .val (.int (2 : Int32)), .val (.int (1 : Int32)), .val (.ref b3), .val (.ref b16), .val (.ref b19), .val (.ref b4), .val (.int (0 : Int32)), .val (.int (2 : Int32)), .val (.ref b8), .val .null, .unset]) rfl ?_
      show Steps p.tables e below (T42.setTop (mkF m 193 #[.val (.int p1), .val (.int p2), .val (.int (2 : Int32)), .val (.int (1 : Int32)), .val (.ref b3), .val (.ref b16), .val (.ref b19), .val (.ref b4), .val (.int (0 : Int32)), .val (.int (2 : Int32)), .val (.ref b8), .val .null, .unset] [])) _
      refine XS.aload X42.here hx rfl (hb hby at_193) rfl rfl ?_
      show Steps p.tables e below (T42.setTop (mkF m 195 #[.val (.int p1), .val (.int p2), .val (.int (2 : Int32)), .val (.int (1 : Int32)), .val (.ref b3), .val (.ref b16), .val (.ref b19), .val (.ref b4), .val (.int (0 : Int32)), .val (.int (2 : Int32)), .val (.ref b8), .val .null, .unset] [(.ref b19)])) _
      refine XS.aload X42.here hx rfl (hb hby at_195) rfl rfl ?_
      show Steps p.tables e below (T42.setTop (mkF m 197 #[.val (.int p1), .val (.int p2), .val (.int (2 : Int32)), .val (.int (1 : Int32)), .val (.ref b3), .val (.ref b16), .val (.ref b19), .val (.ref b4), .val (.int (0 : Int32)), .val (.int (2 : Int32)), .val (.ref b8), .val .null, .unset] [(.ref b4), (.ref b19)])) _
      refine st45.trans ?_
      show Steps p.tables e below (T45.setTop (mkF m 200 #[.val (.int p1), .val (.int p2), .val (.int (2 : Int32)), .val (.int (1 : Int32)), .val (.ref b3), .val (.ref b16), .val (.ref b19), .val (.ref b4), .val (.int (0 : Int32)), .val (.int (2 : Int32)), .val (.ref b8), .val .null, .unset] [])) _
      refine XS.aload X45.here hx rfl (hb hby at_200) rfl rfl ?_
      show Steps p.tables e below (T45.setTop (mkF m 202 #[.val (.int p1), .val (.int p2), .val (.int (2 : Int32)), .val (.int (1 : Int32)), .val (.ref b3), .val (.ref b16), .val (.ref b19), .val (.ref b4), .val (.int (0 : Int32)), .val (.int (2 : Int32)), .val (.ref b8), .val .null, .unset] [(.ref b4)])) _
      refine st46.trans ?_
      show Steps p.tables e below (T46.setTop (mkF m 205 #[.val (.int p1), .val (.int p2), .val (.int (2 : Int32)), .val (.int (1 : Int32)), .val (.ref b3), .val (.ref b16), .val (.ref b19), .val (.ref b4), .val (.int (0 : Int32)), .val (.int (2 : Int32)), .val (.ref b8), .val .null, .unset] [.null])) _
      refine XS.ifnonnullNo X46.here hx rfl (hb hby at_205) rfl ?_
      show Steps p.tables e below (T46.setTop (mkF m 208 #[.val (.int p1), .val (.int p2), .val (.int (2 : Int32)), .val (.int (1 : Int32)), .val (.ref b3), .val (.ref b16), .val (.ref b19), .val (.ref b4), .val (.int (0 : Int32)), .val (.int (2 : Int32)), .val (.ref b8), .val .null, .unset] [])) _
      refine XS.aload X46.here hx rfl (hb hby at_208) rfl rfl ?_
      show Steps p.tables e below (T46.setTop (mkF m 210 #[.val (.int p1), .val (.int p2), .val (.int (2 : Int32)), .val (.int (1 : Int32)), .val (.ref b3), .val (.ref b16), .val (.ref b19), .val (.ref b4), .val (.int (0 : Int32)), .val (.int (2 : Int32)), .val (.ref b8), .val .null, .unset] [(.ref b4)])) _
      refine st47.trans ?_
      show Steps p.tables e below (T47.setTop (mkF m 213 #[.val (.int p1), .val (.int p2), .val (.int (2 : Int32)), .val (.int (1 : Int32)), .val (.ref b3), .val (.ref b16), .val (.ref b19), .val (.ref b4), .val (.int (0 : Int32)), .val (.int (2 : Int32)), .val (.ref b8), .val .null, .unset] [.null])) _
      refine XS.ifnonnullNo X47.here hx rfl (hb hby at_213) rfl ?_
      show Steps p.tables e below (T47.setTop (mkF m 216 #[.val (.int p1), .val (.int p2), .val (.int (2 : Int32)), .val (.int (1 : Int32)), .val (.ref b3), .val (.ref b16), .val (.ref b19), .val (.ref b4), .val (.int (0 : Int32)), .val (.int (2 : Int32)), .val (.ref b8), .val .null, .unset] [])) _
      refine XS.iconst X47.here hx rfl (hb hby at_216) ?_
      show Steps p.tables e below (T47.setTop (mkF m 217 #[.val (.int p1), .val (.int p2), .val (.int (2 : Int32)), .val (.int (1 : Int32)), .val (.ref b3), .val (.ref b16), .val (.ref b19), .val (.ref b4), .val (.int (0 : Int32)), .val (.int (2 : Int32)), .val (.ref b8), .val .null, .unset] [(.int (1 : Int32))])) _
      refine XS.goto X47.here hx rfl (pc0 := 217) (pc' := 221) rfl (hb hby at_217) (by decide) (by decide) ?_
      show Steps p.tables e below (T47.setTop (mkF m 221 #[.val (.int p1), .val (.int p2), .val (.int (2 : Int32)), .val (.int (1 : Int32)), .val (.ref b3), .val (.ref b16), .val (.ref b19), .val (.ref b4), .val (.int (0 : Int32)), .val (.int (2 : Int32)), .val (.ref b8), .val .null, .unset] [(.int (1 : Int32))])) _
      refine XS.istore X47.here hx rfl (hb hby at_221) rfl (l' := #[.val (.int p1), .val (.int p2), .val (.int (2 : Int32)), .val (.int (1 : Int32)), .val (.ref b3), .val (.ref b16), .val (.ref b19), .val (.ref b4), .val (.int (0 : Int32)), .val (.int (2 : Int32)), .val (.ref b8), .val .null, .val (.int (1 : Int32))]) rfl ?_
      show Steps p.tables e below (T47.setTop (mkF m 223 #[.val (.int p1), .val (.int p2), .val (.int (2 : Int32)), .val (.int (1 : Int32)), .val (.ref b3), .val (.ref b16), .val (.ref b19), .val (.ref b4), .val (.int (0 : Int32)), .val (.int (2 : Int32)), .val (.ref b8), .val .null, .val (.int (1 : Int32))] [])) _
      refine XS.aload X47.here hx rfl (hb hby at_223) rfl rfl ?_
      show Steps p.tables e below (T47.setTop (mkF m 225 #[.val (.int p1), .val (.int p2), .val (.int (2 : Int32)), .val (.int (1 : Int32)), .val (.ref b3), .val (.ref b16), .val (.ref b19), .val (.ref b4), .val (.int (0 : Int32)), .val (.int (2 : Int32)), .val (.ref b8), .val .null, .val (.int (1 : Int32))] [(.ref b19)])) _
      refine XS.aload X47.here hx rfl (hb hby at_225) rfl rfl ?_
      show Steps p.tables e below (T47.setTop (mkF m 227 #[.val (.int p1), .val (.int p2), .val (.int (2 : Int32)), .val (.int (1 : Int32)), .val (.ref b3), .val (.ref b16), .val (.ref b19), .val (.ref b4), .val (.int (0 : Int32)), .val (.int (2 : Int32)), .val (.ref b8), .val .null, .val (.int (1 : Int32))] [(.ref b16), (.ref b19)])) _
      refine st48.trans ?_
      show Steps p.tables e below (T48.setTop (mkF m 230 #[.val (.int p1), .val (.int p2), .val (.int (2 : Int32)), .val (.int (1 : Int32)), .val (.ref b3), .val (.ref b16), .val (.ref b19), .val (.ref b4), .val (.int (0 : Int32)), .val (.int (2 : Int32)), .val (.ref b8), .val .null, .val (.int (1 : Int32))] [])) _
      refine XS.iload X48.here hx rfl (hb hby at_230) rfl ?_
      show Steps p.tables e below (T48.setTop (mkF m 232 #[.val (.int p1), .val (.int p2), .val (.int (2 : Int32)), .val (.int (1 : Int32)), .val (.ref b3), .val (.ref b16), .val (.ref b19), .val (.ref b4), .val (.int (0 : Int32)), .val (.int (2 : Int32)), .val (.ref b8), .val .null, .val (.int (1 : Int32))] [(.int (1 : Int32))])) _
      refine XS.ifNo X48.here hx rfl (hb hby at_232) rfl ((if0 _ _).trans (feq (by decide)).1) ?_
      show Steps p.tables e below (T48.setTop (mkF m 235 #[.val (.int p1), .val (.int p2), .val (.int (2 : Int32)), .val (.int (1 : Int32)), .val (.ref b3), .val (.ref b16), .val (.ref b19), .val (.ref b4), .val (.int (0 : Int32)), .val (.int (2 : Int32)), .val (.ref b8), .val .null, .val (.int (1 : Int32))] [])) _
      refine XS.aload X48.here hx rfl (hb hby at_235) rfl rfl ?_
      show Steps p.tables e below (T48.setTop (mkF m 237 #[.val (.int p1), .val (.int p2), .val (.int (2 : Int32)), .val (.int (1 : Int32)), .val (.ref b3), .val (.ref b16), .val (.ref b19), .val (.ref b4), .val (.int (0 : Int32)), .val (.int (2 : Int32)), .val (.ref b8), .val .null, .val (.int (1 : Int32))] [(.ref b16)])) _
      refine st49.trans ?_
      show Steps p.tables e below (T49.setTop (mkF m 240 #[.val (.int p1), .val (.int p2), .val (.int (2 : Int32)), .val (.int (1 : Int32)), .val (.ref b3), .val (.ref b16), .val (.ref b19), .val (.ref b4), .val (.int (0 : Int32)), .val (.int (2 : Int32)), .val (.ref b8), .val .null, .val (.int (1 : Int32))] [(.ref b8)])) _
      refine XS.aload X49.here hx rfl (hb hby at_240) rfl rfl ?_
      show Steps p.tables e below (T49.setTop (mkF m 242 #[.val (.int p1), .val (.int p2), .val (.int (2 : Int32)), .val (.int (1 : Int32)), .val (.ref b3), .val (.ref b16), .val (.ref b19), .val (.ref b4), .val (.int (0 : Int32)), .val (.int (2 : Int32)), .val (.ref b8), .val .null, .val (.int (1 : Int32))] [(.ref b8), (.ref b8)])) _
      refine Jvm.RoadKit.acmp (g := (mkF m 242 #[.val (.int p1), .val (.int p2), .val (.int (2 : Int32)), .val (.int (1 : Int32)), .val (.ref b3), .val (.ref b16), .val (.ref b19), .val (.ref b4), .val (.int (0 : Int32)), .val (.int (2 : Int32)), .val (.ref b8), .val .null, .val (.int (1 : Int32))] [(.ref b8), (.ref b8)])) X49 hx rfl rfl rfl (pc0 := 242) (pc' := 245) (same := true) rfl (hb hby at_242) rfl (decide_eq_true rfl) (by decide) (by decide) ?_
      show Steps p.tables e below (T49.setTop (mkF m 245 #[.val (.int p1), .val (.int p2), .val (.int (2 : Int32)), .val (.int (1 : Int32)), .val (.ref b3), .val (.ref b16), .val (.ref b19), .val (.ref b4), .val (.int (0 : Int32)), .val (.int (2 : Int32)), .val (.ref b8), .val .null, .val (.int (1 : Int32))] [])) _
      refine XS.iconst X49.here hx rfl (hb hby at_245) ?_
      show Steps p.tables e below (T49.setTop (mkF m 246 #[.val (.int p1), .val (.int p2), .val (.int (2 : Int32)), .val (.int (1 : Int32)), .val (.ref b3), .val (.ref b16), .val (.ref b19), .val (.ref b4), .val (.int (0 : Int32)), .val (.int (2 : Int32)), .val (.ref b8), .val .null, .val (.int (1 : Int32))] [(.int (1 : Int32))])) _
      refine XS.goto X49.here hx rfl (pc0 := 246) (pc' := 250) rfl (hb hby at_246) (by decide) (by decide) ?_
      show Steps p.tables e below (T49.setTop (mkF m 250 #[.val (.int p1), .val (.int p2), .val (.int (2 : Int32)), .val (.int (1 : Int32)), .val (.ref b3), .val (.ref b16), .val (.ref b19), .val (.ref b4), .val (.int (0 : Int32)), .val (.int (2 : Int32)), .val (.ref b8), .val .null, .val (.int (1 : Int32))] [(.int (1 : Int32))])) _
      refine XS.istore X49.here hx rfl (hb hby at_250) rfl (l' := #[.val (.int p1), .val (.int p2), .val (.int (2 : Int32)), .val (.int (1 : Int32)), .val (.ref b3), .val (.ref b16), .val (.ref b19), .val (.ref b4), .val (.int (0 : Int32)), .val (.int (2 : Int32)), .val (.ref b8), .val .null, .val (.int (1 : Int32))]) rfl ?_
      show Steps p.tables e below (T49.setTop (mkF m 252 #[.val (.int p1), .val (.int p2), .val (.int (2 : Int32)), .val (.int (1 : Int32)), .val (.ref b3), .val (.ref b16), .val (.ref b19), .val (.ref b4), .val (.int (0 : Int32)), .val (.int (2 : Int32)), .val (.ref b8), .val .null, .val (.int (1 : Int32))] [])) _
      refine XS.aload X49.here hx rfl (hb hby at_252) rfl rfl ?_
      show Steps p.tables e below (T49.setTop (mkF m 254 #[.val (.int p1), .val (.int p2), .val (.int (2 : Int32)), .val (.int (1 : Int32)), .val (.ref b3), .val (.ref b16), .val (.ref b19), .val (.ref b4), .val (.int (0 : Int32)), .val (.int (2 : Int32)), .val (.ref b8), .val .null, .val (.int (1 : Int32))] [(.ref b8)])) _
      refine XS.ifnullNo X49.here hx rfl (hb hby at_254) rfl ?_
      show Steps p.tables e below (T49.setTop (mkF m 257 #[.val (.int p1), .val (.int p2), .val (.int (2 : Int32)), .val (.int (1 : Int32)), .val (.ref b3), .val (.ref b16), .val (.ref b19), .val (.ref b4), .val (.int (0 : Int32)), .val (.int (2 : Int32)), .val (.ref b8), .val .null, .val (.int (1 : Int32))] [])) _
      refine XS.iload X49.here hx rfl (hb hby at_257) rfl ?_
      show Steps p.tables e below (T49.setTop (mkF m 259 #[.val (.int p1), .val (.int p2), .val (.int (2 : Int32)), .val (.int (1 : Int32)), .val (.ref b3), .val (.ref b16), .val (.ref b19), .val (.ref b4), .val (.int (0 : Int32)), .val (.int (2 : Int32)), .val (.ref b8), .val .null, .val (.int (1 : Int32))] [(.int (1 : Int32))])) _
      refine XS.ifNo X49.here hx rfl (hb hby at_259) rfl ((if0 _ _).trans (feq (by decide)).1) ?_
      show Steps p.tables e below (T49.setTop (mkF m 262 #[.val (.int p1), .val (.int p2), .val (.int (2 : Int32)), .val (.int (1 : Int32)), .val (.ref b3), .val (.ref b16), .val (.ref b19), .val (.ref b4), .val (.int (0 : Int32)), .val (.int (2 : Int32)), .val (.ref b8), .val .null, .val (.int (1 : Int32))] [])) _
      refine XS.aload X49.here hx rfl (hb hby at_262) rfl rfl ?_
      show Steps p.tables e below (T49.setTop (mkF m 264 #[.val (.int p1), .val (.int p2), .val (.int (2 : Int32)), .val (.int (1 : Int32)), .val (.ref b3), .val (.ref b16), .val (.ref b19), .val (.ref b4), .val (.int (0 : Int32)), .val (.int (2 : Int32)), .val (.ref b8), .val .null, .val (.int (1 : Int32))] [(.ref b8)])) _
      refine st50.trans ?_
      show Steps p.tables e below (T50.setTop (mkF m 267 #[.val (.int p1), .val (.int p2), .val (.int (2 : Int32)), .val (.int (1 : Int32)), .val (.ref b3), .val (.ref b16), .val (.ref b19), .val (.ref b4), .val (.int (0 : Int32)), .val (.int (2 : Int32)), .val (.ref b8), .val .null, .val (.int (1 : Int32))] [(.ref b16)])) _
      refine XS.aload X50.here hx rfl (hb hby at_267) rfl rfl ?_
      show Steps p.tables e below (T50.setTop (mkF m 269 #[.val (.int p1), .val (.int p2), .val (.int (2 : Int32)), .val (.int (1 : Int32)), .val (.ref b3), .val (.ref b16), .val (.ref b19), .val (.ref b4), .val (.int (0 : Int32)), .val (.int (2 : Int32)), .val (.ref b8), .val .null, .val (.int (1 : Int32))] [(.ref b16), (.ref b16)])) _
      refine Jvm.RoadKit.acmp (g := (mkF m 269 #[.val (.int p1), .val (.int p2), .val (.int (2 : Int32)), .val (.int (1 : Int32)), .val (.ref b3), .val (.ref b16), .val (.ref b19), .val (.ref b4), .val (.int (0 : Int32)), .val (.int (2 : Int32)), .val (.ref b8), .val .null, .val (.int (1 : Int32))] [(.ref b16), (.ref b16)])) X50 hx rfl rfl rfl (pc0 := 269) (pc' := 272) (same := true) rfl (hb hby at_269) rfl (decide_eq_true rfl) (by decide) (by decide) ?_
      show Steps p.tables e below (T50.setTop (mkF m 272 #[.val (.int p1), .val (.int p2), .val (.int (2 : Int32)), .val (.int (1 : Int32)), .val (.ref b3), .val (.ref b16), .val (.ref b19), .val (.ref b4), .val (.int (0 : Int32)), .val (.int (2 : Int32)), .val (.ref b8), .val .null, .val (.int (1 : Int32))] [])) _
      refine XS.aload X50.here hx rfl (hb hby at_272) rfl rfl ?_
      show Steps p.tables e below (T50.setTop (mkF m 274 #[.val (.int p1), .val (.int p2), .val (.int (2 : Int32)), .val (.int (1 : Int32)), .val (.ref b3), .val (.ref b16), .val (.ref b19), .val (.ref b4), .val (.int (0 : Int32)), .val (.int (2 : Int32)), .val (.ref b8), .val .null, .val (.int (1 : Int32))] [(.ref b8)])) _
      refine st51.trans ?_
      show Steps p.tables e below (T51.setTop (mkF m 277 #[.val (.int p1), .val (.int p2), .val (.int (2 : Int32)), .val (.int (1 : Int32)), .val (.ref b3), .val (.ref b16), .val (.ref b19), .val (.ref b4), .val (.int (0 : Int32)), .val (.int (2 : Int32)), .val (.ref b8), .val .null, .val (.int (1 : Int32))] [.null])) _
      refine XS.aload X51.here hx rfl (hb hby at_277) rfl rfl ?_
      show Steps p.tables e below (T51.setTop (mkF m 279 #[.val (.int p1), .val (.int p2), .val (.int (2 : Int32)), .val (.int (1 : Int32)), .val (.ref b3), .val (.ref b16), .val (.ref b19), .val (.ref b4), .val (.int (0 : Int32)), .val (.int (2 : Int32)), .val (.ref b8), .val .null, .val (.int (1 : Int32))] [.null, .null])) _
      refine Jvm.RoadKit.acmp (g := (mkF m 279 #[.val (.int p1), .val (.int p2), .val (.int (2 : Int32)), .val (.int (1 : Int32)), .val (.ref b3), .val (.ref b16), .val (.ref b19), .val (.ref b4), .val (.int (0 : Int32)), .val (.int (2 : Int32)), .val (.ref b8), .val .null, .val (.int (1 : Int32))] [.null, .null])) X51 hx rfl rfl rfl (pc0 := 279) (pc' := 282) (same := true) rfl (hb hby at_279) rfl (decide_eq_true rfl) (by decide) (by decide) ?_
      show Steps p.tables e below (T51.setTop (mkF m 282 #[.val (.int p1), .val (.int p2), .val (.int (2 : Int32)), .val (.int (1 : Int32)), .val (.ref b3), .val (.ref b16), .val (.ref b19), .val (.ref b4), .val (.int (0 : Int32)), .val (.int (2 : Int32)), .val (.ref b8), .val .null, .val (.int (1 : Int32))] [])) _
      refine XS.iconst X51.here hx rfl (hb hby at_282) ?_
      show Steps p.tables e below (T51.setTop (mkF m 283 #[.val (.int p1), .val (.int p2), .val (.int (2 : Int32)), .val (.int (1 : Int32)), .val (.ref b3), .val (.ref b16), .val (.ref b19), .val (.ref b4), .val (.int (0 : Int32)), .val (.int (2 : Int32)), .val (.ref b8), .val .null, .val (.int (1 : Int32))] [(.int (1 : Int32))])) _
      refine XS.goto X51.here hx rfl (pc0 := 283) (pc' := 287) rfl (hb hby at_283) (by decide) (by decide) ?_
      show Steps p.tables e below (T51.setTop (mkF m 287 #[.val (.int p1), .val (.int p2), .val (.int (2 : Int32)), .val (.int (1 : Int32)), .val (.ref b3), .val (.ref b16), .val (.ref b19), .val (.ref b4), .val (.int (0 : Int32)), .val (.int (2 : Int32)), .val (.ref b8), .val .null, .val (.int (1 : Int32))] [(.int (1 : Int32))])) _
      refine XS.istore X51.here hx rfl (hb hby at_287) rfl (l' := #[.val (.int p1), .val (.int p2), .val (.int (2 : Int32)), .val (.int (1 : Int32)), .val (.ref b3), .val (.ref b16), .val (.ref b19), .val (.ref b4), .val (.int (0 : Int32)), .val (.int (2 : Int32)), .val (.ref b8), .val .null, .val (.int (1 : Int32))]) rfl ?_
      show Steps p.tables e below (T51.setTop (mkF m 289 #[.val (.int p1), .val (.int p2), .val (.int (2 : Int32)), .val (.int (1 : Int32)), .val (.ref b3), .val (.ref b16), .val (.ref b19), .val (.ref b4), .val (.int (0 : Int32)), .val (.int (2 : Int32)), .val (.ref b8), .val .null, .val (.int (1 : Int32))] [])) _
      refine XS.aload X51.here hx rfl (hb hby at_289) rfl rfl ?_
      show Steps p.tables e below (T51.setTop (mkF m 291 #[.val (.int p1), .val (.int p2), .val (.int (2 : Int32)), .val (.int (1 : Int32)), .val (.ref b3), .val (.ref b16), .val (.ref b19), .val (.ref b4), .val (.int (0 : Int32)), .val (.int (2 : Int32)), .val (.ref b8), .val .null, .val (.int (1 : Int32))] [.null])) _
      refine XS.ifnullYes X51.here hx rfl (pc0 := 291) (pc' := 324) rfl (hb hby at_291) rfl (by decide) (by decide) ?_
      show Steps p.tables e below (T51.setTop (mkF m 324 #[.val (.int p1), .val (.int p2), .val (.int (2 : Int32)), .val (.int (1 : Int32)), .val (.ref b3), .val (.ref b16), .val (.ref b19), .val (.ref b4), .val (.int (0 : Int32)), .val (.int (2 : Int32)), .val (.ref b8), .val .null, .val (.int (1 : Int32))] [])) _
      refine XS.iload X51.here hx rfl (hb hby at_324) rfl ?_
      show Steps p.tables e below (T51.setTop (mkF m 326 #[.val (.int p1), .val (.int p2), .val (.int (2 : Int32)), .val (.int (1 : Int32)), .val (.ref b3), .val (.ref b16), .val (.ref b19), .val (.ref b4), .val (.int (0 : Int32)), .val (.int (2 : Int32)), .val (.ref b8), .val .null, .val (.int (1 : Int32))] [(.int (1 : Int32))])) _
      exact retN X51 hx (t := .boolean) Bd.returns (by simp) (hb hby at_326) hr
    · show Q0 Z p1 h0 n0 _ T51.heap _
      rw [eh51]
      exact ⟨rfl, N51⟩
  · rw [e1, e2] at go23
    obtain ⟨cl52, Ar52, q52, S52, M52, Hh52, G52⟩ := id V22_b3
    have hin52 : ¬ ((1 : Int32) < 0 ∨ cl52.slots.size ≤ ((1 : Int32)).toNatClampNeg) := inb_of S52 ⟨by decide, by decide⟩
    have hat52 : cl52.slots[((1 : Int32)).toNatClampNeg]? = some (.ref b8) := Has.at Hh52 hin52 rfl
    obtain ⟨cq53, kq53, q53a, q53b, q53c⟩ := isOf hZ17 rfl E22_b19
    obtain ⟨_, _, ⟨T53, L53, k53, n53⟩, -, X53, ⟨Lc53, hQ53, l53, y53, z53⟩, st53⟩ := X22.virtualBack hx (y := (⟨"com/example/unhurried_reaper/unhurriedreaper/TaskHistory", "toFront", "(Lcom/example/unhurried_reaper/unhurriedreaper/Task;)V"⟩ : MethodName)) (z := (⟨"com/example/unhurried_reaper/unhurriedreaper/TaskHistory", "toFront", "(Lcom/example/unhurried_reaper/unhurriedreaper/Task;)V"⟩ : MethodName)) hown17 (mvT hZ17 (hw _ (List.mem_of_getElem? (i := 58) rfl))) (mvT hZ17 (hw _ (List.mem_of_getElem? (i := 59) rfl))) (notFace_of_selects (args := #[]) (mvT hZ17 (hw _ (List.mem_of_getElem? (i := 61) rfl)))) (mvT hZ17 (hw _ (List.mem_of_getElem? (i := 61) rfl))) (mvT hZ17 (hw _ (List.mem_of_getElem? (i := 60) rfl))) (by decide) (backOf (W := 0) (rm7b l Z a0 hw [] b19 b8 b4 ((0 : Int64) + (1 : Int64)) (0 : Int64) (0 : Int64) .null T22.heap n0 (Nat.le_trans (Nat.le_trans (Nat.le_trans (Nat.le_trans (Nat.le_trans (Nat.le_trans (Nat.le_trans (Nat.le_trans (Nat.le_trans (Nat.le_trans (Nat.le_trans (Nat.le_trans (Nat.le_trans (Nat.le_trans (Nat.le_trans (Nat.le_trans (Nat.le_trans (Nat.le_trans Z0 E3.1) E4.1) E5.1) K6c.1) (Keep.of_wr W7).1) E8.1) E9.1) K10c.1) (Keep.of_wr W11).1) E12.1) E13.1) K14c.1) (Keep.of_wr W15).1) E16.1) E17.1) K18c.1) E19.1) K22c.1) ge_b19 E22_b19 F22_b19_front F22_b19_bringings ge_b8 E22_b8 F22_b8_nearerFront F22_b8_furtherBack F22_b8_frontedAt ge_b4 E22_b4 F22_b4_nearerFront F22_b4_furtherBack F22_b4_frontedAt (Ne.symm ne_b8_b19) (Ne.symm ne_b4_b19) (Ne.symm ne_b4_b8)) hZ17 (hw _ (List.mem_of_getElem? (i := 62) rfl)) (hw _ (List.mem_of_getElem? (i := 53) rfl)) (by decide) (by decide)) q53a q53c (g := (mkF m 101 #[.val (.int p1), .val (.int p2), .val (.int (3 : Int32)), .val (.int (0 : Int32)), .val (.ref b3), .val (.ref b16), .val (.ref b19), .unset, .unset, .unset, .unset, .unset, .unset] [(.ref b8), (.ref b19)])) rfl (by rw [hml]; rfl) (Steps.refl _) (argsL := [(.ref b8)]) (rest := []) (lenOf pd_2 rfl) rfl (by show 2 * 0 + _ ≤ _; exact Nat.le_of_eq rfl) (hb hby at_101) (fun _ _ => ⟨rfl, rfl, (by decide : 18 + 0 ≤ _), (by decide : 69 + 0 ≤ _)⟩)
    dsimp only [Pt.U, Pt.locs, Pt.cells, Pt.slots] at X53 l53 y53 z53 st53 hQ53
    subst l53 y53 z53
    obtain ⟨rfl, N53q, K53c, F53_b19_front, F53_b19_bringings, F53_b8_nearerFront, F53_b8_furtherBack, F53_b8_frontedAt, F53_b4_nearerFront, F53_b4_furtherBack, F53_b4_frontedAt⟩ := hQ53
    have N53 := Fr.app N22 N53q
    have V53_b3 := V22_b3.keep K53c (ninS ne_b3_b19 (ninS ne_b3_b8 (ninS ne_b3_b4 nin0)))
    have E53_b4 := E22_b4.keep K53c
    have E53_b8 := E22_b8.keep K53c
    have E53_b12 := E22_b12.keep K53c
    have F53_b12_nearerFront := F22_b12_nearerFront.keep K53c (ninS ne_b12_b19 (ninS (Ne.symm ne_b8_b12) (ninS (Ne.symm ne_b4_b12) nin0)))
    have F53_b12_furtherBack := F22_b12_furtherBack.keep K53c (ninS ne_b12_b19 (ninS (Ne.symm ne_b8_b12) (ninS (Ne.symm ne_b4_b12) nin0)))
    have F53_b12_frontedAt := F22_b12_frontedAt.keep K53c (ninS ne_b12_b19 (ninS (Ne.symm ne_b8_b12) (ninS (Ne.symm ne_b4_b12) nin0)))
    have E53_b16 := E22_b16.keep K53c
    have F53_b16_nearerFront := F22_b16_nearerFront.keep K53c (ninS ne_b16_b19 (ninS (Ne.symm ne_b8_b16) (ninS (Ne.symm ne_b4_b16) nin0)))
    have F53_b16_furtherBack := F22_b16_furtherBack.keep K53c (ninS ne_b16_b19 (ninS (Ne.symm ne_b8_b16) (ninS (Ne.symm ne_b4_b16) nin0)))
    have F53_b16_frontedAt := F22_b16_frontedAt.keep K53c (ninS ne_b16_b19 (ninS (Ne.symm ne_b8_b16) (ninS (Ne.symm ne_b4_b16) nin0)))
    have E53_b19 := E22_b19.keep K53c
    obtain ⟨cl54, Ar54, q54, S54, M54, Hh54, G54⟩ := id V53_b3
    have hin54 : ¬ ((2 : Int32) < 0 ∨ cl54.slots.size ≤ ((2 : Int32)).toNatClampNeg) := inb_of S54 ⟨by decide, by decide⟩
    have hat54 : cl54.slots[((2 : Int32)).toNatClampNeg]? = some (.ref b12) := Has.at Hh54 hin54 rfl
    obtain ⟨cq55, kq55, q55a, q55b, q55c⟩ := isOf hZ17 rfl E53_b19
    obtain ⟨_, _, ⟨T55, L55, k55, n55⟩, -, X55, ⟨Lc55, hQ55, l55, y55, z55⟩, st55⟩ := X53.virtualBack hx (y := (⟨"com/example/unhurried_reaper/unhurriedreaper/TaskHistory", "toFront", "(Lcom/example/unhurried_reaper/unhurriedreaper/Task;)V"⟩ : MethodName)) (z := (⟨"com/example/unhurried_reaper/unhurriedreaper/TaskHistory", "toFront", "(Lcom/example/unhurried_reaper/unhurriedreaper/Task;)V"⟩ : MethodName)) hown17 (mvT hZ17 (hw _ (List.mem_of_getElem? (i := 58) rfl))) (mvT hZ17 (hw _ (List.mem_of_getElem? (i := 59) rfl))) (notFace_of_selects (args := #[]) (mvT hZ17 (hw _ (List.mem_of_getElem? (i := 61) rfl)))) (mvT hZ17 (hw _ (List.mem_of_getElem? (i := 61) rfl))) (mvT hZ17 (hw _ (List.mem_of_getElem? (i := 60) rfl))) (by decide) (backOf (W := 0) (rm7b l Z a0 hw [] b19 b12 b8 (((0 : Int64) + (1 : Int64)) + (1 : Int64)) (0 : Int64) ((0 : Int64) + (1 : Int64)) (.ref b4) T53.heap n0 (Nat.le_trans (Nat.le_trans (Nat.le_trans (Nat.le_trans (Nat.le_trans (Nat.le_trans (Nat.le_trans (Nat.le_trans (Nat.le_trans (Nat.le_trans (Nat.le_trans (Nat.le_trans (Nat.le_trans (Nat.le_trans (Nat.le_trans (Nat.le_trans (Nat.le_trans (Nat.le_trans (Nat.le_trans Z0 E3.1) E4.1) E5.1) K6c.1) (Keep.of_wr W7).1) E8.1) E9.1) K10c.1) (Keep.of_wr W11).1) E12.1) E13.1) K14c.1) (Keep.of_wr W15).1) E16.1) E17.1) K18c.1) E19.1) K22c.1) K53c.1) ge_b19 E53_b19 F53_b19_front F53_b19_bringings ge_b12 E53_b12 F53_b12_nearerFront F53_b12_furtherBack F53_b12_frontedAt ge_b8 E53_b8 F53_b8_nearerFront F53_b8_furtherBack F53_b8_frontedAt (Ne.symm ne_b12_b19) (Ne.symm ne_b8_b19) (Ne.symm ne_b8_b12)) hZ17 (hw _ (List.mem_of_getElem? (i := 62) rfl)) (hw _ (List.mem_of_getElem? (i := 53) rfl)) (by decide) (by decide)) q55a q55c (g := (mkF m 115 #[.val (.int p1), .val (.int p2), .val (.int (3 : Int32)), .val (.int (0 : Int32)), .val (.ref b3), .val (.ref b16), .val (.ref b19), .unset, .unset, .unset, .unset, .unset, .unset] [(.ref b12), (.ref b19)])) rfl (by rw [hml]; rfl) (Steps.refl _) (argsL := [(.ref b12)]) (rest := []) (lenOf pd_2 rfl) rfl (by show 2 * 0 + _ ≤ _; exact Nat.le_of_eq rfl) (hb hby at_115) (fun _ _ => ⟨rfl, rfl, (by decide : 18 + 0 ≤ _), (by decide : 69 + 0 ≤ _)⟩)
    dsimp only [Pt.U, Pt.locs, Pt.cells, Pt.slots] at X55 l55 y55 z55 st55 hQ55
    subst l55 y55 z55
    obtain ⟨rfl, N55q, K55c, F55_b19_front, F55_b19_bringings, F55_b12_nearerFront, F55_b12_furtherBack, F55_b12_frontedAt, F55_b8_nearerFront, F55_b8_furtherBack, F55_b8_frontedAt⟩ := hQ55
    have N55 := Fr.app N53 N55q
    have V55_b3 := V53_b3.keep K55c (ninS ne_b3_b19 (ninS ne_b3_b12 (ninS ne_b3_b8 nin0)))
    have E55_b4 := E53_b4.keep K55c
    have F55_b4_nearerFront := F53_b4_nearerFront.keep K55c (ninS ne_b4_b19 (ninS ne_b4_b12 (ninS ne_b4_b8 nin0)))
    have F55_b4_furtherBack := F53_b4_furtherBack.keep K55c (ninS ne_b4_b19 (ninS ne_b4_b12 (ninS ne_b4_b8 nin0)))
    have F55_b4_frontedAt := F53_b4_frontedAt.keep K55c (ninS ne_b4_b19 (ninS ne_b4_b12 (ninS ne_b4_b8 nin0)))
    have E55_b8 := E53_b8.keep K55c
    have E55_b12 := E53_b12.keep K55c
    have E55_b16 := E53_b16.keep K55c
    have F55_b16_nearerFront := F53_b16_nearerFront.keep K55c (ninS ne_b16_b19 (ninS (Ne.symm ne_b12_b16) (ninS (Ne.symm ne_b8_b16) nin0)))
    have F55_b16_furtherBack := F53_b16_furtherBack.keep K55c (ninS ne_b16_b19 (ninS (Ne.symm ne_b12_b16) (ninS (Ne.symm ne_b8_b16) nin0)))
    have F55_b16_frontedAt := F53_b16_frontedAt.keep K55c (ninS ne_b16_b19 (ninS (Ne.symm ne_b12_b16) (ninS (Ne.symm ne_b8_b16) nin0)))
    have E55_b19 := E53_b19.keep K55c
    obtain ⟨cl56, Ar56, q56, S56, M56, Hh56, G56⟩ := id V55_b3
    have hin56 : ¬ ((((3 : Int32) - (1 : Int32)) - (0 : Int32)) < 0 ∨ cl56.slots.size ≤ ((((3 : Int32) - (1 : Int32)) - (0 : Int32))).toNatClampNeg) := inb_of S56 ⟨by decide, by decide⟩
    have hat56 : cl56.slots[((((3 : Int32) - (1 : Int32)) - (0 : Int32))).toNatClampNeg]? = some (.ref b12) := Has.at Hh56 hin56 rfl
    obtain ⟨cl57, Ar57, q57, S57, M57, Hh57, G57⟩ := id V55_b3
    have hin57 : ¬ ((((3 : Int32) - (1 : Int32)) - (1 : Int32)) < 0 ∨ cl57.slots.size ≤ ((((3 : Int32) - (1 : Int32)) - (1 : Int32))).toNatClampNeg) := inb_of S57 ⟨by decide, by decide⟩
    have hat57 : cl57.slots[((((3 : Int32) - (1 : Int32)) - (1 : Int32))).toNatClampNeg]? = some (.ref b8) := Has.at Hh57 hin57 rfl
    obtain ⟨cl58, Ar58, q58, S58, M58, Hh58, G58⟩ := id V55_b3
    have hin58 : ¬ ((((3 : Int32) - (1 : Int32)) - (2 : Int32)) < 0 ∨ cl58.slots.size ≤ ((((3 : Int32) - (1 : Int32)) - (2 : Int32))).toNatClampNeg) := inb_of S58 ⟨by decide, by decide⟩
    have hat58 : cl58.slots[((((3 : Int32) - (1 : Int32)) - (2 : Int32))).toNatClampNeg]? = some (.ref b4) := Has.at Hh58 hin58 rfl
    obtain ⟨cq59, kq59, q59a, q59b, q59c⟩ := isOf hZ17 rfl E55_b19
    obtain ⟨_, _, ⟨T59, L59, k59, n59⟩, -, X59, ⟨Lc59, hQ59, l59, y59, z59⟩, st59⟩ := X55.virtualBack hx (y := (⟨"com/example/unhurried_reaper/unhurriedreaper/TaskHistory", "remove", "(Lcom/example/unhurried_reaper/unhurriedreaper/Task;)V"⟩ : MethodName)) (z := (⟨"com/example/unhurried_reaper/unhurriedreaper/TaskHistory", "remove", "(Lcom/example/unhurried_reaper/unhurriedreaper/Task;)V"⟩ : MethodName)) hown17 (mvT hZ17 (hw _ (List.mem_of_getElem? (i := 88) rfl))) (mvT hZ17 (hw _ (List.mem_of_getElem? (i := 89) rfl))) (notFace_of_selects (args := #[]) (mvT hZ17 (hw _ (List.mem_of_getElem? (i := 91) rfl)))) (mvT hZ17 (hw _ (List.mem_of_getElem? (i := 91) rfl))) (mvT hZ17 (hw _ (List.mem_of_getElem? (i := 90) rfl))) (by decide) (backOf (W := 0) (rm11nb l Z a0 hw [] b19 b12 b8 ((((0 : Int64) + (1 : Int64)) + (1 : Int64)) + (1 : Int64)) (((0 : Int64) + (1 : Int64)) + (1 : Int64)) ((0 : Int64) + (1 : Int64)) (.ref b4) T55.heap n0 (Nat.le_trans (Nat.le_trans (Nat.le_trans (Nat.le_trans (Nat.le_trans (Nat.le_trans (Nat.le_trans (Nat.le_trans (Nat.le_trans (Nat.le_trans (Nat.le_trans (Nat.le_trans (Nat.le_trans (Nat.le_trans (Nat.le_trans (Nat.le_trans (Nat.le_trans (Nat.le_trans (Nat.le_trans (Nat.le_trans Z0 E3.1) E4.1) E5.1) K6c.1) (Keep.of_wr W7).1) E8.1) E9.1) K10c.1) (Keep.of_wr W11).1) E12.1) E13.1) K14c.1) (Keep.of_wr W15).1) E16.1) E17.1) K18c.1) E19.1) K22c.1) K53c.1) K55c.1) ge_b19 E55_b19 F55_b19_front F55_b19_bringings ge_b12 E55_b12 F55_b12_nearerFront F55_b12_furtherBack F55_b12_frontedAt ge_b8 E55_b8 F55_b8_nearerFront F55_b8_furtherBack F55_b8_frontedAt (Ne.symm ne_b12_b19) (Ne.symm ne_b8_b19) (Ne.symm ne_b8_b12)) hZ17 (hw _ (List.mem_of_getElem? (i := 92) rfl)) (hw _ (List.mem_of_getElem? (i := 53) rfl)) (by decide) (by decide)) q59a q59c (g := (mkF m 197 #[.val (.int p1), .val (.int p2), .val (.int (3 : Int32)), .val (.int (0 : Int32)), .val (.ref b3), .val (.ref b16), .val (.ref b19), .val (.ref b12), .val (.int (1 : Int32)), .val (.int (2 : Int32)), .val (.ref b8), .val (.ref b4), .unset] [(.ref b12), (.ref b19)])) rfl (by rw [hml]; rfl) (Steps.refl _) (argsL := [(.ref b12)]) (rest := []) (lenOf pd_2 rfl) rfl (by show 2 * 0 + _ ≤ _; exact Nat.le_of_eq rfl) (hb hby at_197) (fun _ _ => ⟨rfl, rfl, (by decide : 18 + 0 ≤ _), (by decide : 69 + 0 ≤ _)⟩)
    dsimp only [Pt.U, Pt.locs, Pt.cells, Pt.slots] at X59 l59 y59 z59 st59 hQ59
    subst l59 y59 z59
    obtain ⟨rfl, N59q, K59c, F59_b19_front, F59_b19_bringings, F59_b12_nearerFront, F59_b12_furtherBack, F59_b12_frontedAt, F59_b8_nearerFront, F59_b8_furtherBack, F59_b8_frontedAt⟩ := hQ59
    have N59 := Fr.app N55 N59q
    have V59_b3 := V55_b3.keep K59c (ninS ne_b3_b19 (ninS ne_b3_b12 (ninS ne_b3_b8 nin0)))
    have E59_b4 := E55_b4.keep K59c
    have F59_b4_nearerFront := F55_b4_nearerFront.keep K59c (ninS ne_b4_b19 (ninS ne_b4_b12 (ninS ne_b4_b8 nin0)))
    have F59_b4_furtherBack := F55_b4_furtherBack.keep K59c (ninS ne_b4_b19 (ninS ne_b4_b12 (ninS ne_b4_b8 nin0)))
    have F59_b4_frontedAt := F55_b4_frontedAt.keep K59c (ninS ne_b4_b19 (ninS ne_b4_b12 (ninS ne_b4_b8 nin0)))
    have E59_b8 := E55_b8.keep K59c
    have E59_b12 := E55_b12.keep K59c
    have E59_b16 := E55_b16.keep K59c
    have F59_b16_nearerFront := F55_b16_nearerFront.keep K59c (ninS ne_b16_b19 (ninS (Ne.symm ne_b12_b16) (ninS (Ne.symm ne_b8_b16) nin0)))
    have F59_b16_furtherBack := F55_b16_furtherBack.keep K59c (ninS ne_b16_b19 (ninS (Ne.symm ne_b12_b16) (ninS (Ne.symm ne_b8_b16) nin0)))
    have F59_b16_frontedAt := F55_b16_frontedAt.keep K59c (ninS ne_b16_b19 (ninS (Ne.symm ne_b12_b16) (ninS (Ne.symm ne_b8_b16) nin0)))
    have E59_b19 := E55_b19.keep K59c
    obtain ⟨cq60, kq60, q60a, q60b, q60c⟩ := isOf hZ17 rfl E59_b12
    obtain ⟨_, _, ⟨T60, L60, k60, n60⟩, -, X60, ⟨Lc60, hQ60, l60, y60, z60⟩, st60⟩ := X59.virtualBack hx (y := (⟨"com/example/unhurried_reaper/unhurriedreaper/Task", "nearerFront", "()Lcom/example/unhurried_reaper/unhurriedreaper/Task;"⟩ : MethodName)) (z := (⟨"com/example/unhurried_reaper/unhurriedreaper/Task", "nearerFront", "()Lcom/example/unhurried_reaper/unhurriedreaper/Task;"⟩ : MethodName)) hown17 (mvT hZ17 (hw _ (List.mem_of_getElem? (i := 103) rfl))) (mvT hZ17 (hw _ (List.mem_of_getElem? (i := 66) rfl))) (notFace_of_selects (args := #[]) (mvT hZ17 (hw _ (List.mem_of_getElem? (i := 68) rfl)))) (mvT hZ17 (hw _ (List.mem_of_getElem? (i := 68) rfl))) (mvT hZ17 (hw _ (List.mem_of_getElem? (i := 67) rfl))) (by decide) (backOf (W := 0) (rm8N l Z a0 hw [] b12 T59.heap n0 (Nat.le_trans (Nat.le_trans (Nat.le_trans (Nat.le_trans (Nat.le_trans (Nat.le_trans (Nat.le_trans (Nat.le_trans (Nat.le_trans (Nat.le_trans (Nat.le_trans (Nat.le_trans (Nat.le_trans (Nat.le_trans (Nat.le_trans (Nat.le_trans (Nat.le_trans (Nat.le_trans (Nat.le_trans (Nat.le_trans (Nat.le_trans Z0 E3.1) E4.1) E5.1) K6c.1) (Keep.of_wr W7).1) E8.1) E9.1) K10c.1) (Keep.of_wr W11).1) E12.1) E13.1) K14c.1) (Keep.of_wr W15).1) E16.1) E17.1) K18c.1) E19.1) K22c.1) K53c.1) K55c.1) K59c.1) F59_b12_nearerFront) hZ17 (hw _ (List.mem_of_getElem? (i := 69) rfl)) (hw _ (List.mem_of_getElem? (i := 4) rfl)) (by decide) (by decide)) q60a q60c (g := (mkF m 202 #[.val (.int p1), .val (.int p2), .val (.int (3 : Int32)), .val (.int (0 : Int32)), .val (.ref b3), .val (.ref b16), .val (.ref b19), .val (.ref b12), .val (.int (1 : Int32)), .val (.int (2 : Int32)), .val (.ref b8), .val (.ref b4), .unset] [(.ref b12)])) rfl (by rw [hml]; rfl) (Steps.refl _) (argsL := []) (rest := []) (lenOf pd_1 rfl) rfl (by show 2 * 0 + _ ≤ _; exact Nat.le_of_eq rfl) (hb hby at_202) (fun _ _ => ⟨rfl, rfl, (by decide : 18 + 0 ≤ _), (by decide : 69 + 0 ≤ _)⟩)
    dsimp only [Pt.U, Pt.locs, Pt.cells, Pt.slots] at X60 l60 y60 z60 st60 hQ60
    subst l60 y60 z60
    obtain ⟨rfl, N60q, eh60⟩ := hQ60
    have N60 := Fr.app N59 N60q
    obtain ⟨cq61, kq61, q61a, q61b, q61c⟩ := isOf hZ17 eh60 E59_b12
    obtain ⟨_, _, ⟨T61, L61, k61, n61⟩, -, X61, ⟨Lc61, hQ61, l61, y61, z61⟩, st61⟩ := X60.virtualBack hx (y := (⟨"com/example/unhurried_reaper/unhurriedreaper/Task", "furtherBack", "()Lcom/example/unhurried_reaper/unhurriedreaper/Task;"⟩ : MethodName)) (z := (⟨"com/example/unhurried_reaper/unhurriedreaper/Task", "furtherBack", "()Lcom/example/unhurried_reaper/unhurriedreaper/Task;"⟩ : MethodName)) hown17 (mvT hZ17 (hw _ (List.mem_of_getElem? (i := 104) rfl))) (mvT hZ17 (hw _ (List.mem_of_getElem? (i := 94) rfl))) (notFace_of_selects (args := #[]) (mvT hZ17 (hw _ (List.mem_of_getElem? (i := 96) rfl)))) (mvT hZ17 (hw _ (List.mem_of_getElem? (i := 96) rfl))) (mvT hZ17 (hw _ (List.mem_of_getElem? (i := 95) rfl))) (by decide) (backOf (W := 0) (rm12N l Z a0 hw [] b12 T59.heap n0 (Nat.le_trans (Nat.le_trans (Nat.le_trans (Nat.le_trans (Nat.le_trans (Nat.le_trans (Nat.le_trans (Nat.le_trans (Nat.le_trans (Nat.le_trans (Nat.le_trans (Nat.le_trans (Nat.le_trans (Nat.le_trans (Nat.le_trans (Nat.le_trans (Nat.le_trans (Nat.le_trans (Nat.le_trans (Nat.le_trans (Nat.le_trans Z0 E3.1) E4.1) E5.1) K6c.1) (Keep.of_wr W7).1) E8.1) E9.1) K10c.1) (Keep.of_wr W11).1) E12.1) E13.1) K14c.1) (Keep.of_wr W15).1) E16.1) E17.1) K18c.1) E19.1) K22c.1) K53c.1) K55c.1) K59c.1) F59_b12_furtherBack) hZ17 (hw _ (List.mem_of_getElem? (i := 97) rfl)) (hw _ (List.mem_of_getElem? (i := 4) rfl)) (by decide) (by decide)) q61a q61c (g := (mkF m 210 #[.val (.int p1), .val (.int p2), .val (.int (3 : Int32)), .val (.int (0 : Int32)), .val (.ref b3), .val (.ref b16), .val (.ref b19), .val (.ref b12), .val (.int (1 : Int32)), .val (.int (2 : Int32)), .val (.ref b8), .val (.ref b4), .unset] [(.ref b12)])) rfl (by rw [hml]; rfl) (Steps.refl _) (argsL := []) (rest := []) (lenOf pd_1 rfl) rfl (by show 2 * 0 + _ ≤ _; exact Nat.le_of_eq rfl) (hb hby at_210) (fun _ _ => ⟨rfl, eh60, (by decide : 18 + 0 ≤ _), (by decide : 69 + 0 ≤ _)⟩)
    dsimp only [Pt.U, Pt.locs, Pt.cells, Pt.slots] at X61 l61 y61 z61 st61 hQ61
    subst l61 y61 z61
    obtain ⟨rfl, N61q, eh61⟩ := hQ61
    have N61 := Fr.app N60 N61q
    obtain ⟨cq62, kq62, q62a, q62b, q62c⟩ := isOf hZ17 eh61 E59_b19
    obtain ⟨_, _, ⟨T62, L62, k62, n62⟩, -, X62, ⟨Lc62, hQ62, l62, y62, z62⟩, st62⟩ := X61.virtualBack hx (y := (⟨"com/example/unhurried_reaper/unhurriedreaper/TaskHistory", "toFront", "(Lcom/example/unhurried_reaper/unhurriedreaper/Task;)V"⟩ : MethodName)) (z := (⟨"com/example/unhurried_reaper/unhurriedreaper/TaskHistory", "toFront", "(Lcom/example/unhurried_reaper/unhurriedreaper/Task;)V"⟩ : MethodName)) hown17 (mvT hZ17 (hw _ (List.mem_of_getElem? (i := 58) rfl))) (mvT hZ17 (hw _ (List.mem_of_getElem? (i := 59) rfl))) (notFace_of_selects (args := #[]) (mvT hZ17 (hw _ (List.mem_of_getElem? (i := 61) rfl)))) (mvT hZ17 (hw _ (List.mem_of_getElem? (i := 61) rfl))) (mvT hZ17 (hw _ (List.mem_of_getElem? (i := 60) rfl))) (by decide) (backOf (W := 0) (rm7b l Z a0 hw [] b19 b16 b8 ((((0 : Int64) + (1 : Int64)) + (1 : Int64)) + (1 : Int64)) (0 : Int64) ((0 : Int64) + (1 : Int64)) (.ref b4) T59.heap n0 (Nat.le_trans (Nat.le_trans (Nat.le_trans (Nat.le_trans (Nat.le_trans (Nat.le_trans (Nat.le_trans (Nat.le_trans (Nat.le_trans (Nat.le_trans (Nat.le_trans (Nat.le_trans (Nat.le_trans (Nat.le_trans (Nat.le_trans (Nat.le_trans (Nat.le_trans (Nat.le_trans (Nat.le_trans (Nat.le_trans (Nat.le_trans Z0 E3.1) E4.1) E5.1) K6c.1) (Keep.of_wr W7).1) E8.1) E9.1) K10c.1) (Keep.of_wr W11).1) E12.1) E13.1) K14c.1) (Keep.of_wr W15).1) E16.1) E17.1) K18c.1) E19.1) K22c.1) K53c.1) K55c.1) K59c.1) ge_b19 E59_b19 F59_b19_front F59_b19_bringings ge_b16 E59_b16 F59_b16_nearerFront F59_b16_furtherBack F59_b16_frontedAt ge_b8 E59_b8 F59_b8_nearerFront F59_b8_furtherBack F59_b8_frontedAt (Ne.symm ne_b16_b19) (Ne.symm ne_b8_b19) (Ne.symm ne_b8_b16)) hZ17 (hw _ (List.mem_of_getElem? (i := 62) rfl)) (hw _ (List.mem_of_getElem? (i := 53) rfl)) (by decide) (by decide)) q62a q62c (g := (mkF m 227 #[.val (.int p1), .val (.int p2), .val (.int (3 : Int32)), .val (.int (0 : Int32)), .val (.ref b3), .val (.ref b16), .val (.ref b19), .val (.ref b12), .val (.int (1 : Int32)), .val (.int (2 : Int32)), .val (.ref b8), .val (.ref b4), .val (.int (1 : Int32))] [(.ref b16), (.ref b19)])) rfl (by rw [hml]; rfl) (Steps.refl _) (argsL := [(.ref b16)]) (rest := []) (lenOf pd_2 rfl) rfl (by show 2 * 0 + _ ≤ _; exact Nat.le_of_eq rfl) (hb hby at_227) (fun _ _ => ⟨rfl, eh61, (by decide : 18 + 0 ≤ _), (by decide : 69 + 0 ≤ _)⟩)
    dsimp only [Pt.U, Pt.locs, Pt.cells, Pt.slots] at X62 l62 y62 z62 st62 hQ62
    subst l62 y62 z62
    obtain ⟨rfl, N62q, K62c, F62_b19_front, F62_b19_bringings, F62_b16_nearerFront, F62_b16_furtherBack, F62_b16_frontedAt, F62_b8_nearerFront, F62_b8_furtherBack, F62_b8_frontedAt⟩ := hQ62
    have N62 := Fr.app N61 N62q
    have V62_b3 := V59_b3.keep K62c (ninS ne_b3_b19 (ninS ne_b3_b16 (ninS ne_b3_b8 nin0)))
    have E62_b4 := E59_b4.keep K62c
    have F62_b4_nearerFront := F59_b4_nearerFront.keep K62c (ninS ne_b4_b19 (ninS ne_b4_b16 (ninS ne_b4_b8 nin0)))
    have F62_b4_furtherBack := F59_b4_furtherBack.keep K62c (ninS ne_b4_b19 (ninS ne_b4_b16 (ninS ne_b4_b8 nin0)))
    have F62_b4_frontedAt := F59_b4_frontedAt.keep K62c (ninS ne_b4_b19 (ninS ne_b4_b16 (ninS ne_b4_b8 nin0)))
    have E62_b8 := E59_b8.keep K62c
    have E62_b12 := E59_b12.keep K62c
    have F62_b12_nearerFront := F59_b12_nearerFront.keep K62c (ninS ne_b12_b19 (ninS ne_b12_b16 (ninS (Ne.symm ne_b8_b12) nin0)))
    have F62_b12_furtherBack := F59_b12_furtherBack.keep K62c (ninS ne_b12_b19 (ninS ne_b12_b16 (ninS (Ne.symm ne_b8_b12) nin0)))
    have F62_b12_frontedAt := F59_b12_frontedAt.keep K62c (ninS ne_b12_b19 (ninS ne_b12_b16 (ninS (Ne.symm ne_b8_b12) nin0)))
    have E62_b16 := E59_b16.keep K62c
    have E62_b19 := E59_b19.keep K62c
    obtain ⟨cq63, kq63, q63a, q63b, q63c⟩ := isOf hZ17 rfl E62_b16
    obtain ⟨_, _, ⟨T63, L63, k63, n63⟩, -, X63, ⟨Lc63, hQ63, l63, y63, z63⟩, st63⟩ := X62.virtualBack hx (y := (⟨"com/example/unhurried_reaper/unhurriedreaper/Task", "furtherBack", "()Lcom/example/unhurried_reaper/unhurriedreaper/Task;"⟩ : MethodName)) (z := (⟨"com/example/unhurried_reaper/unhurriedreaper/Task", "furtherBack", "()Lcom/example/unhurried_reaper/unhurriedreaper/Task;"⟩ : MethodName)) hown17 (mvT hZ17 (hw _ (List.mem_of_getElem? (i := 104) rfl))) (mvT hZ17 (hw _ (List.mem_of_getElem? (i := 94) rfl))) (notFace_of_selects (args := #[]) (mvT hZ17 (hw _ (List.mem_of_getElem? (i := 96) rfl)))) (mvT hZ17 (hw _ (List.mem_of_getElem? (i := 96) rfl))) (mvT hZ17 (hw _ (List.mem_of_getElem? (i := 95) rfl))) (by decide) (backOf (W := 0) (rm12R l Z a0 hw [] b16 b8 T62.heap n0 (Nat.le_trans (Nat.le_trans (Nat.le_trans (Nat.le_trans (Nat.le_trans (Nat.le_trans (Nat.le_trans (Nat.le_trans (Nat.le_trans (Nat.le_trans (Nat.le_trans (Nat.le_trans (Nat.le_trans (Nat.le_trans (Nat.le_trans (Nat.le_trans (Nat.le_trans (Nat.le_trans (Nat.le_trans (Nat.le_trans (Nat.le_trans (Nat.le_trans Z0 E3.1) E4.1) E5.1) K6c.1) (Keep.of_wr W7).1) E8.1) E9.1) K10c.1) (Keep.of_wr W11).1) E12.1) E13.1) K14c.1) (Keep.of_wr W15).1) E16.1) E17.1) K18c.1) E19.1) K22c.1) K53c.1) K55c.1) K59c.1) K62c.1) F62_b16_furtherBack) hZ17 (hw _ (List.mem_of_getElem? (i := 97) rfl)) (hw _ (List.mem_of_getElem? (i := 4) rfl)) (by decide) (by decide)) q63a q63c (g := (mkF m 237 #[.val (.int p1), .val (.int p2), .val (.int (3 : Int32)), .val (.int (0 : Int32)), .val (.ref b3), .val (.ref b16), .val (.ref b19), .val (.ref b12), .val (.int (1 : Int32)), .val (.int (2 : Int32)), .val (.ref b8), .val (.ref b4), .val (.int (1 : Int32))] [(.ref b16)])) rfl (by rw [hml]; rfl) (Steps.refl _) (argsL := []) (rest := []) (lenOf pd_1 rfl) rfl (by show 2 * 0 + _ ≤ _; exact Nat.le_of_eq rfl) (hb hby at_237) (fun _ _ => ⟨rfl, rfl, (by decide : 18 + 0 ≤ _), (by decide : 69 + 0 ≤ _)⟩)
    dsimp only [Pt.U, Pt.locs, Pt.cells, Pt.slots] at X63 l63 y63 z63 st63 hQ63
    subst l63 y63 z63
    obtain ⟨rfl, N63q, eh63⟩ := hQ63
    have N63 := Fr.app N62 N63q
    obtain ⟨cq64, kq64, q64a, q64b, q64c⟩ := isOf hZ17 eh63 E62_b8
    obtain ⟨_, _, ⟨T64, L64, k64, n64⟩, -, X64, ⟨Lc64, hQ64, l64, y64, z64⟩, st64⟩ := X63.virtualBack hx (y := (⟨"com/example/unhurried_reaper/unhurriedreaper/Task", "nearerFront", "()Lcom/example/unhurried_reaper/unhurriedreaper/Task;"⟩ : MethodName)) (z := (⟨"com/example/unhurried_reaper/unhurriedreaper/Task", "nearerFront", "()Lcom/example/unhurried_reaper/unhurriedreaper/Task;"⟩ : MethodName)) hown17 (mvT hZ17 (hw _ (List.mem_of_getElem? (i := 103) rfl))) (mvT hZ17 (hw _ (List.mem_of_getElem? (i := 66) rfl))) (notFace_of_selects (args := #[]) (mvT hZ17 (hw _ (List.mem_of_getElem? (i := 68) rfl)))) (mvT hZ17 (hw _ (List.mem_of_getElem? (i := 68) rfl))) (mvT hZ17 (hw _ (List.mem_of_getElem? (i := 67) rfl))) (by decide) (backOf (W := 0) (rm8R l Z a0 hw [] b8 b16 T62.heap n0 (Nat.le_trans (Nat.le_trans (Nat.le_trans (Nat.le_trans (Nat.le_trans (Nat.le_trans (Nat.le_trans (Nat.le_trans (Nat.le_trans (Nat.le_trans (Nat.le_trans (Nat.le_trans (Nat.le_trans (Nat.le_trans (Nat.le_trans (Nat.le_trans (Nat.le_trans (Nat.le_trans (Nat.le_trans (Nat.le_trans (Nat.le_trans (Nat.le_trans Z0 E3.1) E4.1) E5.1) K6c.1) (Keep.of_wr W7).1) E8.1) E9.1) K10c.1) (Keep.of_wr W11).1) E12.1) E13.1) K14c.1) (Keep.of_wr W15).1) E16.1) E17.1) K18c.1) E19.1) K22c.1) K53c.1) K55c.1) K59c.1) K62c.1) F62_b8_nearerFront) hZ17 (hw _ (List.mem_of_getElem? (i := 69) rfl)) (hw _ (List.mem_of_getElem? (i := 4) rfl)) (by decide) (by decide)) q64a q64c (g := (mkF m 264 #[.val (.int p1), .val (.int p2), .val (.int (3 : Int32)), .val (.int (0 : Int32)), .val (.ref b3), .val (.ref b16), .val (.ref b19), .val (.ref b12), .val (.int (1 : Int32)), .val (.int (2 : Int32)), .val (.ref b8), .val (.ref b4), .val (.int (1 : Int32))] [(.ref b8)])) rfl (by rw [hml]; rfl) (Steps.refl _) (argsL := []) (rest := []) (lenOf pd_1 rfl) rfl (by show 2 * 0 + _ ≤ _; exact Nat.le_of_eq rfl) (hb hby at_264) (fun _ _ => ⟨rfl, eh63, (by decide : 18 + 0 ≤ _), (by decide : 69 + 0 ≤ _)⟩)
    dsimp only [Pt.U, Pt.locs, Pt.cells, Pt.slots] at X64 l64 y64 z64 st64 hQ64
    subst l64 y64 z64
    obtain ⟨rfl, N64q, eh64⟩ := hQ64
    have N64 := Fr.app N63 N64q
    obtain ⟨cq65, kq65, q65a, q65b, q65c⟩ := isOf hZ17 eh64 E62_b8
    obtain ⟨_, _, ⟨T65, L65, k65, n65⟩, -, X65, ⟨Lc65, hQ65, l65, y65, z65⟩, st65⟩ := X64.virtualBack hx (y := (⟨"com/example/unhurried_reaper/unhurriedreaper/Task", "furtherBack", "()Lcom/example/unhurried_reaper/unhurriedreaper/Task;"⟩ : MethodName)) (z := (⟨"com/example/unhurried_reaper/unhurriedreaper/Task", "furtherBack", "()Lcom/example/unhurried_reaper/unhurriedreaper/Task;"⟩ : MethodName)) hown17 (mvT hZ17 (hw _ (List.mem_of_getElem? (i := 104) rfl))) (mvT hZ17 (hw _ (List.mem_of_getElem? (i := 94) rfl))) (notFace_of_selects (args := #[]) (mvT hZ17 (hw _ (List.mem_of_getElem? (i := 96) rfl)))) (mvT hZ17 (hw _ (List.mem_of_getElem? (i := 96) rfl))) (mvT hZ17 (hw _ (List.mem_of_getElem? (i := 95) rfl))) (by decide) (backOf (W := 0) (rm12R l Z a0 hw [] b8 b4 T62.heap n0 (Nat.le_trans (Nat.le_trans (Nat.le_trans (Nat.le_trans (Nat.le_trans (Nat.le_trans (Nat.le_trans (Nat.le_trans (Nat.le_trans (Nat.le_trans (Nat.le_trans (Nat.le_trans (Nat.le_trans (Nat.le_trans (Nat.le_trans (Nat.le_trans (Nat.le_trans (Nat.le_trans (Nat.le_trans (Nat.le_trans (Nat.le_trans (Nat.le_trans Z0 E3.1) E4.1) E5.1) K6c.1) (Keep.of_wr W7).1) E8.1) E9.1) K10c.1) (Keep.of_wr W11).1) E12.1) E13.1) K14c.1) (Keep.of_wr W15).1) E16.1) E17.1) K18c.1) E19.1) K22c.1) K53c.1) K55c.1) K59c.1) K62c.1) F62_b8_furtherBack) hZ17 (hw _ (List.mem_of_getElem? (i := 97) rfl)) (hw _ (List.mem_of_getElem? (i := 4) rfl)) (by decide) (by decide)) q65a q65c (g := (mkF m 274 #[.val (.int p1), .val (.int p2), .val (.int (3 : Int32)), .val (.int (0 : Int32)), .val (.ref b3), .val (.ref b16), .val (.ref b19), .val (.ref b12), .val (.int (1 : Int32)), .val (.int (2 : Int32)), .val (.ref b8), .val (.ref b4), .val (.int (1 : Int32))] [(.ref b8)])) rfl (by rw [hml]; rfl) (Steps.refl _) (argsL := []) (rest := []) (lenOf pd_1 rfl) rfl (by show 2 * 0 + _ ≤ _; exact Nat.le_of_eq rfl) (hb hby at_274) (fun _ _ => ⟨rfl, eh64, (by decide : 18 + 0 ≤ _), (by decide : 69 + 0 ≤ _)⟩)
    dsimp only [Pt.U, Pt.locs, Pt.cells, Pt.slots] at X65 l65 y65 z65 st65 hQ65
    subst l65 y65 z65
    obtain ⟨rfl, N65q, eh65⟩ := hQ65
    have N65 := Fr.app N64 N65q
    obtain ⟨cq66, kq66, q66a, q66b, q66c⟩ := isOf hZ17 eh65 E62_b4
    obtain ⟨_, _, ⟨T66, L66, k66, n66⟩, -, X66, ⟨Lc66, hQ66, l66, y66, z66⟩, st66⟩ := X65.virtualBack hx (y := (⟨"com/example/unhurried_reaper/unhurriedreaper/Task", "nearerFront", "()Lcom/example/unhurried_reaper/unhurriedreaper/Task;"⟩ : MethodName)) (z := (⟨"com/example/unhurried_reaper/unhurriedreaper/Task", "nearerFront", "()Lcom/example/unhurried_reaper/unhurriedreaper/Task;"⟩ : MethodName)) hown17 (mvT hZ17 (hw _ (List.mem_of_getElem? (i := 103) rfl))) (mvT hZ17 (hw _ (List.mem_of_getElem? (i := 66) rfl))) (notFace_of_selects (args := #[]) (mvT hZ17 (hw _ (List.mem_of_getElem? (i := 68) rfl)))) (mvT hZ17 (hw _ (List.mem_of_getElem? (i := 68) rfl))) (mvT hZ17 (hw _ (List.mem_of_getElem? (i := 67) rfl))) (by decide) (backOf (W := 0) (rm8R l Z a0 hw [] b4 b8 T62.heap n0 (Nat.le_trans (Nat.le_trans (Nat.le_trans (Nat.le_trans (Nat.le_trans (Nat.le_trans (Nat.le_trans (Nat.le_trans (Nat.le_trans (Nat.le_trans (Nat.le_trans (Nat.le_trans (Nat.le_trans (Nat.le_trans (Nat.le_trans (Nat.le_trans (Nat.le_trans (Nat.le_trans (Nat.le_trans (Nat.le_trans (Nat.le_trans (Nat.le_trans Z0 E3.1) E4.1) E5.1) K6c.1) (Keep.of_wr W7).1) E8.1) E9.1) K10c.1) (Keep.of_wr W11).1) E12.1) E13.1) K14c.1) (Keep.of_wr W15).1) E16.1) E17.1) K18c.1) E19.1) K22c.1) K53c.1) K55c.1) K59c.1) K62c.1) F62_b4_nearerFront) hZ17 (hw _ (List.mem_of_getElem? (i := 69) rfl)) (hw _ (List.mem_of_getElem? (i := 4) rfl)) (by decide) (by decide)) q66a q66c (g := (mkF m 301 #[.val (.int p1), .val (.int p2), .val (.int (3 : Int32)), .val (.int (0 : Int32)), .val (.ref b3), .val (.ref b16), .val (.ref b19), .val (.ref b12), .val (.int (1 : Int32)), .val (.int (2 : Int32)), .val (.ref b8), .val (.ref b4), .val (.int (1 : Int32))] [(.ref b4)])) rfl (by rw [hml]; rfl) (Steps.refl _) (argsL := []) (rest := []) (lenOf pd_1 rfl) rfl (by show 2 * 0 + _ ≤ _; exact Nat.le_of_eq rfl) (hb hby at_301) (fun _ _ => ⟨rfl, eh65, (by decide : 18 + 0 ≤ _), (by decide : 69 + 0 ≤ _)⟩)
    dsimp only [Pt.U, Pt.locs, Pt.cells, Pt.slots] at X66 l66 y66 z66 st66 hQ66
    subst l66 y66 z66
    obtain ⟨rfl, N66q, eh66⟩ := hQ66
    have N66 := Fr.app N65 N66q
    obtain ⟨cq67, kq67, q67a, q67b, q67c⟩ := isOf hZ17 eh66 E62_b4
    obtain ⟨_, _, ⟨T67, L67, k67, n67⟩, -, X67, ⟨Lc67, hQ67, l67, y67, z67⟩, st67⟩ := X66.virtualBack hx (y := (⟨"com/example/unhurried_reaper/unhurriedreaper/Task", "furtherBack", "()Lcom/example/unhurried_reaper/unhurriedreaper/Task;"⟩ : MethodName)) (z := (⟨"com/example/unhurried_reaper/unhurriedreaper/Task", "furtherBack", "()Lcom/example/unhurried_reaper/unhurriedreaper/Task;"⟩ : MethodName)) hown17 (mvT hZ17 (hw _ (List.mem_of_getElem? (i := 104) rfl))) (mvT hZ17 (hw _ (List.mem_of_getElem? (i := 94) rfl))) (notFace_of_selects (args := #[]) (mvT hZ17 (hw _ (List.mem_of_getElem? (i := 96) rfl)))) (mvT hZ17 (hw _ (List.mem_of_getElem? (i := 96) rfl))) (mvT hZ17 (hw _ (List.mem_of_getElem? (i := 95) rfl))) (by decide) (backOf (W := 0) (rm12N l Z a0 hw [] b4 T62.heap n0 (Nat.le_trans (Nat.le_trans (Nat.le_trans (Nat.le_trans (Nat.le_trans (Nat.le_trans (Nat.le_trans (Nat.le_trans (Nat.le_trans (Nat.le_trans (Nat.le_trans (Nat.le_trans (Nat.le_trans (Nat.le_trans (Nat.le_trans (Nat.le_trans (Nat.le_trans (Nat.le_trans (Nat.le_trans (Nat.le_trans (Nat.le_trans (Nat.le_trans Z0 E3.1) E4.1) E5.1) K6c.1) (Keep.of_wr W7).1) E8.1) E9.1) K10c.1) (Keep.of_wr W11).1) E12.1) E13.1) K14c.1) (Keep.of_wr W15).1) E16.1) E17.1) K18c.1) E19.1) K22c.1) K53c.1) K55c.1) K59c.1) K62c.1) F62_b4_furtherBack) hZ17 (hw _ (List.mem_of_getElem? (i := 97) rfl)) (hw _ (List.mem_of_getElem? (i := 4) rfl)) (by decide) (by decide)) q67a q67c (g := (mkF m 311 #[.val (.int p1), .val (.int p2), .val (.int (3 : Int32)), .val (.int (0 : Int32)), .val (.ref b3), .val (.ref b16), .val (.ref b19), .val (.ref b12), .val (.int (1 : Int32)), .val (.int (2 : Int32)), .val (.ref b8), .val (.ref b4), .val (.int (1 : Int32))] [(.ref b4)])) rfl (by rw [hml]; rfl) (Steps.refl _) (argsL := []) (rest := []) (lenOf pd_1 rfl) rfl (by show 2 * 0 + _ ≤ _; exact Nat.le_of_eq rfl) (hb hby at_311) (fun _ _ => ⟨rfl, eh66, (by decide : 18 + 0 ≤ _), (by decide : 69 + 0 ≤ _)⟩)
    dsimp only [Pt.U, Pt.locs, Pt.cells, Pt.slots] at X67 l67 y67 z67 st67 hQ67
    subst l67 y67 z67
    obtain ⟨rfl, N67q, eh67⟩ := hQ67
    have N67 := Fr.app N66 N67q
    obtain ⟨fs, hr, hrun, hended, hRW⟩ := X67.leaveW hS17 (by rw [eh67]; exact (Nat.le_trans (Nat.le_trans (Nat.le_trans (Nat.le_trans (Nat.le_trans (Nat.le_trans (Nat.le_trans hk17 K18c.1) E19.1) K22c.1) K53c.1) K55c.1) K59c.1) K62c.1)) (v := some (.int (1 : Int32))) (fun h => by rw [Bd.returns] at h; cases h)
    refine ⟨_, _, go23 _ ?_, hrun, hended, _, _, rfl, ?_, ⟨hRW.1, hRW.2.1, hRW.2.2.1, hRW.2.2.2.mono (by decide) (by decide)⟩⟩
    · show Steps p.tables e below (T22.setTop (mkF m 90 #[.val (.int p1), .val (.int p2), .val (.int (3 : Int32)), .val (.int (0 : Int32)), .val (.ref b3), .val (.ref b16), .val (.ref b19), .unset, .unset, .unset, .unset, .unset, .unset] [])) _
      refine XS.iloadN X22.here hx rfl (hb hby at_90) rfl ?_
      show Steps p.tables e below (T22.setTop (mkF m 91 #[.val (.int p1), .val (.int p2), .val (.int (3 : Int32)), .val (.int (0 : Int32)), .val (.ref b3), .val (.ref b16), .val (.ref b19), .unset, .unset, .unset, .unset, .unset, .unset] [(.int (3 : Int32))])) _
      refine XS.iconst X22.here hx rfl (hb hby at_91) ?_
      show Steps p.tables e below (T22.setTop (mkF m 92 #[.val (.int p1), .val (.int p2), .val (.int (3 : Int32)), .val (.int (0 : Int32)), .val (.ref b3), .val (.ref b16), .val (.ref b19), .unset, .unset, .unset, .unset, .unset, .unset] [(.int (2 : Int32)), (.int (3 : Int32))])) _
      refine XS.icmpNo X22.here hx rfl (hb hby at_92) rfl (flt (by decide)).1 ?_
      show Steps p.tables e below (T22.setTop (mkF m 95 #[.val (.int p1), .val (.int p2), .val (.int (3 : Int32)), .val (.int (0 : Int32)), .val (.ref b3), .val (.ref b16), .val (.ref b19), .unset, .unset, .unset, .unset, .unset, .unset] [])) _
      refine XS.aload X22.here hx rfl (hb hby at_95) rfl rfl ?_
      show Steps p.tables e below (T22.setTop (mkF m 97 #[.val (.int p1), .val (.int p2), .val (.int (3 : Int32)), .val (.int (0 : Int32)), .val (.ref b3), .val (.ref b16), .val (.ref b19), .unset, .unset, .unset, .unset, .unset, .unset] [(.ref b19)])) _
      refine XS.aload X22.here hx rfl (hb hby at_97) rfl rfl ?_
      show Steps p.tables e below (T22.setTop (mkF m 99 #[.val (.int p1), .val (.int p2), .val (.int (3 : Int32)), .val (.int (0 : Int32)), .val (.ref b3), .val (.ref b16), .val (.ref b19), .unset, .unset, .unset, .unset, .unset, .unset] [(.ref b3), (.ref b19)])) _
      refine XS.iconst X22.here hx rfl (hb hby at_99) ?_
      show Steps p.tables e below (T22.setTop (mkF m 100 #[.val (.int p1), .val (.int p2), .val (.int (3 : Int32)), .val (.int (0 : Int32)), .val (.ref b3), .val (.ref b16), .val (.ref b19), .unset, .unset, .unset, .unset, .unset, .unset] [(.int (1 : Int32)), (.ref b3), (.ref b19)])) _
      refine X22.aaload hx (j := (1 : Int32)) (v := (.ref b8)) Ar52.1 (State.isArrayOf_alike hZ17.alike Ar52.2.1) rfl Ar52.2.2 hin52 hat52 (g := (mkF m 100 #[.val (.int p1), .val (.int p2), .val (.int (3 : Int32)), .val (.int (0 : Int32)), .val (.ref b3), .val (.ref b16), .val (.ref b19), .unset, .unset, .unset, .unset, .unset, .unset] [(.int (1 : Int32)), (.ref b3), (.ref b19)])) rfl rfl (hb hby at_100) _ ?_
      show Steps p.tables e below (T22.setTop (mkF m 101 #[.val (.int p1), .val (.int p2), .val (.int (3 : Int32)), .val (.int (0 : Int32)), .val (.ref b3), .val (.ref b16), .val (.ref b19), .unset, .unset, .unset, .unset, .unset, .unset] [(.ref b8), (.ref b19)])) _
      refine st53.trans ?_
      show Steps p.tables e below (T53.setTop (mkF m 104 #[.val (.int p1), .val (.int p2), .val (.int (3 : Int32)), .val (.int (0 : Int32)), .val (.ref b3), .val (.ref b16), .val (.ref b19), .unset, .unset, .unset, .unset, .unset, .unset] [])) _
      refine XS.iloadN X53.here hx rfl (hb hby at_104) rfl ?_
      show Steps p.tables e below (T53.setTop (mkF m 105 #[.val (.int p1), .val (.int p2), .val (.int (3 : Int32)), .val (.int (0 : Int32)), .val (.ref b3), .val (.ref b16), .val (.ref b19), .unset, .unset, .unset, .unset, .unset, .unset] [(.int (3 : Int32))])) _
      refine XS.iconst X53.here hx rfl (hb hby at_105) ?_
      show Steps p.tables e below (T53.setTop (mkF m 106 #[.val (.int p1), .val (.int p2), .val (.int (3 : Int32)), .val (.int (0 : Int32)), .val (.ref b3), .val (.ref b16), .val (.ref b19), .unset, .unset, .unset, .unset, .unset, .unset] [(.int (3 : Int32)), (.int (3 : Int32))])) _
      refine XS.icmpNo X53.here hx rfl (hb hby at_106) rfl (flt (by decide)).1 ?_
      show Steps p.tables e below (T53.setTop (mkF m 109 #[.val (.int p1), .val (.int p2), .val (.int (3 : Int32)), .val (.int (0 : Int32)), .val (.ref b3), .val (.ref b16), .val (.ref b19), .unset, .unset, .unset, .unset, .unset, .unset] [])) _
      refine XS.aload X53.here hx rfl (hb hby at_109) rfl rfl ?_
      show Steps p.tables e below (T53.setTop (mkF m 111 #[.val (.int p1), .val (.int p2), .val (.int (3 : Int32)), .val (.int (0 : Int32)), .val (.ref b3), .val (.ref b16), .val (.ref b19), .unset, .unset, .unset, .unset, .unset, .unset] [(.ref b19)])) _
      refine XS.aload X53.here hx rfl (hb hby at_111) rfl rfl ?_
      show Steps p.tables e below (T53.setTop (mkF m 113 #[.val (.int p1), .val (.int p2), .val (.int (3 : Int32)), .val (.int (0 : Int32)), .val (.ref b3), .val (.ref b16), .val (.ref b19), .unset, .unset, .unset, .unset, .unset, .unset] [(.ref b3), (.ref b19)])) _
      refine XS.iconst X53.here hx rfl (hb hby at_113) ?_
      show Steps p.tables e below (T53.setTop (mkF m 114 #[.val (.int p1), .val (.int p2), .val (.int (3 : Int32)), .val (.int (0 : Int32)), .val (.ref b3), .val (.ref b16), .val (.ref b19), .unset, .unset, .unset, .unset, .unset, .unset] [(.int (2 : Int32)), (.ref b3), (.ref b19)])) _
      refine X53.aaload hx (j := (2 : Int32)) (v := (.ref b12)) Ar54.1 (State.isArrayOf_alike hZ17.alike Ar54.2.1) rfl Ar54.2.2 hin54 hat54 (g := (mkF m 114 #[.val (.int p1), .val (.int p2), .val (.int (3 : Int32)), .val (.int (0 : Int32)), .val (.ref b3), .val (.ref b16), .val (.ref b19), .unset, .unset, .unset, .unset, .unset, .unset] [(.int (2 : Int32)), (.ref b3), (.ref b19)])) rfl rfl (hb hby at_114) _ ?_
      show Steps p.tables e below (T53.setTop (mkF m 115 #[.val (.int p1), .val (.int p2), .val (.int (3 : Int32)), .val (.int (0 : Int32)), .val (.ref b3), .val (.ref b16), .val (.ref b19), .unset, .unset, .unset, .unset, .unset, .unset] [(.ref b12), (.ref b19)])) _
      refine st55.trans ?_
      show Steps p.tables e below (T55.setTop (mkF m 118 #[.val (.int p1), .val (.int p2), .val (.int (3 : Int32)), .val (.int (0 : Int32)), .val (.ref b3), .val (.ref b16), .val (.ref b19), .unset, .unset, .unset, .unset, .unset, .unset] [])) _
      refine XS.aload X55.here hx rfl (hb hby at_118) rfl rfl ?_
      show Steps p.tables e below (T55.setTop (mkF m 120 #[.val (.int p1), .val (.int p2), .val (.int (3 : Int32)), .val (.int (0 : Int32)), .val (.ref b3), .val (.ref b16), .val (.ref b19), .unset, .unset, .unset, .unset, .unset, .unset] [(.ref b3)])) _
      refine XS.iloadN X55.here hx rfl (hb hby at_120) rfl ?_
      show Steps p.tables e below (T55.setTop (mkF m 121 #[.val (.int p1), .val (.int p2), .val (.int (3 : Int32)), .val (.int (0 : Int32)), .val (.ref b3), .val (.ref b16), .val (.ref b19), .unset, .unset, .unset, .unset, .unset, .unset] [(.int (3 : Int32)), (.ref b3)])) _
      refine XS.iconst X55.here hx rfl (hb hby at_121) ?_
      show Steps p.tables e below (T55.setTop (mkF m 122 #[.val (.int p1), .val (.int p2), .val (.int (3 : Int32)), .val (.int (0 : Int32)), .val (.ref b3), .val (.ref b16), .val (.ref b19), .unset, .unset, .unset, .unset, .unset, .unset] [(.int (1 : Int32)), (.int (3 : Int32)), (.ref b3)])) _
      refine XS.isub X55.here hx rfl (hb hby at_122) rfl ?_
      show Steps p.tables e below (T55.setTop (mkF m 123 #[.val (.int p1), .val (.int p2), .val (.int (3 : Int32)), .val (.int (0 : Int32)), .val (.ref b3), .val (.ref b16), .val (.ref b19), .unset, .unset, .unset, .unset, .unset, .unset] [(.int ((3 : Int32) - (1 : Int32))), (.ref b3)])) _
      refine XS.iloadN X55.here hx rfl (hb hby at_123) rfl ?_
      show Steps p.tables e below (T55.setTop (mkF m 124 #[.val (.int p1), .val (.int p2), .val (.int (3 : Int32)), .val (.int (0 : Int32)), .val (.ref b3), .val (.ref b16), .val (.ref b19), .unset, .unset, .unset, .unset, .unset, .unset] [(.int (0 : Int32)), (.int ((3 : Int32) - (1 : Int32))), (.ref b3)])) _
      refine XS.isub X55.here hx rfl (hb hby at_124) rfl ?_
      show Steps p.tables e below (T55.setTop (mkF m 125 #[.val (.int p1), .val (.int p2), .val (.int (3 : Int32)), .val (.int (0 : Int32)), .val (.ref b3), .val (.ref b16), .val (.ref b19), .unset, .unset, .unset, .unset, .unset, .unset] [(.int (((3 : Int32) - (1 : Int32)) - (0 : Int32))), (.ref b3)])) _
      refine X55.aaload hx (j := (((3 : Int32) - (1 : Int32)) - (0 : Int32))) (v := (.ref b12)) Ar56.1 (State.isArrayOf_alike hZ17.alike Ar56.2.1) rfl Ar56.2.2 hin56 hat56 (g := (mkF m 125 #[.val (.int p1), .val (.int p2), .val (.int (3 : Int32)), .val (.int (0 : Int32)), .val (.ref b3), .val (.ref b16), .val (.ref b19), .unset, .unset, .unset, .unset, .unset, .unset] [(.int (((3 : Int32) - (1 : Int32)) - (0 : Int32))), (.ref b3)])) rfl rfl (hb hby at_125) _ ?_
      show Steps p.tables e below (T55.setTop (mkF m 126 #[.val (.int p1), .val (.int p2), .val (.int (3 : Int32)), .val (.int (0 : Int32)), .val (.ref b3), .val (.ref b16), .val (.ref b19), .unset, .unset, .unset, .unset, .unset, .unset] [(.ref b12)])) _
      refine XS.astore X55.here hx rfl (hb hby at_126) rfl rfl (l' := #[.val (.int p1), .val (.int p2), .val (.int (3 : Int32)), .val (.int (0 : Int32)), .val (.ref b3), .val (.ref b16), .val (.ref b19), .val (.ref b12), .unset, .unset, .unset, .unset, .unset]) rfl ?_
      show Steps p.tables e below (T55.setTop (mkF m 128 #[.val (.int p1), .val (.int p2), .val (.int (3 : Int32)), .val (.int (0 : Int32)), .val (.ref b3), .val (.ref b16), .val (.ref b19), .val (.ref b12), .unset, .unset, .unset, .unset, .unset] [])) _
      refine XS.iloadN X55.here hx rfl (hb hby at_128) rfl ?_
      show Steps p.tables e below (T55.setTop (mkF m 129 #[.val (.int p1), .val (.int p2), .val (.int (3 : Int32)), .val (.int (0 : Int32)), .val (.ref b3), .val (.ref b16), .val (.ref b19), .val (.ref b12), .unset, .unset, .unset, .unset, .unset] [(.int (0 : Int32))])) _
      refine XS.ifNo X55.here hx rfl (hb hby at_129) rfl ((if0 _ _).trans (teq (by decide)).2) ?_
      show Steps p.tables e below (T55.setTop (mkF m 132 #[.val (.int p1), .val (.int p2), .val (.int (3 : Int32)), .val (.int (0 : Int32)), .val (.ref b3), .val (.ref b16), .val (.ref b19), .val (.ref b12), .unset, .unset, .unset, .unset, .unset] [])) _
      refine XS.iconst X55.here hx rfl (hb hby at_132) ?_
      show Steps p.tables e below (T55.setTop (mkF m 133 #[.val (.int p1), .val (.int p2), .val (.int (3 : Int32)), .val (.int (0 : Int32)), .val (.ref b3), .val (.ref b16), .val (.ref b19), .val (.ref b12), .unset, .unset, .unset, .unset, .unset] [(.int (1 : Int32))])) _
      refine XS.goto X55.here hx rfl (pc0 := 133) (pc' := 137) rfl (hb hby at_133) (by decide) (by decide) ?_
      show Steps p.tables e below (T55.setTop (mkF m 137 #[.val (.int p1), .val (.int p2), .val (.int (3 : Int32)), .val (.int (0 : Int32)), .val (.ref b3), .val (.ref b16), .val (.ref b19), .val (.ref b12), .unset, .unset, .unset, .unset, .unset] [(.int (1 : Int32))])) _
      refine XS.istore X55.here hx rfl (hb hby at_137) rfl (l' := #[.val (.int p1), .val (.int p2), .val (.int (3 : Int32)), .val (.int (0 : Int32)), .val (.ref b3), .val (.ref b16), .val (.ref b19), .val (.ref b12), .val (.int (1 : Int32)), .unset, .unset, .unset, .unset]) rfl ?_
      show Steps p.tables e below (T55.setTop (mkF m 139 #[.val (.int p1), .val (.int p2), .val (.int (3 : Int32)), .val (.int (0 : Int32)), .val (.ref b3), .val (.ref b16), .val (.ref b19), .val (.ref b12), .val (.int (1 : Int32)), .unset, .unset, .unset, .unset] [])) _
      refine XS.iloadN X55.here hx rfl (hb hby at_139) rfl ?_
      show Steps p.tables e below (T55.setTop (mkF m 140 #[.val (.int p1), .val (.int p2), .val (.int (3 : Int32)), .val (.int (0 : Int32)), .val (.ref b3), .val (.ref b16), .val (.ref b19), .val (.ref b12), .val (.int (1 : Int32)), .unset, .unset, .unset, .unset] [(.int (0 : Int32))])) _
      refine XS.iconst X55.here hx rfl (hb hby at_140) ?_
      show Steps p.tables e below (T55.setTop (mkF m 141 #[.val (.int p1), .val (.int p2), .val (.int (3 : Int32)), .val (.int (0 : Int32)), .val (.ref b3), .val (.ref b16), .val (.ref b19), .val (.ref b12), .val (.int (1 : Int32)), .unset, .unset, .unset, .unset] [(.int (1 : Int32)), (.int (0 : Int32))])) _
      refine XS.icmpNo X55.here hx rfl (hb hby at_141) rfl (flt (by decide)).2.2.1 ?_
      show Steps p.tables e below (T55.setTop (mkF m 144 #[.val (.int p1), .val (.int p2), .val (.int (3 : Int32)), .val (.int (0 : Int32)), .val (.ref b3), .val (.ref b16), .val (.ref b19), .val (.ref b12), .val (.int (1 : Int32)), .unset, .unset, .unset, .unset] [])) _
      refine XS.iconst X55.here hx rfl (hb hby at_144) ?_
      show Steps p.tables e below (T55.setTop (mkF m 145 #[.val (.int p1), .val (.int p2), .val (.int (3 : Int32)), .val (.int (0 : Int32)), .val (.ref b3), .val (.ref b16), .val (.ref b19), .val (.ref b12), .val (.int (1 : Int32)), .unset, .unset, .unset, .unset] [(.int (2 : Int32))])) _
      refine XS.goto X55.here hx rfl (pc0 := 145) (pc' := 149) rfl (hb hby at_145) (by decide) (by decide) ?_
      show Steps p.tables e below (T55.setTop (mkF m 149 #[.val (.int p1), .val (.int p2), .val (.int (3 : Int32)), .val (.int (0 : Int32)), .val (.ref b3), .val (.ref b16), .val (.ref b19), .val (.ref b12), .val (.int (1 : Int32)), .unset, .unset, .unset, .unset] [(.int (2 : Int32))])) _
      refine XS.istore X55.here hx rfl (hb hby at_149) rfl (l' := #[.val (.int p1), .val (.int p2), .val (.int (3 : Int32)), .val (.int (0 : Int32)), .val (.ref b3), .val (.ref b16), .val (.ref b19), .val (.ref b12), .val (.int (1 : Int32)), .val (.int (2 : Int32)), .unset, .unset, .unset]) rfl ?_
      show Steps p.tables e below (T55.setTop (mkF m 151 #[.val (.int p1), .val (.int p2), .val (.int (3 : Int32)), .val (.int (0 : Int32)), .val (.ref b3), .val (.ref b16), .val (.ref b19), .val (.ref b12), .val (.int (1 : Int32)), .val (.int (2 : Int32)), .unset, .unset, .unset] [])) _
      refine XS.iload X55.here hx rfl (hb hby at_151) rfl ?_
      show Steps p.tables e below (T55.setTop (mkF m 153 #[.val (.int p1), .val (.int p2), .val (.int (3 : Int32)), .val (.int (0 : Int32)), .val (.ref b3), .val (.ref b16), .val (.ref b19), .val (.ref b12), .val (.int (1 : Int32)), .val (.int (2 : Int32)), .unset, .unset, .unset] [(.int (1 : Int32))])) _
      refine XS.iloadN X55.here hx rfl (hb hby at_153) rfl ?_
      show Steps p.tables e below (T55.setTop (mkF m 154 #[.val (.int p1), .val (.int p2), .val (.int (3 : Int32)), .val (.int (0 : Int32)), .val (.ref b3), .val (.ref b16), .val (.ref b19), .val (.ref b12), .val (.int (1 : Int32)), .val (.int (2 : Int32)), .unset, .unset, .unset] [(.int (3 : Int32)), (.int (1 : Int32))])) _
      refine XS.icmpNo X55.here hx rfl (hb hby at_154) rfl (tlt (by decide)).2.1 ?_
      show Steps p.tables e below (T55.setTop (mkF m 157 #[.val (.int p1), .val (.int p2), .val (.int (3 : Int32)), .val (.int (0 : Int32)), .val (.ref b3), .val (.ref b16), .val (.ref b19), .val (.ref b12), .val (.int (1 : Int32)), .val (.int (2 : Int32)), .unset, .unset, .unset] [])) _
      refine XS.aload X55.here hx rfl (hb hby at_157) rfl rfl ?_
      show Steps p.tables e below (T55.setTop (mkF m 159 #[.val (.int p1), .val (.int p2), .val (.int (3 : Int32)), .val (.int (0 : Int32)), .val (.ref b3), .val (.ref b16), .val (.ref b19), .val (.ref b12), .val (.int (1 : Int32)), .val (.int (2 : Int32)), .unset, .unset, .unset] [(.ref b3)])) _
      refine XS.iloadN X55.here hx rfl (hb hby at_159) rfl ?_
      show Steps p.tables e below (T55.setTop (mkF m 160 #[.val (.int p1), .val (.int p2), .val (.int (3 : Int32)), .val (.int (0 : Int32)), .val (.ref b3), .val (.ref b16), .val (.ref b19), .val (.ref b12), .val (.int (1 : Int32)), .val (.int (2 : Int32)), .unset, .unset, .unset] [(.int (3 : Int32)), (.ref b3)])) _
      refine XS.iconst X55.here hx rfl (hb hby at_160) ?_
      show Steps p.tables e below (T55.setTop (mkF m 161 #[.val (.int p1), .val (.int p2), .val (.int (3 : Int32)), .val (.int (0 : Int32)), .val (.ref b3), .val (.ref b16), .val (.ref b19), .val (.ref b12), .val (.int (1 : Int32)), .val (.int (2 : Int32)), .unset, .unset, .unset] [(.int (1 : Int32)), (.int (3 : Int32)), (.ref b3)])) _
      refine XS.isub X55.here hx rfl (hb hby at_161) rfl ?_
      show Steps p.tables e below (T55.setTop (mkF m 162 #[.val (.int p1), .val (.int p2), .val (.int (3 : Int32)), .val (.int (0 : Int32)), .val (.ref b3), .val (.ref b16), .val (.ref b19), .val (.ref b12), .val (.int (1 : Int32)), .val (.int (2 : Int32)), .unset, .unset, .unset] [(.int ((3 : Int32) - (1 : Int32))), (.ref b3)])) _
      refine XS.iload X55.here hx rfl (hb hby at_162) rfl ?_
      show Steps p.tables e below (T55.setTop (mkF m 164 #[.val (.int p1), .val (.int p2), .val (.int (3 : Int32)), .val (.int (0 : Int32)), .val (.ref b3), .val (.ref b16), .val (.ref b19), .val (.ref b12), .val (.int (1 : Int32)), .val (.int (2 : Int32)), .unset, .unset, .unset] [(.int (1 : Int32)), (.int ((3 : Int32) - (1 : Int32))), (.ref b3)])) _
      refine XS.isub X55.here hx rfl (hb hby at_164) rfl ?_
      show Steps p.tables e below (T55.setTop (mkF m 165 #[.val (.int p1), .val (.int p2), .val (.int (3 : Int32)), .val (.int (0 : Int32)), .val (.ref b3), .val (.ref b16), .val (.ref b19), .val (.ref b12), .val (.int (1 : Int32)), .val (.int (2 : Int32)), .unset, .unset, .unset] [(.int (((3 : Int32) - (1 : Int32)) - (1 : Int32))), (.ref b3)])) _
      refine X55.aaload hx (j := (((3 : Int32) - (1 : Int32)) - (1 : Int32))) (v := (.ref b8)) Ar57.1 (State.isArrayOf_alike hZ17.alike Ar57.2.1) rfl Ar57.2.2 hin57 hat57 (g := (mkF m 165 #[.val (.int p1), .val (.int p2), .val (.int (3 : Int32)), .val (.int (0 : Int32)), .val (.ref b3), .val (.ref b16), .val (.ref b19), .val (.ref b12), .val (.int (1 : Int32)), .val (.int (2 : Int32)), .unset, .unset, .unset] [(.int (((3 : Int32) - (1 : Int32)) - (1 : Int32))), (.ref b3)])) rfl rfl (hb hby at_165) _ ?_
      show Steps p.tables e below (T55.setTop (mkF m 166 #[.val (.int p1), .val (.int p2), .val (.int (3 : Int32)), .val (.int (0 : Int32)), .val (.ref b3), .val (.ref b16), .val (.ref b19), .val (.ref b12), .val (.int (1 : Int32)), .val (.int (2 : Int32)), .unset, .unset, .unset] [(.ref b8)])) _
      refine XS.goto X55.here hx rfl (pc0 := 166) (pc' := 170) rfl (hb hby at_166) (by decide) (by decide) ?_
      show Steps p.tables e below (T55.setTop (mkF m 170 #[.val (.int p1), .val (.int p2), .val (.int (3 : Int32)), .val (.int (0 : Int32)), .val (.ref b3), .val (.ref b16), .val (.ref b19), .val (.ref b12), .val (.int (1 : Int32)), .val (.int (2 : Int32)), .unset, .unset, .unset] [(.ref b8)])) _
      refine XS.astore X55.here hx rfl (hb hby at_170) rfl rfl (l' := #[.val (.int p1), .val (.int p2), .val (.int (3 : Int32)), .val (.int (0 : Int32)), .val (.ref b3), .val (.ref b16), .val (.ref b19), .val (.ref b12), .val (.int (1 : Int32)), .val (.int (2 : Int32)), .val (.ref b8), .unset, .unset]) rfl ?_
      show Steps p.tables e below (T55.setTop (mkF m 172 #[.val (.int p1), .val (.int p2), .val (.int (3 : Int32)), .val (.int (0 : Int32)), .val (.ref b3), .val (.ref b16), .val (.ref b19), .val (.ref b12), .val (.int (1 : Int32)), .val (.int (2 : Int32)), .val (.ref b8), .unset, .unset] [])) _
      refine XS.iload X55.here hx rfl (hb hby at_172) rfl ?_
      show Steps p.tables e below (T55.setTop (mkF m 174 #[.val (.int p1), .val (.int p2), .val (.int (3 : Int32)), .val (.int (0 : Int32)), .val (.ref b3), .val (.ref b16), .val (.ref b19), .val (.ref b12), .val (.int (1 : Int32)), .val (.int (2 : Int32)), .val (.ref b8), .unset, .unset] [(.int (2 : Int32))])) _
      refine XS.iloadN X55.here hx rfl (hb hby at_174) rfl ?_
      show Steps p.tables e below (T55.setTop (mkF m 175 #[.val (.int p1), .val (.int p2), .val (.int (3 : Int32)), .val (.int (0 : Int32)), .val (.ref b3), .val (.ref b16), .val (.ref b19), .val (.ref b12), .val (.int (1 : Int32)), .val (.int (2 : Int32)), .val (.ref b8), .unset, .unset] [(.int (3 : Int32)), (.int (2 : Int32))])) _
      refine XS.icmpNo X55.here hx rfl (hb hby at_175) rfl (tlt (by decide)).2.1 ?_
      show Steps p.tables e below (T55.setTop (mkF m 178 #[.val (.int p1), .val (.int p2), .val (.int (3 : Int32)), .val (.int (0 : Int32)), .val (.ref b3), .val (.ref b16), .val (.ref b19), .val (.ref b12), .val (.int (1 : Int32)), .val (.int (2 : Int32)), .val (.ref b8), .unset, .unset] [])) _
      refine XS.aload X55.here hx rfl (hb hby at_178) rfl rfl ?_
      show Steps p.tables e below (T55.setTop (mkF m 180 #[.val (.int p1), .val (.int p2), .val (.int (3 : Int32)), .val (.int (0 : Int32)), .val (.ref b3), .val (.ref b16), .val (.ref b19), .val (.ref b12), .val (.int (1 : Int32)), .val (.int (2 : Int32)), .val (.ref b8), .unset, .unset] [(.ref b3)])) _
      refine XS.iloadN X55.here hx rfl (hb hby at_180) rfl ?_
      show Steps p.tables e below (T55.setTop (mkF m 181 #[.val (.int p1), .val (.int p2), .val (.int (3 : Int32)), .val (.int (0 : Int32)), .val (.ref b3), .val (.ref b16), .val (.ref b19), .val (.ref b12), .val (.int (1 : Int32)), .val (.int (2 : Int32)), .val (.ref b8), .unset, .unset] [(.int (3 : Int32)), (.ref b3)])) _
      refine XS.iconst X55.here hx rfl (hb hby at_181) ?_
      show Steps p.tables e below (T55.setTop (mkF m 182 #[.val (.int p1), .val (.int p2), .val (.int (3 : Int32)), .val (.int (0 : Int32)), .val (.ref b3), .val (.ref b16), .val (.ref b19), .val (.ref b12), .val (.int (1 : Int32)), .val (.int (2 : Int32)), .val (.ref b8), .unset, .unset] [(.int (1 : Int32)), (.int (3 : Int32)), (.ref b3)])) _
      refine XS.isub X55.here hx rfl (hb hby at_182) rfl ?_
      show Steps p.tables e below (T55.setTop (mkF m 183 #[.val (.int p1), .val (.int p2), .val (.int (3 : Int32)), .val (.int (0 : Int32)), .val (.ref b3), .val (.ref b16), .val (.ref b19), .val (.ref b12), .val (.int (1 : Int32)), .val (.int (2 : Int32)), .val (.ref b8), .unset, .unset] [(.int ((3 : Int32) - (1 : Int32))), (.ref b3)])) _
      refine XS.iload X55.here hx rfl (hb hby at_183) rfl ?_
      show Steps p.tables e below (T55.setTop (mkF m 185 #[.val (.int p1), .val (.int p2), .val (.int (3 : Int32)), .val (.int (0 : Int32)), .val (.ref b3), .val (.ref b16), .val (.ref b19), .val (.ref b12), .val (.int (1 : Int32)), .val (.int (2 : Int32)), .val (.ref b8), .unset, .unset] [(.int (2 : Int32)), (.int ((3 : Int32) - (1 : Int32))), (.ref b3)])) _
      refine XS.isub X55.here hx rfl (hb hby at_185) rfl ?_
      show Steps p.tables e below (T55.setTop (mkF m 186 #[.val (.int p1), .val (.int p2), .val (.int (3 : Int32)), .val (.int (0 : Int32)), .val (.ref b3), .val (.ref b16), .val (.ref b19), .val (.ref b12), .val (.int (1 : Int32)), .val (.int (2 : Int32)), .val (.ref b8), .unset, .unset] [(.int (((3 : Int32) - (1 : Int32)) - (2 : Int32))), (.ref b3)])) _
      refine X55.aaload hx (j := (((3 : Int32) - (1 : Int32)) - (2 : Int32))) (v := (.ref b4)) Ar58.1 (State.isArrayOf_alike hZ17.alike Ar58.2.1) rfl Ar58.2.2 hin58 hat58 (g := (mkF m 186 #[.val (.int p1), .val (.int p2), .val (.int (3 : Int32)), .val (.int (0 : Int32)), .val (.ref b3), .val (.ref b16), .val (.ref b19), .val (.ref b12), .val (.int (1 : Int32)), .val (.int (2 : Int32)), .val (.ref b8), .unset, .unset] [(.int (((3 : Int32) - (1 : Int32)) - (2 : Int32))), (.ref b3)])) rfl rfl (hb hby at_186) _ ?_
      show Steps p.tables e below (T55.setTop (mkF m 187 #[.val (.int p1), .val (.int p2), .val (.int (3 : Int32)), .val (.int (0 : Int32)), .val (.ref b3), .val (.ref b16), .val (.ref b19), .val (.ref b12), .val (.int (1 : Int32)), .val (.int (2 : Int32)), .val (.ref b8), .unset, .unset] [(.ref b4)])) _
      refine XS.goto X55.here hx rfl (pc0 := 187) (pc' := 191) rfl (hb hby at_187) (by decide) (by decide) ?_
      show Steps p.tables e below (T55.setTop (mkF m 191 #[.val (.int p1), .val (.int p2), .val (.int (3 : Int32)), .val (.int (0 : Int32)), .val (.ref b3), .val (.ref b16), .val (.ref b19), .val (.ref b12), .val (.int (1 : Int32)), .val (.int (2 : Int32)), .val (.ref b8), .unset, .unset] [(.ref b4)])) _
      refine XS.astore X55.here hx rfl (hb hby at_191) rfl rfl (l' := #[.val (.int p1), .val (.int p2), .val (.int (3 : Int32)), .val (.int (0 : Int32)), .val (.ref b3), .val (.ref b16), .val (.ref b19), .val (.ref b12), .val (.int (1 : Int32)), .val (.int (2 : Int32)), .val (.ref b8), .val (.ref b4), .unset]) rfl ?_
      show Steps p.tables e below (T55.setTop (mkF m 193 #[.val (.int p1), .val (.int p2), .val (.int (3 : Int32)), .val (.int (0 : Int32)), .val (.ref b3), .val (.ref b16), .val (.ref b19), .val (.ref b12), .val (.int (1 : Int32)), .val (.int (2 : Int32)), .val (.ref b8), .val (.ref b4), .unset] [])) _
      refine XS.aload X55.here hx rfl (hb hby at_193) rfl rfl ?_
      show Steps p.tables e below (T55.setTop (mkF m 195 #[.val (.int p1), .val (.int p2), .val (.int (3 : Int32)), .val (.int (0 : Int32)), .val (.ref b3), .val (.ref b16), .val (.ref b19), .val (.ref b12), .val (.int (1 : Int32)), .val (.int (2 : Int32)), .val (.ref b8), .val (.ref b4), .unset] [(.ref b19)])) _
      refine XS.aload X55.here hx rfl (hb hby at_195) rfl rfl ?_
      show Steps p.tables e below (T55.setTop (mkF m 197 #[.val (.int p1), .val (.int p2), .val (.int (3 : Int32)), .val (.int (0 : Int32)), .val (.ref b3), .val (.ref b16), .val (.ref b19), .val (.ref b12), .val (.int (1 : Int32)), .val (.int (2 : Int32)), .val (.ref b8), .val (.ref b4), .unset] [(.ref b12), (.ref b19)])) _
      refine st59.trans ?_
      show Steps p.tables e below (T59.setTop (mkF m 200 #[.val (.int p1), .val (.int p2), .val (.int (3 : Int32)), .val (.int (0 : Int32)), .val (.ref b3), .val (.ref b16), .val (.ref b19), .val (.ref b12), .val (.int (1 : Int32)), .val (.int (2 : Int32)), .val (.ref b8), .val (.ref b4), .unset] [])) _
      refine XS.aload X59.here hx rfl (hb hby at_200) rfl rfl ?_
      show Steps p.tables e below (T59.setTop (mkF m 202 #[.val (.int p1), .val (.int p2), .val (.int (3 : Int32)), .val (.int (0 : Int32)), .val (.ref b3), .val (.ref b16), .val (.ref b19), .val (.ref b12), .val (.int (1 : Int32)), .val (.int (2 : Int32)), .val (.ref b8), .val (.ref b4), .unset] [(.ref b12)])) _
      refine st60.trans ?_
      show Steps p.tables e below (T60.setTop (mkF m 205 #[.val (.int p1), .val (.int p2), .val (.int (3 : Int32)), .val (.int (0 : Int32)), .val (.ref b3), .val (.ref b16), .val (.ref b19), .val (.ref b12), .val (.int (1 : Int32)), .val (.int (2 : Int32)), .val (.ref b8), .val (.ref b4), .unset] [.null])) _
      refine XS.ifnonnullNo X60.here hx rfl (hb hby at_205) rfl ?_
      show Steps p.tables e below (T60.setTop (mkF m 208 #[.val (.int p1), .val (.int p2), .val (.int (3 : Int32)), .val (.int (0 : Int32)), .val (.ref b3), .val (.ref b16), .val (.ref b19), .val (.ref b12), .val (.int (1 : Int32)), .val (.int (2 : Int32)), .val (.ref b8), .val (.ref b4), .unset] [])) _
      refine XS.aload X60.here hx rfl (hb hby at_208) rfl rfl ?_
      show Steps p.tables e below (T60.setTop (mkF m 210 #[.val (.int p1), .val (.int p2), .val (.int (3 : Int32)), .val (.int (0 : Int32)), .val (.ref b3), .val (.ref b16), .val (.ref b19), .val (.ref b12), .val (.int (1 : Int32)), .val (.int (2 : Int32)), .val (.ref b8), .val (.ref b4), .unset] [(.ref b12)])) _
      refine st61.trans ?_
      show Steps p.tables e below (T61.setTop (mkF m 213 #[.val (.int p1), .val (.int p2), .val (.int (3 : Int32)), .val (.int (0 : Int32)), .val (.ref b3), .val (.ref b16), .val (.ref b19), .val (.ref b12), .val (.int (1 : Int32)), .val (.int (2 : Int32)), .val (.ref b8), .val (.ref b4), .unset] [.null])) _
      refine XS.ifnonnullNo X61.here hx rfl (hb hby at_213) rfl ?_
      show Steps p.tables e below (T61.setTop (mkF m 216 #[.val (.int p1), .val (.int p2), .val (.int (3 : Int32)), .val (.int (0 : Int32)), .val (.ref b3), .val (.ref b16), .val (.ref b19), .val (.ref b12), .val (.int (1 : Int32)), .val (.int (2 : Int32)), .val (.ref b8), .val (.ref b4), .unset] [])) _
      refine XS.iconst X61.here hx rfl (hb hby at_216) ?_
      show Steps p.tables e below (T61.setTop (mkF m 217 #[.val (.int p1), .val (.int p2), .val (.int (3 : Int32)), .val (.int (0 : Int32)), .val (.ref b3), .val (.ref b16), .val (.ref b19), .val (.ref b12), .val (.int (1 : Int32)), .val (.int (2 : Int32)), .val (.ref b8), .val (.ref b4), .unset] [(.int (1 : Int32))])) _
      refine XS.goto X61.here hx rfl (pc0 := 217) (pc' := 221) rfl (hb hby at_217) (by decide) (by decide) ?_
      show Steps p.tables e below (T61.setTop (mkF m 221 #[.val (.int p1), .val (.int p2), .val (.int (3 : Int32)), .val (.int (0 : Int32)), .val (.ref b3), .val (.ref b16), .val (.ref b19), .val (.ref b12), .val (.int (1 : Int32)), .val (.int (2 : Int32)), .val (.ref b8), .val (.ref b4), .unset] [(.int (1 : Int32))])) _
      refine XS.istore X61.here hx rfl (hb hby at_221) rfl (l' := #[.val (.int p1), .val (.int p2), .val (.int (3 : Int32)), .val (.int (0 : Int32)), .val (.ref b3), .val (.ref b16), .val (.ref b19), .val (.ref b12), .val (.int (1 : Int32)), .val (.int (2 : Int32)), .val (.ref b8), .val (.ref b4), .val (.int (1 : Int32))]) rfl ?_
      show Steps p.tables e below (T61.setTop (mkF m 223 #[.val (.int p1), .val (.int p2), .val (.int (3 : Int32)), .val (.int (0 : Int32)), .val (.ref b3), .val (.ref b16), .val (.ref b19), .val (.ref b12), .val (.int (1 : Int32)), .val (.int (2 : Int32)), .val (.ref b8), .val (.ref b4), .val (.int (1 : Int32))] [])) _
      refine XS.aload X61.here hx rfl (hb hby at_223) rfl rfl ?_
      show Steps p.tables e below (T61.setTop (mkF m 225 #[.val (.int p1), .val (.int p2), .val (.int (3 : Int32)), .val (.int (0 : Int32)), .val (.ref b3), .val (.ref b16), .val (.ref b19), .val (.ref b12), .val (.int (1 : Int32)), .val (.int (2 : Int32)), .val (.ref b8), .val (.ref b4), .val (.int (1 : Int32))] [(.ref b19)])) _
      refine XS.aload X61.here hx rfl (hb hby at_225) rfl rfl ?_
      show Steps p.tables e below (T61.setTop (mkF m 227 #[.val (.int p1), .val (.int p2), .val (.int (3 : Int32)), .val (.int (0 : Int32)), .val (.ref b3), .val (.ref b16), .val (.ref b19), .val (.ref b12), .val (.int (1 : Int32)), .val (.int (2 : Int32)), .val (.ref b8), .val (.ref b4), .val (.int (1 : Int32))] [(.ref b16), (.ref b19)])) _
      refine st62.trans ?_
      show Steps p.tables e below (T62.setTop (mkF m 230 #[.val (.int p1), .val (.int p2), .val (.int (3 : Int32)), .val (.int (0 : Int32)), .val (.ref b3), .val (.ref b16), .val (.ref b19), .val (.ref b12), .val (.int (1 : Int32)), .val (.int (2 : Int32)), .val (.ref b8), .val (.ref b4), .val (.int (1 : Int32))] [])) _
      refine XS.iload X62.here hx rfl (hb hby at_230) rfl ?_
      show Steps p.tables e below (T62.setTop (mkF m 232 #[.val (.int p1), .val (.int p2), .val (.int (3 : Int32)), .val (.int (0 : Int32)), .val (.ref b3), .val (.ref b16), .val (.ref b19), .val (.ref b12), .val (.int (1 : Int32)), .val (.int (2 : Int32)), .val (.ref b8), .val (.ref b4), .val (.int (1 : Int32))] [(.int (1 : Int32))])) _
      refine XS.ifNo X62.here hx rfl (hb hby at_232) rfl ((if0 _ _).trans (feq (by decide)).1) ?_
      show Steps p.tables e below (T62.setTop (mkF m 235 #[.val (.int p1), .val (.int p2), .val (.int (3 : Int32)), .val (.int (0 : Int32)), .val (.ref b3), .val (.ref b16), .val (.ref b19), .val (.ref b12), .val (.int (1 : Int32)), .val (.int (2 : Int32)), .val (.ref b8), .val (.ref b4), .val (.int (1 : Int32))] [])) _
      refine XS.aload X62.here hx rfl (hb hby at_235) rfl rfl ?_
      show Steps p.tables e below (T62.setTop (mkF m 237 #[.val (.int p1), .val (.int p2), .val (.int (3 : Int32)), .val (.int (0 : Int32)), .val (.ref b3), .val (.ref b16), .val (.ref b19), .val (.ref b12), .val (.int (1 : Int32)), .val (.int (2 : Int32)), .val (.ref b8), .val (.ref b4), .val (.int (1 : Int32))] [(.ref b16)])) _
      refine st63.trans ?_
      show Steps p.tables e below (T63.setTop (mkF m 240 #[.val (.int p1), .val (.int p2), .val (.int (3 : Int32)), .val (.int (0 : Int32)), .val (.ref b3), .val (.ref b16), .val (.ref b19), .val (.ref b12), .val (.int (1 : Int32)), .val (.int (2 : Int32)), .val (.ref b8), .val (.ref b4), .val (.int (1 : Int32))] [(.ref b8)])) _
      refine XS.aload X63.here hx rfl (hb hby at_240) rfl rfl ?_
      show Steps p.tables e below (T63.setTop (mkF m 242 #[.val (.int p1), .val (.int p2), .val (.int (3 : Int32)), .val (.int (0 : Int32)), .val (.ref b3), .val (.ref b16), .val (.ref b19), .val (.ref b12), .val (.int (1 : Int32)), .val (.int (2 : Int32)), .val (.ref b8), .val (.ref b4), .val (.int (1 : Int32))] [(.ref b8), (.ref b8)])) _
      refine Jvm.RoadKit.acmp (g := (mkF m 242 #[.val (.int p1), .val (.int p2), .val (.int (3 : Int32)), .val (.int (0 : Int32)), .val (.ref b3), .val (.ref b16), .val (.ref b19), .val (.ref b12), .val (.int (1 : Int32)), .val (.int (2 : Int32)), .val (.ref b8), .val (.ref b4), .val (.int (1 : Int32))] [(.ref b8), (.ref b8)])) X63 hx rfl rfl rfl (pc0 := 242) (pc' := 245) (same := true) rfl (hb hby at_242) rfl (decide_eq_true rfl) (by decide) (by decide) ?_
      show Steps p.tables e below (T63.setTop (mkF m 245 #[.val (.int p1), .val (.int p2), .val (.int (3 : Int32)), .val (.int (0 : Int32)), .val (.ref b3), .val (.ref b16), .val (.ref b19), .val (.ref b12), .val (.int (1 : Int32)), .val (.int (2 : Int32)), .val (.ref b8), .val (.ref b4), .val (.int (1 : Int32))] [])) _
      refine XS.iconst X63.here hx rfl (hb hby at_245) ?_
      show Steps p.tables e below (T63.setTop (mkF m 246 #[.val (.int p1), .val (.int p2), .val (.int (3 : Int32)), .val (.int (0 : Int32)), .val (.ref b3), .val (.ref b16), .val (.ref b19), .val (.ref b12), .val (.int (1 : Int32)), .val (.int (2 : Int32)), .val (.ref b8), .val (.ref b4), .val (.int (1 : Int32))] [(.int (1 : Int32))])) _
      refine XS.goto X63.here hx rfl (pc0 := 246) (pc' := 250) rfl (hb hby at_246) (by decide) (by decide) ?_
      show Steps p.tables e below (T63.setTop (mkF m 250 #[.val (.int p1), .val (.int p2), .val (.int (3 : Int32)), .val (.int (0 : Int32)), .val (.ref b3), .val (.ref b16), .val (.ref b19), .val (.ref b12), .val (.int (1 : Int32)), .val (.int (2 : Int32)), .val (.ref b8), .val (.ref b4), .val (.int (1 : Int32))] [(.int (1 : Int32))])) _
      refine XS.istore X63.here hx rfl (hb hby at_250) rfl (l' := #[.val (.int p1), .val (.int p2), .val (.int (3 : Int32)), .val (.int (0 : Int32)), .val (.ref b3), .val (.ref b16), .val (.ref b19), .val (.ref b12), .val (.int (1 : Int32)), .val (.int (2 : Int32)), .val (.ref b8), .val (.ref b4), .val (.int (1 : Int32))]) rfl ?_
      show Steps p.tables e below (T63.setTop (mkF m 252 #[.val (.int p1), .val (.int p2), .val (.int (3 : Int32)), .val (.int (0 : Int32)), .val (.ref b3), .val (.ref b16), .val (.ref b19), .val (.ref b12), .val (.int (1 : Int32)), .val (.int (2 : Int32)), .val (.ref b8), .val (.ref b4), .val (.int (1 : Int32))] [])) _
      refine XS.aload X63.here hx rfl (hb hby at_252) rfl rfl ?_
      show Steps p.tables e below (T63.setTop (mkF m 254 #[.val (.int p1), .val (.int p2), .val (.int (3 : Int32)), .val (.int (0 : Int32)), .val (.ref b3), .val (.ref b16), .val (.ref b19), .val (.ref b12), .val (.int (1 : Int32)), .val (.int (2 : Int32)), .val (.ref b8), .val (.ref b4), .val (.int (1 : Int32))] [(.ref b8)])) _
      refine XS.ifnullNo X63.here hx rfl (hb hby at_254) rfl ?_
      show Steps p.tables e below (T63.setTop (mkF m 257 #[.val (.int p1), .val (.int p2), .val (.int (3 : Int32)), .val (.int (0 : Int32)), .val (.ref b3), .val (.ref b16), .val (.ref b19), .val (.ref b12), .val (.int (1 : Int32)), .val (.int (2 : Int32)), .val (.ref b8), .val (.ref b4), .val (.int (1 : Int32))] [])) _
      refine XS.iload X63.here hx rfl (hb hby at_257) rfl ?_
      show Steps p.tables e below (T63.setTop (mkF m 259 #[.val (.int p1), .val (.int p2), .val (.int (3 : Int32)), .val (.int (0 : Int32)), .val (.ref b3), .val (.ref b16), .val (.ref b19), .val (.ref b12), .val (.int (1 : Int32)), .val (.int (2 : Int32)), .val (.ref b8), .val (.ref b4), .val (.int (1 : Int32))] [(.int (1 : Int32))])) _
      refine XS.ifNo X63.here hx rfl (hb hby at_259) rfl ((if0 _ _).trans (feq (by decide)).1) ?_
      show Steps p.tables e below (T63.setTop (mkF m 262 #[.val (.int p1), .val (.int p2), .val (.int (3 : Int32)), .val (.int (0 : Int32)), .val (.ref b3), .val (.ref b16), .val (.ref b19), .val (.ref b12), .val (.int (1 : Int32)), .val (.int (2 : Int32)), .val (.ref b8), .val (.ref b4), .val (.int (1 : Int32))] [])) _
      refine XS.aload X63.here hx rfl (hb hby at_262) rfl rfl ?_
      show Steps p.tables e below (T63.setTop (mkF m 264 #[.val (.int p1), .val (.int p2), .val (.int (3 : Int32)), .val (.int (0 : Int32)), .val (.ref b3), .val (.ref b16), .val (.ref b19), .val (.ref b12), .val (.int (1 : Int32)), .val (.int (2 : Int32)), .val (.ref b8), .val (.ref b4), .val (.int (1 : Int32))] [(.ref b8)])) _
      refine st64.trans ?_
      show Steps p.tables e below (T64.setTop (mkF m 267 #[.val (.int p1), .val (.int p2), .val (.int (3 : Int32)), .val (.int (0 : Int32)), .val (.ref b3), .val (.ref b16), .val (.ref b19), .val (.ref b12), .val (.int (1 : Int32)), .val (.int (2 : Int32)), .val (.ref b8), .val (.ref b4), .val (.int (1 : Int32))] [(.ref b16)])) _
      refine XS.aload X64.here hx rfl (hb hby at_267) rfl rfl ?_
      show Steps p.tables e below (T64.setTop (mkF m 269 #[.val (.int p1), .val (.int p2), .val (.int (3 : Int32)), .val (.int (0 : Int32)), .val (.ref b3), .val (.ref b16), .val (.ref b19), .val (.ref b12), .val (.int (1 : Int32)), .val (.int (2 : Int32)), .val (.ref b8), .val (.ref b4), .val (.int (1 : Int32))] [(.ref b16), (.ref b16)])) _
      refine Jvm.RoadKit.acmp (g := (mkF m 269 #[.val (.int p1), .val (.int p2), .val (.int (3 : Int32)), .val (.int (0 : Int32)), .val (.ref b3), .val (.ref b16), .val (.ref b19), .val (.ref b12), .val (.int (1 : Int32)), .val (.int (2 : Int32)), .val (.ref b8), .val (.ref b4), .val (.int (1 : Int32))] [(.ref b16), (.ref b16)])) X64 hx rfl rfl rfl (pc0 := 269) (pc' := 272) (same := true) rfl (hb hby at_269) rfl (decide_eq_true rfl) (by decide) (by decide) ?_
      show Steps p.tables e below (T64.setTop (mkF m 272 #[.val (.int p1), .val (.int p2), .val (.int (3 : Int32)), .val (.int (0 : Int32)), .val (.ref b3), .val (.ref b16), .val (.ref b19), .val (.ref b12), .val (.int (1 : Int32)), .val (.int (2 : Int32)), .val (.ref b8), .val (.ref b4), .val (.int (1 : Int32))] [])) _
      refine XS.aload X64.here hx rfl (hb hby at_272) rfl rfl ?_
      show Steps p.tables e below (T64.setTop (mkF m 274 #[.val (.int p1), .val (.int p2), .val (.int (3 : Int32)), .val (.int (0 : Int32)), .val (.ref b3), .val (.ref b16), .val (.ref b19), .val (.ref b12), .val (.int (1 : Int32)), .val (.int (2 : Int32)), .val (.ref b8), .val (.ref b4), .val (.int (1 : Int32))] [(.ref b8)])) _
      refine st65.trans ?_
      show Steps p.tables e below (T65.setTop (mkF m 277 #[.val (.int p1), .val (.int p2), .val (.int (3 : Int32)), .val (.int (0 : Int32)), .val (.ref b3), .val (.ref b16), .val (.ref b19), .val (.ref b12), .val (.int (1 : Int32)), .val (.int (2 : Int32)), .val (.ref b8), .val (.ref b4), .val (.int (1 : Int32))] [(.ref b4)])) _
      refine XS.aload X65.here hx rfl (hb hby at_277) rfl rfl ?_
      show Steps p.tables e below (T65.setTop (mkF m 279 #[.val (.int p1), .val (.int p2), .val (.int (3 : Int32)), .val (.int (0 : Int32)), .val (.ref b3), .val (.ref b16), .val (.ref b19), .val (.ref b12), .val (.int (1 : Int32)), .val (.int (2 : Int32)), .val (.ref b8), .val (.ref b4), .val (.int (1 : Int32))] [(.ref b4), (.ref b4)])) _
      refine Jvm.RoadKit.acmp (g := (mkF m 279 #[.val (.int p1), .val (.int p2), .val (.int (3 : Int32)), .val (.int (0 : Int32)), .val (.ref b3), .val (.ref b16), .val (.ref b19), .val (.ref b12), .val (.int (1 : Int32)), .val (.int (2 : Int32)), .val (.ref b8), .val (.ref b4), .val (.int (1 : Int32))] [(.ref b4), (.ref b4)])) X65 hx rfl rfl rfl (pc0 := 279) (pc' := 282) (same := true) rfl (hb hby at_279) rfl (decide_eq_true rfl) (by decide) (by decide) ?_
      show Steps p.tables e below (T65.setTop (mkF m 282 #[.val (.int p1), .val (.int p2), .val (.int (3 : Int32)), .val (.int (0 : Int32)), .val (.ref b3), .val (.ref b16), .val (.ref b19), .val (.ref b12), .val (.int (1 : Int32)), .val (.int (2 : Int32)), .val (.ref b8), .val (.ref b4), .val (.int (1 : Int32))] [])) _
      refine XS.iconst X65.here hx rfl (hb hby at_282) ?_
      show Steps p.tables e below (T65.setTop (mkF m 283 #[.val (.int p1), .val (.int p2), .val (.int (3 : Int32)), .val (.int (0 : Int32)), .val (.ref b3), .val (.ref b16), .val (.ref b19), .val (.ref b12), .val (.int (1 : Int32)), .val (.int (2 : Int32)), .val (.ref b8), .val (.ref b4), .val (.int (1 : Int32))] [(.int (1 : Int32))])) _
      refine XS.goto X65.here hx rfl (pc0 := 283) (pc' := 287) rfl (hb hby at_283) (by decide) (by decide) ?_
      show Steps p.tables e below (T65.setTop (mkF m 287 #[.val (.int p1), .val (.int p2), .val (.int (3 : Int32)), .val (.int (0 : Int32)), .val (.ref b3), .val (.ref b16), .val (.ref b19), .val (.ref b12), .val (.int (1 : Int32)), .val (.int (2 : Int32)), .val (.ref b8), .val (.ref b4), .val (.int (1 : Int32))] [(.int (1 : Int32))])) _
      refine XS.istore X65.here hx rfl (hb hby at_287) rfl (l' := #[.val (.int p1), .val (.int p2), .val (.int (3 : Int32)), .val (.int (0 : Int32)), .val (.ref b3), .val (.ref b16), .val (.ref b19), .val (.ref b12), .val (.int (1 : Int32)), .val (.int (2 : Int32)), .val (.ref b8), .val (.ref b4), .val (.int (1 : Int32))]) rfl ?_
      show Steps p.tables e below (T65.setTop (mkF m 289 #[.val (.int p1), .val (.int p2), .val (.int (3 : Int32)), .val (.int (0 : Int32)), .val (.ref b3), .val (.ref b16), .val (.ref b19), .val (.ref b12), .val (.int (1 : Int32)), .val (.int (2 : Int32)), .val (.ref b8), .val (.ref b4), .val (.int (1 : Int32))] [])) _
      refine XS.aload X65.here hx rfl (hb hby at_289) rfl rfl ?_
      show Steps p.tables e below (T65.setTop (mkF m 291 #[.val (.int p1), .val (.int p2), .val (.int (3 : Int32)), .val (.int (0 : Int32)), .val (.ref b3), .val (.ref b16), .val (.ref b19), .val (.ref b12), .val (.int (1 : Int32)), .val (.int (2 : Int32)), .val (.ref b8), .val (.ref b4), .val (.int (1 : Int32))] [(.ref b4)])) _
      refine XS.ifnullNo X65.here hx rfl (hb hby at_291) rfl ?_
      show Steps p.tables e below (T65.setTop (mkF m 294 #[.val (.int p1), .val (.int p2), .val (.int (3 : Int32)), .val (.int (0 : Int32)), .val (.ref b3), .val (.ref b16), .val (.ref b19), .val (.ref b12), .val (.int (1 : Int32)), .val (.int (2 : Int32)), .val (.ref b8), .val (.ref b4), .val (.int (1 : Int32))] [])) _
      refine XS.iload X65.here hx rfl (hb hby at_294) rfl ?_
      show Steps p.tables e below (T65.setTop (mkF m 296 #[.val (.int p1), .val (.int p2), .val (.int (3 : Int32)), .val (.int (0 : Int32)), .val (.ref b3), .val (.ref b16), .val (.ref b19), .val (.ref b12), .val (.int (1 : Int32)), .val (.int (2 : Int32)), .val (.ref b8), .val (.ref b4), .val (.int (1 : Int32))] [(.int (1 : Int32))])) _
      refine XS.ifNo X65.here hx rfl (hb hby at_296) rfl ((if0 _ _).trans (feq (by decide)).1) ?_
      show Steps p.tables e below (T65.setTop (mkF m 299 #[.val (.int p1), .val (.int p2), .val (.int (3 : Int32)), .val (.int (0 : Int32)), .val (.ref b3), .val (.ref b16), .val (.ref b19), .val (.ref b12), .val (.int (1 : Int32)), .val (.int (2 : Int32)), .val (.ref b8), .val (.ref b4), .val (.int (1 : Int32))] [])) _
      refine XS.aload X65.here hx rfl (hb hby at_299) rfl rfl ?_
      show Steps p.tables e below (T65.setTop (mkF m 301 #[.val (.int p1), .val (.int p2), .val (.int (3 : Int32)), .val (.int (0 : Int32)), .val (.ref b3), .val (.ref b16), .val (.ref b19), .val (.ref b12), .val (.int (1 : Int32)), .val (.int (2 : Int32)), .val (.ref b8), .val (.ref b4), .val (.int (1 : Int32))] [(.ref b4)])) _
      refine st66.trans ?_
      show Steps p.tables e below (T66.setTop (mkF m 304 #[.val (.int p1), .val (.int p2), .val (.int (3 : Int32)), .val (.int (0 : Int32)), .val (.ref b3), .val (.ref b16), .val (.ref b19), .val (.ref b12), .val (.int (1 : Int32)), .val (.int (2 : Int32)), .val (.ref b8), .val (.ref b4), .val (.int (1 : Int32))] [(.ref b8)])) _
      refine XS.aload X66.here hx rfl (hb hby at_304) rfl rfl ?_
      show Steps p.tables e below (T66.setTop (mkF m 306 #[.val (.int p1), .val (.int p2), .val (.int (3 : Int32)), .val (.int (0 : Int32)), .val (.ref b3), .val (.ref b16), .val (.ref b19), .val (.ref b12), .val (.int (1 : Int32)), .val (.int (2 : Int32)), .val (.ref b8), .val (.ref b4), .val (.int (1 : Int32))] [(.ref b8), (.ref b8)])) _
      refine Jvm.RoadKit.acmp (g := (mkF m 306 #[.val (.int p1), .val (.int p2), .val (.int (3 : Int32)), .val (.int (0 : Int32)), .val (.ref b3), .val (.ref b16), .val (.ref b19), .val (.ref b12), .val (.int (1 : Int32)), .val (.int (2 : Int32)), .val (.ref b8), .val (.ref b4), .val (.int (1 : Int32))] [(.ref b8), (.ref b8)])) X66 hx rfl rfl rfl (pc0 := 306) (pc' := 309) (same := true) rfl (hb hby at_306) rfl (decide_eq_true rfl) (by decide) (by decide) ?_
      show Steps p.tables e below (T66.setTop (mkF m 309 #[.val (.int p1), .val (.int p2), .val (.int (3 : Int32)), .val (.int (0 : Int32)), .val (.ref b3), .val (.ref b16), .val (.ref b19), .val (.ref b12), .val (.int (1 : Int32)), .val (.int (2 : Int32)), .val (.ref b8), .val (.ref b4), .val (.int (1 : Int32))] [])) _
      refine XS.aload X66.here hx rfl (hb hby at_309) rfl rfl ?_
      show Steps p.tables e below (T66.setTop (mkF m 311 #[.val (.int p1), .val (.int p2), .val (.int (3 : Int32)), .val (.int (0 : Int32)), .val (.ref b3), .val (.ref b16), .val (.ref b19), .val (.ref b12), .val (.int (1 : Int32)), .val (.int (2 : Int32)), .val (.ref b8), .val (.ref b4), .val (.int (1 : Int32))] [(.ref b4)])) _
      refine st67.trans ?_
      show Steps p.tables e below (T67.setTop (mkF m 314 #[.val (.int p1), .val (.int p2), .val (.int (3 : Int32)), .val (.int (0 : Int32)), .val (.ref b3), .val (.ref b16), .val (.ref b19), .val (.ref b12), .val (.int (1 : Int32)), .val (.int (2 : Int32)), .val (.ref b8), .val (.ref b4), .val (.int (1 : Int32))] [.null])) _
      refine XS.ifnonnullNo X67.here hx rfl (hb hby at_314) rfl ?_
      show Steps p.tables e below (T67.setTop (mkF m 317 #[.val (.int p1), .val (.int p2), .val (.int (3 : Int32)), .val (.int (0 : Int32)), .val (.ref b3), .val (.ref b16), .val (.ref b19), .val (.ref b12), .val (.int (1 : Int32)), .val (.int (2 : Int32)), .val (.ref b8), .val (.ref b4), .val (.int (1 : Int32))] [])) _
      refine XS.iconst X67.here hx rfl (hb hby at_317) ?_
      show Steps p.tables e below (T67.setTop (mkF m 318 #[.val (.int p1), .val (.int p2), .val (.int (3 : Int32)), .val (.int (0 : Int32)), .val (.ref b3), .val (.ref b16), .val (.ref b19), .val (.ref b12), .val (.int (1 : Int32)), .val (.int (2 : Int32)), .val (.ref b8), .val (.ref b4), .val (.int (1 : Int32))] [(.int (1 : Int32))])) _
      refine XS.goto X67.here hx rfl (pc0 := 318) (pc' := 322) rfl (hb hby at_318) (by decide) (by decide) ?_
      show Steps p.tables e below (T67.setTop (mkF m 322 #[.val (.int p1), .val (.int p2), .val (.int (3 : Int32)), .val (.int (0 : Int32)), .val (.ref b3), .val (.ref b16), .val (.ref b19), .val (.ref b12), .val (.int (1 : Int32)), .val (.int (2 : Int32)), .val (.ref b8), .val (.ref b4), .val (.int (1 : Int32))] [(.int (1 : Int32))])) _
      refine XS.istore X67.here hx rfl (hb hby at_322) rfl (l' := #[.val (.int p1), .val (.int p2), .val (.int (3 : Int32)), .val (.int (0 : Int32)), .val (.ref b3), .val (.ref b16), .val (.ref b19), .val (.ref b12), .val (.int (1 : Int32)), .val (.int (2 : Int32)), .val (.ref b8), .val (.ref b4), .val (.int (1 : Int32))]) rfl ?_
      show Steps p.tables e below (T67.setTop (mkF m 324 #[.val (.int p1), .val (.int p2), .val (.int (3 : Int32)), .val (.int (0 : Int32)), .val (.ref b3), .val (.ref b16), .val (.ref b19), .val (.ref b12), .val (.int (1 : Int32)), .val (.int (2 : Int32)), .val (.ref b8), .val (.ref b4), .val (.int (1 : Int32))] [])) _
      refine XS.iload X67.here hx rfl (hb hby at_324) rfl ?_
      show Steps p.tables e below (T67.setTop (mkF m 326 #[.val (.int p1), .val (.int p2), .val (.int (3 : Int32)), .val (.int (0 : Int32)), .val (.ref b3), .val (.ref b16), .val (.ref b19), .val (.ref b12), .val (.int (1 : Int32)), .val (.int (2 : Int32)), .val (.ref b8), .val (.ref b4), .val (.int (1 : Int32))] [(.int (1 : Int32))])) _
      exact retN X67 hx (t := .boolean) Bd.returns (by simp) (hb hby at_326) hr
    · show Q0 Z p1 h0 n0 _ T67.heap _
      rw [eh67]
      exact ⟨rfl, N67⟩
  · rw [e1, e2] at go23
    obtain ⟨cl68, Ar68, q68, S68, M68, Hh68, G68⟩ := id V22_b3
    have hin68 : ¬ ((1 : Int32) < 0 ∨ cl68.slots.size ≤ ((1 : Int32)).toNatClampNeg) := inb_of S68 ⟨by decide, by decide⟩
    have hat68 : cl68.slots[((1 : Int32)).toNatClampNeg]? = some (.ref b8) := Has.at Hh68 hin68 rfl
    obtain ⟨cq69, kq69, q69a, q69b, q69c⟩ := isOf hZ17 rfl E22_b19
    obtain ⟨_, _, ⟨T69, L69, k69, n69⟩, -, X69, ⟨Lc69, hQ69, l69, y69, z69⟩, st69⟩ := X22.virtualBack hx (y := (⟨"com/example/unhurried_reaper/unhurriedreaper/TaskHistory", "toFront", "(Lcom/example/unhurried_reaper/unhurriedreaper/Task;)V"⟩ : MethodName)) (z := (⟨"com/example/unhurried_reaper/unhurriedreaper/TaskHistory", "toFront", "(Lcom/example/unhurried_reaper/unhurriedreaper/Task;)V"⟩ : MethodName)) hown17 (mvT hZ17 (hw _ (List.mem_of_getElem? (i := 58) rfl))) (mvT hZ17 (hw _ (List.mem_of_getElem? (i := 59) rfl))) (notFace_of_selects (args := #[]) (mvT hZ17 (hw _ (List.mem_of_getElem? (i := 61) rfl)))) (mvT hZ17 (hw _ (List.mem_of_getElem? (i := 61) rfl))) (mvT hZ17 (hw _ (List.mem_of_getElem? (i := 60) rfl))) (by decide) (backOf (W := 0) (rm7b l Z a0 hw [] b19 b8 b4 ((0 : Int64) + (1 : Int64)) (0 : Int64) (0 : Int64) .null T22.heap n0 (Nat.le_trans (Nat.le_trans (Nat.le_trans (Nat.le_trans (Nat.le_trans (Nat.le_trans (Nat.le_trans (Nat.le_trans (Nat.le_trans (Nat.le_trans (Nat.le_trans (Nat.le_trans (Nat.le_trans (Nat.le_trans (Nat.le_trans (Nat.le_trans (Nat.le_trans (Nat.le_trans Z0 E3.1) E4.1) E5.1) K6c.1) (Keep.of_wr W7).1) E8.1) E9.1) K10c.1) (Keep.of_wr W11).1) E12.1) E13.1) K14c.1) (Keep.of_wr W15).1) E16.1) E17.1) K18c.1) E19.1) K22c.1) ge_b19 E22_b19 F22_b19_front F22_b19_bringings ge_b8 E22_b8 F22_b8_nearerFront F22_b8_furtherBack F22_b8_frontedAt ge_b4 E22_b4 F22_b4_nearerFront F22_b4_furtherBack F22_b4_frontedAt (Ne.symm ne_b8_b19) (Ne.symm ne_b4_b19) (Ne.symm ne_b4_b8)) hZ17 (hw _ (List.mem_of_getElem? (i := 62) rfl)) (hw _ (List.mem_of_getElem? (i := 53) rfl)) (by decide) (by decide)) q69a q69c (g := (mkF m 101 #[.val (.int p1), .val (.int p2), .val (.int (3 : Int32)), .val (.int (1 : Int32)), .val (.ref b3), .val (.ref b16), .val (.ref b19), .unset, .unset, .unset, .unset, .unset, .unset] [(.ref b8), (.ref b19)])) rfl (by rw [hml]; rfl) (Steps.refl _) (argsL := [(.ref b8)]) (rest := []) (lenOf pd_2 rfl) rfl (by show 2 * 0 + _ ≤ _; exact Nat.le_of_eq rfl) (hb hby at_101) (fun _ _ => ⟨rfl, rfl, (by decide : 18 + 0 ≤ _), (by decide : 69 + 0 ≤ _)⟩)
    dsimp only [Pt.U, Pt.locs, Pt.cells, Pt.slots] at X69 l69 y69 z69 st69 hQ69
    subst l69 y69 z69
    obtain ⟨rfl, N69q, K69c, F69_b19_front, F69_b19_bringings, F69_b8_nearerFront, F69_b8_furtherBack, F69_b8_frontedAt, F69_b4_nearerFront, F69_b4_furtherBack, F69_b4_frontedAt⟩ := hQ69
    have N69 := Fr.app N22 N69q
    have V69_b3 := V22_b3.keep K69c (ninS ne_b3_b19 (ninS ne_b3_b8 (ninS ne_b3_b4 nin0)))
    have E69_b4 := E22_b4.keep K69c
    have E69_b8 := E22_b8.keep K69c
    have E69_b12 := E22_b12.keep K69c
    have F69_b12_nearerFront := F22_b12_nearerFront.keep K69c (ninS ne_b12_b19 (ninS (Ne.symm ne_b8_b12) (ninS (Ne.symm ne_b4_b12) nin0)))
    have F69_b12_furtherBack := F22_b12_furtherBack.keep K69c (ninS ne_b12_b19 (ninS (Ne.symm ne_b8_b12) (ninS (Ne.symm ne_b4_b12) nin0)))
    have F69_b12_frontedAt := F22_b12_frontedAt.keep K69c (ninS ne_b12_b19 (ninS (Ne.symm ne_b8_b12) (ninS (Ne.symm ne_b4_b12) nin0)))
    have E69_b16 := E22_b16.keep K69c
    have F69_b16_nearerFront := F22_b16_nearerFront.keep K69c (ninS ne_b16_b19 (ninS (Ne.symm ne_b8_b16) (ninS (Ne.symm ne_b4_b16) nin0)))
    have F69_b16_furtherBack := F22_b16_furtherBack.keep K69c (ninS ne_b16_b19 (ninS (Ne.symm ne_b8_b16) (ninS (Ne.symm ne_b4_b16) nin0)))
    have F69_b16_frontedAt := F22_b16_frontedAt.keep K69c (ninS ne_b16_b19 (ninS (Ne.symm ne_b8_b16) (ninS (Ne.symm ne_b4_b16) nin0)))
    have E69_b19 := E22_b19.keep K69c
    obtain ⟨cl70, Ar70, q70, S70, M70, Hh70, G70⟩ := id V69_b3
    have hin70 : ¬ ((2 : Int32) < 0 ∨ cl70.slots.size ≤ ((2 : Int32)).toNatClampNeg) := inb_of S70 ⟨by decide, by decide⟩
    have hat70 : cl70.slots[((2 : Int32)).toNatClampNeg]? = some (.ref b12) := Has.at Hh70 hin70 rfl
    obtain ⟨cq71, kq71, q71a, q71b, q71c⟩ := isOf hZ17 rfl E69_b19
    obtain ⟨_, _, ⟨T71, L71, k71, n71⟩, -, X71, ⟨Lc71, hQ71, l71, y71, z71⟩, st71⟩ := X69.virtualBack hx (y := (⟨"com/example/unhurried_reaper/unhurriedreaper/TaskHistory", "toFront", "(Lcom/example/unhurried_reaper/unhurriedreaper/Task;)V"⟩ : MethodName)) (z := (⟨"com/example/unhurried_reaper/unhurriedreaper/TaskHistory", "toFront", "(Lcom/example/unhurried_reaper/unhurriedreaper/Task;)V"⟩ : MethodName)) hown17 (mvT hZ17 (hw _ (List.mem_of_getElem? (i := 58) rfl))) (mvT hZ17 (hw _ (List.mem_of_getElem? (i := 59) rfl))) (notFace_of_selects (args := #[]) (mvT hZ17 (hw _ (List.mem_of_getElem? (i := 61) rfl)))) (mvT hZ17 (hw _ (List.mem_of_getElem? (i := 61) rfl))) (mvT hZ17 (hw _ (List.mem_of_getElem? (i := 60) rfl))) (by decide) (backOf (W := 0) (rm7b l Z a0 hw [] b19 b12 b8 (((0 : Int64) + (1 : Int64)) + (1 : Int64)) (0 : Int64) ((0 : Int64) + (1 : Int64)) (.ref b4) T69.heap n0 (Nat.le_trans (Nat.le_trans (Nat.le_trans (Nat.le_trans (Nat.le_trans (Nat.le_trans (Nat.le_trans (Nat.le_trans (Nat.le_trans (Nat.le_trans (Nat.le_trans (Nat.le_trans (Nat.le_trans (Nat.le_trans (Nat.le_trans (Nat.le_trans (Nat.le_trans (Nat.le_trans (Nat.le_trans Z0 E3.1) E4.1) E5.1) K6c.1) (Keep.of_wr W7).1) E8.1) E9.1) K10c.1) (Keep.of_wr W11).1) E12.1) E13.1) K14c.1) (Keep.of_wr W15).1) E16.1) E17.1) K18c.1) E19.1) K22c.1) K69c.1) ge_b19 E69_b19 F69_b19_front F69_b19_bringings ge_b12 E69_b12 F69_b12_nearerFront F69_b12_furtherBack F69_b12_frontedAt ge_b8 E69_b8 F69_b8_nearerFront F69_b8_furtherBack F69_b8_frontedAt (Ne.symm ne_b12_b19) (Ne.symm ne_b8_b19) (Ne.symm ne_b8_b12)) hZ17 (hw _ (List.mem_of_getElem? (i := 62) rfl)) (hw _ (List.mem_of_getElem? (i := 53) rfl)) (by decide) (by decide)) q71a q71c (g := (mkF m 115 #[.val (.int p1), .val (.int p2), .val (.int (3 : Int32)), .val (.int (1 : Int32)), .val (.ref b3), .val (.ref b16), .val (.ref b19), .unset, .unset, .unset, .unset, .unset, .unset] [(.ref b12), (.ref b19)])) rfl (by rw [hml]; rfl) (Steps.refl _) (argsL := [(.ref b12)]) (rest := []) (lenOf pd_2 rfl) rfl (by show 2 * 0 + _ ≤ _; exact Nat.le_of_eq rfl) (hb hby at_115) (fun _ _ => ⟨rfl, rfl, (by decide : 18 + 0 ≤ _), (by decide : 69 + 0 ≤ _)⟩)
    dsimp only [Pt.U, Pt.locs, Pt.cells, Pt.slots] at X71 l71 y71 z71 st71 hQ71
    subst l71 y71 z71
    obtain ⟨rfl, N71q, K71c, F71_b19_front, F71_b19_bringings, F71_b12_nearerFront, F71_b12_furtherBack, F71_b12_frontedAt, F71_b8_nearerFront, F71_b8_furtherBack, F71_b8_frontedAt⟩ := hQ71
    have N71 := Fr.app N69 N71q
    have V71_b3 := V69_b3.keep K71c (ninS ne_b3_b19 (ninS ne_b3_b12 (ninS ne_b3_b8 nin0)))
    have E71_b4 := E69_b4.keep K71c
    have F71_b4_nearerFront := F69_b4_nearerFront.keep K71c (ninS ne_b4_b19 (ninS ne_b4_b12 (ninS ne_b4_b8 nin0)))
    have F71_b4_furtherBack := F69_b4_furtherBack.keep K71c (ninS ne_b4_b19 (ninS ne_b4_b12 (ninS ne_b4_b8 nin0)))
    have F71_b4_frontedAt := F69_b4_frontedAt.keep K71c (ninS ne_b4_b19 (ninS ne_b4_b12 (ninS ne_b4_b8 nin0)))
    have E71_b8 := E69_b8.keep K71c
    have E71_b12 := E69_b12.keep K71c
    have E71_b16 := E69_b16.keep K71c
    have F71_b16_nearerFront := F69_b16_nearerFront.keep K71c (ninS ne_b16_b19 (ninS (Ne.symm ne_b12_b16) (ninS (Ne.symm ne_b8_b16) nin0)))
    have F71_b16_furtherBack := F69_b16_furtherBack.keep K71c (ninS ne_b16_b19 (ninS (Ne.symm ne_b12_b16) (ninS (Ne.symm ne_b8_b16) nin0)))
    have F71_b16_frontedAt := F69_b16_frontedAt.keep K71c (ninS ne_b16_b19 (ninS (Ne.symm ne_b12_b16) (ninS (Ne.symm ne_b8_b16) nin0)))
    have E71_b19 := E69_b19.keep K71c
    obtain ⟨cl72, Ar72, q72, S72, M72, Hh72, G72⟩ := id V71_b3
    have hin72 : ¬ ((((3 : Int32) - (1 : Int32)) - (1 : Int32)) < 0 ∨ cl72.slots.size ≤ ((((3 : Int32) - (1 : Int32)) - (1 : Int32))).toNatClampNeg) := inb_of S72 ⟨by decide, by decide⟩
    have hat72 : cl72.slots[((((3 : Int32) - (1 : Int32)) - (1 : Int32))).toNatClampNeg]? = some (.ref b8) := Has.at Hh72 hin72 rfl
    obtain ⟨cl73, Ar73, q73, S73, M73, Hh73, G73⟩ := id V71_b3
    have hin73 : ¬ ((((3 : Int32) - (1 : Int32)) - (0 : Int32)) < 0 ∨ cl73.slots.size ≤ ((((3 : Int32) - (1 : Int32)) - (0 : Int32))).toNatClampNeg) := inb_of S73 ⟨by decide, by decide⟩
    have hat73 : cl73.slots[((((3 : Int32) - (1 : Int32)) - (0 : Int32))).toNatClampNeg]? = some (.ref b12) := Has.at Hh73 hin73 rfl
    obtain ⟨cl74, Ar74, q74, S74, M74, Hh74, G74⟩ := id V71_b3
    have hin74 : ¬ ((((3 : Int32) - (1 : Int32)) - (2 : Int32)) < 0 ∨ cl74.slots.size ≤ ((((3 : Int32) - (1 : Int32)) - (2 : Int32))).toNatClampNeg) := inb_of S74 ⟨by decide, by decide⟩
    have hat74 : cl74.slots[((((3 : Int32) - (1 : Int32)) - (2 : Int32))).toNatClampNeg]? = some (.ref b4) := Has.at Hh74 hin74 rfl
    obtain ⟨cq75, kq75, q75a, q75b, q75c⟩ := isOf hZ17 rfl E71_b19
    obtain ⟨_, _, ⟨T75, L75, k75, n75⟩, -, X75, ⟨Lc75, hQ75, l75, y75, z75⟩, st75⟩ := X71.virtualBack hx (y := (⟨"com/example/unhurried_reaper/unhurriedreaper/TaskHistory", "remove", "(Lcom/example/unhurried_reaper/unhurriedreaper/Task;)V"⟩ : MethodName)) (z := (⟨"com/example/unhurried_reaper/unhurriedreaper/TaskHistory", "remove", "(Lcom/example/unhurried_reaper/unhurriedreaper/Task;)V"⟩ : MethodName)) hown17 (mvT hZ17 (hw _ (List.mem_of_getElem? (i := 88) rfl))) (mvT hZ17 (hw _ (List.mem_of_getElem? (i := 89) rfl))) (notFace_of_selects (args := #[]) (mvT hZ17 (hw _ (List.mem_of_getElem? (i := 91) rfl)))) (mvT hZ17 (hw _ (List.mem_of_getElem? (i := 91) rfl))) (mvT hZ17 (hw _ (List.mem_of_getElem? (i := 90) rfl))) (by decide) (backOf (W := 0) (rm11ab l Z a0 hw [] b19 b8 b12 b4 ((0 : Int64) + (1 : Int64)) (((0 : Int64) + (1 : Int64)) + (1 : Int64)) (0 : Int64) .null .null T71.heap n0 (Nat.le_trans (Nat.le_trans (Nat.le_trans (Nat.le_trans (Nat.le_trans (Nat.le_trans (Nat.le_trans (Nat.le_trans (Nat.le_trans (Nat.le_trans (Nat.le_trans (Nat.le_trans (Nat.le_trans (Nat.le_trans (Nat.le_trans (Nat.le_trans (Nat.le_trans (Nat.le_trans (Nat.le_trans (Nat.le_trans Z0 E3.1) E4.1) E5.1) K6c.1) (Keep.of_wr W7).1) E8.1) E9.1) K10c.1) (Keep.of_wr W11).1) E12.1) E13.1) K14c.1) (Keep.of_wr W15).1) E16.1) E17.1) K18c.1) E19.1) K22c.1) K69c.1) K71c.1) ge_b19 E71_b19 ge_b8 E71_b8 F71_b8_nearerFront F71_b8_furtherBack F71_b8_frontedAt ge_b12 E71_b12 F71_b12_nearerFront F71_b12_furtherBack F71_b12_frontedAt ge_b4 E71_b4 F71_b4_nearerFront F71_b4_furtherBack F71_b4_frontedAt (Ne.symm ne_b8_b19) (Ne.symm ne_b12_b19) (Ne.symm ne_b4_b19) ne_b8_b12 (Ne.symm ne_b4_b8) (Ne.symm ne_b4_b12)) hZ17 (hw _ (List.mem_of_getElem? (i := 92) rfl)) (hw _ (List.mem_of_getElem? (i := 53) rfl)) (by decide) (by decide)) q75a q75c (g := (mkF m 197 #[.val (.int p1), .val (.int p2), .val (.int (3 : Int32)), .val (.int (1 : Int32)), .val (.ref b3), .val (.ref b16), .val (.ref b19), .val (.ref b8), .val (.int (0 : Int32)), .val (.int (2 : Int32)), .val (.ref b12), .val (.ref b4), .unset] [(.ref b8), (.ref b19)])) rfl (by rw [hml]; rfl) (Steps.refl _) (argsL := [(.ref b8)]) (rest := []) (lenOf pd_2 rfl) rfl (by show 2 * 0 + _ ≤ _; exact Nat.le_of_eq rfl) (hb hby at_197) (fun _ _ => ⟨rfl, rfl, (by decide : 18 + 0 ≤ _), (by decide : 69 + 0 ≤ _)⟩)
    dsimp only [Pt.U, Pt.locs, Pt.cells, Pt.slots] at X75 l75 y75 z75 st75 hQ75
    subst l75 y75 z75
    obtain ⟨rfl, N75q, K75c, F75_b8_nearerFront, F75_b8_furtherBack, F75_b8_frontedAt, F75_b12_nearerFront, F75_b12_furtherBack, F75_b12_frontedAt, F75_b4_nearerFront, F75_b4_furtherBack, F75_b4_frontedAt⟩ := hQ75
    have N75 := Fr.app N71 N75q
    have V75_b3 := V71_b3.keep K75c (ninS ne_b3_b8 (ninS ne_b3_b12 (ninS ne_b3_b4 nin0)))
    have E75_b4 := E71_b4.keep K75c
    have E75_b8 := E71_b8.keep K75c
    have E75_b12 := E71_b12.keep K75c
    have E75_b16 := E71_b16.keep K75c
    have F75_b16_nearerFront := F71_b16_nearerFront.keep K75c (ninS (Ne.symm ne_b8_b16) (ninS (Ne.symm ne_b12_b16) (ninS (Ne.symm ne_b4_b16) nin0)))
    have F75_b16_furtherBack := F71_b16_furtherBack.keep K75c (ninS (Ne.symm ne_b8_b16) (ninS (Ne.symm ne_b12_b16) (ninS (Ne.symm ne_b4_b16) nin0)))
    have F75_b16_frontedAt := F71_b16_frontedAt.keep K75c (ninS (Ne.symm ne_b8_b16) (ninS (Ne.symm ne_b12_b16) (ninS (Ne.symm ne_b4_b16) nin0)))
    have E75_b19 := E71_b19.keep K75c
    have F75_b19_front := F71_b19_front.keep K75c (ninS (Ne.symm ne_b8_b19) (ninS (Ne.symm ne_b12_b19) (ninS (Ne.symm ne_b4_b19) nin0)))
    have F75_b19_bringings := F71_b19_bringings.keep K75c (ninS (Ne.symm ne_b8_b19) (ninS (Ne.symm ne_b12_b19) (ninS (Ne.symm ne_b4_b19) nin0)))
    obtain ⟨cq76, kq76, q76a, q76b, q76c⟩ := isOf hZ17 rfl E75_b8
    obtain ⟨_, _, ⟨T76, L76, k76, n76⟩, -, X76, ⟨Lc76, hQ76, l76, y76, z76⟩, st76⟩ := X75.virtualBack hx (y := (⟨"com/example/unhurried_reaper/unhurriedreaper/Task", "nearerFront", "()Lcom/example/unhurried_reaper/unhurriedreaper/Task;"⟩ : MethodName)) (z := (⟨"com/example/unhurried_reaper/unhurriedreaper/Task", "nearerFront", "()Lcom/example/unhurried_reaper/unhurriedreaper/Task;"⟩ : MethodName)) hown17 (mvT hZ17 (hw _ (List.mem_of_getElem? (i := 103) rfl))) (mvT hZ17 (hw _ (List.mem_of_getElem? (i := 66) rfl))) (notFace_of_selects (args := #[]) (mvT hZ17 (hw _ (List.mem_of_getElem? (i := 68) rfl)))) (mvT hZ17 (hw _ (List.mem_of_getElem? (i := 68) rfl))) (mvT hZ17 (hw _ (List.mem_of_getElem? (i := 67) rfl))) (by decide) (backOf (W := 0) (rm8N l Z a0 hw [] b8 T75.heap n0 (Nat.le_trans (Nat.le_trans (Nat.le_trans (Nat.le_trans (Nat.le_trans (Nat.le_trans (Nat.le_trans (Nat.le_trans (Nat.le_trans (Nat.le_trans (Nat.le_trans (Nat.le_trans (Nat.le_trans (Nat.le_trans (Nat.le_trans (Nat.le_trans (Nat.le_trans (Nat.le_trans (Nat.le_trans (Nat.le_trans (Nat.le_trans Z0 E3.1) E4.1) E5.1) K6c.1) (Keep.of_wr W7).1) E8.1) E9.1) K10c.1) (Keep.of_wr W11).1) E12.1) E13.1) K14c.1) (Keep.of_wr W15).1) E16.1) E17.1) K18c.1) E19.1) K22c.1) K69c.1) K71c.1) K75c.1) F75_b8_nearerFront) hZ17 (hw _ (List.mem_of_getElem? (i := 69) rfl)) (hw _ (List.mem_of_getElem? (i := 4) rfl)) (by decide) (by decide)) q76a q76c (g := (mkF m 202 #[.val (.int p1), .val (.int p2), .val (.int (3 : Int32)), .val (.int (1 : Int32)), .val (.ref b3), .val (.ref b16), .val (.ref b19), .val (.ref b8), .val (.int (0 : Int32)), .val (.int (2 : Int32)), .val (.ref b12), .val (.ref b4), .unset] [(.ref b8)])) rfl (by rw [hml]; rfl) (Steps.refl _) (argsL := []) (rest := []) (lenOf pd_1 rfl) rfl (by show 2 * 0 + _ ≤ _; exact Nat.le_of_eq rfl) (hb hby at_202) (fun _ _ => ⟨rfl, rfl, (by decide : 18 + 0 ≤ _), (by decide : 69 + 0 ≤ _)⟩)
    dsimp only [Pt.U, Pt.locs, Pt.cells, Pt.slots] at X76 l76 y76 z76 st76 hQ76
    subst l76 y76 z76
    obtain ⟨rfl, N76q, eh76⟩ := hQ76
    have N76 := Fr.app N75 N76q
    obtain ⟨cq77, kq77, q77a, q77b, q77c⟩ := isOf hZ17 eh76 E75_b8
    obtain ⟨_, _, ⟨T77, L77, k77, n77⟩, -, X77, ⟨Lc77, hQ77, l77, y77, z77⟩, st77⟩ := X76.virtualBack hx (y := (⟨"com/example/unhurried_reaper/unhurriedreaper/Task", "furtherBack", "()Lcom/example/unhurried_reaper/unhurriedreaper/Task;"⟩ : MethodName)) (z := (⟨"com/example/unhurried_reaper/unhurriedreaper/Task", "furtherBack", "()Lcom/example/unhurried_reaper/unhurriedreaper/Task;"⟩ : MethodName)) hown17 (mvT hZ17 (hw _ (List.mem_of_getElem? (i := 104) rfl))) (mvT hZ17 (hw _ (List.mem_of_getElem? (i := 94) rfl))) (notFace_of_selects (args := #[]) (mvT hZ17 (hw _ (List.mem_of_getElem? (i := 96) rfl)))) (mvT hZ17 (hw _ (List.mem_of_getElem? (i := 96) rfl))) (mvT hZ17 (hw _ (List.mem_of_getElem? (i := 95) rfl))) (by decide) (backOf (W := 0) (rm12N l Z a0 hw [] b8 T75.heap n0 (Nat.le_trans (Nat.le_trans (Nat.le_trans (Nat.le_trans (Nat.le_trans (Nat.le_trans (Nat.le_trans (Nat.le_trans (Nat.le_trans (Nat.le_trans (Nat.le_trans (Nat.le_trans (Nat.le_trans (Nat.le_trans (Nat.le_trans (Nat.le_trans (Nat.le_trans (Nat.le_trans (Nat.le_trans (Nat.le_trans (Nat.le_trans Z0 E3.1) E4.1) E5.1) K6c.1) (Keep.of_wr W7).1) E8.1) E9.1) K10c.1) (Keep.of_wr W11).1) E12.1) E13.1) K14c.1) (Keep.of_wr W15).1) E16.1) E17.1) K18c.1) E19.1) K22c.1) K69c.1) K71c.1) K75c.1) F75_b8_furtherBack) hZ17 (hw _ (List.mem_of_getElem? (i := 97) rfl)) (hw _ (List.mem_of_getElem? (i := 4) rfl)) (by decide) (by decide)) q77a q77c (g := (mkF m 210 #[.val (.int p1), .val (.int p2), .val (.int (3 : Int32)), .val (.int (1 : Int32)), .val (.ref b3), .val (.ref b16), .val (.ref b19), .val (.ref b8), .val (.int (0 : Int32)), .val (.int (2 : Int32)), .val (.ref b12), .val (.ref b4), .unset] [(.ref b8)])) rfl (by rw [hml]; rfl) (Steps.refl _) (argsL := []) (rest := []) (lenOf pd_1 rfl) rfl (by show 2 * 0 + _ ≤ _; exact Nat.le_of_eq rfl) (hb hby at_210) (fun _ _ => ⟨rfl, eh76, (by decide : 18 + 0 ≤ _), (by decide : 69 + 0 ≤ _)⟩)
    dsimp only [Pt.U, Pt.locs, Pt.cells, Pt.slots] at X77 l77 y77 z77 st77 hQ77
    subst l77 y77 z77
    obtain ⟨rfl, N77q, eh77⟩ := hQ77
    have N77 := Fr.app N76 N77q
    obtain ⟨cq78, kq78, q78a, q78b, q78c⟩ := isOf hZ17 eh77 E75_b19
    obtain ⟨_, _, ⟨T78, L78, k78, n78⟩, -, X78, ⟨Lc78, hQ78, l78, y78, z78⟩, st78⟩ := X77.virtualBack hx (y := (⟨"com/example/unhurried_reaper/unhurriedreaper/TaskHistory", "toFront", "(Lcom/example/unhurried_reaper/unhurriedreaper/Task;)V"⟩ : MethodName)) (z := (⟨"com/example/unhurried_reaper/unhurriedreaper/TaskHistory", "toFront", "(Lcom/example/unhurried_reaper/unhurriedreaper/Task;)V"⟩ : MethodName)) hown17 (mvT hZ17 (hw _ (List.mem_of_getElem? (i := 58) rfl))) (mvT hZ17 (hw _ (List.mem_of_getElem? (i := 59) rfl))) (notFace_of_selects (args := #[]) (mvT hZ17 (hw _ (List.mem_of_getElem? (i := 61) rfl)))) (mvT hZ17 (hw _ (List.mem_of_getElem? (i := 61) rfl))) (mvT hZ17 (hw _ (List.mem_of_getElem? (i := 60) rfl))) (by decide) (backOf (W := 0) (rm7b l Z a0 hw [] b19 b16 b12 ((((0 : Int64) + (1 : Int64)) + (1 : Int64)) + (1 : Int64)) (0 : Int64) (((0 : Int64) + (1 : Int64)) + (1 : Int64)) (.ref b4) T75.heap n0 (Nat.le_trans (Nat.le_trans (Nat.le_trans (Nat.le_trans (Nat.le_trans (Nat.le_trans (Nat.le_trans (Nat.le_trans (Nat.le_trans (Nat.le_trans (Nat.le_trans (Nat.le_trans (Nat.le_trans (Nat.le_trans (Nat.le_trans (Nat.le_trans (Nat.le_trans (Nat.le_trans (Nat.le_trans (Nat.le_trans (Nat.le_trans Z0 E3.1) E4.1) E5.1) K6c.1) (Keep.of_wr W7).1) E8.1) E9.1) K10c.1) (Keep.of_wr W11).1) E12.1) E13.1) K14c.1) (Keep.of_wr W15).1) E16.1) E17.1) K18c.1) E19.1) K22c.1) K69c.1) K71c.1) K75c.1) ge_b19 E75_b19 F75_b19_front F75_b19_bringings ge_b16 E75_b16 F75_b16_nearerFront F75_b16_furtherBack F75_b16_frontedAt ge_b12 E75_b12 F75_b12_nearerFront F75_b12_furtherBack F75_b12_frontedAt (Ne.symm ne_b16_b19) (Ne.symm ne_b12_b19) (Ne.symm ne_b12_b16)) hZ17 (hw _ (List.mem_of_getElem? (i := 62) rfl)) (hw _ (List.mem_of_getElem? (i := 53) rfl)) (by decide) (by decide)) q78a q78c (g := (mkF m 227 #[.val (.int p1), .val (.int p2), .val (.int (3 : Int32)), .val (.int (1 : Int32)), .val (.ref b3), .val (.ref b16), .val (.ref b19), .val (.ref b8), .val (.int (0 : Int32)), .val (.int (2 : Int32)), .val (.ref b12), .val (.ref b4), .val (.int (1 : Int32))] [(.ref b16), (.ref b19)])) rfl (by rw [hml]; rfl) (Steps.refl _) (argsL := [(.ref b16)]) (rest := []) (lenOf pd_2 rfl) rfl (by show 2 * 0 + _ ≤ _; exact Nat.le_of_eq rfl) (hb hby at_227) (fun _ _ => ⟨rfl, eh77, (by decide : 18 + 0 ≤ _), (by decide : 69 + 0 ≤ _)⟩)
    dsimp only [Pt.U, Pt.locs, Pt.cells, Pt.slots] at X78 l78 y78 z78 st78 hQ78
    subst l78 y78 z78
    obtain ⟨rfl, N78q, K78c, F78_b19_front, F78_b19_bringings, F78_b16_nearerFront, F78_b16_furtherBack, F78_b16_frontedAt, F78_b12_nearerFront, F78_b12_furtherBack, F78_b12_frontedAt⟩ := hQ78
    have N78 := Fr.app N77 N78q
    have V78_b3 := V75_b3.keep K78c (ninS ne_b3_b19 (ninS ne_b3_b16 (ninS ne_b3_b12 nin0)))
    have E78_b4 := E75_b4.keep K78c
    have F78_b4_nearerFront := F75_b4_nearerFront.keep K78c (ninS ne_b4_b19 (ninS ne_b4_b16 (ninS ne_b4_b12 nin0)))
    have F78_b4_furtherBack := F75_b4_furtherBack.keep K78c (ninS ne_b4_b19 (ninS ne_b4_b16 (ninS ne_b4_b12 nin0)))
    have F78_b4_frontedAt := F75_b4_frontedAt.keep K78c (ninS ne_b4_b19 (ninS ne_b4_b16 (ninS ne_b4_b12 nin0)))
    have E78_b8 := E75_b8.keep K78c
    have F78_b8_nearerFront := F75_b8_nearerFront.keep K78c (ninS ne_b8_b19 (ninS ne_b8_b16 (ninS ne_b8_b12 nin0)))
    have F78_b8_furtherBack := F75_b8_furtherBack.keep K78c (ninS ne_b8_b19 (ninS ne_b8_b16 (ninS ne_b8_b12 nin0)))
    have F78_b8_frontedAt := F75_b8_frontedAt.keep K78c (ninS ne_b8_b19 (ninS ne_b8_b16 (ninS ne_b8_b12 nin0)))
    have E78_b12 := E75_b12.keep K78c
    have E78_b16 := E75_b16.keep K78c
    have E78_b19 := E75_b19.keep K78c
    obtain ⟨cq79, kq79, q79a, q79b, q79c⟩ := isOf hZ17 rfl E78_b16
    obtain ⟨_, _, ⟨T79, L79, k79, n79⟩, -, X79, ⟨Lc79, hQ79, l79, y79, z79⟩, st79⟩ := X78.virtualBack hx (y := (⟨"com/example/unhurried_reaper/unhurriedreaper/Task", "furtherBack", "()Lcom/example/unhurried_reaper/unhurriedreaper/Task;"⟩ : MethodName)) (z := (⟨"com/example/unhurried_reaper/unhurriedreaper/Task", "furtherBack", "()Lcom/example/unhurried_reaper/unhurriedreaper/Task;"⟩ : MethodName)) hown17 (mvT hZ17 (hw _ (List.mem_of_getElem? (i := 104) rfl))) (mvT hZ17 (hw _ (List.mem_of_getElem? (i := 94) rfl))) (notFace_of_selects (args := #[]) (mvT hZ17 (hw _ (List.mem_of_getElem? (i := 96) rfl)))) (mvT hZ17 (hw _ (List.mem_of_getElem? (i := 96) rfl))) (mvT hZ17 (hw _ (List.mem_of_getElem? (i := 95) rfl))) (by decide) (backOf (W := 0) (rm12R l Z a0 hw [] b16 b12 T78.heap n0 (Nat.le_trans (Nat.le_trans (Nat.le_trans (Nat.le_trans (Nat.le_trans (Nat.le_trans (Nat.le_trans (Nat.le_trans (Nat.le_trans (Nat.le_trans (Nat.le_trans (Nat.le_trans (Nat.le_trans (Nat.le_trans (Nat.le_trans (Nat.le_trans (Nat.le_trans (Nat.le_trans (Nat.le_trans (Nat.le_trans (Nat.le_trans (Nat.le_trans Z0 E3.1) E4.1) E5.1) K6c.1) (Keep.of_wr W7).1) E8.1) E9.1) K10c.1) (Keep.of_wr W11).1) E12.1) E13.1) K14c.1) (Keep.of_wr W15).1) E16.1) E17.1) K18c.1) E19.1) K22c.1) K69c.1) K71c.1) K75c.1) K78c.1) F78_b16_furtherBack) hZ17 (hw _ (List.mem_of_getElem? (i := 97) rfl)) (hw _ (List.mem_of_getElem? (i := 4) rfl)) (by decide) (by decide)) q79a q79c (g := (mkF m 237 #[.val (.int p1), .val (.int p2), .val (.int (3 : Int32)), .val (.int (1 : Int32)), .val (.ref b3), .val (.ref b16), .val (.ref b19), .val (.ref b8), .val (.int (0 : Int32)), .val (.int (2 : Int32)), .val (.ref b12), .val (.ref b4), .val (.int (1 : Int32))] [(.ref b16)])) rfl (by rw [hml]; rfl) (Steps.refl _) (argsL := []) (rest := []) (lenOf pd_1 rfl) rfl (by show 2 * 0 + _ ≤ _; exact Nat.le_of_eq rfl) (hb hby at_237) (fun _ _ => ⟨rfl, rfl, (by decide : 18 + 0 ≤ _), (by decide : 69 + 0 ≤ _)⟩)
    dsimp only [Pt.U, Pt.locs, Pt.cells, Pt.slots] at X79 l79 y79 z79 st79 hQ79
    subst l79 y79 z79
    obtain ⟨rfl, N79q, eh79⟩ := hQ79
    have N79 := Fr.app N78 N79q
    obtain ⟨cq80, kq80, q80a, q80b, q80c⟩ := isOf hZ17 eh79 E78_b12
    obtain ⟨_, _, ⟨T80, L80, k80, n80⟩, -, X80, ⟨Lc80, hQ80, l80, y80, z80⟩, st80⟩ := X79.virtualBack hx (y := (⟨"com/example/unhurried_reaper/unhurriedreaper/Task", "nearerFront", "()Lcom/example/unhurried_reaper/unhurriedreaper/Task;"⟩ : MethodName)) (z := (⟨"com/example/unhurried_reaper/unhurriedreaper/Task", "nearerFront", "()Lcom/example/unhurried_reaper/unhurriedreaper/Task;"⟩ : MethodName)) hown17 (mvT hZ17 (hw _ (List.mem_of_getElem? (i := 103) rfl))) (mvT hZ17 (hw _ (List.mem_of_getElem? (i := 66) rfl))) (notFace_of_selects (args := #[]) (mvT hZ17 (hw _ (List.mem_of_getElem? (i := 68) rfl)))) (mvT hZ17 (hw _ (List.mem_of_getElem? (i := 68) rfl))) (mvT hZ17 (hw _ (List.mem_of_getElem? (i := 67) rfl))) (by decide) (backOf (W := 0) (rm8R l Z a0 hw [] b12 b16 T78.heap n0 (Nat.le_trans (Nat.le_trans (Nat.le_trans (Nat.le_trans (Nat.le_trans (Nat.le_trans (Nat.le_trans (Nat.le_trans (Nat.le_trans (Nat.le_trans (Nat.le_trans (Nat.le_trans (Nat.le_trans (Nat.le_trans (Nat.le_trans (Nat.le_trans (Nat.le_trans (Nat.le_trans (Nat.le_trans (Nat.le_trans (Nat.le_trans (Nat.le_trans Z0 E3.1) E4.1) E5.1) K6c.1) (Keep.of_wr W7).1) E8.1) E9.1) K10c.1) (Keep.of_wr W11).1) E12.1) E13.1) K14c.1) (Keep.of_wr W15).1) E16.1) E17.1) K18c.1) E19.1) K22c.1) K69c.1) K71c.1) K75c.1) K78c.1) F78_b12_nearerFront) hZ17 (hw _ (List.mem_of_getElem? (i := 69) rfl)) (hw _ (List.mem_of_getElem? (i := 4) rfl)) (by decide) (by decide)) q80a q80c (g := (mkF m 264 #[.val (.int p1), .val (.int p2), .val (.int (3 : Int32)), .val (.int (1 : Int32)), .val (.ref b3), .val (.ref b16), .val (.ref b19), .val (.ref b8), .val (.int (0 : Int32)), .val (.int (2 : Int32)), .val (.ref b12), .val (.ref b4), .val (.int (1 : Int32))] [(.ref b12)])) rfl (by rw [hml]; rfl) (Steps.refl _) (argsL := []) (rest := []) (lenOf pd_1 rfl) rfl (by show 2 * 0 + _ ≤ _; exact Nat.le_of_eq rfl) (hb hby at_264) (fun _ _ => ⟨rfl, eh79, (by decide : 18 + 0 ≤ _), (by decide : 69 + 0 ≤ _)⟩)
    dsimp only [Pt.U, Pt.locs, Pt.cells, Pt.slots] at X80 l80 y80 z80 st80 hQ80
    subst l80 y80 z80
    obtain ⟨rfl, N80q, eh80⟩ := hQ80
    have N80 := Fr.app N79 N80q
    obtain ⟨cq81, kq81, q81a, q81b, q81c⟩ := isOf hZ17 eh80 E78_b12
    obtain ⟨_, _, ⟨T81, L81, k81, n81⟩, -, X81, ⟨Lc81, hQ81, l81, y81, z81⟩, st81⟩ := X80.virtualBack hx (y := (⟨"com/example/unhurried_reaper/unhurriedreaper/Task", "furtherBack", "()Lcom/example/unhurried_reaper/unhurriedreaper/Task;"⟩ : MethodName)) (z := (⟨"com/example/unhurried_reaper/unhurriedreaper/Task", "furtherBack", "()Lcom/example/unhurried_reaper/unhurriedreaper/Task;"⟩ : MethodName)) hown17 (mvT hZ17 (hw _ (List.mem_of_getElem? (i := 104) rfl))) (mvT hZ17 (hw _ (List.mem_of_getElem? (i := 94) rfl))) (notFace_of_selects (args := #[]) (mvT hZ17 (hw _ (List.mem_of_getElem? (i := 96) rfl)))) (mvT hZ17 (hw _ (List.mem_of_getElem? (i := 96) rfl))) (mvT hZ17 (hw _ (List.mem_of_getElem? (i := 95) rfl))) (by decide) (backOf (W := 0) (rm12R l Z a0 hw [] b12 b4 T78.heap n0 (Nat.le_trans (Nat.le_trans (Nat.le_trans (Nat.le_trans (Nat.le_trans (Nat.le_trans (Nat.le_trans (Nat.le_trans (Nat.le_trans (Nat.le_trans (Nat.le_trans (Nat.le_trans (Nat.le_trans (Nat.le_trans (Nat.le_trans (Nat.le_trans (Nat.le_trans (Nat.le_trans (Nat.le_trans (Nat.le_trans (Nat.le_trans (Nat.le_trans Z0 E3.1) E4.1) E5.1) K6c.1) (Keep.of_wr W7).1) E8.1) E9.1) K10c.1) (Keep.of_wr W11).1) E12.1) E13.1) K14c.1) (Keep.of_wr W15).1) E16.1) E17.1) K18c.1) E19.1) K22c.1) K69c.1) K71c.1) K75c.1) K78c.1) F78_b12_furtherBack) hZ17 (hw _ (List.mem_of_getElem? (i := 97) rfl)) (hw _ (List.mem_of_getElem? (i := 4) rfl)) (by decide) (by decide)) q81a q81c (g := (mkF m 274 #[.val (.int p1), .val (.int p2), .val (.int (3 : Int32)), .val (.int (1 : Int32)), .val (.ref b3), .val (.ref b16), .val (.ref b19), .val (.ref b8), .val (.int (0 : Int32)), .val (.int (2 : Int32)), .val (.ref b12), .val (.ref b4), .val (.int (1 : Int32))] [(.ref b12)])) rfl (by rw [hml]; rfl) (Steps.refl _) (argsL := []) (rest := []) (lenOf pd_1 rfl) rfl (by show 2 * 0 + _ ≤ _; exact Nat.le_of_eq rfl) (hb hby at_274) (fun _ _ => ⟨rfl, eh80, (by decide : 18 + 0 ≤ _), (by decide : 69 + 0 ≤ _)⟩)
    dsimp only [Pt.U, Pt.locs, Pt.cells, Pt.slots] at X81 l81 y81 z81 st81 hQ81
    subst l81 y81 z81
    obtain ⟨rfl, N81q, eh81⟩ := hQ81
    have N81 := Fr.app N80 N81q
    obtain ⟨cq82, kq82, q82a, q82b, q82c⟩ := isOf hZ17 eh81 E78_b4
    obtain ⟨_, _, ⟨T82, L82, k82, n82⟩, -, X82, ⟨Lc82, hQ82, l82, y82, z82⟩, st82⟩ := X81.virtualBack hx (y := (⟨"com/example/unhurried_reaper/unhurriedreaper/Task", "nearerFront", "()Lcom/example/unhurried_reaper/unhurriedreaper/Task;"⟩ : MethodName)) (z := (⟨"com/example/unhurried_reaper/unhurriedreaper/Task", "nearerFront", "()Lcom/example/unhurried_reaper/unhurriedreaper/Task;"⟩ : MethodName)) hown17 (mvT hZ17 (hw _ (List.mem_of_getElem? (i := 103) rfl))) (mvT hZ17 (hw _ (List.mem_of_getElem? (i := 66) rfl))) (notFace_of_selects (args := #[]) (mvT hZ17 (hw _ (List.mem_of_getElem? (i := 68) rfl)))) (mvT hZ17 (hw _ (List.mem_of_getElem? (i := 68) rfl))) (mvT hZ17 (hw _ (List.mem_of_getElem? (i := 67) rfl))) (by decide) (backOf (W := 0) (rm8R l Z a0 hw [] b4 b12 T78.heap n0 (Nat.le_trans (Nat.le_trans (Nat.le_trans (Nat.le_trans (Nat.le_trans (Nat.le_trans (Nat.le_trans (Nat.le_trans (Nat.le_trans (Nat.le_trans (Nat.le_trans (Nat.le_trans (Nat.le_trans (Nat.le_trans (Nat.le_trans (Nat.le_trans (Nat.le_trans (Nat.le_trans (Nat.le_trans (Nat.le_trans (Nat.le_trans (Nat.le_trans Z0 E3.1) E4.1) E5.1) K6c.1) (Keep.of_wr W7).1) E8.1) E9.1) K10c.1) (Keep.of_wr W11).1) E12.1) E13.1) K14c.1) (Keep.of_wr W15).1) E16.1) E17.1) K18c.1) E19.1) K22c.1) K69c.1) K71c.1) K75c.1) K78c.1) F78_b4_nearerFront) hZ17 (hw _ (List.mem_of_getElem? (i := 69) rfl)) (hw _ (List.mem_of_getElem? (i := 4) rfl)) (by decide) (by decide)) q82a q82c (g := (mkF m 301 #[.val (.int p1), .val (.int p2), .val (.int (3 : Int32)), .val (.int (1 : Int32)), .val (.ref b3), .val (.ref b16), .val (.ref b19), .val (.ref b8), .val (.int (0 : Int32)), .val (.int (2 : Int32)), .val (.ref b12), .val (.ref b4), .val (.int (1 : Int32))] [(.ref b4)])) rfl (by rw [hml]; rfl) (Steps.refl _) (argsL := []) (rest := []) (lenOf pd_1 rfl) rfl (by show 2 * 0 + _ ≤ _; exact Nat.le_of_eq rfl) (hb hby at_301) (fun _ _ => ⟨rfl, eh81, (by decide : 18 + 0 ≤ _), (by decide : 69 + 0 ≤ _)⟩)
    dsimp only [Pt.U, Pt.locs, Pt.cells, Pt.slots] at X82 l82 y82 z82 st82 hQ82
    subst l82 y82 z82
    obtain ⟨rfl, N82q, eh82⟩ := hQ82
    have N82 := Fr.app N81 N82q
    obtain ⟨cq83, kq83, q83a, q83b, q83c⟩ := isOf hZ17 eh82 E78_b4
    obtain ⟨_, _, ⟨T83, L83, k83, n83⟩, -, X83, ⟨Lc83, hQ83, l83, y83, z83⟩, st83⟩ := X82.virtualBack hx (y := (⟨"com/example/unhurried_reaper/unhurriedreaper/Task", "furtherBack", "()Lcom/example/unhurried_reaper/unhurriedreaper/Task;"⟩ : MethodName)) (z := (⟨"com/example/unhurried_reaper/unhurriedreaper/Task", "furtherBack", "()Lcom/example/unhurried_reaper/unhurriedreaper/Task;"⟩ : MethodName)) hown17 (mvT hZ17 (hw _ (List.mem_of_getElem? (i := 104) rfl))) (mvT hZ17 (hw _ (List.mem_of_getElem? (i := 94) rfl))) (notFace_of_selects (args := #[]) (mvT hZ17 (hw _ (List.mem_of_getElem? (i := 96) rfl)))) (mvT hZ17 (hw _ (List.mem_of_getElem? (i := 96) rfl))) (mvT hZ17 (hw _ (List.mem_of_getElem? (i := 95) rfl))) (by decide) (backOf (W := 0) (rm12N l Z a0 hw [] b4 T78.heap n0 (Nat.le_trans (Nat.le_trans (Nat.le_trans (Nat.le_trans (Nat.le_trans (Nat.le_trans (Nat.le_trans (Nat.le_trans (Nat.le_trans (Nat.le_trans (Nat.le_trans (Nat.le_trans (Nat.le_trans (Nat.le_trans (Nat.le_trans (Nat.le_trans (Nat.le_trans (Nat.le_trans (Nat.le_trans (Nat.le_trans (Nat.le_trans (Nat.le_trans Z0 E3.1) E4.1) E5.1) K6c.1) (Keep.of_wr W7).1) E8.1) E9.1) K10c.1) (Keep.of_wr W11).1) E12.1) E13.1) K14c.1) (Keep.of_wr W15).1) E16.1) E17.1) K18c.1) E19.1) K22c.1) K69c.1) K71c.1) K75c.1) K78c.1) F78_b4_furtherBack) hZ17 (hw _ (List.mem_of_getElem? (i := 97) rfl)) (hw _ (List.mem_of_getElem? (i := 4) rfl)) (by decide) (by decide)) q83a q83c (g := (mkF m 311 #[.val (.int p1), .val (.int p2), .val (.int (3 : Int32)), .val (.int (1 : Int32)), .val (.ref b3), .val (.ref b16), .val (.ref b19), .val (.ref b8), .val (.int (0 : Int32)), .val (.int (2 : Int32)), .val (.ref b12), .val (.ref b4), .val (.int (1 : Int32))] [(.ref b4)])) rfl (by rw [hml]; rfl) (Steps.refl _) (argsL := []) (rest := []) (lenOf pd_1 rfl) rfl (by show 2 * 0 + _ ≤ _; exact Nat.le_of_eq rfl) (hb hby at_311) (fun _ _ => ⟨rfl, eh82, (by decide : 18 + 0 ≤ _), (by decide : 69 + 0 ≤ _)⟩)
    dsimp only [Pt.U, Pt.locs, Pt.cells, Pt.slots] at X83 l83 y83 z83 st83 hQ83
    subst l83 y83 z83
    obtain ⟨rfl, N83q, eh83⟩ := hQ83
    have N83 := Fr.app N82 N83q
    obtain ⟨fs, hr, hrun, hended, hRW⟩ := X83.leaveW hS17 (by rw [eh83]; exact (Nat.le_trans (Nat.le_trans (Nat.le_trans (Nat.le_trans (Nat.le_trans (Nat.le_trans (Nat.le_trans hk17 K18c.1) E19.1) K22c.1) K69c.1) K71c.1) K75c.1) K78c.1)) (v := some (.int (1 : Int32))) (fun h => by rw [Bd.returns] at h; cases h)
    refine ⟨_, _, go23 _ ?_, hrun, hended, _, _, rfl, ?_, ⟨hRW.1, hRW.2.1, hRW.2.2.1, hRW.2.2.2.mono (by decide) (by decide)⟩⟩
    · show Steps p.tables e below (T22.setTop (mkF m 90 #[.val (.int p1), .val (.int p2), .val (.int (3 : Int32)), .val (.int (1 : Int32)), .val (.ref b3), .val (.ref b16), .val (.ref b19), .unset, .unset, .unset, .unset, .unset, .unset] [])) _
      refine XS.iloadN X22.here hx rfl (hb hby at_90) rfl ?_
      show Steps p.tables e below (T22.setTop (mkF m 91 #[.val (.int p1), .val (.int p2), .val (.int (3 : Int32)), .val (.int (1 : Int32)), .val (.ref b3), .val (.ref b16), .val (.ref b19), .unset, .unset, .unset, .unset, .unset, .unset] [(.int (3 : Int32))])) _
      refine XS.iconst X22.here hx rfl (hb hby at_91) ?_
      show Steps p.tables e below (T22.setTop (mkF m 92 #[.val (.int p1), .val (.int p2), .val (.int (3 : Int32)), .val (.int (1 : Int32)), .val (.ref b3), .val (.ref b16), .val (.ref b19), .unset, .unset, .unset, .unset, .unset, .unset] [(.int (2 : Int32)), (.int (3 : Int32))])) _
      refine XS.icmpNo X22.here hx rfl (hb hby at_92) rfl (flt (by decide)).1 ?_
      show Steps p.tables e below (T22.setTop (mkF m 95 #[.val (.int p1), .val (.int p2), .val (.int (3 : Int32)), .val (.int (1 : Int32)), .val (.ref b3), .val (.ref b16), .val (.ref b19), .unset, .unset, .unset, .unset, .unset, .unset] [])) _
      refine XS.aload X22.here hx rfl (hb hby at_95) rfl rfl ?_
      show Steps p.tables e below (T22.setTop (mkF m 97 #[.val (.int p1), .val (.int p2), .val (.int (3 : Int32)), .val (.int (1 : Int32)), .val (.ref b3), .val (.ref b16), .val (.ref b19), .unset, .unset, .unset, .unset, .unset, .unset] [(.ref b19)])) _
      refine XS.aload X22.here hx rfl (hb hby at_97) rfl rfl ?_
      show Steps p.tables e below (T22.setTop (mkF m 99 #[.val (.int p1), .val (.int p2), .val (.int (3 : Int32)), .val (.int (1 : Int32)), .val (.ref b3), .val (.ref b16), .val (.ref b19), .unset, .unset, .unset, .unset, .unset, .unset] [(.ref b3), (.ref b19)])) _
      refine XS.iconst X22.here hx rfl (hb hby at_99) ?_
      show Steps p.tables e below (T22.setTop (mkF m 100 #[.val (.int p1), .val (.int p2), .val (.int (3 : Int32)), .val (.int (1 : Int32)), .val (.ref b3), .val (.ref b16), .val (.ref b19), .unset, .unset, .unset, .unset, .unset, .unset] [(.int (1 : Int32)), (.ref b3), (.ref b19)])) _
      refine X22.aaload hx (j := (1 : Int32)) (v := (.ref b8)) Ar68.1 (State.isArrayOf_alike hZ17.alike Ar68.2.1) rfl Ar68.2.2 hin68 hat68 (g := (mkF m 100 #[.val (.int p1), .val (.int p2), .val (.int (3 : Int32)), .val (.int (1 : Int32)), .val (.ref b3), .val (.ref b16), .val (.ref b19), .unset, .unset, .unset, .unset, .unset, .unset] [(.int (1 : Int32)), (.ref b3), (.ref b19)])) rfl rfl (hb hby at_100) _ ?_
      show Steps p.tables e below (T22.setTop (mkF m 101 #[.val (.int p1), .val (.int p2), .val (.int (3 : Int32)), .val (.int (1 : Int32)), .val (.ref b3), .val (.ref b16), .val (.ref b19), .unset, .unset, .unset, .unset, .unset, .unset] [(.ref b8), (.ref b19)])) _
      refine st69.trans ?_
      show Steps p.tables e below (T69.setTop (mkF m 104 #[.val (.int p1), .val (.int p2), .val (.int (3 : Int32)), .val (.int (1 : Int32)), .val (.ref b3), .val (.ref b16), .val (.ref b19), .unset, .unset, .unset, .unset, .unset, .unset] [])) _
      refine XS.iloadN X69.here hx rfl (hb hby at_104) rfl ?_
      show Steps p.tables e below (T69.setTop (mkF m 105 #[.val (.int p1), .val (.int p2), .val (.int (3 : Int32)), .val (.int (1 : Int32)), .val (.ref b3), .val (.ref b16), .val (.ref b19), .unset, .unset, .unset, .unset, .unset, .unset] [(.int (3 : Int32))])) _
      refine XS.iconst X69.here hx rfl (hb hby at_105) ?_
      show Steps p.tables e below (T69.setTop (mkF m 106 #[.val (.int p1), .val (.int p2), .val (.int (3 : Int32)), .val (.int (1 : Int32)), .val (.ref b3), .val (.ref b16), .val (.ref b19), .unset, .unset, .unset, .unset, .unset, .unset] [(.int (3 : Int32)), (.int (3 : Int32))])) _
      refine XS.icmpNo X69.here hx rfl (hb hby at_106) rfl (flt (by decide)).1 ?_
      show Steps p.tables e below (T69.setTop (mkF m 109 #[.val (.int p1), .val (.int p2), .val (.int (3 : Int32)), .val (.int (1 : Int32)), .val (.ref b3), .val (.ref b16), .val (.ref b19), .unset, .unset, .unset, .unset, .unset, .unset] [])) _
      refine XS.aload X69.here hx rfl (hb hby at_109) rfl rfl ?_
      show Steps p.tables e below (T69.setTop (mkF m 111 #[.val (.int p1), .val (.int p2), .val (.int (3 : Int32)), .val (.int (1 : Int32)), .val (.ref b3), .val (.ref b16), .val (.ref b19), .unset, .unset, .unset, .unset, .unset, .unset] [(.ref b19)])) _
      refine XS.aload X69.here hx rfl (hb hby at_111) rfl rfl ?_
      show Steps p.tables e below (T69.setTop (mkF m 113 #[.val (.int p1), .val (.int p2), .val (.int (3 : Int32)), .val (.int (1 : Int32)), .val (.ref b3), .val (.ref b16), .val (.ref b19), .unset, .unset, .unset, .unset, .unset, .unset] [(.ref b3), (.ref b19)])) _
      refine XS.iconst X69.here hx rfl (hb hby at_113) ?_
      show Steps p.tables e below (T69.setTop (mkF m 114 #[.val (.int p1), .val (.int p2), .val (.int (3 : Int32)), .val (.int (1 : Int32)), .val (.ref b3), .val (.ref b16), .val (.ref b19), .unset, .unset, .unset, .unset, .unset, .unset] [(.int (2 : Int32)), (.ref b3), (.ref b19)])) _
      refine X69.aaload hx (j := (2 : Int32)) (v := (.ref b12)) Ar70.1 (State.isArrayOf_alike hZ17.alike Ar70.2.1) rfl Ar70.2.2 hin70 hat70 (g := (mkF m 114 #[.val (.int p1), .val (.int p2), .val (.int (3 : Int32)), .val (.int (1 : Int32)), .val (.ref b3), .val (.ref b16), .val (.ref b19), .unset, .unset, .unset, .unset, .unset, .unset] [(.int (2 : Int32)), (.ref b3), (.ref b19)])) rfl rfl (hb hby at_114) _ ?_
      show Steps p.tables e below (T69.setTop (mkF m 115 #[.val (.int p1), .val (.int p2), .val (.int (3 : Int32)), .val (.int (1 : Int32)), .val (.ref b3), .val (.ref b16), .val (.ref b19), .unset, .unset, .unset, .unset, .unset, .unset] [(.ref b12), (.ref b19)])) _
      refine st71.trans ?_
      show Steps p.tables e below (T71.setTop (mkF m 118 #[.val (.int p1), .val (.int p2), .val (.int (3 : Int32)), .val (.int (1 : Int32)), .val (.ref b3), .val (.ref b16), .val (.ref b19), .unset, .unset, .unset, .unset, .unset, .unset] [])) _
      refine XS.aload X71.here hx rfl (hb hby at_118) rfl rfl ?_
      show Steps p.tables e below (T71.setTop (mkF m 120 #[.val (.int p1), .val (.int p2), .val (.int (3 : Int32)), .val (.int (1 : Int32)), .val (.ref b3), .val (.ref b16), .val (.ref b19), .unset, .unset, .unset, .unset, .unset, .unset] [(.ref b3)])) _
      refine XS.iloadN X71.here hx rfl (hb hby at_120) rfl ?_
      show Steps p.tables e below (T71.setTop (mkF m 121 #[.val (.int p1), .val (.int p2), .val (.int (3 : Int32)), .val (.int (1 : Int32)), .val (.ref b3), .val (.ref b16), .val (.ref b19), .unset, .unset, .unset, .unset, .unset, .unset] [(.int (3 : Int32)), (.ref b3)])) _
      refine XS.iconst X71.here hx rfl (hb hby at_121) ?_
      show Steps p.tables e below (T71.setTop (mkF m 122 #[.val (.int p1), .val (.int p2), .val (.int (3 : Int32)), .val (.int (1 : Int32)), .val (.ref b3), .val (.ref b16), .val (.ref b19), .unset, .unset, .unset, .unset, .unset, .unset] [(.int (1 : Int32)), (.int (3 : Int32)), (.ref b3)])) _
      refine XS.isub X71.here hx rfl (hb hby at_122) rfl ?_
      show Steps p.tables e below (T71.setTop (mkF m 123 #[.val (.int p1), .val (.int p2), .val (.int (3 : Int32)), .val (.int (1 : Int32)), .val (.ref b3), .val (.ref b16), .val (.ref b19), .unset, .unset, .unset, .unset, .unset, .unset] [(.int ((3 : Int32) - (1 : Int32))), (.ref b3)])) _
      refine XS.iloadN X71.here hx rfl (hb hby at_123) rfl ?_
      show Steps p.tables e below (T71.setTop (mkF m 124 #[.val (.int p1), .val (.int p2), .val (.int (3 : Int32)), .val (.int (1 : Int32)), .val (.ref b3), .val (.ref b16), .val (.ref b19), .unset, .unset, .unset, .unset, .unset, .unset] [(.int (1 : Int32)), (.int ((3 : Int32) - (1 : Int32))), (.ref b3)])) _
      refine XS.isub X71.here hx rfl (hb hby at_124) rfl ?_
      show Steps p.tables e below (T71.setTop (mkF m 125 #[.val (.int p1), .val (.int p2), .val (.int (3 : Int32)), .val (.int (1 : Int32)), .val (.ref b3), .val (.ref b16), .val (.ref b19), .unset, .unset, .unset, .unset, .unset, .unset] [(.int (((3 : Int32) - (1 : Int32)) - (1 : Int32))), (.ref b3)])) _
      refine X71.aaload hx (j := (((3 : Int32) - (1 : Int32)) - (1 : Int32))) (v := (.ref b8)) Ar72.1 (State.isArrayOf_alike hZ17.alike Ar72.2.1) rfl Ar72.2.2 hin72 hat72 (g := (mkF m 125 #[.val (.int p1), .val (.int p2), .val (.int (3 : Int32)), .val (.int (1 : Int32)), .val (.ref b3), .val (.ref b16), .val (.ref b19), .unset, .unset, .unset, .unset, .unset, .unset] [(.int (((3 : Int32) - (1 : Int32)) - (1 : Int32))), (.ref b3)])) rfl rfl (hb hby at_125) _ ?_
      show Steps p.tables e below (T71.setTop (mkF m 126 #[.val (.int p1), .val (.int p2), .val (.int (3 : Int32)), .val (.int (1 : Int32)), .val (.ref b3), .val (.ref b16), .val (.ref b19), .unset, .unset, .unset, .unset, .unset, .unset] [(.ref b8)])) _
      refine XS.astore X71.here hx rfl (hb hby at_126) rfl rfl (l' := #[.val (.int p1), .val (.int p2), .val (.int (3 : Int32)), .val (.int (1 : Int32)), .val (.ref b3), .val (.ref b16), .val (.ref b19), .val (.ref b8), .unset, .unset, .unset, .unset, .unset]) rfl ?_
      show Steps p.tables e below (T71.setTop (mkF m 128 #[.val (.int p1), .val (.int p2), .val (.int (3 : Int32)), .val (.int (1 : Int32)), .val (.ref b3), .val (.ref b16), .val (.ref b19), .val (.ref b8), .unset, .unset, .unset, .unset, .unset] [])) _
      refine XS.iloadN X71.here hx rfl (hb hby at_128) rfl ?_
      show Steps p.tables e below (T71.setTop (mkF m 129 #[.val (.int p1), .val (.int p2), .val (.int (3 : Int32)), .val (.int (1 : Int32)), .val (.ref b3), .val (.ref b16), .val (.ref b19), .val (.ref b8), .unset, .unset, .unset, .unset, .unset] [(.int (1 : Int32))])) _
      refine XS.ifYes X71.here hx rfl (pc0 := 129) (pc' := 136) rfl (hb hby at_129) rfl ((if0 _ _).trans (feq (by decide)).2) (by decide) (by decide) ?_
      show Steps p.tables e below (T71.setTop (mkF m 136 #[.val (.int p1), .val (.int p2), .val (.int (3 : Int32)), .val (.int (1 : Int32)), .val (.ref b3), .val (.ref b16), .val (.ref b19), .val (.ref b8), .unset, .unset, .unset, .unset, .unset] [])) _
      refine XS.iconst X71.here hx rfl (hb hby at_136) ?_
      show Steps p.tables e below (T71.setTop (mkF m 137 #[.val (.int p1), .val (.int p2), .val (.int (3 : Int32)), .val (.int (1 : Int32)), .val (.ref b3), .val (.ref b16), .val (.ref b19), .val (.ref b8), .unset, .unset, .unset, .unset, .unset] [(.int (0 : Int32))])) _
      refine XS.istore X71.here hx rfl (hb hby at_137) rfl (l' := #[.val (.int p1), .val (.int p2), .val (.int (3 : Int32)), .val (.int (1 : Int32)), .val (.ref b3), .val (.ref b16), .val (.ref b19), .val (.ref b8), .val (.int (0 : Int32)), .unset, .unset, .unset, .unset]) rfl ?_
      show Steps p.tables e below (T71.setTop (mkF m 139 #[.val (.int p1), .val (.int p2), .val (.int (3 : Int32)), .val (.int (1 : Int32)), .val (.ref b3), .val (.ref b16), .val (.ref b19), .val (.ref b8), .val (.int (0 : Int32)), .unset, .unset, .unset, .unset] [])) _
      refine XS.iloadN X71.here hx rfl (hb hby at_139) rfl ?_
      show Steps p.tables e below (T71.setTop (mkF m 140 #[.val (.int p1), .val (.int p2), .val (.int (3 : Int32)), .val (.int (1 : Int32)), .val (.ref b3), .val (.ref b16), .val (.ref b19), .val (.ref b8), .val (.int (0 : Int32)), .unset, .unset, .unset, .unset] [(.int (1 : Int32))])) _
      refine XS.iconst X71.here hx rfl (hb hby at_140) ?_
      show Steps p.tables e below (T71.setTop (mkF m 141 #[.val (.int p1), .val (.int p2), .val (.int (3 : Int32)), .val (.int (1 : Int32)), .val (.ref b3), .val (.ref b16), .val (.ref b19), .val (.ref b8), .val (.int (0 : Int32)), .unset, .unset, .unset, .unset] [(.int (1 : Int32)), (.int (1 : Int32))])) _
      refine XS.icmpNo X71.here hx rfl (hb hby at_141) rfl (flt (by decide)).2.2.1 ?_
      show Steps p.tables e below (T71.setTop (mkF m 144 #[.val (.int p1), .val (.int p2), .val (.int (3 : Int32)), .val (.int (1 : Int32)), .val (.ref b3), .val (.ref b16), .val (.ref b19), .val (.ref b8), .val (.int (0 : Int32)), .unset, .unset, .unset, .unset] [])) _
      refine XS.iconst X71.here hx rfl (hb hby at_144) ?_
      show Steps p.tables e below (T71.setTop (mkF m 145 #[.val (.int p1), .val (.int p2), .val (.int (3 : Int32)), .val (.int (1 : Int32)), .val (.ref b3), .val (.ref b16), .val (.ref b19), .val (.ref b8), .val (.int (0 : Int32)), .unset, .unset, .unset, .unset] [(.int (2 : Int32))])) _
      refine XS.goto X71.here hx rfl (pc0 := 145) (pc' := 149) rfl (hb hby at_145) (by decide) (by decide) ?_
      show Steps p.tables e below (T71.setTop (mkF m 149 #[.val (.int p1), .val (.int p2), .val (.int (3 : Int32)), .val (.int (1 : Int32)), .val (.ref b3), .val (.ref b16), .val (.ref b19), .val (.ref b8), .val (.int (0 : Int32)), .unset, .unset, .unset, .unset] [(.int (2 : Int32))])) _
      refine XS.istore X71.here hx rfl (hb hby at_149) rfl (l' := #[.val (.int p1), .val (.int p2), .val (.int (3 : Int32)), .val (.int (1 : Int32)), .val (.ref b3), .val (.ref b16), .val (.ref b19), .val (.ref b8), .val (.int (0 : Int32)), .val (.int (2 : Int32)), .unset, .unset, .unset]) rfl ?_
      show Steps p.tables e below (T71.setTop (mkF m 151 #[.val (.int p1), .val (.int p2), .val (.int (3 : Int32)), .val (.int (1 : Int32)), .val (.ref b3), .val (.ref b16), .val (.ref b19), .val (.ref b8), .val (.int (0 : Int32)), .val (.int (2 : Int32)), .unset, .unset, .unset] [])) _
      refine XS.iload X71.here hx rfl (hb hby at_151) rfl ?_
      show Steps p.tables e below (T71.setTop (mkF m 153 #[.val (.int p1), .val (.int p2), .val (.int (3 : Int32)), .val (.int (1 : Int32)), .val (.ref b3), .val (.ref b16), .val (.ref b19), .val (.ref b8), .val (.int (0 : Int32)), .val (.int (2 : Int32)), .unset, .unset, .unset] [(.int (0 : Int32))])) _
      refine XS.iloadN X71.here hx rfl (hb hby at_153) rfl ?_
      show Steps p.tables e below (T71.setTop (mkF m 154 #[.val (.int p1), .val (.int p2), .val (.int (3 : Int32)), .val (.int (1 : Int32)), .val (.ref b3), .val (.ref b16), .val (.ref b19), .val (.ref b8), .val (.int (0 : Int32)), .val (.int (2 : Int32)), .unset, .unset, .unset] [(.int (3 : Int32)), (.int (0 : Int32))])) _
      refine XS.icmpNo X71.here hx rfl (hb hby at_154) rfl (tlt (by decide)).2.1 ?_
      show Steps p.tables e below (T71.setTop (mkF m 157 #[.val (.int p1), .val (.int p2), .val (.int (3 : Int32)), .val (.int (1 : Int32)), .val (.ref b3), .val (.ref b16), .val (.ref b19), .val (.ref b8), .val (.int (0 : Int32)), .val (.int (2 : Int32)), .unset, .unset, .unset] [])) _
      refine XS.aload X71.here hx rfl (hb hby at_157) rfl rfl ?_
      show Steps p.tables e below (T71.setTop (mkF m 159 #[.val (.int p1), .val (.int p2), .val (.int (3 : Int32)), .val (.int (1 : Int32)), .val (.ref b3), .val (.ref b16), .val (.ref b19), .val (.ref b8), .val (.int (0 : Int32)), .val (.int (2 : Int32)), .unset, .unset, .unset] [(.ref b3)])) _
      refine XS.iloadN X71.here hx rfl (hb hby at_159) rfl ?_
      show Steps p.tables e below (T71.setTop (mkF m 160 #[.val (.int p1), .val (.int p2), .val (.int (3 : Int32)), .val (.int (1 : Int32)), .val (.ref b3), .val (.ref b16), .val (.ref b19), .val (.ref b8), .val (.int (0 : Int32)), .val (.int (2 : Int32)), .unset, .unset, .unset] [(.int (3 : Int32)), (.ref b3)])) _
      refine XS.iconst X71.here hx rfl (hb hby at_160) ?_
      show Steps p.tables e below (T71.setTop (mkF m 161 #[.val (.int p1), .val (.int p2), .val (.int (3 : Int32)), .val (.int (1 : Int32)), .val (.ref b3), .val (.ref b16), .val (.ref b19), .val (.ref b8), .val (.int (0 : Int32)), .val (.int (2 : Int32)), .unset, .unset, .unset] [(.int (1 : Int32)), (.int (3 : Int32)), (.ref b3)])) _
      refine XS.isub X71.here hx rfl (hb hby at_161) rfl ?_
      show Steps p.tables e below (T71.setTop (mkF m 162 #[.val (.int p1), .val (.int p2), .val (.int (3 : Int32)), .val (.int (1 : Int32)), .val (.ref b3), .val (.ref b16), .val (.ref b19), .val (.ref b8), .val (.int (0 : Int32)), .val (.int (2 : Int32)), .unset, .unset, .unset] [(.int ((3 : Int32) - (1 : Int32))), (.ref b3)])) _
      refine XS.iload X71.here hx rfl (hb hby at_162) rfl ?_
      show Steps p.tables e below (T71.setTop (mkF m 164 #[.val (.int p1), .val (.int p2), .val (.int (3 : Int32)), .val (.int (1 : Int32)), .val (.ref b3), .val (.ref b16), .val (.ref b19), .val (.ref b8), .val (.int (0 : Int32)), .val (.int (2 : Int32)), .unset, .unset, .unset] [(.int (0 : Int32)), (.int ((3 : Int32) - (1 : Int32))), (.ref b3)])) _
      refine XS.isub X71.here hx rfl (hb hby at_164) rfl ?_
      show Steps p.tables e below (T71.setTop (mkF m 165 #[.val (.int p1), .val (.int p2), .val (.int (3 : Int32)), .val (.int (1 : Int32)), .val (.ref b3), .val (.ref b16), .val (.ref b19), .val (.ref b8), .val (.int (0 : Int32)), .val (.int (2 : Int32)), .unset, .unset, .unset] [(.int (((3 : Int32) - (1 : Int32)) - (0 : Int32))), (.ref b3)])) _
      refine X71.aaload hx (j := (((3 : Int32) - (1 : Int32)) - (0 : Int32))) (v := (.ref b12)) Ar73.1 (State.isArrayOf_alike hZ17.alike Ar73.2.1) rfl Ar73.2.2 hin73 hat73 (g := (mkF m 165 #[.val (.int p1), .val (.int p2), .val (.int (3 : Int32)), .val (.int (1 : Int32)), .val (.ref b3), .val (.ref b16), .val (.ref b19), .val (.ref b8), .val (.int (0 : Int32)), .val (.int (2 : Int32)), .unset, .unset, .unset] [(.int (((3 : Int32) - (1 : Int32)) - (0 : Int32))), (.ref b3)])) rfl rfl (hb hby at_165) _ ?_
      show Steps p.tables e below (T71.setTop (mkF m 166 #[.val (.int p1), .val (.int p2), .val (.int (3 : Int32)), .val (.int (1 : Int32)), .val (.ref b3), .val (.ref b16), .val (.ref b19), .val (.ref b8), .val (.int (0 : Int32)), .val (.int (2 : Int32)), .unset, .unset, .unset] [(.ref b12)])) _
      refine XS.goto X71.here hx rfl (pc0 := 166) (pc' := 170) rfl (hb hby at_166) (by decide) (by decide) ?_
      show Steps p.tables e below (T71.setTop (mkF m 170 #[.val (.int p1), .val (.int p2), .val (.int (3 : Int32)), .val (.int (1 : Int32)), .val (.ref b3), .val (.ref b16), .val (.ref b19), .val (.ref b8), .val (.int (0 : Int32)), .val (.int (2 : Int32)), .unset, .unset, .unset] [(.ref b12)])) _
      refine XS.astore X71.here hx rfl (hb hby at_170) rfl rfl (l' := #[.val (.int p1), .val (.int p2), .val (.int (3 : Int32)), .val (.int (1 : Int32)), .val (.ref b3), .val (.ref b16), .val (.ref b19), .val (.ref b8), .val (.int (0 : Int32)), .val (.int (2 : Int32)), .val (.ref b12), .unset, .unset]) rfl ?_
      show Steps p.tables e below (T71.setTop (mkF m 172 #[.val (.int p1), .val (.int p2), .val (.int (3 : Int32)), .val (.int (1 : Int32)), .val (.ref b3), .val (.ref b16), .val (.ref b19), .val (.ref b8), .val (.int (0 : Int32)), .val (.int (2 : Int32)), .val (.ref b12), .unset, .unset] [])) _
      refine XS.iload X71.here hx rfl (hb hby at_172) rfl ?_
      show Steps p.tables e below (T71.setTop (mkF m 174 #[.val (.int p1), .val (.int p2), .val (.int (3 : Int32)), .val (.int (1 : Int32)), .val (.ref b3), .val (.ref b16), .val (.ref b19), .val (.ref b8), .val (.int (0 : Int32)), .val (.int (2 : Int32)), .val (.ref b12), .unset, .unset] [(.int (2 : Int32))])) _
      refine XS.iloadN X71.here hx rfl (hb hby at_174) rfl ?_
      show Steps p.tables e below (T71.setTop (mkF m 175 #[.val (.int p1), .val (.int p2), .val (.int (3 : Int32)), .val (.int (1 : Int32)), .val (.ref b3), .val (.ref b16), .val (.ref b19), .val (.ref b8), .val (.int (0 : Int32)), .val (.int (2 : Int32)), .val (.ref b12), .unset, .unset] [(.int (3 : Int32)), (.int (2 : Int32))])) _
      refine XS.icmpNo X71.here hx rfl (hb hby at_175) rfl (tlt (by decide)).2.1 ?_
      show Steps p.tables e below (T71.setTop (mkF m 178 #[.val (.int p1), .val (.int p2), .val (.int (3 : Int32)), .val (.int (1 : Int32)), .val (.ref b3), .val (.ref b16), .val (.ref b19), .val (.ref b8), .val (.int (0 : Int32)), .val (.int (2 : Int32)), .val (.ref b12), .unset, .unset] [])) _
      refine XS.aload X71.here hx rfl (hb hby at_178) rfl rfl ?_
      show Steps p.tables e below (T71.setTop (mkF m 180 #[.val (.int p1), .val (.int p2), .val (.int (3 : Int32)), .val (.int (1 : Int32)), .val (.ref b3), .val (.ref b16), .val (.ref b19), .val (.ref b8), .val (.int (0 : Int32)), .val (.int (2 : Int32)), .val (.ref b12), .unset, .unset] [(.ref b3)])) _
      refine XS.iloadN X71.here hx rfl (hb hby at_180) rfl ?_
      show Steps p.tables e below (T71.setTop (mkF m 181 #[.val (.int p1), .val (.int p2), .val (.int (3 : Int32)), .val (.int (1 : Int32)), .val (.ref b3), .val (.ref b16), .val (.ref b19), .val (.ref b8), .val (.int (0 : Int32)), .val (.int (2 : Int32)), .val (.ref b12), .unset, .unset] [(.int (3 : Int32)), (.ref b3)])) _
      refine XS.iconst X71.here hx rfl (hb hby at_181) ?_
      show Steps p.tables e below (T71.setTop (mkF m 182 #[.val (.int p1), .val (.int p2), .val (.int (3 : Int32)), .val (.int (1 : Int32)), .val (.ref b3), .val (.ref b16), .val (.ref b19), .val (.ref b8), .val (.int (0 : Int32)), .val (.int (2 : Int32)), .val (.ref b12), .unset, .unset] [(.int (1 : Int32)), (.int (3 : Int32)), (.ref b3)])) _
      refine XS.isub X71.here hx rfl (hb hby at_182) rfl ?_
      show Steps p.tables e below (T71.setTop (mkF m 183 #[.val (.int p1), .val (.int p2), .val (.int (3 : Int32)), .val (.int (1 : Int32)), .val (.ref b3), .val (.ref b16), .val (.ref b19), .val (.ref b8), .val (.int (0 : Int32)), .val (.int (2 : Int32)), .val (.ref b12), .unset, .unset] [(.int ((3 : Int32) - (1 : Int32))), (.ref b3)])) _
      refine XS.iload X71.here hx rfl (hb hby at_183) rfl ?_
      show Steps p.tables e below (T71.setTop (mkF m 185 #[.val (.int p1), .val (.int p2), .val (.int (3 : Int32)), .val (.int (1 : Int32)), .val (.ref b3), .val (.ref b16), .val (.ref b19), .val (.ref b8), .val (.int (0 : Int32)), .val (.int (2 : Int32)), .val (.ref b12), .unset, .unset] [(.int (2 : Int32)), (.int ((3 : Int32) - (1 : Int32))), (.ref b3)])) _
      refine XS.isub X71.here hx rfl (hb hby at_185) rfl ?_
      show Steps p.tables e below (T71.setTop (mkF m 186 #[.val (.int p1), .val (.int p2), .val (.int (3 : Int32)), .val (.int (1 : Int32)), .val (.ref b3), .val (.ref b16), .val (.ref b19), .val (.ref b8), .val (.int (0 : Int32)), .val (.int (2 : Int32)), .val (.ref b12), .unset, .unset] [(.int (((3 : Int32) - (1 : Int32)) - (2 : Int32))), (.ref b3)])) _
      refine X71.aaload hx (j := (((3 : Int32) - (1 : Int32)) - (2 : Int32))) (v := (.ref b4)) Ar74.1 (State.isArrayOf_alike hZ17.alike Ar74.2.1) rfl Ar74.2.2 hin74 hat74 (g := (mkF m 186 #[.val (.int p1), .val (.int p2), .val (.int (3 : Int32)), .val (.int (1 : Int32)), .val (.ref b3), .val (.ref b16), .val (.ref b19), .val (.ref b8), .val (.int (0 : Int32)), .val (.int (2 : Int32)), .val (.ref b12), .unset, .unset] [(.int (((3 : Int32) - (1 : Int32)) - (2 : Int32))), (.ref b3)])) rfl rfl (hb hby at_186) _ ?_
      show Steps p.tables e below (T71.setTop (mkF m 187 #[.val (.int p1), .val (.int p2), .val (.int (3 : Int32)), .val (.int (1 : Int32)), .val (.ref b3), .val (.ref b16), .val (.ref b19), .val (.ref b8), .val (.int (0 : Int32)), .val (.int (2 : Int32)), .val (.ref b12), .unset, .unset] [(.ref b4)])) _
      refine XS.goto X71.here hx rfl (pc0 := 187) (pc' := 191) rfl (hb hby at_187) (by decide) (by decide) ?_
      show Steps p.tables e below (T71.setTop (mkF m 191 #[.val (.int p1), .val (.int p2), .val (.int (3 : Int32)), .val (.int (1 : Int32)), .val (.ref b3), .val (.ref b16), .val (.ref b19), .val (.ref b8), .val (.int (0 : Int32)), .val (.int (2 : Int32)), .val (.ref b12), .unset, .unset] [(.ref b4)])) _
      refine XS.astore X71.here hx rfl (hb hby at_191) rfl rfl (l' := #[.val (.int p1), .val (.int p2), .val (.int (3 : Int32)), .val (.int (1 : Int32)), .val (.ref b3), .val (.ref b16), .val (.ref b19), .val (.ref b8), .val (.int (0 : Int32)), .val (.int (2 : Int32)), .val (.ref b12), .val (.ref b4), .unset]) rfl ?_
      show Steps p.tables e below (T71.setTop (mkF m 193 #[.val (.int p1), .val (.int p2), .val (.int (3 : Int32)), .val (.int (1 : Int32)), .val (.ref b3), .val (.ref b16), .val (.ref b19), .val (.ref b8), .val (.int (0 : Int32)), .val (.int (2 : Int32)), .val (.ref b12), .val (.ref b4), .unset] [])) _
      refine XS.aload X71.here hx rfl (hb hby at_193) rfl rfl ?_
      show Steps p.tables e below (T71.setTop (mkF m 195 #[.val (.int p1), .val (.int p2), .val (.int (3 : Int32)), .val (.int (1 : Int32)), .val (.ref b3), .val (.ref b16), .val (.ref b19), .val (.ref b8), .val (.int (0 : Int32)), .val (.int (2 : Int32)), .val (.ref b12), .val (.ref b4), .unset] [(.ref b19)])) _
      refine XS.aload X71.here hx rfl (hb hby at_195) rfl rfl ?_
      show Steps p.tables e below (T71.setTop (mkF m 197 #[.val (.int p1), .val (.int p2), .val (.int (3 : Int32)), .val (.int (1 : Int32)), .val (.ref b3), .val (.ref b16), .val (.ref b19), .val (.ref b8), .val (.int (0 : Int32)), .val (.int (2 : Int32)), .val (.ref b12), .val (.ref b4), .unset] [(.ref b8), (.ref b19)])) _
      refine st75.trans ?_
      show Steps p.tables e below (T75.setTop (mkF m 200 #[.val (.int p1), .val (.int p2), .val (.int (3 : Int32)), .val (.int (1 : Int32)), .val (.ref b3), .val (.ref b16), .val (.ref b19), .val (.ref b8), .val (.int (0 : Int32)), .val (.int (2 : Int32)), .val (.ref b12), .val (.ref b4), .unset] [])) _
      refine XS.aload X75.here hx rfl (hb hby at_200) rfl rfl ?_
      show Steps p.tables e below (T75.setTop (mkF m 202 #[.val (.int p1), .val (.int p2), .val (.int (3 : Int32)), .val (.int (1 : Int32)), .val (.ref b3), .val (.ref b16), .val (.ref b19), .val (.ref b8), .val (.int (0 : Int32)), .val (.int (2 : Int32)), .val (.ref b12), .val (.ref b4), .unset] [(.ref b8)])) _
      refine st76.trans ?_
      show Steps p.tables e below (T76.setTop (mkF m 205 #[.val (.int p1), .val (.int p2), .val (.int (3 : Int32)), .val (.int (1 : Int32)), .val (.ref b3), .val (.ref b16), .val (.ref b19), .val (.ref b8), .val (.int (0 : Int32)), .val (.int (2 : Int32)), .val (.ref b12), .val (.ref b4), .unset] [.null])) _
      refine XS.ifnonnullNo X76.here hx rfl (hb hby at_205) rfl ?_
      show Steps p.tables e below (T76.setTop (mkF m 208 #[.val (.int p1), .val (.int p2), .val (.int (3 : Int32)), .val (.int (1 : Int32)), .val (.ref b3), .val (.ref b16), .val (.ref b19), .val (.ref b8), .val (.int (0 : Int32)), .val (.int (2 : Int32)), .val (.ref b12), .val (.ref b4), .unset] [])) _
      refine XS.aload X76.here hx rfl (hb hby at_208) rfl rfl ?_
      show Steps p.tables e below (T76.setTop (mkF m 210 #[.val (.int p1), .val (.int p2), .val (.int (3 : Int32)), .val (.int (1 : Int32)), .val (.ref b3), .val (.ref b16), .val (.ref b19), .val (.ref b8), .val (.int (0 : Int32)), .val (.int (2 : Int32)), .val (.ref b12), .val (.ref b4), .unset] [(.ref b8)])) _
      refine st77.trans ?_
      show Steps p.tables e below (T77.setTop (mkF m 213 #[.val (.int p1), .val (.int p2), .val (.int (3 : Int32)), .val (.int (1 : Int32)), .val (.ref b3), .val (.ref b16), .val (.ref b19), .val (.ref b8), .val (.int (0 : Int32)), .val (.int (2 : Int32)), .val (.ref b12), .val (.ref b4), .unset] [.null])) _
      refine XS.ifnonnullNo X77.here hx rfl (hb hby at_213) rfl ?_
      show Steps p.tables e below (T77.setTop (mkF m 216 #[.val (.int p1), .val (.int p2), .val (.int (3 : Int32)), .val (.int (1 : Int32)), .val (.ref b3), .val (.ref b16), .val (.ref b19), .val (.ref b8), .val (.int (0 : Int32)), .val (.int (2 : Int32)), .val (.ref b12), .val (.ref b4), .unset] [])) _
      refine XS.iconst X77.here hx rfl (hb hby at_216) ?_
      show Steps p.tables e below (T77.setTop (mkF m 217 #[.val (.int p1), .val (.int p2), .val (.int (3 : Int32)), .val (.int (1 : Int32)), .val (.ref b3), .val (.ref b16), .val (.ref b19), .val (.ref b8), .val (.int (0 : Int32)), .val (.int (2 : Int32)), .val (.ref b12), .val (.ref b4), .unset] [(.int (1 : Int32))])) _
      refine XS.goto X77.here hx rfl (pc0 := 217) (pc' := 221) rfl (hb hby at_217) (by decide) (by decide) ?_
      show Steps p.tables e below (T77.setTop (mkF m 221 #[.val (.int p1), .val (.int p2), .val (.int (3 : Int32)), .val (.int (1 : Int32)), .val (.ref b3), .val (.ref b16), .val (.ref b19), .val (.ref b8), .val (.int (0 : Int32)), .val (.int (2 : Int32)), .val (.ref b12), .val (.ref b4), .unset] [(.int (1 : Int32))])) _
      refine XS.istore X77.here hx rfl (hb hby at_221) rfl (l' := #[.val (.int p1), .val (.int p2), .val (.int (3 : Int32)), .val (.int (1 : Int32)), .val (.ref b3), .val (.ref b16), .val (.ref b19), .val (.ref b8), .val (.int (0 : Int32)), .val (.int (2 : Int32)), .val (.ref b12), .val (.ref b4), .val (.int (1 : Int32))]) rfl ?_
      show Steps p.tables e below (T77.setTop (mkF m 223 #[.val (.int p1), .val (.int p2), .val (.int (3 : Int32)), .val (.int (1 : Int32)), .val (.ref b3), .val (.ref b16), .val (.ref b19), .val (.ref b8), .val (.int (0 : Int32)), .val (.int (2 : Int32)), .val (.ref b12), .val (.ref b4), .val (.int (1 : Int32))] [])) _
      refine XS.aload X77.here hx rfl (hb hby at_223) rfl rfl ?_
      show Steps p.tables e below (T77.setTop (mkF m 225 #[.val (.int p1), .val (.int p2), .val (.int (3 : Int32)), .val (.int (1 : Int32)), .val (.ref b3), .val (.ref b16), .val (.ref b19), .val (.ref b8), .val (.int (0 : Int32)), .val (.int (2 : Int32)), .val (.ref b12), .val (.ref b4), .val (.int (1 : Int32))] [(.ref b19)])) _
      refine XS.aload X77.here hx rfl (hb hby at_225) rfl rfl ?_
      show Steps p.tables e below (T77.setTop (mkF m 227 #[.val (.int p1), .val (.int p2), .val (.int (3 : Int32)), .val (.int (1 : Int32)), .val (.ref b3), .val (.ref b16), .val (.ref b19), .val (.ref b8), .val (.int (0 : Int32)), .val (.int (2 : Int32)), .val (.ref b12), .val (.ref b4), .val (.int (1 : Int32))] [(.ref b16), (.ref b19)])) _
      refine st78.trans ?_
      show Steps p.tables e below (T78.setTop (mkF m 230 #[.val (.int p1), .val (.int p2), .val (.int (3 : Int32)), .val (.int (1 : Int32)), .val (.ref b3), .val (.ref b16), .val (.ref b19), .val (.ref b8), .val (.int (0 : Int32)), .val (.int (2 : Int32)), .val (.ref b12), .val (.ref b4), .val (.int (1 : Int32))] [])) _
      refine XS.iload X78.here hx rfl (hb hby at_230) rfl ?_
      show Steps p.tables e below (T78.setTop (mkF m 232 #[.val (.int p1), .val (.int p2), .val (.int (3 : Int32)), .val (.int (1 : Int32)), .val (.ref b3), .val (.ref b16), .val (.ref b19), .val (.ref b8), .val (.int (0 : Int32)), .val (.int (2 : Int32)), .val (.ref b12), .val (.ref b4), .val (.int (1 : Int32))] [(.int (1 : Int32))])) _
      refine XS.ifNo X78.here hx rfl (hb hby at_232) rfl ((if0 _ _).trans (feq (by decide)).1) ?_
      show Steps p.tables e below (T78.setTop (mkF m 235 #[.val (.int p1), .val (.int p2), .val (.int (3 : Int32)), .val (.int (1 : Int32)), .val (.ref b3), .val (.ref b16), .val (.ref b19), .val (.ref b8), .val (.int (0 : Int32)), .val (.int (2 : Int32)), .val (.ref b12), .val (.ref b4), .val (.int (1 : Int32))] [])) _
      refine XS.aload X78.here hx rfl (hb hby at_235) rfl rfl ?_
      show Steps p.tables e below (T78.setTop (mkF m 237 #[.val (.int p1), .val (.int p2), .val (.int (3 : Int32)), .val (.int (1 : Int32)), .val (.ref b3), .val (.ref b16), .val (.ref b19), .val (.ref b8), .val (.int (0 : Int32)), .val (.int (2 : Int32)), .val (.ref b12), .val (.ref b4), .val (.int (1 : Int32))] [(.ref b16)])) _
      refine st79.trans ?_
      show Steps p.tables e below (T79.setTop (mkF m 240 #[.val (.int p1), .val (.int p2), .val (.int (3 : Int32)), .val (.int (1 : Int32)), .val (.ref b3), .val (.ref b16), .val (.ref b19), .val (.ref b8), .val (.int (0 : Int32)), .val (.int (2 : Int32)), .val (.ref b12), .val (.ref b4), .val (.int (1 : Int32))] [(.ref b12)])) _
      refine XS.aload X79.here hx rfl (hb hby at_240) rfl rfl ?_
      show Steps p.tables e below (T79.setTop (mkF m 242 #[.val (.int p1), .val (.int p2), .val (.int (3 : Int32)), .val (.int (1 : Int32)), .val (.ref b3), .val (.ref b16), .val (.ref b19), .val (.ref b8), .val (.int (0 : Int32)), .val (.int (2 : Int32)), .val (.ref b12), .val (.ref b4), .val (.int (1 : Int32))] [(.ref b12), (.ref b12)])) _
      refine Jvm.RoadKit.acmp (g := (mkF m 242 #[.val (.int p1), .val (.int p2), .val (.int (3 : Int32)), .val (.int (1 : Int32)), .val (.ref b3), .val (.ref b16), .val (.ref b19), .val (.ref b8), .val (.int (0 : Int32)), .val (.int (2 : Int32)), .val (.ref b12), .val (.ref b4), .val (.int (1 : Int32))] [(.ref b12), (.ref b12)])) X79 hx rfl rfl rfl (pc0 := 242) (pc' := 245) (same := true) rfl (hb hby at_242) rfl (decide_eq_true rfl) (by decide) (by decide) ?_
      show Steps p.tables e below (T79.setTop (mkF m 245 #[.val (.int p1), .val (.int p2), .val (.int (3 : Int32)), .val (.int (1 : Int32)), .val (.ref b3), .val (.ref b16), .val (.ref b19), .val (.ref b8), .val (.int (0 : Int32)), .val (.int (2 : Int32)), .val (.ref b12), .val (.ref b4), .val (.int (1 : Int32))] [])) _
      refine XS.iconst X79.here hx rfl (hb hby at_245) ?_
      show Steps p.tables e below (T79.setTop (mkF m 246 #[.val (.int p1), .val (.int p2), .val (.int (3 : Int32)), .val (.int (1 : Int32)), .val (.ref b3), .val (.ref b16), .val (.ref b19), .val (.ref b8), .val (.int (0 : Int32)), .val (.int (2 : Int32)), .val (.ref b12), .val (.ref b4), .val (.int (1 : Int32))] [(.int (1 : Int32))])) _
      refine XS.goto X79.here hx rfl (pc0 := 246) (pc' := 250) rfl (hb hby at_246) (by decide) (by decide) ?_
      show Steps p.tables e below (T79.setTop (mkF m 250 #[.val (.int p1), .val (.int p2), .val (.int (3 : Int32)), .val (.int (1 : Int32)), .val (.ref b3), .val (.ref b16), .val (.ref b19), .val (.ref b8), .val (.int (0 : Int32)), .val (.int (2 : Int32)), .val (.ref b12), .val (.ref b4), .val (.int (1 : Int32))] [(.int (1 : Int32))])) _
      refine XS.istore X79.here hx rfl (hb hby at_250) rfl (l' := #[.val (.int p1), .val (.int p2), .val (.int (3 : Int32)), .val (.int (1 : Int32)), .val (.ref b3), .val (.ref b16), .val (.ref b19), .val (.ref b8), .val (.int (0 : Int32)), .val (.int (2 : Int32)), .val (.ref b12), .val (.ref b4), .val (.int (1 : Int32))]) rfl ?_
      show Steps p.tables e below (T79.setTop (mkF m 252 #[.val (.int p1), .val (.int p2), .val (.int (3 : Int32)), .val (.int (1 : Int32)), .val (.ref b3), .val (.ref b16), .val (.ref b19), .val (.ref b8), .val (.int (0 : Int32)), .val (.int (2 : Int32)), .val (.ref b12), .val (.ref b4), .val (.int (1 : Int32))] [])) _
      refine XS.aload X79.here hx rfl (hb hby at_252) rfl rfl ?_
      show Steps p.tables e below (T79.setTop (mkF m 254 #[.val (.int p1), .val (.int p2), .val (.int (3 : Int32)), .val (.int (1 : Int32)), .val (.ref b3), .val (.ref b16), .val (.ref b19), .val (.ref b8), .val (.int (0 : Int32)), .val (.int (2 : Int32)), .val (.ref b12), .val (.ref b4), .val (.int (1 : Int32))] [(.ref b12)])) _
      refine XS.ifnullNo X79.here hx rfl (hb hby at_254) rfl ?_
      show Steps p.tables e below (T79.setTop (mkF m 257 #[.val (.int p1), .val (.int p2), .val (.int (3 : Int32)), .val (.int (1 : Int32)), .val (.ref b3), .val (.ref b16), .val (.ref b19), .val (.ref b8), .val (.int (0 : Int32)), .val (.int (2 : Int32)), .val (.ref b12), .val (.ref b4), .val (.int (1 : Int32))] [])) _
      refine XS.iload X79.here hx rfl (hb hby at_257) rfl ?_
      show Steps p.tables e below (T79.setTop (mkF m 259 #[.val (.int p1), .val (.int p2), .val (.int (3 : Int32)), .val (.int (1 : Int32)), .val (.ref b3), .val (.ref b16), .val (.ref b19), .val (.ref b8), .val (.int (0 : Int32)), .val (.int (2 : Int32)), .val (.ref b12), .val (.ref b4), .val (.int (1 : Int32))] [(.int (1 : Int32))])) _
      refine XS.ifNo X79.here hx rfl (hb hby at_259) rfl ((if0 _ _).trans (feq (by decide)).1) ?_
      show Steps p.tables e below (T79.setTop (mkF m 262 #[.val (.int p1), .val (.int p2), .val (.int (3 : Int32)), .val (.int (1 : Int32)), .val (.ref b3), .val (.ref b16), .val (.ref b19), .val (.ref b8), .val (.int (0 : Int32)), .val (.int (2 : Int32)), .val (.ref b12), .val (.ref b4), .val (.int (1 : Int32))] [])) _
      refine XS.aload X79.here hx rfl (hb hby at_262) rfl rfl ?_
      show Steps p.tables e below (T79.setTop (mkF m 264 #[.val (.int p1), .val (.int p2), .val (.int (3 : Int32)), .val (.int (1 : Int32)), .val (.ref b3), .val (.ref b16), .val (.ref b19), .val (.ref b8), .val (.int (0 : Int32)), .val (.int (2 : Int32)), .val (.ref b12), .val (.ref b4), .val (.int (1 : Int32))] [(.ref b12)])) _
      refine st80.trans ?_
      show Steps p.tables e below (T80.setTop (mkF m 267 #[.val (.int p1), .val (.int p2), .val (.int (3 : Int32)), .val (.int (1 : Int32)), .val (.ref b3), .val (.ref b16), .val (.ref b19), .val (.ref b8), .val (.int (0 : Int32)), .val (.int (2 : Int32)), .val (.ref b12), .val (.ref b4), .val (.int (1 : Int32))] [(.ref b16)])) _
      refine XS.aload X80.here hx rfl (hb hby at_267) rfl rfl ?_
      show Steps p.tables e below (T80.setTop (mkF m 269 #[.val (.int p1), .val (.int p2), .val (.int (3 : Int32)), .val (.int (1 : Int32)), .val (.ref b3), .val (.ref b16), .val (.ref b19), .val (.ref b8), .val (.int (0 : Int32)), .val (.int (2 : Int32)), .val (.ref b12), .val (.ref b4), .val (.int (1 : Int32))] [(.ref b16), (.ref b16)])) _
      refine Jvm.RoadKit.acmp (g := (mkF m 269 #[.val (.int p1), .val (.int p2), .val (.int (3 : Int32)), .val (.int (1 : Int32)), .val (.ref b3), .val (.ref b16), .val (.ref b19), .val (.ref b8), .val (.int (0 : Int32)), .val (.int (2 : Int32)), .val (.ref b12), .val (.ref b4), .val (.int (1 : Int32))] [(.ref b16), (.ref b16)])) X80 hx rfl rfl rfl (pc0 := 269) (pc' := 272) (same := true) rfl (hb hby at_269) rfl (decide_eq_true rfl) (by decide) (by decide) ?_
      show Steps p.tables e below (T80.setTop (mkF m 272 #[.val (.int p1), .val (.int p2), .val (.int (3 : Int32)), .val (.int (1 : Int32)), .val (.ref b3), .val (.ref b16), .val (.ref b19), .val (.ref b8), .val (.int (0 : Int32)), .val (.int (2 : Int32)), .val (.ref b12), .val (.ref b4), .val (.int (1 : Int32))] [])) _
      refine XS.aload X80.here hx rfl (hb hby at_272) rfl rfl ?_
      show Steps p.tables e below (T80.setTop (mkF m 274 #[.val (.int p1), .val (.int p2), .val (.int (3 : Int32)), .val (.int (1 : Int32)), .val (.ref b3), .val (.ref b16), .val (.ref b19), .val (.ref b8), .val (.int (0 : Int32)), .val (.int (2 : Int32)), .val (.ref b12), .val (.ref b4), .val (.int (1 : Int32))] [(.ref b12)])) _
      refine st81.trans ?_
      show Steps p.tables e below (T81.setTop (mkF m 277 #[.val (.int p1), .val (.int p2), .val (.int (3 : Int32)), .val (.int (1 : Int32)), .val (.ref b3), .val (.ref b16), .val (.ref b19), .val (.ref b8), .val (.int (0 : Int32)), .val (.int (2 : Int32)), .val (.ref b12), .val (.ref b4), .val (.int (1 : Int32))] [(.ref b4)])) _
      refine XS.aload X81.here hx rfl (hb hby at_277) rfl rfl ?_
      show Steps p.tables e below (T81.setTop (mkF m 279 #[.val (.int p1), .val (.int p2), .val (.int (3 : Int32)), .val (.int (1 : Int32)), .val (.ref b3), .val (.ref b16), .val (.ref b19), .val (.ref b8), .val (.int (0 : Int32)), .val (.int (2 : Int32)), .val (.ref b12), .val (.ref b4), .val (.int (1 : Int32))] [(.ref b4), (.ref b4)])) _
      refine Jvm.RoadKit.acmp (g := (mkF m 279 #[.val (.int p1), .val (.int p2), .val (.int (3 : Int32)), .val (.int (1 : Int32)), .val (.ref b3), .val (.ref b16), .val (.ref b19), .val (.ref b8), .val (.int (0 : Int32)), .val (.int (2 : Int32)), .val (.ref b12), .val (.ref b4), .val (.int (1 : Int32))] [(.ref b4), (.ref b4)])) X81 hx rfl rfl rfl (pc0 := 279) (pc' := 282) (same := true) rfl (hb hby at_279) rfl (decide_eq_true rfl) (by decide) (by decide) ?_
      show Steps p.tables e below (T81.setTop (mkF m 282 #[.val (.int p1), .val (.int p2), .val (.int (3 : Int32)), .val (.int (1 : Int32)), .val (.ref b3), .val (.ref b16), .val (.ref b19), .val (.ref b8), .val (.int (0 : Int32)), .val (.int (2 : Int32)), .val (.ref b12), .val (.ref b4), .val (.int (1 : Int32))] [])) _
      refine XS.iconst X81.here hx rfl (hb hby at_282) ?_
      show Steps p.tables e below (T81.setTop (mkF m 283 #[.val (.int p1), .val (.int p2), .val (.int (3 : Int32)), .val (.int (1 : Int32)), .val (.ref b3), .val (.ref b16), .val (.ref b19), .val (.ref b8), .val (.int (0 : Int32)), .val (.int (2 : Int32)), .val (.ref b12), .val (.ref b4), .val (.int (1 : Int32))] [(.int (1 : Int32))])) _
      refine XS.goto X81.here hx rfl (pc0 := 283) (pc' := 287) rfl (hb hby at_283) (by decide) (by decide) ?_
      show Steps p.tables e below (T81.setTop (mkF m 287 #[.val (.int p1), .val (.int p2), .val (.int (3 : Int32)), .val (.int (1 : Int32)), .val (.ref b3), .val (.ref b16), .val (.ref b19), .val (.ref b8), .val (.int (0 : Int32)), .val (.int (2 : Int32)), .val (.ref b12), .val (.ref b4), .val (.int (1 : Int32))] [(.int (1 : Int32))])) _
      refine XS.istore X81.here hx rfl (hb hby at_287) rfl (l' := #[.val (.int p1), .val (.int p2), .val (.int (3 : Int32)), .val (.int (1 : Int32)), .val (.ref b3), .val (.ref b16), .val (.ref b19), .val (.ref b8), .val (.int (0 : Int32)), .val (.int (2 : Int32)), .val (.ref b12), .val (.ref b4), .val (.int (1 : Int32))]) rfl ?_
      show Steps p.tables e below (T81.setTop (mkF m 289 #[.val (.int p1), .val (.int p2), .val (.int (3 : Int32)), .val (.int (1 : Int32)), .val (.ref b3), .val (.ref b16), .val (.ref b19), .val (.ref b8), .val (.int (0 : Int32)), .val (.int (2 : Int32)), .val (.ref b12), .val (.ref b4), .val (.int (1 : Int32))] [])) _
      refine XS.aload X81.here hx rfl (hb hby at_289) rfl rfl ?_
      show Steps p.tables e below (T81.setTop (mkF m 291 #[.val (.int p1), .val (.int p2), .val (.int (3 : Int32)), .val (.int (1 : Int32)), .val (.ref b3), .val (.ref b16), .val (.ref b19), .val (.ref b8), .val (.int (0 : Int32)), .val (.int (2 : Int32)), .val (.ref b12), .val (.ref b4), .val (.int (1 : Int32))] [(.ref b4)])) _
      refine XS.ifnullNo X81.here hx rfl (hb hby at_291) rfl ?_
      show Steps p.tables e below (T81.setTop (mkF m 294 #[.val (.int p1), .val (.int p2), .val (.int (3 : Int32)), .val (.int (1 : Int32)), .val (.ref b3), .val (.ref b16), .val (.ref b19), .val (.ref b8), .val (.int (0 : Int32)), .val (.int (2 : Int32)), .val (.ref b12), .val (.ref b4), .val (.int (1 : Int32))] [])) _
      refine XS.iload X81.here hx rfl (hb hby at_294) rfl ?_
      show Steps p.tables e below (T81.setTop (mkF m 296 #[.val (.int p1), .val (.int p2), .val (.int (3 : Int32)), .val (.int (1 : Int32)), .val (.ref b3), .val (.ref b16), .val (.ref b19), .val (.ref b8), .val (.int (0 : Int32)), .val (.int (2 : Int32)), .val (.ref b12), .val (.ref b4), .val (.int (1 : Int32))] [(.int (1 : Int32))])) _
      refine XS.ifNo X81.here hx rfl (hb hby at_296) rfl ((if0 _ _).trans (feq (by decide)).1) ?_
      show Steps p.tables e below (T81.setTop (mkF m 299 #[.val (.int p1), .val (.int p2), .val (.int (3 : Int32)), .val (.int (1 : Int32)), .val (.ref b3), .val (.ref b16), .val (.ref b19), .val (.ref b8), .val (.int (0 : Int32)), .val (.int (2 : Int32)), .val (.ref b12), .val (.ref b4), .val (.int (1 : Int32))] [])) _
      refine XS.aload X81.here hx rfl (hb hby at_299) rfl rfl ?_
      show Steps p.tables e below (T81.setTop (mkF m 301 #[.val (.int p1), .val (.int p2), .val (.int (3 : Int32)), .val (.int (1 : Int32)), .val (.ref b3), .val (.ref b16), .val (.ref b19), .val (.ref b8), .val (.int (0 : Int32)), .val (.int (2 : Int32)), .val (.ref b12), .val (.ref b4), .val (.int (1 : Int32))] [(.ref b4)])) _
      refine st82.trans ?_
      show Steps p.tables e below (T82.setTop (mkF m 304 #[.val (.int p1), .val (.int p2), .val (.int (3 : Int32)), .val (.int (1 : Int32)), .val (.ref b3), .val (.ref b16), .val (.ref b19), .val (.ref b8), .val (.int (0 : Int32)), .val (.int (2 : Int32)), .val (.ref b12), .val (.ref b4), .val (.int (1 : Int32))] [(.ref b12)])) _
      refine XS.aload X82.here hx rfl (hb hby at_304) rfl rfl ?_
      show Steps p.tables e below (T82.setTop (mkF m 306 #[.val (.int p1), .val (.int p2), .val (.int (3 : Int32)), .val (.int (1 : Int32)), .val (.ref b3), .val (.ref b16), .val (.ref b19), .val (.ref b8), .val (.int (0 : Int32)), .val (.int (2 : Int32)), .val (.ref b12), .val (.ref b4), .val (.int (1 : Int32))] [(.ref b12), (.ref b12)])) _
      refine Jvm.RoadKit.acmp (g := (mkF m 306 #[.val (.int p1), .val (.int p2), .val (.int (3 : Int32)), .val (.int (1 : Int32)), .val (.ref b3), .val (.ref b16), .val (.ref b19), .val (.ref b8), .val (.int (0 : Int32)), .val (.int (2 : Int32)), .val (.ref b12), .val (.ref b4), .val (.int (1 : Int32))] [(.ref b12), (.ref b12)])) X82 hx rfl rfl rfl (pc0 := 306) (pc' := 309) (same := true) rfl (hb hby at_306) rfl (decide_eq_true rfl) (by decide) (by decide) ?_
      show Steps p.tables e below (T82.setTop (mkF m 309 #[.val (.int p1), .val (.int p2), .val (.int (3 : Int32)), .val (.int (1 : Int32)), .val (.ref b3), .val (.ref b16), .val (.ref b19), .val (.ref b8), .val (.int (0 : Int32)), .val (.int (2 : Int32)), .val (.ref b12), .val (.ref b4), .val (.int (1 : Int32))] [])) _
      refine XS.aload X82.here hx rfl (hb hby at_309) rfl rfl ?_
      show Steps p.tables e below (T82.setTop (mkF m 311 #[.val (.int p1), .val (.int p2), .val (.int (3 : Int32)), .val (.int (1 : Int32)), .val (.ref b3), .val (.ref b16), .val (.ref b19), .val (.ref b8), .val (.int (0 : Int32)), .val (.int (2 : Int32)), .val (.ref b12), .val (.ref b4), .val (.int (1 : Int32))] [(.ref b4)])) _
      refine st83.trans ?_
      show Steps p.tables e below (T83.setTop (mkF m 314 #[.val (.int p1), .val (.int p2), .val (.int (3 : Int32)), .val (.int (1 : Int32)), .val (.ref b3), .val (.ref b16), .val (.ref b19), .val (.ref b8), .val (.int (0 : Int32)), .val (.int (2 : Int32)), .val (.ref b12), .val (.ref b4), .val (.int (1 : Int32))] [.null])) _
      refine XS.ifnonnullNo X83.here hx rfl (hb hby at_314) rfl ?_
      show Steps p.tables e below (T83.setTop (mkF m 317 #[.val (.int p1), .val (.int p2), .val (.int (3 : Int32)), .val (.int (1 : Int32)), .val (.ref b3), .val (.ref b16), .val (.ref b19), .val (.ref b8), .val (.int (0 : Int32)), .val (.int (2 : Int32)), .val (.ref b12), .val (.ref b4), .val (.int (1 : Int32))] [])) _
      refine XS.iconst X83.here hx rfl (hb hby at_317) ?_
      show Steps p.tables e below (T83.setTop (mkF m 318 #[.val (.int p1), .val (.int p2), .val (.int (3 : Int32)), .val (.int (1 : Int32)), .val (.ref b3), .val (.ref b16), .val (.ref b19), .val (.ref b8), .val (.int (0 : Int32)), .val (.int (2 : Int32)), .val (.ref b12), .val (.ref b4), .val (.int (1 : Int32))] [(.int (1 : Int32))])) _
      refine XS.goto X83.here hx rfl (pc0 := 318) (pc' := 322) rfl (hb hby at_318) (by decide) (by decide) ?_
      show Steps p.tables e below (T83.setTop (mkF m 322 #[.val (.int p1), .val (.int p2), .val (.int (3 : Int32)), .val (.int (1 : Int32)), .val (.ref b3), .val (.ref b16), .val (.ref b19), .val (.ref b8), .val (.int (0 : Int32)), .val (.int (2 : Int32)), .val (.ref b12), .val (.ref b4), .val (.int (1 : Int32))] [(.int (1 : Int32))])) _
      refine XS.istore X83.here hx rfl (hb hby at_322) rfl (l' := #[.val (.int p1), .val (.int p2), .val (.int (3 : Int32)), .val (.int (1 : Int32)), .val (.ref b3), .val (.ref b16), .val (.ref b19), .val (.ref b8), .val (.int (0 : Int32)), .val (.int (2 : Int32)), .val (.ref b12), .val (.ref b4), .val (.int (1 : Int32))]) rfl ?_
      show Steps p.tables e below (T83.setTop (mkF m 324 #[.val (.int p1), .val (.int p2), .val (.int (3 : Int32)), .val (.int (1 : Int32)), .val (.ref b3), .val (.ref b16), .val (.ref b19), .val (.ref b8), .val (.int (0 : Int32)), .val (.int (2 : Int32)), .val (.ref b12), .val (.ref b4), .val (.int (1 : Int32))] [])) _
      refine XS.iload X83.here hx rfl (hb hby at_324) rfl ?_
      show Steps p.tables e below (T83.setTop (mkF m 326 #[.val (.int p1), .val (.int p2), .val (.int (3 : Int32)), .val (.int (1 : Int32)), .val (.ref b3), .val (.ref b16), .val (.ref b19), .val (.ref b8), .val (.int (0 : Int32)), .val (.int (2 : Int32)), .val (.ref b12), .val (.ref b4), .val (.int (1 : Int32))] [(.int (1 : Int32))])) _
      exact retN X83 hx (t := .boolean) Bd.returns (by simp) (hb hby at_326) hr
    · show Q0 Z p1 h0 n0 _ T83.heap _
      rw [eh83]
      exact ⟨rfl, N83⟩
  · rw [e1, e2] at go23
    obtain ⟨cl84, Ar84, q84, S84, M84, Hh84, G84⟩ := id V22_b3
    have hin84 : ¬ ((1 : Int32) < 0 ∨ cl84.slots.size ≤ ((1 : Int32)).toNatClampNeg) := inb_of S84 ⟨by decide, by decide⟩
    have hat84 : cl84.slots[((1 : Int32)).toNatClampNeg]? = some (.ref b8) := Has.at Hh84 hin84 rfl
    obtain ⟨cq85, kq85, q85a, q85b, q85c⟩ := isOf hZ17 rfl E22_b19
    obtain ⟨_, _, ⟨T85, L85, k85, n85⟩, -, X85, ⟨Lc85, hQ85, l85, y85, z85⟩, st85⟩ := X22.virtualBack hx (y := (⟨"com/example/unhurried_reaper/unhurriedreaper/TaskHistory", "toFront", "(Lcom/example/unhurried_reaper/unhurriedreaper/Task;)V"⟩ : MethodName)) (z := (⟨"com/example/unhurried_reaper/unhurriedreaper/TaskHistory", "toFront", "(Lcom/example/unhurried_reaper/unhurriedreaper/Task;)V"⟩ : MethodName)) hown17 (mvT hZ17 (hw _ (List.mem_of_getElem? (i := 58) rfl))) (mvT hZ17 (hw _ (List.mem_of_getElem? (i := 59) rfl))) (notFace_of_selects (args := #[]) (mvT hZ17 (hw _ (List.mem_of_getElem? (i := 61) rfl)))) (mvT hZ17 (hw _ (List.mem_of_getElem? (i := 61) rfl))) (mvT hZ17 (hw _ (List.mem_of_getElem? (i := 60) rfl))) (by decide) (backOf (W := 0) (rm7b l Z a0 hw [] b19 b8 b4 ((0 : Int64) + (1 : Int64)) (0 : Int64) (0 : Int64) .null T22.heap n0 (Nat.le_trans (Nat.le_trans (Nat.le_trans (Nat.le_trans (Nat.le_trans (Nat.le_trans (Nat.le_trans (Nat.le_trans (Nat.le_trans (Nat.le_trans (Nat.le_trans (Nat.le_trans (Nat.le_trans (Nat.le_trans (Nat.le_trans (Nat.le_trans (Nat.le_trans (Nat.le_trans Z0 E3.1) E4.1) E5.1) K6c.1) (Keep.of_wr W7).1) E8.1) E9.1) K10c.1) (Keep.of_wr W11).1) E12.1) E13.1) K14c.1) (Keep.of_wr W15).1) E16.1) E17.1) K18c.1) E19.1) K22c.1) ge_b19 E22_b19 F22_b19_front F22_b19_bringings ge_b8 E22_b8 F22_b8_nearerFront F22_b8_furtherBack F22_b8_frontedAt ge_b4 E22_b4 F22_b4_nearerFront F22_b4_furtherBack F22_b4_frontedAt (Ne.symm ne_b8_b19) (Ne.symm ne_b4_b19) (Ne.symm ne_b4_b8)) hZ17 (hw _ (List.mem_of_getElem? (i := 62) rfl)) (hw _ (List.mem_of_getElem? (i := 53) rfl)) (by decide) (by decide)) q85a q85c (g := (mkF m 101 #[.val (.int p1), .val (.int p2), .val (.int (3 : Int32)), .val (.int (2 : Int32)), .val (.ref b3), .val (.ref b16), .val (.ref b19), .unset, .unset, .unset, .unset, .unset, .unset] [(.ref b8), (.ref b19)])) rfl (by rw [hml]; rfl) (Steps.refl _) (argsL := [(.ref b8)]) (rest := []) (lenOf pd_2 rfl) rfl (by show 2 * 0 + _ ≤ _; exact Nat.le_of_eq rfl) (hb hby at_101) (fun _ _ => ⟨rfl, rfl, (by decide : 18 + 0 ≤ _), (by decide : 69 + 0 ≤ _)⟩)
    dsimp only [Pt.U, Pt.locs, Pt.cells, Pt.slots] at X85 l85 y85 z85 st85 hQ85
    subst l85 y85 z85
    obtain ⟨rfl, N85q, K85c, F85_b19_front, F85_b19_bringings, F85_b8_nearerFront, F85_b8_furtherBack, F85_b8_frontedAt, F85_b4_nearerFront, F85_b4_furtherBack, F85_b4_frontedAt⟩ := hQ85
    have N85 := Fr.app N22 N85q
    have V85_b3 := V22_b3.keep K85c (ninS ne_b3_b19 (ninS ne_b3_b8 (ninS ne_b3_b4 nin0)))
    have E85_b4 := E22_b4.keep K85c
    have E85_b8 := E22_b8.keep K85c
    have E85_b12 := E22_b12.keep K85c
    have F85_b12_nearerFront := F22_b12_nearerFront.keep K85c (ninS ne_b12_b19 (ninS (Ne.symm ne_b8_b12) (ninS (Ne.symm ne_b4_b12) nin0)))
    have F85_b12_furtherBack := F22_b12_furtherBack.keep K85c (ninS ne_b12_b19 (ninS (Ne.symm ne_b8_b12) (ninS (Ne.symm ne_b4_b12) nin0)))
    have F85_b12_frontedAt := F22_b12_frontedAt.keep K85c (ninS ne_b12_b19 (ninS (Ne.symm ne_b8_b12) (ninS (Ne.symm ne_b4_b12) nin0)))
    have E85_b16 := E22_b16.keep K85c
    have F85_b16_nearerFront := F22_b16_nearerFront.keep K85c (ninS ne_b16_b19 (ninS (Ne.symm ne_b8_b16) (ninS (Ne.symm ne_b4_b16) nin0)))
    have F85_b16_furtherBack := F22_b16_furtherBack.keep K85c (ninS ne_b16_b19 (ninS (Ne.symm ne_b8_b16) (ninS (Ne.symm ne_b4_b16) nin0)))
    have F85_b16_frontedAt := F22_b16_frontedAt.keep K85c (ninS ne_b16_b19 (ninS (Ne.symm ne_b8_b16) (ninS (Ne.symm ne_b4_b16) nin0)))
    have E85_b19 := E22_b19.keep K85c
    obtain ⟨cl86, Ar86, q86, S86, M86, Hh86, G86⟩ := id V85_b3
    have hin86 : ¬ ((2 : Int32) < 0 ∨ cl86.slots.size ≤ ((2 : Int32)).toNatClampNeg) := inb_of S86 ⟨by decide, by decide⟩
    have hat86 : cl86.slots[((2 : Int32)).toNatClampNeg]? = some (.ref b12) := Has.at Hh86 hin86 rfl
    obtain ⟨cq87, kq87, q87a, q87b, q87c⟩ := isOf hZ17 rfl E85_b19
    obtain ⟨_, _, ⟨T87, L87, k87, n87⟩, -, X87, ⟨Lc87, hQ87, l87, y87, z87⟩, st87⟩ := X85.virtualBack hx (y := (⟨"com/example/unhurried_reaper/unhurriedreaper/TaskHistory", "toFront", "(Lcom/example/unhurried_reaper/unhurriedreaper/Task;)V"⟩ : MethodName)) (z := (⟨"com/example/unhurried_reaper/unhurriedreaper/TaskHistory", "toFront", "(Lcom/example/unhurried_reaper/unhurriedreaper/Task;)V"⟩ : MethodName)) hown17 (mvT hZ17 (hw _ (List.mem_of_getElem? (i := 58) rfl))) (mvT hZ17 (hw _ (List.mem_of_getElem? (i := 59) rfl))) (notFace_of_selects (args := #[]) (mvT hZ17 (hw _ (List.mem_of_getElem? (i := 61) rfl)))) (mvT hZ17 (hw _ (List.mem_of_getElem? (i := 61) rfl))) (mvT hZ17 (hw _ (List.mem_of_getElem? (i := 60) rfl))) (by decide) (backOf (W := 0) (rm7b l Z a0 hw [] b19 b12 b8 (((0 : Int64) + (1 : Int64)) + (1 : Int64)) (0 : Int64) ((0 : Int64) + (1 : Int64)) (.ref b4) T85.heap n0 (Nat.le_trans (Nat.le_trans (Nat.le_trans (Nat.le_trans (Nat.le_trans (Nat.le_trans (Nat.le_trans (Nat.le_trans (Nat.le_trans (Nat.le_trans (Nat.le_trans (Nat.le_trans (Nat.le_trans (Nat.le_trans (Nat.le_trans (Nat.le_trans (Nat.le_trans (Nat.le_trans (Nat.le_trans Z0 E3.1) E4.1) E5.1) K6c.1) (Keep.of_wr W7).1) E8.1) E9.1) K10c.1) (Keep.of_wr W11).1) E12.1) E13.1) K14c.1) (Keep.of_wr W15).1) E16.1) E17.1) K18c.1) E19.1) K22c.1) K85c.1) ge_b19 E85_b19 F85_b19_front F85_b19_bringings ge_b12 E85_b12 F85_b12_nearerFront F85_b12_furtherBack F85_b12_frontedAt ge_b8 E85_b8 F85_b8_nearerFront F85_b8_furtherBack F85_b8_frontedAt (Ne.symm ne_b12_b19) (Ne.symm ne_b8_b19) (Ne.symm ne_b8_b12)) hZ17 (hw _ (List.mem_of_getElem? (i := 62) rfl)) (hw _ (List.mem_of_getElem? (i := 53) rfl)) (by decide) (by decide)) q87a q87c (g := (mkF m 115 #[.val (.int p1), .val (.int p2), .val (.int (3 : Int32)), .val (.int (2 : Int32)), .val (.ref b3), .val (.ref b16), .val (.ref b19), .unset, .unset, .unset, .unset, .unset, .unset] [(.ref b12), (.ref b19)])) rfl (by rw [hml]; rfl) (Steps.refl _) (argsL := [(.ref b12)]) (rest := []) (lenOf pd_2 rfl) rfl (by show 2 * 0 + _ ≤ _; exact Nat.le_of_eq rfl) (hb hby at_115) (fun _ _ => ⟨rfl, rfl, (by decide : 18 + 0 ≤ _), (by decide : 69 + 0 ≤ _)⟩)
    dsimp only [Pt.U, Pt.locs, Pt.cells, Pt.slots] at X87 l87 y87 z87 st87 hQ87
    subst l87 y87 z87
    obtain ⟨rfl, N87q, K87c, F87_b19_front, F87_b19_bringings, F87_b12_nearerFront, F87_b12_furtherBack, F87_b12_frontedAt, F87_b8_nearerFront, F87_b8_furtherBack, F87_b8_frontedAt⟩ := hQ87
    have N87 := Fr.app N85 N87q
    have V87_b3 := V85_b3.keep K87c (ninS ne_b3_b19 (ninS ne_b3_b12 (ninS ne_b3_b8 nin0)))
    have E87_b4 := E85_b4.keep K87c
    have F87_b4_nearerFront := F85_b4_nearerFront.keep K87c (ninS ne_b4_b19 (ninS ne_b4_b12 (ninS ne_b4_b8 nin0)))
    have F87_b4_furtherBack := F85_b4_furtherBack.keep K87c (ninS ne_b4_b19 (ninS ne_b4_b12 (ninS ne_b4_b8 nin0)))
    have F87_b4_frontedAt := F85_b4_frontedAt.keep K87c (ninS ne_b4_b19 (ninS ne_b4_b12 (ninS ne_b4_b8 nin0)))
    have E87_b8 := E85_b8.keep K87c
    have E87_b12 := E85_b12.keep K87c
    have E87_b16 := E85_b16.keep K87c
    have F87_b16_nearerFront := F85_b16_nearerFront.keep K87c (ninS ne_b16_b19 (ninS (Ne.symm ne_b12_b16) (ninS (Ne.symm ne_b8_b16) nin0)))
    have F87_b16_furtherBack := F85_b16_furtherBack.keep K87c (ninS ne_b16_b19 (ninS (Ne.symm ne_b12_b16) (ninS (Ne.symm ne_b8_b16) nin0)))
    have F87_b16_frontedAt := F85_b16_frontedAt.keep K87c (ninS ne_b16_b19 (ninS (Ne.symm ne_b12_b16) (ninS (Ne.symm ne_b8_b16) nin0)))
    have E87_b19 := E85_b19.keep K87c
    obtain ⟨cl88, Ar88, q88, S88, M88, Hh88, G88⟩ := id V87_b3
    have hin88 : ¬ ((((3 : Int32) - (1 : Int32)) - (2 : Int32)) < 0 ∨ cl88.slots.size ≤ ((((3 : Int32) - (1 : Int32)) - (2 : Int32))).toNatClampNeg) := inb_of S88 ⟨by decide, by decide⟩
    have hat88 : cl88.slots[((((3 : Int32) - (1 : Int32)) - (2 : Int32))).toNatClampNeg]? = some (.ref b4) := Has.at Hh88 hin88 rfl
    obtain ⟨cl89, Ar89, q89, S89, M89, Hh89, G89⟩ := id V87_b3
    have hin89 : ¬ ((((3 : Int32) - (1 : Int32)) - (0 : Int32)) < 0 ∨ cl89.slots.size ≤ ((((3 : Int32) - (1 : Int32)) - (0 : Int32))).toNatClampNeg) := inb_of S89 ⟨by decide, by decide⟩
    have hat89 : cl89.slots[((((3 : Int32) - (1 : Int32)) - (0 : Int32))).toNatClampNeg]? = some (.ref b12) := Has.at Hh89 hin89 rfl
    obtain ⟨cl90, Ar90, q90, S90, M90, Hh90, G90⟩ := id V87_b3
    have hin90 : ¬ ((((3 : Int32) - (1 : Int32)) - (1 : Int32)) < 0 ∨ cl90.slots.size ≤ ((((3 : Int32) - (1 : Int32)) - (1 : Int32))).toNatClampNeg) := inb_of S90 ⟨by decide, by decide⟩
    have hat90 : cl90.slots[((((3 : Int32) - (1 : Int32)) - (1 : Int32))).toNatClampNeg]? = some (.ref b8) := Has.at Hh90 hin90 rfl
    obtain ⟨cq91, kq91, q91a, q91b, q91c⟩ := isOf hZ17 rfl E87_b19
    obtain ⟨_, _, ⟨T91, L91, k91, n91⟩, -, X91, ⟨Lc91, hQ91, l91, y91, z91⟩, st91⟩ := X87.virtualBack hx (y := (⟨"com/example/unhurried_reaper/unhurriedreaper/TaskHistory", "remove", "(Lcom/example/unhurried_reaper/unhurriedreaper/Task;)V"⟩ : MethodName)) (z := (⟨"com/example/unhurried_reaper/unhurriedreaper/TaskHistory", "remove", "(Lcom/example/unhurried_reaper/unhurriedreaper/Task;)V"⟩ : MethodName)) hown17 (mvT hZ17 (hw _ (List.mem_of_getElem? (i := 88) rfl))) (mvT hZ17 (hw _ (List.mem_of_getElem? (i := 89) rfl))) (notFace_of_selects (args := #[]) (mvT hZ17 (hw _ (List.mem_of_getElem? (i := 91) rfl)))) (mvT hZ17 (hw _ (List.mem_of_getElem? (i := 91) rfl))) (mvT hZ17 (hw _ (List.mem_of_getElem? (i := 90) rfl))) (by decide) (backOf (W := 0) (rm11an l Z a0 hw [] b19 b4 b8 (0 : Int64) ((0 : Int64) + (1 : Int64)) (.ref b12) T87.heap n0 (Nat.le_trans (Nat.le_trans (Nat.le_trans (Nat.le_trans (Nat.le_trans (Nat.le_trans (Nat.le_trans (Nat.le_trans (Nat.le_trans (Nat.le_trans (Nat.le_trans (Nat.le_trans (Nat.le_trans (Nat.le_trans (Nat.le_trans (Nat.le_trans (Nat.le_trans (Nat.le_trans (Nat.le_trans (Nat.le_trans Z0 E3.1) E4.1) E5.1) K6c.1) (Keep.of_wr W7).1) E8.1) E9.1) K10c.1) (Keep.of_wr W11).1) E12.1) E13.1) K14c.1) (Keep.of_wr W15).1) E16.1) E17.1) K18c.1) E19.1) K22c.1) K85c.1) K87c.1) ge_b19 E87_b19 ge_b4 E87_b4 F87_b4_nearerFront F87_b4_furtherBack F87_b4_frontedAt ge_b8 E87_b8 F87_b8_nearerFront F87_b8_furtherBack F87_b8_frontedAt (Ne.symm ne_b4_b19) (Ne.symm ne_b8_b19) ne_b4_b8) hZ17 (hw _ (List.mem_of_getElem? (i := 92) rfl)) (hw _ (List.mem_of_getElem? (i := 53) rfl)) (by decide) (by decide)) q91a q91c (g := (mkF m 197 #[.val (.int p1), .val (.int p2), .val (.int (3 : Int32)), .val (.int (2 : Int32)), .val (.ref b3), .val (.ref b16), .val (.ref b19), .val (.ref b4), .val (.int (0 : Int32)), .val (.int (1 : Int32)), .val (.ref b12), .val (.ref b8), .unset] [(.ref b4), (.ref b19)])) rfl (by rw [hml]; rfl) (Steps.refl _) (argsL := [(.ref b4)]) (rest := []) (lenOf pd_2 rfl) rfl (by show 2 * 0 + _ ≤ _; exact Nat.le_of_eq rfl) (hb hby at_197) (fun _ _ => ⟨rfl, rfl, (by decide : 18 + 0 ≤ _), (by decide : 69 + 0 ≤ _)⟩)
    dsimp only [Pt.U, Pt.locs, Pt.cells, Pt.slots] at X91 l91 y91 z91 st91 hQ91
    subst l91 y91 z91
    obtain ⟨rfl, N91q, K91c, F91_b4_nearerFront, F91_b4_furtherBack, F91_b4_frontedAt, F91_b8_nearerFront, F91_b8_furtherBack, F91_b8_frontedAt⟩ := hQ91
    have N91 := Fr.app N87 N91q
    have V91_b3 := V87_b3.keep K91c (ninS ne_b3_b4 (ninS ne_b3_b8 nin0))
    have E91_b4 := E87_b4.keep K91c
    have E91_b8 := E87_b8.keep K91c
    have E91_b12 := E87_b12.keep K91c
    have F91_b12_nearerFront := F87_b12_nearerFront.keep K91c (ninS (Ne.symm ne_b4_b12) (ninS (Ne.symm ne_b8_b12) nin0))
    have F91_b12_furtherBack := F87_b12_furtherBack.keep K91c (ninS (Ne.symm ne_b4_b12) (ninS (Ne.symm ne_b8_b12) nin0))
    have F91_b12_frontedAt := F87_b12_frontedAt.keep K91c (ninS (Ne.symm ne_b4_b12) (ninS (Ne.symm ne_b8_b12) nin0))
    have E91_b16 := E87_b16.keep K91c
    have F91_b16_nearerFront := F87_b16_nearerFront.keep K91c (ninS (Ne.symm ne_b4_b16) (ninS (Ne.symm ne_b8_b16) nin0))
    have F91_b16_furtherBack := F87_b16_furtherBack.keep K91c (ninS (Ne.symm ne_b4_b16) (ninS (Ne.symm ne_b8_b16) nin0))
    have F91_b16_frontedAt := F87_b16_frontedAt.keep K91c (ninS (Ne.symm ne_b4_b16) (ninS (Ne.symm ne_b8_b16) nin0))
    have E91_b19 := E87_b19.keep K91c
    have F91_b19_front := F87_b19_front.keep K91c (ninS (Ne.symm ne_b4_b19) (ninS (Ne.symm ne_b8_b19) nin0))
    have F91_b19_bringings := F87_b19_bringings.keep K91c (ninS (Ne.symm ne_b4_b19) (ninS (Ne.symm ne_b8_b19) nin0))
    obtain ⟨cq92, kq92, q92a, q92b, q92c⟩ := isOf hZ17 rfl E91_b4
    obtain ⟨_, _, ⟨T92, L92, k92, n92⟩, -, X92, ⟨Lc92, hQ92, l92, y92, z92⟩, st92⟩ := X91.virtualBack hx (y := (⟨"com/example/unhurried_reaper/unhurriedreaper/Task", "nearerFront", "()Lcom/example/unhurried_reaper/unhurriedreaper/Task;"⟩ : MethodName)) (z := (⟨"com/example/unhurried_reaper/unhurriedreaper/Task", "nearerFront", "()Lcom/example/unhurried_reaper/unhurriedreaper/Task;"⟩ : MethodName)) hown17 (mvT hZ17 (hw _ (List.mem_of_getElem? (i := 103) rfl))) (mvT hZ17 (hw _ (List.mem_of_getElem? (i := 66) rfl))) (notFace_of_selects (args := #[]) (mvT hZ17 (hw _ (List.mem_of_getElem? (i := 68) rfl)))) (mvT hZ17 (hw _ (List.mem_of_getElem? (i := 68) rfl))) (mvT hZ17 (hw _ (List.mem_of_getElem? (i := 67) rfl))) (by decide) (backOf (W := 0) (rm8N l Z a0 hw [] b4 T91.heap n0 (Nat.le_trans (Nat.le_trans (Nat.le_trans (Nat.le_trans (Nat.le_trans (Nat.le_trans (Nat.le_trans (Nat.le_trans (Nat.le_trans (Nat.le_trans (Nat.le_trans (Nat.le_trans (Nat.le_trans (Nat.le_trans (Nat.le_trans (Nat.le_trans (Nat.le_trans (Nat.le_trans (Nat.le_trans (Nat.le_trans (Nat.le_trans Z0 E3.1) E4.1) E5.1) K6c.1) (Keep.of_wr W7).1) E8.1) E9.1) K10c.1) (Keep.of_wr W11).1) E12.1) E13.1) K14c.1) (Keep.of_wr W15).1) E16.1) E17.1) K18c.1) E19.1) K22c.1) K85c.1) K87c.1) K91c.1) F91_b4_nearerFront) hZ17 (hw _ (List.mem_of_getElem? (i := 69) rfl)) (hw _ (List.mem_of_getElem? (i := 4) rfl)) (by decide) (by decide)) q92a q92c (g := (mkF m 202 #[.val (.int p1), .val (.int p2), .val (.int (3 : Int32)), .val (.int (2 : Int32)), .val (.ref b3), .val (.ref b16), .val (.ref b19), .val (.ref b4), .val (.int (0 : Int32)), .val (.int (1 : Int32)), .val (.ref b12), .val (.ref b8), .unset] [(.ref b4)])) rfl (by rw [hml]; rfl) (Steps.refl _) (argsL := []) (rest := []) (lenOf pd_1 rfl) rfl (by show 2 * 0 + _ ≤ _; exact Nat.le_of_eq rfl) (hb hby at_202) (fun _ _ => ⟨rfl, rfl, (by decide : 18 + 0 ≤ _), (by decide : 69 + 0 ≤ _)⟩)
    dsimp only [Pt.U, Pt.locs, Pt.cells, Pt.slots] at X92 l92 y92 z92 st92 hQ92
    subst l92 y92 z92
    obtain ⟨rfl, N92q, eh92⟩ := hQ92
    have N92 := Fr.app N91 N92q
    obtain ⟨cq93, kq93, q93a, q93b, q93c⟩ := isOf hZ17 eh92 E91_b4
    obtain ⟨_, _, ⟨T93, L93, k93, n93⟩, -, X93, ⟨Lc93, hQ93, l93, y93, z93⟩, st93⟩ := X92.virtualBack hx (y := (⟨"com/example/unhurried_reaper/unhurriedreaper/Task", "furtherBack", "()Lcom/example/unhurried_reaper/unhurriedreaper/Task;"⟩ : MethodName)) (z := (⟨"com/example/unhurried_reaper/unhurriedreaper/Task", "furtherBack", "()Lcom/example/unhurried_reaper/unhurriedreaper/Task;"⟩ : MethodName)) hown17 (mvT hZ17 (hw _ (List.mem_of_getElem? (i := 104) rfl))) (mvT hZ17 (hw _ (List.mem_of_getElem? (i := 94) rfl))) (notFace_of_selects (args := #[]) (mvT hZ17 (hw _ (List.mem_of_getElem? (i := 96) rfl)))) (mvT hZ17 (hw _ (List.mem_of_getElem? (i := 96) rfl))) (mvT hZ17 (hw _ (List.mem_of_getElem? (i := 95) rfl))) (by decide) (backOf (W := 0) (rm12N l Z a0 hw [] b4 T91.heap n0 (Nat.le_trans (Nat.le_trans (Nat.le_trans (Nat.le_trans (Nat.le_trans (Nat.le_trans (Nat.le_trans (Nat.le_trans (Nat.le_trans (Nat.le_trans (Nat.le_trans (Nat.le_trans (Nat.le_trans (Nat.le_trans (Nat.le_trans (Nat.le_trans (Nat.le_trans (Nat.le_trans (Nat.le_trans (Nat.le_trans (Nat.le_trans Z0 E3.1) E4.1) E5.1) K6c.1) (Keep.of_wr W7).1) E8.1) E9.1) K10c.1) (Keep.of_wr W11).1) E12.1) E13.1) K14c.1) (Keep.of_wr W15).1) E16.1) E17.1) K18c.1) E19.1) K22c.1) K85c.1) K87c.1) K91c.1) F91_b4_furtherBack) hZ17 (hw _ (List.mem_of_getElem? (i := 97) rfl)) (hw _ (List.mem_of_getElem? (i := 4) rfl)) (by decide) (by decide)) q93a q93c (g := (mkF m 210 #[.val (.int p1), .val (.int p2), .val (.int (3 : Int32)), .val (.int (2 : Int32)), .val (.ref b3), .val (.ref b16), .val (.ref b19), .val (.ref b4), .val (.int (0 : Int32)), .val (.int (1 : Int32)), .val (.ref b12), .val (.ref b8), .unset] [(.ref b4)])) rfl (by rw [hml]; rfl) (Steps.refl _) (argsL := []) (rest := []) (lenOf pd_1 rfl) rfl (by show 2 * 0 + _ ≤ _; exact Nat.le_of_eq rfl) (hb hby at_210) (fun _ _ => ⟨rfl, eh92, (by decide : 18 + 0 ≤ _), (by decide : 69 + 0 ≤ _)⟩)
    dsimp only [Pt.U, Pt.locs, Pt.cells, Pt.slots] at X93 l93 y93 z93 st93 hQ93
    subst l93 y93 z93
    obtain ⟨rfl, N93q, eh93⟩ := hQ93
    have N93 := Fr.app N92 N93q
    obtain ⟨cq94, kq94, q94a, q94b, q94c⟩ := isOf hZ17 eh93 E91_b19
    obtain ⟨_, _, ⟨T94, L94, k94, n94⟩, -, X94, ⟨Lc94, hQ94, l94, y94, z94⟩, st94⟩ := X93.virtualBack hx (y := (⟨"com/example/unhurried_reaper/unhurriedreaper/TaskHistory", "toFront", "(Lcom/example/unhurried_reaper/unhurriedreaper/Task;)V"⟩ : MethodName)) (z := (⟨"com/example/unhurried_reaper/unhurriedreaper/TaskHistory", "toFront", "(Lcom/example/unhurried_reaper/unhurriedreaper/Task;)V"⟩ : MethodName)) hown17 (mvT hZ17 (hw _ (List.mem_of_getElem? (i := 58) rfl))) (mvT hZ17 (hw _ (List.mem_of_getElem? (i := 59) rfl))) (notFace_of_selects (args := #[]) (mvT hZ17 (hw _ (List.mem_of_getElem? (i := 61) rfl)))) (mvT hZ17 (hw _ (List.mem_of_getElem? (i := 61) rfl))) (mvT hZ17 (hw _ (List.mem_of_getElem? (i := 60) rfl))) (by decide) (backOf (W := 0) (rm7b l Z a0 hw [] b19 b16 b12 ((((0 : Int64) + (1 : Int64)) + (1 : Int64)) + (1 : Int64)) (0 : Int64) (((0 : Int64) + (1 : Int64)) + (1 : Int64)) (.ref b8) T91.heap n0 (Nat.le_trans (Nat.le_trans (Nat.le_trans (Nat.le_trans (Nat.le_trans (Nat.le_trans (Nat.le_trans (Nat.le_trans (Nat.le_trans (Nat.le_trans (Nat.le_trans (Nat.le_trans (Nat.le_trans (Nat.le_trans (Nat.le_trans (Nat.le_trans (Nat.le_trans (Nat.le_trans (Nat.le_trans (Nat.le_trans (Nat.le_trans Z0 E3.1) E4.1) E5.1) K6c.1) (Keep.of_wr W7).1) E8.1) E9.1) K10c.1) (Keep.of_wr W11).1) E12.1) E13.1) K14c.1) (Keep.of_wr W15).1) E16.1) E17.1) K18c.1) E19.1) K22c.1) K85c.1) K87c.1) K91c.1) ge_b19 E91_b19 F91_b19_front F91_b19_bringings ge_b16 E91_b16 F91_b16_nearerFront F91_b16_furtherBack F91_b16_frontedAt ge_b12 E91_b12 F91_b12_nearerFront F91_b12_furtherBack F91_b12_frontedAt (Ne.symm ne_b16_b19) (Ne.symm ne_b12_b19) (Ne.symm ne_b12_b16)) hZ17 (hw _ (List.mem_of_getElem? (i := 62) rfl)) (hw _ (List.mem_of_getElem? (i := 53) rfl)) (by decide) (by decide)) q94a q94c (g := (mkF m 227 #[.val (.int p1), .val (.int p2), .val (.int (3 : Int32)), .val (.int (2 : Int32)), .val (.ref b3), .val (.ref b16), .val (.ref b19), .val (.ref b4), .val (.int (0 : Int32)), .val (.int (1 : Int32)), .val (.ref b12), .val (.ref b8), .val (.int (1 : Int32))] [(.ref b16), (.ref b19)])) rfl (by rw [hml]; rfl) (Steps.refl _) (argsL := [(.ref b16)]) (rest := []) (lenOf pd_2 rfl) rfl (by show 2 * 0 + _ ≤ _; exact Nat.le_of_eq rfl) (hb hby at_227) (fun _ _ => ⟨rfl, eh93, (by decide : 18 + 0 ≤ _), (by decide : 69 + 0 ≤ _)⟩)
    dsimp only [Pt.U, Pt.locs, Pt.cells, Pt.slots] at X94 l94 y94 z94 st94 hQ94
    subst l94 y94 z94
    obtain ⟨rfl, N94q, K94c, F94_b19_front, F94_b19_bringings, F94_b16_nearerFront, F94_b16_furtherBack, F94_b16_frontedAt, F94_b12_nearerFront, F94_b12_furtherBack, F94_b12_frontedAt⟩ := hQ94
    have N94 := Fr.app N93 N94q
    have V94_b3 := V91_b3.keep K94c (ninS ne_b3_b19 (ninS ne_b3_b16 (ninS ne_b3_b12 nin0)))
    have E94_b4 := E91_b4.keep K94c
    have F94_b4_nearerFront := F91_b4_nearerFront.keep K94c (ninS ne_b4_b19 (ninS ne_b4_b16 (ninS ne_b4_b12 nin0)))
    have F94_b4_furtherBack := F91_b4_furtherBack.keep K94c (ninS ne_b4_b19 (ninS ne_b4_b16 (ninS ne_b4_b12 nin0)))
    have F94_b4_frontedAt := F91_b4_frontedAt.keep K94c (ninS ne_b4_b19 (ninS ne_b4_b16 (ninS ne_b4_b12 nin0)))
    have E94_b8 := E91_b8.keep K94c
    have F94_b8_nearerFront := F91_b8_nearerFront.keep K94c (ninS ne_b8_b19 (ninS ne_b8_b16 (ninS ne_b8_b12 nin0)))
    have F94_b8_furtherBack := F91_b8_furtherBack.keep K94c (ninS ne_b8_b19 (ninS ne_b8_b16 (ninS ne_b8_b12 nin0)))
    have F94_b8_frontedAt := F91_b8_frontedAt.keep K94c (ninS ne_b8_b19 (ninS ne_b8_b16 (ninS ne_b8_b12 nin0)))
    have E94_b12 := E91_b12.keep K94c
    have E94_b16 := E91_b16.keep K94c
    have E94_b19 := E91_b19.keep K94c
    obtain ⟨cq95, kq95, q95a, q95b, q95c⟩ := isOf hZ17 rfl E94_b16
    obtain ⟨_, _, ⟨T95, L95, k95, n95⟩, -, X95, ⟨Lc95, hQ95, l95, y95, z95⟩, st95⟩ := X94.virtualBack hx (y := (⟨"com/example/unhurried_reaper/unhurriedreaper/Task", "furtherBack", "()Lcom/example/unhurried_reaper/unhurriedreaper/Task;"⟩ : MethodName)) (z := (⟨"com/example/unhurried_reaper/unhurriedreaper/Task", "furtherBack", "()Lcom/example/unhurried_reaper/unhurriedreaper/Task;"⟩ : MethodName)) hown17 (mvT hZ17 (hw _ (List.mem_of_getElem? (i := 104) rfl))) (mvT hZ17 (hw _ (List.mem_of_getElem? (i := 94) rfl))) (notFace_of_selects (args := #[]) (mvT hZ17 (hw _ (List.mem_of_getElem? (i := 96) rfl)))) (mvT hZ17 (hw _ (List.mem_of_getElem? (i := 96) rfl))) (mvT hZ17 (hw _ (List.mem_of_getElem? (i := 95) rfl))) (by decide) (backOf (W := 0) (rm12R l Z a0 hw [] b16 b12 T94.heap n0 (Nat.le_trans (Nat.le_trans (Nat.le_trans (Nat.le_trans (Nat.le_trans (Nat.le_trans (Nat.le_trans (Nat.le_trans (Nat.le_trans (Nat.le_trans (Nat.le_trans (Nat.le_trans (Nat.le_trans (Nat.le_trans (Nat.le_trans (Nat.le_trans (Nat.le_trans (Nat.le_trans (Nat.le_trans (Nat.le_trans (Nat.le_trans (Nat.le_trans Z0 E3.1) E4.1) E5.1) K6c.1) (Keep.of_wr W7).1) E8.1) E9.1) K10c.1) (Keep.of_wr W11).1) E12.1) E13.1) K14c.1) (Keep.of_wr W15).1) E16.1) E17.1) K18c.1) E19.1) K22c.1) K85c.1) K87c.1) K91c.1) K94c.1) F94_b16_furtherBack) hZ17 (hw _ (List.mem_of_getElem? (i := 97) rfl)) (hw _ (List.mem_of_getElem? (i := 4) rfl)) (by decide) (by decide)) q95a q95c (g := (mkF m 237 #[.val (.int p1), .val (.int p2), .val (.int (3 : Int32)), .val (.int (2 : Int32)), .val (.ref b3), .val (.ref b16), .val (.ref b19), .val (.ref b4), .val (.int (0 : Int32)), .val (.int (1 : Int32)), .val (.ref b12), .val (.ref b8), .val (.int (1 : Int32))] [(.ref b16)])) rfl (by rw [hml]; rfl) (Steps.refl _) (argsL := []) (rest := []) (lenOf pd_1 rfl) rfl (by show 2 * 0 + _ ≤ _; exact Nat.le_of_eq rfl) (hb hby at_237) (fun _ _ => ⟨rfl, rfl, (by decide : 18 + 0 ≤ _), (by decide : 69 + 0 ≤ _)⟩)
    dsimp only [Pt.U, Pt.locs, Pt.cells, Pt.slots] at X95 l95 y95 z95 st95 hQ95
    subst l95 y95 z95
    obtain ⟨rfl, N95q, eh95⟩ := hQ95
    have N95 := Fr.app N94 N95q
    obtain ⟨cq96, kq96, q96a, q96b, q96c⟩ := isOf hZ17 eh95 E94_b12
    obtain ⟨_, _, ⟨T96, L96, k96, n96⟩, -, X96, ⟨Lc96, hQ96, l96, y96, z96⟩, st96⟩ := X95.virtualBack hx (y := (⟨"com/example/unhurried_reaper/unhurriedreaper/Task", "nearerFront", "()Lcom/example/unhurried_reaper/unhurriedreaper/Task;"⟩ : MethodName)) (z := (⟨"com/example/unhurried_reaper/unhurriedreaper/Task", "nearerFront", "()Lcom/example/unhurried_reaper/unhurriedreaper/Task;"⟩ : MethodName)) hown17 (mvT hZ17 (hw _ (List.mem_of_getElem? (i := 103) rfl))) (mvT hZ17 (hw _ (List.mem_of_getElem? (i := 66) rfl))) (notFace_of_selects (args := #[]) (mvT hZ17 (hw _ (List.mem_of_getElem? (i := 68) rfl)))) (mvT hZ17 (hw _ (List.mem_of_getElem? (i := 68) rfl))) (mvT hZ17 (hw _ (List.mem_of_getElem? (i := 67) rfl))) (by decide) (backOf (W := 0) (rm8R l Z a0 hw [] b12 b16 T94.heap n0 (Nat.le_trans (Nat.le_trans (Nat.le_trans (Nat.le_trans (Nat.le_trans (Nat.le_trans (Nat.le_trans (Nat.le_trans (Nat.le_trans (Nat.le_trans (Nat.le_trans (Nat.le_trans (Nat.le_trans (Nat.le_trans (Nat.le_trans (Nat.le_trans (Nat.le_trans (Nat.le_trans (Nat.le_trans (Nat.le_trans (Nat.le_trans (Nat.le_trans Z0 E3.1) E4.1) E5.1) K6c.1) (Keep.of_wr W7).1) E8.1) E9.1) K10c.1) (Keep.of_wr W11).1) E12.1) E13.1) K14c.1) (Keep.of_wr W15).1) E16.1) E17.1) K18c.1) E19.1) K22c.1) K85c.1) K87c.1) K91c.1) K94c.1) F94_b12_nearerFront) hZ17 (hw _ (List.mem_of_getElem? (i := 69) rfl)) (hw _ (List.mem_of_getElem? (i := 4) rfl)) (by decide) (by decide)) q96a q96c (g := (mkF m 264 #[.val (.int p1), .val (.int p2), .val (.int (3 : Int32)), .val (.int (2 : Int32)), .val (.ref b3), .val (.ref b16), .val (.ref b19), .val (.ref b4), .val (.int (0 : Int32)), .val (.int (1 : Int32)), .val (.ref b12), .val (.ref b8), .val (.int (1 : Int32))] [(.ref b12)])) rfl (by rw [hml]; rfl) (Steps.refl _) (argsL := []) (rest := []) (lenOf pd_1 rfl) rfl (by show 2 * 0 + _ ≤ _; exact Nat.le_of_eq rfl) (hb hby at_264) (fun _ _ => ⟨rfl, eh95, (by decide : 18 + 0 ≤ _), (by decide : 69 + 0 ≤ _)⟩)
    dsimp only [Pt.U, Pt.locs, Pt.cells, Pt.slots] at X96 l96 y96 z96 st96 hQ96
    subst l96 y96 z96
    obtain ⟨rfl, N96q, eh96⟩ := hQ96
    have N96 := Fr.app N95 N96q
    obtain ⟨cq97, kq97, q97a, q97b, q97c⟩ := isOf hZ17 eh96 E94_b12
    obtain ⟨_, _, ⟨T97, L97, k97, n97⟩, -, X97, ⟨Lc97, hQ97, l97, y97, z97⟩, st97⟩ := X96.virtualBack hx (y := (⟨"com/example/unhurried_reaper/unhurriedreaper/Task", "furtherBack", "()Lcom/example/unhurried_reaper/unhurriedreaper/Task;"⟩ : MethodName)) (z := (⟨"com/example/unhurried_reaper/unhurriedreaper/Task", "furtherBack", "()Lcom/example/unhurried_reaper/unhurriedreaper/Task;"⟩ : MethodName)) hown17 (mvT hZ17 (hw _ (List.mem_of_getElem? (i := 104) rfl))) (mvT hZ17 (hw _ (List.mem_of_getElem? (i := 94) rfl))) (notFace_of_selects (args := #[]) (mvT hZ17 (hw _ (List.mem_of_getElem? (i := 96) rfl)))) (mvT hZ17 (hw _ (List.mem_of_getElem? (i := 96) rfl))) (mvT hZ17 (hw _ (List.mem_of_getElem? (i := 95) rfl))) (by decide) (backOf (W := 0) (rm12R l Z a0 hw [] b12 b8 T94.heap n0 (Nat.le_trans (Nat.le_trans (Nat.le_trans (Nat.le_trans (Nat.le_trans (Nat.le_trans (Nat.le_trans (Nat.le_trans (Nat.le_trans (Nat.le_trans (Nat.le_trans (Nat.le_trans (Nat.le_trans (Nat.le_trans (Nat.le_trans (Nat.le_trans (Nat.le_trans (Nat.le_trans (Nat.le_trans (Nat.le_trans (Nat.le_trans (Nat.le_trans Z0 E3.1) E4.1) E5.1) K6c.1) (Keep.of_wr W7).1) E8.1) E9.1) K10c.1) (Keep.of_wr W11).1) E12.1) E13.1) K14c.1) (Keep.of_wr W15).1) E16.1) E17.1) K18c.1) E19.1) K22c.1) K85c.1) K87c.1) K91c.1) K94c.1) F94_b12_furtherBack) hZ17 (hw _ (List.mem_of_getElem? (i := 97) rfl)) (hw _ (List.mem_of_getElem? (i := 4) rfl)) (by decide) (by decide)) q97a q97c (g := (mkF m 274 #[.val (.int p1), .val (.int p2), .val (.int (3 : Int32)), .val (.int (2 : Int32)), .val (.ref b3), .val (.ref b16), .val (.ref b19), .val (.ref b4), .val (.int (0 : Int32)), .val (.int (1 : Int32)), .val (.ref b12), .val (.ref b8), .val (.int (1 : Int32))] [(.ref b12)])) rfl (by rw [hml]; rfl) (Steps.refl _) (argsL := []) (rest := []) (lenOf pd_1 rfl) rfl (by show 2 * 0 + _ ≤ _; exact Nat.le_of_eq rfl) (hb hby at_274) (fun _ _ => ⟨rfl, eh96, (by decide : 18 + 0 ≤ _), (by decide : 69 + 0 ≤ _)⟩)
    dsimp only [Pt.U, Pt.locs, Pt.cells, Pt.slots] at X97 l97 y97 z97 st97 hQ97
    subst l97 y97 z97
    obtain ⟨rfl, N97q, eh97⟩ := hQ97
    have N97 := Fr.app N96 N97q
    obtain ⟨cq98, kq98, q98a, q98b, q98c⟩ := isOf hZ17 eh97 E94_b8
    obtain ⟨_, _, ⟨T98, L98, k98, n98⟩, -, X98, ⟨Lc98, hQ98, l98, y98, z98⟩, st98⟩ := X97.virtualBack hx (y := (⟨"com/example/unhurried_reaper/unhurriedreaper/Task", "nearerFront", "()Lcom/example/unhurried_reaper/unhurriedreaper/Task;"⟩ : MethodName)) (z := (⟨"com/example/unhurried_reaper/unhurriedreaper/Task", "nearerFront", "()Lcom/example/unhurried_reaper/unhurriedreaper/Task;"⟩ : MethodName)) hown17 (mvT hZ17 (hw _ (List.mem_of_getElem? (i := 103) rfl))) (mvT hZ17 (hw _ (List.mem_of_getElem? (i := 66) rfl))) (notFace_of_selects (args := #[]) (mvT hZ17 (hw _ (List.mem_of_getElem? (i := 68) rfl)))) (mvT hZ17 (hw _ (List.mem_of_getElem? (i := 68) rfl))) (mvT hZ17 (hw _ (List.mem_of_getElem? (i := 67) rfl))) (by decide) (backOf (W := 0) (rm8R l Z a0 hw [] b8 b12 T94.heap n0 (Nat.le_trans (Nat.le_trans (Nat.le_trans (Nat.le_trans (Nat.le_trans (Nat.le_trans (Nat.le_trans (Nat.le_trans (Nat.le_trans (Nat.le_trans (Nat.le_trans (Nat.le_trans (Nat.le_trans (Nat.le_trans (Nat.le_trans (Nat.le_trans (Nat.le_trans (Nat.le_trans (Nat.le_trans (Nat.le_trans (Nat.le_trans (Nat.le_trans Z0 E3.1) E4.1) E5.1) K6c.1) (Keep.of_wr W7).1) E8.1) E9.1) K10c.1) (Keep.of_wr W11).1) E12.1) E13.1) K14c.1) (Keep.of_wr W15).1) E16.1) E17.1) K18c.1) E19.1) K22c.1) K85c.1) K87c.1) K91c.1) K94c.1) F94_b8_nearerFront) hZ17 (hw _ (List.mem_of_getElem? (i := 69) rfl)) (hw _ (List.mem_of_getElem? (i := 4) rfl)) (by decide) (by decide)) q98a q98c (g := (mkF m 301 #[.val (.int p1), .val (.int p2), .val (.int (3 : Int32)), .val (.int (2 : Int32)), .val (.ref b3), .val (.ref b16), .val (.ref b19), .val (.ref b4), .val (.int (0 : Int32)), .val (.int (1 : Int32)), .val (.ref b12), .val (.ref b8), .val (.int (1 : Int32))] [(.ref b8)])) rfl (by rw [hml]; rfl) (Steps.refl _) (argsL := []) (rest := []) (lenOf pd_1 rfl) rfl (by show 2 * 0 + _ ≤ _; exact Nat.le_of_eq rfl) (hb hby at_301) (fun _ _ => ⟨rfl, eh97, (by decide : 18 + 0 ≤ _), (by decide : 69 + 0 ≤ _)⟩)
    dsimp only [Pt.U, Pt.locs, Pt.cells, Pt.slots] at X98 l98 y98 z98 st98 hQ98
    subst l98 y98 z98
    obtain ⟨rfl, N98q, eh98⟩ := hQ98
    have N98 := Fr.app N97 N98q
    obtain ⟨cq99, kq99, q99a, q99b, q99c⟩ := isOf hZ17 eh98 E94_b8
    obtain ⟨_, _, ⟨T99, L99, k99, n99⟩, -, X99, ⟨Lc99, hQ99, l99, y99, z99⟩, st99⟩ := X98.virtualBack hx (y := (⟨"com/example/unhurried_reaper/unhurriedreaper/Task", "furtherBack", "()Lcom/example/unhurried_reaper/unhurriedreaper/Task;"⟩ : MethodName)) (z := (⟨"com/example/unhurried_reaper/unhurriedreaper/Task", "furtherBack", "()Lcom/example/unhurried_reaper/unhurriedreaper/Task;"⟩ : MethodName)) hown17 (mvT hZ17 (hw _ (List.mem_of_getElem? (i := 104) rfl))) (mvT hZ17 (hw _ (List.mem_of_getElem? (i := 94) rfl))) (notFace_of_selects (args := #[]) (mvT hZ17 (hw _ (List.mem_of_getElem? (i := 96) rfl)))) (mvT hZ17 (hw _ (List.mem_of_getElem? (i := 96) rfl))) (mvT hZ17 (hw _ (List.mem_of_getElem? (i := 95) rfl))) (by decide) (backOf (W := 0) (rm12N l Z a0 hw [] b8 T94.heap n0 (Nat.le_trans (Nat.le_trans (Nat.le_trans (Nat.le_trans (Nat.le_trans (Nat.le_trans (Nat.le_trans (Nat.le_trans (Nat.le_trans (Nat.le_trans (Nat.le_trans (Nat.le_trans (Nat.le_trans (Nat.le_trans (Nat.le_trans (Nat.le_trans (Nat.le_trans (Nat.le_trans (Nat.le_trans (Nat.le_trans (Nat.le_trans (Nat.le_trans Z0 E3.1) E4.1) E5.1) K6c.1) (Keep.of_wr W7).1) E8.1) E9.1) K10c.1) (Keep.of_wr W11).1) E12.1) E13.1) K14c.1) (Keep.of_wr W15).1) E16.1) E17.1) K18c.1) E19.1) K22c.1) K85c.1) K87c.1) K91c.1) K94c.1) F94_b8_furtherBack) hZ17 (hw _ (List.mem_of_getElem? (i := 97) rfl)) (hw _ (List.mem_of_getElem? (i := 4) rfl)) (by decide) (by decide)) q99a q99c (g := (mkF m 311 #[.val (.int p1), .val (.int p2), .val (.int (3 : Int32)), .val (.int (2 : Int32)), .val (.ref b3), .val (.ref b16), .val (.ref b19), .val (.ref b4), .val (.int (0 : Int32)), .val (.int (1 : Int32)), .val (.ref b12), .val (.ref b8), .val (.int (1 : Int32))] [(.ref b8)])) rfl (by rw [hml]; rfl) (Steps.refl _) (argsL := []) (rest := []) (lenOf pd_1 rfl) rfl (by show 2 * 0 + _ ≤ _; exact Nat.le_of_eq rfl) (hb hby at_311) (fun _ _ => ⟨rfl, eh98, (by decide : 18 + 0 ≤ _), (by decide : 69 + 0 ≤ _)⟩)
    dsimp only [Pt.U, Pt.locs, Pt.cells, Pt.slots] at X99 l99 y99 z99 st99 hQ99
    subst l99 y99 z99
    obtain ⟨rfl, N99q, eh99⟩ := hQ99
    have N99 := Fr.app N98 N99q
    obtain ⟨fs, hr, hrun, hended, hRW⟩ := X99.leaveW hS17 (by rw [eh99]; exact (Nat.le_trans (Nat.le_trans (Nat.le_trans (Nat.le_trans (Nat.le_trans (Nat.le_trans (Nat.le_trans hk17 K18c.1) E19.1) K22c.1) K85c.1) K87c.1) K91c.1) K94c.1)) (v := some (.int (1 : Int32))) (fun h => by rw [Bd.returns] at h; cases h)
    refine ⟨_, _, go23 _ ?_, hrun, hended, _, _, rfl, ?_, ⟨hRW.1, hRW.2.1, hRW.2.2.1, hRW.2.2.2.mono (by decide) (by decide)⟩⟩
    · show Steps p.tables e below (T22.setTop (mkF m 90 #[.val (.int p1), .val (.int p2), .val (.int (3 : Int32)), .val (.int (2 : Int32)), .val (.ref b3), .val (.ref b16), .val (.ref b19), .unset, .unset, .unset, .unset, .unset, .unset] [])) _
      refine XS.iloadN X22.here hx rfl (hb hby at_90) rfl ?_
      show Steps p.tables e below (T22.setTop (mkF m 91 #[.val (.int p1), .val (.int p2), .val (.int (3 : Int32)), .val (.int (2 : Int32)), .val (.ref b3), .val (.ref b16), .val (.ref b19), .unset, .unset, .unset, .unset, .unset, .unset] [(.int (3 : Int32))])) _
      refine XS.iconst X22.here hx rfl (hb hby at_91) ?_
      show Steps p.tables e below (T22.setTop (mkF m 92 #[.val (.int p1), .val (.int p2), .val (.int (3 : Int32)), .val (.int (2 : Int32)), .val (.ref b3), .val (.ref b16), .val (.ref b19), .unset, .unset, .unset, .unset, .unset, .unset] [(.int (2 : Int32)), (.int (3 : Int32))])) _
      refine XS.icmpNo X22.here hx rfl (hb hby at_92) rfl (flt (by decide)).1 ?_
      show Steps p.tables e below (T22.setTop (mkF m 95 #[.val (.int p1), .val (.int p2), .val (.int (3 : Int32)), .val (.int (2 : Int32)), .val (.ref b3), .val (.ref b16), .val (.ref b19), .unset, .unset, .unset, .unset, .unset, .unset] [])) _
      refine XS.aload X22.here hx rfl (hb hby at_95) rfl rfl ?_
      show Steps p.tables e below (T22.setTop (mkF m 97 #[.val (.int p1), .val (.int p2), .val (.int (3 : Int32)), .val (.int (2 : Int32)), .val (.ref b3), .val (.ref b16), .val (.ref b19), .unset, .unset, .unset, .unset, .unset, .unset] [(.ref b19)])) _
      refine XS.aload X22.here hx rfl (hb hby at_97) rfl rfl ?_
      show Steps p.tables e below (T22.setTop (mkF m 99 #[.val (.int p1), .val (.int p2), .val (.int (3 : Int32)), .val (.int (2 : Int32)), .val (.ref b3), .val (.ref b16), .val (.ref b19), .unset, .unset, .unset, .unset, .unset, .unset] [(.ref b3), (.ref b19)])) _
      refine XS.iconst X22.here hx rfl (hb hby at_99) ?_
      show Steps p.tables e below (T22.setTop (mkF m 100 #[.val (.int p1), .val (.int p2), .val (.int (3 : Int32)), .val (.int (2 : Int32)), .val (.ref b3), .val (.ref b16), .val (.ref b19), .unset, .unset, .unset, .unset, .unset, .unset] [(.int (1 : Int32)), (.ref b3), (.ref b19)])) _
      refine X22.aaload hx (j := (1 : Int32)) (v := (.ref b8)) Ar84.1 (State.isArrayOf_alike hZ17.alike Ar84.2.1) rfl Ar84.2.2 hin84 hat84 (g := (mkF m 100 #[.val (.int p1), .val (.int p2), .val (.int (3 : Int32)), .val (.int (2 : Int32)), .val (.ref b3), .val (.ref b16), .val (.ref b19), .unset, .unset, .unset, .unset, .unset, .unset] [(.int (1 : Int32)), (.ref b3), (.ref b19)])) rfl rfl (hb hby at_100) _ ?_
      show Steps p.tables e below (T22.setTop (mkF m 101 #[.val (.int p1), .val (.int p2), .val (.int (3 : Int32)), .val (.int (2 : Int32)), .val (.ref b3), .val (.ref b16), .val (.ref b19), .unset, .unset, .unset, .unset, .unset, .unset] [(.ref b8), (.ref b19)])) _
      refine st85.trans ?_
      show Steps p.tables e below (T85.setTop (mkF m 104 #[.val (.int p1), .val (.int p2), .val (.int (3 : Int32)), .val (.int (2 : Int32)), .val (.ref b3), .val (.ref b16), .val (.ref b19), .unset, .unset, .unset, .unset, .unset, .unset] [])) _
      refine XS.iloadN X85.here hx rfl (hb hby at_104) rfl ?_
      show Steps p.tables e below (T85.setTop (mkF m 105 #[.val (.int p1), .val (.int p2), .val (.int (3 : Int32)), .val (.int (2 : Int32)), .val (.ref b3), .val (.ref b16), .val (.ref b19), .unset, .unset, .unset, .unset, .unset, .unset] [(.int (3 : Int32))])) _
      refine XS.iconst X85.here hx rfl (hb hby at_105) ?_
      show Steps p.tables e below (T85.setTop (mkF m 106 #[.val (.int p1), .val (.int p2), .val (.int (3 : Int32)), .val (.int (2 : Int32)), .val (.ref b3), .val (.ref b16), .val (.ref b19), .unset, .unset, .unset, .unset, .unset, .unset] [(.int (3 : Int32)), (.int (3 : Int32))])) _
      refine XS.icmpNo X85.here hx rfl (hb hby at_106) rfl (flt (by decide)).1 ?_
      show Steps p.tables e below (T85.setTop (mkF m 109 #[.val (.int p1), .val (.int p2), .val (.int (3 : Int32)), .val (.int (2 : Int32)), .val (.ref b3), .val (.ref b16), .val (.ref b19), .unset, .unset, .unset, .unset, .unset, .unset] [])) _
      refine XS.aload X85.here hx rfl (hb hby at_109) rfl rfl ?_
      show Steps p.tables e below (T85.setTop (mkF m 111 #[.val (.int p1), .val (.int p2), .val (.int (3 : Int32)), .val (.int (2 : Int32)), .val (.ref b3), .val (.ref b16), .val (.ref b19), .unset, .unset, .unset, .unset, .unset, .unset] [(.ref b19)])) _
      refine XS.aload X85.here hx rfl (hb hby at_111) rfl rfl ?_
      show Steps p.tables e below (T85.setTop (mkF m 113 #[.val (.int p1), .val (.int p2), .val (.int (3 : Int32)), .val (.int (2 : Int32)), .val (.ref b3), .val (.ref b16), .val (.ref b19), .unset, .unset, .unset, .unset, .unset, .unset] [(.ref b3), (.ref b19)])) _
      refine XS.iconst X85.here hx rfl (hb hby at_113) ?_
      show Steps p.tables e below (T85.setTop (mkF m 114 #[.val (.int p1), .val (.int p2), .val (.int (3 : Int32)), .val (.int (2 : Int32)), .val (.ref b3), .val (.ref b16), .val (.ref b19), .unset, .unset, .unset, .unset, .unset, .unset] [(.int (2 : Int32)), (.ref b3), (.ref b19)])) _
      refine X85.aaload hx (j := (2 : Int32)) (v := (.ref b12)) Ar86.1 (State.isArrayOf_alike hZ17.alike Ar86.2.1) rfl Ar86.2.2 hin86 hat86 (g := (mkF m 114 #[.val (.int p1), .val (.int p2), .val (.int (3 : Int32)), .val (.int (2 : Int32)), .val (.ref b3), .val (.ref b16), .val (.ref b19), .unset, .unset, .unset, .unset, .unset, .unset] [(.int (2 : Int32)), (.ref b3), (.ref b19)])) rfl rfl (hb hby at_114) _ ?_
      show Steps p.tables e below (T85.setTop (mkF m 115 #[.val (.int p1), .val (.int p2), .val (.int (3 : Int32)), .val (.int (2 : Int32)), .val (.ref b3), .val (.ref b16), .val (.ref b19), .unset, .unset, .unset, .unset, .unset, .unset] [(.ref b12), (.ref b19)])) _
      refine st87.trans ?_
      show Steps p.tables e below (T87.setTop (mkF m 118 #[.val (.int p1), .val (.int p2), .val (.int (3 : Int32)), .val (.int (2 : Int32)), .val (.ref b3), .val (.ref b16), .val (.ref b19), .unset, .unset, .unset, .unset, .unset, .unset] [])) _
      refine XS.aload X87.here hx rfl (hb hby at_118) rfl rfl ?_
      show Steps p.tables e below (T87.setTop (mkF m 120 #[.val (.int p1), .val (.int p2), .val (.int (3 : Int32)), .val (.int (2 : Int32)), .val (.ref b3), .val (.ref b16), .val (.ref b19), .unset, .unset, .unset, .unset, .unset, .unset] [(.ref b3)])) _
      refine XS.iloadN X87.here hx rfl (hb hby at_120) rfl ?_
      show Steps p.tables e below (T87.setTop (mkF m 121 #[.val (.int p1), .val (.int p2), .val (.int (3 : Int32)), .val (.int (2 : Int32)), .val (.ref b3), .val (.ref b16), .val (.ref b19), .unset, .unset, .unset, .unset, .unset, .unset] [(.int (3 : Int32)), (.ref b3)])) _
      refine XS.iconst X87.here hx rfl (hb hby at_121) ?_
      show Steps p.tables e below (T87.setTop (mkF m 122 #[.val (.int p1), .val (.int p2), .val (.int (3 : Int32)), .val (.int (2 : Int32)), .val (.ref b3), .val (.ref b16), .val (.ref b19), .unset, .unset, .unset, .unset, .unset, .unset] [(.int (1 : Int32)), (.int (3 : Int32)), (.ref b3)])) _
      refine XS.isub X87.here hx rfl (hb hby at_122) rfl ?_
      show Steps p.tables e below (T87.setTop (mkF m 123 #[.val (.int p1), .val (.int p2), .val (.int (3 : Int32)), .val (.int (2 : Int32)), .val (.ref b3), .val (.ref b16), .val (.ref b19), .unset, .unset, .unset, .unset, .unset, .unset] [(.int ((3 : Int32) - (1 : Int32))), (.ref b3)])) _
      refine XS.iloadN X87.here hx rfl (hb hby at_123) rfl ?_
      show Steps p.tables e below (T87.setTop (mkF m 124 #[.val (.int p1), .val (.int p2), .val (.int (3 : Int32)), .val (.int (2 : Int32)), .val (.ref b3), .val (.ref b16), .val (.ref b19), .unset, .unset, .unset, .unset, .unset, .unset] [(.int (2 : Int32)), (.int ((3 : Int32) - (1 : Int32))), (.ref b3)])) _
      refine XS.isub X87.here hx rfl (hb hby at_124) rfl ?_
      show Steps p.tables e below (T87.setTop (mkF m 125 #[.val (.int p1), .val (.int p2), .val (.int (3 : Int32)), .val (.int (2 : Int32)), .val (.ref b3), .val (.ref b16), .val (.ref b19), .unset, .unset, .unset, .unset, .unset, .unset] [(.int (((3 : Int32) - (1 : Int32)) - (2 : Int32))), (.ref b3)])) _
      refine X87.aaload hx (j := (((3 : Int32) - (1 : Int32)) - (2 : Int32))) (v := (.ref b4)) Ar88.1 (State.isArrayOf_alike hZ17.alike Ar88.2.1) rfl Ar88.2.2 hin88 hat88 (g := (mkF m 125 #[.val (.int p1), .val (.int p2), .val (.int (3 : Int32)), .val (.int (2 : Int32)), .val (.ref b3), .val (.ref b16), .val (.ref b19), .unset, .unset, .unset, .unset, .unset, .unset] [(.int (((3 : Int32) - (1 : Int32)) - (2 : Int32))), (.ref b3)])) rfl rfl (hb hby at_125) _ ?_
      show Steps p.tables e below (T87.setTop (mkF m 126 #[.val (.int p1), .val (.int p2), .val (.int (3 : Int32)), .val (.int (2 : Int32)), .val (.ref b3), .val (.ref b16), .val (.ref b19), .unset, .unset, .unset, .unset, .unset, .unset] [(.ref b4)])) _
      refine XS.astore X87.here hx rfl (hb hby at_126) rfl rfl (l' := #[.val (.int p1), .val (.int p2), .val (.int (3 : Int32)), .val (.int (2 : Int32)), .val (.ref b3), .val (.ref b16), .val (.ref b19), .val (.ref b4), .unset, .unset, .unset, .unset, .unset]) rfl ?_
      show Steps p.tables e below (T87.setTop (mkF m 128 #[.val (.int p1), .val (.int p2), .val (.int (3 : Int32)), .val (.int (2 : Int32)), .val (.ref b3), .val (.ref b16), .val (.ref b19), .val (.ref b4), .unset, .unset, .unset, .unset, .unset] [])) _
      refine XS.iloadN X87.here hx rfl (hb hby at_128) rfl ?_
      show Steps p.tables e below (T87.setTop (mkF m 129 #[.val (.int p1), .val (.int p2), .val (.int (3 : Int32)), .val (.int (2 : Int32)), .val (.ref b3), .val (.ref b16), .val (.ref b19), .val (.ref b4), .unset, .unset, .unset, .unset, .unset] [(.int (2 : Int32))])) _
      refine XS.ifYes X87.here hx rfl (pc0 := 129) (pc' := 136) rfl (hb hby at_129) rfl ((if0 _ _).trans (feq (by decide)).2) (by decide) (by decide) ?_
      show Steps p.tables e below (T87.setTop (mkF m 136 #[.val (.int p1), .val (.int p2), .val (.int (3 : Int32)), .val (.int (2 : Int32)), .val (.ref b3), .val (.ref b16), .val (.ref b19), .val (.ref b4), .unset, .unset, .unset, .unset, .unset] [])) _
      refine XS.iconst X87.here hx rfl (hb hby at_136) ?_
      show Steps p.tables e below (T87.setTop (mkF m 137 #[.val (.int p1), .val (.int p2), .val (.int (3 : Int32)), .val (.int (2 : Int32)), .val (.ref b3), .val (.ref b16), .val (.ref b19), .val (.ref b4), .unset, .unset, .unset, .unset, .unset] [(.int (0 : Int32))])) _
      refine XS.istore X87.here hx rfl (hb hby at_137) rfl (l' := #[.val (.int p1), .val (.int p2), .val (.int (3 : Int32)), .val (.int (2 : Int32)), .val (.ref b3), .val (.ref b16), .val (.ref b19), .val (.ref b4), .val (.int (0 : Int32)), .unset, .unset, .unset, .unset]) rfl ?_
      show Steps p.tables e below (T87.setTop (mkF m 139 #[.val (.int p1), .val (.int p2), .val (.int (3 : Int32)), .val (.int (2 : Int32)), .val (.ref b3), .val (.ref b16), .val (.ref b19), .val (.ref b4), .val (.int (0 : Int32)), .unset, .unset, .unset, .unset] [])) _
      refine XS.iloadN X87.here hx rfl (hb hby at_139) rfl ?_
      show Steps p.tables e below (T87.setTop (mkF m 140 #[.val (.int p1), .val (.int p2), .val (.int (3 : Int32)), .val (.int (2 : Int32)), .val (.ref b3), .val (.ref b16), .val (.ref b19), .val (.ref b4), .val (.int (0 : Int32)), .unset, .unset, .unset, .unset] [(.int (2 : Int32))])) _
      refine XS.iconst X87.here hx rfl (hb hby at_140) ?_
      show Steps p.tables e below (T87.setTop (mkF m 141 #[.val (.int p1), .val (.int p2), .val (.int (3 : Int32)), .val (.int (2 : Int32)), .val (.ref b3), .val (.ref b16), .val (.ref b19), .val (.ref b4), .val (.int (0 : Int32)), .unset, .unset, .unset, .unset] [(.int (1 : Int32)), (.int (2 : Int32))])) _
      refine XS.icmpYes X87.here hx rfl (pc0 := 141) (pc' := 148) rfl (hb hby at_141) rfl (tlt (by decide)).2.2.1 (by decide) (by decide) ?_
      show Steps p.tables e below (T87.setTop (mkF m 148 #[.val (.int p1), .val (.int p2), .val (.int (3 : Int32)), .val (.int (2 : Int32)), .val (.ref b3), .val (.ref b16), .val (.ref b19), .val (.ref b4), .val (.int (0 : Int32)), .unset, .unset, .unset, .unset] [])) _
      refine XS.iconst X87.here hx rfl (hb hby at_148) ?_
      show Steps p.tables e below (T87.setTop (mkF m 149 #[.val (.int p1), .val (.int p2), .val (.int (3 : Int32)), .val (.int (2 : Int32)), .val (.ref b3), .val (.ref b16), .val (.ref b19), .val (.ref b4), .val (.int (0 : Int32)), .unset, .unset, .unset, .unset] [(.int (1 : Int32))])) _
      refine XS.istore X87.here hx rfl (hb hby at_149) rfl (l' := #[.val (.int p1), .val (.int p2), .val (.int (3 : Int32)), .val (.int (2 : Int32)), .val (.ref b3), .val (.ref b16), .val (.ref b19), .val (.ref b4), .val (.int (0 : Int32)), .val (.int (1 : Int32)), .unset, .unset, .unset]) rfl ?_
      show Steps p.tables e below (T87.setTop (mkF m 151 #[.val (.int p1), .val (.int p2), .val (.int (3 : Int32)), .val (.int (2 : Int32)), .val (.ref b3), .val (.ref b16), .val (.ref b19), .val (.ref b4), .val (.int (0 : Int32)), .val (.int (1 : Int32)), .unset, .unset, .unset] [])) _
      refine XS.iload X87.here hx rfl (hb hby at_151) rfl ?_
      show Steps p.tables e below (T87.setTop (mkF m 153 #[.val (.int p1), .val (.int p2), .val (.int (3 : Int32)), .val (.int (2 : Int32)), .val (.ref b3), .val (.ref b16), .val (.ref b19), .val (.ref b4), .val (.int (0 : Int32)), .val (.int (1 : Int32)), .unset, .unset, .unset] [(.int (0 : Int32))])) _
      refine XS.iloadN X87.here hx rfl (hb hby at_153) rfl ?_
      show Steps p.tables e below (T87.setTop (mkF m 154 #[.val (.int p1), .val (.int p2), .val (.int (3 : Int32)), .val (.int (2 : Int32)), .val (.ref b3), .val (.ref b16), .val (.ref b19), .val (.ref b4), .val (.int (0 : Int32)), .val (.int (1 : Int32)), .unset, .unset, .unset] [(.int (3 : Int32)), (.int (0 : Int32))])) _
      refine XS.icmpNo X87.here hx rfl (hb hby at_154) rfl (tlt (by decide)).2.1 ?_
      show Steps p.tables e below (T87.setTop (mkF m 157 #[.val (.int p1), .val (.int p2), .val (.int (3 : Int32)), .val (.int (2 : Int32)), .val (.ref b3), .val (.ref b16), .val (.ref b19), .val (.ref b4), .val (.int (0 : Int32)), .val (.int (1 : Int32)), .unset, .unset, .unset] [])) _
      refine XS.aload X87.here hx rfl (hb hby at_157) rfl rfl ?_
      show Steps p.tables e below (T87.setTop (mkF m 159 #[.val (.int p1), .val (.int p2), .val (.int (3 : Int32)), .val (.int (2 : Int32)), .val (.ref b3), .val (.ref b16), .val (.ref b19), .val (.ref b4), .val (.int (0 : Int32)), .val (.int (1 : Int32)), .unset, .unset, .unset] [(.ref b3)])) _
      refine XS.iloadN X87.here hx rfl (hb hby at_159) rfl ?_
      show Steps p.tables e below (T87.setTop (mkF m 160 #[.val (.int p1), .val (.int p2), .val (.int (3 : Int32)), .val (.int (2 : Int32)), .val (.ref b3), .val (.ref b16), .val (.ref b19), .val (.ref b4), .val (.int (0 : Int32)), .val (.int (1 : Int32)), .unset, .unset, .unset] [(.int (3 : Int32)), (.ref b3)])) _
      refine XS.iconst X87.here hx rfl (hb hby at_160) ?_
      show Steps p.tables e below (T87.setTop (mkF m 161 #[.val (.int p1), .val (.int p2), .val (.int (3 : Int32)), .val (.int (2 : Int32)), .val (.ref b3), .val (.ref b16), .val (.ref b19), .val (.ref b4), .val (.int (0 : Int32)), .val (.int (1 : Int32)), .unset, .unset, .unset] [(.int (1 : Int32)), (.int (3 : Int32)), (.ref b3)])) _
      refine XS.isub X87.here hx rfl (hb hby at_161) rfl ?_
      show Steps p.tables e below (T87.setTop (mkF m 162 #[.val (.int p1), .val (.int p2), .val (.int (3 : Int32)), .val (.int (2 : Int32)), .val (.ref b3), .val (.ref b16), .val (.ref b19), .val (.ref b4), .val (.int (0 : Int32)), .val (.int (1 : Int32)), .unset, .unset, .unset] [(.int ((3 : Int32) - (1 : Int32))), (.ref b3)])) _
      refine XS.iload X87.here hx rfl (hb hby at_162) rfl ?_
      show Steps p.tables e below (T87.setTop (mkF m 164 #[.val (.int p1), .val (.int p2), .val (.int (3 : Int32)), .val (.int (2 : Int32)), .val (.ref b3), .val (.ref b16), .val (.ref b19), .val (.ref b4), .val (.int (0 : Int32)), .val (.int (1 : Int32)), .unset, .unset, .unset] [(.int (0 : Int32)), (.int ((3 : Int32) - (1 : Int32))), (.ref b3)])) _
      refine XS.isub X87.here hx rfl (hb hby at_164) rfl ?_
      show Steps p.tables e below (T87.setTop (mkF m 165 #[.val (.int p1), .val (.int p2), .val (.int (3 : Int32)), .val (.int (2 : Int32)), .val (.ref b3), .val (.ref b16), .val (.ref b19), .val (.ref b4), .val (.int (0 : Int32)), .val (.int (1 : Int32)), .unset, .unset, .unset] [(.int (((3 : Int32) - (1 : Int32)) - (0 : Int32))), (.ref b3)])) _
      refine X87.aaload hx (j := (((3 : Int32) - (1 : Int32)) - (0 : Int32))) (v := (.ref b12)) Ar89.1 (State.isArrayOf_alike hZ17.alike Ar89.2.1) rfl Ar89.2.2 hin89 hat89 (g := (mkF m 165 #[.val (.int p1), .val (.int p2), .val (.int (3 : Int32)), .val (.int (2 : Int32)), .val (.ref b3), .val (.ref b16), .val (.ref b19), .val (.ref b4), .val (.int (0 : Int32)), .val (.int (1 : Int32)), .unset, .unset, .unset] [(.int (((3 : Int32) - (1 : Int32)) - (0 : Int32))), (.ref b3)])) rfl rfl (hb hby at_165) _ ?_
      show Steps p.tables e below (T87.setTop (mkF m 166 #[.val (.int p1), .val (.int p2), .val (.int (3 : Int32)), .val (.int (2 : Int32)), .val (.ref b3), .val (.ref b16), .val (.ref b19), .val (.ref b4), .val (.int (0 : Int32)), .val (.int (1 : Int32)), .unset, .unset, .unset] [(.ref b12)])) _
      refine XS.goto X87.here hx rfl (pc0 := 166) (pc' := 170) rfl (hb hby at_166) (by decide) (by decide) ?_
      show Steps p.tables e below (T87.setTop (mkF m 170 #[.val (.int p1), .val (.int p2), .val (.int (3 : Int32)), .val (.int (2 : Int32)), .val (.ref b3), .val (.ref b16), .val (.ref b19), .val (.ref b4), .val (.int (0 : Int32)), .val (.int (1 : Int32)), .unset, .unset, .unset] [(.ref b12)])) _
      refine XS.astore X87.here hx rfl (hb hby at_170) rfl rfl (l' := #[.val (.int p1), .val (.int p2), .val (.int (3 : Int32)), .val (.int (2 : Int32)), .val (.ref b3), .val (.ref b16), .val (.ref b19), .val (.ref b4), .val (.int (0 : Int32)), .val (.int (1 : Int32)), .val (.ref b12), .unset, .unset]) rfl ?_
      show Steps p.tables e below (T87.setTop (mkF m 172 #[.val (.int p1), .val (.int p2), .val (.int (3 : Int32)), .val (.int (2 : Int32)), .val (.ref b3), .val (.ref b16), .val (.ref b19), .val (.ref b4), .val (.int (0 : Int32)), .val (.int (1 : Int32)), .val (.ref b12), .unset, .unset] [])) _
      refine XS.iload X87.here hx rfl (hb hby at_172) rfl ?_
      show Steps p.tables e below (T87.setTop (mkF m 174 #[.val (.int p1), .val (.int p2), .val (.int (3 : Int32)), .val (.int (2 : Int32)), .val (.ref b3), .val (.ref b16), .val (.ref b19), .val (.ref b4), .val (.int (0 : Int32)), .val (.int (1 : Int32)), .val (.ref b12), .unset, .unset] [(.int (1 : Int32))])) _
      refine XS.iloadN X87.here hx rfl (hb hby at_174) rfl ?_
      show Steps p.tables e below (T87.setTop (mkF m 175 #[.val (.int p1), .val (.int p2), .val (.int (3 : Int32)), .val (.int (2 : Int32)), .val (.ref b3), .val (.ref b16), .val (.ref b19), .val (.ref b4), .val (.int (0 : Int32)), .val (.int (1 : Int32)), .val (.ref b12), .unset, .unset] [(.int (3 : Int32)), (.int (1 : Int32))])) _
      refine XS.icmpNo X87.here hx rfl (hb hby at_175) rfl (tlt (by decide)).2.1 ?_
      show Steps p.tables e below (T87.setTop (mkF m 178 #[.val (.int p1), .val (.int p2), .val (.int (3 : Int32)), .val (.int (2 : Int32)), .val (.ref b3), .val (.ref b16), .val (.ref b19), .val (.ref b4), .val (.int (0 : Int32)), .val (.int (1 : Int32)), .val (.ref b12), .unset, .unset] [])) _
      refine XS.aload X87.here hx rfl (hb hby at_178) rfl rfl ?_
      show Steps p.tables e below (T87.setTop (mkF m 180 #[.val (.int p1), .val (.int p2), .val (.int (3 : Int32)), .val (.int (2 : Int32)), .val (.ref b3), .val (.ref b16), .val (.ref b19), .val (.ref b4), .val (.int (0 : Int32)), .val (.int (1 : Int32)), .val (.ref b12), .unset, .unset] [(.ref b3)])) _
      refine XS.iloadN X87.here hx rfl (hb hby at_180) rfl ?_
      show Steps p.tables e below (T87.setTop (mkF m 181 #[.val (.int p1), .val (.int p2), .val (.int (3 : Int32)), .val (.int (2 : Int32)), .val (.ref b3), .val (.ref b16), .val (.ref b19), .val (.ref b4), .val (.int (0 : Int32)), .val (.int (1 : Int32)), .val (.ref b12), .unset, .unset] [(.int (3 : Int32)), (.ref b3)])) _
      refine XS.iconst X87.here hx rfl (hb hby at_181) ?_
      show Steps p.tables e below (T87.setTop (mkF m 182 #[.val (.int p1), .val (.int p2), .val (.int (3 : Int32)), .val (.int (2 : Int32)), .val (.ref b3), .val (.ref b16), .val (.ref b19), .val (.ref b4), .val (.int (0 : Int32)), .val (.int (1 : Int32)), .val (.ref b12), .unset, .unset] [(.int (1 : Int32)), (.int (3 : Int32)), (.ref b3)])) _
      refine XS.isub X87.here hx rfl (hb hby at_182) rfl ?_
      show Steps p.tables e below (T87.setTop (mkF m 183 #[.val (.int p1), .val (.int p2), .val (.int (3 : Int32)), .val (.int (2 : Int32)), .val (.ref b3), .val (.ref b16), .val (.ref b19), .val (.ref b4), .val (.int (0 : Int32)), .val (.int (1 : Int32)), .val (.ref b12), .unset, .unset] [(.int ((3 : Int32) - (1 : Int32))), (.ref b3)])) _
      refine XS.iload X87.here hx rfl (hb hby at_183) rfl ?_
      show Steps p.tables e below (T87.setTop (mkF m 185 #[.val (.int p1), .val (.int p2), .val (.int (3 : Int32)), .val (.int (2 : Int32)), .val (.ref b3), .val (.ref b16), .val (.ref b19), .val (.ref b4), .val (.int (0 : Int32)), .val (.int (1 : Int32)), .val (.ref b12), .unset, .unset] [(.int (1 : Int32)), (.int ((3 : Int32) - (1 : Int32))), (.ref b3)])) _
      refine XS.isub X87.here hx rfl (hb hby at_185) rfl ?_
      show Steps p.tables e below (T87.setTop (mkF m 186 #[.val (.int p1), .val (.int p2), .val (.int (3 : Int32)), .val (.int (2 : Int32)), .val (.ref b3), .val (.ref b16), .val (.ref b19), .val (.ref b4), .val (.int (0 : Int32)), .val (.int (1 : Int32)), .val (.ref b12), .unset, .unset] [(.int (((3 : Int32) - (1 : Int32)) - (1 : Int32))), (.ref b3)])) _
      refine X87.aaload hx (j := (((3 : Int32) - (1 : Int32)) - (1 : Int32))) (v := (.ref b8)) Ar90.1 (State.isArrayOf_alike hZ17.alike Ar90.2.1) rfl Ar90.2.2 hin90 hat90 (g := (mkF m 186 #[.val (.int p1), .val (.int p2), .val (.int (3 : Int32)), .val (.int (2 : Int32)), .val (.ref b3), .val (.ref b16), .val (.ref b19), .val (.ref b4), .val (.int (0 : Int32)), .val (.int (1 : Int32)), .val (.ref b12), .unset, .unset] [(.int (((3 : Int32) - (1 : Int32)) - (1 : Int32))), (.ref b3)])) rfl rfl (hb hby at_186) _ ?_
      show Steps p.tables e below (T87.setTop (mkF m 187 #[.val (.int p1), .val (.int p2), .val (.int (3 : Int32)), .val (.int (2 : Int32)), .val (.ref b3), .val (.ref b16), .val (.ref b19), .val (.ref b4), .val (.int (0 : Int32)), .val (.int (1 : Int32)), .val (.ref b12), .unset, .unset] [(.ref b8)])) _
      refine XS.goto X87.here hx rfl (pc0 := 187) (pc' := 191) rfl (hb hby at_187) (by decide) (by decide) ?_
      show Steps p.tables e below (T87.setTop (mkF m 191 #[.val (.int p1), .val (.int p2), .val (.int (3 : Int32)), .val (.int (2 : Int32)), .val (.ref b3), .val (.ref b16), .val (.ref b19), .val (.ref b4), .val (.int (0 : Int32)), .val (.int (1 : Int32)), .val (.ref b12), .unset, .unset] [(.ref b8)])) _
      refine XS.astore X87.here hx rfl (hb hby at_191) rfl rfl (l' := #[.val (.int p1), .val (.int p2), .val (.int (3 : Int32)), .val (.int (2 : Int32)), .val (.ref b3), .val (.ref b16), .val (.ref b19), .val (.ref b4), .val (.int (0 : Int32)), .val (.int (1 : Int32)), .val (.ref b12), .val (.ref b8), .unset]) rfl ?_
      show Steps p.tables e below (T87.setTop (mkF m 193 #[.val (.int p1), .val (.int p2), .val (.int (3 : Int32)), .val (.int (2 : Int32)), .val (.ref b3), .val (.ref b16), .val (.ref b19), .val (.ref b4), .val (.int (0 : Int32)), .val (.int (1 : Int32)), .val (.ref b12), .val (.ref b8), .unset] [])) _
      refine XS.aload X87.here hx rfl (hb hby at_193) rfl rfl ?_
      show Steps p.tables e below (T87.setTop (mkF m 195 #[.val (.int p1), .val (.int p2), .val (.int (3 : Int32)), .val (.int (2 : Int32)), .val (.ref b3), .val (.ref b16), .val (.ref b19), .val (.ref b4), .val (.int (0 : Int32)), .val (.int (1 : Int32)), .val (.ref b12), .val (.ref b8), .unset] [(.ref b19)])) _
      refine XS.aload X87.here hx rfl (hb hby at_195) rfl rfl ?_
      show Steps p.tables e below (T87.setTop (mkF m 197 #[.val (.int p1), .val (.int p2), .val (.int (3 : Int32)), .val (.int (2 : Int32)), .val (.ref b3), .val (.ref b16), .val (.ref b19), .val (.ref b4), .val (.int (0 : Int32)), .val (.int (1 : Int32)), .val (.ref b12), .val (.ref b8), .unset] [(.ref b4), (.ref b19)])) _
      refine st91.trans ?_
      show Steps p.tables e below (T91.setTop (mkF m 200 #[.val (.int p1), .val (.int p2), .val (.int (3 : Int32)), .val (.int (2 : Int32)), .val (.ref b3), .val (.ref b16), .val (.ref b19), .val (.ref b4), .val (.int (0 : Int32)), .val (.int (1 : Int32)), .val (.ref b12), .val (.ref b8), .unset] [])) _
      refine XS.aload X91.here hx rfl (hb hby at_200) rfl rfl ?_
      show Steps p.tables e below (T91.setTop (mkF m 202 #[.val (.int p1), .val (.int p2), .val (.int (3 : Int32)), .val (.int (2 : Int32)), .val (.ref b3), .val (.ref b16), .val (.ref b19), .val (.ref b4), .val (.int (0 : Int32)), .val (.int (1 : Int32)), .val (.ref b12), .val (.ref b8), .unset] [(.ref b4)])) _
      refine st92.trans ?_
      show Steps p.tables e below (T92.setTop (mkF m 205 #[.val (.int p1), .val (.int p2), .val (.int (3 : Int32)), .val (.int (2 : Int32)), .val (.ref b3), .val (.ref b16), .val (.ref b19), .val (.ref b4), .val (.int (0 : Int32)), .val (.int (1 : Int32)), .val (.ref b12), .val (.ref b8), .unset] [.null])) _
      refine XS.ifnonnullNo X92.here hx rfl (hb hby at_205) rfl ?_
      show Steps p.tables e below (T92.setTop (mkF m 208 #[.val (.int p1), .val (.int p2), .val (.int (3 : Int32)), .val (.int (2 : Int32)), .val (.ref b3), .val (.ref b16), .val (.ref b19), .val (.ref b4), .val (.int (0 : Int32)), .val (.int (1 : Int32)), .val (.ref b12), .val (.ref b8), .unset] [])) _
      refine XS.aload X92.here hx rfl (hb hby at_208) rfl rfl ?_
      show Steps p.tables e below (T92.setTop (mkF m 210 #[.val (.int p1), .val (.int p2), .val (.int (3 : Int32)), .val (.int (2 : Int32)), .val (.ref b3), .val (.ref b16), .val (.ref b19), .val (.ref b4), .val (.int (0 : Int32)), .val (.int (1 : Int32)), .val (.ref b12), .val (.ref b8), .unset] [(.ref b4)])) _
      refine st93.trans ?_
      show Steps p.tables e below (T93.setTop (mkF m 213 #[.val (.int p1), .val (.int p2), .val (.int (3 : Int32)), .val (.int (2 : Int32)), .val (.ref b3), .val (.ref b16), .val (.ref b19), .val (.ref b4), .val (.int (0 : Int32)), .val (.int (1 : Int32)), .val (.ref b12), .val (.ref b8), .unset] [.null])) _
      refine XS.ifnonnullNo X93.here hx rfl (hb hby at_213) rfl ?_
      show Steps p.tables e below (T93.setTop (mkF m 216 #[.val (.int p1), .val (.int p2), .val (.int (3 : Int32)), .val (.int (2 : Int32)), .val (.ref b3), .val (.ref b16), .val (.ref b19), .val (.ref b4), .val (.int (0 : Int32)), .val (.int (1 : Int32)), .val (.ref b12), .val (.ref b8), .unset] [])) _
      refine XS.iconst X93.here hx rfl (hb hby at_216) ?_
      show Steps p.tables e below (T93.setTop (mkF m 217 #[.val (.int p1), .val (.int p2), .val (.int (3 : Int32)), .val (.int (2 : Int32)), .val (.ref b3), .val (.ref b16), .val (.ref b19), .val (.ref b4), .val (.int (0 : Int32)), .val (.int (1 : Int32)), .val (.ref b12), .val (.ref b8), .unset] [(.int (1 : Int32))])) _
      refine XS.goto X93.here hx rfl (pc0 := 217) (pc' := 221) rfl (hb hby at_217) (by decide) (by decide) ?_
      show Steps p.tables e below (T93.setTop (mkF m 221 #[.val (.int p1), .val (.int p2), .val (.int (3 : Int32)), .val (.int (2 : Int32)), .val (.ref b3), .val (.ref b16), .val (.ref b19), .val (.ref b4), .val (.int (0 : Int32)), .val (.int (1 : Int32)), .val (.ref b12), .val (.ref b8), .unset] [(.int (1 : Int32))])) _
      refine XS.istore X93.here hx rfl (hb hby at_221) rfl (l' := #[.val (.int p1), .val (.int p2), .val (.int (3 : Int32)), .val (.int (2 : Int32)), .val (.ref b3), .val (.ref b16), .val (.ref b19), .val (.ref b4), .val (.int (0 : Int32)), .val (.int (1 : Int32)), .val (.ref b12), .val (.ref b8), .val (.int (1 : Int32))]) rfl ?_
      show Steps p.tables e below (T93.setTop (mkF m 223 #[.val (.int p1), .val (.int p2), .val (.int (3 : Int32)), .val (.int (2 : Int32)), .val (.ref b3), .val (.ref b16), .val (.ref b19), .val (.ref b4), .val (.int (0 : Int32)), .val (.int (1 : Int32)), .val (.ref b12), .val (.ref b8), .val (.int (1 : Int32))] [])) _
      refine XS.aload X93.here hx rfl (hb hby at_223) rfl rfl ?_
      show Steps p.tables e below (T93.setTop (mkF m 225 #[.val (.int p1), .val (.int p2), .val (.int (3 : Int32)), .val (.int (2 : Int32)), .val (.ref b3), .val (.ref b16), .val (.ref b19), .val (.ref b4), .val (.int (0 : Int32)), .val (.int (1 : Int32)), .val (.ref b12), .val (.ref b8), .val (.int (1 : Int32))] [(.ref b19)])) _
      refine XS.aload X93.here hx rfl (hb hby at_225) rfl rfl ?_
      show Steps p.tables e below (T93.setTop (mkF m 227 #[.val (.int p1), .val (.int p2), .val (.int (3 : Int32)), .val (.int (2 : Int32)), .val (.ref b3), .val (.ref b16), .val (.ref b19), .val (.ref b4), .val (.int (0 : Int32)), .val (.int (1 : Int32)), .val (.ref b12), .val (.ref b8), .val (.int (1 : Int32))] [(.ref b16), (.ref b19)])) _
      refine st94.trans ?_
      show Steps p.tables e below (T94.setTop (mkF m 230 #[.val (.int p1), .val (.int p2), .val (.int (3 : Int32)), .val (.int (2 : Int32)), .val (.ref b3), .val (.ref b16), .val (.ref b19), .val (.ref b4), .val (.int (0 : Int32)), .val (.int (1 : Int32)), .val (.ref b12), .val (.ref b8), .val (.int (1 : Int32))] [])) _
      refine XS.iload X94.here hx rfl (hb hby at_230) rfl ?_
      show Steps p.tables e below (T94.setTop (mkF m 232 #[.val (.int p1), .val (.int p2), .val (.int (3 : Int32)), .val (.int (2 : Int32)), .val (.ref b3), .val (.ref b16), .val (.ref b19), .val (.ref b4), .val (.int (0 : Int32)), .val (.int (1 : Int32)), .val (.ref b12), .val (.ref b8), .val (.int (1 : Int32))] [(.int (1 : Int32))])) _
      refine XS.ifNo X94.here hx rfl (hb hby at_232) rfl ((if0 _ _).trans (feq (by decide)).1) ?_
      show Steps p.tables e below (T94.setTop (mkF m 235 #[.val (.int p1), .val (.int p2), .val (.int (3 : Int32)), .val (.int (2 : Int32)), .val (.ref b3), .val (.ref b16), .val (.ref b19), .val (.ref b4), .val (.int (0 : Int32)), .val (.int (1 : Int32)), .val (.ref b12), .val (.ref b8), .val (.int (1 : Int32))] [])) _
      refine XS.aload X94.here hx rfl (hb hby at_235) rfl rfl ?_
      show Steps p.tables e below (T94.setTop (mkF m 237 #[.val (.int p1), .val (.int p2), .val (.int (3 : Int32)), .val (.int (2 : Int32)), .val (.ref b3), .val (.ref b16), .val (.ref b19), .val (.ref b4), .val (.int (0 : Int32)), .val (.int (1 : Int32)), .val (.ref b12), .val (.ref b8), .val (.int (1 : Int32))] [(.ref b16)])) _
      refine st95.trans ?_
      show Steps p.tables e below (T95.setTop (mkF m 240 #[.val (.int p1), .val (.int p2), .val (.int (3 : Int32)), .val (.int (2 : Int32)), .val (.ref b3), .val (.ref b16), .val (.ref b19), .val (.ref b4), .val (.int (0 : Int32)), .val (.int (1 : Int32)), .val (.ref b12), .val (.ref b8), .val (.int (1 : Int32))] [(.ref b12)])) _
      refine XS.aload X95.here hx rfl (hb hby at_240) rfl rfl ?_
      show Steps p.tables e below (T95.setTop (mkF m 242 #[.val (.int p1), .val (.int p2), .val (.int (3 : Int32)), .val (.int (2 : Int32)), .val (.ref b3), .val (.ref b16), .val (.ref b19), .val (.ref b4), .val (.int (0 : Int32)), .val (.int (1 : Int32)), .val (.ref b12), .val (.ref b8), .val (.int (1 : Int32))] [(.ref b12), (.ref b12)])) _
      refine Jvm.RoadKit.acmp (g := (mkF m 242 #[.val (.int p1), .val (.int p2), .val (.int (3 : Int32)), .val (.int (2 : Int32)), .val (.ref b3), .val (.ref b16), .val (.ref b19), .val (.ref b4), .val (.int (0 : Int32)), .val (.int (1 : Int32)), .val (.ref b12), .val (.ref b8), .val (.int (1 : Int32))] [(.ref b12), (.ref b12)])) X95 hx rfl rfl rfl (pc0 := 242) (pc' := 245) (same := true) rfl (hb hby at_242) rfl (decide_eq_true rfl) (by decide) (by decide) ?_
      show Steps p.tables e below (T95.setTop (mkF m 245 #[.val (.int p1), .val (.int p2), .val (.int (3 : Int32)), .val (.int (2 : Int32)), .val (.ref b3), .val (.ref b16), .val (.ref b19), .val (.ref b4), .val (.int (0 : Int32)), .val (.int (1 : Int32)), .val (.ref b12), .val (.ref b8), .val (.int (1 : Int32))] [])) _
      refine XS.iconst X95.here hx rfl (hb hby at_245) ?_
      show Steps p.tables e below (T95.setTop (mkF m 246 #[.val (.int p1), .val (.int p2), .val (.int (3 : Int32)), .val (.int (2 : Int32)), .val (.ref b3), .val (.ref b16), .val (.ref b19), .val (.ref b4), .val (.int (0 : Int32)), .val (.int (1 : Int32)), .val (.ref b12), .val (.ref b8), .val (.int (1 : Int32))] [(.int (1 : Int32))])) _
      refine XS.goto X95.here hx rfl (pc0 := 246) (pc' := 250) rfl (hb hby at_246) (by decide) (by decide) ?_
      show Steps p.tables e below (T95.setTop (mkF m 250 #[.val (.int p1), .val (.int p2), .val (.int (3 : Int32)), .val (.int (2 : Int32)), .val (.ref b3), .val (.ref b16), .val (.ref b19), .val (.ref b4), .val (.int (0 : Int32)), .val (.int (1 : Int32)), .val (.ref b12), .val (.ref b8), .val (.int (1 : Int32))] [(.int (1 : Int32))])) _
      refine XS.istore X95.here hx rfl (hb hby at_250) rfl (l' := #[.val (.int p1), .val (.int p2), .val (.int (3 : Int32)), .val (.int (2 : Int32)), .val (.ref b3), .val (.ref b16), .val (.ref b19), .val (.ref b4), .val (.int (0 : Int32)), .val (.int (1 : Int32)), .val (.ref b12), .val (.ref b8), .val (.int (1 : Int32))]) rfl ?_
      show Steps p.tables e below (T95.setTop (mkF m 252 #[.val (.int p1), .val (.int p2), .val (.int (3 : Int32)), .val (.int (2 : Int32)), .val (.ref b3), .val (.ref b16), .val (.ref b19), .val (.ref b4), .val (.int (0 : Int32)), .val (.int (1 : Int32)), .val (.ref b12), .val (.ref b8), .val (.int (1 : Int32))] [])) _
      refine XS.aload X95.here hx rfl (hb hby at_252) rfl rfl ?_
      show Steps p.tables e below (T95.setTop (mkF m 254 #[.val (.int p1), .val (.int p2), .val (.int (3 : Int32)), .val (.int (2 : Int32)), .val (.ref b3), .val (.ref b16), .val (.ref b19), .val (.ref b4), .val (.int (0 : Int32)), .val (.int (1 : Int32)), .val (.ref b12), .val (.ref b8), .val (.int (1 : Int32))] [(.ref b12)])) _
      refine XS.ifnullNo X95.here hx rfl (hb hby at_254) rfl ?_
      show Steps p.tables e below (T95.setTop (mkF m 257 #[.val (.int p1), .val (.int p2), .val (.int (3 : Int32)), .val (.int (2 : Int32)), .val (.ref b3), .val (.ref b16), .val (.ref b19), .val (.ref b4), .val (.int (0 : Int32)), .val (.int (1 : Int32)), .val (.ref b12), .val (.ref b8), .val (.int (1 : Int32))] [])) _
      refine XS.iload X95.here hx rfl (hb hby at_257) rfl ?_
      show Steps p.tables e below (T95.setTop (mkF m 259 #[.val (.int p1), .val (.int p2), .val (.int (3 : Int32)), .val (.int (2 : Int32)), .val (.ref b3), .val (.ref b16), .val (.ref b19), .val (.ref b4), .val (.int (0 : Int32)), .val (.int (1 : Int32)), .val (.ref b12), .val (.ref b8), .val (.int (1 : Int32))] [(.int (1 : Int32))])) _
      refine XS.ifNo X95.here hx rfl (hb hby at_259) rfl ((if0 _ _).trans (feq (by decide)).1) ?_
      show Steps p.tables e below (T95.setTop (mkF m 262 #[.val (.int p1), .val (.int p2), .val (.int (3 : Int32)), .val (.int (2 : Int32)), .val (.ref b3), .val (.ref b16), .val (.ref b19), .val (.ref b4), .val (.int (0 : Int32)), .val (.int (1 : Int32)), .val (.ref b12), .val (.ref b8), .val (.int (1 : Int32))] [])) _
      refine XS.aload X95.here hx rfl (hb hby at_262) rfl rfl ?_
      show Steps p.tables e below (T95.setTop (mkF m 264 #[.val (.int p1), .val (.int p2), .val (.int (3 : Int32)), .val (.int (2 : Int32)), .val (.ref b3), .val (.ref b16), .val (.ref b19), .val (.ref b4), .val (.int (0 : Int32)), .val (.int (1 : Int32)), .val (.ref b12), .val (.ref b8), .val (.int (1 : Int32))] [(.ref b12)])) _
      refine st96.trans ?_
      show Steps p.tables e below (T96.setTop (mkF m 267 #[.val (.int p1), .val (.int p2), .val (.int (3 : Int32)), .val (.int (2 : Int32)), .val (.ref b3), .val (.ref b16), .val (.ref b19), .val (.ref b4), .val (.int (0 : Int32)), .val (.int (1 : Int32)), .val (.ref b12), .val (.ref b8), .val (.int (1 : Int32))] [(.ref b16)])) _
      refine XS.aload X96.here hx rfl (hb hby at_267) rfl rfl ?_
      show Steps p.tables e below (T96.setTop (mkF m 269 #[.val (.int p1), .val (.int p2), .val (.int (3 : Int32)), .val (.int (2 : Int32)), .val (.ref b3), .val (.ref b16), .val (.ref b19), .val (.ref b4), .val (.int (0 : Int32)), .val (.int (1 : Int32)), .val (.ref b12), .val (.ref b8), .val (.int (1 : Int32))] [(.ref b16), (.ref b16)])) _
      refine Jvm.RoadKit.acmp (g := (mkF m 269 #[.val (.int p1), .val (.int p2), .val (.int (3 : Int32)), .val (.int (2 : Int32)), .val (.ref b3), .val (.ref b16), .val (.ref b19), .val (.ref b4), .val (.int (0 : Int32)), .val (.int (1 : Int32)), .val (.ref b12), .val (.ref b8), .val (.int (1 : Int32))] [(.ref b16), (.ref b16)])) X96 hx rfl rfl rfl (pc0 := 269) (pc' := 272) (same := true) rfl (hb hby at_269) rfl (decide_eq_true rfl) (by decide) (by decide) ?_
      show Steps p.tables e below (T96.setTop (mkF m 272 #[.val (.int p1), .val (.int p2), .val (.int (3 : Int32)), .val (.int (2 : Int32)), .val (.ref b3), .val (.ref b16), .val (.ref b19), .val (.ref b4), .val (.int (0 : Int32)), .val (.int (1 : Int32)), .val (.ref b12), .val (.ref b8), .val (.int (1 : Int32))] [])) _
      refine XS.aload X96.here hx rfl (hb hby at_272) rfl rfl ?_
      show Steps p.tables e below (T96.setTop (mkF m 274 #[.val (.int p1), .val (.int p2), .val (.int (3 : Int32)), .val (.int (2 : Int32)), .val (.ref b3), .val (.ref b16), .val (.ref b19), .val (.ref b4), .val (.int (0 : Int32)), .val (.int (1 : Int32)), .val (.ref b12), .val (.ref b8), .val (.int (1 : Int32))] [(.ref b12)])) _
      refine st97.trans ?_
      show Steps p.tables e below (T97.setTop (mkF m 277 #[.val (.int p1), .val (.int p2), .val (.int (3 : Int32)), .val (.int (2 : Int32)), .val (.ref b3), .val (.ref b16), .val (.ref b19), .val (.ref b4), .val (.int (0 : Int32)), .val (.int (1 : Int32)), .val (.ref b12), .val (.ref b8), .val (.int (1 : Int32))] [(.ref b8)])) _
      refine XS.aload X97.here hx rfl (hb hby at_277) rfl rfl ?_
      show Steps p.tables e below (T97.setTop (mkF m 279 #[.val (.int p1), .val (.int p2), .val (.int (3 : Int32)), .val (.int (2 : Int32)), .val (.ref b3), .val (.ref b16), .val (.ref b19), .val (.ref b4), .val (.int (0 : Int32)), .val (.int (1 : Int32)), .val (.ref b12), .val (.ref b8), .val (.int (1 : Int32))] [(.ref b8), (.ref b8)])) _
      refine Jvm.RoadKit.acmp (g := (mkF m 279 #[.val (.int p1), .val (.int p2), .val (.int (3 : Int32)), .val (.int (2 : Int32)), .val (.ref b3), .val (.ref b16), .val (.ref b19), .val (.ref b4), .val (.int (0 : Int32)), .val (.int (1 : Int32)), .val (.ref b12), .val (.ref b8), .val (.int (1 : Int32))] [(.ref b8), (.ref b8)])) X97 hx rfl rfl rfl (pc0 := 279) (pc' := 282) (same := true) rfl (hb hby at_279) rfl (decide_eq_true rfl) (by decide) (by decide) ?_
      show Steps p.tables e below (T97.setTop (mkF m 282 #[.val (.int p1), .val (.int p2), .val (.int (3 : Int32)), .val (.int (2 : Int32)), .val (.ref b3), .val (.ref b16), .val (.ref b19), .val (.ref b4), .val (.int (0 : Int32)), .val (.int (1 : Int32)), .val (.ref b12), .val (.ref b8), .val (.int (1 : Int32))] [])) _
      refine XS.iconst X97.here hx rfl (hb hby at_282) ?_
      show Steps p.tables e below (T97.setTop (mkF m 283 #[.val (.int p1), .val (.int p2), .val (.int (3 : Int32)), .val (.int (2 : Int32)), .val (.ref b3), .val (.ref b16), .val (.ref b19), .val (.ref b4), .val (.int (0 : Int32)), .val (.int (1 : Int32)), .val (.ref b12), .val (.ref b8), .val (.int (1 : Int32))] [(.int (1 : Int32))])) _
      refine XS.goto X97.here hx rfl (pc0 := 283) (pc' := 287) rfl (hb hby at_283) (by decide) (by decide) ?_
      show Steps p.tables e below (T97.setTop (mkF m 287 #[.val (.int p1), .val (.int p2), .val (.int (3 : Int32)), .val (.int (2 : Int32)), .val (.ref b3), .val (.ref b16), .val (.ref b19), .val (.ref b4), .val (.int (0 : Int32)), .val (.int (1 : Int32)), .val (.ref b12), .val (.ref b8), .val (.int (1 : Int32))] [(.int (1 : Int32))])) _
      refine XS.istore X97.here hx rfl (hb hby at_287) rfl (l' := #[.val (.int p1), .val (.int p2), .val (.int (3 : Int32)), .val (.int (2 : Int32)), .val (.ref b3), .val (.ref b16), .val (.ref b19), .val (.ref b4), .val (.int (0 : Int32)), .val (.int (1 : Int32)), .val (.ref b12), .val (.ref b8), .val (.int (1 : Int32))]) rfl ?_
      show Steps p.tables e below (T97.setTop (mkF m 289 #[.val (.int p1), .val (.int p2), .val (.int (3 : Int32)), .val (.int (2 : Int32)), .val (.ref b3), .val (.ref b16), .val (.ref b19), .val (.ref b4), .val (.int (0 : Int32)), .val (.int (1 : Int32)), .val (.ref b12), .val (.ref b8), .val (.int (1 : Int32))] [])) _
      refine XS.aload X97.here hx rfl (hb hby at_289) rfl rfl ?_
      show Steps p.tables e below (T97.setTop (mkF m 291 #[.val (.int p1), .val (.int p2), .val (.int (3 : Int32)), .val (.int (2 : Int32)), .val (.ref b3), .val (.ref b16), .val (.ref b19), .val (.ref b4), .val (.int (0 : Int32)), .val (.int (1 : Int32)), .val (.ref b12), .val (.ref b8), .val (.int (1 : Int32))] [(.ref b8)])) _
      refine XS.ifnullNo X97.here hx rfl (hb hby at_291) rfl ?_
      show Steps p.tables e below (T97.setTop (mkF m 294 #[.val (.int p1), .val (.int p2), .val (.int (3 : Int32)), .val (.int (2 : Int32)), .val (.ref b3), .val (.ref b16), .val (.ref b19), .val (.ref b4), .val (.int (0 : Int32)), .val (.int (1 : Int32)), .val (.ref b12), .val (.ref b8), .val (.int (1 : Int32))] [])) _
      refine XS.iload X97.here hx rfl (hb hby at_294) rfl ?_
      show Steps p.tables e below (T97.setTop (mkF m 296 #[.val (.int p1), .val (.int p2), .val (.int (3 : Int32)), .val (.int (2 : Int32)), .val (.ref b3), .val (.ref b16), .val (.ref b19), .val (.ref b4), .val (.int (0 : Int32)), .val (.int (1 : Int32)), .val (.ref b12), .val (.ref b8), .val (.int (1 : Int32))] [(.int (1 : Int32))])) _
      refine XS.ifNo X97.here hx rfl (hb hby at_296) rfl ((if0 _ _).trans (feq (by decide)).1) ?_
      show Steps p.tables e below (T97.setTop (mkF m 299 #[.val (.int p1), .val (.int p2), .val (.int (3 : Int32)), .val (.int (2 : Int32)), .val (.ref b3), .val (.ref b16), .val (.ref b19), .val (.ref b4), .val (.int (0 : Int32)), .val (.int (1 : Int32)), .val (.ref b12), .val (.ref b8), .val (.int (1 : Int32))] [])) _
      refine XS.aload X97.here hx rfl (hb hby at_299) rfl rfl ?_
      show Steps p.tables e below (T97.setTop (mkF m 301 #[.val (.int p1), .val (.int p2), .val (.int (3 : Int32)), .val (.int (2 : Int32)), .val (.ref b3), .val (.ref b16), .val (.ref b19), .val (.ref b4), .val (.int (0 : Int32)), .val (.int (1 : Int32)), .val (.ref b12), .val (.ref b8), .val (.int (1 : Int32))] [(.ref b8)])) _
      refine st98.trans ?_
      show Steps p.tables e below (T98.setTop (mkF m 304 #[.val (.int p1), .val (.int p2), .val (.int (3 : Int32)), .val (.int (2 : Int32)), .val (.ref b3), .val (.ref b16), .val (.ref b19), .val (.ref b4), .val (.int (0 : Int32)), .val (.int (1 : Int32)), .val (.ref b12), .val (.ref b8), .val (.int (1 : Int32))] [(.ref b12)])) _
      refine XS.aload X98.here hx rfl (hb hby at_304) rfl rfl ?_
      show Steps p.tables e below (T98.setTop (mkF m 306 #[.val (.int p1), .val (.int p2), .val (.int (3 : Int32)), .val (.int (2 : Int32)), .val (.ref b3), .val (.ref b16), .val (.ref b19), .val (.ref b4), .val (.int (0 : Int32)), .val (.int (1 : Int32)), .val (.ref b12), .val (.ref b8), .val (.int (1 : Int32))] [(.ref b12), (.ref b12)])) _
      refine Jvm.RoadKit.acmp (g := (mkF m 306 #[.val (.int p1), .val (.int p2), .val (.int (3 : Int32)), .val (.int (2 : Int32)), .val (.ref b3), .val (.ref b16), .val (.ref b19), .val (.ref b4), .val (.int (0 : Int32)), .val (.int (1 : Int32)), .val (.ref b12), .val (.ref b8), .val (.int (1 : Int32))] [(.ref b12), (.ref b12)])) X98 hx rfl rfl rfl (pc0 := 306) (pc' := 309) (same := true) rfl (hb hby at_306) rfl (decide_eq_true rfl) (by decide) (by decide) ?_
      show Steps p.tables e below (T98.setTop (mkF m 309 #[.val (.int p1), .val (.int p2), .val (.int (3 : Int32)), .val (.int (2 : Int32)), .val (.ref b3), .val (.ref b16), .val (.ref b19), .val (.ref b4), .val (.int (0 : Int32)), .val (.int (1 : Int32)), .val (.ref b12), .val (.ref b8), .val (.int (1 : Int32))] [])) _
      refine XS.aload X98.here hx rfl (hb hby at_309) rfl rfl ?_
      show Steps p.tables e below (T98.setTop (mkF m 311 #[.val (.int p1), .val (.int p2), .val (.int (3 : Int32)), .val (.int (2 : Int32)), .val (.ref b3), .val (.ref b16), .val (.ref b19), .val (.ref b4), .val (.int (0 : Int32)), .val (.int (1 : Int32)), .val (.ref b12), .val (.ref b8), .val (.int (1 : Int32))] [(.ref b8)])) _
      refine st99.trans ?_
      show Steps p.tables e below (T99.setTop (mkF m 314 #[.val (.int p1), .val (.int p2), .val (.int (3 : Int32)), .val (.int (2 : Int32)), .val (.ref b3), .val (.ref b16), .val (.ref b19), .val (.ref b4), .val (.int (0 : Int32)), .val (.int (1 : Int32)), .val (.ref b12), .val (.ref b8), .val (.int (1 : Int32))] [.null])) _
      refine XS.ifnonnullNo X99.here hx rfl (hb hby at_314) rfl ?_
      show Steps p.tables e below (T99.setTop (mkF m 317 #[.val (.int p1), .val (.int p2), .val (.int (3 : Int32)), .val (.int (2 : Int32)), .val (.ref b3), .val (.ref b16), .val (.ref b19), .val (.ref b4), .val (.int (0 : Int32)), .val (.int (1 : Int32)), .val (.ref b12), .val (.ref b8), .val (.int (1 : Int32))] [])) _
      refine XS.iconst X99.here hx rfl (hb hby at_317) ?_
      show Steps p.tables e below (T99.setTop (mkF m 318 #[.val (.int p1), .val (.int p2), .val (.int (3 : Int32)), .val (.int (2 : Int32)), .val (.ref b3), .val (.ref b16), .val (.ref b19), .val (.ref b4), .val (.int (0 : Int32)), .val (.int (1 : Int32)), .val (.ref b12), .val (.ref b8), .val (.int (1 : Int32))] [(.int (1 : Int32))])) _
      refine XS.goto X99.here hx rfl (pc0 := 318) (pc' := 322) rfl (hb hby at_318) (by decide) (by decide) ?_
      show Steps p.tables e below (T99.setTop (mkF m 322 #[.val (.int p1), .val (.int p2), .val (.int (3 : Int32)), .val (.int (2 : Int32)), .val (.ref b3), .val (.ref b16), .val (.ref b19), .val (.ref b4), .val (.int (0 : Int32)), .val (.int (1 : Int32)), .val (.ref b12), .val (.ref b8), .val (.int (1 : Int32))] [(.int (1 : Int32))])) _
      refine XS.istore X99.here hx rfl (hb hby at_322) rfl (l' := #[.val (.int p1), .val (.int p2), .val (.int (3 : Int32)), .val (.int (2 : Int32)), .val (.ref b3), .val (.ref b16), .val (.ref b19), .val (.ref b4), .val (.int (0 : Int32)), .val (.int (1 : Int32)), .val (.ref b12), .val (.ref b8), .val (.int (1 : Int32))]) rfl ?_
      show Steps p.tables e below (T99.setTop (mkF m 324 #[.val (.int p1), .val (.int p2), .val (.int (3 : Int32)), .val (.int (2 : Int32)), .val (.ref b3), .val (.ref b16), .val (.ref b19), .val (.ref b4), .val (.int (0 : Int32)), .val (.int (1 : Int32)), .val (.ref b12), .val (.ref b8), .val (.int (1 : Int32))] [])) _
      refine XS.iload X99.here hx rfl (hb hby at_324) rfl ?_
      show Steps p.tables e below (T99.setTop (mkF m 326 #[.val (.int p1), .val (.int p2), .val (.int (3 : Int32)), .val (.int (2 : Int32)), .val (.ref b3), .val (.ref b16), .val (.ref b19), .val (.ref b4), .val (.int (0 : Int32)), .val (.int (1 : Int32)), .val (.ref b12), .val (.ref b8), .val (.int (1 : Int32))] [(.int (1 : Int32))])) _
      exact retN X99 hx (t := .boolean) Bd.returns (by simp) (hb hby at_326) hr
    · show Q0 Z p1 h0 n0 _ T99.heap _
      rw [eh99]
      exact ⟨rfl, N99⟩
set_option maxRecDepth 65536 in
set_option maxHeartbeats 40000000 in
theorem comes_1 {Post : Tables → Env → Array Value → State → Outcome → State → Prop} (hpost : ∀ tb e args s v u, (limb_1_1.after args s (.returned v) u = true ∧ limb_1_2.after args s (.returned v) u = true ∧ True) → ReturnedEndW s (.returned v) u (Jvm.fieldLocs frame_1_writes args s ++ Jvm.arrayLocs frame_1_arrays args s ++ Jvm.staticLocs frame_1_statics s) 40 4288 → Post tb e args s (.returned v) u) :
    ArmFor flags0 classFile x code maxLocals ret World_1 tables_1 room_1 Calls_1 rest_1 Pre_1 Post := by
  intro l hfl _ _ p e ha hc hk s m args below hf hA hF happ hP
  obtain ⟨hcalls, hrest, hpre⟩ := hP
  obtain ⟨-, -, -, hnamed, -, -, -, hat⟩ := (Spec.applies_iff hf).mp happ
  obtain ⟨hg, hn⟩ := and_e (Cond.before_iff.mp (show (Jvm.Cond.and given_1 narrow_1).before args s = true from hpre))
  obtain ⟨hcnt, hg0⟩ := and_e hg
  obtain ⟨ga0, gb0⟩ := and_e hg0
  obtain ⟨w0, w1, rfl⟩ : ∃ w0 w1 : Value, args = #[w0, w1] := by
    have hs : args.size = 2 := by simpa [Cond.value, given_1] using hcnt
    obtain ⟨L⟩ := args
    match L, hs with
    | [w0, w1], _ => exact ⟨w0, w1, rfl⟩
  have hw := fun d (hd : d ∈ tables_1) => atoms_spec (ws := Jvm.Cond.code x code maxLocals ret :: tables_1) hat d (List.mem_cons_of_mem _ hd)
  obtain ⟨i0, ei0⟩ := is_v ga0
  obtain rfl : w0 = (.int i0) := Option.some.inj ei0
  obtain ⟨i1, ei1⟩ := is_v gb0
  obtain rfl : w1 = (.int i1) := Option.some.inj ei1
  obtain ⟨hsets, hown0⟩ := atoms_of _ (rest_1_c_eq ▸ (show rest_1_c.before _ s = true from hrest))
  obtain ⟨sd, esd⟩ := arr_v (Cond.before_iff.mp (hsets _ (List.mem_of_getElem? (i := 6) rfl)))
  have SD : Sta s s.heap "java/util/ArrayList" "DEFAULTCAPACITY_EMPTY_ELEMENTDATA" "[Ljava/lang/Object;" (.ref sd) := Sta.start esd (Or.inr ⟨hw _ (List.mem_of_getElem? (i := 21) rfl), hsets _ (List.mem_of_getElem? (i := 2) rfl)⟩)
  obtain ⟨n, o, h1, h2, h3, _, L, rfl, ⟨rfl, N⟩, hq⟩ := rm0 l s _ hw tables_1 i0 i1 sd s.heap s.heap.size (Nat.le_refl _) (Old.start s) SD p e ha hc hk s m _ below hf ((Spec.applies_iff_loose hf).mp happ).1 ⟨rfl, State.Warmed39.refl s, rfl⟩ trivial
  refine ⟨n, _, h1, h2, h3, hpost _ _ _ _ _ _ ⟨Cond.after_iff.mpr rfl, Cond.after_iff.mpr (eq_i res_at (Term.int_eval (1)) rfl), trivial⟩ ⟨hq.1, hq.2.1, hq.2.2.1, (hq.2.2.2.sift fun y hy => Or.inr (N y hy)).mono (by decide) (by decide)⟩⟩
theorem main_1_1 : Claimed_1_1 := comes_1 fun _ _ _ _ _ _ h hF => ⟨h.1, hF⟩
theorem main_1_2 : Claimed_1_2 := comes_1 fun _ _ _ _ _ _ h hF => ⟨h.2.1, hF⟩
end Jvm.Pilot.@@N@@
namespace Jvm.Pilot.@@N@@
open Jvm Jvm.ClassFile Sem Op Lib Jvm.Free Jvm.Stand Jvm.Pilot.@@N@@.Jvm.D
/-! MADE BY PROGRAM (witnessworld.py) out of the Statement's table words and the real class files: 25 classes; the members and pool entries that the words name. The judged class is class 1, her method 1. -/
namespace start1
open Jvm.ClassFile
def u (s : String) : CpInfo := .utf8 (stringToUtf16 s)
/-- a pool by its gaps: so many unusable entries, then the entry; so many at the end -/
def gap : Nat → List CpInfo → List CpInfo
  | 0, r => r
  | n + 1, r => .unusable :: gap n r
def poolList (es : List (Nat × CpInfo)) (last : Nat) : List CpInfo := es.foldr (fun e r => gap e.1 (e.2 :: r)) (gap last [])
def pool (es : List (Nat × CpInfo)) (last : Nat) : Array CpInfo := ⟨poolList es last⟩
def fileOf (pool : Array CpInfo) (this : Nat) (attrs : Array Attribute := #[]) (ms : Array MethodInfo := #[]) (fl : Nat := 33) (sup : Nat := 0) (ifs : Array Nat := #[]) (fds : Array FieldInfo := #[]) : ClassFile where
  minorVersion := 0
  majorVersion := 65
  constantPool := pool
  accessFlags := fl
  thisClass := this
  superClass := sup
  interfaces := ifs
  fields := fds
  methods := ms
  attributes := attrs
def plain (name : String) (sup : Option ClassId) : Class where
  name := name
  kind := .ordinary
  loader := none
  accessFlags := 33
  super := sup
  interfaces := #[]
  cf := none
  fields := #[]
  methods := #[]
  instanceTypes := #[]
  staticTypes := #[]
  resolved := #[]
  callSites := []
  init := .initialized
  statics := none
  mirror := none

def pool0 : Array CpInfo := pool [(5, u "<init>"), (0, u "()V"), (1, .class_ 10), (1, u "java/lang/Object")] 113

def k0c0 : Code := { maxStack := 0, maxLocals := 1, code := object_method_1_code, exceptionTable := #[], attributes := #[] }
def k0m0 : Method := { name := "<init>", desc := "()V", sig := { parameters := [], returnType := none }, accessFlags := 1, code := some k0c0 }
/-- java/lang/Object -/
def k0 : Class := { plain "java/lang/Object" none with
  accessFlags := 33
  interfaces := #[]
  cf := some (fileOf pool0 8 #[] #[{ accessFlags := 1, nameIndex := 5, descriptorIndex := 6, attributes := #[] }] 33 0 #[] #[])
  fields := #[]
  methods := #[k0m0]
  instanceTypes := #[]
  staticTypes := #[]
  resolved := Array.replicate 124 none
  statics := none }

def pool1 : Array CpInfo := pool [(2, .class_ 4), (0, .nameAndType 5 6), (0, u "java/lang/Object"), (0, u "<init>"), (0, u "()V"), (0, .integer 2147483647), (0, .class_ 9), (0, u "com/example/unhurried_reaper/unhurriedreaper/Task"), (0, .string 11), (0, u "a"), (0, .methodref 8 13), (0, .nameAndType 5 14), (0, u "(Ljava/lang/String;)V"), (0, .string 16), (0, u "b"), (0, .string 18), (0, u "c"), (0, .string 20), (0, u "p"), (0, .class_ 22), (0, u "com/example/unhurried_reaper/unhurriedreaper/TaskHistory"), (0, .methodref 21 3), (0, .methodref 21 25), (0, .nameAndType 26 27), (0, u "toFront"), (0, u "(Lcom/example/unhurried_reaper/unhurriedreaper/Task;)V"), (0, .methodref 21 29), (0, .nameAndType 30 27), (0, u "remove"), (0, .methodref 8 32), (0, .nameAndType 33 34), (0, u "nearerFront"), (0, u "()Lcom/example/unhurried_reaper/unhurriedreaper/Task;"), (0, .methodref 8 36), (0, .nameAndType 37 34), (0, u "furtherBack"), (0, .class_ 39), (0, u "com/example/unhurried_reaper/unhurriedreaper/TaskHistoryRemovePinLaw"), (2, u "law"), (0, u "(II)Z")] 5

def k1m0 : Method := { name := "<init>", desc := "()V", sig := { parameters := [], returnType := none }, accessFlags := 1, code := none }
def k1c1 : Code := { maxStack := 5, maxLocals := 13, code := code, exceptionTable := #[], attributes := #[] }
def k1m1 : Method := { name := "law", desc := "(II)Z", sig := { parameters := [.int, .int], returnType := some .boolean }, accessFlags := 9, code := some k1c1 }
/-- com/example/unhurried_reaper/unhurriedreaper/TaskHistoryRemovePinLaw -/
def k1 : Class := { plain "com/example/unhurried_reaper/unhurriedreaper/TaskHistoryRemovePinLaw" (some 0) with
  accessFlags := 49
  interfaces := #[]
  cf := some (fileOf pool1 38 #[] #[{ accessFlags := 1, nameIndex := 5, descriptorIndex := 6, attributes := #[] }, { accessFlags := 9, nameIndex := 42, descriptorIndex := 43, attributes := #[] }] 49 2 #[] #[])
  fields := #[]
  methods := #[k1m0, k1m1]
  instanceTypes := #[]
  staticTypes := #[]
  resolved := Array.replicate 49 none
  statics := none }

def pool2 : Array CpInfo := pool [(1, .methodref 2 3), (0, .class_ 4), (0, .nameAndType 5 6), (0, u "java/lang/Object"), (0, u "<init>"), (0, u "()V"), (0, .class_ 8), (0, u "java/util/ArrayList"), (0, .methodref 7 3), (0, .fieldref 11 12), (0, .class_ 13), (0, .nameAndType 14 15), (0, u "com/example/unhurried_reaper/unhurriedreaper/Task"), (0, u "activities"), (0, u "Ljava/util/List;"), (0, .fieldref 11 17), (0, .nameAndType 18 19), (0, u "name"), (0, u "Ljava/lang/String;"), (20, .fieldref 11 41), (0, .nameAndType 42 43), (0, u "frontedAt"), (0, u "J"), (0, .fieldref 11 45), (0, .nameAndType 46 47), (0, u "nearerFront"), (0, u "Lcom/example/unhurried_reaper/unhurriedreaper/Task;"), (0, .fieldref 11 49), (0, .nameAndType 50 47), (0, u "furtherBack"), (2, u "(Ljava/lang/String;)V"), (8, u "setFrontedAt"), (0, u "(J)V"), (0, u "()Lcom/example/unhurried_reaper/unhurriedreaper/Task;"), (0, u "setNearerFront"), (0, u "(Lcom/example/unhurried_reaper/unhurriedreaper/Task;)V"), (0, u "setFurtherBack")] 2

def k2c0 : Code := { maxStack := 3, maxLocals := 2, code := prog_33_method_1_code, exceptionTable := #[], attributes := #[] }
def k2m0 : Method := { name := "<init>", desc := "(Ljava/lang/String;)V", sig := { parameters := [(.object "java/lang/String")], returnType := none }, accessFlags := 0, code := some k2c0 }
def k2c1 : Code := { maxStack := 3, maxLocals := 3, code := prog_33_method_8_code, exceptionTable := #[], attributes := #[] }
def k2m1 : Method := { name := "setFrontedAt", desc := "(J)V", sig := { parameters := [.long], returnType := none }, accessFlags := 0, code := some k2c1 }
def k2c2 : Code := { maxStack := 1, maxLocals := 1, code := prog_33_method_9_code, exceptionTable := #[], attributes := #[] }
def k2m2 : Method := { name := "nearerFront", desc := "()Lcom/example/unhurried_reaper/unhurriedreaper/Task;", sig := { parameters := [], returnType := some (.object "com/example/unhurried_reaper/unhurriedreaper/Task") }, accessFlags := 0, code := some k2c2 }
def k2c3 : Code := { maxStack := 2, maxLocals := 2, code := prog_33_method_10_code, exceptionTable := #[], attributes := #[] }
def k2m3 : Method := { name := "setNearerFront", desc := "(Lcom/example/unhurried_reaper/unhurriedreaper/Task;)V", sig := { parameters := [(.object "com/example/unhurried_reaper/unhurriedreaper/Task")], returnType := none }, accessFlags := 0, code := some k2c3 }
def k2c4 : Code := { maxStack := 1, maxLocals := 1, code := prog_33_method_11_code, exceptionTable := #[], attributes := #[] }
def k2m4 : Method := { name := "furtherBack", desc := "()Lcom/example/unhurried_reaper/unhurriedreaper/Task;", sig := { parameters := [], returnType := some (.object "com/example/unhurried_reaper/unhurriedreaper/Task") }, accessFlags := 0, code := some k2c4 }
def k2c5 : Code := { maxStack := 2, maxLocals := 2, code := prog_33_method_12_code, exceptionTable := #[], attributes := #[] }
def k2m5 : Method := { name := "setFurtherBack", desc := "(Lcom/example/unhurried_reaper/unhurriedreaper/Task;)V", sig := { parameters := [(.object "com/example/unhurried_reaper/unhurriedreaper/Task")], returnType := none }, accessFlags := 0, code := some k2c5 }
/-- com/example/unhurried_reaper/unhurriedreaper/Task -/
def k2 : Class := { plain "com/example/unhurried_reaper/unhurriedreaper/Task" (some 0) with
  accessFlags := 48
  interfaces := #[]
  cf := some (fileOf pool2 11 #[] #[{ accessFlags := 0, nameIndex := 5, descriptorIndex := 53, attributes := #[] }, { accessFlags := 0, nameIndex := 62, descriptorIndex := 63, attributes := #[] }, { accessFlags := 0, nameIndex := 46, descriptorIndex := 64, attributes := #[] }, { accessFlags := 0, nameIndex := 65, descriptorIndex := 66, attributes := #[] }, { accessFlags := 0, nameIndex := 50, descriptorIndex := 64, attributes := #[] }, { accessFlags := 0, nameIndex := 67, descriptorIndex := 66, attributes := #[] }] 48 2 #[] #[{ accessFlags := 18, nameIndex := 18, descriptorIndex := 19, attributes := #[] }, { accessFlags := 18, nameIndex := 14, descriptorIndex := 15, attributes := #[] }, { accessFlags := 2, nameIndex := 42, descriptorIndex := 43, attributes := #[] }, { accessFlags := 2, nameIndex := 46, descriptorIndex := 47, attributes := #[] }, { accessFlags := 2, nameIndex := 50, descriptorIndex := 47, attributes := #[] }])
  fields := #[{ name := "name", type := (.object "java/lang/String"), accessFlags := 18, slot := 0, constantValue := 0 }, { name := "activities", type := (.object "java/util/List"), accessFlags := 18, slot := 1, constantValue := 0 }, { name := "frontedAt", type := .long, accessFlags := 2, slot := 2, constantValue := 0 }, { name := "nearerFront", type := (.object "com/example/unhurried_reaper/unhurriedreaper/Task"), accessFlags := 2, slot := 3, constantValue := 0 }, { name := "furtherBack", type := (.object "com/example/unhurried_reaper/unhurriedreaper/Task"), accessFlags := 2, slot := 4, constantValue := 0 }]
  methods := #[k2m0, k2m1, k2m2, k2m3, k2m4, k2m5]
  instanceTypes := #[(.object "java/lang/String"), (.object "java/util/List"), .long, (.object "com/example/unhurried_reaper/unhurriedreaper/Task"), (.object "com/example/unhurried_reaper/unhurriedreaper/Task")]
  staticTypes := #[]
  resolved := Array.replicate 70 none
  statics := none }

def pool3 : Array CpInfo := pool [(1, .class_ 2), (0, u "java/io/Serializable"), (0, .class_ 4), (0, u "java/lang/Object")] 2

/-- java/io/Serializable -/
def k3 : Class := { plain "java/io/Serializable" (some 0) with
  accessFlags := 1537
  interfaces := #[]
  cf := some (fileOf pool3 1 #[] #[] 1537 3 #[] #[])
  fields := #[]
  methods := #[]
  instanceTypes := #[]
  staticTypes := #[]
  resolved := Array.replicate 7 none
  statics := none }

def pool4 : Array CpInfo := pool [(1, .class_ 2), (0, u "java/lang/Comparable"), (0, .class_ 4), (0, u "java/lang/Object")] 7

/-- java/lang/Comparable -/
def k4 : Class := { plain "java/lang/Comparable" (some 0) with
  accessFlags := 1537
  interfaces := #[]
  cf := some (fileOf pool4 1 #[] #[] 1537 3 #[] #[])
  fields := #[]
  methods := #[]
  instanceTypes := #[]
  staticTypes := #[]
  resolved := Array.replicate 12 none
  statics := none }

def pool5 : Array CpInfo := pool [(2, .class_ 4), (1, u "java/lang/CharSequence"), (42, .class_ 48), (0, u "java/lang/CharSequence$1CodePointIterator"), (10, .class_ 60), (0, u "java/lang/CharSequence$1CharIterator"), (5, .class_ 67), (0, u "java/lang/Object")] 63

/-- java/lang/CharSequence -/
def k5 : Class := { plain "java/lang/CharSequence" (some 0) with
  accessFlags := 1537
  interfaces := #[]
  cf := some (fileOf pool5 2 #[.nestMembers #[47, 59]] #[] 1537 66 #[] #[])
  fields := #[]
  methods := #[]
  instanceTypes := #[]
  staticTypes := #[]
  resolved := Array.replicate 131 none
  statics := none }

def pool6 : Array CpInfo := pool [(1, .class_ 2), (0, u "java/lang/constant/Constable"), (0, .class_ 4), (0, u "java/lang/Object")] 6

/-- java/lang/constant/Constable -/
def k6 : Class := { plain "java/lang/constant/Constable" (some 0) with
  accessFlags := 1537
  interfaces := #[]
  cf := some (fileOf pool6 1 #[] #[] 1537 3 #[] #[])
  fields := #[]
  methods := #[]
  instanceTypes := #[]
  staticTypes := #[]
  resolved := Array.replicate 11 none
  statics := none }

def pool7 : Array CpInfo := pool [(1, .class_ 2), (0, u "java/lang/constant/ConstantDesc"), (0, .class_ 4), (0, u "java/lang/Object")] 32

/-- java/lang/constant/ConstantDesc -/
def k7 : Class := { plain "java/lang/constant/ConstantDesc" (some 0) with
  accessFlags := 1537
  interfaces := #[]
  cf := some (fileOf pool7 1 #[] #[] 1537 3 #[] #[])
  fields := #[]
  methods := #[]
  instanceTypes := #[]
  staticTypes := #[]
  resolved := Array.replicate 37 none
  statics := none }

def pool8 : Array CpInfo := pool [(2, .class_ 4), (1, u "java/lang/Object"), (0, u "<init>"), (0, u "()V"), (3, .class_ 12), (1, u "java/lang/String"), (0, u "value"), (0, u "[B"), (2, u "coder"), (0, u "B"), (2, u "hash"), (0, u "I"), (2, u "hashIsZero"), (0, u "Z"), (13, u "COMPACT_STRINGS"), (534, .class_ 576), (0, u "java/lang/CharSequence"), (22, u "CASE_INSENSITIVE_ORDER"), (0, u "Ljava/util/Comparator;"), (500, u "serialPersistentFields"), (0, u "[Ljava/io/ObjectStreamField;"), (0, .class_ 1104), (0, u "java/lang/String$CaseInsensitiveComparator"), (1, .class_ 1107), (0, u "java/io/Serializable"), (0, .class_ 1109), (0, u "java/lang/Comparable"), (0, .class_ 1111), (0, u "java/lang/constant/Constable"), (0, .class_ 1113), (0, u "java/lang/constant/ConstantDesc"), (2, u "serialVersionUID"), (0, u "J"), (3, u "REPL"), (0, u "C"), (2, u "LATIN1"), (1, u "UTF16")] 323

def k8m0 : Method := { name := "<init>", desc := "()V", sig := { parameters := [], returnType := none }, accessFlags := 1, code := none }
/-- java/lang/String -/
def k8 : Class := { plain "java/lang/String" (some 0) with
  accessFlags := 49
  interfaces := #[3, 4, 5, 6, 7]
  cf := some (fileOf pool8 10 #[.nestMembers #[1103]] #[{ accessFlags := 1, nameIndex := 5, descriptorIndex := 6, attributes := #[] }] 49 2 #[1106, 1108, 575, 1110, 1112] #[{ accessFlags := 18, nameIndex := 13, descriptorIndex := 14, attributes := #[] }, { accessFlags := 18, nameIndex := 17, descriptorIndex := 18, attributes := #[] }, { accessFlags := 2, nameIndex := 21, descriptorIndex := 22, attributes := #[] }, { accessFlags := 2, nameIndex := 25, descriptorIndex := 26, attributes := #[] }, { accessFlags := 26, nameIndex := 1116, descriptorIndex := 1117, attributes := #[] }, { accessFlags := 24, nameIndex := 40, descriptorIndex := 26, attributes := #[] }, { accessFlags := 26, nameIndex := 1101, descriptorIndex := 1102, attributes := #[] }, { accessFlags := 26, nameIndex := 1121, descriptorIndex := 1122, attributes := #[] }, { accessFlags := 25, nameIndex := 599, descriptorIndex := 600, attributes := #[] }, { accessFlags := 24, nameIndex := 1125, descriptorIndex := 18, attributes := #[] }, { accessFlags := 24, nameIndex := 1127, descriptorIndex := 18, attributes := #[] }])
  fields := #[{ name := "value", type := (.array .byte), accessFlags := 18, slot := 0, constantValue := 0 }, { name := "coder", type := .byte, accessFlags := 18, slot := 1, constantValue := 0 }, { name := "hash", type := .int, accessFlags := 2, slot := 2, constantValue := 0 }, { name := "hashIsZero", type := .boolean, accessFlags := 2, slot := 3, constantValue := 0 }, { name := "serialVersionUID", type := .long, accessFlags := 26, slot := 0, constantValue := 0 }, { name := "COMPACT_STRINGS", type := .boolean, accessFlags := 24, slot := 1, constantValue := 0 }, { name := "serialPersistentFields", type := (.array (.object "java/io/ObjectStreamField")), accessFlags := 26, slot := 2, constantValue := 0 }, { name := "REPL", type := .char, accessFlags := 26, slot := 3, constantValue := 0 }, { name := "CASE_INSENSITIVE_ORDER", type := (.object "java/util/Comparator"), accessFlags := 25, slot := 4, constantValue := 0 }, { name := "LATIN1", type := .byte, accessFlags := 24, slot := 5, constantValue := 0 }, { name := "UTF16", type := .byte, accessFlags := 24, slot := 6, constantValue := 0 }]
  methods := #[k8m0]
  instanceTypes := #[(.array .byte), .byte, .int, .boolean]
  staticTypes := #[.long, .boolean, (.array (.object "java/io/ObjectStreamField")), .char, (.object "java/util/Comparator"), .byte, .byte]
  resolved := Array.replicate 1451 none
  statics := none }

def pool9 : Array CpInfo := pool [(8, .class_ 10), (1, u "java/lang/Iterable"), (24, .class_ 36), (0, u "java/lang/Object")] 25

/-- java/lang/Iterable -/
def k9 : Class := { plain "java/lang/Iterable" (some 0) with
  accessFlags := 1537
  interfaces := #[]
  cf := some (fileOf pool9 8 #[] #[] 1537 35 #[] #[])
  fields := #[]
  methods := #[]
  instanceTypes := #[]
  staticTypes := #[]
  resolved := Array.replicate 62 none
  statics := none }

def pool10 : Array CpInfo := pool [(10, .class_ 12), (1, u "java/util/Collection"), (47, .class_ 61), (0, u "java/lang/Object"), (0, .class_ 63), (0, u "java/lang/Iterable")] 51

/-- java/util/Collection -/
def k10 : Class := { plain "java/util/Collection" (some 0) with
  accessFlags := 1537
  interfaces := #[9]
  cf := some (fileOf pool10 10 #[] #[] 1537 60 #[62] #[])
  fields := #[]
  methods := #[]
  instanceTypes := #[]
  staticTypes := #[]
  resolved := Array.replicate 115 none
  statics := none }

def pool11 : Array CpInfo := pool [(1, .methodref 2 3), (0, .class_ 4), (0, .nameAndType 5 6), (0, u "java/lang/Object"), (0, u "<init>"), (0, u "()V"), (1, .class_ 10), (1, u "java/util/AbstractCollection"), (66, .class_ 78), (0, u "java/util/Collection")] 81

def k11c0 : Code := { maxStack := 1, maxLocals := 1, code := jdk_22_method_1_code, exceptionTable := #[], attributes := #[] }
def k11m0 : Method := { name := "<init>", desc := "()V", sig := { parameters := [], returnType := none }, accessFlags := 4, code := some k11c0 }
/-- java/util/AbstractCollection -/
def k11 : Class := { plain "java/util/AbstractCollection" (some 0) with
  accessFlags := 1057
  interfaces := #[10]
  cf := some (fileOf pool11 8 #[] #[{ accessFlags := 4, nameIndex := 5, descriptorIndex := 6, attributes := #[] }] 1057 2 #[77] #[])
  fields := #[]
  methods := #[k11m0]
  instanceTypes := #[]
  staticTypes := #[]
  resolved := Array.replicate 160 none
  statics := none }

def pool12 : Array CpInfo := pool [(8, .class_ 10), (1, u "java/util/SequencedCollection"), (15, .class_ 27), (0, u "java/lang/Object"), (0, .class_ 29), (0, u "java/util/Collection")] 27

/-- java/util/SequencedCollection -/
def k12 : Class := { plain "java/util/SequencedCollection" (some 0) with
  accessFlags := 1537
  interfaces := #[10]
  cf := some (fileOf pool12 8 #[] #[] 1537 26 #[28] #[])
  fields := #[]
  methods := #[]
  instanceTypes := #[]
  staticTypes := #[]
  resolved := Array.replicate 57 none
  statics := none }

def pool13 : Array CpInfo := pool [(8, .class_ 10), (1, u "java/util/List"), (92, .class_ 104), (0, u "java/lang/Object"), (15, .class_ 121), (0, u "java/util/SequencedCollection")] 129

/-- java/util/List -/
def k13 : Class := { plain "java/util/List" (some 0) with
  accessFlags := 1537
  interfaces := #[12]
  cf := some (fileOf pool13 8 #[] #[] 1537 103 #[120] #[])
  fields := #[]
  methods := #[]
  instanceTypes := #[]
  staticTypes := #[]
  resolved := Array.replicate 251 none
  statics := none }

def pool14 : Array CpInfo := pool [(1, .methodref 2 3), (0, .class_ 4), (0, .nameAndType 5 6), (0, u "java/util/AbstractCollection"), (0, u "<init>"), (0, u "()V"), (0, .fieldref 8 9), (0, .class_ 10), (0, .nameAndType 11 12), (0, u "java/util/AbstractList"), (0, u "modCount"), (0, u "I"), (64, .class_ 78), (0, u "java/util/AbstractList$Itr"), (3, .class_ 83), (0, u "java/util/AbstractList$ListItr"), (9, .class_ 94), (0, u "java/util/AbstractList$RandomAccessSubList"), (3, .class_ 99), (0, u "java/util/AbstractList$SubList"), (33, .class_ 134), (0, u "java/util/List"), (73, .class_ 209), (0, u "java/util/AbstractList$SubList$1"), (0, .class_ 211), (0, u "java/util/AbstractList$RandomAccessSpliterator")] 6

def k14c0 : Code := { maxStack := 2, maxLocals := 1, code := jdk_39_method_1_code, exceptionTable := #[], attributes := #[] }
def k14m0 : Method := { name := "<init>", desc := "()V", sig := { parameters := [], returnType := none }, accessFlags := 4, code := some k14c0 }
/-- java/util/AbstractList -/
def k14 : Class := { plain "java/util/AbstractList" (some 11) with
  accessFlags := 1057
  interfaces := #[13]
  cf := some (fileOf pool14 8 #[.nestMembers #[93, 98, 208, 210, 82, 77]] #[{ accessFlags := 4, nameIndex := 5, descriptorIndex := 6, attributes := #[] }] 1057 2 #[133] #[{ accessFlags := 132, nameIndex := 11, descriptorIndex := 12, attributes := #[] }])
  fields := #[{ name := "modCount", type := .int, accessFlags := 132, slot := 0, constantValue := 0 }]
  methods := #[k14m0]
  instanceTypes := #[.int]
  staticTypes := #[]
  resolved := Array.replicate 218 none
  statics := none }

def pool15 : Array CpInfo := pool [(1, .class_ 2), (0, u "java/util/RandomAccess"), (0, .class_ 4), (0, u "java/lang/Object")] 2

/-- java/util/RandomAccess -/
def k15 : Class := { plain "java/util/RandomAccess" (some 0) with
  accessFlags := 1537
  interfaces := #[]
  cf := some (fileOf pool15 1 #[] #[] 1537 3 #[] #[])
  fields := #[]
  methods := #[]
  instanceTypes := #[]
  staticTypes := #[]
  resolved := Array.replicate 7 none
  statics := none }

def pool16 : Array CpInfo := pool [(1, .class_ 2), (0, u "java/lang/Cloneable"), (0, .class_ 4), (0, u "java/lang/Object")] 2

/-- java/lang/Cloneable -/
def k16 : Class := { plain "java/lang/Cloneable" (some 0) with
  accessFlags := 1537
  interfaces := #[]
  cf := some (fileOf pool16 1 #[] #[] 1537 3 #[] #[])
  fields := #[]
  methods := #[]
  instanceTypes := #[]
  staticTypes := #[]
  resolved := Array.replicate 7 none
  statics := none }

def pool17 : Array CpInfo := pool [(1, .methodref 2 3), (0, .class_ 4), (0, .nameAndType 5 6), (0, u "java/util/AbstractList"), (0, u "<init>"), (0, u "()V"), (2, .fieldref 10 11), (0, .class_ 12), (0, .nameAndType 13 14), (0, u "java/util/ArrayList"), (0, u "elementData"), (0, u "[Ljava/lang/Object;"), (2, u "EMPTY_ELEMENTDATA"), (21, .fieldref 10 40), (0, .nameAndType 41 14), (0, u "DEFAULTCAPACITY_EMPTY_ELEMENTDATA"), (8, u "size"), (0, u "I"), (96, .class_ 149), (0, u "java/util/List"), (112, .class_ 263), (0, u "java/util/ArrayList$ListItr"), (3, .class_ 268), (0, u "java/util/ArrayList$Itr"), (7, .class_ 277), (0, u "java/util/ArrayList$SubList"), (12, .class_ 291), (0, u "java/util/ArrayList$ArrayListSpliterator"), (37, .class_ 330), (0, u "java/util/RandomAccess"), (0, .class_ 332), (0, u "java/lang/Cloneable"), (0, .class_ 334), (0, u "java/io/Serializable"), (0, u "serialVersionUID"), (0, u "J"), (3, u "DEFAULT_CAPACITY"), (159, .class_ 501), (0, u "java/util/ArrayList$SubList$2"), (0, .class_ 503), (0, u "java/util/ArrayList$SubList$1")] 5

def k17c0 : Code := { maxStack := 2, maxLocals := 1, code := jdk_38_method_2_code, exceptionTable := #[], attributes := #[] }
def k17m0 : Method := { name := "<init>", desc := "()V", sig := { parameters := [], returnType := none }, accessFlags := 1, code := some k17c0 }
/-- java/util/ArrayList -/
def k17 : Class := { plain "java/util/ArrayList" (some 14) with
  accessFlags := 33
  interfaces := #[13, 15, 16, 3]
  cf := some (fileOf pool17 10 #[.nestMembers #[290, 276, 500, 502, 262, 267]] #[{ accessFlags := 1, nameIndex := 5, descriptorIndex := 6, attributes := #[] }] 33 2 #[148, 329, 331, 333] #[{ accessFlags := 26, nameIndex := 335, descriptorIndex := 336, attributes := #[] }, { accessFlags := 26, nameIndex := 340, descriptorIndex := 51, attributes := #[] }, { accessFlags := 26, nameIndex := 17, descriptorIndex := 14, attributes := #[] }, { accessFlags := 26, nameIndex := 41, descriptorIndex := 14, attributes := #[] }, { accessFlags := 128, nameIndex := 13, descriptorIndex := 14, attributes := #[] }, { accessFlags := 2, nameIndex := 50, descriptorIndex := 51, attributes := #[] }])
  fields := #[{ name := "serialVersionUID", type := .long, accessFlags := 26, slot := 0, constantValue := 0 }, { name := "DEFAULT_CAPACITY", type := .int, accessFlags := 26, slot := 1, constantValue := 0 }, { name := "EMPTY_ELEMENTDATA", type := (.array (.object "java/lang/Object")), accessFlags := 26, slot := 2, constantValue := 0 }, { name := "DEFAULTCAPACITY_EMPTY_ELEMENTDATA", type := (.array (.object "java/lang/Object")), accessFlags := 26, slot := 3, constantValue := 0 }, { name := "elementData", type := (.array (.object "java/lang/Object")), accessFlags := 128, slot := 1, constantValue := 0 }, { name := "size", type := .int, accessFlags := 2, slot := 2, constantValue := 0 }]
  methods := #[k17m0]
  instanceTypes := #[.int, (.array (.object "java/lang/Object")), .int]
  staticTypes := #[.long, .int, (.array (.object "java/lang/Object")), (.array (.object "java/lang/Object"))]
  resolved := Array.replicate 509 none
  statics := some 0 }

def pool18 : Array CpInfo := pool [(1, .methodref 2 3), (0, .class_ 4), (0, .nameAndType 5 6), (0, u "java/lang/Object"), (0, u "<init>"), (0, u "()V"), (0, .fieldref 8 9), (0, .class_ 10), (0, .nameAndType 11 12), (0, u "com/example/unhurried_reaper/unhurriedreaper/TaskHistory"), (0, u "front"), (0, u "Lcom/example/unhurried_reaper/unhurriedreaper/Task;"), (0, .methodref 14 15), (0, .class_ 16), (0, .nameAndType 17 18), (0, u "com/example/unhurried_reaper/unhurriedreaper/Task"), (0, u "nearerFront"), (0, u "()Lcom/example/unhurried_reaper/unhurriedreaper/Task;"), (0, .methodref 8 20), (0, .nameAndType 21 22), (0, u "remove"), (0, u "(Lcom/example/unhurried_reaper/unhurriedreaper/Task;)V"), (0, .methodref 14 24), (0, .nameAndType 25 22), (0, u "setFurtherBack"), (0, .methodref 14 27), (0, .nameAndType 28 22), (0, u "setNearerFront"), (0, .fieldref 8 30), (0, .nameAndType 31 32), (0, u "bringings"), (0, u "J"), (0, .methodref 14 34), (0, .nameAndType 35 36), (0, u "setFrontedAt"), (0, u "(J)V"), (0, .methodref 14 38), (0, .nameAndType 39 18), (0, u "furtherBack"), (4, .class_ 45), (0, u "com/example/unhurried_reaper/unhurriedreaper/TaskHistory$1"), (5, u "toFront")] 28

def k18c0 : Code := { maxStack := 1, maxLocals := 1, code := prog_34_method_1_code, exceptionTable := #[], attributes := #[] }
def k18m0 : Method := { name := "<init>", desc := "()V", sig := { parameters := [], returnType := none }, accessFlags := 0, code := some k18c0 }
def k18c1 : Code := { maxStack := 8, maxLocals := 2, code := prog_34_method_2_code, exceptionTable := #[], attributes := #[] }
def k18m1 : Method := { name := "toFront", desc := "(Lcom/example/unhurried_reaper/unhurriedreaper/Task;)V", sig := { parameters := [(.object "com/example/unhurried_reaper/unhurriedreaper/Task")], returnType := none }, accessFlags := 0, code := some k18c1 }
def k18c2 : Code := { maxStack := 2, maxLocals := 4, code := prog_34_method_3_code, exceptionTable := #[], attributes := #[] }
def k18m2 : Method := { name := "remove", desc := "(Lcom/example/unhurried_reaper/unhurriedreaper/Task;)V", sig := { parameters := [(.object "com/example/unhurried_reaper/unhurriedreaper/Task")], returnType := none }, accessFlags := 0, code := some k18c2 }
/-- com/example/unhurried_reaper/unhurriedreaper/TaskHistory -/
def k18 : Class := { plain "com/example/unhurried_reaper/unhurriedreaper/TaskHistory" (some 0) with
  accessFlags := 48
  interfaces := #[]
  cf := some (fileOf pool18 8 #[.nestMembers #[44]] #[{ accessFlags := 0, nameIndex := 5, descriptorIndex := 6, attributes := #[] }, { accessFlags := 0, nameIndex := 51, descriptorIndex := 22, attributes := #[] }, { accessFlags := 0, nameIndex := 21, descriptorIndex := 22, attributes := #[] }] 48 2 #[] #[{ accessFlags := 2, nameIndex := 11, descriptorIndex := 12, attributes := #[] }, { accessFlags := 2, nameIndex := 31, descriptorIndex := 32, attributes := #[] }])
  fields := #[{ name := "front", type := (.object "com/example/unhurried_reaper/unhurriedreaper/Task"), accessFlags := 2, slot := 0, constantValue := 0 }, { name := "bringings", type := .long, accessFlags := 2, slot := 1, constantValue := 0 }]
  methods := #[k18m0, k18m1, k18m2]
  instanceTypes := #[(.object "com/example/unhurried_reaper/unhurriedreaper/Task"), .long]
  staticTypes := #[]
  resolved := Array.replicate 80 none
  statics := none }

/-- the primitive byte -/
def k19 : Class := { plain "byte" none with kind := .primitive 'B', accessFlags := 0x411 }
/-- [B -/
def k20 : Class := { plain "[B" (some 0) with kind := .array 19 .byte, interfaces := #[16, 3], accessFlags := 1041 }

/-- the primitive int -/
def k21 : Class := { plain "int" none with kind := .primitive 'I', accessFlags := 0x411 }
/-- [I -/
def k22 : Class := { plain "[I" (some 0) with kind := .array 21 .int, interfaces := #[16, 3], accessFlags := 1041 }

/-- [Lcom/example/unhurried_reaper/unhurriedreaper/Task; -/
def k23 : Class := { plain "[Lcom/example/unhurried_reaper/unhurriedreaper/Task;" (some 0) with kind := .array 2 (.object "com/example/unhurried_reaper/unhurriedreaper/Task"), interfaces := #[16, 3], accessFlags := 1041 }

/-- [Ljava/lang/Object; -/
def k24 : Class := { plain "[Ljava/lang/Object;" (some 0) with kind := .array 0 (.object "java/lang/Object"), interfaces := #[16, 3], accessFlags := 1041 }

def heap : Heap := #[{ cls := 17, slots := #[.long 0, .int 0, .ref 1, .ref 2], vm := .statics 17 },
  { cls := 24, slots := #[], vm := .none },
  { cls := 24, slots := #[], vm := .none }]
def classes : Array Class := #[k0, k1, k2, k3, k4, k5, k6, k7, k8, k9, k10, k11, k12, k13, k14, k15, k16, k17, k18, k19, k20, k21, k22, k23, k24]
def interned : List (Array UInt16 × Addr) := []
def slotsUsed : Nat := 4
def theMethod : MethodId := ⟨1, 1⟩
def args0 : Array Value := #[.int 5, .int 6]
def aboutOver (below : List Frame) : State where
  vm := { classes := classes, interned := interned.toArray }
  heap := heap
  slotsUsed := slotsUsed
  threads := #[{ frames := .invoking theMethod args0 :: below }]
def below0 : List Frame := [.native { method := ⟨0, 0⟩, args := #[] }]
def about1 : State := aboutOver below0
def p0 : Program := .bare "" "" ""
def e0 : Env := launch0.env 0 0 0
theorem w_frames : about1.frames = Frame.invoking theMethod args0 :: below0 := rfl
set_option maxRecDepth 65536 in
theorem w_args : argsFit about1.vm theMethod args0 = true := by decide +kernel
set_option maxRecDepth 65536 in
theorem w_heap : heapFits about1 = true := by decide +kernel
set_option maxRecDepth 65536 in
theorem w_runnable : about1.curStatus? = some .runnable := by decide +kernel
set_option maxRecDepth 65536 in
theorem w_alone : about1.alone = true := by decide +kernel
set_option maxRecDepth 65536 in
theorem w_named : about1.methodNamed? x = some theMethod := by decide +kernel
set_option maxRecDepth 65536 in
theorem w_hears : about1.hears theMethod below0 = true := by decide +kernel
set_option maxRecDepth 65536 in
theorem w_ripe : about1.ripe theMethod args0 below0 = true := by decide +kernel
theorem w_running : about1.status = .running := rfl
set_option maxRecDepth 65536 in
theorem w_room : about1.hasRoom e0.platform room_1 = true :=
  launch0.hasRoom_least _ room_1 (by decide +kernel) (by decide +kernel) (by decide +kernel) (by decide +kernel) (by decide +kernel) (by decide +kernel)
theorem allAtoms_all (ts : List Jvm.Cond) (a : Array Jvm.Value) (st : Jvm.State) : (allAtoms ts).before a st = ts.all (fun c => c.before a st) := by
  induction ts with
  | nil => rfl
  | cons c t ih =>
    show (Jvm.Cond.and c (allAtoms t)).before a st = _
    rw [Jvm.Cond.before_and, ih, List.all_cons]
def words1 : List Jvm.Cond := Jvm.Cond.code x code maxLocals ret :: tables_1
/-- a 'code' word, met by the world's own term for the bytes: nothing is compared byte by byte -/
theorem code_word {y : MethodName} {bytes : ByteArray} {mx : Nat} {rt : Option FieldType} {a : Array Value} {s : State} {m : MethodId} {meth : Method} {c : Code} (h1 : s.methodNamed? y = some m) (h2 : s.vm.method? m = some meth) (h3 : meth.code = some c) (h4 : c.code = bytes)
    (h5 : (c.maxLocals == mx && c.exceptionTable.isEmpty && decide (c.maxStack ≤ mostOperands) && decide (meth.sig.returnType = rt) && !meth.locks && decide (parseMethodDescriptor y.desc = some meth.sig)) = true) : (Jvm.Cond.code y bytes mx rt).before a s = true := by
  simp only [Bool.and_eq_true, beq_iff_eq, Bool.not_eq_true', decide_eq_true_eq] at h5
  obtain ⟨⟨⟨⟨⟨g1, g2⟩, g3⟩, g4⟩, g5⟩, g6⟩ := h5
  simp [Cond.before, Cond.holds, Cond.value, h1, h2, h3, h4, g1, g2, g3, g4, g5, g6]
def isCode : Jvm.Cond → Bool
  | .code _ _ _ _ => true
  | _ => false
theorem all_split {L : List Jvm.Cond} {P : Jvm.Cond → Bool} (h1 : L.all (fun c => isCode c || P c) = true) (h2 : ∀ c ∈ L.filter isCode, P c = true) : L.all P = true := by
  refine List.all_eq_true.mpr fun c hc => ?_
  have h := List.all_eq_true.mp h1 c hc
  rcases Bool.eq_false_or_eq_true (isCode c) with hi | hi
  · exact h2 c (List.mem_filter.mpr ⟨hc, hi⟩)
  · simpa [hi] using h
set_option maxRecDepth 65536 in
theorem w_c0 : (Jvm.Cond.code x code maxLocals ret).before args0 about1 = true := code_word (m := ⟨1, 1⟩) (meth := k1m1) (c := k1c1) (by decide +kernel) rfl rfl rfl (by decide +kernel)
set_option maxRecDepth 65536 in
theorem w_c1 : (Jvm.Cond.code ({ cls := "com/example/unhurried_reaper/unhurriedreaper/Task", name := "<init>", desc := "(Ljava/lang/String;)V" } : Jvm.MethodName) prog_33_method_1_code (2 : Nat) (Option.none : Option Jvm.ClassFile.FieldType)).before args0 about1 = true := code_word (m := ⟨2, 0⟩) (meth := k2m0) (c := k2c0) (by decide +kernel) rfl rfl rfl (by decide +kernel)
set_option maxRecDepth 65536 in
theorem w_c2 : (Jvm.Cond.code ({ cls := "java/lang/Object", name := "<init>", desc := "()V" } : Jvm.MethodName) object_method_1_code (1 : Nat) (Option.none : Option Jvm.ClassFile.FieldType)).before args0 about1 = true := code_word (m := ⟨0, 0⟩) (meth := k0m0) (c := k0c0) (by decide +kernel) rfl rfl rfl (by decide +kernel)
set_option maxRecDepth 65536 in
theorem w_c3 : (Jvm.Cond.code ({ cls := "java/util/ArrayList", name := "<init>", desc := "()V" } : Jvm.MethodName) jdk_38_method_2_code (1 : Nat) (Option.none : Option Jvm.ClassFile.FieldType)).before args0 about1 = true := code_word (m := ⟨17, 0⟩) (meth := k17m0) (c := k17c0) (by decide +kernel) rfl rfl rfl (by decide +kernel)
set_option maxRecDepth 65536 in
theorem w_c4 : (Jvm.Cond.code ({ cls := "java/util/AbstractList", name := "<init>", desc := "()V" } : Jvm.MethodName) jdk_39_method_1_code (1 : Nat) (Option.none : Option Jvm.ClassFile.FieldType)).before args0 about1 = true := code_word (m := ⟨14, 0⟩) (meth := k14m0) (c := k14c0) (by decide +kernel) rfl rfl rfl (by decide +kernel)
set_option maxRecDepth 65536 in
theorem w_c5 : (Jvm.Cond.code ({ cls := "java/util/AbstractCollection", name := "<init>", desc := "()V" } : Jvm.MethodName) jdk_22_method_1_code (1 : Nat) (Option.none : Option Jvm.ClassFile.FieldType)).before args0 about1 = true := code_word (m := ⟨11, 0⟩) (meth := k11m0) (c := k11c0) (by decide +kernel) rfl rfl rfl (by decide +kernel)
set_option maxRecDepth 65536 in
theorem w_c6 : (Jvm.Cond.code ({ cls := "com/example/unhurried_reaper/unhurriedreaper/TaskHistory", name := "<init>", desc := "()V" } : Jvm.MethodName) prog_34_method_1_code (1 : Nat) (Option.none : Option Jvm.ClassFile.FieldType)).before args0 about1 = true := code_word (m := ⟨18, 0⟩) (meth := k18m0) (c := k18c0) (by decide +kernel) rfl rfl rfl (by decide +kernel)
set_option maxRecDepth 65536 in
theorem w_c7 : (Jvm.Cond.code ({ cls := "com/example/unhurried_reaper/unhurriedreaper/TaskHistory", name := "toFront", desc := "(Lcom/example/unhurried_reaper/unhurriedreaper/Task;)V" } : Jvm.MethodName) prog_34_method_2_code (2 : Nat) (Option.none : Option Jvm.ClassFile.FieldType)).before args0 about1 = true := code_word (m := ⟨18, 1⟩) (meth := k18m1) (c := k18c1) (by decide +kernel) rfl rfl rfl (by decide +kernel)
set_option maxRecDepth 65536 in
theorem w_c8 : (Jvm.Cond.code ({ cls := "com/example/unhurried_reaper/unhurriedreaper/Task", name := "nearerFront", desc := "()Lcom/example/unhurried_reaper/unhurriedreaper/Task;" } : Jvm.MethodName) prog_33_method_9_code (1 : Nat) (Option.some (Jvm.ClassFile.FieldType.object "com/example/unhurried_reaper/unhurriedreaper/Task"))).before args0 about1 = true := code_word (m := ⟨2, 2⟩) (meth := k2m2) (c := k2c2) (by decide +kernel) rfl rfl rfl (by decide +kernel)
set_option maxRecDepth 65536 in
theorem w_c9 : (Jvm.Cond.code ({ cls := "com/example/unhurried_reaper/unhurriedreaper/Task", name := "setFurtherBack", desc := "(Lcom/example/unhurried_reaper/unhurriedreaper/Task;)V" } : Jvm.MethodName) prog_33_method_12_code (2 : Nat) (Option.none : Option Jvm.ClassFile.FieldType)).before args0 about1 = true := code_word (m := ⟨2, 5⟩) (meth := k2m5) (c := k2c5) (by decide +kernel) rfl rfl rfl (by decide +kernel)
set_option maxRecDepth 65536 in
theorem w_c10 : (Jvm.Cond.code ({ cls := "com/example/unhurried_reaper/unhurriedreaper/Task", name := "setFrontedAt", desc := "(J)V" } : Jvm.MethodName) prog_33_method_8_code (3 : Nat) (Option.none : Option Jvm.ClassFile.FieldType)).before args0 about1 = true := code_word (m := ⟨2, 1⟩) (meth := k2m1) (c := k2c1) (by decide +kernel) rfl rfl rfl (by decide +kernel)
set_option maxRecDepth 65536 in
theorem w_c11 : (Jvm.Cond.code ({ cls := "com/example/unhurried_reaper/unhurriedreaper/TaskHistory", name := "remove", desc := "(Lcom/example/unhurried_reaper/unhurriedreaper/Task;)V" } : Jvm.MethodName) prog_34_method_3_code (4 : Nat) (Option.none : Option Jvm.ClassFile.FieldType)).before args0 about1 = true := code_word (m := ⟨18, 2⟩) (meth := k18m2) (c := k18c2) (by decide +kernel) rfl rfl rfl (by decide +kernel)
set_option maxRecDepth 65536 in
theorem w_c12 : (Jvm.Cond.code ({ cls := "com/example/unhurried_reaper/unhurriedreaper/Task", name := "furtherBack", desc := "()Lcom/example/unhurried_reaper/unhurriedreaper/Task;" } : Jvm.MethodName) prog_33_method_11_code (1 : Nat) (Option.some (Jvm.ClassFile.FieldType.object "com/example/unhurried_reaper/unhurriedreaper/Task"))).before args0 about1 = true := code_word (m := ⟨2, 4⟩) (meth := k2m4) (c := k2c4) (by decide +kernel) rfl rfl rfl (by decide +kernel)
set_option maxRecDepth 65536 in
theorem w_c13 : (Jvm.Cond.code ({ cls := "com/example/unhurried_reaper/unhurriedreaper/Task", name := "setNearerFront", desc := "(Lcom/example/unhurried_reaper/unhurriedreaper/Task;)V" } : Jvm.MethodName) prog_33_method_10_code (2 : Nat) (Option.none : Option Jvm.ClassFile.FieldType)).before args0 about1 = true := code_word (m := ⟨2, 3⟩) (meth := k2m3) (c := k2c3) (by decide +kernel) rfl rfl rfl (by decide +kernel)
def codes1 : List Jvm.Cond := [Jvm.Cond.code x code maxLocals ret, Jvm.Cond.code ({ cls := "com/example/unhurried_reaper/unhurriedreaper/Task", name := "<init>", desc := "(Ljava/lang/String;)V" } : Jvm.MethodName) prog_33_method_1_code (2 : Nat) (Option.none : Option Jvm.ClassFile.FieldType), Jvm.Cond.code ({ cls := "java/lang/Object", name := "<init>", desc := "()V" } : Jvm.MethodName) object_method_1_code (1 : Nat) (Option.none : Option Jvm.ClassFile.FieldType), Jvm.Cond.code ({ cls := "java/util/ArrayList", name := "<init>", desc := "()V" } : Jvm.MethodName) jdk_38_method_2_code (1 : Nat) (Option.none : Option Jvm.ClassFile.FieldType), Jvm.Cond.code ({ cls := "java/util/AbstractList", name := "<init>", desc := "()V" } : Jvm.MethodName) jdk_39_method_1_code (1 : Nat) (Option.none : Option Jvm.ClassFile.FieldType), Jvm.Cond.code ({ cls := "java/util/AbstractCollection", name := "<init>", desc := "()V" } : Jvm.MethodName) jdk_22_method_1_code (1 : Nat) (Option.none : Option Jvm.ClassFile.FieldType), Jvm.Cond.code ({ cls := "com/example/unhurried_reaper/unhurriedreaper/TaskHistory", name := "<init>", desc := "()V" } : Jvm.MethodName) prog_34_method_1_code (1 : Nat) (Option.none : Option Jvm.ClassFile.FieldType), Jvm.Cond.code ({ cls := "com/example/unhurried_reaper/unhurriedreaper/TaskHistory", name := "toFront", desc := "(Lcom/example/unhurried_reaper/unhurriedreaper/Task;)V" } : Jvm.MethodName) prog_34_method_2_code (2 : Nat) (Option.none : Option Jvm.ClassFile.FieldType), Jvm.Cond.code ({ cls := "com/example/unhurried_reaper/unhurriedreaper/Task", name := "nearerFront", desc := "()Lcom/example/unhurried_reaper/unhurriedreaper/Task;" } : Jvm.MethodName) prog_33_method_9_code (1 : Nat) (Option.some (Jvm.ClassFile.FieldType.object "com/example/unhurried_reaper/unhurriedreaper/Task")), Jvm.Cond.code ({ cls := "com/example/unhurried_reaper/unhurriedreaper/Task", name := "setFurtherBack", desc := "(Lcom/example/unhurried_reaper/unhurriedreaper/Task;)V" } : Jvm.MethodName) prog_33_method_12_code (2 : Nat) (Option.none : Option Jvm.ClassFile.FieldType), Jvm.Cond.code ({ cls := "com/example/unhurried_reaper/unhurriedreaper/Task", name := "setFrontedAt", desc := "(J)V" } : Jvm.MethodName) prog_33_method_8_code (3 : Nat) (Option.none : Option Jvm.ClassFile.FieldType), Jvm.Cond.code ({ cls := "com/example/unhurried_reaper/unhurriedreaper/TaskHistory", name := "remove", desc := "(Lcom/example/unhurried_reaper/unhurriedreaper/Task;)V" } : Jvm.MethodName) prog_34_method_3_code (4 : Nat) (Option.none : Option Jvm.ClassFile.FieldType), Jvm.Cond.code ({ cls := "com/example/unhurried_reaper/unhurriedreaper/Task", name := "furtherBack", desc := "()Lcom/example/unhurried_reaper/unhurriedreaper/Task;" } : Jvm.MethodName) prog_33_method_11_code (1 : Nat) (Option.some (Jvm.ClassFile.FieldType.object "com/example/unhurried_reaper/unhurriedreaper/Task")), Jvm.Cond.code ({ cls := "com/example/unhurried_reaper/unhurriedreaper/Task", name := "setNearerFront", desc := "(Lcom/example/unhurried_reaper/unhurriedreaper/Task;)V" } : Jvm.MethodName) prog_33_method_10_code (2 : Nat) (Option.none : Option Jvm.ClassFile.FieldType)]
set_option maxRecDepth 65536 in
theorem codes_eq : words1.filter isCode = codes1 := rfl
theorem w_codes : ∀ c ∈ words1.filter isCode, c.before args0 about1 = true := by
  rw [codes_eq]
  intro c hc
  simp only [codes1, List.mem_cons, List.not_mem_nil, or_false] at hc
  rcases hc with rfl | rfl | rfl | rfl | rfl | rfl | rfl | rfl | rfl | rfl | rfl | rfl | rfl | rfl
  · exact w_c0
  · exact w_c1
  · exact w_c2
  · exact w_c3
  · exact w_c4
  · exact w_c5
  · exact w_c6
  · exact w_c7
  · exact w_c8
  · exact w_c9
  · exact w_c10
  · exact w_c11
  · exact w_c12
  · exact w_c13
set_option maxRecDepth 65536 in
theorem w_t1 : (words1.take 24).all (fun c => isCode c || c.before args0 about1) = true := by decide +kernel
set_option maxRecDepth 65536 in
theorem w_t2 : ((words1.drop 24).take 24).all (fun c => isCode c || c.before args0 about1) = true := by decide +kernel
set_option maxRecDepth 65536 in
theorem w_t3 : (((words1.drop 24).drop 24).take 24).all (fun c => isCode c || c.before args0 about1) = true := by decide +kernel
set_option maxRecDepth 65536 in
theorem w_t4 : ((((words1.drop 24).drop 24).drop 24).take 24).all (fun c => isCode c || c.before args0 about1) = true := by decide +kernel
set_option maxRecDepth 65536 in
theorem w_t5 : ((((words1.drop 24).drop 24).drop 24).drop 24).all (fun c => isCode c || c.before args0 about1) = true := by decide +kernel
theorem w_tables : (allAtoms (Jvm.Cond.code x code maxLocals ret :: tables_1)).before args0 about1 = true := by
  rw [allAtoms_all]
  show words1.all (fun c => c.before args0 about1) = true
  refine all_split ?_ w_codes
  rw [← List.take_append_drop 24 words1, List.all_append, w_t1, ← List.take_append_drop 24 (words1.drop 24), List.all_append, w_t2, ← List.take_append_drop 24 ((words1.drop 24).drop 24), List.all_append, w_t3, ← List.take_append_drop 24 (((words1.drop 24).drop 24).drop 24), List.all_append, w_t4, w_t5]
  rfl
set_option maxRecDepth 65536 in
theorem w_rest : rest_1_c.before args0 about1 = true := by decide +kernel
set_option maxRecDepth 65536 in
theorem w_case : (Jvm.Cond.and given_1 narrow_1).before args0 about1 = true := by decide +kernel
theorem w_applies : (headSpec (Jvm.Cond.code x code maxLocals ret :: tables_1) room_1).applies x e0.platform about1 = true :=
  (Spec.applies_iff w_frames).mpr ⟨w_running, w_runnable, w_alone, w_named, w_hears, w_ripe, w_room, w_tables⟩
theorem atStart : AtStart classFile x code maxLocals ret World_1 tables_1 room_1 Calls_1 rest_1 Pre_1 launch0 p0 e0 about1 theMethod args0 below0 :=
  ⟨lists_1, trivial, launch0.admits_env _ _ _, launch0.least_env, fairChoices_fair.cas, fairChoices_fair.clock, w_frames, w_args, w_heap, w_applies, trivial, w_rest, w_case⟩
end start1
theorem witness_1 : WitnessClaimed_1 := ⟨start1.p0, start1.e0, start1.about1, start1.theMethod, start1.args0, start1.below0, start1.atStart⟩
end Jvm.Pilot.@@N@@
