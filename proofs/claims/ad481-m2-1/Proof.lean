import JvmDerived
import JvmDerived.Pilot.@@N@@Statement
import JvmDerived.Pilot.@@N@@Code
set_option linter.unusedVariables false
set_option linter.unusedSimpArgs false
@@BLOCK:NumsL.lean.txt@@
namespace Jvm.RoadKit
open Sem ClassFile Op Lib Jvm.Stand Jvm.Free Jvm.LawKit
section New
variable {p : Program} {l : Launch} {e : Env} {R : Room} {s : State} {m : MethodId} {args : Array Value} {below : List Frame} {meth : Method} {c : Code} {T : State} {locs : List Loc} {cells slots : Nat}
theorem retI (X : Stand p l e R s m args below meth c T locs cells slots) (hx : p.tables.exec = Jvm.exec) {pc : Nat} {Ls : Array Slot} {z : Int32} {rest : List Value} (hret : meth.sig.returnType = some .int) (hd : decode c.code pc = .ok (.ireturn, 1)) {fs : List Frame}
    (hl : ∀ (f : JFrame) (acts : List Action), f.method = m → f.locked = none → f.entered = [] → (doReturn e (T.setTop f) acts (some (.int z))).1 = T.setFrames fs) : Steps p.tables e below (T.setTop (mkF m pc Ls (.int z :: rest))) (T.setFrames fs) := by
  have hm' : T.vm.method? m = some meth := X.method'
  have hn : narrow .int (.int z) = .int z := rfl
  show Steps p.tables e below (T.setTop { method := m, pc := pc, locals := Ls, stack := _ :: rest, locked := none }) _
  jvm_step X.here [X.here.top, hx, hd, hm', hret, hn]
  first | (intro acts; rw [hl _ acts rfl rfl rfl]) | rw [hl _ _ rfl rfl rfl]
  exact Steps.refl _
end New
end Jvm.RoadKit
namespace Jvm.Pilot.@@N@@
open Jvm Jvm.ClassFile Sem Op Lib Jvm.Free Jvm.Stand Jvm.LawKit Jvm.RoadKit Bundle Jvm.Pilot.@@N@@.Jvm.D

theorem own_sel {s : State} {args : Array Value} {y : MethodName} {n : Nat} (hins : (Cond.instantiable y.cls n).before args s = true) (hpriv : (Cond.privateMethod y).before args s = true) (hinst : (Cond.instanceMethod y).before args s = true) (hy : y.cls ≠ "java/lang/invoke/MethodHandle" ∧ y.cls ≠ "java/lang/invoke/VarHandle") : (Cond.selects y.cls y y).before args s = true := by
  obtain ⟨c, k, hc, hk, -, hniab, -, -⟩ := Cond.instantiable_spec hins
  exact selects_self_of_private hc hk (Bool.or_eq_false_iff.mp hniab).1 (Cond.privateMethod_at hpriv) hinst hy
def own_nlz (i : Int32) : Int32 := if i < (16 : Int32) then (if i < (4 : Int32) then ((31 : Int32) - ((i.toUInt32 >>> ((1 : Int32) &&& 31).toUInt32).toInt32)) else (((31 : Int32) + (-2 : Int32)) - ((((i.toUInt32 >>> ((2 : Int32) &&& 31).toUInt32).toInt32).toUInt32 >>> ((1 : Int32) &&& 31).toUInt32).toInt32))) else (if ((i.toUInt32 >>> ((4 : Int32) &&& 31).toUInt32).toInt32) < (4 : Int32) then (((31 : Int32) + (-4 : Int32)) - ((((i.toUInt32 >>> ((4 : Int32) &&& 31).toUInt32).toInt32).toUInt32 >>> ((1 : Int32) &&& 31).toUInt32).toInt32)) else ((((31 : Int32) + (-4 : Int32)) + (-2 : Int32)) - ((((((i.toUInt32 >>> ((4 : Int32) &&& 31).toUInt32).toInt32).toUInt32 >>> ((2 : Int32) &&& 31).toUInt32).toInt32).toUInt32 >>> ((1 : Int32) &&& 31).toUInt32).toInt32)))
def own_mask (n : Int32) : Int64 := ((1 : Int64) <<< (n &&& 0x3f).toInt64) - (1 : Int64)
def own_cont (c : Int64) (w1 w0 : Int32) : Int64 := (((c <<< ((8 : Int32) &&& 0x3f).toInt64) ||| (w1 &&& (255 : Int32)).toInt64) <<< ((8 : Int32) &&& 0x3f).toInt64) ||| (w0 &&& (255 : Int32)).toInt64
def own_sb (b n : Int32) : Int32 := if b < n then (0 : Int32) else b - n
def own_sp (ps : Int64) (b n : Int32) : Int64 := if b < n then ps + (n - b).toInt64 else ps
def own_pk (c : Int64) (b k : Int32) : Int32 := if b < k then ((c &&& own_mask b) <<< ((k - b) &&& 0x3f).toInt64).toInt32 else (((c.toUInt64 >>> ((b - k) &&& 0x3f).toInt64.toUInt64).toInt64) &&& own_mask k).toInt32
def own_ov (ps : Int64) : Int32 := if (0 : Int32) < lcmpW ps (0 : Int64) then 1 else 0
def own_cons (b lf fr : Int32) (ps : Int64) : Int32 := if b = (0 : Int32) then (if lf = fr then (if lcmpW ps (0 : Int64) = (0 : Int32) then 1 else 0) else 0) else 0
theorem pn_6 : plainName "com/example/segmented_log/segmentedlog/format/BackwardBits" = true := by first | (simp [plainName, overriddenIn]; done) | decide +kernel
theorem ef_6 (m : MethodId) (p1 : Int32) : entryFrame m #[(.int p1)] 1 = mkF m 0 #[.val (.int p1)] [] := by first | (simp [entryFrame, mkF, argsToLocals, Value.category]; done) | rfl
def Q6 (Z : State) (p1 : Int32) (h0 : Heap) (n0 : Nat) (v : Option Value) (h : Heap) (L : List Loc) : Prop := v = some (.long (own_mask p1)) ∧ Fr n0 L ∧ h = h0
theorem d6_0 : decode prog_13_method_8_code 0 = .ok (.lconst 1, 1) := by decide +kernel
theorem d6_1 : decode prog_13_method_8_code 1 = .ok (.iload_n 0, 1) := by decide +kernel
theorem d6_2 : decode prog_13_method_8_code 2 = .ok (.lshl, 1) := by decide +kernel
theorem d6_3 : decode prog_13_method_8_code 3 = .ok (.lconst 1, 1) := by decide +kernel
theorem d6_4 : decode prog_13_method_8_code 4 = .ok (.lsub, 1) := by decide +kernel
theorem d6_5 : decode prog_13_method_8_code 5 = .ok (.lreturn, 1) := by decide +kernel
set_option maxRecDepth 65536 in
set_option maxHeartbeats 40000000 in
theorem rm6 (l : Launch) (Z : State) (a0 : Array Value) (hw : ∀ d ∈ tables_1, d.before a0 Z = true) (ws : List Jvm.Cond) (p1 : Int32) (h0 : Heap) (n0 : Nat) (Z0 : n0 ≤ h0.size)  :
    MetFree l (⟨"com/example/segmented_log/segmentedlog/format/BackwardBits", "mask", "(I)J"⟩ : MethodName) (head1 (Jvm.Cond.code (⟨"com/example/segmented_log/segmentedlog/format/BackwardBits", "mask", "(I)J"⟩ : MethodName) prog_13_method_8_code 1 (some .long) :: ws) ({ frames := 0, cells := 0, slots := 0, locals := 0 } : Room)) (fun a U => a = #[(.int p1)] ∧ Z.Warmed39 U.vm ∧ U.heap = h0) (fun _ _ _ _ _ => True) (fun _ U oU U' => ∃ v L, oU = .returned v ∧ Q6 Z p1 h0 n0 v U'.heap L ∧ FrameEnd U oU U' L ({ frames := 0, cells := 0, slots := 0, locals := 0 } : Room).cells ({ frames := 0, cells := 0, slots := 0, locals := 0 } : Room).slots) := by
  refine MetFree.of_bodySF (plainFor_of_name pn_6) hisR ?_
  intro p e s m args below meth c s₁ Bd hml0 hP hK
  obtain ⟨rfl, hZ, hh⟩ := hP
  have hx := Bd.exec
  have hby := Bd.bytes
  have hml : c.maxLocals = 1 := hml0
  have hown : s.vm.findClass "com/example/segmented_log/segmentedlog/format/BackwardBits" = some m.cls := findClass_of_methodNamed Bd.named
  have hnm := (name_of_methodNamed Bd.named Bd.method).1
  have X0 : Stand p l e ({ frames := 0, cells := 0, slots := 0, locals := 0 } : Room) s m #[(.int p1)] below meth c s₁ [] 0 0 := Stand.of_body Bd
  have e0 : s₁.heap = h0 := by rw [← hh, Bd.state]; rfl
  have N0 := Fr.nil n0
  have go0 : ∀ t, Steps p.tables e below (s₁.setTop (mkF m 0 #[.val (.int p1)] [])) t → Steps p.tables e below (s₁.setTop (entryFrame m #[(.int p1)] 1)) t := fun t k => castTop (ef_6 m p1) k
  obtain ⟨fs, hr, hrun, hended, hW, hsame⟩ := X0.leave (v := some (.long (((1 : Int64) <<< (p1 &&& 0x3f).toInt64) - (1 : Int64)))) (fun h => by rw [Bd.returns] at h; cases h)
  refine ⟨_, _, go0 _ ?_, hrun, hended, _, _, rfl, ?_, ⟨_, rfl⟩, hW, hsame.mono (by decide) (by decide)⟩
  · show Steps p.tables e below (s₁.setTop (mkF m 0 #[.val (.int p1)] [])) _
    refine XS.lconst X0.here hx rfl (hb hby d6_0) ?_
    show Steps p.tables e below (s₁.setTop (mkF m 1 #[.val (.int p1)] [(.long (1 : Int64))])) _
    refine XS.iloadN X0.here hx rfl (hb hby d6_1) rfl ?_
    show Steps p.tables e below (s₁.setTop (mkF m 2 #[.val (.int p1)] [(.int p1), (.long (1 : Int64))])) _
    refine XS.lshl X0.here hx rfl (hb hby d6_2) rfl ?_
    show Steps p.tables e below (s₁.setTop (mkF m 3 #[.val (.int p1)] [(.long ((1 : Int64) <<< (p1 &&& 0x3f).toInt64))])) _
    refine XS.lconst X0.here hx rfl (hb hby d6_3) ?_
    show Steps p.tables e below (s₁.setTop (mkF m 4 #[.val (.int p1)] [(.long (1 : Int64)), (.long ((1 : Int64) <<< (p1 &&& 0x3f).toInt64))])) _
    refine XS.lsub X0.here hx rfl (hb hby d6_4) rfl ?_
    show Steps p.tables e below (s₁.setTop (mkF m 5 #[.val (.int p1)] [(.long (((1 : Int64) <<< (p1 &&& 0x3f).toInt64) - (1 : Int64)))])) _
    exact X0.lreturnOut hx Bd.returns (hb hby d6_5) hr
  · show Q6 Z p1 h0 n0 _ s₁.heap _
    rw [e0]
    exact ⟨rfl, N0, rfl⟩
theorem pn_3 : plainName "java/lang/Integer" = true := by first | (simp [plainName, overriddenIn]; done) | decide +kernel
theorem ef_3 (m : MethodId) (p1 : Int32) : entryFrame m #[(.int p1)] 2 = mkF m 0 #[.val (.int p1), .unset] [] := by first | (simp [entryFrame, mkF, argsToLocals, Value.category]; done) | rfl
def Q3 (Z : State) (p1 : Int32) (h0 : Heap) (n0 : Nat) (v : Option Value) (h : Heap) (L : List Loc) : Prop := v = some (.int (own_nlz p1)) ∧ Fr n0 L ∧ h = h0
theorem d3_0 : decode jdk_33_method_47_code 0 = .ok (.iload_n 0, 1) := by decide +kernel
theorem d3_1 : decode jdk_33_method_47_code 1 = .ok (.ifCond .gt 14, 3) := by decide +kernel
theorem d3_15 : decode jdk_33_method_47_code 15 = .ok (.bipush 31, 2) := by decide +kernel
theorem d3_17 : decode jdk_33_method_47_code 17 = .ok (.istore_n 1, 1) := by decide +kernel
theorem d3_18 : decode jdk_33_method_47_code 18 = .ok (.iload_n 0, 1) := by decide +kernel
theorem d3_19 : decode jdk_33_method_47_code 19 = .ok (.ldc_w 264, 3) := by decide +kernel
theorem d3_22 : decode jdk_33_method_47_code 22 = .ok (.if_icmp .lt 11, 3) := by decide +kernel
theorem d3_33 : decode jdk_33_method_47_code 33 = .ok (.iload_n 0, 1) := by decide +kernel
theorem d3_34 : decode jdk_33_method_47_code 34 = .ok (.sipush 256, 3) := by decide +kernel
theorem d3_37 : decode jdk_33_method_47_code 37 = .ok (.if_icmp .lt 11, 3) := by decide +kernel
theorem d3_48 : decode jdk_33_method_47_code 48 = .ok (.iload_n 0, 1) := by decide +kernel
theorem d3_49 : decode jdk_33_method_47_code 49 = .ok (.bipush 16, 2) := by decide +kernel
theorem d3_51 : decode jdk_33_method_47_code 51 = .ok (.if_icmp .lt 10, 3) := by decide +kernel
theorem d3_61 : decode jdk_33_method_47_code 61 = .ok (.iload_n 0, 1) := by decide +kernel
theorem d3_62 : decode jdk_33_method_47_code 62 = .ok (.iconst 4, 1) := by decide +kernel
theorem d3_63 : decode jdk_33_method_47_code 63 = .ok (.if_icmp .lt 10, 3) := by decide +kernel
theorem d3_73 : decode jdk_33_method_47_code 73 = .ok (.iload_n 1, 1) := by decide +kernel
theorem d3_74 : decode jdk_33_method_47_code 74 = .ok (.iload_n 0, 1) := by decide +kernel
theorem d3_75 : decode jdk_33_method_47_code 75 = .ok (.iconst 1, 1) := by decide +kernel
theorem d3_76 : decode jdk_33_method_47_code 76 = .ok (.iushr, 1) := by decide +kernel
theorem d3_77 : decode jdk_33_method_47_code 77 = .ok (.isub, 1) := by decide +kernel
theorem d3_78 : decode jdk_33_method_47_code 78 = .ok (.ireturn, 1) := by decide +kernel
theorem d3_66 : decode jdk_33_method_47_code 66 = .ok (.iinc 1 (-2), 3) := by decide +kernel
theorem d3_69 : decode jdk_33_method_47_code 69 = .ok (.iload_n 0, 1) := by decide +kernel
theorem d3_70 : decode jdk_33_method_47_code 70 = .ok (.iconst 2, 1) := by decide +kernel
theorem d3_71 : decode jdk_33_method_47_code 71 = .ok (.iushr, 1) := by decide +kernel
theorem d3_72 : decode jdk_33_method_47_code 72 = .ok (.istore_n 0, 1) := by decide +kernel
theorem d3_54 : decode jdk_33_method_47_code 54 = .ok (.iinc 1 (-4), 3) := by decide +kernel
theorem d3_57 : decode jdk_33_method_47_code 57 = .ok (.iload_n 0, 1) := by decide +kernel
theorem d3_58 : decode jdk_33_method_47_code 58 = .ok (.iconst 4, 1) := by decide +kernel
theorem d3_59 : decode jdk_33_method_47_code 59 = .ok (.iushr, 1) := by decide +kernel
theorem d3_60 : decode jdk_33_method_47_code 60 = .ok (.istore_n 0, 1) := by decide +kernel
set_option maxRecDepth 65536 in
set_option maxHeartbeats 40000000 in
theorem rm3 (l : Launch) (Z : State) (a0 : Array Value) (hw : ∀ d ∈ tables_1, d.before a0 Z = true) (ws : List Jvm.Cond) (p1 : Int32) (h0 : Heap) (n0 : Nat) (Z0 : n0 ≤ h0.size) (hi1 : (0 : Int32) < p1) (hi2 : p1 < (256 : Int32)) (hi3 : p1 < (65536 : Int32)) :
    MetFree l (⟨"java/lang/Integer", "numberOfLeadingZeros", "(I)I"⟩ : MethodName) (head1 (Jvm.Cond.code (⟨"java/lang/Integer", "numberOfLeadingZeros", "(I)I"⟩ : MethodName) jdk_33_method_47_code 2 (some .int) :: ws) ({ frames := 0, cells := 0, slots := 0, locals := 0 } : Room)) (fun a U => a = #[(.int p1)] ∧ Z.Warmed39 U.vm ∧ U.heap = h0) (fun _ _ _ _ _ => True) (fun _ U oU U' => ∃ v L, oU = .returned v ∧ Q3 Z p1 h0 n0 v U'.heap L ∧ FrameEnd U oU U' L ({ frames := 0, cells := 0, slots := 0, locals := 0 } : Room).cells ({ frames := 0, cells := 0, slots := 0, locals := 0 } : Room).slots) := by
  refine MetFree.of_bodySF (plainFor_of_name pn_3) hisR ?_
  intro p e s m args below meth c s₁ Bd hml0 hP hK
  obtain ⟨rfl, hZ, hh⟩ := hP
  have hx := Bd.exec
  have hby := Bd.bytes
  have hml : c.maxLocals = 2 := hml0
  have hown : s.vm.findClass "java/lang/Integer" = some m.cls := findClass_of_methodNamed Bd.named
  have hnm := (name_of_methodNamed Bd.named Bd.method).1
  have X0 : Stand p l e ({ frames := 0, cells := 0, slots := 0, locals := 0 } : Room) s m #[(.int p1)] below meth c s₁ [] 0 0 := Stand.of_body Bd
  have e0 : s₁.heap = h0 := by rw [← hh, Bd.state]; rfl
  have N0 := Fr.nil n0
  have go0 : ∀ t, Steps p.tables e below (s₁.setTop (mkF m 0 #[.val (.int p1), .unset] [])) t → Steps p.tables e below (s₁.setTop (entryFrame m #[(.int p1)] 2)) t := fun t k => castTop (ef_3 m p1) k
  have go1 : ∀ t, Steps p.tables e below (s₁.setTop (mkF m 51 #[.val (.int p1), .val (.int (31 : Int32))] [(.int (16 : Int32)), (.int p1)])) t → Steps p.tables e below (s₁.setTop (entryFrame m #[(.int p1)] 2)) t := by
    intro t kt
    refine go0 t ?_
    show Steps p.tables e below (s₁.setTop (mkF m 0 #[.val (.int p1), .unset] [])) _
    refine XS.iloadN X0.here hx rfl (hb hby d3_0) rfl ?_
    show Steps p.tables e below (s₁.setTop (mkF m 1 #[.val (.int p1), .unset] [(.int p1)])) _
    refine XS.ifYes X0.here hx rfl (pc0 := 1) (pc' := 15) rfl (hb hby d3_1) rfl ((if0 _ _).trans (tlt hi1).2.2.1) (by decide) (by decide) ?_
    show Steps p.tables e below (s₁.setTop (mkF m 15 #[.val (.int p1), .unset] [])) _
    refine XS.bipush X0.here hx rfl (hb hby d3_15) ?_
    show Steps p.tables e below (s₁.setTop (mkF m 17 #[.val (.int p1), .unset] [(.int (31 : Int32))])) _
    refine XS.istoreN X0.here hx rfl (hb hby d3_17) rfl (l' := #[.val (.int p1), .val (.int (31 : Int32))]) rfl ?_
    show Steps p.tables e below (s₁.setTop (mkF m 18 #[.val (.int p1), .val (.int (31 : Int32))] [])) _
    refine XS.iloadN X0.here hx rfl (hb hby d3_18) rfl ?_
    show Steps p.tables e below (s₁.setTop (mkF m 19 #[.val (.int p1), .val (.int (31 : Int32))] [(.int p1)])) _
    refine X0.ldcwInt hx hown (mvT hZ (hw _ (List.mem_of_getElem? (i := 21) rfl))) (g := (mkF m 19 #[.val (.int p1), .val (.int (31 : Int32))] [(.int p1)])) rfl (hb hby d3_19) _ ?_
    show Steps p.tables e below (s₁.setTop (mkF m 22 #[.val (.int p1), .val (.int (31 : Int32))] [(.int (65536 : Int32)), (.int p1)])) _
    refine XS.icmpYes X0.here hx rfl (pc0 := 22) (pc' := 33) rfl (hb hby d3_22) rfl (tlt hi3).1 (by decide) (by decide) ?_
    show Steps p.tables e below (s₁.setTop (mkF m 33 #[.val (.int p1), .val (.int (31 : Int32))] [])) _
    refine XS.iloadN X0.here hx rfl (hb hby d3_33) rfl ?_
    show Steps p.tables e below (s₁.setTop (mkF m 34 #[.val (.int p1), .val (.int (31 : Int32))] [(.int p1)])) _
    refine XS.sipush X0.here hx rfl (hb hby d3_34) ?_
    show Steps p.tables e below (s₁.setTop (mkF m 37 #[.val (.int p1), .val (.int (31 : Int32))] [(.int (256 : Int32)), (.int p1)])) _
    refine XS.icmpYes X0.here hx rfl (pc0 := 37) (pc' := 48) rfl (hb hby d3_37) rfl (tlt hi2).1 (by decide) (by decide) ?_
    show Steps p.tables e below (s₁.setTop (mkF m 48 #[.val (.int p1), .val (.int (31 : Int32))] [])) _
    refine XS.iloadN X0.here hx rfl (hb hby d3_48) rfl ?_
    show Steps p.tables e below (s₁.setTop (mkF m 49 #[.val (.int p1), .val (.int (31 : Int32))] [(.int p1)])) _
    refine XS.bipush X0.here hx rfl (hb hby d3_49) ?_
    exact kt
  by_cases hc51 : p1 < (16 : Int32)
  · -- pc 51: taken
    have go2 : ∀ t, Steps p.tables e below (s₁.setTop (mkF m 63 #[.val (.int p1), .val (.int (31 : Int32))] [(.int (4 : Int32)), (.int p1)])) t → Steps p.tables e below (s₁.setTop (entryFrame m #[(.int p1)] 2)) t := by
      intro t kt
      refine go1 t ?_
      show Steps p.tables e below (s₁.setTop (mkF m 51 #[.val (.int p1), .val (.int (31 : Int32))] [(.int (16 : Int32)), (.int p1)])) _
      refine XS.icmpYes X0.here hx rfl (pc0 := 51) (pc' := 61) rfl (hb hby d3_51) rfl (tlt hc51).1 (by decide) (by decide) ?_
      show Steps p.tables e below (s₁.setTop (mkF m 61 #[.val (.int p1), .val (.int (31 : Int32))] [])) _
      refine XS.iloadN X0.here hx rfl (hb hby d3_61) rfl ?_
      show Steps p.tables e below (s₁.setTop (mkF m 62 #[.val (.int p1), .val (.int (31 : Int32))] [(.int p1)])) _
      refine XS.iconst X0.here hx rfl (hb hby d3_62) ?_
      exact kt
    by_cases hc63 : p1 < (4 : Int32)
    · -- pc 63: taken
      obtain ⟨fs, hr, hrun, hended, hW, hsame⟩ := X0.leave (v := some (.int ((31 : Int32) - ((p1.toUInt32 >>> ((1 : Int32) &&& 31).toUInt32).toInt32)))) (fun h => by rw [Bd.returns] at h; cases h)
      refine ⟨_, _, go2 _ ?_, hrun, hended, _, _, rfl, ?_, ⟨_, rfl⟩, hW, hsame.mono (by decide) (by decide)⟩
      · show Steps p.tables e below (s₁.setTop (mkF m 63 #[.val (.int p1), .val (.int (31 : Int32))] [(.int (4 : Int32)), (.int p1)])) _
        refine XS.icmpYes X0.here hx rfl (pc0 := 63) (pc' := 73) rfl (hb hby d3_63) rfl (tlt hc63).1 (by decide) (by decide) ?_
        show Steps p.tables e below (s₁.setTop (mkF m 73 #[.val (.int p1), .val (.int (31 : Int32))] [])) _
        refine XS.iloadN X0.here hx rfl (hb hby d3_73) rfl ?_
        show Steps p.tables e below (s₁.setTop (mkF m 74 #[.val (.int p1), .val (.int (31 : Int32))] [(.int (31 : Int32))])) _
        refine XS.iloadN X0.here hx rfl (hb hby d3_74) rfl ?_
        show Steps p.tables e below (s₁.setTop (mkF m 75 #[.val (.int p1), .val (.int (31 : Int32))] [(.int p1), (.int (31 : Int32))])) _
        refine XS.iconst X0.here hx rfl (hb hby d3_75) ?_
        show Steps p.tables e below (s₁.setTop (mkF m 76 #[.val (.int p1), .val (.int (31 : Int32))] [(.int (1 : Int32)), (.int p1), (.int (31 : Int32))])) _
        refine XS.iushr X0.here hx rfl (hb hby d3_76) rfl ?_
        show Steps p.tables e below (s₁.setTop (mkF m 77 #[.val (.int p1), .val (.int (31 : Int32))] [(.int ((p1.toUInt32 >>> ((1 : Int32) &&& 31).toUInt32).toInt32)), (.int (31 : Int32))])) _
        refine XS.isub X0.here hx rfl (hb hby d3_77) rfl ?_
        show Steps p.tables e below (s₁.setTop (mkF m 78 #[.val (.int p1), .val (.int (31 : Int32))] [(.int ((31 : Int32) - ((p1.toUInt32 >>> ((1 : Int32) &&& 31).toUInt32).toInt32)))])) _
        exact retI X0 hx Bd.returns (hb hby d3_78) hr
      · show Q3 Z p1 h0 n0 _ s₁.heap _
        rw [e0]
        exact ⟨by rw [own_nlz, if_pos hc51, if_pos hc63], N0, rfl⟩
    · -- pc 63: not taken
      obtain ⟨fs, hr, hrun, hended, hW, hsame⟩ := X0.leave (v := some (.int (((31 : Int32) + (-2 : Int32)) - ((((p1.toUInt32 >>> ((2 : Int32) &&& 31).toUInt32).toInt32).toUInt32 >>> ((1 : Int32) &&& 31).toUInt32).toInt32)))) (fun h => by rw [Bd.returns] at h; cases h)
      refine ⟨_, _, go2 _ ?_, hrun, hended, _, _, rfl, ?_, ⟨_, rfl⟩, hW, hsame.mono (by decide) (by decide)⟩
      · show Steps p.tables e below (s₁.setTop (mkF m 63 #[.val (.int p1), .val (.int (31 : Int32))] [(.int (4 : Int32)), (.int p1)])) _
        refine XS.icmpNo X0.here hx rfl (hb hby d3_63) rfl (flt hc63).1 ?_
        show Steps p.tables e below (s₁.setTop (mkF m 66 #[.val (.int p1), .val (.int (31 : Int32))] [])) _
        refine XS.iinc X0.here hx rfl (hb hby d3_66) rfl (l' := #[.val (.int p1), .val (.int ((31 : Int32) + (-2 : Int32)))]) rfl ?_
        show Steps p.tables e below (s₁.setTop (mkF m 69 #[.val (.int p1), .val (.int ((31 : Int32) + (-2 : Int32)))] [])) _
        refine XS.iloadN X0.here hx rfl (hb hby d3_69) rfl ?_
        show Steps p.tables e below (s₁.setTop (mkF m 70 #[.val (.int p1), .val (.int ((31 : Int32) + (-2 : Int32)))] [(.int p1)])) _
        refine XS.iconst X0.here hx rfl (hb hby d3_70) ?_
        show Steps p.tables e below (s₁.setTop (mkF m 71 #[.val (.int p1), .val (.int ((31 : Int32) + (-2 : Int32)))] [(.int (2 : Int32)), (.int p1)])) _
        refine XS.iushr X0.here hx rfl (hb hby d3_71) rfl ?_
        show Steps p.tables e below (s₁.setTop (mkF m 72 #[.val (.int p1), .val (.int ((31 : Int32) + (-2 : Int32)))] [(.int ((p1.toUInt32 >>> ((2 : Int32) &&& 31).toUInt32).toInt32))])) _
        refine XS.istoreN X0.here hx rfl (hb hby d3_72) rfl (l' := #[.val (.int ((p1.toUInt32 >>> ((2 : Int32) &&& 31).toUInt32).toInt32)), .val (.int ((31 : Int32) + (-2 : Int32)))]) rfl ?_
        show Steps p.tables e below (s₁.setTop (mkF m 73 #[.val (.int ((p1.toUInt32 >>> ((2 : Int32) &&& 31).toUInt32).toInt32)), .val (.int ((31 : Int32) + (-2 : Int32)))] [])) _
        refine XS.iloadN X0.here hx rfl (hb hby d3_73) rfl ?_
        show Steps p.tables e below (s₁.setTop (mkF m 74 #[.val (.int ((p1.toUInt32 >>> ((2 : Int32) &&& 31).toUInt32).toInt32)), .val (.int ((31 : Int32) + (-2 : Int32)))] [(.int ((31 : Int32) + (-2 : Int32)))])) _
        refine XS.iloadN X0.here hx rfl (hb hby d3_74) rfl ?_
        show Steps p.tables e below (s₁.setTop (mkF m 75 #[.val (.int ((p1.toUInt32 >>> ((2 : Int32) &&& 31).toUInt32).toInt32)), .val (.int ((31 : Int32) + (-2 : Int32)))] [(.int ((p1.toUInt32 >>> ((2 : Int32) &&& 31).toUInt32).toInt32)), (.int ((31 : Int32) + (-2 : Int32)))])) _
        refine XS.iconst X0.here hx rfl (hb hby d3_75) ?_
        show Steps p.tables e below (s₁.setTop (mkF m 76 #[.val (.int ((p1.toUInt32 >>> ((2 : Int32) &&& 31).toUInt32).toInt32)), .val (.int ((31 : Int32) + (-2 : Int32)))] [(.int (1 : Int32)), (.int ((p1.toUInt32 >>> ((2 : Int32) &&& 31).toUInt32).toInt32)), (.int ((31 : Int32) + (-2 : Int32)))])) _
        refine XS.iushr X0.here hx rfl (hb hby d3_76) rfl ?_
        show Steps p.tables e below (s₁.setTop (mkF m 77 #[.val (.int ((p1.toUInt32 >>> ((2 : Int32) &&& 31).toUInt32).toInt32)), .val (.int ((31 : Int32) + (-2 : Int32)))] [(.int ((((p1.toUInt32 >>> ((2 : Int32) &&& 31).toUInt32).toInt32).toUInt32 >>> ((1 : Int32) &&& 31).toUInt32).toInt32)), (.int ((31 : Int32) + (-2 : Int32)))])) _
        refine XS.isub X0.here hx rfl (hb hby d3_77) rfl ?_
        show Steps p.tables e below (s₁.setTop (mkF m 78 #[.val (.int ((p1.toUInt32 >>> ((2 : Int32) &&& 31).toUInt32).toInt32)), .val (.int ((31 : Int32) + (-2 : Int32)))] [(.int (((31 : Int32) + (-2 : Int32)) - ((((p1.toUInt32 >>> ((2 : Int32) &&& 31).toUInt32).toInt32).toUInt32 >>> ((1 : Int32) &&& 31).toUInt32).toInt32)))])) _
        exact retI X0 hx Bd.returns (hb hby d3_78) hr
      · show Q3 Z p1 h0 n0 _ s₁.heap _
        rw [e0]
        exact ⟨by rw [own_nlz, if_pos hc51, if_neg hc63], N0, rfl⟩
  · -- pc 51: not taken
    have go3 : ∀ t, Steps p.tables e below (s₁.setTop (mkF m 63 #[.val (.int ((p1.toUInt32 >>> ((4 : Int32) &&& 31).toUInt32).toInt32)), .val (.int ((31 : Int32) + (-4 : Int32)))] [(.int (4 : Int32)), (.int ((p1.toUInt32 >>> ((4 : Int32) &&& 31).toUInt32).toInt32))])) t → Steps p.tables e below (s₁.setTop (entryFrame m #[(.int p1)] 2)) t := by
      intro t kt
      refine go1 t ?_
      show Steps p.tables e below (s₁.setTop (mkF m 51 #[.val (.int p1), .val (.int (31 : Int32))] [(.int (16 : Int32)), (.int p1)])) _
      refine XS.icmpNo X0.here hx rfl (hb hby d3_51) rfl (flt hc51).1 ?_
      show Steps p.tables e below (s₁.setTop (mkF m 54 #[.val (.int p1), .val (.int (31 : Int32))] [])) _
      refine XS.iinc X0.here hx rfl (hb hby d3_54) rfl (l' := #[.val (.int p1), .val (.int ((31 : Int32) + (-4 : Int32)))]) rfl ?_
      show Steps p.tables e below (s₁.setTop (mkF m 57 #[.val (.int p1), .val (.int ((31 : Int32) + (-4 : Int32)))] [])) _
      refine XS.iloadN X0.here hx rfl (hb hby d3_57) rfl ?_
      show Steps p.tables e below (s₁.setTop (mkF m 58 #[.val (.int p1), .val (.int ((31 : Int32) + (-4 : Int32)))] [(.int p1)])) _
      refine XS.iconst X0.here hx rfl (hb hby d3_58) ?_
      show Steps p.tables e below (s₁.setTop (mkF m 59 #[.val (.int p1), .val (.int ((31 : Int32) + (-4 : Int32)))] [(.int (4 : Int32)), (.int p1)])) _
      refine XS.iushr X0.here hx rfl (hb hby d3_59) rfl ?_
      show Steps p.tables e below (s₁.setTop (mkF m 60 #[.val (.int p1), .val (.int ((31 : Int32) + (-4 : Int32)))] [(.int ((p1.toUInt32 >>> ((4 : Int32) &&& 31).toUInt32).toInt32))])) _
      refine XS.istoreN X0.here hx rfl (hb hby d3_60) rfl (l' := #[.val (.int ((p1.toUInt32 >>> ((4 : Int32) &&& 31).toUInt32).toInt32)), .val (.int ((31 : Int32) + (-4 : Int32)))]) rfl ?_
      show Steps p.tables e below (s₁.setTop (mkF m 61 #[.val (.int ((p1.toUInt32 >>> ((4 : Int32) &&& 31).toUInt32).toInt32)), .val (.int ((31 : Int32) + (-4 : Int32)))] [])) _
      refine XS.iloadN X0.here hx rfl (hb hby d3_61) rfl ?_
      show Steps p.tables e below (s₁.setTop (mkF m 62 #[.val (.int ((p1.toUInt32 >>> ((4 : Int32) &&& 31).toUInt32).toInt32)), .val (.int ((31 : Int32) + (-4 : Int32)))] [(.int ((p1.toUInt32 >>> ((4 : Int32) &&& 31).toUInt32).toInt32))])) _
      refine XS.iconst X0.here hx rfl (hb hby d3_62) ?_
      exact kt
    by_cases hc63 : ((p1.toUInt32 >>> ((4 : Int32) &&& 31).toUInt32).toInt32) < (4 : Int32)
    · -- pc 63: taken
      obtain ⟨fs, hr, hrun, hended, hW, hsame⟩ := X0.leave (v := some (.int (((31 : Int32) + (-4 : Int32)) - ((((p1.toUInt32 >>> ((4 : Int32) &&& 31).toUInt32).toInt32).toUInt32 >>> ((1 : Int32) &&& 31).toUInt32).toInt32)))) (fun h => by rw [Bd.returns] at h; cases h)
      refine ⟨_, _, go3 _ ?_, hrun, hended, _, _, rfl, ?_, ⟨_, rfl⟩, hW, hsame.mono (by decide) (by decide)⟩
      · show Steps p.tables e below (s₁.setTop (mkF m 63 #[.val (.int ((p1.toUInt32 >>> ((4 : Int32) &&& 31).toUInt32).toInt32)), .val (.int ((31 : Int32) + (-4 : Int32)))] [(.int (4 : Int32)), (.int ((p1.toUInt32 >>> ((4 : Int32) &&& 31).toUInt32).toInt32))])) _
        refine XS.icmpYes X0.here hx rfl (pc0 := 63) (pc' := 73) rfl (hb hby d3_63) rfl (tlt hc63).1 (by decide) (by decide) ?_
        show Steps p.tables e below (s₁.setTop (mkF m 73 #[.val (.int ((p1.toUInt32 >>> ((4 : Int32) &&& 31).toUInt32).toInt32)), .val (.int ((31 : Int32) + (-4 : Int32)))] [])) _
        refine XS.iloadN X0.here hx rfl (hb hby d3_73) rfl ?_
        show Steps p.tables e below (s₁.setTop (mkF m 74 #[.val (.int ((p1.toUInt32 >>> ((4 : Int32) &&& 31).toUInt32).toInt32)), .val (.int ((31 : Int32) + (-4 : Int32)))] [(.int ((31 : Int32) + (-4 : Int32)))])) _
        refine XS.iloadN X0.here hx rfl (hb hby d3_74) rfl ?_
        show Steps p.tables e below (s₁.setTop (mkF m 75 #[.val (.int ((p1.toUInt32 >>> ((4 : Int32) &&& 31).toUInt32).toInt32)), .val (.int ((31 : Int32) + (-4 : Int32)))] [(.int ((p1.toUInt32 >>> ((4 : Int32) &&& 31).toUInt32).toInt32)), (.int ((31 : Int32) + (-4 : Int32)))])) _
        refine XS.iconst X0.here hx rfl (hb hby d3_75) ?_
        show Steps p.tables e below (s₁.setTop (mkF m 76 #[.val (.int ((p1.toUInt32 >>> ((4 : Int32) &&& 31).toUInt32).toInt32)), .val (.int ((31 : Int32) + (-4 : Int32)))] [(.int (1 : Int32)), (.int ((p1.toUInt32 >>> ((4 : Int32) &&& 31).toUInt32).toInt32)), (.int ((31 : Int32) + (-4 : Int32)))])) _
        refine XS.iushr X0.here hx rfl (hb hby d3_76) rfl ?_
        show Steps p.tables e below (s₁.setTop (mkF m 77 #[.val (.int ((p1.toUInt32 >>> ((4 : Int32) &&& 31).toUInt32).toInt32)), .val (.int ((31 : Int32) + (-4 : Int32)))] [(.int ((((p1.toUInt32 >>> ((4 : Int32) &&& 31).toUInt32).toInt32).toUInt32 >>> ((1 : Int32) &&& 31).toUInt32).toInt32)), (.int ((31 : Int32) + (-4 : Int32)))])) _
        refine XS.isub X0.here hx rfl (hb hby d3_77) rfl ?_
        show Steps p.tables e below (s₁.setTop (mkF m 78 #[.val (.int ((p1.toUInt32 >>> ((4 : Int32) &&& 31).toUInt32).toInt32)), .val (.int ((31 : Int32) + (-4 : Int32)))] [(.int (((31 : Int32) + (-4 : Int32)) - ((((p1.toUInt32 >>> ((4 : Int32) &&& 31).toUInt32).toInt32).toUInt32 >>> ((1 : Int32) &&& 31).toUInt32).toInt32)))])) _
        exact retI X0 hx Bd.returns (hb hby d3_78) hr
      · show Q3 Z p1 h0 n0 _ s₁.heap _
        rw [e0]
        exact ⟨by rw [own_nlz, if_neg hc51, if_pos hc63], N0, rfl⟩
    · -- pc 63: not taken
      obtain ⟨fs, hr, hrun, hended, hW, hsame⟩ := X0.leave (v := some (.int ((((31 : Int32) + (-4 : Int32)) + (-2 : Int32)) - ((((((p1.toUInt32 >>> ((4 : Int32) &&& 31).toUInt32).toInt32).toUInt32 >>> ((2 : Int32) &&& 31).toUInt32).toInt32).toUInt32 >>> ((1 : Int32) &&& 31).toUInt32).toInt32)))) (fun h => by rw [Bd.returns] at h; cases h)
      refine ⟨_, _, go3 _ ?_, hrun, hended, _, _, rfl, ?_, ⟨_, rfl⟩, hW, hsame.mono (by decide) (by decide)⟩
      · show Steps p.tables e below (s₁.setTop (mkF m 63 #[.val (.int ((p1.toUInt32 >>> ((4 : Int32) &&& 31).toUInt32).toInt32)), .val (.int ((31 : Int32) + (-4 : Int32)))] [(.int (4 : Int32)), (.int ((p1.toUInt32 >>> ((4 : Int32) &&& 31).toUInt32).toInt32))])) _
        refine XS.icmpNo X0.here hx rfl (hb hby d3_63) rfl (flt hc63).1 ?_
        show Steps p.tables e below (s₁.setTop (mkF m 66 #[.val (.int ((p1.toUInt32 >>> ((4 : Int32) &&& 31).toUInt32).toInt32)), .val (.int ((31 : Int32) + (-4 : Int32)))] [])) _
        refine XS.iinc X0.here hx rfl (hb hby d3_66) rfl (l' := #[.val (.int ((p1.toUInt32 >>> ((4 : Int32) &&& 31).toUInt32).toInt32)), .val (.int (((31 : Int32) + (-4 : Int32)) + (-2 : Int32)))]) rfl ?_
        show Steps p.tables e below (s₁.setTop (mkF m 69 #[.val (.int ((p1.toUInt32 >>> ((4 : Int32) &&& 31).toUInt32).toInt32)), .val (.int (((31 : Int32) + (-4 : Int32)) + (-2 : Int32)))] [])) _
        refine XS.iloadN X0.here hx rfl (hb hby d3_69) rfl ?_
        show Steps p.tables e below (s₁.setTop (mkF m 70 #[.val (.int ((p1.toUInt32 >>> ((4 : Int32) &&& 31).toUInt32).toInt32)), .val (.int (((31 : Int32) + (-4 : Int32)) + (-2 : Int32)))] [(.int ((p1.toUInt32 >>> ((4 : Int32) &&& 31).toUInt32).toInt32))])) _
        refine XS.iconst X0.here hx rfl (hb hby d3_70) ?_
        show Steps p.tables e below (s₁.setTop (mkF m 71 #[.val (.int ((p1.toUInt32 >>> ((4 : Int32) &&& 31).toUInt32).toInt32)), .val (.int (((31 : Int32) + (-4 : Int32)) + (-2 : Int32)))] [(.int (2 : Int32)), (.int ((p1.toUInt32 >>> ((4 : Int32) &&& 31).toUInt32).toInt32))])) _
        refine XS.iushr X0.here hx rfl (hb hby d3_71) rfl ?_
        show Steps p.tables e below (s₁.setTop (mkF m 72 #[.val (.int ((p1.toUInt32 >>> ((4 : Int32) &&& 31).toUInt32).toInt32)), .val (.int (((31 : Int32) + (-4 : Int32)) + (-2 : Int32)))] [(.int ((((p1.toUInt32 >>> ((4 : Int32) &&& 31).toUInt32).toInt32).toUInt32 >>> ((2 : Int32) &&& 31).toUInt32).toInt32))])) _
        refine XS.istoreN X0.here hx rfl (hb hby d3_72) rfl (l' := #[.val (.int ((((p1.toUInt32 >>> ((4 : Int32) &&& 31).toUInt32).toInt32).toUInt32 >>> ((2 : Int32) &&& 31).toUInt32).toInt32)), .val (.int (((31 : Int32) + (-4 : Int32)) + (-2 : Int32)))]) rfl ?_
        show Steps p.tables e below (s₁.setTop (mkF m 73 #[.val (.int ((((p1.toUInt32 >>> ((4 : Int32) &&& 31).toUInt32).toInt32).toUInt32 >>> ((2 : Int32) &&& 31).toUInt32).toInt32)), .val (.int (((31 : Int32) + (-4 : Int32)) + (-2 : Int32)))] [])) _
        refine XS.iloadN X0.here hx rfl (hb hby d3_73) rfl ?_
        show Steps p.tables e below (s₁.setTop (mkF m 74 #[.val (.int ((((p1.toUInt32 >>> ((4 : Int32) &&& 31).toUInt32).toInt32).toUInt32 >>> ((2 : Int32) &&& 31).toUInt32).toInt32)), .val (.int (((31 : Int32) + (-4 : Int32)) + (-2 : Int32)))] [(.int (((31 : Int32) + (-4 : Int32)) + (-2 : Int32)))])) _
        refine XS.iloadN X0.here hx rfl (hb hby d3_74) rfl ?_
        show Steps p.tables e below (s₁.setTop (mkF m 75 #[.val (.int ((((p1.toUInt32 >>> ((4 : Int32) &&& 31).toUInt32).toInt32).toUInt32 >>> ((2 : Int32) &&& 31).toUInt32).toInt32)), .val (.int (((31 : Int32) + (-4 : Int32)) + (-2 : Int32)))] [(.int ((((p1.toUInt32 >>> ((4 : Int32) &&& 31).toUInt32).toInt32).toUInt32 >>> ((2 : Int32) &&& 31).toUInt32).toInt32)), (.int (((31 : Int32) + (-4 : Int32)) + (-2 : Int32)))])) _
        refine XS.iconst X0.here hx rfl (hb hby d3_75) ?_
        show Steps p.tables e below (s₁.setTop (mkF m 76 #[.val (.int ((((p1.toUInt32 >>> ((4 : Int32) &&& 31).toUInt32).toInt32).toUInt32 >>> ((2 : Int32) &&& 31).toUInt32).toInt32)), .val (.int (((31 : Int32) + (-4 : Int32)) + (-2 : Int32)))] [(.int (1 : Int32)), (.int ((((p1.toUInt32 >>> ((4 : Int32) &&& 31).toUInt32).toInt32).toUInt32 >>> ((2 : Int32) &&& 31).toUInt32).toInt32)), (.int (((31 : Int32) + (-4 : Int32)) + (-2 : Int32)))])) _
        refine XS.iushr X0.here hx rfl (hb hby d3_76) rfl ?_
        show Steps p.tables e below (s₁.setTop (mkF m 77 #[.val (.int ((((p1.toUInt32 >>> ((4 : Int32) &&& 31).toUInt32).toInt32).toUInt32 >>> ((2 : Int32) &&& 31).toUInt32).toInt32)), .val (.int (((31 : Int32) + (-4 : Int32)) + (-2 : Int32)))] [(.int ((((((p1.toUInt32 >>> ((4 : Int32) &&& 31).toUInt32).toInt32).toUInt32 >>> ((2 : Int32) &&& 31).toUInt32).toInt32).toUInt32 >>> ((1 : Int32) &&& 31).toUInt32).toInt32)), (.int (((31 : Int32) + (-4 : Int32)) + (-2 : Int32)))])) _
        refine XS.isub X0.here hx rfl (hb hby d3_77) rfl ?_
        show Steps p.tables e below (s₁.setTop (mkF m 78 #[.val (.int ((((p1.toUInt32 >>> ((4 : Int32) &&& 31).toUInt32).toInt32).toUInt32 >>> ((2 : Int32) &&& 31).toUInt32).toInt32)), .val (.int (((31 : Int32) + (-4 : Int32)) + (-2 : Int32)))] [(.int ((((31 : Int32) + (-4 : Int32)) + (-2 : Int32)) - ((((((p1.toUInt32 >>> ((4 : Int32) &&& 31).toUInt32).toInt32).toUInt32 >>> ((2 : Int32) &&& 31).toUInt32).toInt32).toUInt32 >>> ((1 : Int32) &&& 31).toUInt32).toInt32)))])) _
        exact retI X0 hx Bd.returns (hb hby d3_78) hr
      · show Q3 Z p1 h0 n0 _ s₁.heap _
        rw [e0]
        exact ⟨by rw [own_nlz, if_neg hc51, if_neg hc63], N0, rfl⟩
theorem ef_1 (m : MethodId) (o : Addr) (arr : Addr) : entryFrame m #[(.ref o), (.ref arr), (.int (0 : Int32)), (.int (3 : Int32))] 5 = mkF m 0 #[.val (.ref o), .val (.ref arr), .val (.int (0 : Int32)), .val (.int (3 : Int32)), .unset] [] := by first | (simp [entryFrame, mkF, argsToLocals, Value.category]; done) | rfl
def Q1 (Z : State) (o : Addr) (arr : Addr) (w2 : Int32) (h0 : Heap) (n0 : Nat) (v : Option Value) (h : Heap) (L : List Loc) : Prop := v = none ∧ Fr n0 L ∧ Keep h0 h [o] ∧ Fld Z h o "com/example/segmented_log/segmentedlog/format/BackwardBits" "bytes" "[B" (.ref arr) ∧ Fld Z h o "com/example/segmented_log/segmentedlog/format/BackwardBits" "from" "I" (.int (0 : Int32)) ∧ Fld Z h o "com/example/segmented_log/segmentedlog/format/BackwardBits" "container" "J" (.long ((w2 &&& (255 : Int32)).toInt64)) ∧ Fld Z h o "com/example/segmented_log/segmentedlog/format/BackwardBits" "bits" "I" (.int ((31 : Int32) - own_nlz (w2 &&& (255 : Int32)))) ∧ Fld Z h o "com/example/segmented_log/segmentedlog/format/BackwardBits" "loadedFrom" "I" (.int (2 : Int32)) ∧ Fld Z h o "com/example/segmented_log/segmentedlog/format/BackwardBits" "pastStart" "J" (.long (0 : Int64))
theorem d1_0 : decode prog_13_method_1_code 0 = .ok (.aload_n 0, 1) := by decide +kernel
theorem d1_1 : decode prog_13_method_1_code 1 = .ok (.invokespecial 1, 3) := by decide +kernel
theorem d1_4 : decode prog_13_method_1_code 4 = .ok (.iload_n 3, 1) := by decide +kernel
theorem d1_5 : decode prog_13_method_1_code 5 = .ok (.iload_n 2, 1) := by decide +kernel
theorem d1_6 : decode prog_13_method_1_code 6 = .ok (.if_icmp .le 11, 3) := by decide +kernel
theorem d1_9 : decode prog_13_method_1_code 9 = .ok (.aload_n 1, 1) := by decide +kernel
theorem d1_10 : decode prog_13_method_1_code 10 = .ok (.iload_n 3, 1) := by decide +kernel
theorem d1_11 : decode prog_13_method_1_code 11 = .ok (.iconst 1, 1) := by decide +kernel
theorem d1_12 : decode prog_13_method_1_code 12 = .ok (.isub, 1) := by decide +kernel
theorem d1_13 : decode prog_13_method_1_code 13 = .ok (.baload, 1) := by decide +kernel
theorem d1_14 : decode prog_13_method_1_code 14 = .ok (.ifCond .ne 13, 3) := by decide +kernel
theorem d1_27 : decode prog_13_method_1_code 27 = .ok (.aload_n 0, 1) := by decide +kernel
theorem d1_28 : decode prog_13_method_1_code 28 = .ok (.aload_n 1, 1) := by decide +kernel
theorem d1_29 : decode prog_13_method_1_code 29 = .ok (.putfield 14, 3) := by decide +kernel
theorem d1_32 : decode prog_13_method_1_code 32 = .ok (.aload_n 0, 1) := by decide +kernel
theorem d1_33 : decode prog_13_method_1_code 33 = .ok (.iload_n 2, 1) := by decide +kernel
theorem d1_34 : decode prog_13_method_1_code 34 = .ok (.putfield 20, 3) := by decide +kernel
theorem d1_37 : decode prog_13_method_1_code 37 = .ok (.aload_n 1, 1) := by decide +kernel
theorem d1_38 : decode prog_13_method_1_code 38 = .ok (.iload_n 3, 1) := by decide +kernel
theorem d1_39 : decode prog_13_method_1_code 39 = .ok (.iconst 1, 1) := by decide +kernel
theorem d1_40 : decode prog_13_method_1_code 40 = .ok (.isub, 1) := by decide +kernel
theorem d1_41 : decode prog_13_method_1_code 41 = .ok (.baload, 1) := by decide +kernel
theorem d1_42 : decode prog_13_method_1_code 42 = .ok (.sipush 255, 3) := by decide +kernel
theorem d1_45 : decode prog_13_method_1_code 45 = .ok (.iand, 1) := by decide +kernel
theorem d1_46 : decode prog_13_method_1_code 46 = .ok (.istore 4, 2) := by decide +kernel
theorem d1_48 : decode prog_13_method_1_code 48 = .ok (.aload_n 0, 1) := by decide +kernel
theorem d1_49 : decode prog_13_method_1_code 49 = .ok (.iload 4, 2) := by decide +kernel
theorem d1_51 : decode prog_13_method_1_code 51 = .ok (.i2l, 1) := by decide +kernel
theorem d1_52 : decode prog_13_method_1_code 52 = .ok (.putfield 24, 3) := by decide +kernel
theorem d1_55 : decode prog_13_method_1_code 55 = .ok (.aload_n 0, 1) := by decide +kernel
theorem d1_56 : decode prog_13_method_1_code 56 = .ok (.bipush 31, 2) := by decide +kernel
theorem d1_58 : decode prog_13_method_1_code 58 = .ok (.iload 4, 2) := by decide +kernel
theorem d1_60 : decode prog_13_method_1_code 60 = .ok (.invokestatic 28, 3) := by decide +kernel
theorem pd_0 : parseMethodDescriptor "(I)I" = some ⟨[.int], some .int⟩ := by decide +kernel
theorem d1_63 : decode prog_13_method_1_code 63 = .ok (.isub, 1) := by decide +kernel
theorem d1_64 : decode prog_13_method_1_code 64 = .ok (.putfield 34, 3) := by decide +kernel
theorem d1_67 : decode prog_13_method_1_code 67 = .ok (.aload_n 0, 1) := by decide +kernel
theorem d1_68 : decode prog_13_method_1_code 68 = .ok (.iload_n 3, 1) := by decide +kernel
theorem d1_69 : decode prog_13_method_1_code 69 = .ok (.iconst 1, 1) := by decide +kernel
theorem d1_70 : decode prog_13_method_1_code 70 = .ok (.isub, 1) := by decide +kernel
theorem d1_71 : decode prog_13_method_1_code 71 = .ok (.putfield 37, 3) := by decide +kernel
theorem d1_74 : decode prog_13_method_1_code 74 = .ok (.return_, 1) := by decide +kernel
set_option maxRecDepth 65536 in
set_option maxHeartbeats 40000000 in
theorem rm1 (l : Launch) (Z : State) (a0 : Array Value) (hw : ∀ d ∈ tables_1, d.before a0 Z = true) (ws : List Jvm.Cond) (o arr : Addr) (kc : ClassId) (w0 w1 w2 : Int32) (h0 : Heap) (n0 : Nat) (Z0 : n0 ≤ h0.size) (ge : n0 ≤ o) (E : Exa Z h0 o "com/example/segmented_log/segmentedlog/format/BackwardBits") (F_bytes : Fld Z h0 o "com/example/segmented_log/segmentedlog/format/BackwardBits" "bytes" "[B" .null) (F_from : Fld Z h0 o "com/example/segmented_log/segmentedlog/format/BackwardBits" "from" "I" (.int (0 : Int32))) (F_container : Fld Z h0 o "com/example/segmented_log/segmentedlog/format/BackwardBits" "container" "J" (.long (0 : Int64))) (F_bits : Fld Z h0 o "com/example/segmented_log/segmentedlog/format/BackwardBits" "bits" "I" (.int (0 : Int32))) (F_loadedFrom : Fld Z h0 o "com/example/segmented_log/segmentedlog/format/BackwardBits" "loadedFrom" "I" (.int (0 : Int32))) (F_pastStart : Fld Z h0 o "com/example/segmented_log/segmentedlog/format/BackwardBits" "pastStart" "J" (.long (0 : Int64))) (V : Arv Z h0 arr kc .byte (3 : Int32) [(.int w0), (.int w1), (.int w2)] (.int (0 : Int32))) (nea : arr ≠ o) (hw0 : ¬ w2 = (0 : Int32)) (hi1 : (0 : Int32) < (w2 &&& (255 : Int32))) (hi2 : (w2 &&& (255 : Int32)) < (256 : Int32)) (hi3 : (w2 &&& (255 : Int32)) < (65536 : Int32)) :
    MetFree l (⟨"com/example/segmented_log/segmentedlog/format/BackwardBits", "<init>", "([BII)V"⟩ : MethodName) (head1 (Jvm.Cond.code (⟨"com/example/segmented_log/segmentedlog/format/BackwardBits", "<init>", "([BII)V"⟩ : MethodName) prog_13_method_1_code 5 none :: ws) ({ frames := 1, cells := 0, slots := 0, locals := 16 } : Room)) (fun a U => a = #[(.ref o), (.ref arr), (.int (0 : Int32)), (.int (3 : Int32))] ∧ Z.Warmed39 U.vm ∧ U.heap = h0) (fun _ _ _ _ _ => True) (fun _ U oU U' => ∃ v L, oU = .returned v ∧ Q1 Z o arr w2 h0 n0 v U'.heap L ∧ FrameEnd U oU U' L ({ frames := 1, cells := 0, slots := 0, locals := 16 } : Room).cells ({ frames := 1, cells := 0, slots := 0, locals := 16 } : Room).slots) := by
  refine MetFree.of_bodySF (plainFor_of_name pn_6) hisR ?_
  intro p e s m args below meth c s₁ Bd hml0 hP hK
  obtain ⟨rfl, hZ, hh⟩ := hP
  have hx := Bd.exec
  have hby := Bd.bytes
  have hml : c.maxLocals = 5 := hml0
  have hown : s.vm.findClass "com/example/segmented_log/segmentedlog/format/BackwardBits" = some m.cls := findClass_of_methodNamed Bd.named
  have hnm := (name_of_methodNamed Bd.named Bd.method).1
  have X0 : Stand p l e ({ frames := 1, cells := 0, slots := 0, locals := 16 } : Room) s m #[(.ref o), (.ref arr), (.int (0 : Int32)), (.int (3 : Int32))] below meth c s₁ [] 0 0 := Stand.of_body Bd
  have e0 : s₁.heap = h0 := by rw [← hh, Bd.state]; rfl
  have N0 := Fr.nil n0
  have go0 : ∀ t, Steps p.tables e below (s₁.setTop (mkF m 0 #[.val (.ref o), .val (.ref arr), .val (.int (0 : Int32)), .val (.int (3 : Int32)), .unset] [])) t → Steps p.tables e below (s₁.setTop (entryFrame m #[(.ref o), (.ref arr), (.int (0 : Int32)), (.int (3 : Int32))] 5)) t := fun t k => castTop (ef_1 m o arr) k
  obtain ⟨T1, X1, e1, st1⟩ := initO X0 hx hZ hown (hw _ (List.mem_of_getElem? (i := 8) rfl)) (hw _ (List.mem_of_getElem? (i := 9) rfl)) (hw _ (List.mem_of_getElem? (i := 10) rfl)) e0 (g := (mkF m 1 #[.val (.ref o), .val (.ref arr), .val (.int (0 : Int32)), .val (.int (3 : Int32)), .unset] [(.ref o)])) rfl (by rw [hml]; rfl) rfl (hb hby d1_1) (by decide) (W := 0) (by show 2 * 0 + _ ≤ _; exact Nat.le_of_eq rfl) (by decide)
  obtain ⟨cl2, Ar2, q2, S2, M2, Hh2, G2⟩ := id V
  have hin2 : ¬ (((3 : Int32) - (1 : Int32)) < 0 ∨ cl2.slots.size ≤ (((3 : Int32) - (1 : Int32))).toNatClampNeg) := inb_of S2 ⟨by decide, by decide⟩
  have hat2 : cl2.slots[(((3 : Int32) - (1 : Int32))).toNatClampNeg]? = some (.int w2) := Has.at Hh2 hin2 rfl
  obtain ⟨T3, h3, X3, e3, W3, st3⟩ := putF X1 hx hZ hown (host := "") (Or.inl (hw _ (List.mem_of_getElem? (i := 11) rfl))) Via.refl e1 F_bytes E (Or.inr ⟨(hw _ (List.mem_of_getElem? (i := 12) rfl)), rfl, hnm⟩) (hw _ (List.mem_of_getElem? (i := 3) rfl)) (ty := (.array .byte)) (by decide) rfl rfl (g := (mkF m 29 #[.val (.ref o), .val (.ref arr), .val (.int (0 : Int32)), .val (.int (3 : Int32)), .unset] [(.ref arr), (.ref o)])) rfl rfl (hb hby d1_29)
  have E3_o := E.wr W3
  have F3_o_bytes := F_bytes.same W3
  have F3_o_from := F_from.other W3 (Or.inr (slot_ne (Or.inr (hw _ (List.mem_of_getElem? (i := 14) rfl))) (Or.inr (hw _ (List.mem_of_getElem? (i := 12) rfl))) (by decide) (t := .int) (t' := (.array .byte)) (by decide) (by decide)))
  have F3_o_container := F_container.other W3 (Or.inr (slot_ne (Or.inl (hw _ (List.mem_of_getElem? (i := 16) rfl))) (Or.inr (hw _ (List.mem_of_getElem? (i := 12) rfl))) (by decide) (t := .long) (t' := (.array .byte)) (by decide) (by decide)))
  have F3_o_bits := F_bits.other W3 (Or.inr (slot_ne (Or.inl (hw _ (List.mem_of_getElem? (i := 23) rfl))) (Or.inr (hw _ (List.mem_of_getElem? (i := 12) rfl))) (by decide) (t := .int) (t' := (.array .byte)) (by decide) (by decide)))
  have F3_o_loadedFrom := F_loadedFrom.other W3 (Or.inr (slot_ne (Or.inl (hw _ (List.mem_of_getElem? (i := 25) rfl))) (Or.inr (hw _ (List.mem_of_getElem? (i := 12) rfl))) (by decide) (t := .int) (t' := (.array .byte)) (by decide) (by decide)))
  have F3_o_pastStart := F_pastStart.other W3 (Or.inr (slot_ne (Or.inl (hw _ (List.mem_of_getElem? (i := 49) rfl))) (Or.inr (hw _ (List.mem_of_getElem? (i := 12) rfl))) (by decide) (t := .long) (t' := (.array .byte)) (by decide) (by decide)))
  have V3_arr := V.other W3 nea
  have N3 := Fr.snoc X3 N0 ge
  have K3 : Keep h0 h3 [o] := (Keep.refl h0 [o]).wr W3 (Or.inl (List.mem_of_getElem? (i := 0) rfl))
  obtain ⟨T4, h4, X4, e4, W4, st4⟩ := putF X3 hx hZ hown (host := "") (Or.inl (hw _ (List.mem_of_getElem? (i := 13) rfl))) Via.refl e3 F3_o_from E3_o (Or.inr ⟨(hw _ (List.mem_of_getElem? (i := 14) rfl)), rfl, hnm⟩) (hw _ (List.mem_of_getElem? (i := 3) rfl)) (ty := .int) (by decide) rfl rfl (g := (mkF m 34 #[.val (.ref o), .val (.ref arr), .val (.int (0 : Int32)), .val (.int (3 : Int32)), .unset] [(.int (0 : Int32)), (.ref o)])) rfl rfl (hb hby d1_34)
  have E4_o := E3_o.wr W4
  have F4_o_bytes := F3_o_bytes.other W4 (Or.inr (slot_ne (Or.inr (hw _ (List.mem_of_getElem? (i := 12) rfl))) (Or.inr (hw _ (List.mem_of_getElem? (i := 14) rfl))) (by decide) (t := (.array .byte)) (t' := .int) (by decide) (by decide)))
  have F4_o_from := F3_o_from.same W4
  have F4_o_container := F3_o_container.other W4 (Or.inr (slot_ne (Or.inl (hw _ (List.mem_of_getElem? (i := 16) rfl))) (Or.inr (hw _ (List.mem_of_getElem? (i := 14) rfl))) (by decide) (t := .long) (t' := .int) (by decide) (by decide)))
  have F4_o_bits := F3_o_bits.other W4 (Or.inr (slot_ne (Or.inl (hw _ (List.mem_of_getElem? (i := 23) rfl))) (Or.inr (hw _ (List.mem_of_getElem? (i := 14) rfl))) (by decide) (t := .int) (t' := .int) (by decide) (by decide)))
  have F4_o_loadedFrom := F3_o_loadedFrom.other W4 (Or.inr (slot_ne (Or.inl (hw _ (List.mem_of_getElem? (i := 25) rfl))) (Or.inr (hw _ (List.mem_of_getElem? (i := 14) rfl))) (by decide) (t := .int) (t' := .int) (by decide) (by decide)))
  have F4_o_pastStart := F3_o_pastStart.other W4 (Or.inr (slot_ne (Or.inl (hw _ (List.mem_of_getElem? (i := 49) rfl))) (Or.inr (hw _ (List.mem_of_getElem? (i := 14) rfl))) (by decide) (t := .long) (t' := .int) (by decide) (by decide)))
  have V4_arr := V3_arr.other W4 nea
  have N4 := Fr.snoc X4 N3 ge
  have K4 : Keep h0 h4 [o] := K3.wr W4 (Or.inl (List.mem_of_getElem? (i := 0) rfl))
  obtain ⟨cl5, Ar5, q5, S5, M5, Hh5, G5⟩ := id V4_arr
  have hin5 : ¬ (((3 : Int32) - (1 : Int32)) < 0 ∨ cl5.slots.size ≤ (((3 : Int32) - (1 : Int32))).toNatClampNeg) := inb_of S5 ⟨by decide, by decide⟩
  have hat5 : cl5.slots[(((3 : Int32) - (1 : Int32))).toNatClampNeg]? = some (.int w2) := Has.at Hh5 hin5 rfl
  obtain ⟨T6, h6, X6, e6, W6, st6⟩ := putF X4 hx hZ hown (host := "") (Or.inl (hw _ (List.mem_of_getElem? (i := 15) rfl))) Via.refl e4 F4_o_container E4_o (Or.inl (hw _ (List.mem_of_getElem? (i := 16) rfl))) (hw _ (List.mem_of_getElem? (i := 3) rfl)) (ty := .long) (by decide) rfl rfl (g := (mkF m 52 #[.val (.ref o), .val (.ref arr), .val (.int (0 : Int32)), .val (.int (3 : Int32)), .val (.int (w2 &&& (255 : Int32)))] [(.long ((w2 &&& (255 : Int32)).toInt64)), (.ref o)])) rfl rfl (hb hby d1_52)
  have E6_o := E4_o.wr W6
  have F6_o_bytes := F4_o_bytes.other W6 (Or.inr (slot_ne (Or.inr (hw _ (List.mem_of_getElem? (i := 12) rfl))) (Or.inl (hw _ (List.mem_of_getElem? (i := 16) rfl))) (by decide) (t := (.array .byte)) (t' := .long) (by decide) (by decide)))
  have F6_o_from := F4_o_from.other W6 (Or.inr (slot_ne (Or.inr (hw _ (List.mem_of_getElem? (i := 14) rfl))) (Or.inl (hw _ (List.mem_of_getElem? (i := 16) rfl))) (by decide) (t := .int) (t' := .long) (by decide) (by decide)))
  have F6_o_container := F4_o_container.same W6
  have F6_o_bits := F4_o_bits.other W6 (Or.inr (slot_ne (Or.inl (hw _ (List.mem_of_getElem? (i := 23) rfl))) (Or.inl (hw _ (List.mem_of_getElem? (i := 16) rfl))) (by decide) (t := .int) (t' := .long) (by decide) (by decide)))
  have F6_o_loadedFrom := F4_o_loadedFrom.other W6 (Or.inr (slot_ne (Or.inl (hw _ (List.mem_of_getElem? (i := 25) rfl))) (Or.inl (hw _ (List.mem_of_getElem? (i := 16) rfl))) (by decide) (t := .int) (t' := .long) (by decide) (by decide)))
  have F6_o_pastStart := F4_o_pastStart.other W6 (Or.inr (slot_ne (Or.inl (hw _ (List.mem_of_getElem? (i := 49) rfl))) (Or.inl (hw _ (List.mem_of_getElem? (i := 16) rfl))) (by decide) (t := .long) (t' := .long) (by decide) (by decide)))
  have V6_arr := V4_arr.other W6 nea
  have N6 := Fr.snoc X6 N4 ge
  have K6 : Keep h0 h6 [o] := K4.wr W6 (Or.inl (List.mem_of_getElem? (i := 0) rfl))
  obtain ⟨_, _, ⟨T7, L7, k7, n7⟩, -, X7, ⟨Lc7, hQ7, l7, y7, z7⟩, st7⟩ := Jvm.LawKit.callS X6 hx (y := (⟨"java/lang/Integer", "numberOfLeadingZeros", "(I)I"⟩ : MethodName)) hown (mvT hZ (hw _ (List.mem_of_getElem? (i := 17) rfl))) (mvT hZ (hw _ (List.mem_of_getElem? (i := 18) rfl))) (mvT hZ (hw _ (List.mem_of_getElem? (i := 19) rfl))) (mvT hZ (hw _ (List.mem_of_getElem? (i := 20) rfl))) (by decide) (backOf (W := 2) (rm3 l Z a0 hw [] (w2 &&& (255 : Int32)) h6 n0 (Nat.le_trans (Nat.le_trans (Nat.le_trans Z0 (Keep.of_wr W3).1) (Keep.of_wr W4).1) (Keep.of_wr W6).1) hi1 hi2 hi3) hZ (hw _ (List.mem_of_getElem? (i := 20) rfl)) (hw _ (List.mem_of_getElem? (i := 19) rfl)) (by decide) (by decide)) (g := (mkF m 60 #[.val (.ref o), .val (.ref arr), .val (.int (0 : Int32)), .val (.int (3 : Int32)), .val (.int (w2 &&& (255 : Int32)))] [(.int (w2 &&& (255 : Int32))), (.int (31 : Int32)), (.ref o)])) rfl (by rw [hml]; rfl) (argsL := [(.int (w2 &&& (255 : Int32)))]) (rest := [(.int (31 : Int32)), (.ref o)]) (lenOf pd_0 rfl) rfl (by show 2 * 0 + _ ≤ _; exact Nat.le_of_eq rfl) (hb hby d1_60) (fun _ _ => ⟨rfl, e6, (by decide : 0 + 0 ≤ _), (by decide : 0 + 0 ≤ _)⟩)
  dsimp only [Pt.U, Pt.locs, Pt.cells, Pt.slots] at X7 l7 y7 z7 st7 hQ7
  subst l7 y7 z7
  obtain ⟨rfl, N7q, eh7⟩ := hQ7
  have N7 := Fr.app N6 N7q
  obtain ⟨T8, h8, X8, e8, W8, st8⟩ := putF X7 hx hZ hown (host := "") (Or.inl (hw _ (List.mem_of_getElem? (i := 22) rfl))) Via.refl eh7 F6_o_bits E6_o (Or.inl (hw _ (List.mem_of_getElem? (i := 23) rfl))) (hw _ (List.mem_of_getElem? (i := 3) rfl)) (ty := .int) (by decide) rfl rfl (g := (mkF m 64 #[.val (.ref o), .val (.ref arr), .val (.int (0 : Int32)), .val (.int (3 : Int32)), .val (.int (w2 &&& (255 : Int32)))] [(.int ((31 : Int32) - (own_nlz (w2 &&& (255 : Int32))))), (.ref o)])) rfl rfl (hb hby d1_64)
  have E8_o := E6_o.wr W8
  have F8_o_bytes := F6_o_bytes.other W8 (Or.inr (slot_ne (Or.inr (hw _ (List.mem_of_getElem? (i := 12) rfl))) (Or.inl (hw _ (List.mem_of_getElem? (i := 23) rfl))) (by decide) (t := (.array .byte)) (t' := .int) (by decide) (by decide)))
  have F8_o_from := F6_o_from.other W8 (Or.inr (slot_ne (Or.inr (hw _ (List.mem_of_getElem? (i := 14) rfl))) (Or.inl (hw _ (List.mem_of_getElem? (i := 23) rfl))) (by decide) (t := .int) (t' := .int) (by decide) (by decide)))
  have F8_o_container := F6_o_container.other W8 (Or.inr (slot_ne (Or.inl (hw _ (List.mem_of_getElem? (i := 16) rfl))) (Or.inl (hw _ (List.mem_of_getElem? (i := 23) rfl))) (by decide) (t := .long) (t' := .int) (by decide) (by decide)))
  have F8_o_bits := F6_o_bits.same W8
  have F8_o_loadedFrom := F6_o_loadedFrom.other W8 (Or.inr (slot_ne (Or.inl (hw _ (List.mem_of_getElem? (i := 25) rfl))) (Or.inl (hw _ (List.mem_of_getElem? (i := 23) rfl))) (by decide) (t := .int) (t' := .int) (by decide) (by decide)))
  have F8_o_pastStart := F6_o_pastStart.other W8 (Or.inr (slot_ne (Or.inl (hw _ (List.mem_of_getElem? (i := 49) rfl))) (Or.inl (hw _ (List.mem_of_getElem? (i := 23) rfl))) (by decide) (t := .long) (t' := .int) (by decide) (by decide)))
  have V8_arr := V6_arr.other W8 nea
  have N8 := Fr.snoc X8 N7 ge
  have K8 : Keep h0 h8 [o] := K6.wr W8 (Or.inl (List.mem_of_getElem? (i := 0) rfl))
  obtain ⟨T9, h9, X9, e9, W9, st9⟩ := putF X8 hx hZ hown (host := "") (Or.inl (hw _ (List.mem_of_getElem? (i := 24) rfl))) Via.refl e8 F8_o_loadedFrom E8_o (Or.inl (hw _ (List.mem_of_getElem? (i := 25) rfl))) (hw _ (List.mem_of_getElem? (i := 3) rfl)) (ty := .int) (by decide) rfl rfl (g := (mkF m 71 #[.val (.ref o), .val (.ref arr), .val (.int (0 : Int32)), .val (.int (3 : Int32)), .val (.int (w2 &&& (255 : Int32)))] [(.int ((3 : Int32) - (1 : Int32))), (.ref o)])) rfl rfl (hb hby d1_71)
  have E9_o := E8_o.wr W9
  have F9_o_bytes := F8_o_bytes.other W9 (Or.inr (slot_ne (Or.inr (hw _ (List.mem_of_getElem? (i := 12) rfl))) (Or.inl (hw _ (List.mem_of_getElem? (i := 25) rfl))) (by decide) (t := (.array .byte)) (t' := .int) (by decide) (by decide)))
  have F9_o_from := F8_o_from.other W9 (Or.inr (slot_ne (Or.inr (hw _ (List.mem_of_getElem? (i := 14) rfl))) (Or.inl (hw _ (List.mem_of_getElem? (i := 25) rfl))) (by decide) (t := .int) (t' := .int) (by decide) (by decide)))
  have F9_o_container := F8_o_container.other W9 (Or.inr (slot_ne (Or.inl (hw _ (List.mem_of_getElem? (i := 16) rfl))) (Or.inl (hw _ (List.mem_of_getElem? (i := 25) rfl))) (by decide) (t := .long) (t' := .int) (by decide) (by decide)))
  have F9_o_bits := F8_o_bits.other W9 (Or.inr (slot_ne (Or.inl (hw _ (List.mem_of_getElem? (i := 23) rfl))) (Or.inl (hw _ (List.mem_of_getElem? (i := 25) rfl))) (by decide) (t := .int) (t' := .int) (by decide) (by decide)))
  have F9_o_loadedFrom := F8_o_loadedFrom.same W9
  have F9_o_pastStart := F8_o_pastStart.other W9 (Or.inr (slot_ne (Or.inl (hw _ (List.mem_of_getElem? (i := 49) rfl))) (Or.inl (hw _ (List.mem_of_getElem? (i := 25) rfl))) (by decide) (t := .long) (t' := .int) (by decide) (by decide)))
  have V9_arr := V8_arr.other W9 nea
  have N9 := Fr.snoc X9 N8 ge
  have K9 : Keep h0 h9 [o] := K8.wr W9 (Or.inl (List.mem_of_getElem? (i := 0) rfl))
  obtain ⟨fs, hr, hrun, hended, hW, hsame⟩ := X9.leave (v := none) (fun _ => rfl)
  refine ⟨_, _, go0 _ ?_, hrun, hended, _, _, rfl, ?_, ⟨_, rfl⟩, hW, hsame.mono (by decide) (by decide)⟩
  · show Steps p.tables e below (s₁.setTop (mkF m 0 #[.val (.ref o), .val (.ref arr), .val (.int (0 : Int32)), .val (.int (3 : Int32)), .unset] [])) _
    refine XS.aloadN X0.here hx rfl (hb hby d1_0) rfl rfl ?_
    show Steps p.tables e below (s₁.setTop (mkF m 1 #[.val (.ref o), .val (.ref arr), .val (.int (0 : Int32)), .val (.int (3 : Int32)), .unset] [(.ref o)])) _
    refine st1 _ ?_
    show Steps p.tables e below (T1.setTop (mkF m 4 #[.val (.ref o), .val (.ref arr), .val (.int (0 : Int32)), .val (.int (3 : Int32)), .unset] [])) _
    refine XS.iloadN X1.here hx rfl (hb hby d1_4) rfl ?_
    show Steps p.tables e below (T1.setTop (mkF m 5 #[.val (.ref o), .val (.ref arr), .val (.int (0 : Int32)), .val (.int (3 : Int32)), .unset] [(.int (3 : Int32))])) _
    refine XS.iloadN X1.here hx rfl (hb hby d1_5) rfl ?_
    show Steps p.tables e below (T1.setTop (mkF m 6 #[.val (.ref o), .val (.ref arr), .val (.int (0 : Int32)), .val (.int (3 : Int32)), .unset] [(.int (0 : Int32)), (.int (3 : Int32))])) _
    refine XS.icmpNo X1.here hx rfl (hb hby d1_6) rfl (tlt (by decide)).2.2.2 ?_
    show Steps p.tables e below (T1.setTop (mkF m 9 #[.val (.ref o), .val (.ref arr), .val (.int (0 : Int32)), .val (.int (3 : Int32)), .unset] [])) _
    refine XS.aloadN X1.here hx rfl (hb hby d1_9) rfl rfl ?_
    show Steps p.tables e below (T1.setTop (mkF m 10 #[.val (.ref o), .val (.ref arr), .val (.int (0 : Int32)), .val (.int (3 : Int32)), .unset] [(.ref arr)])) _
    refine XS.iloadN X1.here hx rfl (hb hby d1_10) rfl ?_
    show Steps p.tables e below (T1.setTop (mkF m 11 #[.val (.ref o), .val (.ref arr), .val (.int (0 : Int32)), .val (.int (3 : Int32)), .unset] [(.int (3 : Int32)), (.ref arr)])) _
    refine XS.iconst X1.here hx rfl (hb hby d1_11) ?_
    show Steps p.tables e below (T1.setTop (mkF m 12 #[.val (.ref o), .val (.ref arr), .val (.int (0 : Int32)), .val (.int (3 : Int32)), .unset] [(.int (1 : Int32)), (.int (3 : Int32)), (.ref arr)])) _
    refine XS.isub X1.here hx rfl (hb hby d1_12) rfl ?_
    show Steps p.tables e below (T1.setTop (mkF m 13 #[.val (.ref o), .val (.ref arr), .val (.int (0 : Int32)), .val (.int (3 : Int32)), .unset] [(.int ((3 : Int32) - (1 : Int32))), (.ref arr)])) _
    refine X1.baloadBytes hx (j := ((3 : Int32) - (1 : Int32))) (v := (.int w2)) (by rw [e1]; exact Ar2.1) (State.isArrayOf_alike hZ.alike Ar2.2.1) Ar2.2.2 hin2 hat2 (g := (mkF m 13 #[.val (.ref o), .val (.ref arr), .val (.int (0 : Int32)), .val (.int (3 : Int32)), .unset] [(.int ((3 : Int32) - (1 : Int32))), (.ref arr)])) rfl rfl (hb hby d1_13) _ ?_
    show Steps p.tables e below (T1.setTop (mkF m 14 #[.val (.ref o), .val (.ref arr), .val (.int (0 : Int32)), .val (.int (3 : Int32)), .unset] [(.int w2)])) _
    refine XS.ifYes X1.here hx rfl (pc0 := 14) (pc' := 27) rfl (hb hby d1_14) rfl ((if0 _ _).trans (feq hw0).2) (by decide) (by decide) ?_
    show Steps p.tables e below (T1.setTop (mkF m 27 #[.val (.ref o), .val (.ref arr), .val (.int (0 : Int32)), .val (.int (3 : Int32)), .unset] [])) _
    refine XS.aloadN X1.here hx rfl (hb hby d1_27) rfl rfl ?_
    show Steps p.tables e below (T1.setTop (mkF m 28 #[.val (.ref o), .val (.ref arr), .val (.int (0 : Int32)), .val (.int (3 : Int32)), .unset] [(.ref o)])) _
    refine XS.aloadN X1.here hx rfl (hb hby d1_28) rfl rfl ?_
    show Steps p.tables e below (T1.setTop (mkF m 29 #[.val (.ref o), .val (.ref arr), .val (.int (0 : Int32)), .val (.int (3 : Int32)), .unset] [(.ref arr), (.ref o)])) _
    refine st3 _ ?_
    show Steps p.tables e below (T3.setTop (mkF m 32 #[.val (.ref o), .val (.ref arr), .val (.int (0 : Int32)), .val (.int (3 : Int32)), .unset] [])) _
    refine XS.aloadN X3.here hx rfl (hb hby d1_32) rfl rfl ?_
    show Steps p.tables e below (T3.setTop (mkF m 33 #[.val (.ref o), .val (.ref arr), .val (.int (0 : Int32)), .val (.int (3 : Int32)), .unset] [(.ref o)])) _
    refine XS.iloadN X3.here hx rfl (hb hby d1_33) rfl ?_
    show Steps p.tables e below (T3.setTop (mkF m 34 #[.val (.ref o), .val (.ref arr), .val (.int (0 : Int32)), .val (.int (3 : Int32)), .unset] [(.int (0 : Int32)), (.ref o)])) _
    refine st4 _ ?_
    show Steps p.tables e below (T4.setTop (mkF m 37 #[.val (.ref o), .val (.ref arr), .val (.int (0 : Int32)), .val (.int (3 : Int32)), .unset] [])) _
    refine XS.aloadN X4.here hx rfl (hb hby d1_37) rfl rfl ?_
    show Steps p.tables e below (T4.setTop (mkF m 38 #[.val (.ref o), .val (.ref arr), .val (.int (0 : Int32)), .val (.int (3 : Int32)), .unset] [(.ref arr)])) _
    refine XS.iloadN X4.here hx rfl (hb hby d1_38) rfl ?_
    show Steps p.tables e below (T4.setTop (mkF m 39 #[.val (.ref o), .val (.ref arr), .val (.int (0 : Int32)), .val (.int (3 : Int32)), .unset] [(.int (3 : Int32)), (.ref arr)])) _
    refine XS.iconst X4.here hx rfl (hb hby d1_39) ?_
    show Steps p.tables e below (T4.setTop (mkF m 40 #[.val (.ref o), .val (.ref arr), .val (.int (0 : Int32)), .val (.int (3 : Int32)), .unset] [(.int (1 : Int32)), (.int (3 : Int32)), (.ref arr)])) _
    refine XS.isub X4.here hx rfl (hb hby d1_40) rfl ?_
    show Steps p.tables e below (T4.setTop (mkF m 41 #[.val (.ref o), .val (.ref arr), .val (.int (0 : Int32)), .val (.int (3 : Int32)), .unset] [(.int ((3 : Int32) - (1 : Int32))), (.ref arr)])) _
    refine X4.baloadBytes hx (j := ((3 : Int32) - (1 : Int32))) (v := (.int w2)) (by rw [e4]; exact Ar5.1) (State.isArrayOf_alike hZ.alike Ar5.2.1) Ar5.2.2 hin5 hat5 (g := (mkF m 41 #[.val (.ref o), .val (.ref arr), .val (.int (0 : Int32)), .val (.int (3 : Int32)), .unset] [(.int ((3 : Int32) - (1 : Int32))), (.ref arr)])) rfl rfl (hb hby d1_41) _ ?_
    show Steps p.tables e below (T4.setTop (mkF m 42 #[.val (.ref o), .val (.ref arr), .val (.int (0 : Int32)), .val (.int (3 : Int32)), .unset] [(.int w2)])) _
    refine XS.sipush X4.here hx rfl (hb hby d1_42) ?_
    show Steps p.tables e below (T4.setTop (mkF m 45 #[.val (.ref o), .val (.ref arr), .val (.int (0 : Int32)), .val (.int (3 : Int32)), .unset] [(.int (255 : Int32)), (.int w2)])) _
    refine XS.iand X4.here hx rfl (hb hby d1_45) rfl ?_
    show Steps p.tables e below (T4.setTop (mkF m 46 #[.val (.ref o), .val (.ref arr), .val (.int (0 : Int32)), .val (.int (3 : Int32)), .unset] [(.int (w2 &&& (255 : Int32)))])) _
    refine XS.istore X4.here hx rfl (hb hby d1_46) rfl (l' := #[.val (.ref o), .val (.ref arr), .val (.int (0 : Int32)), .val (.int (3 : Int32)), .val (.int (w2 &&& (255 : Int32)))]) rfl ?_
    show Steps p.tables e below (T4.setTop (mkF m 48 #[.val (.ref o), .val (.ref arr), .val (.int (0 : Int32)), .val (.int (3 : Int32)), .val (.int (w2 &&& (255 : Int32)))] [])) _
    refine XS.aloadN X4.here hx rfl (hb hby d1_48) rfl rfl ?_
    show Steps p.tables e below (T4.setTop (mkF m 49 #[.val (.ref o), .val (.ref arr), .val (.int (0 : Int32)), .val (.int (3 : Int32)), .val (.int (w2 &&& (255 : Int32)))] [(.ref o)])) _
    refine XS.iload X4.here hx rfl (hb hby d1_49) rfl ?_
    show Steps p.tables e below (T4.setTop (mkF m 51 #[.val (.ref o), .val (.ref arr), .val (.int (0 : Int32)), .val (.int (3 : Int32)), .val (.int (w2 &&& (255 : Int32)))] [(.int (w2 &&& (255 : Int32))), (.ref o)])) _
    refine XS.i2l X4.here hx rfl (hb hby d1_51) rfl ?_
    show Steps p.tables e below (T4.setTop (mkF m 52 #[.val (.ref o), .val (.ref arr), .val (.int (0 : Int32)), .val (.int (3 : Int32)), .val (.int (w2 &&& (255 : Int32)))] [(.long ((w2 &&& (255 : Int32)).toInt64)), (.ref o)])) _
    refine st6 _ ?_
    show Steps p.tables e below (T6.setTop (mkF m 55 #[.val (.ref o), .val (.ref arr), .val (.int (0 : Int32)), .val (.int (3 : Int32)), .val (.int (w2 &&& (255 : Int32)))] [])) _
    refine XS.aloadN X6.here hx rfl (hb hby d1_55) rfl rfl ?_
    show Steps p.tables e below (T6.setTop (mkF m 56 #[.val (.ref o), .val (.ref arr), .val (.int (0 : Int32)), .val (.int (3 : Int32)), .val (.int (w2 &&& (255 : Int32)))] [(.ref o)])) _
    refine XS.bipush X6.here hx rfl (hb hby d1_56) ?_
    show Steps p.tables e below (T6.setTop (mkF m 58 #[.val (.ref o), .val (.ref arr), .val (.int (0 : Int32)), .val (.int (3 : Int32)), .val (.int (w2 &&& (255 : Int32)))] [(.int (31 : Int32)), (.ref o)])) _
    refine XS.iload X6.here hx rfl (hb hby d1_58) rfl ?_
    show Steps p.tables e below (T6.setTop (mkF m 60 #[.val (.ref o), .val (.ref arr), .val (.int (0 : Int32)), .val (.int (3 : Int32)), .val (.int (w2 &&& (255 : Int32)))] [(.int (w2 &&& (255 : Int32))), (.int (31 : Int32)), (.ref o)])) _
    refine st7 _ ?_
    show Steps p.tables e below (T7.setTop (mkF m 63 #[.val (.ref o), .val (.ref arr), .val (.int (0 : Int32)), .val (.int (3 : Int32)), .val (.int (w2 &&& (255 : Int32)))] [(.int (own_nlz (w2 &&& (255 : Int32)))), (.int (31 : Int32)), (.ref o)])) _
    refine XS.isub X7.here hx rfl (hb hby d1_63) rfl ?_
    show Steps p.tables e below (T7.setTop (mkF m 64 #[.val (.ref o), .val (.ref arr), .val (.int (0 : Int32)), .val (.int (3 : Int32)), .val (.int (w2 &&& (255 : Int32)))] [(.int ((31 : Int32) - (own_nlz (w2 &&& (255 : Int32))))), (.ref o)])) _
    refine st8 _ ?_
    show Steps p.tables e below (T8.setTop (mkF m 67 #[.val (.ref o), .val (.ref arr), .val (.int (0 : Int32)), .val (.int (3 : Int32)), .val (.int (w2 &&& (255 : Int32)))] [])) _
    refine XS.aloadN X8.here hx rfl (hb hby d1_67) rfl rfl ?_
    show Steps p.tables e below (T8.setTop (mkF m 68 #[.val (.ref o), .val (.ref arr), .val (.int (0 : Int32)), .val (.int (3 : Int32)), .val (.int (w2 &&& (255 : Int32)))] [(.ref o)])) _
    refine XS.iloadN X8.here hx rfl (hb hby d1_68) rfl ?_
    show Steps p.tables e below (T8.setTop (mkF m 69 #[.val (.ref o), .val (.ref arr), .val (.int (0 : Int32)), .val (.int (3 : Int32)), .val (.int (w2 &&& (255 : Int32)))] [(.int (3 : Int32)), (.ref o)])) _
    refine XS.iconst X8.here hx rfl (hb hby d1_69) ?_
    show Steps p.tables e below (T8.setTop (mkF m 70 #[.val (.ref o), .val (.ref arr), .val (.int (0 : Int32)), .val (.int (3 : Int32)), .val (.int (w2 &&& (255 : Int32)))] [(.int (1 : Int32)), (.int (3 : Int32)), (.ref o)])) _
    refine XS.isub X8.here hx rfl (hb hby d1_70) rfl ?_
    show Steps p.tables e below (T8.setTop (mkF m 71 #[.val (.ref o), .val (.ref arr), .val (.int (0 : Int32)), .val (.int (3 : Int32)), .val (.int (w2 &&& (255 : Int32)))] [(.int ((3 : Int32) - (1 : Int32))), (.ref o)])) _
    refine st9 _ ?_
    show Steps p.tables e below (T9.setTop (mkF m 74 #[.val (.ref o), .val (.ref arr), .val (.int (0 : Int32)), .val (.int (3 : Int32)), .val (.int (w2 &&& (255 : Int32)))] [])) _
    exact X9.returnOut hx Bd.returns (hb hby d1_74) hr
  · show Q1 Z o arr w2 h0 n0 _ T9.heap _
    rw [e9]
    exact ⟨rfl, N9, K9, F9_o_bytes, F9_o_from, F9_o_container, F9_o_bits, F9_o_loadedFrom, F9_o_pastStart⟩
theorem ef_5a (m : MethodId) (o : Addr) : entryFrame m #[(.ref o)] 4 = mkF m 0 #[.val (.ref o), .unset, .unset, .unset] [] := by first | (simp [entryFrame, mkF, argsToLocals, Value.category]; done) | rfl
def Q5a (Z : State) (o : Addr) (arr : Addr) (w0 : Int32) (w1 : Int32) (c0 : Int64) (ps : Int64) (b : Int32) (h0 : Heap) (n0 : Nat) (v : Option Value) (h : Heap) (L : List Loc) : Prop := v = none ∧ Fr n0 L ∧ Keep h0 h [o] ∧ Fld Z h o "com/example/segmented_log/segmentedlog/format/BackwardBits" "bytes" "[B" (.ref arr) ∧ Fld Z h o "com/example/segmented_log/segmentedlog/format/BackwardBits" "from" "I" (.int (0 : Int32)) ∧ Fld Z h o "com/example/segmented_log/segmentedlog/format/BackwardBits" "container" "J" (.long (own_cont c0 w1 w0)) ∧ Fld Z h o "com/example/segmented_log/segmentedlog/format/BackwardBits" "bits" "I" (.int ((b + (8 : Int32)) + (8 : Int32))) ∧ Fld Z h o "com/example/segmented_log/segmentedlog/format/BackwardBits" "loadedFrom" "I" (.int (0 : Int32)) ∧ Fld Z h o "com/example/segmented_log/segmentedlog/format/BackwardBits" "pastStart" "J" (.long ps)
theorem d5_0 : decode prog_13_method_7_code 0 = .ok (.bipush 63, 2) := by decide +kernel
theorem d5_2 : decode prog_13_method_7_code 2 = .ok (.aload_n 0, 1) := by decide +kernel
theorem d5_3 : decode prog_13_method_7_code 3 = .ok (.getfield 34, 3) := by decide +kernel
theorem d5_6 : decode prog_13_method_7_code 6 = .ok (.isub, 1) := by decide +kernel
theorem d5_7 : decode prog_13_method_7_code 7 = .ok (.iconst 3, 1) := by decide +kernel
theorem d5_8 : decode prog_13_method_7_code 8 = .ok (.iushr, 1) := by decide +kernel
theorem d5_9 : decode prog_13_method_7_code 9 = .ok (.istore_n 1, 1) := by decide +kernel
theorem d5_10 : decode prog_13_method_7_code 10 = .ok (.aload_n 0, 1) := by decide +kernel
theorem d5_11 : decode prog_13_method_7_code 11 = .ok (.getfield 37, 3) := by decide +kernel
theorem d5_14 : decode prog_13_method_7_code 14 = .ok (.aload_n 0, 1) := by decide +kernel
theorem d5_15 : decode prog_13_method_7_code 15 = .ok (.getfield 20, 3) := by decide +kernel
theorem d5_18 : decode prog_13_method_7_code 18 = .ok (.isub, 1) := by decide +kernel
theorem d5_19 : decode prog_13_method_7_code 19 = .ok (.bipush 8, 2) := by decide +kernel
theorem d5_21 : decode prog_13_method_7_code 21 = .ok (.if_icmp .lt 71, 3) := by decide +kernel
theorem d5_92 : decode prog_13_method_7_code 92 = .ok (.aload_n 0, 1) := by decide +kernel
theorem d5_93 : decode prog_13_method_7_code 93 = .ok (.getfield 34, 3) := by decide +kernel
theorem d5_96 : decode prog_13_method_7_code 96 = .ok (.bipush 56, 2) := by decide +kernel
theorem d5_98 : decode prog_13_method_7_code 98 = .ok (.if_icmp .gt 64, 3) := by decide +kernel
theorem d5_101 : decode prog_13_method_7_code 101 = .ok (.aload_n 0, 1) := by decide +kernel
theorem d5_102 : decode prog_13_method_7_code 102 = .ok (.getfield 37, 3) := by decide +kernel
theorem d5_105 : decode prog_13_method_7_code 105 = .ok (.aload_n 0, 1) := by decide +kernel
theorem d5_106 : decode prog_13_method_7_code 106 = .ok (.getfield 20, 3) := by decide +kernel
theorem d5_109 : decode prog_13_method_7_code 109 = .ok (.if_icmp .le 53, 3) := by decide +kernel
theorem d5_112 : decode prog_13_method_7_code 112 = .ok (.aload_n 0, 1) := by decide +kernel
theorem d5_113 : decode prog_13_method_7_code 113 = .ok (.dup, 1) := by decide +kernel
theorem d5_114 : decode prog_13_method_7_code 114 = .ok (.getfield 37, 3) := by decide +kernel
theorem d5_117 : decode prog_13_method_7_code 117 = .ok (.iconst 1, 1) := by decide +kernel
theorem d5_118 : decode prog_13_method_7_code 118 = .ok (.isub, 1) := by decide +kernel
theorem d5_119 : decode prog_13_method_7_code 119 = .ok (.putfield 37, 3) := by decide +kernel
theorem d5_122 : decode prog_13_method_7_code 122 = .ok (.aload_n 0, 1) := by decide +kernel
theorem d5_123 : decode prog_13_method_7_code 123 = .ok (.aload_n 0, 1) := by decide +kernel
theorem d5_124 : decode prog_13_method_7_code 124 = .ok (.getfield 24, 3) := by decide +kernel
theorem d5_127 : decode prog_13_method_7_code 127 = .ok (.bipush 8, 2) := by decide +kernel
theorem d5_129 : decode prog_13_method_7_code 129 = .ok (.lshl, 1) := by decide +kernel
theorem d5_130 : decode prog_13_method_7_code 130 = .ok (.aload_n 0, 1) := by decide +kernel
theorem d5_131 : decode prog_13_method_7_code 131 = .ok (.getfield 14, 3) := by decide +kernel
theorem d5_134 : decode prog_13_method_7_code 134 = .ok (.aload_n 0, 1) := by decide +kernel
theorem d5_135 : decode prog_13_method_7_code 135 = .ok (.getfield 37, 3) := by decide +kernel
theorem d5_138 : decode prog_13_method_7_code 138 = .ok (.baload, 1) := by decide +kernel
theorem d5_139 : decode prog_13_method_7_code 139 = .ok (.sipush 255, 3) := by decide +kernel
theorem d5_142 : decode prog_13_method_7_code 142 = .ok (.iand, 1) := by decide +kernel
theorem d5_143 : decode prog_13_method_7_code 143 = .ok (.i2l, 1) := by decide +kernel
theorem d5_144 : decode prog_13_method_7_code 144 = .ok (.lor, 1) := by decide +kernel
theorem d5_145 : decode prog_13_method_7_code 145 = .ok (.putfield 24, 3) := by decide +kernel
theorem d5_148 : decode prog_13_method_7_code 148 = .ok (.aload_n 0, 1) := by decide +kernel
theorem d5_149 : decode prog_13_method_7_code 149 = .ok (.dup, 1) := by decide +kernel
theorem d5_150 : decode prog_13_method_7_code 150 = .ok (.getfield 34, 3) := by decide +kernel
theorem d5_153 : decode prog_13_method_7_code 153 = .ok (.bipush 8, 2) := by decide +kernel
theorem d5_155 : decode prog_13_method_7_code 155 = .ok (.iadd, 1) := by decide +kernel
theorem d5_156 : decode prog_13_method_7_code 156 = .ok (.putfield 34, 3) := by decide +kernel
theorem d5_159 : decode prog_13_method_7_code 159 = .ok (.goto (-67), 3) := by decide +kernel
theorem d5_162 : decode prog_13_method_7_code 162 = .ok (.return_, 1) := by decide +kernel
set_option maxRecDepth 65536 in
set_option maxHeartbeats 40000000 in
theorem rm5a (l : Launch) (Z : State) (a0 : Array Value) (hw : ∀ d ∈ tables_1, d.before a0 Z = true) (ws : List Jvm.Cond) (o arr : Addr) (kc : ClassId) (w0 w1 w2 : Int32) (c0 ps : Int64) (b : Int32) (h0 : Heap) (n0 : Nat) (Z0 : n0 ≤ h0.size) (ge : n0 ≤ o) (E : Exa Z h0 o "com/example/segmented_log/segmentedlog/format/BackwardBits") (F_bytes : Fld Z h0 o "com/example/segmented_log/segmentedlog/format/BackwardBits" "bytes" "[B" (.ref arr)) (F_from : Fld Z h0 o "com/example/segmented_log/segmentedlog/format/BackwardBits" "from" "I" (.int (0 : Int32))) (F_container : Fld Z h0 o "com/example/segmented_log/segmentedlog/format/BackwardBits" "container" "J" (.long c0)) (F_bits : Fld Z h0 o "com/example/segmented_log/segmentedlog/format/BackwardBits" "bits" "I" (.int b)) (F_loadedFrom : Fld Z h0 o "com/example/segmented_log/segmentedlog/format/BackwardBits" "loadedFrom" "I" (.int (2 : Int32))) (F_pastStart : Fld Z h0 o "com/example/segmented_log/segmentedlog/format/BackwardBits" "pastStart" "J" (.long ps)) (V : Arv Z h0 arr kc .byte (3 : Int32) [(.int w0), (.int w1), (.int w2)] (.int (0 : Int32))) (nea : arr ≠ o) (hb1 : ¬ (56 : Int32) < b) (hb2 : ¬ (56 : Int32) < (b + (8 : Int32))) (hb3 : ¬ (56 : Int32) < ((b + (8 : Int32)) + (8 : Int32))) :
    MetFree l (⟨"com/example/segmented_log/segmentedlog/format/BackwardBits", "refill", "()V"⟩ : MethodName) (head1 (Jvm.Cond.code (⟨"com/example/segmented_log/segmentedlog/format/BackwardBits", "refill", "()V"⟩ : MethodName) prog_13_method_7_code 4 none :: ws) ({ frames := 0, cells := 0, slots := 0, locals := 0 } : Room)) (fun a U => a = #[(.ref o)] ∧ Z.Warmed39 U.vm ∧ U.heap = h0) (fun _ _ _ _ _ => True) (fun _ U oU U' => ∃ v L, oU = .returned v ∧ Q5a Z o arr w0 w1 c0 ps b h0 n0 v U'.heap L ∧ FrameEnd U oU U' L ({ frames := 0, cells := 0, slots := 0, locals := 0 } : Room).cells ({ frames := 0, cells := 0, slots := 0, locals := 0 } : Room).slots) := by
  refine MetFree.of_bodySF (plainFor_of_name pn_6) hisR ?_
  intro p e s m args below meth c s₁ Bd hml0 hP hK
  obtain ⟨rfl, hZ, hh⟩ := hP
  have hx := Bd.exec
  have hby := Bd.bytes
  have hml : c.maxLocals = 4 := hml0
  have hown : s.vm.findClass "com/example/segmented_log/segmentedlog/format/BackwardBits" = some m.cls := findClass_of_methodNamed Bd.named
  have hnm := (name_of_methodNamed Bd.named Bd.method).1
  have X0 : Stand p l e ({ frames := 0, cells := 0, slots := 0, locals := 0 } : Room) s m #[(.ref o)] below meth c s₁ [] 0 0 := Stand.of_body Bd
  have e0 : s₁.heap = h0 := by rw [← hh, Bd.state]; rfl
  have N0 := Fr.nil n0
  have go0 : ∀ t, Steps p.tables e below (s₁.setTop (mkF m 0 #[.val (.ref o), .unset, .unset, .unset] [])) t → Steps p.tables e below (s₁.setTop (entryFrame m #[(.ref o)] 4)) t := fun t k => castTop (ef_5a m o) k
  obtain ⟨T1, X1, e1, st1⟩ := getF X0 hx hZ hown (host := "") (Or.inl (hw _ (List.mem_of_getElem? (i := 22) rfl))) Via.refl e0 F_bits (g := (mkF m 3 #[.val (.ref o), .unset, .unset, .unset] [(.ref o), (.int (63 : Int32))])) rfl rfl (hb hby d5_3)
  obtain ⟨T2, X2, e2, st2⟩ := getF X1 hx hZ hown (host := "") (Or.inl (hw _ (List.mem_of_getElem? (i := 24) rfl))) Via.refl e1 F_loadedFrom (g := (mkF m 11 #[.val (.ref o), .val (.int ((((63 : Int32) - b).toUInt32 >>> ((3 : Int32) &&& 31).toUInt32).toInt32)), .unset, .unset] [(.ref o)])) rfl rfl (hb hby d5_11)
  obtain ⟨T3, X3, e3, st3⟩ := getF X2 hx hZ hown (host := "") (Or.inl (hw _ (List.mem_of_getElem? (i := 13) rfl))) Via.refl e2 F_from (g := (mkF m 15 #[.val (.ref o), .val (.int ((((63 : Int32) - b).toUInt32 >>> ((3 : Int32) &&& 31).toUInt32).toInt32)), .unset, .unset] [(.ref o), (.int (2 : Int32))])) rfl rfl (hb hby d5_15)
  obtain ⟨T4, X4, e4, st4⟩ := getF X3 hx hZ hown (host := "") (Or.inl (hw _ (List.mem_of_getElem? (i := 22) rfl))) Via.refl e3 F_bits (g := (mkF m 93 #[.val (.ref o), .val (.int ((((63 : Int32) - b).toUInt32 >>> ((3 : Int32) &&& 31).toUInt32).toInt32)), .unset, .unset] [(.ref o)])) rfl rfl (hb hby d5_93)
  obtain ⟨T5, X5, e5, st5⟩ := getF X4 hx hZ hown (host := "") (Or.inl (hw _ (List.mem_of_getElem? (i := 24) rfl))) Via.refl e4 F_loadedFrom (g := (mkF m 102 #[.val (.ref o), .val (.int ((((63 : Int32) - b).toUInt32 >>> ((3 : Int32) &&& 31).toUInt32).toInt32)), .unset, .unset] [(.ref o)])) rfl rfl (hb hby d5_102)
  obtain ⟨T6, X6, e6, st6⟩ := getF X5 hx hZ hown (host := "") (Or.inl (hw _ (List.mem_of_getElem? (i := 13) rfl))) Via.refl e5 F_from (g := (mkF m 106 #[.val (.ref o), .val (.int ((((63 : Int32) - b).toUInt32 >>> ((3 : Int32) &&& 31).toUInt32).toInt32)), .unset, .unset] [(.ref o), (.int (2 : Int32))])) rfl rfl (hb hby d5_106)
  obtain ⟨T7, X7, e7, st7⟩ := getF X6 hx hZ hown (host := "") (Or.inl (hw _ (List.mem_of_getElem? (i := 24) rfl))) Via.refl e6 F_loadedFrom (g := (mkF m 114 #[.val (.ref o), .val (.int ((((63 : Int32) - b).toUInt32 >>> ((3 : Int32) &&& 31).toUInt32).toInt32)), .unset, .unset] [(.ref o), (.ref o)])) rfl rfl (hb hby d5_114)
  obtain ⟨T8, h8, X8, e8, W8, st8⟩ := putF X7 hx hZ hown (host := "") (Or.inl (hw _ (List.mem_of_getElem? (i := 24) rfl))) Via.refl e7 F_loadedFrom E (Or.inl (hw _ (List.mem_of_getElem? (i := 25) rfl))) (hw _ (List.mem_of_getElem? (i := 3) rfl)) (ty := .int) (by decide) rfl rfl (g := (mkF m 119 #[.val (.ref o), .val (.int ((((63 : Int32) - b).toUInt32 >>> ((3 : Int32) &&& 31).toUInt32).toInt32)), .unset, .unset] [(.int ((2 : Int32) - (1 : Int32))), (.ref o)])) rfl rfl (hb hby d5_119)
  have E8_o := E.wr W8
  have F8_o_bytes := F_bytes.other W8 (Or.inr (slot_ne (Or.inr (hw _ (List.mem_of_getElem? (i := 12) rfl))) (Or.inl (hw _ (List.mem_of_getElem? (i := 25) rfl))) (by decide) (t := (.array .byte)) (t' := .int) (by decide) (by decide)))
  have F8_o_from := F_from.other W8 (Or.inr (slot_ne (Or.inr (hw _ (List.mem_of_getElem? (i := 14) rfl))) (Or.inl (hw _ (List.mem_of_getElem? (i := 25) rfl))) (by decide) (t := .int) (t' := .int) (by decide) (by decide)))
  have F8_o_container := F_container.other W8 (Or.inr (slot_ne (Or.inl (hw _ (List.mem_of_getElem? (i := 16) rfl))) (Or.inl (hw _ (List.mem_of_getElem? (i := 25) rfl))) (by decide) (t := .long) (t' := .int) (by decide) (by decide)))
  have F8_o_bits := F_bits.other W8 (Or.inr (slot_ne (Or.inl (hw _ (List.mem_of_getElem? (i := 23) rfl))) (Or.inl (hw _ (List.mem_of_getElem? (i := 25) rfl))) (by decide) (t := .int) (t' := .int) (by decide) (by decide)))
  have F8_o_loadedFrom := F_loadedFrom.same W8
  have F8_o_pastStart := F_pastStart.other W8 (Or.inr (slot_ne (Or.inl (hw _ (List.mem_of_getElem? (i := 49) rfl))) (Or.inl (hw _ (List.mem_of_getElem? (i := 25) rfl))) (by decide) (t := .long) (t' := .int) (by decide) (by decide)))
  have V8_arr := V.other W8 nea
  have N8 := Fr.snoc X8 N0 ge
  have K8 : Keep h0 h8 [o] := (Keep.refl h0 [o]).wr W8 (Or.inl (List.mem_of_getElem? (i := 0) rfl))
  obtain ⟨T9, X9, e9, st9⟩ := getF X8 hx hZ hown (host := "") (Or.inl (hw _ (List.mem_of_getElem? (i := 15) rfl))) Via.refl e8 F8_o_container (g := (mkF m 124 #[.val (.ref o), .val (.int ((((63 : Int32) - b).toUInt32 >>> ((3 : Int32) &&& 31).toUInt32).toInt32)), .unset, .unset] [(.ref o), (.ref o)])) rfl rfl (hb hby d5_124)
  obtain ⟨T10, X10, e10, st10⟩ := getF X9 hx hZ hown (host := "") (Or.inl (hw _ (List.mem_of_getElem? (i := 11) rfl))) Via.refl e9 F8_o_bytes (g := (mkF m 131 #[.val (.ref o), .val (.int ((((63 : Int32) - b).toUInt32 >>> ((3 : Int32) &&& 31).toUInt32).toInt32)), .unset, .unset] [(.ref o), (.long (c0 <<< ((8 : Int32) &&& 0x3f).toInt64)), (.ref o)])) rfl rfl (hb hby d5_131)
  obtain ⟨T11, X11, e11, st11⟩ := getF X10 hx hZ hown (host := "") (Or.inl (hw _ (List.mem_of_getElem? (i := 24) rfl))) Via.refl e10 F8_o_loadedFrom (g := (mkF m 135 #[.val (.ref o), .val (.int ((((63 : Int32) - b).toUInt32 >>> ((3 : Int32) &&& 31).toUInt32).toInt32)), .unset, .unset] [(.ref o), (.ref arr), (.long (c0 <<< ((8 : Int32) &&& 0x3f).toInt64)), (.ref o)])) rfl rfl (hb hby d5_135)
  obtain ⟨cl12, Ar12, q12, S12, M12, Hh12, G12⟩ := id V8_arr
  have hin12 : ¬ (((2 : Int32) - (1 : Int32)) < 0 ∨ cl12.slots.size ≤ (((2 : Int32) - (1 : Int32))).toNatClampNeg) := inb_of S12 ⟨by decide, by decide⟩
  have hat12 : cl12.slots[(((2 : Int32) - (1 : Int32))).toNatClampNeg]? = some (.int w1) := Has.at Hh12 hin12 rfl
  obtain ⟨T13, h13, X13, e13, W13, st13⟩ := putF X11 hx hZ hown (host := "") (Or.inl (hw _ (List.mem_of_getElem? (i := 15) rfl))) Via.refl e11 F8_o_container E8_o (Or.inl (hw _ (List.mem_of_getElem? (i := 16) rfl))) (hw _ (List.mem_of_getElem? (i := 3) rfl)) (ty := .long) (by decide) rfl rfl (g := (mkF m 145 #[.val (.ref o), .val (.int ((((63 : Int32) - b).toUInt32 >>> ((3 : Int32) &&& 31).toUInt32).toInt32)), .unset, .unset] [(.long ((c0 <<< ((8 : Int32) &&& 0x3f).toInt64) ||| ((w1 &&& (255 : Int32)).toInt64))), (.ref o)])) rfl rfl (hb hby d5_145)
  have E13_o := E8_o.wr W13
  have F13_o_bytes := F8_o_bytes.other W13 (Or.inr (slot_ne (Or.inr (hw _ (List.mem_of_getElem? (i := 12) rfl))) (Or.inl (hw _ (List.mem_of_getElem? (i := 16) rfl))) (by decide) (t := (.array .byte)) (t' := .long) (by decide) (by decide)))
  have F13_o_from := F8_o_from.other W13 (Or.inr (slot_ne (Or.inr (hw _ (List.mem_of_getElem? (i := 14) rfl))) (Or.inl (hw _ (List.mem_of_getElem? (i := 16) rfl))) (by decide) (t := .int) (t' := .long) (by decide) (by decide)))
  have F13_o_container := F8_o_container.same W13
  have F13_o_bits := F8_o_bits.other W13 (Or.inr (slot_ne (Or.inl (hw _ (List.mem_of_getElem? (i := 23) rfl))) (Or.inl (hw _ (List.mem_of_getElem? (i := 16) rfl))) (by decide) (t := .int) (t' := .long) (by decide) (by decide)))
  have F13_o_loadedFrom := F8_o_loadedFrom.other W13 (Or.inr (slot_ne (Or.inl (hw _ (List.mem_of_getElem? (i := 25) rfl))) (Or.inl (hw _ (List.mem_of_getElem? (i := 16) rfl))) (by decide) (t := .int) (t' := .long) (by decide) (by decide)))
  have F13_o_pastStart := F8_o_pastStart.other W13 (Or.inr (slot_ne (Or.inl (hw _ (List.mem_of_getElem? (i := 49) rfl))) (Or.inl (hw _ (List.mem_of_getElem? (i := 16) rfl))) (by decide) (t := .long) (t' := .long) (by decide) (by decide)))
  have V13_arr := V8_arr.other W13 nea
  have N13 := Fr.snoc X13 N8 ge
  have K13 : Keep h0 h13 [o] := K8.wr W13 (Or.inl (List.mem_of_getElem? (i := 0) rfl))
  obtain ⟨T14, X14, e14, st14⟩ := getF X13 hx hZ hown (host := "") (Or.inl (hw _ (List.mem_of_getElem? (i := 22) rfl))) Via.refl e13 F13_o_bits (g := (mkF m 150 #[.val (.ref o), .val (.int ((((63 : Int32) - b).toUInt32 >>> ((3 : Int32) &&& 31).toUInt32).toInt32)), .unset, .unset] [(.ref o), (.ref o)])) rfl rfl (hb hby d5_150)
  obtain ⟨T15, h15, X15, e15, W15, st15⟩ := putF X14 hx hZ hown (host := "") (Or.inl (hw _ (List.mem_of_getElem? (i := 22) rfl))) Via.refl e14 F13_o_bits E13_o (Or.inl (hw _ (List.mem_of_getElem? (i := 23) rfl))) (hw _ (List.mem_of_getElem? (i := 3) rfl)) (ty := .int) (by decide) rfl rfl (g := (mkF m 156 #[.val (.ref o), .val (.int ((((63 : Int32) - b).toUInt32 >>> ((3 : Int32) &&& 31).toUInt32).toInt32)), .unset, .unset] [(.int (b + (8 : Int32))), (.ref o)])) rfl rfl (hb hby d5_156)
  have E15_o := E13_o.wr W15
  have F15_o_bytes := F13_o_bytes.other W15 (Or.inr (slot_ne (Or.inr (hw _ (List.mem_of_getElem? (i := 12) rfl))) (Or.inl (hw _ (List.mem_of_getElem? (i := 23) rfl))) (by decide) (t := (.array .byte)) (t' := .int) (by decide) (by decide)))
  have F15_o_from := F13_o_from.other W15 (Or.inr (slot_ne (Or.inr (hw _ (List.mem_of_getElem? (i := 14) rfl))) (Or.inl (hw _ (List.mem_of_getElem? (i := 23) rfl))) (by decide) (t := .int) (t' := .int) (by decide) (by decide)))
  have F15_o_container := F13_o_container.other W15 (Or.inr (slot_ne (Or.inl (hw _ (List.mem_of_getElem? (i := 16) rfl))) (Or.inl (hw _ (List.mem_of_getElem? (i := 23) rfl))) (by decide) (t := .long) (t' := .int) (by decide) (by decide)))
  have F15_o_bits := F13_o_bits.same W15
  have F15_o_loadedFrom := F13_o_loadedFrom.other W15 (Or.inr (slot_ne (Or.inl (hw _ (List.mem_of_getElem? (i := 25) rfl))) (Or.inl (hw _ (List.mem_of_getElem? (i := 23) rfl))) (by decide) (t := .int) (t' := .int) (by decide) (by decide)))
  have F15_o_pastStart := F13_o_pastStart.other W15 (Or.inr (slot_ne (Or.inl (hw _ (List.mem_of_getElem? (i := 49) rfl))) (Or.inl (hw _ (List.mem_of_getElem? (i := 23) rfl))) (by decide) (t := .long) (t' := .int) (by decide) (by decide)))
  have V15_arr := V13_arr.other W15 nea
  have N15 := Fr.snoc X15 N13 ge
  have K15 : Keep h0 h15 [o] := K13.wr W15 (Or.inl (List.mem_of_getElem? (i := 0) rfl))
  obtain ⟨T16, X16, e16, st16⟩ := getF X15 hx hZ hown (host := "") (Or.inl (hw _ (List.mem_of_getElem? (i := 22) rfl))) Via.refl e15 F15_o_bits (g := (mkF m 93 #[.val (.ref o), .val (.int ((((63 : Int32) - b).toUInt32 >>> ((3 : Int32) &&& 31).toUInt32).toInt32)), .unset, .unset] [(.ref o)])) rfl rfl (hb hby d5_93)
  obtain ⟨T17, X17, e17, st17⟩ := getF X16 hx hZ hown (host := "") (Or.inl (hw _ (List.mem_of_getElem? (i := 24) rfl))) Via.refl e16 F15_o_loadedFrom (g := (mkF m 102 #[.val (.ref o), .val (.int ((((63 : Int32) - b).toUInt32 >>> ((3 : Int32) &&& 31).toUInt32).toInt32)), .unset, .unset] [(.ref o)])) rfl rfl (hb hby d5_102)
  obtain ⟨T18, X18, e18, st18⟩ := getF X17 hx hZ hown (host := "") (Or.inl (hw _ (List.mem_of_getElem? (i := 13) rfl))) Via.refl e17 F15_o_from (g := (mkF m 106 #[.val (.ref o), .val (.int ((((63 : Int32) - b).toUInt32 >>> ((3 : Int32) &&& 31).toUInt32).toInt32)), .unset, .unset] [(.ref o), (.int ((2 : Int32) - (1 : Int32)))])) rfl rfl (hb hby d5_106)
  obtain ⟨T19, X19, e19, st19⟩ := getF X18 hx hZ hown (host := "") (Or.inl (hw _ (List.mem_of_getElem? (i := 24) rfl))) Via.refl e18 F15_o_loadedFrom (g := (mkF m 114 #[.val (.ref o), .val (.int ((((63 : Int32) - b).toUInt32 >>> ((3 : Int32) &&& 31).toUInt32).toInt32)), .unset, .unset] [(.ref o), (.ref o)])) rfl rfl (hb hby d5_114)
  obtain ⟨T20, h20, X20, e20, W20, st20⟩ := putF X19 hx hZ hown (host := "") (Or.inl (hw _ (List.mem_of_getElem? (i := 24) rfl))) Via.refl e19 F15_o_loadedFrom E15_o (Or.inl (hw _ (List.mem_of_getElem? (i := 25) rfl))) (hw _ (List.mem_of_getElem? (i := 3) rfl)) (ty := .int) (by decide) rfl rfl (g := (mkF m 119 #[.val (.ref o), .val (.int ((((63 : Int32) - b).toUInt32 >>> ((3 : Int32) &&& 31).toUInt32).toInt32)), .unset, .unset] [(.int (((2 : Int32) - (1 : Int32)) - (1 : Int32))), (.ref o)])) rfl rfl (hb hby d5_119)
  have E20_o := E15_o.wr W20
  have F20_o_bytes := F15_o_bytes.other W20 (Or.inr (slot_ne (Or.inr (hw _ (List.mem_of_getElem? (i := 12) rfl))) (Or.inl (hw _ (List.mem_of_getElem? (i := 25) rfl))) (by decide) (t := (.array .byte)) (t' := .int) (by decide) (by decide)))
  have F20_o_from := F15_o_from.other W20 (Or.inr (slot_ne (Or.inr (hw _ (List.mem_of_getElem? (i := 14) rfl))) (Or.inl (hw _ (List.mem_of_getElem? (i := 25) rfl))) (by decide) (t := .int) (t' := .int) (by decide) (by decide)))
  have F20_o_container := F15_o_container.other W20 (Or.inr (slot_ne (Or.inl (hw _ (List.mem_of_getElem? (i := 16) rfl))) (Or.inl (hw _ (List.mem_of_getElem? (i := 25) rfl))) (by decide) (t := .long) (t' := .int) (by decide) (by decide)))
  have F20_o_bits := F15_o_bits.other W20 (Or.inr (slot_ne (Or.inl (hw _ (List.mem_of_getElem? (i := 23) rfl))) (Or.inl (hw _ (List.mem_of_getElem? (i := 25) rfl))) (by decide) (t := .int) (t' := .int) (by decide) (by decide)))
  have F20_o_loadedFrom := F15_o_loadedFrom.same W20
  have F20_o_pastStart := F15_o_pastStart.other W20 (Or.inr (slot_ne (Or.inl (hw _ (List.mem_of_getElem? (i := 49) rfl))) (Or.inl (hw _ (List.mem_of_getElem? (i := 25) rfl))) (by decide) (t := .long) (t' := .int) (by decide) (by decide)))
  have V20_arr := V15_arr.other W20 nea
  have N20 := Fr.snoc X20 N15 ge
  have K20 : Keep h0 h20 [o] := K15.wr W20 (Or.inl (List.mem_of_getElem? (i := 0) rfl))
  obtain ⟨T21, X21, e21, st21⟩ := getF X20 hx hZ hown (host := "") (Or.inl (hw _ (List.mem_of_getElem? (i := 15) rfl))) Via.refl e20 F20_o_container (g := (mkF m 124 #[.val (.ref o), .val (.int ((((63 : Int32) - b).toUInt32 >>> ((3 : Int32) &&& 31).toUInt32).toInt32)), .unset, .unset] [(.ref o), (.ref o)])) rfl rfl (hb hby d5_124)
  obtain ⟨T22, X22, e22, st22⟩ := getF X21 hx hZ hown (host := "") (Or.inl (hw _ (List.mem_of_getElem? (i := 11) rfl))) Via.refl e21 F20_o_bytes (g := (mkF m 131 #[.val (.ref o), .val (.int ((((63 : Int32) - b).toUInt32 >>> ((3 : Int32) &&& 31).toUInt32).toInt32)), .unset, .unset] [(.ref o), (.long (((c0 <<< ((8 : Int32) &&& 0x3f).toInt64) ||| ((w1 &&& (255 : Int32)).toInt64)) <<< ((8 : Int32) &&& 0x3f).toInt64)), (.ref o)])) rfl rfl (hb hby d5_131)
  obtain ⟨T23, X23, e23, st23⟩ := getF X22 hx hZ hown (host := "") (Or.inl (hw _ (List.mem_of_getElem? (i := 24) rfl))) Via.refl e22 F20_o_loadedFrom (g := (mkF m 135 #[.val (.ref o), .val (.int ((((63 : Int32) - b).toUInt32 >>> ((3 : Int32) &&& 31).toUInt32).toInt32)), .unset, .unset] [(.ref o), (.ref arr), (.long (((c0 <<< ((8 : Int32) &&& 0x3f).toInt64) ||| ((w1 &&& (255 : Int32)).toInt64)) <<< ((8 : Int32) &&& 0x3f).toInt64)), (.ref o)])) rfl rfl (hb hby d5_135)
  obtain ⟨cl24, Ar24, q24, S24, M24, Hh24, G24⟩ := id V20_arr
  have hin24 : ¬ ((((2 : Int32) - (1 : Int32)) - (1 : Int32)) < 0 ∨ cl24.slots.size ≤ ((((2 : Int32) - (1 : Int32)) - (1 : Int32))).toNatClampNeg) := inb_of S24 ⟨by decide, by decide⟩
  have hat24 : cl24.slots[((((2 : Int32) - (1 : Int32)) - (1 : Int32))).toNatClampNeg]? = some (.int w0) := Has.at Hh24 hin24 rfl
  obtain ⟨T25, h25, X25, e25, W25, st25⟩ := putF X23 hx hZ hown (host := "") (Or.inl (hw _ (List.mem_of_getElem? (i := 15) rfl))) Via.refl e23 F20_o_container E20_o (Or.inl (hw _ (List.mem_of_getElem? (i := 16) rfl))) (hw _ (List.mem_of_getElem? (i := 3) rfl)) (ty := .long) (by decide) rfl rfl (g := (mkF m 145 #[.val (.ref o), .val (.int ((((63 : Int32) - b).toUInt32 >>> ((3 : Int32) &&& 31).toUInt32).toInt32)), .unset, .unset] [(.long ((((c0 <<< ((8 : Int32) &&& 0x3f).toInt64) ||| ((w1 &&& (255 : Int32)).toInt64)) <<< ((8 : Int32) &&& 0x3f).toInt64) ||| ((w0 &&& (255 : Int32)).toInt64))), (.ref o)])) rfl rfl (hb hby d5_145)
  have E25_o := E20_o.wr W25
  have F25_o_bytes := F20_o_bytes.other W25 (Or.inr (slot_ne (Or.inr (hw _ (List.mem_of_getElem? (i := 12) rfl))) (Or.inl (hw _ (List.mem_of_getElem? (i := 16) rfl))) (by decide) (t := (.array .byte)) (t' := .long) (by decide) (by decide)))
  have F25_o_from := F20_o_from.other W25 (Or.inr (slot_ne (Or.inr (hw _ (List.mem_of_getElem? (i := 14) rfl))) (Or.inl (hw _ (List.mem_of_getElem? (i := 16) rfl))) (by decide) (t := .int) (t' := .long) (by decide) (by decide)))
  have F25_o_container := F20_o_container.same W25
  have F25_o_bits := F20_o_bits.other W25 (Or.inr (slot_ne (Or.inl (hw _ (List.mem_of_getElem? (i := 23) rfl))) (Or.inl (hw _ (List.mem_of_getElem? (i := 16) rfl))) (by decide) (t := .int) (t' := .long) (by decide) (by decide)))
  have F25_o_loadedFrom := F20_o_loadedFrom.other W25 (Or.inr (slot_ne (Or.inl (hw _ (List.mem_of_getElem? (i := 25) rfl))) (Or.inl (hw _ (List.mem_of_getElem? (i := 16) rfl))) (by decide) (t := .int) (t' := .long) (by decide) (by decide)))
  have F25_o_pastStart := F20_o_pastStart.other W25 (Or.inr (slot_ne (Or.inl (hw _ (List.mem_of_getElem? (i := 49) rfl))) (Or.inl (hw _ (List.mem_of_getElem? (i := 16) rfl))) (by decide) (t := .long) (t' := .long) (by decide) (by decide)))
  have V25_arr := V20_arr.other W25 nea
  have N25 := Fr.snoc X25 N20 ge
  have K25 : Keep h0 h25 [o] := K20.wr W25 (Or.inl (List.mem_of_getElem? (i := 0) rfl))
  obtain ⟨T26, X26, e26, st26⟩ := getF X25 hx hZ hown (host := "") (Or.inl (hw _ (List.mem_of_getElem? (i := 22) rfl))) Via.refl e25 F25_o_bits (g := (mkF m 150 #[.val (.ref o), .val (.int ((((63 : Int32) - b).toUInt32 >>> ((3 : Int32) &&& 31).toUInt32).toInt32)), .unset, .unset] [(.ref o), (.ref o)])) rfl rfl (hb hby d5_150)
  obtain ⟨T27, h27, X27, e27, W27, st27⟩ := putF X26 hx hZ hown (host := "") (Or.inl (hw _ (List.mem_of_getElem? (i := 22) rfl))) Via.refl e26 F25_o_bits E25_o (Or.inl (hw _ (List.mem_of_getElem? (i := 23) rfl))) (hw _ (List.mem_of_getElem? (i := 3) rfl)) (ty := .int) (by decide) rfl rfl (g := (mkF m 156 #[.val (.ref o), .val (.int ((((63 : Int32) - b).toUInt32 >>> ((3 : Int32) &&& 31).toUInt32).toInt32)), .unset, .unset] [(.int ((b + (8 : Int32)) + (8 : Int32))), (.ref o)])) rfl rfl (hb hby d5_156)
  have E27_o := E25_o.wr W27
  have F27_o_bytes := F25_o_bytes.other W27 (Or.inr (slot_ne (Or.inr (hw _ (List.mem_of_getElem? (i := 12) rfl))) (Or.inl (hw _ (List.mem_of_getElem? (i := 23) rfl))) (by decide) (t := (.array .byte)) (t' := .int) (by decide) (by decide)))
  have F27_o_from := F25_o_from.other W27 (Or.inr (slot_ne (Or.inr (hw _ (List.mem_of_getElem? (i := 14) rfl))) (Or.inl (hw _ (List.mem_of_getElem? (i := 23) rfl))) (by decide) (t := .int) (t' := .int) (by decide) (by decide)))
  have F27_o_container := F25_o_container.other W27 (Or.inr (slot_ne (Or.inl (hw _ (List.mem_of_getElem? (i := 16) rfl))) (Or.inl (hw _ (List.mem_of_getElem? (i := 23) rfl))) (by decide) (t := .long) (t' := .int) (by decide) (by decide)))
  have F27_o_bits := F25_o_bits.same W27
  have F27_o_loadedFrom := F25_o_loadedFrom.other W27 (Or.inr (slot_ne (Or.inl (hw _ (List.mem_of_getElem? (i := 25) rfl))) (Or.inl (hw _ (List.mem_of_getElem? (i := 23) rfl))) (by decide) (t := .int) (t' := .int) (by decide) (by decide)))
  have F27_o_pastStart := F25_o_pastStart.other W27 (Or.inr (slot_ne (Or.inl (hw _ (List.mem_of_getElem? (i := 49) rfl))) (Or.inl (hw _ (List.mem_of_getElem? (i := 23) rfl))) (by decide) (t := .long) (t' := .int) (by decide) (by decide)))
  have V27_arr := V25_arr.other W27 nea
  have N27 := Fr.snoc X27 N25 ge
  have K27 : Keep h0 h27 [o] := K25.wr W27 (Or.inl (List.mem_of_getElem? (i := 0) rfl))
  obtain ⟨T28, X28, e28, st28⟩ := getF X27 hx hZ hown (host := "") (Or.inl (hw _ (List.mem_of_getElem? (i := 22) rfl))) Via.refl e27 F27_o_bits (g := (mkF m 93 #[.val (.ref o), .val (.int ((((63 : Int32) - b).toUInt32 >>> ((3 : Int32) &&& 31).toUInt32).toInt32)), .unset, .unset] [(.ref o)])) rfl rfl (hb hby d5_93)
  obtain ⟨T29, X29, e29, st29⟩ := getF X28 hx hZ hown (host := "") (Or.inl (hw _ (List.mem_of_getElem? (i := 24) rfl))) Via.refl e28 F27_o_loadedFrom (g := (mkF m 102 #[.val (.ref o), .val (.int ((((63 : Int32) - b).toUInt32 >>> ((3 : Int32) &&& 31).toUInt32).toInt32)), .unset, .unset] [(.ref o)])) rfl rfl (hb hby d5_102)
  obtain ⟨T30, X30, e30, st30⟩ := getF X29 hx hZ hown (host := "") (Or.inl (hw _ (List.mem_of_getElem? (i := 13) rfl))) Via.refl e29 F27_o_from (g := (mkF m 106 #[.val (.ref o), .val (.int ((((63 : Int32) - b).toUInt32 >>> ((3 : Int32) &&& 31).toUInt32).toInt32)), .unset, .unset] [(.ref o), (.int (((2 : Int32) - (1 : Int32)) - (1 : Int32)))])) rfl rfl (hb hby d5_106)
  obtain ⟨fs, hr, hrun, hended, hW, hsame⟩ := X30.leave (v := none) (fun _ => rfl)
  refine ⟨_, _, go0 _ ?_, hrun, hended, _, _, rfl, ?_, ⟨_, rfl⟩, hW, hsame.mono (by decide) (by decide)⟩
  · show Steps p.tables e below (s₁.setTop (mkF m 0 #[.val (.ref o), .unset, .unset, .unset] [])) _
    refine XS.bipush X0.here hx rfl (hb hby d5_0) ?_
    show Steps p.tables e below (s₁.setTop (mkF m 2 #[.val (.ref o), .unset, .unset, .unset] [(.int (63 : Int32))])) _
    refine XS.aloadN X0.here hx rfl (hb hby d5_2) rfl rfl ?_
    show Steps p.tables e below (s₁.setTop (mkF m 3 #[.val (.ref o), .unset, .unset, .unset] [(.ref o), (.int (63 : Int32))])) _
    refine st1 _ ?_
    show Steps p.tables e below (T1.setTop (mkF m 6 #[.val (.ref o), .unset, .unset, .unset] [(.int b), (.int (63 : Int32))])) _
    refine XS.isub X1.here hx rfl (hb hby d5_6) rfl ?_
    show Steps p.tables e below (T1.setTop (mkF m 7 #[.val (.ref o), .unset, .unset, .unset] [(.int ((63 : Int32) - b))])) _
    refine XS.iconst X1.here hx rfl (hb hby d5_7) ?_
    show Steps p.tables e below (T1.setTop (mkF m 8 #[.val (.ref o), .unset, .unset, .unset] [(.int (3 : Int32)), (.int ((63 : Int32) - b))])) _
    refine XS.iushr X1.here hx rfl (hb hby d5_8) rfl ?_
    show Steps p.tables e below (T1.setTop (mkF m 9 #[.val (.ref o), .unset, .unset, .unset] [(.int ((((63 : Int32) - b).toUInt32 >>> ((3 : Int32) &&& 31).toUInt32).toInt32))])) _
    refine XS.istoreN X1.here hx rfl (hb hby d5_9) rfl (l' := #[.val (.ref o), .val (.int ((((63 : Int32) - b).toUInt32 >>> ((3 : Int32) &&& 31).toUInt32).toInt32)), .unset, .unset]) rfl ?_
    show Steps p.tables e below (T1.setTop (mkF m 10 #[.val (.ref o), .val (.int ((((63 : Int32) - b).toUInt32 >>> ((3 : Int32) &&& 31).toUInt32).toInt32)), .unset, .unset] [])) _
    refine XS.aloadN X1.here hx rfl (hb hby d5_10) rfl rfl ?_
    show Steps p.tables e below (T1.setTop (mkF m 11 #[.val (.ref o), .val (.int ((((63 : Int32) - b).toUInt32 >>> ((3 : Int32) &&& 31).toUInt32).toInt32)), .unset, .unset] [(.ref o)])) _
    refine st2 _ ?_
    show Steps p.tables e below (T2.setTop (mkF m 14 #[.val (.ref o), .val (.int ((((63 : Int32) - b).toUInt32 >>> ((3 : Int32) &&& 31).toUInt32).toInt32)), .unset, .unset] [(.int (2 : Int32))])) _
    refine XS.aloadN X2.here hx rfl (hb hby d5_14) rfl rfl ?_
    show Steps p.tables e below (T2.setTop (mkF m 15 #[.val (.ref o), .val (.int ((((63 : Int32) - b).toUInt32 >>> ((3 : Int32) &&& 31).toUInt32).toInt32)), .unset, .unset] [(.ref o), (.int (2 : Int32))])) _
    refine st3 _ ?_
    show Steps p.tables e below (T3.setTop (mkF m 18 #[.val (.ref o), .val (.int ((((63 : Int32) - b).toUInt32 >>> ((3 : Int32) &&& 31).toUInt32).toInt32)), .unset, .unset] [(.int (0 : Int32)), (.int (2 : Int32))])) _
    refine XS.isub X3.here hx rfl (hb hby d5_18) rfl ?_
    show Steps p.tables e below (T3.setTop (mkF m 19 #[.val (.ref o), .val (.int ((((63 : Int32) - b).toUInt32 >>> ((3 : Int32) &&& 31).toUInt32).toInt32)), .unset, .unset] [(.int ((2 : Int32) - (0 : Int32)))])) _
    refine XS.bipush X3.here hx rfl (hb hby d5_19) ?_
    show Steps p.tables e below (T3.setTop (mkF m 21 #[.val (.ref o), .val (.int ((((63 : Int32) - b).toUInt32 >>> ((3 : Int32) &&& 31).toUInt32).toInt32)), .unset, .unset] [(.int (8 : Int32)), (.int ((2 : Int32) - (0 : Int32)))])) _
    refine XS.icmpYes X3.here hx rfl (pc0 := 21) (pc' := 92) rfl (hb hby d5_21) rfl (tlt (by decide)).1 (by decide) (by decide) ?_
    show Steps p.tables e below (T3.setTop (mkF m 92 #[.val (.ref o), .val (.int ((((63 : Int32) - b).toUInt32 >>> ((3 : Int32) &&& 31).toUInt32).toInt32)), .unset, .unset] [])) _
    refine XS.aloadN X3.here hx rfl (hb hby d5_92) rfl rfl ?_
    show Steps p.tables e below (T3.setTop (mkF m 93 #[.val (.ref o), .val (.int ((((63 : Int32) - b).toUInt32 >>> ((3 : Int32) &&& 31).toUInt32).toInt32)), .unset, .unset] [(.ref o)])) _
    refine st4 _ ?_
    show Steps p.tables e below (T4.setTop (mkF m 96 #[.val (.ref o), .val (.int ((((63 : Int32) - b).toUInt32 >>> ((3 : Int32) &&& 31).toUInt32).toInt32)), .unset, .unset] [(.int b)])) _
    refine XS.bipush X4.here hx rfl (hb hby d5_96) ?_
    show Steps p.tables e below (T4.setTop (mkF m 98 #[.val (.ref o), .val (.int ((((63 : Int32) - b).toUInt32 >>> ((3 : Int32) &&& 31).toUInt32).toInt32)), .unset, .unset] [(.int (56 : Int32)), (.int b)])) _
    refine XS.icmpNo X4.here hx rfl (hb hby d5_98) rfl (flt hb1).2.2.1 ?_
    show Steps p.tables e below (T4.setTop (mkF m 101 #[.val (.ref o), .val (.int ((((63 : Int32) - b).toUInt32 >>> ((3 : Int32) &&& 31).toUInt32).toInt32)), .unset, .unset] [])) _
    refine XS.aloadN X4.here hx rfl (hb hby d5_101) rfl rfl ?_
    show Steps p.tables e below (T4.setTop (mkF m 102 #[.val (.ref o), .val (.int ((((63 : Int32) - b).toUInt32 >>> ((3 : Int32) &&& 31).toUInt32).toInt32)), .unset, .unset] [(.ref o)])) _
    refine st5 _ ?_
    show Steps p.tables e below (T5.setTop (mkF m 105 #[.val (.ref o), .val (.int ((((63 : Int32) - b).toUInt32 >>> ((3 : Int32) &&& 31).toUInt32).toInt32)), .unset, .unset] [(.int (2 : Int32))])) _
    refine XS.aloadN X5.here hx rfl (hb hby d5_105) rfl rfl ?_
    show Steps p.tables e below (T5.setTop (mkF m 106 #[.val (.ref o), .val (.int ((((63 : Int32) - b).toUInt32 >>> ((3 : Int32) &&& 31).toUInt32).toInt32)), .unset, .unset] [(.ref o), (.int (2 : Int32))])) _
    refine st6 _ ?_
    show Steps p.tables e below (T6.setTop (mkF m 109 #[.val (.ref o), .val (.int ((((63 : Int32) - b).toUInt32 >>> ((3 : Int32) &&& 31).toUInt32).toInt32)), .unset, .unset] [(.int (0 : Int32)), (.int (2 : Int32))])) _
    refine XS.icmpNo X6.here hx rfl (hb hby d5_109) rfl (tlt (by decide)).2.2.2 ?_
    show Steps p.tables e below (T6.setTop (mkF m 112 #[.val (.ref o), .val (.int ((((63 : Int32) - b).toUInt32 >>> ((3 : Int32) &&& 31).toUInt32).toInt32)), .unset, .unset] [])) _
    refine XS.aloadN X6.here hx rfl (hb hby d5_112) rfl rfl ?_
    show Steps p.tables e below (T6.setTop (mkF m 113 #[.val (.ref o), .val (.int ((((63 : Int32) - b).toUInt32 >>> ((3 : Int32) &&& 31).toUInt32).toInt32)), .unset, .unset] [(.ref o)])) _
    refine XS.dup X6.here hx rfl (hb hby d5_113) rfl rfl ?_
    show Steps p.tables e below (T6.setTop (mkF m 114 #[.val (.ref o), .val (.int ((((63 : Int32) - b).toUInt32 >>> ((3 : Int32) &&& 31).toUInt32).toInt32)), .unset, .unset] [(.ref o), (.ref o)])) _
    refine st7 _ ?_
    show Steps p.tables e below (T7.setTop (mkF m 117 #[.val (.ref o), .val (.int ((((63 : Int32) - b).toUInt32 >>> ((3 : Int32) &&& 31).toUInt32).toInt32)), .unset, .unset] [(.int (2 : Int32)), (.ref o)])) _
    refine XS.iconst X7.here hx rfl (hb hby d5_117) ?_
    show Steps p.tables e below (T7.setTop (mkF m 118 #[.val (.ref o), .val (.int ((((63 : Int32) - b).toUInt32 >>> ((3 : Int32) &&& 31).toUInt32).toInt32)), .unset, .unset] [(.int (1 : Int32)), (.int (2 : Int32)), (.ref o)])) _
    refine XS.isub X7.here hx rfl (hb hby d5_118) rfl ?_
    show Steps p.tables e below (T7.setTop (mkF m 119 #[.val (.ref o), .val (.int ((((63 : Int32) - b).toUInt32 >>> ((3 : Int32) &&& 31).toUInt32).toInt32)), .unset, .unset] [(.int ((2 : Int32) - (1 : Int32))), (.ref o)])) _
    refine st8 _ ?_
    show Steps p.tables e below (T8.setTop (mkF m 122 #[.val (.ref o), .val (.int ((((63 : Int32) - b).toUInt32 >>> ((3 : Int32) &&& 31).toUInt32).toInt32)), .unset, .unset] [])) _
    refine XS.aloadN X8.here hx rfl (hb hby d5_122) rfl rfl ?_
    show Steps p.tables e below (T8.setTop (mkF m 123 #[.val (.ref o), .val (.int ((((63 : Int32) - b).toUInt32 >>> ((3 : Int32) &&& 31).toUInt32).toInt32)), .unset, .unset] [(.ref o)])) _
    refine XS.aloadN X8.here hx rfl (hb hby d5_123) rfl rfl ?_
    show Steps p.tables e below (T8.setTop (mkF m 124 #[.val (.ref o), .val (.int ((((63 : Int32) - b).toUInt32 >>> ((3 : Int32) &&& 31).toUInt32).toInt32)), .unset, .unset] [(.ref o), (.ref o)])) _
    refine st9 _ ?_
    show Steps p.tables e below (T9.setTop (mkF m 127 #[.val (.ref o), .val (.int ((((63 : Int32) - b).toUInt32 >>> ((3 : Int32) &&& 31).toUInt32).toInt32)), .unset, .unset] [(.long c0), (.ref o)])) _
    refine XS.bipush X9.here hx rfl (hb hby d5_127) ?_
    show Steps p.tables e below (T9.setTop (mkF m 129 #[.val (.ref o), .val (.int ((((63 : Int32) - b).toUInt32 >>> ((3 : Int32) &&& 31).toUInt32).toInt32)), .unset, .unset] [(.int (8 : Int32)), (.long c0), (.ref o)])) _
    refine XS.lshl X9.here hx rfl (hb hby d5_129) rfl ?_
    show Steps p.tables e below (T9.setTop (mkF m 130 #[.val (.ref o), .val (.int ((((63 : Int32) - b).toUInt32 >>> ((3 : Int32) &&& 31).toUInt32).toInt32)), .unset, .unset] [(.long (c0 <<< ((8 : Int32) &&& 0x3f).toInt64)), (.ref o)])) _
    refine XS.aloadN X9.here hx rfl (hb hby d5_130) rfl rfl ?_
    show Steps p.tables e below (T9.setTop (mkF m 131 #[.val (.ref o), .val (.int ((((63 : Int32) - b).toUInt32 >>> ((3 : Int32) &&& 31).toUInt32).toInt32)), .unset, .unset] [(.ref o), (.long (c0 <<< ((8 : Int32) &&& 0x3f).toInt64)), (.ref o)])) _
    refine st10 _ ?_
    show Steps p.tables e below (T10.setTop (mkF m 134 #[.val (.ref o), .val (.int ((((63 : Int32) - b).toUInt32 >>> ((3 : Int32) &&& 31).toUInt32).toInt32)), .unset, .unset] [(.ref arr), (.long (c0 <<< ((8 : Int32) &&& 0x3f).toInt64)), (.ref o)])) _
    refine XS.aloadN X10.here hx rfl (hb hby d5_134) rfl rfl ?_
    show Steps p.tables e below (T10.setTop (mkF m 135 #[.val (.ref o), .val (.int ((((63 : Int32) - b).toUInt32 >>> ((3 : Int32) &&& 31).toUInt32).toInt32)), .unset, .unset] [(.ref o), (.ref arr), (.long (c0 <<< ((8 : Int32) &&& 0x3f).toInt64)), (.ref o)])) _
    refine st11 _ ?_
    show Steps p.tables e below (T11.setTop (mkF m 138 #[.val (.ref o), .val (.int ((((63 : Int32) - b).toUInt32 >>> ((3 : Int32) &&& 31).toUInt32).toInt32)), .unset, .unset] [(.int ((2 : Int32) - (1 : Int32))), (.ref arr), (.long (c0 <<< ((8 : Int32) &&& 0x3f).toInt64)), (.ref o)])) _
    refine X11.baloadBytes hx (j := ((2 : Int32) - (1 : Int32))) (v := (.int w1)) (by rw [e11]; exact Ar12.1) (State.isArrayOf_alike hZ.alike Ar12.2.1) Ar12.2.2 hin12 hat12 (g := (mkF m 138 #[.val (.ref o), .val (.int ((((63 : Int32) - b).toUInt32 >>> ((3 : Int32) &&& 31).toUInt32).toInt32)), .unset, .unset] [(.int ((2 : Int32) - (1 : Int32))), (.ref arr), (.long (c0 <<< ((8 : Int32) &&& 0x3f).toInt64)), (.ref o)])) rfl rfl (hb hby d5_138) _ ?_
    show Steps p.tables e below (T11.setTop (mkF m 139 #[.val (.ref o), .val (.int ((((63 : Int32) - b).toUInt32 >>> ((3 : Int32) &&& 31).toUInt32).toInt32)), .unset, .unset] [(.int w1), (.long (c0 <<< ((8 : Int32) &&& 0x3f).toInt64)), (.ref o)])) _
    refine XS.sipush X11.here hx rfl (hb hby d5_139) ?_
    show Steps p.tables e below (T11.setTop (mkF m 142 #[.val (.ref o), .val (.int ((((63 : Int32) - b).toUInt32 >>> ((3 : Int32) &&& 31).toUInt32).toInt32)), .unset, .unset] [(.int (255 : Int32)), (.int w1), (.long (c0 <<< ((8 : Int32) &&& 0x3f).toInt64)), (.ref o)])) _
    refine XS.iand X11.here hx rfl (hb hby d5_142) rfl ?_
    show Steps p.tables e below (T11.setTop (mkF m 143 #[.val (.ref o), .val (.int ((((63 : Int32) - b).toUInt32 >>> ((3 : Int32) &&& 31).toUInt32).toInt32)), .unset, .unset] [(.int (w1 &&& (255 : Int32))), (.long (c0 <<< ((8 : Int32) &&& 0x3f).toInt64)), (.ref o)])) _
    refine XS.i2l X11.here hx rfl (hb hby d5_143) rfl ?_
    show Steps p.tables e below (T11.setTop (mkF m 144 #[.val (.ref o), .val (.int ((((63 : Int32) - b).toUInt32 >>> ((3 : Int32) &&& 31).toUInt32).toInt32)), .unset, .unset] [(.long ((w1 &&& (255 : Int32)).toInt64)), (.long (c0 <<< ((8 : Int32) &&& 0x3f).toInt64)), (.ref o)])) _
    refine XS.lor X11.here hx rfl (hb hby d5_144) rfl ?_
    show Steps p.tables e below (T11.setTop (mkF m 145 #[.val (.ref o), .val (.int ((((63 : Int32) - b).toUInt32 >>> ((3 : Int32) &&& 31).toUInt32).toInt32)), .unset, .unset] [(.long ((c0 <<< ((8 : Int32) &&& 0x3f).toInt64) ||| ((w1 &&& (255 : Int32)).toInt64))), (.ref o)])) _
    refine st13 _ ?_
    show Steps p.tables e below (T13.setTop (mkF m 148 #[.val (.ref o), .val (.int ((((63 : Int32) - b).toUInt32 >>> ((3 : Int32) &&& 31).toUInt32).toInt32)), .unset, .unset] [])) _
    refine XS.aloadN X13.here hx rfl (hb hby d5_148) rfl rfl ?_
    show Steps p.tables e below (T13.setTop (mkF m 149 #[.val (.ref o), .val (.int ((((63 : Int32) - b).toUInt32 >>> ((3 : Int32) &&& 31).toUInt32).toInt32)), .unset, .unset] [(.ref o)])) _
    refine XS.dup X13.here hx rfl (hb hby d5_149) rfl rfl ?_
    show Steps p.tables e below (T13.setTop (mkF m 150 #[.val (.ref o), .val (.int ((((63 : Int32) - b).toUInt32 >>> ((3 : Int32) &&& 31).toUInt32).toInt32)), .unset, .unset] [(.ref o), (.ref o)])) _
    refine st14 _ ?_
    show Steps p.tables e below (T14.setTop (mkF m 153 #[.val (.ref o), .val (.int ((((63 : Int32) - b).toUInt32 >>> ((3 : Int32) &&& 31).toUInt32).toInt32)), .unset, .unset] [(.int b), (.ref o)])) _
    refine XS.bipush X14.here hx rfl (hb hby d5_153) ?_
    show Steps p.tables e below (T14.setTop (mkF m 155 #[.val (.ref o), .val (.int ((((63 : Int32) - b).toUInt32 >>> ((3 : Int32) &&& 31).toUInt32).toInt32)), .unset, .unset] [(.int (8 : Int32)), (.int b), (.ref o)])) _
    refine XS.iadd X14.here hx rfl (hb hby d5_155) rfl ?_
    show Steps p.tables e below (T14.setTop (mkF m 156 #[.val (.ref o), .val (.int ((((63 : Int32) - b).toUInt32 >>> ((3 : Int32) &&& 31).toUInt32).toInt32)), .unset, .unset] [(.int (b + (8 : Int32))), (.ref o)])) _
    refine st15 _ ?_
    show Steps p.tables e below (T15.setTop (mkF m 159 #[.val (.ref o), .val (.int ((((63 : Int32) - b).toUInt32 >>> ((3 : Int32) &&& 31).toUInt32).toInt32)), .unset, .unset] [])) _
    refine XS.goto X15.here hx rfl (pc0 := 159) (pc' := 92) rfl (hb hby d5_159) (by decide) (by decide) ?_
    show Steps p.tables e below (T15.setTop (mkF m 92 #[.val (.ref o), .val (.int ((((63 : Int32) - b).toUInt32 >>> ((3 : Int32) &&& 31).toUInt32).toInt32)), .unset, .unset] [])) _
    refine XS.aloadN X15.here hx rfl (hb hby d5_92) rfl rfl ?_
    show Steps p.tables e below (T15.setTop (mkF m 93 #[.val (.ref o), .val (.int ((((63 : Int32) - b).toUInt32 >>> ((3 : Int32) &&& 31).toUInt32).toInt32)), .unset, .unset] [(.ref o)])) _
    refine st16 _ ?_
    show Steps p.tables e below (T16.setTop (mkF m 96 #[.val (.ref o), .val (.int ((((63 : Int32) - b).toUInt32 >>> ((3 : Int32) &&& 31).toUInt32).toInt32)), .unset, .unset] [(.int (b + (8 : Int32)))])) _
    refine XS.bipush X16.here hx rfl (hb hby d5_96) ?_
    show Steps p.tables e below (T16.setTop (mkF m 98 #[.val (.ref o), .val (.int ((((63 : Int32) - b).toUInt32 >>> ((3 : Int32) &&& 31).toUInt32).toInt32)), .unset, .unset] [(.int (56 : Int32)), (.int (b + (8 : Int32)))])) _
    refine XS.icmpNo X16.here hx rfl (hb hby d5_98) rfl (flt hb2).2.2.1 ?_
    show Steps p.tables e below (T16.setTop (mkF m 101 #[.val (.ref o), .val (.int ((((63 : Int32) - b).toUInt32 >>> ((3 : Int32) &&& 31).toUInt32).toInt32)), .unset, .unset] [])) _
    refine XS.aloadN X16.here hx rfl (hb hby d5_101) rfl rfl ?_
    show Steps p.tables e below (T16.setTop (mkF m 102 #[.val (.ref o), .val (.int ((((63 : Int32) - b).toUInt32 >>> ((3 : Int32) &&& 31).toUInt32).toInt32)), .unset, .unset] [(.ref o)])) _
    refine st17 _ ?_
    show Steps p.tables e below (T17.setTop (mkF m 105 #[.val (.ref o), .val (.int ((((63 : Int32) - b).toUInt32 >>> ((3 : Int32) &&& 31).toUInt32).toInt32)), .unset, .unset] [(.int ((2 : Int32) - (1 : Int32)))])) _
    refine XS.aloadN X17.here hx rfl (hb hby d5_105) rfl rfl ?_
    show Steps p.tables e below (T17.setTop (mkF m 106 #[.val (.ref o), .val (.int ((((63 : Int32) - b).toUInt32 >>> ((3 : Int32) &&& 31).toUInt32).toInt32)), .unset, .unset] [(.ref o), (.int ((2 : Int32) - (1 : Int32)))])) _
    refine st18 _ ?_
    show Steps p.tables e below (T18.setTop (mkF m 109 #[.val (.ref o), .val (.int ((((63 : Int32) - b).toUInt32 >>> ((3 : Int32) &&& 31).toUInt32).toInt32)), .unset, .unset] [(.int (0 : Int32)), (.int ((2 : Int32) - (1 : Int32)))])) _
    refine XS.icmpNo X18.here hx rfl (hb hby d5_109) rfl (tlt (by decide)).2.2.2 ?_
    show Steps p.tables e below (T18.setTop (mkF m 112 #[.val (.ref o), .val (.int ((((63 : Int32) - b).toUInt32 >>> ((3 : Int32) &&& 31).toUInt32).toInt32)), .unset, .unset] [])) _
    refine XS.aloadN X18.here hx rfl (hb hby d5_112) rfl rfl ?_
    show Steps p.tables e below (T18.setTop (mkF m 113 #[.val (.ref o), .val (.int ((((63 : Int32) - b).toUInt32 >>> ((3 : Int32) &&& 31).toUInt32).toInt32)), .unset, .unset] [(.ref o)])) _
    refine XS.dup X18.here hx rfl (hb hby d5_113) rfl rfl ?_
    show Steps p.tables e below (T18.setTop (mkF m 114 #[.val (.ref o), .val (.int ((((63 : Int32) - b).toUInt32 >>> ((3 : Int32) &&& 31).toUInt32).toInt32)), .unset, .unset] [(.ref o), (.ref o)])) _
    refine st19 _ ?_
    show Steps p.tables e below (T19.setTop (mkF m 117 #[.val (.ref o), .val (.int ((((63 : Int32) - b).toUInt32 >>> ((3 : Int32) &&& 31).toUInt32).toInt32)), .unset, .unset] [(.int ((2 : Int32) - (1 : Int32))), (.ref o)])) _
    refine XS.iconst X19.here hx rfl (hb hby d5_117) ?_
    show Steps p.tables e below (T19.setTop (mkF m 118 #[.val (.ref o), .val (.int ((((63 : Int32) - b).toUInt32 >>> ((3 : Int32) &&& 31).toUInt32).toInt32)), .unset, .unset] [(.int (1 : Int32)), (.int ((2 : Int32) - (1 : Int32))), (.ref o)])) _
    refine XS.isub X19.here hx rfl (hb hby d5_118) rfl ?_
    show Steps p.tables e below (T19.setTop (mkF m 119 #[.val (.ref o), .val (.int ((((63 : Int32) - b).toUInt32 >>> ((3 : Int32) &&& 31).toUInt32).toInt32)), .unset, .unset] [(.int (((2 : Int32) - (1 : Int32)) - (1 : Int32))), (.ref o)])) _
    refine st20 _ ?_
    show Steps p.tables e below (T20.setTop (mkF m 122 #[.val (.ref o), .val (.int ((((63 : Int32) - b).toUInt32 >>> ((3 : Int32) &&& 31).toUInt32).toInt32)), .unset, .unset] [])) _
    refine XS.aloadN X20.here hx rfl (hb hby d5_122) rfl rfl ?_
    show Steps p.tables e below (T20.setTop (mkF m 123 #[.val (.ref o), .val (.int ((((63 : Int32) - b).toUInt32 >>> ((3 : Int32) &&& 31).toUInt32).toInt32)), .unset, .unset] [(.ref o)])) _
    refine XS.aloadN X20.here hx rfl (hb hby d5_123) rfl rfl ?_
    show Steps p.tables e below (T20.setTop (mkF m 124 #[.val (.ref o), .val (.int ((((63 : Int32) - b).toUInt32 >>> ((3 : Int32) &&& 31).toUInt32).toInt32)), .unset, .unset] [(.ref o), (.ref o)])) _
    refine st21 _ ?_
    show Steps p.tables e below (T21.setTop (mkF m 127 #[.val (.ref o), .val (.int ((((63 : Int32) - b).toUInt32 >>> ((3 : Int32) &&& 31).toUInt32).toInt32)), .unset, .unset] [(.long ((c0 <<< ((8 : Int32) &&& 0x3f).toInt64) ||| ((w1 &&& (255 : Int32)).toInt64))), (.ref o)])) _
    refine XS.bipush X21.here hx rfl (hb hby d5_127) ?_
    show Steps p.tables e below (T21.setTop (mkF m 129 #[.val (.ref o), .val (.int ((((63 : Int32) - b).toUInt32 >>> ((3 : Int32) &&& 31).toUInt32).toInt32)), .unset, .unset] [(.int (8 : Int32)), (.long ((c0 <<< ((8 : Int32) &&& 0x3f).toInt64) ||| ((w1 &&& (255 : Int32)).toInt64))), (.ref o)])) _
    refine XS.lshl X21.here hx rfl (hb hby d5_129) rfl ?_
    show Steps p.tables e below (T21.setTop (mkF m 130 #[.val (.ref o), .val (.int ((((63 : Int32) - b).toUInt32 >>> ((3 : Int32) &&& 31).toUInt32).toInt32)), .unset, .unset] [(.long (((c0 <<< ((8 : Int32) &&& 0x3f).toInt64) ||| ((w1 &&& (255 : Int32)).toInt64)) <<< ((8 : Int32) &&& 0x3f).toInt64)), (.ref o)])) _
    refine XS.aloadN X21.here hx rfl (hb hby d5_130) rfl rfl ?_
    show Steps p.tables e below (T21.setTop (mkF m 131 #[.val (.ref o), .val (.int ((((63 : Int32) - b).toUInt32 >>> ((3 : Int32) &&& 31).toUInt32).toInt32)), .unset, .unset] [(.ref o), (.long (((c0 <<< ((8 : Int32) &&& 0x3f).toInt64) ||| ((w1 &&& (255 : Int32)).toInt64)) <<< ((8 : Int32) &&& 0x3f).toInt64)), (.ref o)])) _
    refine st22 _ ?_
    show Steps p.tables e below (T22.setTop (mkF m 134 #[.val (.ref o), .val (.int ((((63 : Int32) - b).toUInt32 >>> ((3 : Int32) &&& 31).toUInt32).toInt32)), .unset, .unset] [(.ref arr), (.long (((c0 <<< ((8 : Int32) &&& 0x3f).toInt64) ||| ((w1 &&& (255 : Int32)).toInt64)) <<< ((8 : Int32) &&& 0x3f).toInt64)), (.ref o)])) _
    refine XS.aloadN X22.here hx rfl (hb hby d5_134) rfl rfl ?_
    show Steps p.tables e below (T22.setTop (mkF m 135 #[.val (.ref o), .val (.int ((((63 : Int32) - b).toUInt32 >>> ((3 : Int32) &&& 31).toUInt32).toInt32)), .unset, .unset] [(.ref o), (.ref arr), (.long (((c0 <<< ((8 : Int32) &&& 0x3f).toInt64) ||| ((w1 &&& (255 : Int32)).toInt64)) <<< ((8 : Int32) &&& 0x3f).toInt64)), (.ref o)])) _
    refine st23 _ ?_
    show Steps p.tables e below (T23.setTop (mkF m 138 #[.val (.ref o), .val (.int ((((63 : Int32) - b).toUInt32 >>> ((3 : Int32) &&& 31).toUInt32).toInt32)), .unset, .unset] [(.int (((2 : Int32) - (1 : Int32)) - (1 : Int32))), (.ref arr), (.long (((c0 <<< ((8 : Int32) &&& 0x3f).toInt64) ||| ((w1 &&& (255 : Int32)).toInt64)) <<< ((8 : Int32) &&& 0x3f).toInt64)), (.ref o)])) _
    refine X23.baloadBytes hx (j := (((2 : Int32) - (1 : Int32)) - (1 : Int32))) (v := (.int w0)) (by rw [e23]; exact Ar24.1) (State.isArrayOf_alike hZ.alike Ar24.2.1) Ar24.2.2 hin24 hat24 (g := (mkF m 138 #[.val (.ref o), .val (.int ((((63 : Int32) - b).toUInt32 >>> ((3 : Int32) &&& 31).toUInt32).toInt32)), .unset, .unset] [(.int (((2 : Int32) - (1 : Int32)) - (1 : Int32))), (.ref arr), (.long (((c0 <<< ((8 : Int32) &&& 0x3f).toInt64) ||| ((w1 &&& (255 : Int32)).toInt64)) <<< ((8 : Int32) &&& 0x3f).toInt64)), (.ref o)])) rfl rfl (hb hby d5_138) _ ?_
    show Steps p.tables e below (T23.setTop (mkF m 139 #[.val (.ref o), .val (.int ((((63 : Int32) - b).toUInt32 >>> ((3 : Int32) &&& 31).toUInt32).toInt32)), .unset, .unset] [(.int w0), (.long (((c0 <<< ((8 : Int32) &&& 0x3f).toInt64) ||| ((w1 &&& (255 : Int32)).toInt64)) <<< ((8 : Int32) &&& 0x3f).toInt64)), (.ref o)])) _
    refine XS.sipush X23.here hx rfl (hb hby d5_139) ?_
    show Steps p.tables e below (T23.setTop (mkF m 142 #[.val (.ref o), .val (.int ((((63 : Int32) - b).toUInt32 >>> ((3 : Int32) &&& 31).toUInt32).toInt32)), .unset, .unset] [(.int (255 : Int32)), (.int w0), (.long (((c0 <<< ((8 : Int32) &&& 0x3f).toInt64) ||| ((w1 &&& (255 : Int32)).toInt64)) <<< ((8 : Int32) &&& 0x3f).toInt64)), (.ref o)])) _
    refine XS.iand X23.here hx rfl (hb hby d5_142) rfl ?_
    show Steps p.tables e below (T23.setTop (mkF m 143 #[.val (.ref o), .val (.int ((((63 : Int32) - b).toUInt32 >>> ((3 : Int32) &&& 31).toUInt32).toInt32)), .unset, .unset] [(.int (w0 &&& (255 : Int32))), (.long (((c0 <<< ((8 : Int32) &&& 0x3f).toInt64) ||| ((w1 &&& (255 : Int32)).toInt64)) <<< ((8 : Int32) &&& 0x3f).toInt64)), (.ref o)])) _
    refine XS.i2l X23.here hx rfl (hb hby d5_143) rfl ?_
    show Steps p.tables e below (T23.setTop (mkF m 144 #[.val (.ref o), .val (.int ((((63 : Int32) - b).toUInt32 >>> ((3 : Int32) &&& 31).toUInt32).toInt32)), .unset, .unset] [(.long ((w0 &&& (255 : Int32)).toInt64)), (.long (((c0 <<< ((8 : Int32) &&& 0x3f).toInt64) ||| ((w1 &&& (255 : Int32)).toInt64)) <<< ((8 : Int32) &&& 0x3f).toInt64)), (.ref o)])) _
    refine XS.lor X23.here hx rfl (hb hby d5_144) rfl ?_
    show Steps p.tables e below (T23.setTop (mkF m 145 #[.val (.ref o), .val (.int ((((63 : Int32) - b).toUInt32 >>> ((3 : Int32) &&& 31).toUInt32).toInt32)), .unset, .unset] [(.long ((((c0 <<< ((8 : Int32) &&& 0x3f).toInt64) ||| ((w1 &&& (255 : Int32)).toInt64)) <<< ((8 : Int32) &&& 0x3f).toInt64) ||| ((w0 &&& (255 : Int32)).toInt64))), (.ref o)])) _
    refine st25 _ ?_
    show Steps p.tables e below (T25.setTop (mkF m 148 #[.val (.ref o), .val (.int ((((63 : Int32) - b).toUInt32 >>> ((3 : Int32) &&& 31).toUInt32).toInt32)), .unset, .unset] [])) _
    refine XS.aloadN X25.here hx rfl (hb hby d5_148) rfl rfl ?_
    show Steps p.tables e below (T25.setTop (mkF m 149 #[.val (.ref o), .val (.int ((((63 : Int32) - b).toUInt32 >>> ((3 : Int32) &&& 31).toUInt32).toInt32)), .unset, .unset] [(.ref o)])) _
    refine XS.dup X25.here hx rfl (hb hby d5_149) rfl rfl ?_
    show Steps p.tables e below (T25.setTop (mkF m 150 #[.val (.ref o), .val (.int ((((63 : Int32) - b).toUInt32 >>> ((3 : Int32) &&& 31).toUInt32).toInt32)), .unset, .unset] [(.ref o), (.ref o)])) _
    refine st26 _ ?_
    show Steps p.tables e below (T26.setTop (mkF m 153 #[.val (.ref o), .val (.int ((((63 : Int32) - b).toUInt32 >>> ((3 : Int32) &&& 31).toUInt32).toInt32)), .unset, .unset] [(.int (b + (8 : Int32))), (.ref o)])) _
    refine XS.bipush X26.here hx rfl (hb hby d5_153) ?_
    show Steps p.tables e below (T26.setTop (mkF m 155 #[.val (.ref o), .val (.int ((((63 : Int32) - b).toUInt32 >>> ((3 : Int32) &&& 31).toUInt32).toInt32)), .unset, .unset] [(.int (8 : Int32)), (.int (b + (8 : Int32))), (.ref o)])) _
    refine XS.iadd X26.here hx rfl (hb hby d5_155) rfl ?_
    show Steps p.tables e below (T26.setTop (mkF m 156 #[.val (.ref o), .val (.int ((((63 : Int32) - b).toUInt32 >>> ((3 : Int32) &&& 31).toUInt32).toInt32)), .unset, .unset] [(.int ((b + (8 : Int32)) + (8 : Int32))), (.ref o)])) _
    refine st27 _ ?_
    show Steps p.tables e below (T27.setTop (mkF m 159 #[.val (.ref o), .val (.int ((((63 : Int32) - b).toUInt32 >>> ((3 : Int32) &&& 31).toUInt32).toInt32)), .unset, .unset] [])) _
    refine XS.goto X27.here hx rfl (pc0 := 159) (pc' := 92) rfl (hb hby d5_159) (by decide) (by decide) ?_
    show Steps p.tables e below (T27.setTop (mkF m 92 #[.val (.ref o), .val (.int ((((63 : Int32) - b).toUInt32 >>> ((3 : Int32) &&& 31).toUInt32).toInt32)), .unset, .unset] [])) _
    refine XS.aloadN X27.here hx rfl (hb hby d5_92) rfl rfl ?_
    show Steps p.tables e below (T27.setTop (mkF m 93 #[.val (.ref o), .val (.int ((((63 : Int32) - b).toUInt32 >>> ((3 : Int32) &&& 31).toUInt32).toInt32)), .unset, .unset] [(.ref o)])) _
    refine st28 _ ?_
    show Steps p.tables e below (T28.setTop (mkF m 96 #[.val (.ref o), .val (.int ((((63 : Int32) - b).toUInt32 >>> ((3 : Int32) &&& 31).toUInt32).toInt32)), .unset, .unset] [(.int ((b + (8 : Int32)) + (8 : Int32)))])) _
    refine XS.bipush X28.here hx rfl (hb hby d5_96) ?_
    show Steps p.tables e below (T28.setTop (mkF m 98 #[.val (.ref o), .val (.int ((((63 : Int32) - b).toUInt32 >>> ((3 : Int32) &&& 31).toUInt32).toInt32)), .unset, .unset] [(.int (56 : Int32)), (.int ((b + (8 : Int32)) + (8 : Int32)))])) _
    refine XS.icmpNo X28.here hx rfl (hb hby d5_98) rfl (flt hb3).2.2.1 ?_
    show Steps p.tables e below (T28.setTop (mkF m 101 #[.val (.ref o), .val (.int ((((63 : Int32) - b).toUInt32 >>> ((3 : Int32) &&& 31).toUInt32).toInt32)), .unset, .unset] [])) _
    refine XS.aloadN X28.here hx rfl (hb hby d5_101) rfl rfl ?_
    show Steps p.tables e below (T28.setTop (mkF m 102 #[.val (.ref o), .val (.int ((((63 : Int32) - b).toUInt32 >>> ((3 : Int32) &&& 31).toUInt32).toInt32)), .unset, .unset] [(.ref o)])) _
    refine st29 _ ?_
    show Steps p.tables e below (T29.setTop (mkF m 105 #[.val (.ref o), .val (.int ((((63 : Int32) - b).toUInt32 >>> ((3 : Int32) &&& 31).toUInt32).toInt32)), .unset, .unset] [(.int (((2 : Int32) - (1 : Int32)) - (1 : Int32)))])) _
    refine XS.aloadN X29.here hx rfl (hb hby d5_105) rfl rfl ?_
    show Steps p.tables e below (T29.setTop (mkF m 106 #[.val (.ref o), .val (.int ((((63 : Int32) - b).toUInt32 >>> ((3 : Int32) &&& 31).toUInt32).toInt32)), .unset, .unset] [(.ref o), (.int (((2 : Int32) - (1 : Int32)) - (1 : Int32)))])) _
    refine st30 _ ?_
    show Steps p.tables e below (T30.setTop (mkF m 109 #[.val (.ref o), .val (.int ((((63 : Int32) - b).toUInt32 >>> ((3 : Int32) &&& 31).toUInt32).toInt32)), .unset, .unset] [(.int (0 : Int32)), (.int (((2 : Int32) - (1 : Int32)) - (1 : Int32)))])) _
    refine XS.icmpYes X30.here hx rfl (pc0 := 109) (pc' := 162) rfl (hb hby d5_109) rfl (flt (by decide)).2.2.2 (by decide) (by decide) ?_
    show Steps p.tables e below (T30.setTop (mkF m 162 #[.val (.ref o), .val (.int ((((63 : Int32) - b).toUInt32 >>> ((3 : Int32) &&& 31).toUInt32).toInt32)), .unset, .unset] [])) _
    exact X30.returnOut hx Bd.returns (hb hby d5_162) hr
  · show Q5a Z o arr w0 w1 c0 ps b h0 n0 _ T30.heap _
    rw [e30]
    exact ⟨rfl, N27, K27, F27_o_bytes, F27_o_from, F27_o_container, F27_o_bits, F27_o_loadedFrom, F27_o_pastStart⟩
theorem ef_5b (m : MethodId) (o : Addr) : entryFrame m #[(.ref o)] 4 = mkF m 0 #[.val (.ref o), .unset, .unset, .unset] [] := by first | (simp [entryFrame, mkF, argsToLocals, Value.category]; done) | rfl
def Q5b (Z : State) (o : Addr) (h0 : Heap) (n0 : Nat) (v : Option Value) (h : Heap) (L : List Loc) : Prop := v = none ∧ Fr n0 L ∧ h = h0
set_option maxRecDepth 65536 in
set_option maxHeartbeats 40000000 in
theorem rm5b (l : Launch) (Z : State) (a0 : Array Value) (hw : ∀ d ∈ tables_1, d.before a0 Z = true) (ws : List Jvm.Cond) (o arr : Addr) (c0 ps : Int64) (b : Int32) (h0 : Heap) (n0 : Nat) (Z0 : n0 ≤ h0.size) (F_bytes : Fld Z h0 o "com/example/segmented_log/segmentedlog/format/BackwardBits" "bytes" "[B" (.ref arr)) (F_from : Fld Z h0 o "com/example/segmented_log/segmentedlog/format/BackwardBits" "from" "I" (.int (0 : Int32))) (F_container : Fld Z h0 o "com/example/segmented_log/segmentedlog/format/BackwardBits" "container" "J" (.long c0)) (F_bits : Fld Z h0 o "com/example/segmented_log/segmentedlog/format/BackwardBits" "bits" "I" (.int b)) (F_loadedFrom : Fld Z h0 o "com/example/segmented_log/segmentedlog/format/BackwardBits" "loadedFrom" "I" (.int (0 : Int32))) (F_pastStart : Fld Z h0 o "com/example/segmented_log/segmentedlog/format/BackwardBits" "pastStart" "J" (.long ps)) (hb1 : ¬ (56 : Int32) < b) :
    MetFree l (⟨"com/example/segmented_log/segmentedlog/format/BackwardBits", "refill", "()V"⟩ : MethodName) (head1 (Jvm.Cond.code (⟨"com/example/segmented_log/segmentedlog/format/BackwardBits", "refill", "()V"⟩ : MethodName) prog_13_method_7_code 4 none :: ws) ({ frames := 0, cells := 0, slots := 0, locals := 0 } : Room)) (fun a U => a = #[(.ref o)] ∧ Z.Warmed39 U.vm ∧ U.heap = h0) (fun _ _ _ _ _ => True) (fun _ U oU U' => ∃ v L, oU = .returned v ∧ Q5b Z o h0 n0 v U'.heap L ∧ FrameEnd U oU U' L ({ frames := 0, cells := 0, slots := 0, locals := 0 } : Room).cells ({ frames := 0, cells := 0, slots := 0, locals := 0 } : Room).slots) := by
  refine MetFree.of_bodySF (plainFor_of_name pn_6) hisR ?_
  intro p e s m args below meth c s₁ Bd hml0 hP hK
  obtain ⟨rfl, hZ, hh⟩ := hP
  have hx := Bd.exec
  have hby := Bd.bytes
  have hml : c.maxLocals = 4 := hml0
  have hown : s.vm.findClass "com/example/segmented_log/segmentedlog/format/BackwardBits" = some m.cls := findClass_of_methodNamed Bd.named
  have hnm := (name_of_methodNamed Bd.named Bd.method).1
  have X0 : Stand p l e ({ frames := 0, cells := 0, slots := 0, locals := 0 } : Room) s m #[(.ref o)] below meth c s₁ [] 0 0 := Stand.of_body Bd
  have e0 : s₁.heap = h0 := by rw [← hh, Bd.state]; rfl
  have N0 := Fr.nil n0
  have go0 : ∀ t, Steps p.tables e below (s₁.setTop (mkF m 0 #[.val (.ref o), .unset, .unset, .unset] [])) t → Steps p.tables e below (s₁.setTop (entryFrame m #[(.ref o)] 4)) t := fun t k => castTop (ef_5b m o) k
  obtain ⟨T1, X1, e1, st1⟩ := getF X0 hx hZ hown (host := "") (Or.inl (hw _ (List.mem_of_getElem? (i := 22) rfl))) Via.refl e0 F_bits (g := (mkF m 3 #[.val (.ref o), .unset, .unset, .unset] [(.ref o), (.int (63 : Int32))])) rfl rfl (hb hby d5_3)
  obtain ⟨T2, X2, e2, st2⟩ := getF X1 hx hZ hown (host := "") (Or.inl (hw _ (List.mem_of_getElem? (i := 24) rfl))) Via.refl e1 F_loadedFrom (g := (mkF m 11 #[.val (.ref o), .val (.int ((((63 : Int32) - b).toUInt32 >>> ((3 : Int32) &&& 31).toUInt32).toInt32)), .unset, .unset] [(.ref o)])) rfl rfl (hb hby d5_11)
  obtain ⟨T3, X3, e3, st3⟩ := getF X2 hx hZ hown (host := "") (Or.inl (hw _ (List.mem_of_getElem? (i := 13) rfl))) Via.refl e2 F_from (g := (mkF m 15 #[.val (.ref o), .val (.int ((((63 : Int32) - b).toUInt32 >>> ((3 : Int32) &&& 31).toUInt32).toInt32)), .unset, .unset] [(.ref o), (.int (0 : Int32))])) rfl rfl (hb hby d5_15)
  obtain ⟨T4, X4, e4, st4⟩ := getF X3 hx hZ hown (host := "") (Or.inl (hw _ (List.mem_of_getElem? (i := 22) rfl))) Via.refl e3 F_bits (g := (mkF m 93 #[.val (.ref o), .val (.int ((((63 : Int32) - b).toUInt32 >>> ((3 : Int32) &&& 31).toUInt32).toInt32)), .unset, .unset] [(.ref o)])) rfl rfl (hb hby d5_93)
  obtain ⟨T5, X5, e5, st5⟩ := getF X4 hx hZ hown (host := "") (Or.inl (hw _ (List.mem_of_getElem? (i := 24) rfl))) Via.refl e4 F_loadedFrom (g := (mkF m 102 #[.val (.ref o), .val (.int ((((63 : Int32) - b).toUInt32 >>> ((3 : Int32) &&& 31).toUInt32).toInt32)), .unset, .unset] [(.ref o)])) rfl rfl (hb hby d5_102)
  obtain ⟨T6, X6, e6, st6⟩ := getF X5 hx hZ hown (host := "") (Or.inl (hw _ (List.mem_of_getElem? (i := 13) rfl))) Via.refl e5 F_from (g := (mkF m 106 #[.val (.ref o), .val (.int ((((63 : Int32) - b).toUInt32 >>> ((3 : Int32) &&& 31).toUInt32).toInt32)), .unset, .unset] [(.ref o), (.int (0 : Int32))])) rfl rfl (hb hby d5_106)
  obtain ⟨fs, hr, hrun, hended, hW, hsame⟩ := X6.leave (v := none) (fun _ => rfl)
  refine ⟨_, _, go0 _ ?_, hrun, hended, _, _, rfl, ?_, ⟨_, rfl⟩, hW, hsame.mono (by decide) (by decide)⟩
  · show Steps p.tables e below (s₁.setTop (mkF m 0 #[.val (.ref o), .unset, .unset, .unset] [])) _
    refine XS.bipush X0.here hx rfl (hb hby d5_0) ?_
    show Steps p.tables e below (s₁.setTop (mkF m 2 #[.val (.ref o), .unset, .unset, .unset] [(.int (63 : Int32))])) _
    refine XS.aloadN X0.here hx rfl (hb hby d5_2) rfl rfl ?_
    show Steps p.tables e below (s₁.setTop (mkF m 3 #[.val (.ref o), .unset, .unset, .unset] [(.ref o), (.int (63 : Int32))])) _
    refine st1 _ ?_
    show Steps p.tables e below (T1.setTop (mkF m 6 #[.val (.ref o), .unset, .unset, .unset] [(.int b), (.int (63 : Int32))])) _
    refine XS.isub X1.here hx rfl (hb hby d5_6) rfl ?_
    show Steps p.tables e below (T1.setTop (mkF m 7 #[.val (.ref o), .unset, .unset, .unset] [(.int ((63 : Int32) - b))])) _
    refine XS.iconst X1.here hx rfl (hb hby d5_7) ?_
    show Steps p.tables e below (T1.setTop (mkF m 8 #[.val (.ref o), .unset, .unset, .unset] [(.int (3 : Int32)), (.int ((63 : Int32) - b))])) _
    refine XS.iushr X1.here hx rfl (hb hby d5_8) rfl ?_
    show Steps p.tables e below (T1.setTop (mkF m 9 #[.val (.ref o), .unset, .unset, .unset] [(.int ((((63 : Int32) - b).toUInt32 >>> ((3 : Int32) &&& 31).toUInt32).toInt32))])) _
    refine XS.istoreN X1.here hx rfl (hb hby d5_9) rfl (l' := #[.val (.ref o), .val (.int ((((63 : Int32) - b).toUInt32 >>> ((3 : Int32) &&& 31).toUInt32).toInt32)), .unset, .unset]) rfl ?_
    show Steps p.tables e below (T1.setTop (mkF m 10 #[.val (.ref o), .val (.int ((((63 : Int32) - b).toUInt32 >>> ((3 : Int32) &&& 31).toUInt32).toInt32)), .unset, .unset] [])) _
    refine XS.aloadN X1.here hx rfl (hb hby d5_10) rfl rfl ?_
    show Steps p.tables e below (T1.setTop (mkF m 11 #[.val (.ref o), .val (.int ((((63 : Int32) - b).toUInt32 >>> ((3 : Int32) &&& 31).toUInt32).toInt32)), .unset, .unset] [(.ref o)])) _
    refine st2 _ ?_
    show Steps p.tables e below (T2.setTop (mkF m 14 #[.val (.ref o), .val (.int ((((63 : Int32) - b).toUInt32 >>> ((3 : Int32) &&& 31).toUInt32).toInt32)), .unset, .unset] [(.int (0 : Int32))])) _
    refine XS.aloadN X2.here hx rfl (hb hby d5_14) rfl rfl ?_
    show Steps p.tables e below (T2.setTop (mkF m 15 #[.val (.ref o), .val (.int ((((63 : Int32) - b).toUInt32 >>> ((3 : Int32) &&& 31).toUInt32).toInt32)), .unset, .unset] [(.ref o), (.int (0 : Int32))])) _
    refine st3 _ ?_
    show Steps p.tables e below (T3.setTop (mkF m 18 #[.val (.ref o), .val (.int ((((63 : Int32) - b).toUInt32 >>> ((3 : Int32) &&& 31).toUInt32).toInt32)), .unset, .unset] [(.int (0 : Int32)), (.int (0 : Int32))])) _
    refine XS.isub X3.here hx rfl (hb hby d5_18) rfl ?_
    show Steps p.tables e below (T3.setTop (mkF m 19 #[.val (.ref o), .val (.int ((((63 : Int32) - b).toUInt32 >>> ((3 : Int32) &&& 31).toUInt32).toInt32)), .unset, .unset] [(.int ((0 : Int32) - (0 : Int32)))])) _
    refine XS.bipush X3.here hx rfl (hb hby d5_19) ?_
    show Steps p.tables e below (T3.setTop (mkF m 21 #[.val (.ref o), .val (.int ((((63 : Int32) - b).toUInt32 >>> ((3 : Int32) &&& 31).toUInt32).toInt32)), .unset, .unset] [(.int (8 : Int32)), (.int ((0 : Int32) - (0 : Int32)))])) _
    refine XS.icmpYes X3.here hx rfl (pc0 := 21) (pc' := 92) rfl (hb hby d5_21) rfl (tlt (by decide)).1 (by decide) (by decide) ?_
    show Steps p.tables e below (T3.setTop (mkF m 92 #[.val (.ref o), .val (.int ((((63 : Int32) - b).toUInt32 >>> ((3 : Int32) &&& 31).toUInt32).toInt32)), .unset, .unset] [])) _
    refine XS.aloadN X3.here hx rfl (hb hby d5_92) rfl rfl ?_
    show Steps p.tables e below (T3.setTop (mkF m 93 #[.val (.ref o), .val (.int ((((63 : Int32) - b).toUInt32 >>> ((3 : Int32) &&& 31).toUInt32).toInt32)), .unset, .unset] [(.ref o)])) _
    refine st4 _ ?_
    show Steps p.tables e below (T4.setTop (mkF m 96 #[.val (.ref o), .val (.int ((((63 : Int32) - b).toUInt32 >>> ((3 : Int32) &&& 31).toUInt32).toInt32)), .unset, .unset] [(.int b)])) _
    refine XS.bipush X4.here hx rfl (hb hby d5_96) ?_
    show Steps p.tables e below (T4.setTop (mkF m 98 #[.val (.ref o), .val (.int ((((63 : Int32) - b).toUInt32 >>> ((3 : Int32) &&& 31).toUInt32).toInt32)), .unset, .unset] [(.int (56 : Int32)), (.int b)])) _
    refine XS.icmpNo X4.here hx rfl (hb hby d5_98) rfl (flt hb1).2.2.1 ?_
    show Steps p.tables e below (T4.setTop (mkF m 101 #[.val (.ref o), .val (.int ((((63 : Int32) - b).toUInt32 >>> ((3 : Int32) &&& 31).toUInt32).toInt32)), .unset, .unset] [])) _
    refine XS.aloadN X4.here hx rfl (hb hby d5_101) rfl rfl ?_
    show Steps p.tables e below (T4.setTop (mkF m 102 #[.val (.ref o), .val (.int ((((63 : Int32) - b).toUInt32 >>> ((3 : Int32) &&& 31).toUInt32).toInt32)), .unset, .unset] [(.ref o)])) _
    refine st5 _ ?_
    show Steps p.tables e below (T5.setTop (mkF m 105 #[.val (.ref o), .val (.int ((((63 : Int32) - b).toUInt32 >>> ((3 : Int32) &&& 31).toUInt32).toInt32)), .unset, .unset] [(.int (0 : Int32))])) _
    refine XS.aloadN X5.here hx rfl (hb hby d5_105) rfl rfl ?_
    show Steps p.tables e below (T5.setTop (mkF m 106 #[.val (.ref o), .val (.int ((((63 : Int32) - b).toUInt32 >>> ((3 : Int32) &&& 31).toUInt32).toInt32)), .unset, .unset] [(.ref o), (.int (0 : Int32))])) _
    refine st6 _ ?_
    show Steps p.tables e below (T6.setTop (mkF m 109 #[.val (.ref o), .val (.int ((((63 : Int32) - b).toUInt32 >>> ((3 : Int32) &&& 31).toUInt32).toInt32)), .unset, .unset] [(.int (0 : Int32)), (.int (0 : Int32))])) _
    refine XS.icmpYes X6.here hx rfl (pc0 := 109) (pc' := 162) rfl (hb hby d5_109) rfl (flt (by decide)).2.2.2 (by decide) (by decide) ?_
    show Steps p.tables e below (T6.setTop (mkF m 162 #[.val (.ref o), .val (.int ((((63 : Int32) - b).toUInt32 >>> ((3 : Int32) &&& 31).toUInt32).toInt32)), .unset, .unset] [])) _
    exact X6.returnOut hx Bd.returns (hb hby d5_162) hr
  · show Q5b Z o h0 n0 _ T6.heap _
    rw [e6]
    exact ⟨rfl, N0, rfl⟩
theorem ef_4a (m : MethodId) (o : Addr) : entryFrame m #[(.ref o), (.int (32 : Int32))] 3 = mkF m 0 #[.val (.ref o), .val (.int (32 : Int32)), .unset] [] := by first | (simp [entryFrame, mkF, argsToLocals, Value.category]; done) | rfl
def Q4a (Z : State) (o : Addr) (arr : Addr) (w0 : Int32) (w1 : Int32) (c0 : Int64) (ps : Int64) (b : Int32) (h0 : Heap) (n0 : Nat) (v : Option Value) (h : Heap) (L : List Loc) : Prop := ∃ r : Int32, v = some (.int r) ∧ Fr n0 L ∧ Keep h0 h [o] ∧ Fld Z h o "com/example/segmented_log/segmentedlog/format/BackwardBits" "bytes" "[B" (.ref arr) ∧ Fld Z h o "com/example/segmented_log/segmentedlog/format/BackwardBits" "from" "I" (.int (0 : Int32)) ∧ Fld Z h o "com/example/segmented_log/segmentedlog/format/BackwardBits" "container" "J" (.long (own_cont c0 w1 w0)) ∧ Fld Z h o "com/example/segmented_log/segmentedlog/format/BackwardBits" "bits" "I" (.int ((b + (8 : Int32)) + (8 : Int32))) ∧ Fld Z h o "com/example/segmented_log/segmentedlog/format/BackwardBits" "loadedFrom" "I" (.int (0 : Int32)) ∧ Fld Z h o "com/example/segmented_log/segmentedlog/format/BackwardBits" "pastStart" "J" (.long ps)
theorem d4_0 : decode prog_13_method_3_code 0 = .ok (.aload_n 0, 1) := by decide +kernel
theorem d4_1 : decode prog_13_method_3_code 1 = .ok (.getfield 34, 3) := by decide +kernel
theorem d4_4 : decode prog_13_method_3_code 4 = .ok (.iload_n 1, 1) := by decide +kernel
theorem d4_5 : decode prog_13_method_3_code 5 = .ok (.if_icmp .ge 7, 3) := by decide +kernel
theorem d4_8 : decode prog_13_method_3_code 8 = .ok (.aload_n 0, 1) := by decide +kernel
theorem d4_9 : decode prog_13_method_3_code 9 = .ok (.invokevirtual 47, 3) := by decide +kernel
theorem pd_1 : parseMethodDescriptor "()V" = some ⟨[], none⟩ := by decide +kernel
theorem d4_12 : decode prog_13_method_3_code 12 = .ok (.aload_n 0, 1) := by decide +kernel
theorem d4_13 : decode prog_13_method_3_code 13 = .ok (.getfield 34, 3) := by decide +kernel
theorem d4_16 : decode prog_13_method_3_code 16 = .ok (.iload_n 1, 1) := by decide +kernel
theorem d4_17 : decode prog_13_method_3_code 17 = .ok (.if_icmp .lt 24, 3) := by decide +kernel
theorem d4_41 : decode prog_13_method_3_code 41 = .ok (.aload_n 0, 1) := by decide +kernel
theorem d4_42 : decode prog_13_method_3_code 42 = .ok (.getfield 24, 3) := by decide +kernel
theorem d4_45 : decode prog_13_method_3_code 45 = .ok (.aload_n 0, 1) := by decide +kernel
theorem d4_46 : decode prog_13_method_3_code 46 = .ok (.getfield 34, 3) := by decide +kernel
theorem d4_49 : decode prog_13_method_3_code 49 = .ok (.invokestatic 50, 3) := by decide +kernel
theorem pd_2 : parseMethodDescriptor "(I)J" = some ⟨[.int], some .long⟩ := by decide +kernel
theorem d4_52 : decode prog_13_method_3_code 52 = .ok (.land, 1) := by decide +kernel
theorem d4_53 : decode prog_13_method_3_code 53 = .ok (.iload_n 1, 1) := by decide +kernel
theorem d4_54 : decode prog_13_method_3_code 54 = .ok (.aload_n 0, 1) := by decide +kernel
theorem d4_55 : decode prog_13_method_3_code 55 = .ok (.getfield 34, 3) := by decide +kernel
theorem d4_58 : decode prog_13_method_3_code 58 = .ok (.isub, 1) := by decide +kernel
theorem d4_59 : decode prog_13_method_3_code 59 = .ok (.lshl, 1) := by decide +kernel
theorem d4_60 : decode prog_13_method_3_code 60 = .ok (.l2i, 1) := by decide +kernel
theorem d4_61 : decode prog_13_method_3_code 61 = .ok (.istore_n 2, 1) := by decide +kernel
theorem d4_62 : decode prog_13_method_3_code 62 = .ok (.iload_n 2, 1) := by decide +kernel
theorem d4_63 : decode prog_13_method_3_code 63 = .ok (.ireturn, 1) := by decide +kernel
set_option maxRecDepth 65536 in
set_option maxHeartbeats 40000000 in
theorem rm4a (l : Launch) (Z : State) (a0 : Array Value) (hw : ∀ d ∈ tables_1, d.before a0 Z = true) (ws : List Jvm.Cond) (o arr : Addr) (kc : ClassId) (w0 w1 w2 : Int32) (c0 ps : Int64) (b : Int32) (h0 : Heap) (n0 : Nat) (Z0 : n0 ≤ h0.size) (ge : n0 ≤ o) (E : Exa Z h0 o "com/example/segmented_log/segmentedlog/format/BackwardBits") (F_bytes : Fld Z h0 o "com/example/segmented_log/segmentedlog/format/BackwardBits" "bytes" "[B" (.ref arr)) (F_from : Fld Z h0 o "com/example/segmented_log/segmentedlog/format/BackwardBits" "from" "I" (.int (0 : Int32))) (F_container : Fld Z h0 o "com/example/segmented_log/segmentedlog/format/BackwardBits" "container" "J" (.long c0)) (F_bits : Fld Z h0 o "com/example/segmented_log/segmentedlog/format/BackwardBits" "bits" "I" (.int b)) (F_loadedFrom : Fld Z h0 o "com/example/segmented_log/segmentedlog/format/BackwardBits" "loadedFrom" "I" (.int (2 : Int32))) (F_pastStart : Fld Z h0 o "com/example/segmented_log/segmentedlog/format/BackwardBits" "pastStart" "J" (.long ps)) (V : Arv Z h0 arr kc .byte (3 : Int32) [(.int w0), (.int w1), (.int w2)] (.int (0 : Int32))) (nea : arr ≠ o) (hb1 : ¬ (56 : Int32) < b) (hb2 : ¬ (56 : Int32) < (b + (8 : Int32))) (hb3 : ¬ (56 : Int32) < ((b + (8 : Int32)) + (8 : Int32))) (hb4 : b < (32 : Int32)) (hb5 : ((b + (8 : Int32)) + (8 : Int32)) < (32 : Int32)) :
    MetFree l (⟨"com/example/segmented_log/segmentedlog/format/BackwardBits", "peek", "(I)I"⟩ : MethodName) (head1 (Jvm.Cond.code (⟨"com/example/segmented_log/segmentedlog/format/BackwardBits", "peek", "(I)I"⟩ : MethodName) prog_13_method_3_code 3 (some .int) :: ws) ({ frames := 1, cells := 0, slots := 0, locals := 24 } : Room)) (fun a U => a = #[(.ref o), (.int (32 : Int32))] ∧ Z.Warmed39 U.vm ∧ U.heap = h0) (fun _ _ _ _ _ => True) (fun _ U oU U' => ∃ v L, oU = .returned v ∧ Q4a Z o arr w0 w1 c0 ps b h0 n0 v U'.heap L ∧ FrameEnd U oU U' L ({ frames := 1, cells := 0, slots := 0, locals := 24 } : Room).cells ({ frames := 1, cells := 0, slots := 0, locals := 24 } : Room).slots) := by
  refine MetFree.of_bodySF (plainFor_of_name pn_6) hisR ?_
  intro p e s m args below meth c s₁ Bd hml0 hP hK
  obtain ⟨rfl, hZ, hh⟩ := hP
  have hx := Bd.exec
  have hby := Bd.bytes
  have hml : c.maxLocals = 3 := hml0
  have hown : s.vm.findClass "com/example/segmented_log/segmentedlog/format/BackwardBits" = some m.cls := findClass_of_methodNamed Bd.named
  have hnm := (name_of_methodNamed Bd.named Bd.method).1
  have X0 : Stand p l e ({ frames := 1, cells := 0, slots := 0, locals := 24 } : Room) s m #[(.ref o), (.int (32 : Int32))] below meth c s₁ [] 0 0 := Stand.of_body Bd
  have e0 : s₁.heap = h0 := by rw [← hh, Bd.state]; rfl
  have N0 := Fr.nil n0
  have go0 : ∀ t, Steps p.tables e below (s₁.setTop (mkF m 0 #[.val (.ref o), .val (.int (32 : Int32)), .unset] [])) t → Steps p.tables e below (s₁.setTop (entryFrame m #[(.ref o), (.int (32 : Int32))] 3)) t := fun t k => castTop (ef_4a m o) k
  obtain ⟨T1, X1, e1, st1⟩ := getF X0 hx hZ hown (host := "") (Or.inl (hw _ (List.mem_of_getElem? (i := 22) rfl))) Via.refl e0 F_bits (g := (mkF m 1 #[.val (.ref o), .val (.int (32 : Int32)), .unset] [(.ref o)])) rfl rfl (hb hby d4_1)
  obtain ⟨cq2, q2, q2'⟩ := E.cell
  obtain ⟨_, _, ⟨T2, L2, k2, n2⟩, -, X2, ⟨Lc2, hQ2, l2, y2, z2⟩, st2⟩ := X1.privateBack hx (y := (⟨"com/example/segmented_log/segmentedlog/format/BackwardBits", "refill", "()V"⟩ : MethodName)) hown (mvT hZ (hw _ (List.mem_of_getElem? (i := 31) rfl))) (mvT hZ (hw _ (List.mem_of_getElem? (i := 32) rfl))) (own_sel (mvT hZ (hw _ (List.mem_of_getElem? (i := 3) rfl))) (mvP hZ (hw _ (List.mem_of_getElem? (i := 33) rfl))) (mvT hZ (hw _ (List.mem_of_getElem? (i := 32) rfl))) (by decide)) (Cond.privateMethod_at (mvP hZ (hw _ (List.mem_of_getElem? (i := 33) rfl)) (args := #[]))) (mvT hZ (hw _ (List.mem_of_getElem? (i := 34) rfl))) (by decide) (backOf (W := 0) (rm5a l Z a0 hw [] o arr kc w0 w1 w2 c0 ps b h0 n0 Z0 ge E F_bytes F_from F_container F_bits F_loadedFrom F_pastStart V nea hb1 hb2 hb3) hZ (hw _ (List.mem_of_getElem? (i := 34) rfl)) (hw _ (List.mem_of_getElem? (i := 4) rfl)) (by decide) (by decide)) (g := (mkF m 9 #[.val (.ref o), .val (.int (32 : Int32)), .unset] [(.ref o)])) rfl (by rw [hml]; rfl) (Steps.refl _) (a := o) (by rw [e1]; exact q2) q2' (argsL := []) (rest := []) (lenOf pd_1 rfl) rfl (by show 2 * 0 + _ ≤ _; exact Nat.le_of_eq rfl) (hb hby d4_9) (fun _ _ => ⟨rfl, e1, (by decide : 0 + 0 ≤ _), (by decide : 0 + 0 ≤ _)⟩)
  dsimp only [Pt.U, Pt.locs, Pt.cells, Pt.slots] at X2 l2 y2 z2 st2 hQ2
  subst l2 y2 z2
  obtain ⟨rfl, N2q, K2c, F2_bytes, F2_from, F2_container, F2_bits, F2_loadedFrom, F2_pastStart⟩ := hQ2
  have N2 := Fr.app N0 N2q
  have E2_o := E.keep K2c
  have V2_arr := V.keep K2c (ninS nea nin0)
  obtain ⟨T3, X3, e3, st3⟩ := getF X2 hx hZ hown (host := "") (Or.inl (hw _ (List.mem_of_getElem? (i := 22) rfl))) Via.refl rfl F2_bits (g := (mkF m 13 #[.val (.ref o), .val (.int (32 : Int32)), .unset] [(.ref o)])) rfl rfl (hb hby d4_13)
  obtain ⟨T4, X4, e4, st4⟩ := getF X3 hx hZ hown (host := "") (Or.inl (hw _ (List.mem_of_getElem? (i := 15) rfl))) Via.refl e3 F2_container (g := (mkF m 42 #[.val (.ref o), .val (.int (32 : Int32)), .unset] [(.ref o)])) rfl rfl (hb hby d4_42)
  obtain ⟨T5, X5, e5, st5⟩ := getF X4 hx hZ hown (host := "") (Or.inl (hw _ (List.mem_of_getElem? (i := 22) rfl))) Via.refl e4 F2_bits (g := (mkF m 46 #[.val (.ref o), .val (.int (32 : Int32)), .unset] [(.ref o), (.long (own_cont c0 w1 w0))])) rfl rfl (hb hby d4_46)
  obtain ⟨_, _, ⟨T6, L6, k6, n6⟩, -, X6, ⟨Lc6, hQ6, l6, y6, z6⟩, st6⟩ := Jvm.LawKit.callS X5 hx (y := (⟨"com/example/segmented_log/segmentedlog/format/BackwardBits", "mask", "(I)J"⟩ : MethodName)) hown (mvT hZ (hw _ (List.mem_of_getElem? (i := 35) rfl))) (mvT hZ (hw _ (List.mem_of_getElem? (i := 36) rfl))) (mvT hZ (hw _ (List.mem_of_getElem? (i := 4) rfl))) (mvT hZ (hw _ (List.mem_of_getElem? (i := 37) rfl))) (by decide) (backOf (W := 2) (rm6 l Z a0 hw [] ((b + (8 : Int32)) + (8 : Int32)) T2.heap n0 (Nat.le_trans Z0 K2c.1)) hZ (hw _ (List.mem_of_getElem? (i := 37) rfl)) (hw _ (List.mem_of_getElem? (i := 4) rfl)) (by decide) (by decide)) (g := (mkF m 49 #[.val (.ref o), .val (.int (32 : Int32)), .unset] [(.int ((b + (8 : Int32)) + (8 : Int32))), (.long (own_cont c0 w1 w0))])) rfl (by rw [hml]; rfl) (argsL := [(.int ((b + (8 : Int32)) + (8 : Int32)))]) (rest := [(.long (own_cont c0 w1 w0))]) (lenOf pd_2 rfl) rfl (by show 2 * 0 + _ ≤ _; exact Nat.le_of_eq rfl) (hb hby d4_49) (fun _ _ => ⟨rfl, e5, (by decide : 0 + 0 ≤ _), (by decide : 0 + 0 ≤ _)⟩)
  dsimp only [Pt.U, Pt.locs, Pt.cells, Pt.slots] at X6 l6 y6 z6 st6 hQ6
  subst l6 y6 z6
  obtain ⟨rfl, N6q, eh6⟩ := hQ6
  have N6 := Fr.app N2 N6q
  obtain ⟨T7, X7, e7, st7⟩ := getF X6 hx hZ hown (host := "") (Or.inl (hw _ (List.mem_of_getElem? (i := 22) rfl))) Via.refl eh6 F2_bits (g := (mkF m 55 #[.val (.ref o), .val (.int (32 : Int32)), .unset] [(.ref o), (.int (32 : Int32)), (.long ((own_cont c0 w1 w0) &&& (own_mask ((b + (8 : Int32)) + (8 : Int32)))))])) rfl rfl (hb hby d4_55)
  obtain ⟨fs, hr, hrun, hended, hW, hsame⟩ := X7.leave (v := some (.int ((((own_cont c0 w1 w0) &&& (own_mask ((b + (8 : Int32)) + (8 : Int32)))) <<< (((32 : Int32) - ((b + (8 : Int32)) + (8 : Int32))) &&& 0x3f).toInt64).toInt32))) (fun h => by rw [Bd.returns] at h; cases h)
  refine ⟨_, _, go0 _ ?_, hrun, hended, _, _, rfl, ?_, ⟨_, rfl⟩, hW, hsame.mono (by decide) (by decide)⟩
  · show Steps p.tables e below (s₁.setTop (mkF m 0 #[.val (.ref o), .val (.int (32 : Int32)), .unset] [])) _
    refine XS.aloadN X0.here hx rfl (hb hby d4_0) rfl rfl ?_
    show Steps p.tables e below (s₁.setTop (mkF m 1 #[.val (.ref o), .val (.int (32 : Int32)), .unset] [(.ref o)])) _
    refine st1 _ ?_
    show Steps p.tables e below (T1.setTop (mkF m 4 #[.val (.ref o), .val (.int (32 : Int32)), .unset] [(.int b)])) _
    refine XS.iloadN X1.here hx rfl (hb hby d4_4) rfl ?_
    show Steps p.tables e below (T1.setTop (mkF m 5 #[.val (.ref o), .val (.int (32 : Int32)), .unset] [(.int (32 : Int32)), (.int b)])) _
    refine XS.icmpNo X1.here hx rfl (hb hby d4_5) rfl (tlt hb4).2.1 ?_
    show Steps p.tables e below (T1.setTop (mkF m 8 #[.val (.ref o), .val (.int (32 : Int32)), .unset] [])) _
    refine XS.aloadN X1.here hx rfl (hb hby d4_8) rfl rfl ?_
    show Steps p.tables e below (T1.setTop (mkF m 9 #[.val (.ref o), .val (.int (32 : Int32)), .unset] [(.ref o)])) _
    refine st2.trans ?_
    show Steps p.tables e below (T2.setTop (mkF m 12 #[.val (.ref o), .val (.int (32 : Int32)), .unset] [])) _
    refine XS.aloadN X2.here hx rfl (hb hby d4_12) rfl rfl ?_
    show Steps p.tables e below (T2.setTop (mkF m 13 #[.val (.ref o), .val (.int (32 : Int32)), .unset] [(.ref o)])) _
    refine st3 _ ?_
    show Steps p.tables e below (T3.setTop (mkF m 16 #[.val (.ref o), .val (.int (32 : Int32)), .unset] [(.int ((b + (8 : Int32)) + (8 : Int32)))])) _
    refine XS.iloadN X3.here hx rfl (hb hby d4_16) rfl ?_
    show Steps p.tables e below (T3.setTop (mkF m 17 #[.val (.ref o), .val (.int (32 : Int32)), .unset] [(.int (32 : Int32)), (.int ((b + (8 : Int32)) + (8 : Int32)))])) _
    refine XS.icmpYes X3.here hx rfl (pc0 := 17) (pc' := 41) rfl (hb hby d4_17) rfl (tlt hb5).1 (by decide) (by decide) ?_
    show Steps p.tables e below (T3.setTop (mkF m 41 #[.val (.ref o), .val (.int (32 : Int32)), .unset] [])) _
    refine XS.aloadN X3.here hx rfl (hb hby d4_41) rfl rfl ?_
    show Steps p.tables e below (T3.setTop (mkF m 42 #[.val (.ref o), .val (.int (32 : Int32)), .unset] [(.ref o)])) _
    refine st4 _ ?_
    show Steps p.tables e below (T4.setTop (mkF m 45 #[.val (.ref o), .val (.int (32 : Int32)), .unset] [(.long (own_cont c0 w1 w0))])) _
    refine XS.aloadN X4.here hx rfl (hb hby d4_45) rfl rfl ?_
    show Steps p.tables e below (T4.setTop (mkF m 46 #[.val (.ref o), .val (.int (32 : Int32)), .unset] [(.ref o), (.long (own_cont c0 w1 w0))])) _
    refine st5 _ ?_
    show Steps p.tables e below (T5.setTop (mkF m 49 #[.val (.ref o), .val (.int (32 : Int32)), .unset] [(.int ((b + (8 : Int32)) + (8 : Int32))), (.long (own_cont c0 w1 w0))])) _
    refine st6 _ ?_
    show Steps p.tables e below (T6.setTop (mkF m 52 #[.val (.ref o), .val (.int (32 : Int32)), .unset] [(.long (own_mask ((b + (8 : Int32)) + (8 : Int32)))), (.long (own_cont c0 w1 w0))])) _
    refine XS.land X6.here hx rfl (hb hby d4_52) rfl ?_
    show Steps p.tables e below (T6.setTop (mkF m 53 #[.val (.ref o), .val (.int (32 : Int32)), .unset] [(.long ((own_cont c0 w1 w0) &&& (own_mask ((b + (8 : Int32)) + (8 : Int32)))))])) _
    refine XS.iloadN X6.here hx rfl (hb hby d4_53) rfl ?_
    show Steps p.tables e below (T6.setTop (mkF m 54 #[.val (.ref o), .val (.int (32 : Int32)), .unset] [(.int (32 : Int32)), (.long ((own_cont c0 w1 w0) &&& (own_mask ((b + (8 : Int32)) + (8 : Int32)))))])) _
    refine XS.aloadN X6.here hx rfl (hb hby d4_54) rfl rfl ?_
    show Steps p.tables e below (T6.setTop (mkF m 55 #[.val (.ref o), .val (.int (32 : Int32)), .unset] [(.ref o), (.int (32 : Int32)), (.long ((own_cont c0 w1 w0) &&& (own_mask ((b + (8 : Int32)) + (8 : Int32)))))])) _
    refine st7 _ ?_
    show Steps p.tables e below (T7.setTop (mkF m 58 #[.val (.ref o), .val (.int (32 : Int32)), .unset] [(.int ((b + (8 : Int32)) + (8 : Int32))), (.int (32 : Int32)), (.long ((own_cont c0 w1 w0) &&& (own_mask ((b + (8 : Int32)) + (8 : Int32)))))])) _
    refine XS.isub X7.here hx rfl (hb hby d4_58) rfl ?_
    show Steps p.tables e below (T7.setTop (mkF m 59 #[.val (.ref o), .val (.int (32 : Int32)), .unset] [(.int ((32 : Int32) - ((b + (8 : Int32)) + (8 : Int32)))), (.long ((own_cont c0 w1 w0) &&& (own_mask ((b + (8 : Int32)) + (8 : Int32)))))])) _
    refine XS.lshl X7.here hx rfl (hb hby d4_59) rfl ?_
    show Steps p.tables e below (T7.setTop (mkF m 60 #[.val (.ref o), .val (.int (32 : Int32)), .unset] [(.long (((own_cont c0 w1 w0) &&& (own_mask ((b + (8 : Int32)) + (8 : Int32)))) <<< (((32 : Int32) - ((b + (8 : Int32)) + (8 : Int32))) &&& 0x3f).toInt64))])) _
    refine XS.l2i X7.here hx rfl (hb hby d4_60) rfl ?_
    show Steps p.tables e below (T7.setTop (mkF m 61 #[.val (.ref o), .val (.int (32 : Int32)), .unset] [(.int ((((own_cont c0 w1 w0) &&& (own_mask ((b + (8 : Int32)) + (8 : Int32)))) <<< (((32 : Int32) - ((b + (8 : Int32)) + (8 : Int32))) &&& 0x3f).toInt64).toInt32))])) _
    refine XS.istoreN X7.here hx rfl (hb hby d4_61) rfl (l' := #[.val (.ref o), .val (.int (32 : Int32)), .val (.int ((((own_cont c0 w1 w0) &&& (own_mask ((b + (8 : Int32)) + (8 : Int32)))) <<< (((32 : Int32) - ((b + (8 : Int32)) + (8 : Int32))) &&& 0x3f).toInt64).toInt32))]) rfl ?_
    show Steps p.tables e below (T7.setTop (mkF m 62 #[.val (.ref o), .val (.int (32 : Int32)), .val (.int ((((own_cont c0 w1 w0) &&& (own_mask ((b + (8 : Int32)) + (8 : Int32)))) <<< (((32 : Int32) - ((b + (8 : Int32)) + (8 : Int32))) &&& 0x3f).toInt64).toInt32))] [])) _
    refine XS.iloadN X7.here hx rfl (hb hby d4_62) rfl ?_
    show Steps p.tables e below (T7.setTop (mkF m 63 #[.val (.ref o), .val (.int (32 : Int32)), .val (.int ((((own_cont c0 w1 w0) &&& (own_mask ((b + (8 : Int32)) + (8 : Int32)))) <<< (((32 : Int32) - ((b + (8 : Int32)) + (8 : Int32))) &&& 0x3f).toInt64).toInt32))] [(.int ((((own_cont c0 w1 w0) &&& (own_mask ((b + (8 : Int32)) + (8 : Int32)))) <<< (((32 : Int32) - ((b + (8 : Int32)) + (8 : Int32))) &&& 0x3f).toInt64).toInt32))])) _
    exact retI X7 hx Bd.returns (hb hby d4_63) hr
  · show Q4a Z o arr w0 w1 c0 ps b h0 n0 _ T7.heap _
    rw [e7]
    exact ⟨_, rfl, N6, K2c, F2_bytes, F2_from, F2_container, F2_bits, F2_loadedFrom, F2_pastStart⟩
theorem ef_4b (m : MethodId) (o : Addr) (p1 : Int32) : entryFrame m #[(.ref o), (.int p1)] 3 = mkF m 0 #[.val (.ref o), .val (.int p1), .unset] [] := by first | (simp [entryFrame, mkF, argsToLocals, Value.category]; done) | rfl
def Q4b (Z : State) (c0 : Int64) (b : Int32) (p1 : Int32) (h0 : Heap) (n0 : Nat) (v : Option Value) (h : Heap) (L : List Loc) : Prop := v = some (.int (own_pk c0 b p1)) ∧ Fr n0 L ∧ h = h0
theorem d4_20 : decode prog_13_method_3_code 20 = .ok (.aload_n 0, 1) := by decide +kernel
theorem d4_21 : decode prog_13_method_3_code 21 = .ok (.getfield 24, 3) := by decide +kernel
theorem d4_24 : decode prog_13_method_3_code 24 = .ok (.aload_n 0, 1) := by decide +kernel
theorem d4_25 : decode prog_13_method_3_code 25 = .ok (.getfield 34, 3) := by decide +kernel
theorem d4_28 : decode prog_13_method_3_code 28 = .ok (.iload_n 1, 1) := by decide +kernel
theorem d4_29 : decode prog_13_method_3_code 29 = .ok (.isub, 1) := by decide +kernel
theorem d4_30 : decode prog_13_method_3_code 30 = .ok (.lushr, 1) := by decide +kernel
theorem d4_31 : decode prog_13_method_3_code 31 = .ok (.iload_n 1, 1) := by decide +kernel
theorem d4_32 : decode prog_13_method_3_code 32 = .ok (.invokestatic 50, 3) := by decide +kernel
theorem d4_35 : decode prog_13_method_3_code 35 = .ok (.land, 1) := by decide +kernel
theorem d4_36 : decode prog_13_method_3_code 36 = .ok (.l2i, 1) := by decide +kernel
theorem d4_37 : decode prog_13_method_3_code 37 = .ok (.istore_n 2, 1) := by decide +kernel
theorem d4_38 : decode prog_13_method_3_code 38 = .ok (.goto 24, 3) := by decide +kernel
set_option maxRecDepth 65536 in
set_option maxHeartbeats 40000000 in
theorem rm4b (l : Launch) (Z : State) (a0 : Array Value) (hw : ∀ d ∈ tables_1, d.before a0 Z = true) (ws : List Jvm.Cond) (o arr : Addr) (c0 ps : Int64) (b : Int32) (p1 : Int32) (h0 : Heap) (n0 : Nat) (Z0 : n0 ≤ h0.size) (E : Exa Z h0 o "com/example/segmented_log/segmentedlog/format/BackwardBits") (F_bytes : Fld Z h0 o "com/example/segmented_log/segmentedlog/format/BackwardBits" "bytes" "[B" (.ref arr)) (F_from : Fld Z h0 o "com/example/segmented_log/segmentedlog/format/BackwardBits" "from" "I" (.int (0 : Int32))) (F_container : Fld Z h0 o "com/example/segmented_log/segmentedlog/format/BackwardBits" "container" "J" (.long c0)) (F_bits : Fld Z h0 o "com/example/segmented_log/segmentedlog/format/BackwardBits" "bits" "I" (.int b)) (F_loadedFrom : Fld Z h0 o "com/example/segmented_log/segmentedlog/format/BackwardBits" "loadedFrom" "I" (.int (0 : Int32))) (F_pastStart : Fld Z h0 o "com/example/segmented_log/segmentedlog/format/BackwardBits" "pastStart" "J" (.long ps)) (hb1 : ¬ (56 : Int32) < b) :
    MetFree l (⟨"com/example/segmented_log/segmentedlog/format/BackwardBits", "peek", "(I)I"⟩ : MethodName) (head1 (Jvm.Cond.code (⟨"com/example/segmented_log/segmentedlog/format/BackwardBits", "peek", "(I)I"⟩ : MethodName) prog_13_method_3_code 3 (some .int) :: ws) ({ frames := 1, cells := 0, slots := 0, locals := 24 } : Room)) (fun a U => a = #[(.ref o), (.int p1)] ∧ Z.Warmed39 U.vm ∧ U.heap = h0) (fun _ _ _ _ _ => True) (fun _ U oU U' => ∃ v L, oU = .returned v ∧ Q4b Z c0 b p1 h0 n0 v U'.heap L ∧ FrameEnd U oU U' L ({ frames := 1, cells := 0, slots := 0, locals := 24 } : Room).cells ({ frames := 1, cells := 0, slots := 0, locals := 24 } : Room).slots) := by
  refine MetFree.of_bodySF (plainFor_of_name pn_6) hisR ?_
  intro p e s m args below meth c s₁ Bd hml0 hP hK
  obtain ⟨rfl, hZ, hh⟩ := hP
  have hx := Bd.exec
  have hby := Bd.bytes
  have hml : c.maxLocals = 3 := hml0
  have hown : s.vm.findClass "com/example/segmented_log/segmentedlog/format/BackwardBits" = some m.cls := findClass_of_methodNamed Bd.named
  have hnm := (name_of_methodNamed Bd.named Bd.method).1
  have X0 : Stand p l e ({ frames := 1, cells := 0, slots := 0, locals := 24 } : Room) s m #[(.ref o), (.int p1)] below meth c s₁ [] 0 0 := Stand.of_body Bd
  have e0 : s₁.heap = h0 := by rw [← hh, Bd.state]; rfl
  have N0 := Fr.nil n0
  have go0 : ∀ t, Steps p.tables e below (s₁.setTop (mkF m 0 #[.val (.ref o), .val (.int p1), .unset] [])) t → Steps p.tables e below (s₁.setTop (entryFrame m #[(.ref o), (.int p1)] 3)) t := fun t k => castTop (ef_4b m o p1) k
  obtain ⟨T1, X1, e1, st1⟩ := getF X0 hx hZ hown (host := "") (Or.inl (hw _ (List.mem_of_getElem? (i := 22) rfl))) Via.refl e0 F_bits (g := (mkF m 1 #[.val (.ref o), .val (.int p1), .unset] [(.ref o)])) rfl rfl (hb hby d4_1)
  have go2 : ∀ t, Steps p.tables e below (T1.setTop (mkF m 5 #[.val (.ref o), .val (.int p1), .unset] [(.int p1), (.int b)])) t → Steps p.tables e below (s₁.setTop (entryFrame m #[(.ref o), (.int p1)] 3)) t := by
    intro t kt
    refine go0 t ?_
    show Steps p.tables e below (s₁.setTop (mkF m 0 #[.val (.ref o), .val (.int p1), .unset] [])) _
    refine XS.aloadN X0.here hx rfl (hb hby d4_0) rfl rfl ?_
    show Steps p.tables e below (s₁.setTop (mkF m 1 #[.val (.ref o), .val (.int p1), .unset] [(.ref o)])) _
    refine st1 _ ?_
    show Steps p.tables e below (T1.setTop (mkF m 4 #[.val (.ref o), .val (.int p1), .unset] [(.int b)])) _
    refine XS.iloadN X1.here hx rfl (hb hby d4_4) rfl ?_
    exact kt
  by_cases hc5 : b < p1
  · -- pc 5: not taken
    obtain ⟨cq3, q3, q3'⟩ := E.cell
    obtain ⟨_, _, ⟨T3, L3, k3, n3⟩, -, X3, ⟨Lc3, hQ3, l3, y3, z3⟩, st3⟩ := X1.privateBack hx (y := (⟨"com/example/segmented_log/segmentedlog/format/BackwardBits", "refill", "()V"⟩ : MethodName)) hown (mvT hZ (hw _ (List.mem_of_getElem? (i := 31) rfl))) (mvT hZ (hw _ (List.mem_of_getElem? (i := 32) rfl))) (own_sel (mvT hZ (hw _ (List.mem_of_getElem? (i := 3) rfl))) (mvP hZ (hw _ (List.mem_of_getElem? (i := 33) rfl))) (mvT hZ (hw _ (List.mem_of_getElem? (i := 32) rfl))) (by decide)) (Cond.privateMethod_at (mvP hZ (hw _ (List.mem_of_getElem? (i := 33) rfl)) (args := #[]))) (mvT hZ (hw _ (List.mem_of_getElem? (i := 34) rfl))) (by decide) (backOf (W := 0) (rm5b l Z a0 hw [] o arr c0 ps b h0 n0 Z0 F_bytes F_from F_container F_bits F_loadedFrom F_pastStart hb1) hZ (hw _ (List.mem_of_getElem? (i := 34) rfl)) (hw _ (List.mem_of_getElem? (i := 4) rfl)) (by decide) (by decide)) (g := (mkF m 9 #[.val (.ref o), .val (.int p1), .unset] [(.ref o)])) rfl (by rw [hml]; rfl) (Steps.refl _) (a := o) (by rw [e1]; exact q3) q3' (argsL := []) (rest := []) (lenOf pd_1 rfl) rfl (by show 2 * 0 + _ ≤ _; exact Nat.le_of_eq rfl) (hb hby d4_9) (fun _ _ => ⟨rfl, e1, (by decide : 0 + 0 ≤ _), (by decide : 0 + 0 ≤ _)⟩)
    dsimp only [Pt.U, Pt.locs, Pt.cells, Pt.slots] at X3 l3 y3 z3 st3 hQ3
    subst l3 y3 z3
    obtain ⟨rfl, N3q, eh3⟩ := hQ3
    have N3 := Fr.app N0 N3q
    obtain ⟨T4, X4, e4, st4⟩ := getF X3 hx hZ hown (host := "") (Or.inl (hw _ (List.mem_of_getElem? (i := 22) rfl))) Via.refl eh3 F_bits (g := (mkF m 13 #[.val (.ref o), .val (.int p1), .unset] [(.ref o)])) rfl rfl (hb hby d4_13)
    obtain ⟨T5, X5, e5, st5⟩ := getF X4 hx hZ hown (host := "") (Or.inl (hw _ (List.mem_of_getElem? (i := 15) rfl))) Via.refl e4 F_container (g := (mkF m 42 #[.val (.ref o), .val (.int p1), .unset] [(.ref o)])) rfl rfl (hb hby d4_42)
    obtain ⟨T6, X6, e6, st6⟩ := getF X5 hx hZ hown (host := "") (Or.inl (hw _ (List.mem_of_getElem? (i := 22) rfl))) Via.refl e5 F_bits (g := (mkF m 46 #[.val (.ref o), .val (.int p1), .unset] [(.ref o), (.long c0)])) rfl rfl (hb hby d4_46)
    obtain ⟨_, _, ⟨T7, L7, k7, n7⟩, -, X7, ⟨Lc7, hQ7, l7, y7, z7⟩, st7⟩ := Jvm.LawKit.callS X6 hx (y := (⟨"com/example/segmented_log/segmentedlog/format/BackwardBits", "mask", "(I)J"⟩ : MethodName)) hown (mvT hZ (hw _ (List.mem_of_getElem? (i := 35) rfl))) (mvT hZ (hw _ (List.mem_of_getElem? (i := 36) rfl))) (mvT hZ (hw _ (List.mem_of_getElem? (i := 4) rfl))) (mvT hZ (hw _ (List.mem_of_getElem? (i := 37) rfl))) (by decide) (backOf (W := 2) (rm6 l Z a0 hw [] b h0 n0 Z0) hZ (hw _ (List.mem_of_getElem? (i := 37) rfl)) (hw _ (List.mem_of_getElem? (i := 4) rfl)) (by decide) (by decide)) (g := (mkF m 49 #[.val (.ref o), .val (.int p1), .unset] [(.int b), (.long c0)])) rfl (by rw [hml]; rfl) (argsL := [(.int b)]) (rest := [(.long c0)]) (lenOf pd_2 rfl) rfl (by show 2 * 0 + _ ≤ _; exact Nat.le_of_eq rfl) (hb hby d4_49) (fun _ _ => ⟨rfl, e6, (by decide : 0 + 0 ≤ _), (by decide : 0 + 0 ≤ _)⟩)
    dsimp only [Pt.U, Pt.locs, Pt.cells, Pt.slots] at X7 l7 y7 z7 st7 hQ7
    subst l7 y7 z7
    obtain ⟨rfl, N7q, eh7⟩ := hQ7
    have N7 := Fr.app N3 N7q
    obtain ⟨T8, X8, e8, st8⟩ := getF X7 hx hZ hown (host := "") (Or.inl (hw _ (List.mem_of_getElem? (i := 22) rfl))) Via.refl eh7 F_bits (g := (mkF m 55 #[.val (.ref o), .val (.int p1), .unset] [(.ref o), (.int p1), (.long (c0 &&& (own_mask b)))])) rfl rfl (hb hby d4_55)
    obtain ⟨fs, hr, hrun, hended, hW, hsame⟩ := X8.leave (v := some (.int (((c0 &&& (own_mask b)) <<< ((p1 - b) &&& 0x3f).toInt64).toInt32))) (fun h => by rw [Bd.returns] at h; cases h)
    refine ⟨_, _, go2 _ ?_, hrun, hended, _, _, rfl, ?_, ⟨_, rfl⟩, hW, hsame.mono (by decide) (by decide)⟩
    · show Steps p.tables e below (T1.setTop (mkF m 5 #[.val (.ref o), .val (.int p1), .unset] [(.int p1), (.int b)])) _
      refine XS.icmpNo X1.here hx rfl (hb hby d4_5) rfl (tlt hc5).2.1 ?_
      show Steps p.tables e below (T1.setTop (mkF m 8 #[.val (.ref o), .val (.int p1), .unset] [])) _
      refine XS.aloadN X1.here hx rfl (hb hby d4_8) rfl rfl ?_
      show Steps p.tables e below (T1.setTop (mkF m 9 #[.val (.ref o), .val (.int p1), .unset] [(.ref o)])) _
      refine st3.trans ?_
      show Steps p.tables e below (T3.setTop (mkF m 12 #[.val (.ref o), .val (.int p1), .unset] [])) _
      refine XS.aloadN X3.here hx rfl (hb hby d4_12) rfl rfl ?_
      show Steps p.tables e below (T3.setTop (mkF m 13 #[.val (.ref o), .val (.int p1), .unset] [(.ref o)])) _
      refine st4 _ ?_
      show Steps p.tables e below (T4.setTop (mkF m 16 #[.val (.ref o), .val (.int p1), .unset] [(.int b)])) _
      refine XS.iloadN X4.here hx rfl (hb hby d4_16) rfl ?_
      show Steps p.tables e below (T4.setTop (mkF m 17 #[.val (.ref o), .val (.int p1), .unset] [(.int p1), (.int b)])) _
      refine XS.icmpYes X4.here hx rfl (pc0 := 17) (pc' := 41) rfl (hb hby d4_17) rfl (tlt hc5).1 (by decide) (by decide) ?_
      show Steps p.tables e below (T4.setTop (mkF m 41 #[.val (.ref o), .val (.int p1), .unset] [])) _
      refine XS.aloadN X4.here hx rfl (hb hby d4_41) rfl rfl ?_
      show Steps p.tables e below (T4.setTop (mkF m 42 #[.val (.ref o), .val (.int p1), .unset] [(.ref o)])) _
      refine st5 _ ?_
      show Steps p.tables e below (T5.setTop (mkF m 45 #[.val (.ref o), .val (.int p1), .unset] [(.long c0)])) _
      refine XS.aloadN X5.here hx rfl (hb hby d4_45) rfl rfl ?_
      show Steps p.tables e below (T5.setTop (mkF m 46 #[.val (.ref o), .val (.int p1), .unset] [(.ref o), (.long c0)])) _
      refine st6 _ ?_
      show Steps p.tables e below (T6.setTop (mkF m 49 #[.val (.ref o), .val (.int p1), .unset] [(.int b), (.long c0)])) _
      refine st7 _ ?_
      show Steps p.tables e below (T7.setTop (mkF m 52 #[.val (.ref o), .val (.int p1), .unset] [(.long (own_mask b)), (.long c0)])) _
      refine XS.land X7.here hx rfl (hb hby d4_52) rfl ?_
      show Steps p.tables e below (T7.setTop (mkF m 53 #[.val (.ref o), .val (.int p1), .unset] [(.long (c0 &&& (own_mask b)))])) _
      refine XS.iloadN X7.here hx rfl (hb hby d4_53) rfl ?_
      show Steps p.tables e below (T7.setTop (mkF m 54 #[.val (.ref o), .val (.int p1), .unset] [(.int p1), (.long (c0 &&& (own_mask b)))])) _
      refine XS.aloadN X7.here hx rfl (hb hby d4_54) rfl rfl ?_
      show Steps p.tables e below (T7.setTop (mkF m 55 #[.val (.ref o), .val (.int p1), .unset] [(.ref o), (.int p1), (.long (c0 &&& (own_mask b)))])) _
      refine st8 _ ?_
      show Steps p.tables e below (T8.setTop (mkF m 58 #[.val (.ref o), .val (.int p1), .unset] [(.int b), (.int p1), (.long (c0 &&& (own_mask b)))])) _
      refine XS.isub X8.here hx rfl (hb hby d4_58) rfl ?_
      show Steps p.tables e below (T8.setTop (mkF m 59 #[.val (.ref o), .val (.int p1), .unset] [(.int (p1 - b)), (.long (c0 &&& (own_mask b)))])) _
      refine XS.lshl X8.here hx rfl (hb hby d4_59) rfl ?_
      show Steps p.tables e below (T8.setTop (mkF m 60 #[.val (.ref o), .val (.int p1), .unset] [(.long ((c0 &&& (own_mask b)) <<< ((p1 - b) &&& 0x3f).toInt64))])) _
      refine XS.l2i X8.here hx rfl (hb hby d4_60) rfl ?_
      show Steps p.tables e below (T8.setTop (mkF m 61 #[.val (.ref o), .val (.int p1), .unset] [(.int (((c0 &&& (own_mask b)) <<< ((p1 - b) &&& 0x3f).toInt64).toInt32))])) _
      refine XS.istoreN X8.here hx rfl (hb hby d4_61) rfl (l' := #[.val (.ref o), .val (.int p1), .val (.int (((c0 &&& (own_mask b)) <<< ((p1 - b) &&& 0x3f).toInt64).toInt32))]) rfl ?_
      show Steps p.tables e below (T8.setTop (mkF m 62 #[.val (.ref o), .val (.int p1), .val (.int (((c0 &&& (own_mask b)) <<< ((p1 - b) &&& 0x3f).toInt64).toInt32))] [])) _
      refine XS.iloadN X8.here hx rfl (hb hby d4_62) rfl ?_
      show Steps p.tables e below (T8.setTop (mkF m 63 #[.val (.ref o), .val (.int p1), .val (.int (((c0 &&& (own_mask b)) <<< ((p1 - b) &&& 0x3f).toInt64).toInt32))] [(.int (((c0 &&& (own_mask b)) <<< ((p1 - b) &&& 0x3f).toInt64).toInt32))])) _
      exact retI X8 hx Bd.returns (hb hby d4_63) hr
    · show Q4b Z c0 b p1 h0 n0 _ T8.heap _
      rw [e8]
      exact ⟨by rw [own_pk, if_pos hc5], N7, rfl⟩
  · -- pc 5: taken
    obtain ⟨T9, X9, e9, st9⟩ := getF X1 hx hZ hown (host := "") (Or.inl (hw _ (List.mem_of_getElem? (i := 22) rfl))) Via.refl e1 F_bits (g := (mkF m 13 #[.val (.ref o), .val (.int p1), .unset] [(.ref o)])) rfl rfl (hb hby d4_13)
    obtain ⟨T10, X10, e10, st10⟩ := getF X9 hx hZ hown (host := "") (Or.inl (hw _ (List.mem_of_getElem? (i := 15) rfl))) Via.refl e9 F_container (g := (mkF m 21 #[.val (.ref o), .val (.int p1), .unset] [(.ref o)])) rfl rfl (hb hby d4_21)
    obtain ⟨T11, X11, e11, st11⟩ := getF X10 hx hZ hown (host := "") (Or.inl (hw _ (List.mem_of_getElem? (i := 22) rfl))) Via.refl e10 F_bits (g := (mkF m 25 #[.val (.ref o), .val (.int p1), .unset] [(.ref o), (.long c0)])) rfl rfl (hb hby d4_25)
    obtain ⟨_, _, ⟨T12, L12, k12, n12⟩, -, X12, ⟨Lc12, hQ12, l12, y12, z12⟩, st12⟩ := Jvm.LawKit.callS X11 hx (y := (⟨"com/example/segmented_log/segmentedlog/format/BackwardBits", "mask", "(I)J"⟩ : MethodName)) hown (mvT hZ (hw _ (List.mem_of_getElem? (i := 35) rfl))) (mvT hZ (hw _ (List.mem_of_getElem? (i := 36) rfl))) (mvT hZ (hw _ (List.mem_of_getElem? (i := 4) rfl))) (mvT hZ (hw _ (List.mem_of_getElem? (i := 37) rfl))) (by decide) (backOf (W := 2) (rm6 l Z a0 hw [] p1 h0 n0 Z0) hZ (hw _ (List.mem_of_getElem? (i := 37) rfl)) (hw _ (List.mem_of_getElem? (i := 4) rfl)) (by decide) (by decide)) (g := (mkF m 32 #[.val (.ref o), .val (.int p1), .unset] [(.int p1), (.long ((c0.toUInt64 >>> ((b - p1) &&& 0x3f).toInt64.toUInt64).toInt64))])) rfl (by rw [hml]; rfl) (argsL := [(.int p1)]) (rest := [(.long ((c0.toUInt64 >>> ((b - p1) &&& 0x3f).toInt64.toUInt64).toInt64))]) (lenOf pd_2 rfl) rfl (by show 2 * 0 + _ ≤ _; exact Nat.le_of_eq rfl) (hb hby d4_32) (fun _ _ => ⟨rfl, e11, (by decide : 0 + 0 ≤ _), (by decide : 0 + 0 ≤ _)⟩)
    dsimp only [Pt.U, Pt.locs, Pt.cells, Pt.slots] at X12 l12 y12 z12 st12 hQ12
    subst l12 y12 z12
    obtain ⟨rfl, N12q, eh12⟩ := hQ12
    have N12 := Fr.app N0 N12q
    obtain ⟨fs, hr, hrun, hended, hW, hsame⟩ := X12.leave (v := some (.int ((((c0.toUInt64 >>> ((b - p1) &&& 0x3f).toInt64.toUInt64).toInt64) &&& (own_mask p1)).toInt32))) (fun h => by rw [Bd.returns] at h; cases h)
    refine ⟨_, _, go2 _ ?_, hrun, hended, _, _, rfl, ?_, ⟨_, rfl⟩, hW, hsame.mono (by decide) (by decide)⟩
    · show Steps p.tables e below (T1.setTop (mkF m 5 #[.val (.ref o), .val (.int p1), .unset] [(.int p1), (.int b)])) _
      refine XS.icmpYes X1.here hx rfl (pc0 := 5) (pc' := 12) rfl (hb hby d4_5) rfl (flt hc5).2.1 (by decide) (by decide) ?_
      show Steps p.tables e below (T1.setTop (mkF m 12 #[.val (.ref o), .val (.int p1), .unset] [])) _
      refine XS.aloadN X1.here hx rfl (hb hby d4_12) rfl rfl ?_
      show Steps p.tables e below (T1.setTop (mkF m 13 #[.val (.ref o), .val (.int p1), .unset] [(.ref o)])) _
      refine st9 _ ?_
      show Steps p.tables e below (T9.setTop (mkF m 16 #[.val (.ref o), .val (.int p1), .unset] [(.int b)])) _
      refine XS.iloadN X9.here hx rfl (hb hby d4_16) rfl ?_
      show Steps p.tables e below (T9.setTop (mkF m 17 #[.val (.ref o), .val (.int p1), .unset] [(.int p1), (.int b)])) _
      refine XS.icmpNo X9.here hx rfl (hb hby d4_17) rfl (flt hc5).1 ?_
      show Steps p.tables e below (T9.setTop (mkF m 20 #[.val (.ref o), .val (.int p1), .unset] [])) _
      refine XS.aloadN X9.here hx rfl (hb hby d4_20) rfl rfl ?_
      show Steps p.tables e below (T9.setTop (mkF m 21 #[.val (.ref o), .val (.int p1), .unset] [(.ref o)])) _
      refine st10 _ ?_
      show Steps p.tables e below (T10.setTop (mkF m 24 #[.val (.ref o), .val (.int p1), .unset] [(.long c0)])) _
      refine XS.aloadN X10.here hx rfl (hb hby d4_24) rfl rfl ?_
      show Steps p.tables e below (T10.setTop (mkF m 25 #[.val (.ref o), .val (.int p1), .unset] [(.ref o), (.long c0)])) _
      refine st11 _ ?_
      show Steps p.tables e below (T11.setTop (mkF m 28 #[.val (.ref o), .val (.int p1), .unset] [(.int b), (.long c0)])) _
      refine XS.iloadN X11.here hx rfl (hb hby d4_28) rfl ?_
      show Steps p.tables e below (T11.setTop (mkF m 29 #[.val (.ref o), .val (.int p1), .unset] [(.int p1), (.int b), (.long c0)])) _
      refine XS.isub X11.here hx rfl (hb hby d4_29) rfl ?_
      show Steps p.tables e below (T11.setTop (mkF m 30 #[.val (.ref o), .val (.int p1), .unset] [(.int (b - p1)), (.long c0)])) _
      refine XS.lushr X11.here hx rfl (hb hby d4_30) rfl ?_
      show Steps p.tables e below (T11.setTop (mkF m 31 #[.val (.ref o), .val (.int p1), .unset] [(.long ((c0.toUInt64 >>> ((b - p1) &&& 0x3f).toInt64.toUInt64).toInt64))])) _
      refine XS.iloadN X11.here hx rfl (hb hby d4_31) rfl ?_
      show Steps p.tables e below (T11.setTop (mkF m 32 #[.val (.ref o), .val (.int p1), .unset] [(.int p1), (.long ((c0.toUInt64 >>> ((b - p1) &&& 0x3f).toInt64.toUInt64).toInt64))])) _
      refine st12 _ ?_
      show Steps p.tables e below (T12.setTop (mkF m 35 #[.val (.ref o), .val (.int p1), .unset] [(.long (own_mask p1)), (.long ((c0.toUInt64 >>> ((b - p1) &&& 0x3f).toInt64.toUInt64).toInt64))])) _
      refine XS.land X12.here hx rfl (hb hby d4_35) rfl ?_
      show Steps p.tables e below (T12.setTop (mkF m 36 #[.val (.ref o), .val (.int p1), .unset] [(.long (((c0.toUInt64 >>> ((b - p1) &&& 0x3f).toInt64.toUInt64).toInt64) &&& (own_mask p1)))])) _
      refine XS.l2i X12.here hx rfl (hb hby d4_36) rfl ?_
      show Steps p.tables e below (T12.setTop (mkF m 37 #[.val (.ref o), .val (.int p1), .unset] [(.int ((((c0.toUInt64 >>> ((b - p1) &&& 0x3f).toInt64.toUInt64).toInt64) &&& (own_mask p1)).toInt32))])) _
      refine XS.istoreN X12.here hx rfl (hb hby d4_37) rfl (l' := #[.val (.ref o), .val (.int p1), .val (.int ((((c0.toUInt64 >>> ((b - p1) &&& 0x3f).toInt64.toUInt64).toInt64) &&& (own_mask p1)).toInt32))]) rfl ?_
      show Steps p.tables e below (T12.setTop (mkF m 38 #[.val (.ref o), .val (.int p1), .val (.int ((((c0.toUInt64 >>> ((b - p1) &&& 0x3f).toInt64.toUInt64).toInt64) &&& (own_mask p1)).toInt32))] [])) _
      refine XS.goto X12.here hx rfl (pc0 := 38) (pc' := 62) rfl (hb hby d4_38) (by decide) (by decide) ?_
      show Steps p.tables e below (T12.setTop (mkF m 62 #[.val (.ref o), .val (.int p1), .val (.int ((((c0.toUInt64 >>> ((b - p1) &&& 0x3f).toInt64.toUInt64).toInt64) &&& (own_mask p1)).toInt32))] [])) _
      refine XS.iloadN X12.here hx rfl (hb hby d4_62) rfl ?_
      show Steps p.tables e below (T12.setTop (mkF m 63 #[.val (.ref o), .val (.int p1), .val (.int ((((c0.toUInt64 >>> ((b - p1) &&& 0x3f).toInt64.toUInt64).toInt64) &&& (own_mask p1)).toInt32))] [(.int ((((c0.toUInt64 >>> ((b - p1) &&& 0x3f).toInt64.toUInt64).toInt64) &&& (own_mask p1)).toInt32))])) _
      exact retI X12 hx Bd.returns (hb hby d4_63) hr
    · show Q4b Z c0 b p1 h0 n0 _ T12.heap _
      rw [eh12]
      exact ⟨by rw [own_pk, if_neg hc5], N12, rfl⟩
theorem ef_7 (m : MethodId) (o : Addr) (p1 : Int32) : entryFrame m #[(.ref o), (.int p1)] 2 = mkF m 0 #[.val (.ref o), .val (.int p1)] [] := by first | (simp [entryFrame, mkF, argsToLocals, Value.category]; done) | rfl
def Q7 (Z : State) (o : Addr) (arr : Addr) (c0 : Int64) (ps : Int64) (b : Int32) (p1 : Int32) (h0 : Heap) (n0 : Nat) (v : Option Value) (h : Heap) (L : List Loc) : Prop := v = none ∧ Fr n0 L ∧ Keep h0 h [o] ∧ Fld Z h o "com/example/segmented_log/segmentedlog/format/BackwardBits" "bytes" "[B" (.ref arr) ∧ Fld Z h o "com/example/segmented_log/segmentedlog/format/BackwardBits" "from" "I" (.int (0 : Int32)) ∧ Fld Z h o "com/example/segmented_log/segmentedlog/format/BackwardBits" "container" "J" (.long c0) ∧ Fld Z h o "com/example/segmented_log/segmentedlog/format/BackwardBits" "bits" "I" (.int (own_sb b p1)) ∧ Fld Z h o "com/example/segmented_log/segmentedlog/format/BackwardBits" "loadedFrom" "I" (.int (0 : Int32)) ∧ Fld Z h o "com/example/segmented_log/segmentedlog/format/BackwardBits" "pastStart" "J" (.long (own_sp ps b p1))
theorem d7_0 : decode prog_13_method_4_code 0 = .ok (.aload_n 0, 1) := by decide +kernel
theorem d7_1 : decode prog_13_method_4_code 1 = .ok (.getfield 34, 3) := by decide +kernel
theorem d7_4 : decode prog_13_method_4_code 4 = .ok (.iload_n 1, 1) := by decide +kernel
theorem d7_5 : decode prog_13_method_4_code 5 = .ok (.if_icmp .lt 16, 3) := by decide +kernel
theorem d7_21 : decode prog_13_method_4_code 21 = .ok (.aload_n 0, 1) := by decide +kernel
theorem d7_22 : decode prog_13_method_4_code 22 = .ok (.dup, 1) := by decide +kernel
theorem d7_23 : decode prog_13_method_4_code 23 = .ok (.getfield 54, 3) := by decide +kernel
theorem d7_26 : decode prog_13_method_4_code 26 = .ok (.iload_n 1, 1) := by decide +kernel
theorem d7_27 : decode prog_13_method_4_code 27 = .ok (.aload_n 0, 1) := by decide +kernel
theorem d7_28 : decode prog_13_method_4_code 28 = .ok (.getfield 34, 3) := by decide +kernel
theorem d7_31 : decode prog_13_method_4_code 31 = .ok (.isub, 1) := by decide +kernel
theorem d7_32 : decode prog_13_method_4_code 32 = .ok (.i2l, 1) := by decide +kernel
theorem d7_33 : decode prog_13_method_4_code 33 = .ok (.ladd, 1) := by decide +kernel
theorem d7_34 : decode prog_13_method_4_code 34 = .ok (.putfield 54, 3) := by decide +kernel
theorem d7_37 : decode prog_13_method_4_code 37 = .ok (.aload_n 0, 1) := by decide +kernel
theorem d7_38 : decode prog_13_method_4_code 38 = .ok (.iconst 0, 1) := by decide +kernel
theorem d7_39 : decode prog_13_method_4_code 39 = .ok (.putfield 34, 3) := by decide +kernel
theorem d7_42 : decode prog_13_method_4_code 42 = .ok (.return_, 1) := by decide +kernel
theorem d7_8 : decode prog_13_method_4_code 8 = .ok (.aload_n 0, 1) := by decide +kernel
theorem d7_9 : decode prog_13_method_4_code 9 = .ok (.dup, 1) := by decide +kernel
theorem d7_10 : decode prog_13_method_4_code 10 = .ok (.getfield 34, 3) := by decide +kernel
theorem d7_13 : decode prog_13_method_4_code 13 = .ok (.iload_n 1, 1) := by decide +kernel
theorem d7_14 : decode prog_13_method_4_code 14 = .ok (.isub, 1) := by decide +kernel
theorem d7_15 : decode prog_13_method_4_code 15 = .ok (.putfield 34, 3) := by decide +kernel
theorem d7_18 : decode prog_13_method_4_code 18 = .ok (.goto 24, 3) := by decide +kernel
set_option maxRecDepth 65536 in
set_option maxHeartbeats 40000000 in
theorem rm7 (l : Launch) (Z : State) (a0 : Array Value) (hw : ∀ d ∈ tables_1, d.before a0 Z = true) (ws : List Jvm.Cond) (o arr : Addr) (c0 ps : Int64) (b : Int32) (p1 : Int32) (h0 : Heap) (n0 : Nat) (Z0 : n0 ≤ h0.size) (ge : n0 ≤ o) (E : Exa Z h0 o "com/example/segmented_log/segmentedlog/format/BackwardBits") (F_bytes : Fld Z h0 o "com/example/segmented_log/segmentedlog/format/BackwardBits" "bytes" "[B" (.ref arr)) (F_from : Fld Z h0 o "com/example/segmented_log/segmentedlog/format/BackwardBits" "from" "I" (.int (0 : Int32))) (F_container : Fld Z h0 o "com/example/segmented_log/segmentedlog/format/BackwardBits" "container" "J" (.long c0)) (F_bits : Fld Z h0 o "com/example/segmented_log/segmentedlog/format/BackwardBits" "bits" "I" (.int b)) (F_loadedFrom : Fld Z h0 o "com/example/segmented_log/segmentedlog/format/BackwardBits" "loadedFrom" "I" (.int (0 : Int32))) (F_pastStart : Fld Z h0 o "com/example/segmented_log/segmentedlog/format/BackwardBits" "pastStart" "J" (.long ps)) :
    MetFree l (⟨"com/example/segmented_log/segmentedlog/format/BackwardBits", "skip", "(I)V"⟩ : MethodName) (head1 (Jvm.Cond.code (⟨"com/example/segmented_log/segmentedlog/format/BackwardBits", "skip", "(I)V"⟩ : MethodName) prog_13_method_4_code 2 none :: ws) ({ frames := 0, cells := 0, slots := 0, locals := 0 } : Room)) (fun a U => a = #[(.ref o), (.int p1)] ∧ Z.Warmed39 U.vm ∧ U.heap = h0) (fun _ _ _ _ _ => True) (fun _ U oU U' => ∃ v L, oU = .returned v ∧ Q7 Z o arr c0 ps b p1 h0 n0 v U'.heap L ∧ FrameEnd U oU U' L ({ frames := 0, cells := 0, slots := 0, locals := 0 } : Room).cells ({ frames := 0, cells := 0, slots := 0, locals := 0 } : Room).slots) := by
  refine MetFree.of_bodySF (plainFor_of_name pn_6) hisR ?_
  intro p e s m args below meth c s₁ Bd hml0 hP hK
  obtain ⟨rfl, hZ, hh⟩ := hP
  have hx := Bd.exec
  have hby := Bd.bytes
  have hml : c.maxLocals = 2 := hml0
  have hown : s.vm.findClass "com/example/segmented_log/segmentedlog/format/BackwardBits" = some m.cls := findClass_of_methodNamed Bd.named
  have hnm := (name_of_methodNamed Bd.named Bd.method).1
  have X0 : Stand p l e ({ frames := 0, cells := 0, slots := 0, locals := 0 } : Room) s m #[(.ref o), (.int p1)] below meth c s₁ [] 0 0 := Stand.of_body Bd
  have e0 : s₁.heap = h0 := by rw [← hh, Bd.state]; rfl
  have N0 := Fr.nil n0
  have go0 : ∀ t, Steps p.tables e below (s₁.setTop (mkF m 0 #[.val (.ref o), .val (.int p1)] [])) t → Steps p.tables e below (s₁.setTop (entryFrame m #[(.ref o), (.int p1)] 2)) t := fun t k => castTop (ef_7 m o p1) k
  obtain ⟨T1, X1, e1, st1⟩ := getF X0 hx hZ hown (host := "") (Or.inl (hw _ (List.mem_of_getElem? (i := 22) rfl))) Via.refl e0 F_bits (g := (mkF m 1 #[.val (.ref o), .val (.int p1)] [(.ref o)])) rfl rfl (hb hby d7_1)
  have go2 : ∀ t, Steps p.tables e below (T1.setTop (mkF m 5 #[.val (.ref o), .val (.int p1)] [(.int p1), (.int b)])) t → Steps p.tables e below (s₁.setTop (entryFrame m #[(.ref o), (.int p1)] 2)) t := by
    intro t kt
    refine go0 t ?_
    show Steps p.tables e below (s₁.setTop (mkF m 0 #[.val (.ref o), .val (.int p1)] [])) _
    refine XS.aloadN X0.here hx rfl (hb hby d7_0) rfl rfl ?_
    show Steps p.tables e below (s₁.setTop (mkF m 1 #[.val (.ref o), .val (.int p1)] [(.ref o)])) _
    refine st1 _ ?_
    show Steps p.tables e below (T1.setTop (mkF m 4 #[.val (.ref o), .val (.int p1)] [(.int b)])) _
    refine XS.iloadN X1.here hx rfl (hb hby d7_4) rfl ?_
    exact kt
  by_cases hc5 : b < p1
  · -- pc 5: taken
    obtain ⟨T3, X3, e3, st3⟩ := getF X1 hx hZ hown (host := "") (Or.inl (hw _ (List.mem_of_getElem? (i := 48) rfl))) Via.refl e1 F_pastStart (g := (mkF m 23 #[.val (.ref o), .val (.int p1)] [(.ref o), (.ref o)])) rfl rfl (hb hby d7_23)
    obtain ⟨T4, X4, e4, st4⟩ := getF X3 hx hZ hown (host := "") (Or.inl (hw _ (List.mem_of_getElem? (i := 22) rfl))) Via.refl e3 F_bits (g := (mkF m 28 #[.val (.ref o), .val (.int p1)] [(.ref o), (.int p1), (.long ps), (.ref o)])) rfl rfl (hb hby d7_28)
    obtain ⟨T5, h5, X5, e5, W5, st5⟩ := putF X4 hx hZ hown (host := "") (Or.inl (hw _ (List.mem_of_getElem? (i := 48) rfl))) Via.refl e4 F_pastStart E (Or.inl (hw _ (List.mem_of_getElem? (i := 49) rfl))) (hw _ (List.mem_of_getElem? (i := 3) rfl)) (ty := .long) (by decide) rfl rfl (g := (mkF m 34 #[.val (.ref o), .val (.int p1)] [(.long (ps + ((p1 - b).toInt64))), (.ref o)])) rfl rfl (hb hby d7_34)
    have E5_o := E.wr W5
    have F5_o_bytes := F_bytes.other W5 (Or.inr (slot_ne (Or.inr (hw _ (List.mem_of_getElem? (i := 12) rfl))) (Or.inl (hw _ (List.mem_of_getElem? (i := 49) rfl))) (by decide) (t := (.array .byte)) (t' := .long) (by decide) (by decide)))
    have F5_o_from := F_from.other W5 (Or.inr (slot_ne (Or.inr (hw _ (List.mem_of_getElem? (i := 14) rfl))) (Or.inl (hw _ (List.mem_of_getElem? (i := 49) rfl))) (by decide) (t := .int) (t' := .long) (by decide) (by decide)))
    have F5_o_container := F_container.other W5 (Or.inr (slot_ne (Or.inl (hw _ (List.mem_of_getElem? (i := 16) rfl))) (Or.inl (hw _ (List.mem_of_getElem? (i := 49) rfl))) (by decide) (t := .long) (t' := .long) (by decide) (by decide)))
    have F5_o_bits := F_bits.other W5 (Or.inr (slot_ne (Or.inl (hw _ (List.mem_of_getElem? (i := 23) rfl))) (Or.inl (hw _ (List.mem_of_getElem? (i := 49) rfl))) (by decide) (t := .int) (t' := .long) (by decide) (by decide)))
    have F5_o_loadedFrom := F_loadedFrom.other W5 (Or.inr (slot_ne (Or.inl (hw _ (List.mem_of_getElem? (i := 25) rfl))) (Or.inl (hw _ (List.mem_of_getElem? (i := 49) rfl))) (by decide) (t := .int) (t' := .long) (by decide) (by decide)))
    have F5_o_pastStart := F_pastStart.same W5
    have N5 := Fr.snoc X5 N0 ge
    have K5 : Keep h0 h5 [o] := (Keep.refl h0 [o]).wr W5 (Or.inl (List.mem_of_getElem? (i := 0) rfl))
    obtain ⟨T6, h6, X6, e6, W6, st6⟩ := putF X5 hx hZ hown (host := "") (Or.inl (hw _ (List.mem_of_getElem? (i := 22) rfl))) Via.refl e5 F5_o_bits E5_o (Or.inl (hw _ (List.mem_of_getElem? (i := 23) rfl))) (hw _ (List.mem_of_getElem? (i := 3) rfl)) (ty := .int) (by decide) rfl rfl (g := (mkF m 39 #[.val (.ref o), .val (.int p1)] [(.int (0 : Int32)), (.ref o)])) rfl rfl (hb hby d7_39)
    have E6_o := E5_o.wr W6
    have F6_o_bytes := F5_o_bytes.other W6 (Or.inr (slot_ne (Or.inr (hw _ (List.mem_of_getElem? (i := 12) rfl))) (Or.inl (hw _ (List.mem_of_getElem? (i := 23) rfl))) (by decide) (t := (.array .byte)) (t' := .int) (by decide) (by decide)))
    have F6_o_from := F5_o_from.other W6 (Or.inr (slot_ne (Or.inr (hw _ (List.mem_of_getElem? (i := 14) rfl))) (Or.inl (hw _ (List.mem_of_getElem? (i := 23) rfl))) (by decide) (t := .int) (t' := .int) (by decide) (by decide)))
    have F6_o_container := F5_o_container.other W6 (Or.inr (slot_ne (Or.inl (hw _ (List.mem_of_getElem? (i := 16) rfl))) (Or.inl (hw _ (List.mem_of_getElem? (i := 23) rfl))) (by decide) (t := .long) (t' := .int) (by decide) (by decide)))
    have F6_o_bits := F5_o_bits.same W6
    have F6_o_loadedFrom := F5_o_loadedFrom.other W6 (Or.inr (slot_ne (Or.inl (hw _ (List.mem_of_getElem? (i := 25) rfl))) (Or.inl (hw _ (List.mem_of_getElem? (i := 23) rfl))) (by decide) (t := .int) (t' := .int) (by decide) (by decide)))
    have F6_o_pastStart := F5_o_pastStart.other W6 (Or.inr (slot_ne (Or.inl (hw _ (List.mem_of_getElem? (i := 49) rfl))) (Or.inl (hw _ (List.mem_of_getElem? (i := 23) rfl))) (by decide) (t := .long) (t' := .int) (by decide) (by decide)))
    have N6 := Fr.snoc X6 N5 ge
    have K6 : Keep h0 h6 [o] := K5.wr W6 (Or.inl (List.mem_of_getElem? (i := 0) rfl))
    obtain ⟨fs, hr, hrun, hended, hW, hsame⟩ := X6.leave (v := none) (fun _ => rfl)
    refine ⟨_, _, go2 _ ?_, hrun, hended, _, _, rfl, ?_, ⟨_, rfl⟩, hW, hsame.mono (by decide) (by decide)⟩
    · show Steps p.tables e below (T1.setTop (mkF m 5 #[.val (.ref o), .val (.int p1)] [(.int p1), (.int b)])) _
      refine XS.icmpYes X1.here hx rfl (pc0 := 5) (pc' := 21) rfl (hb hby d7_5) rfl (tlt hc5).1 (by decide) (by decide) ?_
      show Steps p.tables e below (T1.setTop (mkF m 21 #[.val (.ref o), .val (.int p1)] [])) _
      refine XS.aloadN X1.here hx rfl (hb hby d7_21) rfl rfl ?_
      show Steps p.tables e below (T1.setTop (mkF m 22 #[.val (.ref o), .val (.int p1)] [(.ref o)])) _
      refine XS.dup X1.here hx rfl (hb hby d7_22) rfl rfl ?_
      show Steps p.tables e below (T1.setTop (mkF m 23 #[.val (.ref o), .val (.int p1)] [(.ref o), (.ref o)])) _
      refine st3 _ ?_
      show Steps p.tables e below (T3.setTop (mkF m 26 #[.val (.ref o), .val (.int p1)] [(.long ps), (.ref o)])) _
      refine XS.iloadN X3.here hx rfl (hb hby d7_26) rfl ?_
      show Steps p.tables e below (T3.setTop (mkF m 27 #[.val (.ref o), .val (.int p1)] [(.int p1), (.long ps), (.ref o)])) _
      refine XS.aloadN X3.here hx rfl (hb hby d7_27) rfl rfl ?_
      show Steps p.tables e below (T3.setTop (mkF m 28 #[.val (.ref o), .val (.int p1)] [(.ref o), (.int p1), (.long ps), (.ref o)])) _
      refine st4 _ ?_
      show Steps p.tables e below (T4.setTop (mkF m 31 #[.val (.ref o), .val (.int p1)] [(.int b), (.int p1), (.long ps), (.ref o)])) _
      refine XS.isub X4.here hx rfl (hb hby d7_31) rfl ?_
      show Steps p.tables e below (T4.setTop (mkF m 32 #[.val (.ref o), .val (.int p1)] [(.int (p1 - b)), (.long ps), (.ref o)])) _
      refine XS.i2l X4.here hx rfl (hb hby d7_32) rfl ?_
      show Steps p.tables e below (T4.setTop (mkF m 33 #[.val (.ref o), .val (.int p1)] [(.long ((p1 - b).toInt64)), (.long ps), (.ref o)])) _
      refine XS.ladd X4.here hx rfl (hb hby d7_33) rfl ?_
      show Steps p.tables e below (T4.setTop (mkF m 34 #[.val (.ref o), .val (.int p1)] [(.long (ps + ((p1 - b).toInt64))), (.ref o)])) _
      refine st5 _ ?_
      show Steps p.tables e below (T5.setTop (mkF m 37 #[.val (.ref o), .val (.int p1)] [])) _
      refine XS.aloadN X5.here hx rfl (hb hby d7_37) rfl rfl ?_
      show Steps p.tables e below (T5.setTop (mkF m 38 #[.val (.ref o), .val (.int p1)] [(.ref o)])) _
      refine XS.iconst X5.here hx rfl (hb hby d7_38) ?_
      show Steps p.tables e below (T5.setTop (mkF m 39 #[.val (.ref o), .val (.int p1)] [(.int (0 : Int32)), (.ref o)])) _
      refine st6 _ ?_
      show Steps p.tables e below (T6.setTop (mkF m 42 #[.val (.ref o), .val (.int p1)] [])) _
      exact X6.returnOut hx Bd.returns (hb hby d7_42) hr
    · show Q7 Z o arr c0 ps b p1 h0 n0 _ T6.heap _
      rw [e6]
      refine ⟨rfl, N6, K6, F6_o_bytes, F6_o_from, F6_o_container, ?_, F6_o_loadedFrom, ?_⟩
      · rw [own_sb, if_pos hc5]; exact F6_o_bits
      · rw [own_sp, if_pos hc5]; exact F6_o_pastStart
  · -- pc 5: not taken
    obtain ⟨T7, X7, e7, st7⟩ := getF X1 hx hZ hown (host := "") (Or.inl (hw _ (List.mem_of_getElem? (i := 22) rfl))) Via.refl e1 F_bits (g := (mkF m 10 #[.val (.ref o), .val (.int p1)] [(.ref o), (.ref o)])) rfl rfl (hb hby d7_10)
    obtain ⟨T8, h8, X8, e8, W8, st8⟩ := putF X7 hx hZ hown (host := "") (Or.inl (hw _ (List.mem_of_getElem? (i := 22) rfl))) Via.refl e7 F_bits E (Or.inl (hw _ (List.mem_of_getElem? (i := 23) rfl))) (hw _ (List.mem_of_getElem? (i := 3) rfl)) (ty := .int) (by decide) rfl rfl (g := (mkF m 15 #[.val (.ref o), .val (.int p1)] [(.int (b - p1)), (.ref o)])) rfl rfl (hb hby d7_15)
    have E8_o := E.wr W8
    have F8_o_bytes := F_bytes.other W8 (Or.inr (slot_ne (Or.inr (hw _ (List.mem_of_getElem? (i := 12) rfl))) (Or.inl (hw _ (List.mem_of_getElem? (i := 23) rfl))) (by decide) (t := (.array .byte)) (t' := .int) (by decide) (by decide)))
    have F8_o_from := F_from.other W8 (Or.inr (slot_ne (Or.inr (hw _ (List.mem_of_getElem? (i := 14) rfl))) (Or.inl (hw _ (List.mem_of_getElem? (i := 23) rfl))) (by decide) (t := .int) (t' := .int) (by decide) (by decide)))
    have F8_o_container := F_container.other W8 (Or.inr (slot_ne (Or.inl (hw _ (List.mem_of_getElem? (i := 16) rfl))) (Or.inl (hw _ (List.mem_of_getElem? (i := 23) rfl))) (by decide) (t := .long) (t' := .int) (by decide) (by decide)))
    have F8_o_bits := F_bits.same W8
    have F8_o_loadedFrom := F_loadedFrom.other W8 (Or.inr (slot_ne (Or.inl (hw _ (List.mem_of_getElem? (i := 25) rfl))) (Or.inl (hw _ (List.mem_of_getElem? (i := 23) rfl))) (by decide) (t := .int) (t' := .int) (by decide) (by decide)))
    have F8_o_pastStart := F_pastStart.other W8 (Or.inr (slot_ne (Or.inl (hw _ (List.mem_of_getElem? (i := 49) rfl))) (Or.inl (hw _ (List.mem_of_getElem? (i := 23) rfl))) (by decide) (t := .long) (t' := .int) (by decide) (by decide)))
    have N8 := Fr.snoc X8 N0 ge
    have K8 : Keep h0 h8 [o] := (Keep.refl h0 [o]).wr W8 (Or.inl (List.mem_of_getElem? (i := 0) rfl))
    obtain ⟨fs, hr, hrun, hended, hW, hsame⟩ := X8.leave (v := none) (fun _ => rfl)
    refine ⟨_, _, go2 _ ?_, hrun, hended, _, _, rfl, ?_, ⟨_, rfl⟩, hW, hsame.mono (by decide) (by decide)⟩
    · show Steps p.tables e below (T1.setTop (mkF m 5 #[.val (.ref o), .val (.int p1)] [(.int p1), (.int b)])) _
      refine XS.icmpNo X1.here hx rfl (hb hby d7_5) rfl (flt hc5).1 ?_
      show Steps p.tables e below (T1.setTop (mkF m 8 #[.val (.ref o), .val (.int p1)] [])) _
      refine XS.aloadN X1.here hx rfl (hb hby d7_8) rfl rfl ?_
      show Steps p.tables e below (T1.setTop (mkF m 9 #[.val (.ref o), .val (.int p1)] [(.ref o)])) _
      refine XS.dup X1.here hx rfl (hb hby d7_9) rfl rfl ?_
      show Steps p.tables e below (T1.setTop (mkF m 10 #[.val (.ref o), .val (.int p1)] [(.ref o), (.ref o)])) _
      refine st7 _ ?_
      show Steps p.tables e below (T7.setTop (mkF m 13 #[.val (.ref o), .val (.int p1)] [(.int b), (.ref o)])) _
      refine XS.iloadN X7.here hx rfl (hb hby d7_13) rfl ?_
      show Steps p.tables e below (T7.setTop (mkF m 14 #[.val (.ref o), .val (.int p1)] [(.int p1), (.int b), (.ref o)])) _
      refine XS.isub X7.here hx rfl (hb hby d7_14) rfl ?_
      show Steps p.tables e below (T7.setTop (mkF m 15 #[.val (.ref o), .val (.int p1)] [(.int (b - p1)), (.ref o)])) _
      refine st8 _ ?_
      show Steps p.tables e below (T8.setTop (mkF m 18 #[.val (.ref o), .val (.int p1)] [])) _
      refine XS.goto X8.here hx rfl (pc0 := 18) (pc' := 42) rfl (hb hby d7_18) (by decide) (by decide) ?_
      show Steps p.tables e below (T8.setTop (mkF m 42 #[.val (.ref o), .val (.int p1)] [])) _
      exact X8.returnOut hx Bd.returns (hb hby d7_42) hr
    · show Q7 Z o arr c0 ps b p1 h0 n0 _ T8.heap _
      rw [e8]
      refine ⟨rfl, N8, K8, F8_o_bytes, F8_o_from, F8_o_container, ?_, F8_o_loadedFrom, ?_⟩
      · rw [own_sb, if_neg hc5]; exact F8_o_bits
      · rw [own_sp, if_neg hc5]; exact F8_o_pastStart
theorem ef_8 (m : MethodId) (o : Addr) : entryFrame m #[(.ref o)] 1 = mkF m 0 #[.val (.ref o)] [] := by first | (simp [entryFrame, mkF, argsToLocals, Value.category]; done) | rfl
def Q8 (Z : State) (ps : Int64) (h0 : Heap) (n0 : Nat) (v : Option Value) (h : Heap) (L : List Loc) : Prop := v = some (.int (own_ov ps)) ∧ Fr n0 L ∧ h = h0
theorem d8_0 : decode prog_13_method_5_code 0 = .ok (.aload_n 0, 1) := by decide +kernel
theorem d8_1 : decode prog_13_method_5_code 1 = .ok (.getfield 54, 3) := by decide +kernel
theorem d8_4 : decode prog_13_method_5_code 4 = .ok (.lconst 0, 1) := by decide +kernel
theorem d8_5 : decode prog_13_method_5_code 5 = .ok (.lcmp, 1) := by decide +kernel
theorem d8_6 : decode prog_13_method_5_code 6 = .ok (.ifCond .le 7, 3) := by decide +kernel
theorem d8_9 : decode prog_13_method_5_code 9 = .ok (.iconst 1, 1) := by decide +kernel
theorem d8_10 : decode prog_13_method_5_code 10 = .ok (.goto 4, 3) := by decide +kernel
theorem d8_14 : decode prog_13_method_5_code 14 = .ok (.ireturn, 1) := by decide +kernel
theorem d8_13 : decode prog_13_method_5_code 13 = .ok (.iconst 0, 1) := by decide +kernel
set_option maxRecDepth 65536 in
set_option maxHeartbeats 40000000 in
theorem rm8 (l : Launch) (Z : State) (a0 : Array Value) (hw : ∀ d ∈ tables_1, d.before a0 Z = true) (ws : List Jvm.Cond) (o : Addr) (ps : Int64) (h0 : Heap) (n0 : Nat) (Z0 : n0 ≤ h0.size) (F_pastStart : Fld Z h0 o "com/example/segmented_log/segmentedlog/format/BackwardBits" "pastStart" "J" (.long ps)) :
    MetFree l (⟨"com/example/segmented_log/segmentedlog/format/BackwardBits", "overflowed", "()Z"⟩ : MethodName) (head1 (Jvm.Cond.code (⟨"com/example/segmented_log/segmentedlog/format/BackwardBits", "overflowed", "()Z"⟩ : MethodName) prog_13_method_5_code 1 (some .boolean) :: ws) ({ frames := 0, cells := 0, slots := 0, locals := 0 } : Room)) (fun a U => a = #[(.ref o)] ∧ Z.Warmed39 U.vm ∧ U.heap = h0) (fun _ _ _ _ _ => True) (fun _ U oU U' => ∃ v L, oU = .returned v ∧ Q8 Z ps h0 n0 v U'.heap L ∧ FrameEnd U oU U' L ({ frames := 0, cells := 0, slots := 0, locals := 0 } : Room).cells ({ frames := 0, cells := 0, slots := 0, locals := 0 } : Room).slots) := by
  refine MetFree.of_bodySF (plainFor_of_name pn_6) hisR ?_
  intro p e s m args below meth c s₁ Bd hml0 hP hK
  obtain ⟨rfl, hZ, hh⟩ := hP
  have hx := Bd.exec
  have hby := Bd.bytes
  have hml : c.maxLocals = 1 := hml0
  have hown : s.vm.findClass "com/example/segmented_log/segmentedlog/format/BackwardBits" = some m.cls := findClass_of_methodNamed Bd.named
  have hnm := (name_of_methodNamed Bd.named Bd.method).1
  have X0 : Stand p l e ({ frames := 0, cells := 0, slots := 0, locals := 0 } : Room) s m #[(.ref o)] below meth c s₁ [] 0 0 := Stand.of_body Bd
  have e0 : s₁.heap = h0 := by rw [← hh, Bd.state]; rfl
  have N0 := Fr.nil n0
  have go0 : ∀ t, Steps p.tables e below (s₁.setTop (mkF m 0 #[.val (.ref o)] [])) t → Steps p.tables e below (s₁.setTop (entryFrame m #[(.ref o)] 1)) t := fun t k => castTop (ef_8 m o) k
  obtain ⟨T1, X1, e1, st1⟩ := getF X0 hx hZ hown (host := "") (Or.inl (hw _ (List.mem_of_getElem? (i := 48) rfl))) Via.refl e0 F_pastStart (g := (mkF m 1 #[.val (.ref o)] [(.ref o)])) rfl rfl (hb hby d8_1)
  have go2 : ∀ t, Steps p.tables e below (T1.setTop (mkF m 6 #[.val (.ref o)] [(.int (lcmpW ps (0 : Int64)))])) t → Steps p.tables e below (s₁.setTop (entryFrame m #[(.ref o)] 1)) t := by
    intro t kt
    refine go0 t ?_
    show Steps p.tables e below (s₁.setTop (mkF m 0 #[.val (.ref o)] [])) _
    refine XS.aloadN X0.here hx rfl (hb hby d8_0) rfl rfl ?_
    show Steps p.tables e below (s₁.setTop (mkF m 1 #[.val (.ref o)] [(.ref o)])) _
    refine st1 _ ?_
    show Steps p.tables e below (T1.setTop (mkF m 4 #[.val (.ref o)] [(.long ps)])) _
    refine XS.lconst X1.here hx rfl (hb hby d8_4) ?_
    show Steps p.tables e below (T1.setTop (mkF m 5 #[.val (.ref o)] [(.long (0 : Int64)), (.long ps)])) _
    refine XS.lcmp X1.here hx rfl (hb hby d8_5) rfl ?_
    exact kt
  by_cases hc6 : (0 : Int32) < (lcmpW ps (0 : Int64))
  · -- pc 6: not taken
    obtain ⟨fs, hr, hrun, hended, hW, hsame⟩ := X1.leave (v := some (.int (1 : Int32))) (fun h => by rw [Bd.returns] at h; cases h)
    refine ⟨_, _, go2 _ ?_, hrun, hended, _, _, rfl, ?_, ⟨_, rfl⟩, hW, hsame.mono (by decide) (by decide)⟩
    · show Steps p.tables e below (T1.setTop (mkF m 6 #[.val (.ref o)] [(.int (lcmpW ps (0 : Int64)))])) _
      refine XS.ifNo X1.here hx rfl (hb hby d8_6) rfl ((if0 _ _).trans (tlt hc6).2.2.2) ?_
      show Steps p.tables e below (T1.setTop (mkF m 9 #[.val (.ref o)] [])) _
      refine XS.iconst X1.here hx rfl (hb hby d8_9) ?_
      show Steps p.tables e below (T1.setTop (mkF m 10 #[.val (.ref o)] [(.int (1 : Int32))])) _
      refine XS.goto X1.here hx rfl (pc0 := 10) (pc' := 14) rfl (hb hby d8_10) (by decide) (by decide) ?_
      show Steps p.tables e below (T1.setTop (mkF m 14 #[.val (.ref o)] [(.int (1 : Int32))])) _
      exact retN X1 hx (t := .boolean) Bd.returns (by simp) (hb hby d8_14) hr
    · show Q8 Z ps h0 n0 _ T1.heap _
      rw [e1]
      exact ⟨by rw [own_ov, if_pos hc6], N0, rfl⟩
  · -- pc 6: taken
    obtain ⟨fs, hr, hrun, hended, hW, hsame⟩ := X1.leave (v := some (.int (0 : Int32))) (fun h => by rw [Bd.returns] at h; cases h)
    refine ⟨_, _, go2 _ ?_, hrun, hended, _, _, rfl, ?_, ⟨_, rfl⟩, hW, hsame.mono (by decide) (by decide)⟩
    · show Steps p.tables e below (T1.setTop (mkF m 6 #[.val (.ref o)] [(.int (lcmpW ps (0 : Int64)))])) _
      refine XS.ifYes X1.here hx rfl (pc0 := 6) (pc' := 13) rfl (hb hby d8_6) rfl ((if0 _ _).trans (flt hc6).2.2.2) (by decide) (by decide) ?_
      show Steps p.tables e below (T1.setTop (mkF m 13 #[.val (.ref o)] [])) _
      refine XS.iconst X1.here hx rfl (hb hby d8_13) ?_
      show Steps p.tables e below (T1.setTop (mkF m 14 #[.val (.ref o)] [(.int (0 : Int32))])) _
      exact retN X1 hx (t := .boolean) Bd.returns (by simp) (hb hby d8_14) hr
    · show Q8 Z ps h0 n0 _ T1.heap _
      rw [e1]
      exact ⟨by rw [own_ov, if_neg hc6], N0, rfl⟩
theorem ef_9 (m : MethodId) (o : Addr) : entryFrame m #[(.ref o)] 1 = mkF m 0 #[.val (.ref o)] [] := by first | (simp [entryFrame, mkF, argsToLocals, Value.category]; done) | rfl
def Q9 (Z : State) (ps : Int64) (b : Int32) (h0 : Heap) (n0 : Nat) (v : Option Value) (h : Heap) (L : List Loc) : Prop := v = some (.int (own_cons b (0 : Int32) (0 : Int32) ps)) ∧ Fr n0 L ∧ h = h0
theorem d9_0 : decode prog_13_method_6_code 0 = .ok (.aload_n 0, 1) := by decide +kernel
theorem d9_1 : decode prog_13_method_6_code 1 = .ok (.getfield 34, 3) := by decide +kernel
theorem d9_4 : decode prog_13_method_6_code 4 = .ok (.ifCond .ne 27, 3) := by decide +kernel
theorem d9_7 : decode prog_13_method_6_code 7 = .ok (.aload_n 0, 1) := by decide +kernel
theorem d9_8 : decode prog_13_method_6_code 8 = .ok (.getfield 37, 3) := by decide +kernel
theorem d9_11 : decode prog_13_method_6_code 11 = .ok (.aload_n 0, 1) := by decide +kernel
theorem d9_12 : decode prog_13_method_6_code 12 = .ok (.getfield 20, 3) := by decide +kernel
theorem d9_15 : decode prog_13_method_6_code 15 = .ok (.if_icmp .ne 16, 3) := by decide +kernel
theorem d9_18 : decode prog_13_method_6_code 18 = .ok (.aload_n 0, 1) := by decide +kernel
theorem d9_19 : decode prog_13_method_6_code 19 = .ok (.getfield 54, 3) := by decide +kernel
theorem d9_22 : decode prog_13_method_6_code 22 = .ok (.lconst 0, 1) := by decide +kernel
theorem d9_23 : decode prog_13_method_6_code 23 = .ok (.lcmp, 1) := by decide +kernel
theorem d9_24 : decode prog_13_method_6_code 24 = .ok (.ifCond .ne 7, 3) := by decide +kernel
theorem d9_27 : decode prog_13_method_6_code 27 = .ok (.iconst 1, 1) := by decide +kernel
theorem d9_28 : decode prog_13_method_6_code 28 = .ok (.goto 4, 3) := by decide +kernel
theorem d9_32 : decode prog_13_method_6_code 32 = .ok (.ireturn, 1) := by decide +kernel
theorem d9_31 : decode prog_13_method_6_code 31 = .ok (.iconst 0, 1) := by decide +kernel
set_option maxRecDepth 65536 in
set_option maxHeartbeats 40000000 in
theorem rm9 (l : Launch) (Z : State) (a0 : Array Value) (hw : ∀ d ∈ tables_1, d.before a0 Z = true) (ws : List Jvm.Cond) (o arr : Addr) (c0 ps : Int64) (b : Int32) (h0 : Heap) (n0 : Nat) (Z0 : n0 ≤ h0.size) (F_bytes : Fld Z h0 o "com/example/segmented_log/segmentedlog/format/BackwardBits" "bytes" "[B" (.ref arr)) (F_from : Fld Z h0 o "com/example/segmented_log/segmentedlog/format/BackwardBits" "from" "I" (.int (0 : Int32))) (F_container : Fld Z h0 o "com/example/segmented_log/segmentedlog/format/BackwardBits" "container" "J" (.long c0)) (F_bits : Fld Z h0 o "com/example/segmented_log/segmentedlog/format/BackwardBits" "bits" "I" (.int b)) (F_loadedFrom : Fld Z h0 o "com/example/segmented_log/segmentedlog/format/BackwardBits" "loadedFrom" "I" (.int (0 : Int32))) (F_pastStart : Fld Z h0 o "com/example/segmented_log/segmentedlog/format/BackwardBits" "pastStart" "J" (.long ps)) :
    MetFree l (⟨"com/example/segmented_log/segmentedlog/format/BackwardBits", "isConsumed", "()Z"⟩ : MethodName) (head1 (Jvm.Cond.code (⟨"com/example/segmented_log/segmentedlog/format/BackwardBits", "isConsumed", "()Z"⟩ : MethodName) prog_13_method_6_code 1 (some .boolean) :: ws) ({ frames := 0, cells := 0, slots := 0, locals := 0 } : Room)) (fun a U => a = #[(.ref o)] ∧ Z.Warmed39 U.vm ∧ U.heap = h0) (fun _ _ _ _ _ => True) (fun _ U oU U' => ∃ v L, oU = .returned v ∧ Q9 Z ps b h0 n0 v U'.heap L ∧ FrameEnd U oU U' L ({ frames := 0, cells := 0, slots := 0, locals := 0 } : Room).cells ({ frames := 0, cells := 0, slots := 0, locals := 0 } : Room).slots) := by
  refine MetFree.of_bodySF (plainFor_of_name pn_6) hisR ?_
  intro p e s m args below meth c s₁ Bd hml0 hP hK
  obtain ⟨rfl, hZ, hh⟩ := hP
  have hx := Bd.exec
  have hby := Bd.bytes
  have hml : c.maxLocals = 1 := hml0
  have hown : s.vm.findClass "com/example/segmented_log/segmentedlog/format/BackwardBits" = some m.cls := findClass_of_methodNamed Bd.named
  have hnm := (name_of_methodNamed Bd.named Bd.method).1
  have X0 : Stand p l e ({ frames := 0, cells := 0, slots := 0, locals := 0 } : Room) s m #[(.ref o)] below meth c s₁ [] 0 0 := Stand.of_body Bd
  have e0 : s₁.heap = h0 := by rw [← hh, Bd.state]; rfl
  have N0 := Fr.nil n0
  have go0 : ∀ t, Steps p.tables e below (s₁.setTop (mkF m 0 #[.val (.ref o)] [])) t → Steps p.tables e below (s₁.setTop (entryFrame m #[(.ref o)] 1)) t := fun t k => castTop (ef_9 m o) k
  obtain ⟨T1, X1, e1, st1⟩ := getF X0 hx hZ hown (host := "") (Or.inl (hw _ (List.mem_of_getElem? (i := 22) rfl))) Via.refl e0 F_bits (g := (mkF m 1 #[.val (.ref o)] [(.ref o)])) rfl rfl (hb hby d9_1)
  have go2 : ∀ t, Steps p.tables e below (T1.setTop (mkF m 4 #[.val (.ref o)] [(.int b)])) t → Steps p.tables e below (s₁.setTop (entryFrame m #[(.ref o)] 1)) t := by
    intro t kt
    refine go0 t ?_
    show Steps p.tables e below (s₁.setTop (mkF m 0 #[.val (.ref o)] [])) _
    refine XS.aloadN X0.here hx rfl (hb hby d9_0) rfl rfl ?_
    show Steps p.tables e below (s₁.setTop (mkF m 1 #[.val (.ref o)] [(.ref o)])) _
    refine st1 _ ?_
    exact kt
  by_cases hc4 : b = (0 : Int32)
  · -- pc 4: not taken
    obtain ⟨T3, X3, e3, st3⟩ := getF X1 hx hZ hown (host := "") (Or.inl (hw _ (List.mem_of_getElem? (i := 24) rfl))) Via.refl e1 F_loadedFrom (g := (mkF m 8 #[.val (.ref o)] [(.ref o)])) rfl rfl (hb hby d9_8)
    obtain ⟨T4, X4, e4, st4⟩ := getF X3 hx hZ hown (host := "") (Or.inl (hw _ (List.mem_of_getElem? (i := 13) rfl))) Via.refl e3 F_from (g := (mkF m 12 #[.val (.ref o)] [(.ref o), (.int (0 : Int32))])) rfl rfl (hb hby d9_12)
    obtain ⟨T5, X5, e5, st5⟩ := getF X4 hx hZ hown (host := "") (Or.inl (hw _ (List.mem_of_getElem? (i := 48) rfl))) Via.refl e4 F_pastStart (g := (mkF m 19 #[.val (.ref o)] [(.ref o)])) rfl rfl (hb hby d9_19)
    have go6 : ∀ t, Steps p.tables e below (T5.setTop (mkF m 24 #[.val (.ref o)] [(.int (lcmpW ps (0 : Int64)))])) t → Steps p.tables e below (s₁.setTop (entryFrame m #[(.ref o)] 1)) t := by
      intro t kt
      refine go2 t ?_
      show Steps p.tables e below (T1.setTop (mkF m 4 #[.val (.ref o)] [(.int b)])) _
      refine XS.ifNo X1.here hx rfl (hb hby d9_4) rfl ((if0 _ _).trans (teq hc4).2) ?_
      show Steps p.tables e below (T1.setTop (mkF m 7 #[.val (.ref o)] [])) _
      refine XS.aloadN X1.here hx rfl (hb hby d9_7) rfl rfl ?_
      show Steps p.tables e below (T1.setTop (mkF m 8 #[.val (.ref o)] [(.ref o)])) _
      refine st3 _ ?_
      show Steps p.tables e below (T3.setTop (mkF m 11 #[.val (.ref o)] [(.int (0 : Int32))])) _
      refine XS.aloadN X3.here hx rfl (hb hby d9_11) rfl rfl ?_
      show Steps p.tables e below (T3.setTop (mkF m 12 #[.val (.ref o)] [(.ref o), (.int (0 : Int32))])) _
      refine st4 _ ?_
      show Steps p.tables e below (T4.setTop (mkF m 15 #[.val (.ref o)] [(.int (0 : Int32)), (.int (0 : Int32))])) _
      refine XS.icmpNo X4.here hx rfl (hb hby d9_15) rfl (teq rfl).2 ?_
      show Steps p.tables e below (T4.setTop (mkF m 18 #[.val (.ref o)] [])) _
      refine XS.aloadN X4.here hx rfl (hb hby d9_18) rfl rfl ?_
      show Steps p.tables e below (T4.setTop (mkF m 19 #[.val (.ref o)] [(.ref o)])) _
      refine st5 _ ?_
      show Steps p.tables e below (T5.setTop (mkF m 22 #[.val (.ref o)] [(.long ps)])) _
      refine XS.lconst X5.here hx rfl (hb hby d9_22) ?_
      show Steps p.tables e below (T5.setTop (mkF m 23 #[.val (.ref o)] [(.long (0 : Int64)), (.long ps)])) _
      refine XS.lcmp X5.here hx rfl (hb hby d9_23) rfl ?_
      exact kt
    by_cases hc24 : (lcmpW ps (0 : Int64)) = (0 : Int32)
    · -- pc 24: not taken
      obtain ⟨fs, hr, hrun, hended, hW, hsame⟩ := X5.leave (v := some (.int (1 : Int32))) (fun h => by rw [Bd.returns] at h; cases h)
      refine ⟨_, _, go6 _ ?_, hrun, hended, _, _, rfl, ?_, ⟨_, rfl⟩, hW, hsame.mono (by decide) (by decide)⟩
      · show Steps p.tables e below (T5.setTop (mkF m 24 #[.val (.ref o)] [(.int (lcmpW ps (0 : Int64)))])) _
        refine XS.ifNo X5.here hx rfl (hb hby d9_24) rfl ((if0 _ _).trans (teq hc24).2) ?_
        show Steps p.tables e below (T5.setTop (mkF m 27 #[.val (.ref o)] [])) _
        refine XS.iconst X5.here hx rfl (hb hby d9_27) ?_
        show Steps p.tables e below (T5.setTop (mkF m 28 #[.val (.ref o)] [(.int (1 : Int32))])) _
        refine XS.goto X5.here hx rfl (pc0 := 28) (pc' := 32) rfl (hb hby d9_28) (by decide) (by decide) ?_
        show Steps p.tables e below (T5.setTop (mkF m 32 #[.val (.ref o)] [(.int (1 : Int32))])) _
        exact retN X5 hx (t := .boolean) Bd.returns (by simp) (hb hby d9_32) hr
      · show Q9 Z ps b h0 n0 _ T5.heap _
        rw [e5]
        exact ⟨by rw [own_cons, if_pos hc4, if_pos rfl, if_pos hc24], N0, rfl⟩
    · -- pc 24: taken
      obtain ⟨fs, hr, hrun, hended, hW, hsame⟩ := X5.leave (v := some (.int (0 : Int32))) (fun h => by rw [Bd.returns] at h; cases h)
      refine ⟨_, _, go6 _ ?_, hrun, hended, _, _, rfl, ?_, ⟨_, rfl⟩, hW, hsame.mono (by decide) (by decide)⟩
      · show Steps p.tables e below (T5.setTop (mkF m 24 #[.val (.ref o)] [(.int (lcmpW ps (0 : Int64)))])) _
        refine XS.ifYes X5.here hx rfl (pc0 := 24) (pc' := 31) rfl (hb hby d9_24) rfl ((if0 _ _).trans (feq hc24).2) (by decide) (by decide) ?_
        show Steps p.tables e below (T5.setTop (mkF m 31 #[.val (.ref o)] [])) _
        refine XS.iconst X5.here hx rfl (hb hby d9_31) ?_
        show Steps p.tables e below (T5.setTop (mkF m 32 #[.val (.ref o)] [(.int (0 : Int32))])) _
        exact retN X5 hx (t := .boolean) Bd.returns (by simp) (hb hby d9_32) hr
      · show Q9 Z ps b h0 n0 _ T5.heap _
        rw [e5]
        exact ⟨by rw [own_cons, if_pos hc4, if_pos rfl, if_neg hc24], N0, rfl⟩
  · -- pc 4: taken
    obtain ⟨fs, hr, hrun, hended, hW, hsame⟩ := X1.leave (v := some (.int (0 : Int32))) (fun h => by rw [Bd.returns] at h; cases h)
    refine ⟨_, _, go2 _ ?_, hrun, hended, _, _, rfl, ?_, ⟨_, rfl⟩, hW, hsame.mono (by decide) (by decide)⟩
    · show Steps p.tables e below (T1.setTop (mkF m 4 #[.val (.ref o)] [(.int b)])) _
      refine XS.ifYes X1.here hx rfl (pc0 := 4) (pc' := 31) rfl (hb hby d9_4) rfl ((if0 _ _).trans (feq hc4).2) (by decide) (by decide) ?_
      show Steps p.tables e below (T1.setTop (mkF m 31 #[.val (.ref o)] [])) _
      refine XS.iconst X1.here hx rfl (hb hby d9_31) ?_
      show Steps p.tables e below (T1.setTop (mkF m 32 #[.val (.ref o)] [(.int (0 : Int32))])) _
      exact retN X1 hx (t := .boolean) Bd.returns (by simp) (hb hby d9_32) hr
    · show Q9 Z ps b h0 n0 _ T1.heap _
      rw [e1]
      exact ⟨by rw [own_cons, if_neg hc4], N0, rfl⟩
def own_N (x : Int32) (m : Nat) : Prop := ∃ n : Nat, n < m ∧ x = Int32.ofNat n
def own_T (hh b2 : Int32) : Prop := ∃ n j : Nat, n < 8 ∧ j < 2 ^ n ∧ hh = Int32.ofNat n ∧ b2 = Int32.ofNat (2 ^ n + j)
def own_v (b2 b1 b0 : Int32) : Int64 := ((((b2.toInt64) <<< ((16 : Int32) &&& 0x3f).toInt64) ||| ((b1.toInt64) <<< ((8 : Int32) &&& 0x3f).toInt64)) ||| (b0.toInt64))
theorem own_N_of {x : Int32} {m : Nat} (h1 : 0 ≤ x.toInt) (h2 : x.toInt < m) : own_N x m := ⟨x.toInt.toNat, by omega, by
  apply Int32.toInt_inj.mp
  have := x.toInt_lt
  rw [Int32.toInt_ofNat_small (by omega)]; omega⟩
theorem own_rem (p : Int32) : own_N ((p &&& (2147483647 : Int32)) % (33 : Int32)) 33 := by
  have e : (p &&& (2147483647 : Int32)).toInt = p.toInt % 2 ^ 31 := Jvm.Kit.i32_mask p 2147483647 (k := 31) (by decide) (by decide)
  have h0 : 0 ≤ (p &&& (2147483647 : Int32)).toInt := by rw [e]; omega
  have e2 : ((p &&& (2147483647 : Int32)) % (33 : Int32)).toInt = (p &&& (2147483647 : Int32)).toInt % 33 := Jvm.Kit.i32_rem_nonneg h0
  exact own_N_of (by rw [e2]; omega) (by rw [e2]; omega)
theorem own_255 (p : Int32) : own_N (p &&& (255 : Int32)) 256 := by
  have e : (p &&& (255 : Int32)).toInt = p.toInt % 2 ^ 8 := Jvm.Kit.i32_mask p 255 (k := 8) (by decide) (by decide)
  exact own_N_of (by rw [e]; omega) (by rw [e]; omega)
theorem own_7 (p : Int32) : own_N (p &&& (7 : Int32)) 8 := by
  have e : (p &&& (7 : Int32)).toInt = p.toInt % 2 ^ 3 := Jvm.Kit.i32_mask p 7 (k := 3) (by decide) (by decide)
  exact own_N_of (by rw [e]; omega) (by rw [e]; omega)
theorem own_m8 : ∀ n : Fin 8, (((1 : Int32) <<< (Int32.ofNat n.val &&& 31)) - (1 : Int32)).toBitVec.toNat = 2 ^ n.val - 1 := by decide +kernel
theorem own_or8 : ∀ n : Fin 8, ∀ j : Fin 128, j.val < 2 ^ n.val → (((1 : Int32) <<< (Int32.ofNat n.val &&& 31)) ||| Int32.ofNat j.val) = Int32.ofNat (2 ^ n.val + j.val) := by decide +kernel
theorem own_pow8 {n : Nat} (h : n < 8) : 2 ^ n ≤ 128 := by
  have : 2 ^ n ≤ 2 ^ 7 := Nat.pow_le_pow_right (by decide) (by omega)
  exact this
theorem own_b2 (hh p : Int32) (f : own_N hh 8) : own_T hh (((1 : Int32) <<< (hh &&& 31)) ||| (p &&& (((1 : Int32) <<< (hh &&& 31)) - (1 : Int32)))) := by
  obtain ⟨n, hn, rfl⟩ := f
  have e := Jvm.Kit.i32_mask p (((1 : Int32) <<< (Int32.ofNat n &&& 31)) - (1 : Int32)) (k := n) (by omega) (own_m8 ⟨n, hn⟩)
  have hpos : (0 : Int) < 2 ^ n := Int.pow_pos (by decide)
  have hlt : p.toInt % 2 ^ n < 2 ^ n := Int.emod_lt_of_pos _ hpos
  have hge : 0 ≤ p.toInt % 2 ^ n := Int.emod_nonneg _ (Int.ne_of_gt hpos)
  obtain ⟨j, hj, ej⟩ : own_N (p &&& (((1 : Int32) <<< (Int32.ofNat n &&& 31)) - (1 : Int32))) (2 ^ n) := own_N_of (by rw [e]; exact hge) (by rw [e, Int.natCast_pow]; exact hlt)
  have := own_pow8 hn
  refine ⟨n, j, hn, hj, rfl, ?_⟩
  rw [ej]
  exact own_or8 ⟨n, hn⟩ ⟨j, by omega⟩ hj
theorem own_ranges {p1 p2 p3 p4 p5 p6 hh b2 b1 b0 s1 s2 kk : Int32} (h1 : hh = (p1 &&& (7 : Int32))) (h2 : b2 = (((1 : Int32) <<< (hh &&& 31)) ||| (p2 &&& (((1 : Int32) <<< (hh &&& 31)) - (1 : Int32))))) (h3 : b1 = (((p3.toUInt32 >>> ((8 : Int32) &&& 31).toUInt32).toInt32) &&& (255 : Int32))) (h4 : b0 = (p3 &&& (255 : Int32)))
    (h5 : s1 = ((p4 &&& (2147483647 : Int32)) % (33 : Int32))) (h6 : s2 = ((p5 &&& (2147483647 : Int32)) % (33 : Int32))) (h7 : kk = ((p6 &&& (2147483647 : Int32)) % (33 : Int32))) : own_N hh 8 ∧ own_T hh b2 ∧ own_N b1 256 ∧ own_N b0 256 ∧ own_N s1 33 ∧ own_N s2 33 ∧ own_N kk 33 := by
  have f : own_N hh 8 := by rw [h1]; exact own_7 p1
  refine ⟨f, ?_, ?_, ?_, ?_, ?_, ?_⟩
  · rw [h2]; exact own_b2 hh p2 f
  · rw [h3]; exact own_255 _
  · rw [h4]; exact own_255 _
  · rw [h5]; exact own_rem _
  · rw [h6]; exact own_rem _
  · rw [h7]; exact own_rem _
theorem own_tab1 : ∀ n : Fin 256, (nar .byte ((Int32.ofNat n.val).toInt8.toInt32) &&& (255 : Int32)) = Int32.ofNat n.val := by decide +kernel
theorem own_tab2 : ∀ n : Fin 256, 1 ≤ n.val → ¬ nar .byte ((Int32.ofNat n.val).toInt8.toInt32) = (0 : Int32) ∧ (0 : Int32) < Int32.ofNat n.val ∧ Int32.ofNat n.val < (256 : Int32) ∧ Int32.ofNat n.val < (65536 : Int32) := by decide +kernel
theorem own_byte {b : Int32} (f : own_N b 256) : (nar .byte (b.toInt8.toInt32) &&& (255 : Int32)) = b := by
  obtain ⟨n, hn, rfl⟩ := f; exact own_tab1 ⟨n, hn⟩
theorem own_top {hh b2 : Int32} (fh : own_N hh 8) (f : own_T hh b2) : (nar .byte (b2.toInt8.toInt32) &&& (255 : Int32)) = b2 ∧ ¬ nar .byte (b2.toInt8.toInt32) = (0 : Int32) ∧ (0 : Int32) < b2 ∧ b2 < (256 : Int32) ∧ b2 < (65536 : Int32) := by
  obtain ⟨n, j, hn, hj, -, rfl⟩ := f
  have h1 := own_pow8 hn
  have h2 : 1 ≤ 2 ^ n := Nat.one_le_two_pow
  exact ⟨own_tab1 ⟨2 ^ n + j, by omega⟩, own_tab2 ⟨2 ^ n + j, by omega⟩ (by show 1 ≤ 2 ^ n + j; omega)⟩
theorem own_tab3 : ∀ n : Fin 8, ∀ j : Fin 128, j.val < 2 ^ n.val → (31 : Int32) - own_nlz (Int32.ofNat (2 ^ n.val + j.val)) = Int32.ofNat n.val := by decide +kernel
theorem own_bits {hh b2 : Int32} (fh : own_N hh 8) (f : own_T hh b2) : (31 : Int32) - own_nlz b2 = hh := by
  obtain ⟨n, j, hn, hj, rfl, rfl⟩ := f
  have h1 := own_pow8 hn
  exact own_tab3 ⟨n, hn⟩ ⟨j, by omega⟩ hj
theorem own_smod : ∀ k : Fin 64, ((Int32.ofNat k.val &&& 0x3f).toInt64).toBitVec.smod 64 = BitVec.ofNat 64 k.val := by decide +kernel
theorem own_shlB (x : Int64) {k : Nat} (hk : k < 64) : (x <<< (Int32.ofNat k &&& 0x3f).toInt64).toBitVec = x.toBitVec <<< k := by
  show x.toBitVec <<< (((Int32.ofNat k &&& 0x3f).toInt64).toBitVec.smod 64) = _
  rw [own_smod ⟨k, hk⟩, BitVec.shiftLeft_eq', BitVec.toNat_ofNat, Nat.mod_eq_of_lt (by omega)]
theorem own_cont_eq {hh b2 b1 b0 w1 w0 : Int32} (f2 : own_T hh b2) (y1 : (w1 &&& (255 : Int32)) = b1) (y0 : (w0 &&& (255 : Int32)) = b0) : own_cont (b2.toInt64) w1 w0 = own_v b2 b1 b0 := by
  rw [own_cont, own_v, y1, y0]
  have e8 : ∀ x : Int64, (x <<< ((8 : Int32) &&& 0x3f).toInt64).toBitVec = x.toBitVec <<< 8 := fun x => own_shlB x (k := 8) (by decide)
  have e16 : ∀ x : Int64, (x <<< ((16 : Int32) &&& 0x3f).toInt64).toBitVec = x.toBitVec <<< 16 := fun x => own_shlB x (k := 16) (by decide)
  apply Int64.toBitVec_inj.mp
  rw [Int64.toBitVec_or, Int64.toBitVec_or, Int64.toBitVec_or, e8, e8, e16, Int64.toBitVec_or, e8, BitVec.shiftLeft_or_distrib, ← BitVec.shiftLeft_add]
theorem own_t {x : Int32} : ((x + (8 : Int32)) + (8 : Int32)) = x + (16 : Int32) := by rw [Int32.add_assoc]; rfl
theorem own_tab4 : ∀ n : Fin 8, (¬ (56 : Int32) < Int32.ofNat n.val) ∧ (¬ (56 : Int32) < (Int32.ofNat n.val + (8 : Int32))) ∧ (¬ (56 : Int32) < ((Int32.ofNat n.val + (8 : Int32)) + (8 : Int32))) ∧ Int32.ofNat n.val < (32 : Int32) ∧ ((Int32.ofNat n.val + (8 : Int32)) + (8 : Int32)) < (32 : Int32) := by decide +kernel
theorem own_small {hh : Int32} (f : own_N hh 8) : (¬ (56 : Int32) < hh) ∧ (¬ (56 : Int32) < (hh + (8 : Int32))) ∧ (¬ (56 : Int32) < ((hh + (8 : Int32)) + (8 : Int32))) ∧ hh < (32 : Int32) ∧ ((hh + (8 : Int32)) + (8 : Int32)) < (32 : Int32) := by
  obtain ⟨n, hn, rfl⟩ := f; exact own_tab4 ⟨n, hn⟩
theorem own_lt {a b : Nat} (ha : a < 2 ^ 31) (hb : b < 2 ^ 31) : Int32.ofNat a < Int32.ofNat b ↔ a < b := by
  rw [Int32.lt_iff_toInt_lt, Int32.toInt_ofNat_small ha, Int32.toInt_ofNat_small hb]; omega
theorem own_eq {a b : Nat} (ha : a < 2 ^ 31) (hb : b < 2 ^ 31) : Int32.ofNat a = Int32.ofNat b ↔ a = b := by
  rw [← Int32.toInt_inj, Int32.toInt_ofNat_small ha, Int32.toInt_ofNat_small hb]; omega
theorem own_add (a b : Nat) : Int32.ofNat a + Int32.ofNat b = Int32.ofNat (a + b) := (Int32.ofNat_add a b).symm
theorem own_sub {a b : Nat} (h : b ≤ a) (ha : a < 2 ^ 31) : Int32.ofNat a - Int32.ofNat b = Int32.ofNat (a - b) := by
  have h1 : (Int32.ofNat a).toInt = a := Int32.toInt_ofNat_small ha
  have h2 : (Int32.ofNat b).toInt = b := Int32.toInt_ofNat_small (by omega)
  have h3 : (Int32.ofNat (a - b)).toInt = ((a - b : Nat) : Int) := Int32.toInt_ofNat_small (by omega)
  apply Int32.toInt_inj.mp
  rw [Jvm.Kit.i32_sub (by rw [h1, h2]; omega) (by rw [h1, h2]; omega), h1, h2, h3]; omega
theorem own_64 {k : Nat} (h : k < 2 ^ 31) : (Int32.ofNat k).toInt64 = Int64.ofNat k := by
  apply Int64.toInt_inj.mp
  rw [Int32.toInt_toInt64, Int32.toInt_ofNat_small h, Int64.toInt_ofNat_of_lt (by omega)]
theorem own_sbN {a n : Nat} (ha : a < 2 ^ 31) (hn : n < 2 ^ 31) : own_sb (Int32.ofNat a) (Int32.ofNat n) = Int32.ofNat (a - n) := by
  unfold own_sb
  by_cases q : a < n
  · rw [if_pos ((own_lt ha hn).mpr q), show a - n = 0 by omega]; rfl
  · rw [if_neg (mt (own_lt ha hn).mp q), own_sub (by omega) ha]
theorem own_spN {q a n : Nat} (ha : a < 2 ^ 31) (hn : n < 2 ^ 31) : own_sp (Int64.ofNat q) (Int32.ofNat a) (Int32.ofNat n) = Int64.ofNat (q + (n - a)) := by
  unfold own_sp
  by_cases h : a < n
  · rw [if_pos ((own_lt ha hn).mpr h), own_sub (by omega) hn, own_64 (by omega), Int64.ofNat_add]
  · rw [if_neg (mt (own_lt ha hn).mp h), show n - a = 0 by omega]; rfl
theorem own_b56 {hh s1 s2 : Int32} (fh : own_N hh 8) (f1 : own_N s1 33) (f2 : own_N s2 33) : ¬ (56 : Int32) < own_sb (own_sb (hh + (16 : Int32)) s1) s2 := by
  obtain ⟨n, hn, rfl⟩ := fh
  obtain ⟨a, ha, rfl⟩ := f1
  obtain ⟨b, hb, rfl⟩ := f2
  have e16 : Int32.ofNat n + (16 : Int32) = Int32.ofNat (n + 16) := own_add n 16
  rw [e16, own_sbN (by omega) (by omega), own_sbN (by omega) (by omega)]
  exact mt (own_lt (a := 56) (by omega) (by omega)).mp (by omega)
theorem own_psN {n a b : Nat} (hn : n < 8) (ha : a < 33) (hb : b < 33) : own_sp (own_sp (0 : Int64) (Int32.ofNat n + (16 : Int32)) (Int32.ofNat a)) (own_sb (Int32.ofNat n + (16 : Int32)) (Int32.ofNat a)) (Int32.ofNat b) = Int64.ofNat (a + b - (n + 16)) := by
  have e16 : Int32.ofNat n + (16 : Int32) = Int32.ofNat (n + 16) := own_add n 16
  have e0 : (0 : Int64) = Int64.ofNat 0 := rfl
  rw [e16, e0, own_spN (by omega) (by omega), own_sbN (by omega) (by omega), own_spN (by omega) (by omega)]
  congr 1
  omega
theorem own_lt64 {a b : Nat} (ha : a < 2 ^ 63) (hb : b < 2 ^ 63) : Int64.ofNat a < Int64.ofNat b ↔ a < b := by
  rw [Int64.lt_iff_toInt_lt, Int64.toInt_ofNat_of_lt ha, Int64.toInt_ofNat_of_lt hb]; omega
theorem own_eq64 {a b : Nat} (ha : a < 2 ^ 63) (hb : b < 2 ^ 63) : Int64.ofNat a = Int64.ofNat b ↔ a = b := by
  rw [← Int64.toInt_inj, Int64.toInt_ofNat_of_lt ha, Int64.toInt_ofNat_of_lt hb]; omega
theorem own_k2 {hh s1 s2 ov tt us ro : Int32} (fh : own_N hh 8) (f1 : own_N s1 33) (f2 : own_N s2 33) (hov : ov = own_ov (own_sp (own_sp (0 : Int64) (hh + (16 : Int32)) s1) (own_sb (hh + (16 : Int32)) s1) s2)) (htt : tt = hh + (16 : Int32)) (hus : us = s1 + s2) (hro : ro = (if tt < us then (1 : Int32) else (0 : Int32))) : ov = ro := by
  obtain ⟨n, hn, rfl⟩ := fh
  obtain ⟨a, ha, rfl⟩ := f1
  obtain ⟨b, hb, rfl⟩ := f2
  have e16 : Int32.ofNat n + (16 : Int32) = Int32.ofNat (n + 16) := own_add n 16
  have e0 : (0 : Int64) = Int64.ofNat 0 := rfl
  rw [own_psN hn ha hb] at hov
  rw [e16] at htt
  rw [own_add] at hus
  subst hov htt hus hro
  unfold own_ov
  have q : ((0 : Int32) < lcmpW (Int64.ofNat (a + b - (n + 16))) (0 : Int64)) ↔ Int32.ofNat (n + 16) < Int32.ofNat (a + b) := by
    rw [lw_gt, e0, own_lt64 (by omega) (by omega), own_lt (by omega) (by omega)]; omega
  by_cases h : Int32.ofNat (n + 16) < Int32.ofNat (a + b)
  · rw [if_pos h, if_pos (q.mpr h)]
  · rw [if_neg h, if_neg (mt q.mp h)]
theorem own_k3 {hh s1 s2 cs tt us rc : Int32} (fh : own_N hh 8) (f1 : own_N s1 33) (f2 : own_N s2 33) (hcs : cs = own_cons (own_sb (own_sb (hh + (16 : Int32)) s1) s2) (0 : Int32) (0 : Int32) (own_sp (own_sp (0 : Int64) (hh + (16 : Int32)) s1) (own_sb (hh + (16 : Int32)) s1) s2)) (htt : tt = hh + (16 : Int32)) (hus : us = s1 + s2) (hrc : rc = (if us = tt then (1 : Int32) else (0 : Int32))) : cs = rc := by
  obtain ⟨n, hn, rfl⟩ := fh
  obtain ⟨a, ha, rfl⟩ := f1
  obtain ⟨b, hb, rfl⟩ := f2
  have e16 : Int32.ofNat n + (16 : Int32) = Int32.ofNat (n + 16) := own_add n 16
  have e0 : (0 : Int64) = Int64.ofNat 0 := rfl
  have z0 : (0 : Int32) = Int32.ofNat 0 := rfl
  rw [own_psN hn ha hb, e16, own_sbN (by omega) (by omega), own_sbN (by omega) (by omega)] at hcs
  rw [e16] at htt
  rw [own_add] at hus
  subst hcs htt hus hrc
  unfold own_cons
  rw [if_pos (rfl : (0 : Int32) = 0)]
  have q1 : Int32.ofNat (n + 16 - a - b) = (0 : Int32) ↔ n + 16 - a - b = 0 := by rw [z0]; exact own_eq (by omega) (by omega)
  have q2 : lcmpW (Int64.ofNat (a + b - (n + 16))) (0 : Int64) = (0 : Int32) ↔ a + b - (n + 16) = 0 := by rw [lw_eq, e0]; exact own_eq64 (by omega) (by omega)
  have q3 : Int32.ofNat (a + b) = Int32.ofNat (n + 16) ↔ a + b = n + 16 := own_eq (by omega) (by omega)
  by_cases h : a + b = n + 16
  · rw [if_pos (q1.mpr (by omega)), if_pos (q2.mpr (by omega)), if_pos (q3.mpr h)]
  · rw [if_neg (mt q3.mp h)]
    by_cases h1 : n + 16 - a - b = 0
    · rw [if_pos (q1.mpr h1), if_neg (mt q2.mp (by omega))]
    · rw [if_neg (mt q1.mp h1)]
theorem own_nA (c t b k : Nat) (h1 : k ≤ b) (h2 : b ≤ t) : (c / 2 ^ (b - k)) % 2 ^ k = ((c % 2 ^ t) * 2 ^ 32 / 2 ^ (32 + b - k)) % 2 ^ k := by
  have e : 2 ^ (32 + b - k) = 2 ^ (b - k) * 2 ^ 32 := by rw [← Nat.pow_add]; congr 1; omega
  rw [e, Nat.mul_div_mul_right _ _ (Nat.two_pow_pos 32)]
  apply Nat.eq_of_testBit_eq
  intro i
  simp only [Nat.testBit_mod_two_pow, Nat.testBit_div_two_pow]
  by_cases hi : i < k
  · have : i + (b - k) < t := by omega
    simp [hi, this]
  · simp [hi]
theorem own_nB (c t b k : Nat) (h1 : b < k) (h2 : b ≤ t) (h3 : k ≤ 32) : (c % 2 ^ b) * 2 ^ (k - b) = ((c % 2 ^ t) * 2 ^ 32 / 2 ^ (32 + b - k)) % 2 ^ k := by
  have e : 2 ^ 32 = 2 ^ (k - b) * 2 ^ (32 + b - k) := by rw [← Nat.pow_add]; congr 1; omega
  have e2 : 2 ^ k = 2 ^ b * 2 ^ (k - b) := by rw [← Nat.pow_add]; congr 1; omega
  rw [e, ← Nat.mul_assoc, Nat.mul_div_cancel _ (Nat.two_pow_pos _), e2, Nat.mul_mod_mul_right, Nat.mod_mod_of_dvd _ (Nat.pow_dvd_pow 2 h2)]
theorem own_maskN : ∀ k : Fin 64, (own_mask (Int32.ofNat k.val)).toBitVec.toNat = 2 ^ k.val - 1 := by decide +kernel
theorem own_andN (x : Int64) {k : Nat} (hk : k < 64) : (x &&& own_mask (Int32.ofNat k)).toBitVec.toNat = x.toBitVec.toNat % 2 ^ k := by
  rw [Int64.toBitVec_and, BitVec.toNat_and, own_maskN ⟨k, hk⟩, Nat.and_two_pow_sub_one_eq_mod]
theorem own_shlN (x : Int64) {k : Nat} (hk : k < 64) : (x <<< (Int32.ofNat k &&& 0x3f).toInt64).toBitVec.toNat = x.toBitVec.toNat * 2 ^ k % 2 ^ 64 := by
  rw [own_shlB x hk, BitVec.toNat_shiftLeft, Nat.shiftLeft_eq]
theorem own_u64 : ∀ k : Fin 64, ((Int32.ofNat k.val &&& 0x3f).toInt64.toUInt64).toNat = k.val := by decide +kernel
theorem own_shr0 (x : Int64) (n : UInt64) {k : Nat} (hn : n.toNat = k) (hk : k < 64) : ((x.toUInt64 >>> n).toInt64).toBitVec.toNat = x.toBitVec.toNat / 2 ^ k := by
  simp only [UInt64.toBitVec_toInt64, UInt64.toBitVec_shiftRight, Int64.toBitVec_toUInt64]
  simp [BitVec.toNat_ushiftRight, Nat.shiftRight_eq_div_pow, hn, Nat.mod_eq_of_lt hk]
theorem own_shrN (x : Int64) {k : Nat} (hk : k < 64) : ((x.toUInt64 >>> (Int32.ofNat k &&& 0x3f).toInt64.toUInt64).toInt64).toBitVec.toNat = x.toBitVec.toNat / 2 ^ k :=
  own_shr0 x _ (own_u64 ⟨k, hk⟩) hk
theorem own_ext {x y : Int64} (h : x.toBitVec.toNat = y.toBitVec.toNat) : x = y := Int64.toBitVec_inj.mp (BitVec.eq_of_toNat_eq h)
theorem own_k1 {hh b2 b1 b0 s1 s2 kk got tt us : Int32} {vv ss wn : Int64} (fh : own_N hh 8) (f2 : own_T hh b2) (f1 : own_N b1 256) (f0 : own_N b0 256) (fs1 : own_N s1 33) (fs2 : own_N s2 33) (fk : own_N kk 33)
    (hgot : got = own_pk (own_v b2 b1 b0) (own_sb (own_sb (hh + (16 : Int32)) s1) s2) kk) (htt : tt = hh + (16 : Int32)) (hvv : vv = own_v b2 b1 b0) (hss : ss = (vv &&& (((1 : Int64) <<< (tt &&& 0x3f).toInt64) - (1 : Int64)))) (hus : us = s1 + s2)
    (hwn : wn = (if us < tt then ((((ss <<< ((32 : Int32) &&& 0x3f).toInt64).toUInt64 >>> ((((tt + (32 : Int32)) - us) - kk) &&& 0x3f).toInt64.toUInt64).toInt64) &&& (((1 : Int64) <<< (kk &&& 0x3f).toInt64) - (1 : Int64))) else (0 : Int64))) : got = wn.toInt32 := by
  rw [← hvv] at hgot
  clear hvv f2 f1 f0
  obtain ⟨n, hn, rfl⟩ := fh
  obtain ⟨a, ha, rfl⟩ := fs1
  obtain ⟨b, hb, rfl⟩ := fs2
  obtain ⟨k, hk, rfl⟩ := fk
  have e16 : Int32.ofNat n + (16 : Int32) = Int32.ofNat (n + 16) := own_add n 16
  rw [e16, own_sbN (by omega) (by omega), own_sbN (by omega) (by omega)] at hgot
  rw [e16] at htt
  rw [own_add] at hus
  subst htt hus
  have hss' : ss = vv &&& own_mask (Int32.ofNat (n + 16)) := hss
  have es : ss.toBitVec.toNat = vv.toBitVec.toNat % 2 ^ (n + 16) := by rw [hss', own_andN vv (by omega)]
  have hwn' : wn = (if Int32.ofNat (a + b) < Int32.ofNat (n + 16) then ((((ss <<< (Int32.ofNat 32 &&& 0x3f).toInt64).toUInt64 >>> ((((Int32.ofNat (n + 16) + Int32.ofNat 32) - Int32.ofNat (a + b)) - Int32.ofNat k) &&& 0x3f).toInt64.toUInt64).toInt64) &&& own_mask (Int32.ofNat k)) else (0 : Int64)) := hwn
  clear hwn hss hss'
  obtain ⟨B, hB⟩ : ∃ B : Nat, B = n + 16 - a - b := ⟨_, rfl⟩
  rw [← hB] at hgot
  have ew : wn.toBitVec.toNat = if a + b < n + 16 then ((vv.toBitVec.toNat % 2 ^ (n + 16)) * 2 ^ 32 / 2 ^ (32 + B - k)) % 2 ^ k else 0 := by
    by_cases q : a + b < n + 16
    · rw [if_pos q, hwn', if_pos ((own_lt (by omega) (by omega)).mpr q), own_add, own_sub (by omega) (by omega), own_sub (by omega) (by omega), own_andN _ (by omega), own_shrN _ (by omega), own_shlN _ (by omega), es]
      have lt : vv.toBitVec.toNat % 2 ^ (n + 16) * 2 ^ 32 < 2 ^ 64 := by
        have h1 : vv.toBitVec.toNat % 2 ^ (n + 16) < 2 ^ (n + 16) := Nat.mod_lt _ (Nat.two_pow_pos _)
        have h2 : 2 ^ (n + 16) ≤ 2 ^ 23 := Nat.pow_le_pow_right (by decide) (by omega)
        omega
      rw [Nat.mod_eq_of_lt lt, show n + 16 + 32 - (a + b) - k = 32 + B - k by omega]
    · rw [if_neg q, hwn', if_neg (mt (own_lt (by omega) (by omega)).mp q)]; rfl
  rw [hgot]
  unfold own_pk
  by_cases q : B < k
  · rw [if_pos ((own_lt (by omega) (by omega)).mpr q)]
    refine congrArg Int64.toInt32 (own_ext ?_)
    rw [own_sub (by omega) (by omega), own_shlN _ (by omega), own_andN _ (by omega), ew]
    have lt : vv.toBitVec.toNat % 2 ^ B * 2 ^ (k - B) < 2 ^ 64 := by
      have h1 : vv.toBitVec.toNat % 2 ^ B < 2 ^ B := Nat.mod_lt _ (Nat.two_pow_pos _)
      have h2 : vv.toBitVec.toNat % 2 ^ B * 2 ^ (k - B) < 2 ^ B * 2 ^ (k - B) := Nat.mul_lt_mul_of_pos_right h1 (Nat.two_pow_pos _)
      rw [← Nat.pow_add] at h2
      have h3 : 2 ^ (B + (k - B)) ≤ 2 ^ 32 := Nat.pow_le_pow_right (by decide) (by omega)
      omega
    rw [Nat.mod_eq_of_lt lt]
    by_cases r : a + b < n + 16
    · rw [if_pos r]; exact own_nB _ _ _ _ q (by omega) (by omega)
    · have : B = 0 := by omega
      subst this
      rw [if_neg r, Nat.pow_zero, Nat.mod_one, Nat.zero_mul]
  · rw [if_neg (mt (own_lt (by omega) (by omega)).mp q)]
    refine congrArg Int64.toInt32 (own_ext ?_)
    rw [own_sub (by omega) (by omega), own_andN _ (by omega), own_shrN _ (by omega), ew]
    by_cases r : a + b < n + 16
    · rw [if_pos r]; exact own_nA _ _ _ _ (by omega) (by omega)
    · have hk0 : k = 0 := by omega
      subst hk0
      rw [if_neg r, Nat.pow_zero, Nat.mod_one]
theorem pn_0 : plainName "com/example/segmented_log/segmentedlog/format/BackwardBitsSkipPinLaw" = true := by first | (simp [plainName, overriddenIn]; done) | decide +kernel
theorem ef_0 (m : MethodId) (p1 : Int32) (p2 : Int32) (p3 : Int32) (p4 : Int32) (p5 : Int32) (p6 : Int32) : entryFrame m #[(.int p1), (.int p2), (.int p3), (.int p4), (.int p5), (.int p6)] maxLocals = mkF m 0 #[.val (.int p1), .val (.int p2), .val (.int p3), .val (.int p4), .val (.int p5), .val (.int p6), .unset, .unset, .unset, .unset, .unset, .unset, .unset, .unset, .unset, .unset, .unset, .unset, .unset, .unset, .unset, .unset, .unset, .unset, .unset, .unset] [] := by first | (simp [entryFrame, mkF, argsToLocals, Value.category, maxLocals]; done) | rfl
def Q0 (Z : State) (p1 p2 p3 p4 p5 p6 : Int32) (h0 : Heap) (n0 : Nat) (v : Option Value) (h : Heap) (L : List Loc) : Prop := v = some (.int 1) ∧ Fr n0 L
theorem pd_3 : parseMethodDescriptor "([BII)V" = some ⟨[(.array .byte), .int, .int], none⟩ := by decide +kernel
theorem pd_4 : parseMethodDescriptor "(I)V" = some ⟨[.int], none⟩ := by decide +kernel
theorem pd_5 : parseMethodDescriptor "()Z" = some ⟨[], some .boolean⟩ := by decide +kernel
set_option maxRecDepth 65536 in
set_option maxHeartbeats 40000000 in
theorem rm0 (l : Launch) (Z : State) (a0 : Array Value) (hw : ∀ d ∈ tables_1, d.before a0 Z = true) (ws : List Jvm.Cond) (p1 p2 p3 p4 p5 p6 : Int32) (h0 : Heap) (n0 : Nat) (Z0 : n0 ≤ h0.size)  :
    MetFree l x (head1 (Jvm.Cond.code x code maxLocals ret :: ws) room_1) (fun a U => a = #[(.int p1), (.int p2), (.int p3), (.int p4), (.int p5), (.int p6)] ∧ Z.Warmed39 U.vm ∧ U.heap = h0) (fun _ _ _ _ _ => True) (fun _ U oU U' => ∃ v L, oU = .returned v ∧ Q0 Z p1 p2 p3 p4 p5 p6 h0 n0 v U'.heap L ∧ FrameEnd U oU U' L room_1.cells room_1.slots) := by
  refine MetFree.of_bodySF (plainFor_of_name pn_0) hisR ?_
  intro p e s m args below meth c s₁ Bd hml0 hP hK
  obtain ⟨rfl, hZ, hh⟩ := hP
  have hx := Bd.exec
  have hby := Bd.bytes
  have hml : c.maxLocals = 26 := hml0
  have hown : s.vm.findClass "com/example/segmented_log/segmentedlog/format/BackwardBitsSkipPinLaw" = some m.cls := findClass_of_methodNamed Bd.named
  have hnm := (name_of_methodNamed Bd.named Bd.method).1
  have X0 : Stand p l e room_1 s m #[(.int p1), (.int p2), (.int p3), (.int p4), (.int p5), (.int p6)] below meth c s₁ [] 0 0 := Stand.of_body Bd
  have e0 : s₁.heap = h0 := by rw [← hh, Bd.state]; rfl
  have N0 := Fr.nil n0
  have go0 : ∀ t, Steps p.tables e below (s₁.setTop (mkF m 0 #[.val (.int p1), .val (.int p2), .val (.int p3), .val (.int p4), .val (.int p5), .val (.int p6), .unset, .unset, .unset, .unset, .unset, .unset, .unset, .unset, .unset, .unset, .unset, .unset, .unset, .unset, .unset, .unset, .unset, .unset, .unset, .unset] [])) t → Steps p.tables e below (s₁.setTop (entryFrame m #[(.int p1), (.int p2), (.int p3), (.int p4), (.int p5), (.int p6)] maxLocals)) t := fun t k => castTop (ef_0 m p1 p2 p3 p4 p5 p6) k
  have go1 : ∀ t, Steps p.tables e below (s₁.setTop (mkF m 6 #[.val (.int p1), .val (.int p2), .val (.int p3), .val (.int p4), .val (.int p5), .val (.int p6), .val (.int (p1 &&& (7 : Int32))), .unset, .unset, .unset, .unset, .unset, .unset, .unset, .unset, .unset, .unset, .unset, .unset, .unset, .unset, .unset, .unset, .unset, .unset, .unset] [])) t → Steps p.tables e below (s₁.setTop (entryFrame m #[(.int p1), (.int p2), (.int p3), (.int p4), (.int p5), (.int p6)] maxLocals)) t := by
    intro t kt
    refine go0 t ?_
    show Steps p.tables e below (s₁.setTop (mkF m 0 #[.val (.int p1), .val (.int p2), .val (.int p3), .val (.int p4), .val (.int p5), .val (.int p6), .unset, .unset, .unset, .unset, .unset, .unset, .unset, .unset, .unset, .unset, .unset, .unset, .unset, .unset, .unset, .unset, .unset, .unset, .unset, .unset] [])) _
    refine XS.iloadN X0.here hx rfl (hb hby at_0) rfl ?_
    show Steps p.tables e below (s₁.setTop (mkF m 1 #[.val (.int p1), .val (.int p2), .val (.int p3), .val (.int p4), .val (.int p5), .val (.int p6), .unset, .unset, .unset, .unset, .unset, .unset, .unset, .unset, .unset, .unset, .unset, .unset, .unset, .unset, .unset, .unset, .unset, .unset, .unset, .unset] [(.int p1)])) _
    refine XS.bipush X0.here hx rfl (hb hby at_1) ?_
    show Steps p.tables e below (s₁.setTop (mkF m 3 #[.val (.int p1), .val (.int p2), .val (.int p3), .val (.int p4), .val (.int p5), .val (.int p6), .unset, .unset, .unset, .unset, .unset, .unset, .unset, .unset, .unset, .unset, .unset, .unset, .unset, .unset, .unset, .unset, .unset, .unset, .unset, .unset] [(.int (7 : Int32)), (.int p1)])) _
    refine XS.iand X0.here hx rfl (hb hby at_3) rfl ?_
    show Steps p.tables e below (s₁.setTop (mkF m 4 #[.val (.int p1), .val (.int p2), .val (.int p3), .val (.int p4), .val (.int p5), .val (.int p6), .unset, .unset, .unset, .unset, .unset, .unset, .unset, .unset, .unset, .unset, .unset, .unset, .unset, .unset, .unset, .unset, .unset, .unset, .unset, .unset] [(.int (p1 &&& (7 : Int32)))])) _
    refine XS.istore X0.here hx rfl (hb hby at_4) rfl (l' := #[.val (.int p1), .val (.int p2), .val (.int p3), .val (.int p4), .val (.int p5), .val (.int p6), .val (.int (p1 &&& (7 : Int32))), .unset, .unset, .unset, .unset, .unset, .unset, .unset, .unset, .unset, .unset, .unset, .unset, .unset, .unset, .unset, .unset, .unset, .unset, .unset]) rfl ?_
    exact kt
  obtain ⟨hh, hhh⟩ : ∃ z : Int32, z = (p1 &&& (7 : Int32)) := ⟨_, rfl⟩
  rw [← hhh] at go1
  have go2 : ∀ t, Steps p.tables e below (s₁.setTop (mkF m 21 #[.val (.int p1), .val (.int p2), .val (.int p3), .val (.int p4), .val (.int p5), .val (.int p6), .val (.int hh), .val (.int (((1 : Int32) <<< (hh &&& 31)) ||| (p2 &&& (((1 : Int32) <<< (hh &&& 31)) - (1 : Int32))))), .unset, .unset, .unset, .unset, .unset, .unset, .unset, .unset, .unset, .unset, .unset, .unset, .unset, .unset, .unset, .unset, .unset, .unset] [])) t → Steps p.tables e below (s₁.setTop (entryFrame m #[(.int p1), (.int p2), (.int p3), (.int p4), (.int p5), (.int p6)] maxLocals)) t := by
    intro t kt
    refine go1 t ?_
    show Steps p.tables e below (s₁.setTop (mkF m 6 #[.val (.int p1), .val (.int p2), .val (.int p3), .val (.int p4), .val (.int p5), .val (.int p6), .val (.int hh), .unset, .unset, .unset, .unset, .unset, .unset, .unset, .unset, .unset, .unset, .unset, .unset, .unset, .unset, .unset, .unset, .unset, .unset, .unset] [])) _
    refine XS.iconst X0.here hx rfl (hb hby at_6) ?_
    show Steps p.tables e below (s₁.setTop (mkF m 7 #[.val (.int p1), .val (.int p2), .val (.int p3), .val (.int p4), .val (.int p5), .val (.int p6), .val (.int hh), .unset, .unset, .unset, .unset, .unset, .unset, .unset, .unset, .unset, .unset, .unset, .unset, .unset, .unset, .unset, .unset, .unset, .unset, .unset] [(.int (1 : Int32))])) _
    refine XS.iload X0.here hx rfl (hb hby at_7) rfl ?_
    show Steps p.tables e below (s₁.setTop (mkF m 9 #[.val (.int p1), .val (.int p2), .val (.int p3), .val (.int p4), .val (.int p5), .val (.int p6), .val (.int hh), .unset, .unset, .unset, .unset, .unset, .unset, .unset, .unset, .unset, .unset, .unset, .unset, .unset, .unset, .unset, .unset, .unset, .unset, .unset] [(.int hh), (.int (1 : Int32))])) _
    refine XS.ishl X0.here hx rfl (hb hby at_9) rfl ?_
    show Steps p.tables e below (s₁.setTop (mkF m 10 #[.val (.int p1), .val (.int p2), .val (.int p3), .val (.int p4), .val (.int p5), .val (.int p6), .val (.int hh), .unset, .unset, .unset, .unset, .unset, .unset, .unset, .unset, .unset, .unset, .unset, .unset, .unset, .unset, .unset, .unset, .unset, .unset, .unset] [(.int ((1 : Int32) <<< (hh &&& 31)))])) _
    refine XS.iloadN X0.here hx rfl (hb hby at_10) rfl ?_
    show Steps p.tables e below (s₁.setTop (mkF m 11 #[.val (.int p1), .val (.int p2), .val (.int p3), .val (.int p4), .val (.int p5), .val (.int p6), .val (.int hh), .unset, .unset, .unset, .unset, .unset, .unset, .unset, .unset, .unset, .unset, .unset, .unset, .unset, .unset, .unset, .unset, .unset, .unset, .unset] [(.int p2), (.int ((1 : Int32) <<< (hh &&& 31)))])) _
    refine XS.iconst X0.here hx rfl (hb hby at_11) ?_
    show Steps p.tables e below (s₁.setTop (mkF m 12 #[.val (.int p1), .val (.int p2), .val (.int p3), .val (.int p4), .val (.int p5), .val (.int p6), .val (.int hh), .unset, .unset, .unset, .unset, .unset, .unset, .unset, .unset, .unset, .unset, .unset, .unset, .unset, .unset, .unset, .unset, .unset, .unset, .unset] [(.int (1 : Int32)), (.int p2), (.int ((1 : Int32) <<< (hh &&& 31)))])) _
    refine XS.iload X0.here hx rfl (hb hby at_12) rfl ?_
    show Steps p.tables e below (s₁.setTop (mkF m 14 #[.val (.int p1), .val (.int p2), .val (.int p3), .val (.int p4), .val (.int p5), .val (.int p6), .val (.int hh), .unset, .unset, .unset, .unset, .unset, .unset, .unset, .unset, .unset, .unset, .unset, .unset, .unset, .unset, .unset, .unset, .unset, .unset, .unset] [(.int hh), (.int (1 : Int32)), (.int p2), (.int ((1 : Int32) <<< (hh &&& 31)))])) _
    refine XS.ishl X0.here hx rfl (hb hby at_14) rfl ?_
    show Steps p.tables e below (s₁.setTop (mkF m 15 #[.val (.int p1), .val (.int p2), .val (.int p3), .val (.int p4), .val (.int p5), .val (.int p6), .val (.int hh), .unset, .unset, .unset, .unset, .unset, .unset, .unset, .unset, .unset, .unset, .unset, .unset, .unset, .unset, .unset, .unset, .unset, .unset, .unset] [(.int ((1 : Int32) <<< (hh &&& 31))), (.int p2), (.int ((1 : Int32) <<< (hh &&& 31)))])) _
    refine XS.iconst X0.here hx rfl (hb hby at_15) ?_
    show Steps p.tables e below (s₁.setTop (mkF m 16 #[.val (.int p1), .val (.int p2), .val (.int p3), .val (.int p4), .val (.int p5), .val (.int p6), .val (.int hh), .unset, .unset, .unset, .unset, .unset, .unset, .unset, .unset, .unset, .unset, .unset, .unset, .unset, .unset, .unset, .unset, .unset, .unset, .unset] [(.int (1 : Int32)), (.int ((1 : Int32) <<< (hh &&& 31))), (.int p2), (.int ((1 : Int32) <<< (hh &&& 31)))])) _
    refine XS.isub X0.here hx rfl (hb hby at_16) rfl ?_
    show Steps p.tables e below (s₁.setTop (mkF m 17 #[.val (.int p1), .val (.int p2), .val (.int p3), .val (.int p4), .val (.int p5), .val (.int p6), .val (.int hh), .unset, .unset, .unset, .unset, .unset, .unset, .unset, .unset, .unset, .unset, .unset, .unset, .unset, .unset, .unset, .unset, .unset, .unset, .unset] [(.int (((1 : Int32) <<< (hh &&& 31)) - (1 : Int32))), (.int p2), (.int ((1 : Int32) <<< (hh &&& 31)))])) _
    refine XS.iand X0.here hx rfl (hb hby at_17) rfl ?_
    show Steps p.tables e below (s₁.setTop (mkF m 18 #[.val (.int p1), .val (.int p2), .val (.int p3), .val (.int p4), .val (.int p5), .val (.int p6), .val (.int hh), .unset, .unset, .unset, .unset, .unset, .unset, .unset, .unset, .unset, .unset, .unset, .unset, .unset, .unset, .unset, .unset, .unset, .unset, .unset] [(.int (p2 &&& (((1 : Int32) <<< (hh &&& 31)) - (1 : Int32)))), (.int ((1 : Int32) <<< (hh &&& 31)))])) _
    refine XS.ior X0.here hx rfl (hb hby at_18) rfl ?_
    show Steps p.tables e below (s₁.setTop (mkF m 19 #[.val (.int p1), .val (.int p2), .val (.int p3), .val (.int p4), .val (.int p5), .val (.int p6), .val (.int hh), .unset, .unset, .unset, .unset, .unset, .unset, .unset, .unset, .unset, .unset, .unset, .unset, .unset, .unset, .unset, .unset, .unset, .unset, .unset] [(.int (((1 : Int32) <<< (hh &&& 31)) ||| (p2 &&& (((1 : Int32) <<< (hh &&& 31)) - (1 : Int32)))))])) _
    refine XS.istore X0.here hx rfl (hb hby at_19) rfl (l' := #[.val (.int p1), .val (.int p2), .val (.int p3), .val (.int p4), .val (.int p5), .val (.int p6), .val (.int hh), .val (.int (((1 : Int32) <<< (hh &&& 31)) ||| (p2 &&& (((1 : Int32) <<< (hh &&& 31)) - (1 : Int32))))), .unset, .unset, .unset, .unset, .unset, .unset, .unset, .unset, .unset, .unset, .unset, .unset, .unset, .unset, .unset, .unset, .unset, .unset]) rfl ?_
    exact kt
  obtain ⟨b2, hb2⟩ : ∃ z : Int32, z = (((1 : Int32) <<< (hh &&& 31)) ||| (p2 &&& (((1 : Int32) <<< (hh &&& 31)) - (1 : Int32)))) := ⟨_, rfl⟩
  rw [← hb2] at go2
  have go3 : ∀ t, Steps p.tables e below (s₁.setTop (mkF m 31 #[.val (.int p1), .val (.int p2), .val (.int p3), .val (.int p4), .val (.int p5), .val (.int p6), .val (.int hh), .val (.int b2), .val (.int (((p3.toUInt32 >>> ((8 : Int32) &&& 31).toUInt32).toInt32) &&& (255 : Int32))), .unset, .unset, .unset, .unset, .unset, .unset, .unset, .unset, .unset, .unset, .unset, .unset, .unset, .unset, .unset, .unset, .unset] [])) t → Steps p.tables e below (s₁.setTop (entryFrame m #[(.int p1), (.int p2), (.int p3), (.int p4), (.int p5), (.int p6)] maxLocals)) t := by
    intro t kt
    refine go2 t ?_
    show Steps p.tables e below (s₁.setTop (mkF m 21 #[.val (.int p1), .val (.int p2), .val (.int p3), .val (.int p4), .val (.int p5), .val (.int p6), .val (.int hh), .val (.int b2), .unset, .unset, .unset, .unset, .unset, .unset, .unset, .unset, .unset, .unset, .unset, .unset, .unset, .unset, .unset, .unset, .unset, .unset] [])) _
    refine XS.iloadN X0.here hx rfl (hb hby at_21) rfl ?_
    show Steps p.tables e below (s₁.setTop (mkF m 22 #[.val (.int p1), .val (.int p2), .val (.int p3), .val (.int p4), .val (.int p5), .val (.int p6), .val (.int hh), .val (.int b2), .unset, .unset, .unset, .unset, .unset, .unset, .unset, .unset, .unset, .unset, .unset, .unset, .unset, .unset, .unset, .unset, .unset, .unset] [(.int p3)])) _
    refine XS.bipush X0.here hx rfl (hb hby at_22) ?_
    show Steps p.tables e below (s₁.setTop (mkF m 24 #[.val (.int p1), .val (.int p2), .val (.int p3), .val (.int p4), .val (.int p5), .val (.int p6), .val (.int hh), .val (.int b2), .unset, .unset, .unset, .unset, .unset, .unset, .unset, .unset, .unset, .unset, .unset, .unset, .unset, .unset, .unset, .unset, .unset, .unset] [(.int (8 : Int32)), (.int p3)])) _
    refine XS.iushr X0.here hx rfl (hb hby at_24) rfl ?_
    show Steps p.tables e below (s₁.setTop (mkF m 25 #[.val (.int p1), .val (.int p2), .val (.int p3), .val (.int p4), .val (.int p5), .val (.int p6), .val (.int hh), .val (.int b2), .unset, .unset, .unset, .unset, .unset, .unset, .unset, .unset, .unset, .unset, .unset, .unset, .unset, .unset, .unset, .unset, .unset, .unset] [(.int ((p3.toUInt32 >>> ((8 : Int32) &&& 31).toUInt32).toInt32))])) _
    refine XS.sipush X0.here hx rfl (hb hby at_25) ?_
    show Steps p.tables e below (s₁.setTop (mkF m 28 #[.val (.int p1), .val (.int p2), .val (.int p3), .val (.int p4), .val (.int p5), .val (.int p6), .val (.int hh), .val (.int b2), .unset, .unset, .unset, .unset, .unset, .unset, .unset, .unset, .unset, .unset, .unset, .unset, .unset, .unset, .unset, .unset, .unset, .unset] [(.int (255 : Int32)), (.int ((p3.toUInt32 >>> ((8 : Int32) &&& 31).toUInt32).toInt32))])) _
    refine XS.iand X0.here hx rfl (hb hby at_28) rfl ?_
    show Steps p.tables e below (s₁.setTop (mkF m 29 #[.val (.int p1), .val (.int p2), .val (.int p3), .val (.int p4), .val (.int p5), .val (.int p6), .val (.int hh), .val (.int b2), .unset, .unset, .unset, .unset, .unset, .unset, .unset, .unset, .unset, .unset, .unset, .unset, .unset, .unset, .unset, .unset, .unset, .unset] [(.int (((p3.toUInt32 >>> ((8 : Int32) &&& 31).toUInt32).toInt32) &&& (255 : Int32)))])) _
    refine XS.istore X0.here hx rfl (hb hby at_29) rfl (l' := #[.val (.int p1), .val (.int p2), .val (.int p3), .val (.int p4), .val (.int p5), .val (.int p6), .val (.int hh), .val (.int b2), .val (.int (((p3.toUInt32 >>> ((8 : Int32) &&& 31).toUInt32).toInt32) &&& (255 : Int32))), .unset, .unset, .unset, .unset, .unset, .unset, .unset, .unset, .unset, .unset, .unset, .unset, .unset, .unset, .unset, .unset, .unset]) rfl ?_
    exact kt
  obtain ⟨b1, hb1⟩ : ∃ z : Int32, z = (((p3.toUInt32 >>> ((8 : Int32) &&& 31).toUInt32).toInt32) &&& (255 : Int32)) := ⟨_, rfl⟩
  rw [← hb1] at go3
  have go4 : ∀ t, Steps p.tables e below (s₁.setTop (mkF m 38 #[.val (.int p1), .val (.int p2), .val (.int p3), .val (.int p4), .val (.int p5), .val (.int p6), .val (.int hh), .val (.int b2), .val (.int b1), .val (.int (p3 &&& (255 : Int32))), .unset, .unset, .unset, .unset, .unset, .unset, .unset, .unset, .unset, .unset, .unset, .unset, .unset, .unset, .unset, .unset] [])) t → Steps p.tables e below (s₁.setTop (entryFrame m #[(.int p1), (.int p2), (.int p3), (.int p4), (.int p5), (.int p6)] maxLocals)) t := by
    intro t kt
    refine go3 t ?_
    show Steps p.tables e below (s₁.setTop (mkF m 31 #[.val (.int p1), .val (.int p2), .val (.int p3), .val (.int p4), .val (.int p5), .val (.int p6), .val (.int hh), .val (.int b2), .val (.int b1), .unset, .unset, .unset, .unset, .unset, .unset, .unset, .unset, .unset, .unset, .unset, .unset, .unset, .unset, .unset, .unset, .unset] [])) _
    refine XS.iloadN X0.here hx rfl (hb hby at_31) rfl ?_
    show Steps p.tables e below (s₁.setTop (mkF m 32 #[.val (.int p1), .val (.int p2), .val (.int p3), .val (.int p4), .val (.int p5), .val (.int p6), .val (.int hh), .val (.int b2), .val (.int b1), .unset, .unset, .unset, .unset, .unset, .unset, .unset, .unset, .unset, .unset, .unset, .unset, .unset, .unset, .unset, .unset, .unset] [(.int p3)])) _
    refine XS.sipush X0.here hx rfl (hb hby at_32) ?_
    show Steps p.tables e below (s₁.setTop (mkF m 35 #[.val (.int p1), .val (.int p2), .val (.int p3), .val (.int p4), .val (.int p5), .val (.int p6), .val (.int hh), .val (.int b2), .val (.int b1), .unset, .unset, .unset, .unset, .unset, .unset, .unset, .unset, .unset, .unset, .unset, .unset, .unset, .unset, .unset, .unset, .unset] [(.int (255 : Int32)), (.int p3)])) _
    refine XS.iand X0.here hx rfl (hb hby at_35) rfl ?_
    show Steps p.tables e below (s₁.setTop (mkF m 36 #[.val (.int p1), .val (.int p2), .val (.int p3), .val (.int p4), .val (.int p5), .val (.int p6), .val (.int hh), .val (.int b2), .val (.int b1), .unset, .unset, .unset, .unset, .unset, .unset, .unset, .unset, .unset, .unset, .unset, .unset, .unset, .unset, .unset, .unset, .unset] [(.int (p3 &&& (255 : Int32)))])) _
    refine XS.istore X0.here hx rfl (hb hby at_36) rfl (l' := #[.val (.int p1), .val (.int p2), .val (.int p3), .val (.int p4), .val (.int p5), .val (.int p6), .val (.int hh), .val (.int b2), .val (.int b1), .val (.int (p3 &&& (255 : Int32))), .unset, .unset, .unset, .unset, .unset, .unset, .unset, .unset, .unset, .unset, .unset, .unset, .unset, .unset, .unset, .unset]) rfl ?_
    exact kt
  obtain ⟨b0, hb0⟩ : ∃ z : Int32, z = (p3 &&& (255 : Int32)) := ⟨_, rfl⟩
  rw [← hb0] at go4
  have go5 : ∀ t, Steps p.tables e below (s₁.setTop (mkF m 47 #[.val (.int p1), .val (.int p2), .val (.int p3), .val (.int p4), .val (.int p5), .val (.int p6), .val (.int hh), .val (.int b2), .val (.int b1), .val (.int b0), .val (.int ((p4 &&& (2147483647 : Int32)) % (33 : Int32))), .unset, .unset, .unset, .unset, .unset, .unset, .unset, .unset, .unset, .unset, .unset, .unset, .unset, .unset, .unset] [])) t → Steps p.tables e below (s₁.setTop (entryFrame m #[(.int p1), (.int p2), (.int p3), (.int p4), (.int p5), (.int p6)] maxLocals)) t := by
    intro t kt
    refine go4 t ?_
    show Steps p.tables e below (s₁.setTop (mkF m 38 #[.val (.int p1), .val (.int p2), .val (.int p3), .val (.int p4), .val (.int p5), .val (.int p6), .val (.int hh), .val (.int b2), .val (.int b1), .val (.int b0), .unset, .unset, .unset, .unset, .unset, .unset, .unset, .unset, .unset, .unset, .unset, .unset, .unset, .unset, .unset, .unset] [])) _
    refine XS.iloadN X0.here hx rfl (hb hby at_38) rfl ?_
    show Steps p.tables e below (s₁.setTop (mkF m 39 #[.val (.int p1), .val (.int p2), .val (.int p3), .val (.int p4), .val (.int p5), .val (.int p6), .val (.int hh), .val (.int b2), .val (.int b1), .val (.int b0), .unset, .unset, .unset, .unset, .unset, .unset, .unset, .unset, .unset, .unset, .unset, .unset, .unset, .unset, .unset, .unset] [(.int p4)])) _
    refine X0.ldcInt hx hown (mvT hZ (hw _ (List.mem_of_getElem? (i := 0) rfl))) (g := (mkF m 39 #[.val (.int p1), .val (.int p2), .val (.int p3), .val (.int p4), .val (.int p5), .val (.int p6), .val (.int hh), .val (.int b2), .val (.int b1), .val (.int b0), .unset, .unset, .unset, .unset, .unset, .unset, .unset, .unset, .unset, .unset, .unset, .unset, .unset, .unset, .unset, .unset] [(.int p4)])) rfl (hb hby at_39) _ ?_
    show Steps p.tables e below (s₁.setTop (mkF m 41 #[.val (.int p1), .val (.int p2), .val (.int p3), .val (.int p4), .val (.int p5), .val (.int p6), .val (.int hh), .val (.int b2), .val (.int b1), .val (.int b0), .unset, .unset, .unset, .unset, .unset, .unset, .unset, .unset, .unset, .unset, .unset, .unset, .unset, .unset, .unset, .unset] [(.int (2147483647 : Int32)), (.int p4)])) _
    refine XS.iand X0.here hx rfl (hb hby at_41) rfl ?_
    show Steps p.tables e below (s₁.setTop (mkF m 42 #[.val (.int p1), .val (.int p2), .val (.int p3), .val (.int p4), .val (.int p5), .val (.int p6), .val (.int hh), .val (.int b2), .val (.int b1), .val (.int b0), .unset, .unset, .unset, .unset, .unset, .unset, .unset, .unset, .unset, .unset, .unset, .unset, .unset, .unset, .unset, .unset] [(.int (p4 &&& (2147483647 : Int32)))])) _
    refine XS.bipush X0.here hx rfl (hb hby at_42) ?_
    show Steps p.tables e below (s₁.setTop (mkF m 44 #[.val (.int p1), .val (.int p2), .val (.int p3), .val (.int p4), .val (.int p5), .val (.int p6), .val (.int hh), .val (.int b2), .val (.int b1), .val (.int b0), .unset, .unset, .unset, .unset, .unset, .unset, .unset, .unset, .unset, .unset, .unset, .unset, .unset, .unset, .unset, .unset] [(.int (33 : Int32)), (.int (p4 &&& (2147483647 : Int32)))])) _
    refine iremM X0 hx rfl (hb hby at_44) rfl (by decide) ?_
    show Steps p.tables e below (s₁.setTop (mkF m 45 #[.val (.int p1), .val (.int p2), .val (.int p3), .val (.int p4), .val (.int p5), .val (.int p6), .val (.int hh), .val (.int b2), .val (.int b1), .val (.int b0), .unset, .unset, .unset, .unset, .unset, .unset, .unset, .unset, .unset, .unset, .unset, .unset, .unset, .unset, .unset, .unset] [(.int ((p4 &&& (2147483647 : Int32)) % (33 : Int32)))])) _
    refine XS.istore X0.here hx rfl (hb hby at_45) rfl (l' := #[.val (.int p1), .val (.int p2), .val (.int p3), .val (.int p4), .val (.int p5), .val (.int p6), .val (.int hh), .val (.int b2), .val (.int b1), .val (.int b0), .val (.int ((p4 &&& (2147483647 : Int32)) % (33 : Int32))), .unset, .unset, .unset, .unset, .unset, .unset, .unset, .unset, .unset, .unset, .unset, .unset, .unset, .unset, .unset]) rfl ?_
    exact kt
  obtain ⟨s1, hs1⟩ : ∃ z : Int32, z = ((p4 &&& (2147483647 : Int32)) % (33 : Int32)) := ⟨_, rfl⟩
  rw [← hs1] at go5
  have go6 : ∀ t, Steps p.tables e below (s₁.setTop (mkF m 57 #[.val (.int p1), .val (.int p2), .val (.int p3), .val (.int p4), .val (.int p5), .val (.int p6), .val (.int hh), .val (.int b2), .val (.int b1), .val (.int b0), .val (.int s1), .val (.int ((p5 &&& (2147483647 : Int32)) % (33 : Int32))), .unset, .unset, .unset, .unset, .unset, .unset, .unset, .unset, .unset, .unset, .unset, .unset, .unset, .unset] [])) t → Steps p.tables e below (s₁.setTop (entryFrame m #[(.int p1), (.int p2), (.int p3), (.int p4), (.int p5), (.int p6)] maxLocals)) t := by
    intro t kt
    refine go5 t ?_
    show Steps p.tables e below (s₁.setTop (mkF m 47 #[.val (.int p1), .val (.int p2), .val (.int p3), .val (.int p4), .val (.int p5), .val (.int p6), .val (.int hh), .val (.int b2), .val (.int b1), .val (.int b0), .val (.int s1), .unset, .unset, .unset, .unset, .unset, .unset, .unset, .unset, .unset, .unset, .unset, .unset, .unset, .unset, .unset] [])) _
    refine XS.iload X0.here hx rfl (hb hby at_47) rfl ?_
    show Steps p.tables e below (s₁.setTop (mkF m 49 #[.val (.int p1), .val (.int p2), .val (.int p3), .val (.int p4), .val (.int p5), .val (.int p6), .val (.int hh), .val (.int b2), .val (.int b1), .val (.int b0), .val (.int s1), .unset, .unset, .unset, .unset, .unset, .unset, .unset, .unset, .unset, .unset, .unset, .unset, .unset, .unset, .unset] [(.int p5)])) _
    refine X0.ldcInt hx hown (mvT hZ (hw _ (List.mem_of_getElem? (i := 0) rfl))) (g := (mkF m 49 #[.val (.int p1), .val (.int p2), .val (.int p3), .val (.int p4), .val (.int p5), .val (.int p6), .val (.int hh), .val (.int b2), .val (.int b1), .val (.int b0), .val (.int s1), .unset, .unset, .unset, .unset, .unset, .unset, .unset, .unset, .unset, .unset, .unset, .unset, .unset, .unset, .unset] [(.int p5)])) rfl (hb hby at_49) _ ?_
    show Steps p.tables e below (s₁.setTop (mkF m 51 #[.val (.int p1), .val (.int p2), .val (.int p3), .val (.int p4), .val (.int p5), .val (.int p6), .val (.int hh), .val (.int b2), .val (.int b1), .val (.int b0), .val (.int s1), .unset, .unset, .unset, .unset, .unset, .unset, .unset, .unset, .unset, .unset, .unset, .unset, .unset, .unset, .unset] [(.int (2147483647 : Int32)), (.int p5)])) _
    refine XS.iand X0.here hx rfl (hb hby at_51) rfl ?_
    show Steps p.tables e below (s₁.setTop (mkF m 52 #[.val (.int p1), .val (.int p2), .val (.int p3), .val (.int p4), .val (.int p5), .val (.int p6), .val (.int hh), .val (.int b2), .val (.int b1), .val (.int b0), .val (.int s1), .unset, .unset, .unset, .unset, .unset, .unset, .unset, .unset, .unset, .unset, .unset, .unset, .unset, .unset, .unset] [(.int (p5 &&& (2147483647 : Int32)))])) _
    refine XS.bipush X0.here hx rfl (hb hby at_52) ?_
    show Steps p.tables e below (s₁.setTop (mkF m 54 #[.val (.int p1), .val (.int p2), .val (.int p3), .val (.int p4), .val (.int p5), .val (.int p6), .val (.int hh), .val (.int b2), .val (.int b1), .val (.int b0), .val (.int s1), .unset, .unset, .unset, .unset, .unset, .unset, .unset, .unset, .unset, .unset, .unset, .unset, .unset, .unset, .unset] [(.int (33 : Int32)), (.int (p5 &&& (2147483647 : Int32)))])) _
    refine iremM X0 hx rfl (hb hby at_54) rfl (by decide) ?_
    show Steps p.tables e below (s₁.setTop (mkF m 55 #[.val (.int p1), .val (.int p2), .val (.int p3), .val (.int p4), .val (.int p5), .val (.int p6), .val (.int hh), .val (.int b2), .val (.int b1), .val (.int b0), .val (.int s1), .unset, .unset, .unset, .unset, .unset, .unset, .unset, .unset, .unset, .unset, .unset, .unset, .unset, .unset, .unset] [(.int ((p5 &&& (2147483647 : Int32)) % (33 : Int32)))])) _
    refine XS.istore X0.here hx rfl (hb hby at_55) rfl (l' := #[.val (.int p1), .val (.int p2), .val (.int p3), .val (.int p4), .val (.int p5), .val (.int p6), .val (.int hh), .val (.int b2), .val (.int b1), .val (.int b0), .val (.int s1), .val (.int ((p5 &&& (2147483647 : Int32)) % (33 : Int32))), .unset, .unset, .unset, .unset, .unset, .unset, .unset, .unset, .unset, .unset, .unset, .unset, .unset, .unset]) rfl ?_
    exact kt
  obtain ⟨s2, hs2⟩ : ∃ z : Int32, z = ((p5 &&& (2147483647 : Int32)) % (33 : Int32)) := ⟨_, rfl⟩
  rw [← hs2] at go6
  have go7 : ∀ t, Steps p.tables e below (s₁.setTop (mkF m 67 #[.val (.int p1), .val (.int p2), .val (.int p3), .val (.int p4), .val (.int p5), .val (.int p6), .val (.int hh), .val (.int b2), .val (.int b1), .val (.int b0), .val (.int s1), .val (.int s2), .val (.int ((p6 &&& (2147483647 : Int32)) % (33 : Int32))), .unset, .unset, .unset, .unset, .unset, .unset, .unset, .unset, .unset, .unset, .unset, .unset, .unset] [])) t → Steps p.tables e below (s₁.setTop (entryFrame m #[(.int p1), (.int p2), (.int p3), (.int p4), (.int p5), (.int p6)] maxLocals)) t := by
    intro t kt
    refine go6 t ?_
    show Steps p.tables e below (s₁.setTop (mkF m 57 #[.val (.int p1), .val (.int p2), .val (.int p3), .val (.int p4), .val (.int p5), .val (.int p6), .val (.int hh), .val (.int b2), .val (.int b1), .val (.int b0), .val (.int s1), .val (.int s2), .unset, .unset, .unset, .unset, .unset, .unset, .unset, .unset, .unset, .unset, .unset, .unset, .unset, .unset] [])) _
    refine XS.iload X0.here hx rfl (hb hby at_57) rfl ?_
    show Steps p.tables e below (s₁.setTop (mkF m 59 #[.val (.int p1), .val (.int p2), .val (.int p3), .val (.int p4), .val (.int p5), .val (.int p6), .val (.int hh), .val (.int b2), .val (.int b1), .val (.int b0), .val (.int s1), .val (.int s2), .unset, .unset, .unset, .unset, .unset, .unset, .unset, .unset, .unset, .unset, .unset, .unset, .unset, .unset] [(.int p6)])) _
    refine X0.ldcInt hx hown (mvT hZ (hw _ (List.mem_of_getElem? (i := 0) rfl))) (g := (mkF m 59 #[.val (.int p1), .val (.int p2), .val (.int p3), .val (.int p4), .val (.int p5), .val (.int p6), .val (.int hh), .val (.int b2), .val (.int b1), .val (.int b0), .val (.int s1), .val (.int s2), .unset, .unset, .unset, .unset, .unset, .unset, .unset, .unset, .unset, .unset, .unset, .unset, .unset, .unset] [(.int p6)])) rfl (hb hby at_59) _ ?_
    show Steps p.tables e below (s₁.setTop (mkF m 61 #[.val (.int p1), .val (.int p2), .val (.int p3), .val (.int p4), .val (.int p5), .val (.int p6), .val (.int hh), .val (.int b2), .val (.int b1), .val (.int b0), .val (.int s1), .val (.int s2), .unset, .unset, .unset, .unset, .unset, .unset, .unset, .unset, .unset, .unset, .unset, .unset, .unset, .unset] [(.int (2147483647 : Int32)), (.int p6)])) _
    refine XS.iand X0.here hx rfl (hb hby at_61) rfl ?_
    show Steps p.tables e below (s₁.setTop (mkF m 62 #[.val (.int p1), .val (.int p2), .val (.int p3), .val (.int p4), .val (.int p5), .val (.int p6), .val (.int hh), .val (.int b2), .val (.int b1), .val (.int b0), .val (.int s1), .val (.int s2), .unset, .unset, .unset, .unset, .unset, .unset, .unset, .unset, .unset, .unset, .unset, .unset, .unset, .unset] [(.int (p6 &&& (2147483647 : Int32)))])) _
    refine XS.bipush X0.here hx rfl (hb hby at_62) ?_
    show Steps p.tables e below (s₁.setTop (mkF m 64 #[.val (.int p1), .val (.int p2), .val (.int p3), .val (.int p4), .val (.int p5), .val (.int p6), .val (.int hh), .val (.int b2), .val (.int b1), .val (.int b0), .val (.int s1), .val (.int s2), .unset, .unset, .unset, .unset, .unset, .unset, .unset, .unset, .unset, .unset, .unset, .unset, .unset, .unset] [(.int (33 : Int32)), (.int (p6 &&& (2147483647 : Int32)))])) _
    refine iremM X0 hx rfl (hb hby at_64) rfl (by decide) ?_
    show Steps p.tables e below (s₁.setTop (mkF m 65 #[.val (.int p1), .val (.int p2), .val (.int p3), .val (.int p4), .val (.int p5), .val (.int p6), .val (.int hh), .val (.int b2), .val (.int b1), .val (.int b0), .val (.int s1), .val (.int s2), .unset, .unset, .unset, .unset, .unset, .unset, .unset, .unset, .unset, .unset, .unset, .unset, .unset, .unset] [(.int ((p6 &&& (2147483647 : Int32)) % (33 : Int32)))])) _
    refine XS.istore X0.here hx rfl (hb hby at_65) rfl (l' := #[.val (.int p1), .val (.int p2), .val (.int p3), .val (.int p4), .val (.int p5), .val (.int p6), .val (.int hh), .val (.int b2), .val (.int b1), .val (.int b0), .val (.int s1), .val (.int s2), .val (.int ((p6 &&& (2147483647 : Int32)) % (33 : Int32))), .unset, .unset, .unset, .unset, .unset, .unset, .unset, .unset, .unset, .unset, .unset, .unset, .unset]) rfl ?_
    exact kt
  obtain ⟨kk, hkk⟩ : ∃ z : Int32, z = ((p6 &&& (2147483647 : Int32)) % (33 : Int32)) := ⟨_, rfl⟩
  rw [← hkk] at go7
  obtain ⟨fh, f2, f1, f0, fs1, fs2, fk⟩ := own_ranges hhh hb2 hb1 hb0 hs1 hs2 hkk
  obtain ⟨y2, yn, yp, yl, yL⟩ := own_top fh f2
  have y1 := own_byte f1
  have y0 := own_byte f0
  obtain ⟨T8, h8, k8, X8, e8, E8, A8, st8⟩ := newP X0 hx hZ (hw _ (List.mem_of_getElem? (i := 1) rfl)) e0 (g := (mkF m 68 #[.val (.int p1), .val (.int p2), .val (.int p3), .val (.int p4), .val (.int p5), .val (.int p6), .val (.int hh), .val (.int b2), .val (.int b1), .val (.int b0), .val (.int s1), .val (.int s2), .val (.int kk), .unset, .unset, .unset, .unset, .unset, .unset, .unset, .unset, .unset, .unset, .unset, .unset, .unset] [(.int (3 : Int32))])) rfl (hb hby at_68) rfl (by decide) (cap := 3) (by decide) (by decide) (by decide) (by decide)
  obtain ⟨b8, g8⟩ : ∃ z, z = h0.size := ⟨_, rfl⟩
  rw [← g8] at A8 st8
  have ge_b8 : n0 ≤ b8 := (Nat.le_trans Z0 (Nat.le_of_eq g8.symm))
  have V8_b8 : Arv Z h8 b8 k8 .byte (3 : Int32) [(.int (0 : Int32)), (.int (0 : Int32)), (.int (0 : Int32))] (.int (0 : Int32)) := (Arv.new A8 (by decide)).pad (pad_rep [] (.int (0 : Int32)) 3)
  obtain ⟨cl9, Ar9, q9, S9, M9, Hh9, G9⟩ := id V8_b8
  obtain ⟨T9, h9, X9, e9, W9, st9⟩ := stB X8 hx hZ e8 Ar9 (j := (0 : Int32)) (inb_of S9 ⟨by decide, by decide⟩) (g := (mkF m 75 #[.val (.int p1), .val (.int p2), .val (.int p3), .val (.int p4), .val (.int p5), .val (.int p6), .val (.int hh), .val (.int b2), .val (.int b1), .val (.int b0), .val (.int s1), .val (.int s2), .val (.int kk), .unset, .unset, .unset, .unset, .unset, .unset, .unset, .unset, .unset, .unset, .unset, .unset, .unset] [(.int (b0.toInt8.toInt32)), (.int (0 : Int32)), (.ref b8), (.ref b8)])) rfl rfl (hb hby at_75)
  have V9_b8 : Arv Z h9 b8 k8 .byte (3 : Int32) [(.int (nar .byte (b0.toInt8.toInt32))), (.int (0 : Int32)), (.int (0 : Int32))] (.int (0 : Int32)) := Arv.set Ar9 q9 S9 M9 Hh9 G9 (fits_nar_byte _) W9 0 rfl (Nat.le_of_ble_eq_true rfl)
  have N9 := Fr.snoc X9 N0 ge_b8
  obtain ⟨cl10, Ar10, q10, S10, M10, Hh10, G10⟩ := id V9_b8
  obtain ⟨T10, h10, X10, e10, W10, st10⟩ := stB X9 hx hZ e9 Ar10 (j := (1 : Int32)) (inb_of S10 ⟨by decide, by decide⟩) (g := (mkF m 81 #[.val (.int p1), .val (.int p2), .val (.int p3), .val (.int p4), .val (.int p5), .val (.int p6), .val (.int hh), .val (.int b2), .val (.int b1), .val (.int b0), .val (.int s1), .val (.int s2), .val (.int kk), .unset, .unset, .unset, .unset, .unset, .unset, .unset, .unset, .unset, .unset, .unset, .unset, .unset] [(.int (b1.toInt8.toInt32)), (.int (1 : Int32)), (.ref b8), (.ref b8)])) rfl rfl (hb hby at_81)
  have V10_b8 : Arv Z h10 b8 k8 .byte (3 : Int32) [(.int (nar .byte (b0.toInt8.toInt32))), (.int (nar .byte (b1.toInt8.toInt32))), (.int (0 : Int32))] (.int (0 : Int32)) := Arv.set Ar10 q10 S10 M10 Hh10 G10 (fits_nar_byte _) W10 1 rfl (Nat.le_of_ble_eq_true rfl)
  have N10 := Fr.snoc X10 N9 ge_b8
  obtain ⟨cl11, Ar11, q11, S11, M11, Hh11, G11⟩ := id V10_b8
  obtain ⟨T11, h11, X11, e11, W11, st11⟩ := stB X10 hx hZ e10 Ar11 (j := (2 : Int32)) (inb_of S11 ⟨by decide, by decide⟩) (g := (mkF m 87 #[.val (.int p1), .val (.int p2), .val (.int p3), .val (.int p4), .val (.int p5), .val (.int p6), .val (.int hh), .val (.int b2), .val (.int b1), .val (.int b0), .val (.int s1), .val (.int s2), .val (.int kk), .unset, .unset, .unset, .unset, .unset, .unset, .unset, .unset, .unset, .unset, .unset, .unset, .unset] [(.int (b2.toInt8.toInt32)), (.int (2 : Int32)), (.ref b8), (.ref b8)])) rfl rfl (hb hby at_87)
  have V11_b8 : Arv Z h11 b8 k8 .byte (3 : Int32) [(.int (nar .byte (b0.toInt8.toInt32))), (.int (nar .byte (b1.toInt8.toInt32))), (.int (nar .byte (b2.toInt8.toInt32)))] (.int (0 : Int32)) := Arv.set Ar11 q11 S11 M11 Hh11 G11 (fits_nar_byte _) W11 2 rfl (Nat.le_of_ble_eq_true rfl)
  have N11 := Fr.snoc X11 N10 ge_b8
  obtain ⟨T12, h12, X12, e12, E12, A12, D12, -, st12⟩ := newO X11 hx hZ hown (hw _ (List.mem_of_getElem? (i := 2) rfl)) (hw _ (List.mem_of_getElem? (i := 3) rfl)) (hw _ (List.mem_of_getElem? (i := 4) rfl)) e11 (g := (mkF m 90 #[.val (.int p1), .val (.int p2), .val (.int p3), .val (.int p4), .val (.int p5), .val (.int p6), .val (.int hh), .val (.int b2), .val (.int b1), .val (.int b0), .val (.int s1), .val (.int s2), .val (.int kk), .val (.ref b8), .unset, .unset, .unset, .unset, .unset, .unset, .unset, .unset, .unset, .unset, .unset, .unset] [])) rfl (hb hby at_90) (by decide) (by decide)
  obtain ⟨b12, g12⟩ : ∃ z, z = h11.size := ⟨_, rfl⟩
  rw [← g12] at A12 D12 st12
  have ne_b8_b12 : b8 ≠ b12 := Nat.ne_of_lt (Nat.lt_of_lt_of_le V11_b8.lt (Nat.le_of_eq g12.symm))
  have V12_b8 := V11_b8.ext E12
  have ge_b12 : n0 ≤ b12 := (Nat.le_trans (Nat.le_trans (Nat.le_trans (Nat.le_trans (Nat.le_trans Z0 E8.1) (Keep.of_wr W9).1) (Keep.of_wr W10).1) (Keep.of_wr W11).1) (Nat.le_of_eq g12.symm))
  have F12_b12_bytes : Fld Z h12 b12 "com/example/segmented_log/segmentedlog/format/BackwardBits" "bytes" "[B" .null := D12 (Or.inr (hw _ (List.mem_of_getElem? (i := 12) rfl))) (ty := (.array .byte)) (by decide)
  have F12_b12_from : Fld Z h12 b12 "com/example/segmented_log/segmentedlog/format/BackwardBits" "from" "I" (.int (0 : Int32)) := D12 (Or.inr (hw _ (List.mem_of_getElem? (i := 14) rfl))) (ty := .int) (by decide)
  have F12_b12_container : Fld Z h12 b12 "com/example/segmented_log/segmentedlog/format/BackwardBits" "container" "J" (.long (0 : Int64)) := D12 (Or.inl (hw _ (List.mem_of_getElem? (i := 16) rfl))) (ty := .long) (by decide)
  have F12_b12_bits : Fld Z h12 b12 "com/example/segmented_log/segmentedlog/format/BackwardBits" "bits" "I" (.int (0 : Int32)) := D12 (Or.inl (hw _ (List.mem_of_getElem? (i := 23) rfl))) (ty := .int) (by decide)
  have F12_b12_loadedFrom : Fld Z h12 b12 "com/example/segmented_log/segmentedlog/format/BackwardBits" "loadedFrom" "I" (.int (0 : Int32)) := D12 (Or.inl (hw _ (List.mem_of_getElem? (i := 25) rfl))) (ty := .int) (by decide)
  have F12_b12_pastStart : Fld Z h12 b12 "com/example/segmented_log/segmentedlog/format/BackwardBits" "pastStart" "J" (.long (0 : Int64)) := D12 (Or.inl (hw _ (List.mem_of_getElem? (i := 49) rfl))) (ty := .long) (by decide)
  obtain ⟨_, _, ⟨T13, L13, k13, n13⟩, -, X13, ⟨Lc13, hQ13, l13, y13, z13⟩, st13⟩ := X12.specialBack hx (y := (⟨"com/example/segmented_log/segmentedlog/format/BackwardBits", "<init>", "([BII)V"⟩ : MethodName)) rfl hown (mvT hZ (hw _ (List.mem_of_getElem? (i := 5) rfl))) (mvT hZ (hw _ (List.mem_of_getElem? (i := 6) rfl))) (mvT hZ (hw _ (List.mem_of_getElem? (i := 7) rfl))) (by decide) (backOf (W := 1) (rm1 l Z a0 hw [] b12 b8 k8 (nar .byte (b0.toInt8.toInt32)) (nar .byte (b1.toInt8.toInt32)) (nar .byte (b2.toInt8.toInt32)) h12 n0 (Nat.le_trans (Nat.le_trans (Nat.le_trans (Nat.le_trans (Nat.le_trans Z0 E8.1) (Keep.of_wr W9).1) (Keep.of_wr W10).1) (Keep.of_wr W11).1) E12.1) ge_b12 A12 F12_b12_bytes F12_b12_from F12_b12_container F12_b12_bits F12_b12_loadedFrom F12_b12_pastStart V12_b8 ne_b8_b12 yn (by rw [y2]; exact yp) (by rw [y2]; exact yl) (by rw [y2]; exact yL)) hZ (hw _ (List.mem_of_getElem? (i := 7) rfl)) (hw _ (List.mem_of_getElem? (i := 4) rfl)) (by decide) (by decide)) (g := (mkF m 98 #[.val (.int p1), .val (.int p2), .val (.int p3), .val (.int p4), .val (.int p5), .val (.int p6), .val (.int hh), .val (.int b2), .val (.int b1), .val (.int b0), .val (.int s1), .val (.int s2), .val (.int kk), .val (.ref b8), .unset, .unset, .unset, .unset, .unset, .unset, .unset, .unset, .unset, .unset, .unset, .unset] [(.int (3 : Int32)), (.int (0 : Int32)), (.ref b8), (.ref b12), (.ref b12)])) rfl (by rw [hml]; rfl) (Steps.refl _) (a := b12) (argsL := [(.ref b8), (.int (0 : Int32)), (.int (3 : Int32))]) (rest := [(.ref b12)]) (lenOf pd_3 rfl) rfl (by show 2 * 0 + _ ≤ _; exact Nat.le_of_eq rfl) (hb hby at_98) (fun _ _ => ⟨rfl, e12, (by decide : 2 + 0 ≤ _), (by decide : 9 + 0 ≤ _)⟩)
  dsimp only [Pt.U, Pt.locs, Pt.cells, Pt.slots] at X13 l13 y13 z13 st13 hQ13
  subst l13 y13 z13
  obtain ⟨rfl, N13q, K13c, F13_bytes, F13_from, F13_container, F13_bits, F13_loadedFrom, F13_pastStart⟩ := hQ13
  have N13 := Fr.app N11 N13q
  have V13_b8 := V12_b8.keep K13c (ninS ne_b8_b12 nin0)
  have E13_b12 := A12.keep K13c
  rw [y2] at F13_container F13_bits
  rw [own_bits fh f2] at F13_bits
  obtain ⟨hb1, hb2', hb3, hb4, hb5⟩ := own_small fh
  obtain ⟨cq14, kq14, q14a, q14b, q14c⟩ := isOf hZ rfl E13_b12
  obtain ⟨_, _, ⟨T14, L14, k14, n14⟩, -, X14, ⟨Lc14, hQ14, l14, y14, z14⟩, st14⟩ := X13.virtualBack hx (y := (⟨"com/example/segmented_log/segmentedlog/format/BackwardBits", "peek", "(I)I"⟩ : MethodName)) (z := (⟨"com/example/segmented_log/segmentedlog/format/BackwardBits", "peek", "(I)I"⟩ : MethodName)) hown (mvT hZ (hw _ (List.mem_of_getElem? (i := 26) rfl))) (mvT hZ (hw _ (List.mem_of_getElem? (i := 27) rfl))) (notFace_of_selects (args := #[]) (mvT hZ (hw _ (List.mem_of_getElem? (i := 29) rfl)))) (mvT hZ (hw _ (List.mem_of_getElem? (i := 29) rfl))) (mvT hZ (hw _ (List.mem_of_getElem? (i := 28) rfl))) (by decide) (backOf (W := 0) (rm4a l Z a0 hw [] b12 b8 k8 (nar .byte (b0.toInt8.toInt32)) (nar .byte (b1.toInt8.toInt32)) (nar .byte (b2.toInt8.toInt32)) (b2.toInt64) (0 : Int64) hh T13.heap n0 (Nat.le_trans (Nat.le_trans (Nat.le_trans (Nat.le_trans (Nat.le_trans (Nat.le_trans Z0 E8.1) (Keep.of_wr W9).1) (Keep.of_wr W10).1) (Keep.of_wr W11).1) E12.1) K13c.1) ge_b12 E13_b12 F13_bytes F13_from F13_container F13_bits F13_loadedFrom F13_pastStart V13_b8 ne_b8_b12 hb1 hb2' hb3 hb4 hb5) hZ (hw _ (List.mem_of_getElem? (i := 30) rfl)) (hw _ (List.mem_of_getElem? (i := 4) rfl)) (by decide) (by decide)) q14a q14c (g := (mkF m 107 #[.val (.int p1), .val (.int p2), .val (.int p3), .val (.int p4), .val (.int p5), .val (.int p6), .val (.int hh), .val (.int b2), .val (.int b1), .val (.int b0), .val (.int s1), .val (.int s2), .val (.int kk), .val (.ref b8), .val (.ref b12), .unset, .unset, .unset, .unset, .unset, .unset, .unset, .unset, .unset, .unset, .unset] [(.int (32 : Int32)), (.ref b12)])) rfl (by rw [hml]; rfl) (Steps.refl _) (argsL := [(.int (32 : Int32))]) (rest := []) (lenOf pd_0 rfl) rfl (by show 2 * 0 + _ ≤ _; exact Nat.le_of_eq rfl) (hb hby at_107) (fun _ _ => ⟨rfl, rfl, (by decide : 2 + 0 ≤ _), (by decide : 9 + 0 ≤ _)⟩)
  dsimp only [Pt.U, Pt.locs, Pt.cells, Pt.slots] at X14 l14 y14 z14 st14 hQ14
  subst l14 y14 z14
  obtain ⟨r14, rfl, N14q, K14c, F14_bytes, F14_from, F14_container, F14_bits, F14_loadedFrom, F14_pastStart⟩ := hQ14
  have N14 := Fr.app N13 N14q
  have V14_b8 := V13_b8.keep K14c (ninS ne_b8_b12 nin0)
  have E14_b12 := E13_b12.keep K14c
  rw [own_cont_eq f2 y1 y0] at F14_container
  rw [own_t] at F14_bits
  obtain ⟨cq15, kq15, q15a, q15b, q15c⟩ := isOf hZ rfl E14_b12
  obtain ⟨_, _, ⟨T15, L15, k15, n15⟩, -, X15, ⟨Lc15, hQ15, l15, y15, z15⟩, st15⟩ := X14.virtualBack hx (y := (⟨"com/example/segmented_log/segmentedlog/format/BackwardBits", "skip", "(I)V"⟩ : MethodName)) (z := (⟨"com/example/segmented_log/segmentedlog/format/BackwardBits", "skip", "(I)V"⟩ : MethodName)) hown (mvT hZ (hw _ (List.mem_of_getElem? (i := 38) rfl))) (mvT hZ (hw _ (List.mem_of_getElem? (i := 39) rfl))) (notFace_of_selects (args := #[]) (mvT hZ (hw _ (List.mem_of_getElem? (i := 41) rfl)))) (mvT hZ (hw _ (List.mem_of_getElem? (i := 41) rfl))) (mvT hZ (hw _ (List.mem_of_getElem? (i := 40) rfl))) (by decide) (backOf (W := 0) (rm7 l Z a0 hw [] b12 b8 (own_v b2 b1 b0) (0 : Int64) (hh + (16 : Int32)) s1 T14.heap n0 (Nat.le_trans (Nat.le_trans (Nat.le_trans (Nat.le_trans (Nat.le_trans (Nat.le_trans (Nat.le_trans Z0 E8.1) (Keep.of_wr W9).1) (Keep.of_wr W10).1) (Keep.of_wr W11).1) E12.1) K13c.1) K14c.1) ge_b12 E14_b12 F14_bytes F14_from F14_container F14_bits F14_loadedFrom F14_pastStart) hZ (hw _ (List.mem_of_getElem? (i := 42) rfl)) (hw _ (List.mem_of_getElem? (i := 4) rfl)) (by decide) (by decide)) q15a q15c (g := (mkF m 115 #[.val (.int p1), .val (.int p2), .val (.int p3), .val (.int p4), .val (.int p5), .val (.int p6), .val (.int hh), .val (.int b2), .val (.int b1), .val (.int b0), .val (.int s1), .val (.int s2), .val (.int kk), .val (.ref b8), .val (.ref b12), .unset, .unset, .unset, .unset, .unset, .unset, .unset, .unset, .unset, .unset, .unset] [(.int s1), (.ref b12)])) rfl (by rw [hml]; rfl) (Steps.refl _) (argsL := [(.int s1)]) (rest := []) (lenOf pd_4 rfl) rfl (by show 2 * 0 + _ ≤ _; exact Nat.le_of_eq rfl) (hb hby at_115) (fun _ _ => ⟨rfl, rfl, (by decide : 2 + 0 ≤ _), (by decide : 9 + 0 ≤ _)⟩)
  dsimp only [Pt.U, Pt.locs, Pt.cells, Pt.slots] at X15 l15 y15 z15 st15 hQ15
  subst l15 y15 z15
  obtain ⟨rfl, N15q, K15c, F15_bytes, F15_from, F15_container, F15_bits, F15_loadedFrom, F15_pastStart⟩ := hQ15
  have N15 := Fr.app N14 N15q
  have V15_b8 := V14_b8.keep K15c (ninS ne_b8_b12 nin0)
  have E15_b12 := E14_b12.keep K15c
  obtain ⟨cq16, kq16, q16a, q16b, q16c⟩ := isOf hZ rfl E15_b12
  obtain ⟨_, _, ⟨T16, L16, k16, n16⟩, -, X16, ⟨Lc16, hQ16, l16, y16, z16⟩, st16⟩ := X15.virtualBack hx (y := (⟨"com/example/segmented_log/segmentedlog/format/BackwardBits", "skip", "(I)V"⟩ : MethodName)) (z := (⟨"com/example/segmented_log/segmentedlog/format/BackwardBits", "skip", "(I)V"⟩ : MethodName)) hown (mvT hZ (hw _ (List.mem_of_getElem? (i := 38) rfl))) (mvT hZ (hw _ (List.mem_of_getElem? (i := 39) rfl))) (notFace_of_selects (args := #[]) (mvT hZ (hw _ (List.mem_of_getElem? (i := 41) rfl)))) (mvT hZ (hw _ (List.mem_of_getElem? (i := 41) rfl))) (mvT hZ (hw _ (List.mem_of_getElem? (i := 40) rfl))) (by decide) (backOf (W := 0) (rm7 l Z a0 hw [] b12 b8 (own_v b2 b1 b0) (own_sp (0 : Int64) (hh + (16 : Int32)) s1) (own_sb (hh + (16 : Int32)) s1) s2 T15.heap n0 (Nat.le_trans (Nat.le_trans (Nat.le_trans (Nat.le_trans (Nat.le_trans (Nat.le_trans (Nat.le_trans (Nat.le_trans Z0 E8.1) (Keep.of_wr W9).1) (Keep.of_wr W10).1) (Keep.of_wr W11).1) E12.1) K13c.1) K14c.1) K15c.1) ge_b12 E15_b12 F15_bytes F15_from F15_container F15_bits F15_loadedFrom F15_pastStart) hZ (hw _ (List.mem_of_getElem? (i := 42) rfl)) (hw _ (List.mem_of_getElem? (i := 4) rfl)) (by decide) (by decide)) q16a q16c (g := (mkF m 122 #[.val (.int p1), .val (.int p2), .val (.int p3), .val (.int p4), .val (.int p5), .val (.int p6), .val (.int hh), .val (.int b2), .val (.int b1), .val (.int b0), .val (.int s1), .val (.int s2), .val (.int kk), .val (.ref b8), .val (.ref b12), .unset, .unset, .unset, .unset, .unset, .unset, .unset, .unset, .unset, .unset, .unset] [(.int s2), (.ref b12)])) rfl (by rw [hml]; rfl) (Steps.refl _) (argsL := [(.int s2)]) (rest := []) (lenOf pd_4 rfl) rfl (by show 2 * 0 + _ ≤ _; exact Nat.le_of_eq rfl) (hb hby at_122) (fun _ _ => ⟨rfl, rfl, (by decide : 2 + 0 ≤ _), (by decide : 9 + 0 ≤ _)⟩)
  dsimp only [Pt.U, Pt.locs, Pt.cells, Pt.slots] at X16 l16 y16 z16 st16 hQ16
  subst l16 y16 z16
  obtain ⟨rfl, N16q, K16c, F16_bytes, F16_from, F16_container, F16_bits, F16_loadedFrom, F16_pastStart⟩ := hQ16
  have N16 := Fr.app N15 N16q
  have V16_b8 := V15_b8.keep K16c (ninS ne_b8_b12 nin0)
  have E16_b12 := E15_b12.keep K16c
  obtain ⟨cq17, kq17, q17a, q17b, q17c⟩ := isOf hZ rfl E16_b12
  obtain ⟨_, _, ⟨T17, L17, k17, n17⟩, -, X17, ⟨Lc17, hQ17, l17, y17, z17⟩, st17⟩ := X16.virtualBack hx (y := (⟨"com/example/segmented_log/segmentedlog/format/BackwardBits", "peek", "(I)I"⟩ : MethodName)) (z := (⟨"com/example/segmented_log/segmentedlog/format/BackwardBits", "peek", "(I)I"⟩ : MethodName)) hown (mvT hZ (hw _ (List.mem_of_getElem? (i := 26) rfl))) (mvT hZ (hw _ (List.mem_of_getElem? (i := 27) rfl))) (notFace_of_selects (args := #[]) (mvT hZ (hw _ (List.mem_of_getElem? (i := 29) rfl)))) (mvT hZ (hw _ (List.mem_of_getElem? (i := 29) rfl))) (mvT hZ (hw _ (List.mem_of_getElem? (i := 28) rfl))) (by decide) (backOf (W := 0) (rm4b l Z a0 hw [] b12 b8 (own_v b2 b1 b0) (own_sp (own_sp (0 : Int64) (hh + (16 : Int32)) s1) (own_sb (hh + (16 : Int32)) s1) s2) (own_sb (own_sb (hh + (16 : Int32)) s1) s2) kk T16.heap n0 (Nat.le_trans (Nat.le_trans (Nat.le_trans (Nat.le_trans (Nat.le_trans (Nat.le_trans (Nat.le_trans (Nat.le_trans (Nat.le_trans Z0 E8.1) (Keep.of_wr W9).1) (Keep.of_wr W10).1) (Keep.of_wr W11).1) E12.1) K13c.1) K14c.1) K15c.1) K16c.1) E16_b12 F16_bytes F16_from F16_container F16_bits F16_loadedFrom F16_pastStart (own_b56 fh fs1 fs2)) hZ (hw _ (List.mem_of_getElem? (i := 30) rfl)) (hw _ (List.mem_of_getElem? (i := 4) rfl)) (by decide) (by decide)) q17a q17c (g := (mkF m 129 #[.val (.int p1), .val (.int p2), .val (.int p3), .val (.int p4), .val (.int p5), .val (.int p6), .val (.int hh), .val (.int b2), .val (.int b1), .val (.int b0), .val (.int s1), .val (.int s2), .val (.int kk), .val (.ref b8), .val (.ref b12), .unset, .unset, .unset, .unset, .unset, .unset, .unset, .unset, .unset, .unset, .unset] [(.int kk), (.ref b12)])) rfl (by rw [hml]; rfl) (Steps.refl _) (argsL := [(.int kk)]) (rest := []) (lenOf pd_0 rfl) rfl (by show 2 * 0 + _ ≤ _; exact Nat.le_of_eq rfl) (hb hby at_129) (fun _ _ => ⟨rfl, rfl, (by decide : 2 + 0 ≤ _), (by decide : 9 + 0 ≤ _)⟩)
  dsimp only [Pt.U, Pt.locs, Pt.cells, Pt.slots] at X17 l17 y17 z17 st17 hQ17
  subst l17 y17 z17
  obtain ⟨rfl, N17q, eh17⟩ := hQ17
  have N17 := Fr.app N16 N17q
  have go18 : ∀ t, Steps p.tables e below (T17.setTop (mkF m 134 #[.val (.int p1), .val (.int p2), .val (.int p3), .val (.int p4), .val (.int p5), .val (.int p6), .val (.int hh), .val (.int b2), .val (.int b1), .val (.int b0), .val (.int s1), .val (.int s2), .val (.int kk), .val (.ref b8), .val (.ref b12), .val (.int (own_pk (own_v b2 b1 b0) (own_sb (own_sb (hh + (16 : Int32)) s1) s2) kk)), .unset, .unset, .unset, .unset, .unset, .unset, .unset, .unset, .unset, .unset] [])) t → Steps p.tables e below (s₁.setTop (entryFrame m #[(.int p1), (.int p2), (.int p3), (.int p4), (.int p5), (.int p6)] maxLocals)) t := by
    intro t kt
    refine go7 t ?_
    show Steps p.tables e below (s₁.setTop (mkF m 67 #[.val (.int p1), .val (.int p2), .val (.int p3), .val (.int p4), .val (.int p5), .val (.int p6), .val (.int hh), .val (.int b2), .val (.int b1), .val (.int b0), .val (.int s1), .val (.int s2), .val (.int kk), .unset, .unset, .unset, .unset, .unset, .unset, .unset, .unset, .unset, .unset, .unset, .unset, .unset] [])) _
    refine XS.iconst X0.here hx rfl (hb hby at_67) ?_
    show Steps p.tables e below (s₁.setTop (mkF m 68 #[.val (.int p1), .val (.int p2), .val (.int p3), .val (.int p4), .val (.int p5), .val (.int p6), .val (.int hh), .val (.int b2), .val (.int b1), .val (.int b0), .val (.int s1), .val (.int s2), .val (.int kk), .unset, .unset, .unset, .unset, .unset, .unset, .unset, .unset, .unset, .unset, .unset, .unset, .unset] [(.int (3 : Int32))])) _
    refine st8 _ ?_
    show Steps p.tables e below (T8.setTop (mkF m 70 #[.val (.int p1), .val (.int p2), .val (.int p3), .val (.int p4), .val (.int p5), .val (.int p6), .val (.int hh), .val (.int b2), .val (.int b1), .val (.int b0), .val (.int s1), .val (.int s2), .val (.int kk), .unset, .unset, .unset, .unset, .unset, .unset, .unset, .unset, .unset, .unset, .unset, .unset, .unset] [(.ref b8)])) _
    refine XS.dup X8.here hx rfl (hb hby at_70) rfl rfl ?_
    show Steps p.tables e below (T8.setTop (mkF m 71 #[.val (.int p1), .val (.int p2), .val (.int p3), .val (.int p4), .val (.int p5), .val (.int p6), .val (.int hh), .val (.int b2), .val (.int b1), .val (.int b0), .val (.int s1), .val (.int s2), .val (.int kk), .unset, .unset, .unset, .unset, .unset, .unset, .unset, .unset, .unset, .unset, .unset, .unset, .unset] [(.ref b8), (.ref b8)])) _
    refine XS.iconst X8.here hx rfl (hb hby at_71) ?_
    show Steps p.tables e below (T8.setTop (mkF m 72 #[.val (.int p1), .val (.int p2), .val (.int p3), .val (.int p4), .val (.int p5), .val (.int p6), .val (.int hh), .val (.int b2), .val (.int b1), .val (.int b0), .val (.int s1), .val (.int s2), .val (.int kk), .unset, .unset, .unset, .unset, .unset, .unset, .unset, .unset, .unset, .unset, .unset, .unset, .unset] [(.int (0 : Int32)), (.ref b8), (.ref b8)])) _
    refine XS.iload X8.here hx rfl (hb hby at_72) rfl ?_
    show Steps p.tables e below (T8.setTop (mkF m 74 #[.val (.int p1), .val (.int p2), .val (.int p3), .val (.int p4), .val (.int p5), .val (.int p6), .val (.int hh), .val (.int b2), .val (.int b1), .val (.int b0), .val (.int s1), .val (.int s2), .val (.int kk), .unset, .unset, .unset, .unset, .unset, .unset, .unset, .unset, .unset, .unset, .unset, .unset, .unset] [(.int b0), (.int (0 : Int32)), (.ref b8), (.ref b8)])) _
    refine XS.i2b X8.here hx rfl (hb hby at_74) rfl ?_
    show Steps p.tables e below (T8.setTop (mkF m 75 #[.val (.int p1), .val (.int p2), .val (.int p3), .val (.int p4), .val (.int p5), .val (.int p6), .val (.int hh), .val (.int b2), .val (.int b1), .val (.int b0), .val (.int s1), .val (.int s2), .val (.int kk), .unset, .unset, .unset, .unset, .unset, .unset, .unset, .unset, .unset, .unset, .unset, .unset, .unset] [(.int (b0.toInt8.toInt32)), (.int (0 : Int32)), (.ref b8), (.ref b8)])) _
    refine st9 _ ?_
    show Steps p.tables e below (T9.setTop (mkF m 76 #[.val (.int p1), .val (.int p2), .val (.int p3), .val (.int p4), .val (.int p5), .val (.int p6), .val (.int hh), .val (.int b2), .val (.int b1), .val (.int b0), .val (.int s1), .val (.int s2), .val (.int kk), .unset, .unset, .unset, .unset, .unset, .unset, .unset, .unset, .unset, .unset, .unset, .unset, .unset] [(.ref b8)])) _
    refine XS.dup X9.here hx rfl (hb hby at_76) rfl rfl ?_
    show Steps p.tables e below (T9.setTop (mkF m 77 #[.val (.int p1), .val (.int p2), .val (.int p3), .val (.int p4), .val (.int p5), .val (.int p6), .val (.int hh), .val (.int b2), .val (.int b1), .val (.int b0), .val (.int s1), .val (.int s2), .val (.int kk), .unset, .unset, .unset, .unset, .unset, .unset, .unset, .unset, .unset, .unset, .unset, .unset, .unset] [(.ref b8), (.ref b8)])) _
    refine XS.iconst X9.here hx rfl (hb hby at_77) ?_
    show Steps p.tables e below (T9.setTop (mkF m 78 #[.val (.int p1), .val (.int p2), .val (.int p3), .val (.int p4), .val (.int p5), .val (.int p6), .val (.int hh), .val (.int b2), .val (.int b1), .val (.int b0), .val (.int s1), .val (.int s2), .val (.int kk), .unset, .unset, .unset, .unset, .unset, .unset, .unset, .unset, .unset, .unset, .unset, .unset, .unset] [(.int (1 : Int32)), (.ref b8), (.ref b8)])) _
    refine XS.iload X9.here hx rfl (hb hby at_78) rfl ?_
    show Steps p.tables e below (T9.setTop (mkF m 80 #[.val (.int p1), .val (.int p2), .val (.int p3), .val (.int p4), .val (.int p5), .val (.int p6), .val (.int hh), .val (.int b2), .val (.int b1), .val (.int b0), .val (.int s1), .val (.int s2), .val (.int kk), .unset, .unset, .unset, .unset, .unset, .unset, .unset, .unset, .unset, .unset, .unset, .unset, .unset] [(.int b1), (.int (1 : Int32)), (.ref b8), (.ref b8)])) _
    refine XS.i2b X9.here hx rfl (hb hby at_80) rfl ?_
    show Steps p.tables e below (T9.setTop (mkF m 81 #[.val (.int p1), .val (.int p2), .val (.int p3), .val (.int p4), .val (.int p5), .val (.int p6), .val (.int hh), .val (.int b2), .val (.int b1), .val (.int b0), .val (.int s1), .val (.int s2), .val (.int kk), .unset, .unset, .unset, .unset, .unset, .unset, .unset, .unset, .unset, .unset, .unset, .unset, .unset] [(.int (b1.toInt8.toInt32)), (.int (1 : Int32)), (.ref b8), (.ref b8)])) _
    refine st10 _ ?_
    show Steps p.tables e below (T10.setTop (mkF m 82 #[.val (.int p1), .val (.int p2), .val (.int p3), .val (.int p4), .val (.int p5), .val (.int p6), .val (.int hh), .val (.int b2), .val (.int b1), .val (.int b0), .val (.int s1), .val (.int s2), .val (.int kk), .unset, .unset, .unset, .unset, .unset, .unset, .unset, .unset, .unset, .unset, .unset, .unset, .unset] [(.ref b8)])) _
    refine XS.dup X10.here hx rfl (hb hby at_82) rfl rfl ?_
    show Steps p.tables e below (T10.setTop (mkF m 83 #[.val (.int p1), .val (.int p2), .val (.int p3), .val (.int p4), .val (.int p5), .val (.int p6), .val (.int hh), .val (.int b2), .val (.int b1), .val (.int b0), .val (.int s1), .val (.int s2), .val (.int kk), .unset, .unset, .unset, .unset, .unset, .unset, .unset, .unset, .unset, .unset, .unset, .unset, .unset] [(.ref b8), (.ref b8)])) _
    refine XS.iconst X10.here hx rfl (hb hby at_83) ?_
    show Steps p.tables e below (T10.setTop (mkF m 84 #[.val (.int p1), .val (.int p2), .val (.int p3), .val (.int p4), .val (.int p5), .val (.int p6), .val (.int hh), .val (.int b2), .val (.int b1), .val (.int b0), .val (.int s1), .val (.int s2), .val (.int kk), .unset, .unset, .unset, .unset, .unset, .unset, .unset, .unset, .unset, .unset, .unset, .unset, .unset] [(.int (2 : Int32)), (.ref b8), (.ref b8)])) _
    refine XS.iload X10.here hx rfl (hb hby at_84) rfl ?_
    show Steps p.tables e below (T10.setTop (mkF m 86 #[.val (.int p1), .val (.int p2), .val (.int p3), .val (.int p4), .val (.int p5), .val (.int p6), .val (.int hh), .val (.int b2), .val (.int b1), .val (.int b0), .val (.int s1), .val (.int s2), .val (.int kk), .unset, .unset, .unset, .unset, .unset, .unset, .unset, .unset, .unset, .unset, .unset, .unset, .unset] [(.int b2), (.int (2 : Int32)), (.ref b8), (.ref b8)])) _
    refine XS.i2b X10.here hx rfl (hb hby at_86) rfl ?_
    show Steps p.tables e below (T10.setTop (mkF m 87 #[.val (.int p1), .val (.int p2), .val (.int p3), .val (.int p4), .val (.int p5), .val (.int p6), .val (.int hh), .val (.int b2), .val (.int b1), .val (.int b0), .val (.int s1), .val (.int s2), .val (.int kk), .unset, .unset, .unset, .unset, .unset, .unset, .unset, .unset, .unset, .unset, .unset, .unset, .unset] [(.int (b2.toInt8.toInt32)), (.int (2 : Int32)), (.ref b8), (.ref b8)])) _
    refine st11 _ ?_
    show Steps p.tables e below (T11.setTop (mkF m 88 #[.val (.int p1), .val (.int p2), .val (.int p3), .val (.int p4), .val (.int p5), .val (.int p6), .val (.int hh), .val (.int b2), .val (.int b1), .val (.int b0), .val (.int s1), .val (.int s2), .val (.int kk), .unset, .unset, .unset, .unset, .unset, .unset, .unset, .unset, .unset, .unset, .unset, .unset, .unset] [(.ref b8)])) _
    refine XS.astore X11.here hx rfl (hb hby at_88) rfl rfl (l' := #[.val (.int p1), .val (.int p2), .val (.int p3), .val (.int p4), .val (.int p5), .val (.int p6), .val (.int hh), .val (.int b2), .val (.int b1), .val (.int b0), .val (.int s1), .val (.int s2), .val (.int kk), .val (.ref b8), .unset, .unset, .unset, .unset, .unset, .unset, .unset, .unset, .unset, .unset, .unset, .unset]) rfl ?_
    show Steps p.tables e below (T11.setTop (mkF m 90 #[.val (.int p1), .val (.int p2), .val (.int p3), .val (.int p4), .val (.int p5), .val (.int p6), .val (.int hh), .val (.int b2), .val (.int b1), .val (.int b0), .val (.int s1), .val (.int s2), .val (.int kk), .val (.ref b8), .unset, .unset, .unset, .unset, .unset, .unset, .unset, .unset, .unset, .unset, .unset, .unset] [])) _
    refine st12 _ ?_
    show Steps p.tables e below (T12.setTop (mkF m 93 #[.val (.int p1), .val (.int p2), .val (.int p3), .val (.int p4), .val (.int p5), .val (.int p6), .val (.int hh), .val (.int b2), .val (.int b1), .val (.int b0), .val (.int s1), .val (.int s2), .val (.int kk), .val (.ref b8), .unset, .unset, .unset, .unset, .unset, .unset, .unset, .unset, .unset, .unset, .unset, .unset] [(.ref b12)])) _
    refine XS.dup X12.here hx rfl (hb hby at_93) rfl rfl ?_
    show Steps p.tables e below (T12.setTop (mkF m 94 #[.val (.int p1), .val (.int p2), .val (.int p3), .val (.int p4), .val (.int p5), .val (.int p6), .val (.int hh), .val (.int b2), .val (.int b1), .val (.int b0), .val (.int s1), .val (.int s2), .val (.int kk), .val (.ref b8), .unset, .unset, .unset, .unset, .unset, .unset, .unset, .unset, .unset, .unset, .unset, .unset] [(.ref b12), (.ref b12)])) _
    refine XS.aload X12.here hx rfl (hb hby at_94) rfl rfl ?_
    show Steps p.tables e below (T12.setTop (mkF m 96 #[.val (.int p1), .val (.int p2), .val (.int p3), .val (.int p4), .val (.int p5), .val (.int p6), .val (.int hh), .val (.int b2), .val (.int b1), .val (.int b0), .val (.int s1), .val (.int s2), .val (.int kk), .val (.ref b8), .unset, .unset, .unset, .unset, .unset, .unset, .unset, .unset, .unset, .unset, .unset, .unset] [(.ref b8), (.ref b12), (.ref b12)])) _
    refine XS.iconst X12.here hx rfl (hb hby at_96) ?_
    show Steps p.tables e below (T12.setTop (mkF m 97 #[.val (.int p1), .val (.int p2), .val (.int p3), .val (.int p4), .val (.int p5), .val (.int p6), .val (.int hh), .val (.int b2), .val (.int b1), .val (.int b0), .val (.int s1), .val (.int s2), .val (.int kk), .val (.ref b8), .unset, .unset, .unset, .unset, .unset, .unset, .unset, .unset, .unset, .unset, .unset, .unset] [(.int (0 : Int32)), (.ref b8), (.ref b12), (.ref b12)])) _
    refine XS.iconst X12.here hx rfl (hb hby at_97) ?_
    show Steps p.tables e below (T12.setTop (mkF m 98 #[.val (.int p1), .val (.int p2), .val (.int p3), .val (.int p4), .val (.int p5), .val (.int p6), .val (.int hh), .val (.int b2), .val (.int b1), .val (.int b0), .val (.int s1), .val (.int s2), .val (.int kk), .val (.ref b8), .unset, .unset, .unset, .unset, .unset, .unset, .unset, .unset, .unset, .unset, .unset, .unset] [(.int (3 : Int32)), (.int (0 : Int32)), (.ref b8), (.ref b12), (.ref b12)])) _
    refine st13.trans ?_
    show Steps p.tables e below (T13.setTop (mkF m 101 #[.val (.int p1), .val (.int p2), .val (.int p3), .val (.int p4), .val (.int p5), .val (.int p6), .val (.int hh), .val (.int b2), .val (.int b1), .val (.int b0), .val (.int s1), .val (.int s2), .val (.int kk), .val (.ref b8), .unset, .unset, .unset, .unset, .unset, .unset, .unset, .unset, .unset, .unset, .unset, .unset] [(.ref b12)])) _
    refine XS.astore X13.here hx rfl (hb hby at_101) rfl rfl (l' := #[.val (.int p1), .val (.int p2), .val (.int p3), .val (.int p4), .val (.int p5), .val (.int p6), .val (.int hh), .val (.int b2), .val (.int b1), .val (.int b0), .val (.int s1), .val (.int s2), .val (.int kk), .val (.ref b8), .val (.ref b12), .unset, .unset, .unset, .unset, .unset, .unset, .unset, .unset, .unset, .unset, .unset]) rfl ?_
    show Steps p.tables e below (T13.setTop (mkF m 103 #[.val (.int p1), .val (.int p2), .val (.int p3), .val (.int p4), .val (.int p5), .val (.int p6), .val (.int hh), .val (.int b2), .val (.int b1), .val (.int b0), .val (.int s1), .val (.int s2), .val (.int kk), .val (.ref b8), .val (.ref b12), .unset, .unset, .unset, .unset, .unset, .unset, .unset, .unset, .unset, .unset, .unset] [])) _
    refine XS.aload X13.here hx rfl (hb hby at_103) rfl rfl ?_
    show Steps p.tables e below (T13.setTop (mkF m 105 #[.val (.int p1), .val (.int p2), .val (.int p3), .val (.int p4), .val (.int p5), .val (.int p6), .val (.int hh), .val (.int b2), .val (.int b1), .val (.int b0), .val (.int s1), .val (.int s2), .val (.int kk), .val (.ref b8), .val (.ref b12), .unset, .unset, .unset, .unset, .unset, .unset, .unset, .unset, .unset, .unset, .unset] [(.ref b12)])) _
    refine XS.bipush X13.here hx rfl (hb hby at_105) ?_
    show Steps p.tables e below (T13.setTop (mkF m 107 #[.val (.int p1), .val (.int p2), .val (.int p3), .val (.int p4), .val (.int p5), .val (.int p6), .val (.int hh), .val (.int b2), .val (.int b1), .val (.int b0), .val (.int s1), .val (.int s2), .val (.int kk), .val (.ref b8), .val (.ref b12), .unset, .unset, .unset, .unset, .unset, .unset, .unset, .unset, .unset, .unset, .unset] [(.int (32 : Int32)), (.ref b12)])) _
    refine st14.trans ?_
    show Steps p.tables e below (T14.setTop (mkF m 110 #[.val (.int p1), .val (.int p2), .val (.int p3), .val (.int p4), .val (.int p5), .val (.int p6), .val (.int hh), .val (.int b2), .val (.int b1), .val (.int b0), .val (.int s1), .val (.int s2), .val (.int kk), .val (.ref b8), .val (.ref b12), .unset, .unset, .unset, .unset, .unset, .unset, .unset, .unset, .unset, .unset, .unset] [(.int r14)])) _
    refine XS.pop X14.here hx rfl (hb hby at_110) rfl rfl ?_
    show Steps p.tables e below (T14.setTop (mkF m 111 #[.val (.int p1), .val (.int p2), .val (.int p3), .val (.int p4), .val (.int p5), .val (.int p6), .val (.int hh), .val (.int b2), .val (.int b1), .val (.int b0), .val (.int s1), .val (.int s2), .val (.int kk), .val (.ref b8), .val (.ref b12), .unset, .unset, .unset, .unset, .unset, .unset, .unset, .unset, .unset, .unset, .unset] [])) _
    refine XS.aload X14.here hx rfl (hb hby at_111) rfl rfl ?_
    show Steps p.tables e below (T14.setTop (mkF m 113 #[.val (.int p1), .val (.int p2), .val (.int p3), .val (.int p4), .val (.int p5), .val (.int p6), .val (.int hh), .val (.int b2), .val (.int b1), .val (.int b0), .val (.int s1), .val (.int s2), .val (.int kk), .val (.ref b8), .val (.ref b12), .unset, .unset, .unset, .unset, .unset, .unset, .unset, .unset, .unset, .unset, .unset] [(.ref b12)])) _
    refine XS.iload X14.here hx rfl (hb hby at_113) rfl ?_
    show Steps p.tables e below (T14.setTop (mkF m 115 #[.val (.int p1), .val (.int p2), .val (.int p3), .val (.int p4), .val (.int p5), .val (.int p6), .val (.int hh), .val (.int b2), .val (.int b1), .val (.int b0), .val (.int s1), .val (.int s2), .val (.int kk), .val (.ref b8), .val (.ref b12), .unset, .unset, .unset, .unset, .unset, .unset, .unset, .unset, .unset, .unset, .unset] [(.int s1), (.ref b12)])) _
    refine st15.trans ?_
    show Steps p.tables e below (T15.setTop (mkF m 118 #[.val (.int p1), .val (.int p2), .val (.int p3), .val (.int p4), .val (.int p5), .val (.int p6), .val (.int hh), .val (.int b2), .val (.int b1), .val (.int b0), .val (.int s1), .val (.int s2), .val (.int kk), .val (.ref b8), .val (.ref b12), .unset, .unset, .unset, .unset, .unset, .unset, .unset, .unset, .unset, .unset, .unset] [])) _
    refine XS.aload X15.here hx rfl (hb hby at_118) rfl rfl ?_
    show Steps p.tables e below (T15.setTop (mkF m 120 #[.val (.int p1), .val (.int p2), .val (.int p3), .val (.int p4), .val (.int p5), .val (.int p6), .val (.int hh), .val (.int b2), .val (.int b1), .val (.int b0), .val (.int s1), .val (.int s2), .val (.int kk), .val (.ref b8), .val (.ref b12), .unset, .unset, .unset, .unset, .unset, .unset, .unset, .unset, .unset, .unset, .unset] [(.ref b12)])) _
    refine XS.iload X15.here hx rfl (hb hby at_120) rfl ?_
    show Steps p.tables e below (T15.setTop (mkF m 122 #[.val (.int p1), .val (.int p2), .val (.int p3), .val (.int p4), .val (.int p5), .val (.int p6), .val (.int hh), .val (.int b2), .val (.int b1), .val (.int b0), .val (.int s1), .val (.int s2), .val (.int kk), .val (.ref b8), .val (.ref b12), .unset, .unset, .unset, .unset, .unset, .unset, .unset, .unset, .unset, .unset, .unset] [(.int s2), (.ref b12)])) _
    refine st16.trans ?_
    show Steps p.tables e below (T16.setTop (mkF m 125 #[.val (.int p1), .val (.int p2), .val (.int p3), .val (.int p4), .val (.int p5), .val (.int p6), .val (.int hh), .val (.int b2), .val (.int b1), .val (.int b0), .val (.int s1), .val (.int s2), .val (.int kk), .val (.ref b8), .val (.ref b12), .unset, .unset, .unset, .unset, .unset, .unset, .unset, .unset, .unset, .unset, .unset] [])) _
    refine XS.aload X16.here hx rfl (hb hby at_125) rfl rfl ?_
    show Steps p.tables e below (T16.setTop (mkF m 127 #[.val (.int p1), .val (.int p2), .val (.int p3), .val (.int p4), .val (.int p5), .val (.int p6), .val (.int hh), .val (.int b2), .val (.int b1), .val (.int b0), .val (.int s1), .val (.int s2), .val (.int kk), .val (.ref b8), .val (.ref b12), .unset, .unset, .unset, .unset, .unset, .unset, .unset, .unset, .unset, .unset, .unset] [(.ref b12)])) _
    refine XS.iload X16.here hx rfl (hb hby at_127) rfl ?_
    show Steps p.tables e below (T16.setTop (mkF m 129 #[.val (.int p1), .val (.int p2), .val (.int p3), .val (.int p4), .val (.int p5), .val (.int p6), .val (.int hh), .val (.int b2), .val (.int b1), .val (.int b0), .val (.int s1), .val (.int s2), .val (.int kk), .val (.ref b8), .val (.ref b12), .unset, .unset, .unset, .unset, .unset, .unset, .unset, .unset, .unset, .unset, .unset] [(.int kk), (.ref b12)])) _
    refine st17.trans ?_
    show Steps p.tables e below (T17.setTop (mkF m 132 #[.val (.int p1), .val (.int p2), .val (.int p3), .val (.int p4), .val (.int p5), .val (.int p6), .val (.int hh), .val (.int b2), .val (.int b1), .val (.int b0), .val (.int s1), .val (.int s2), .val (.int kk), .val (.ref b8), .val (.ref b12), .unset, .unset, .unset, .unset, .unset, .unset, .unset, .unset, .unset, .unset, .unset] [(.int (own_pk (own_v b2 b1 b0) (own_sb (own_sb (hh + (16 : Int32)) s1) s2) kk))])) _
    refine XS.istore X17.here hx rfl (hb hby at_132) rfl (l' := #[.val (.int p1), .val (.int p2), .val (.int p3), .val (.int p4), .val (.int p5), .val (.int p6), .val (.int hh), .val (.int b2), .val (.int b1), .val (.int b0), .val (.int s1), .val (.int s2), .val (.int kk), .val (.ref b8), .val (.ref b12), .val (.int (own_pk (own_v b2 b1 b0) (own_sb (own_sb (hh + (16 : Int32)) s1) s2) kk)), .unset, .unset, .unset, .unset, .unset, .unset, .unset, .unset, .unset, .unset]) rfl ?_
    exact kt
  obtain ⟨got, hgot⟩ : ∃ z : Int32, z = (own_pk (own_v b2 b1 b0) (own_sb (own_sb (hh + (16 : Int32)) s1) s2) kk) := ⟨_, rfl⟩
  rw [← hgot] at go18
  obtain ⟨cq19, kq19, q19a, q19b, q19c⟩ := isOf hZ eh17 E16_b12
  obtain ⟨_, _, ⟨T19, L19, k19, n19⟩, -, X19, ⟨Lc19, hQ19, l19, y19, z19⟩, st19⟩ := X17.virtualBack hx (y := (⟨"com/example/segmented_log/segmentedlog/format/BackwardBits", "overflowed", "()Z"⟩ : MethodName)) (z := (⟨"com/example/segmented_log/segmentedlog/format/BackwardBits", "overflowed", "()Z"⟩ : MethodName)) hown (mvT hZ (hw _ (List.mem_of_getElem? (i := 43) rfl))) (mvT hZ (hw _ (List.mem_of_getElem? (i := 44) rfl))) (notFace_of_selects (args := #[]) (mvT hZ (hw _ (List.mem_of_getElem? (i := 46) rfl)))) (mvT hZ (hw _ (List.mem_of_getElem? (i := 46) rfl))) (mvT hZ (hw _ (List.mem_of_getElem? (i := 45) rfl))) (by decide) (backOf (W := 0) (rm8 l Z a0 hw [] b12 (own_sp (own_sp (0 : Int64) (hh + (16 : Int32)) s1) (own_sb (hh + (16 : Int32)) s1) s2) T16.heap n0 (Nat.le_trans (Nat.le_trans (Nat.le_trans (Nat.le_trans (Nat.le_trans (Nat.le_trans (Nat.le_trans (Nat.le_trans (Nat.le_trans Z0 E8.1) (Keep.of_wr W9).1) (Keep.of_wr W10).1) (Keep.of_wr W11).1) E12.1) K13c.1) K14c.1) K15c.1) K16c.1) F16_pastStart) hZ (hw _ (List.mem_of_getElem? (i := 47) rfl)) (hw _ (List.mem_of_getElem? (i := 4) rfl)) (by decide) (by decide)) q19a q19c (g := (mkF m 136 #[.val (.int p1), .val (.int p2), .val (.int p3), .val (.int p4), .val (.int p5), .val (.int p6), .val (.int hh), .val (.int b2), .val (.int b1), .val (.int b0), .val (.int s1), .val (.int s2), .val (.int kk), .val (.ref b8), .val (.ref b12), .val (.int got), .unset, .unset, .unset, .unset, .unset, .unset, .unset, .unset, .unset, .unset] [(.ref b12)])) rfl (by rw [hml]; rfl) (Steps.refl _) (argsL := []) (rest := []) (lenOf pd_5 rfl) rfl (by show 2 * 0 + _ ≤ _; exact Nat.le_of_eq rfl) (hb hby at_136) (fun _ _ => ⟨rfl, eh17, (by decide : 2 + 0 ≤ _), (by decide : 9 + 0 ≤ _)⟩)
  dsimp only [Pt.U, Pt.locs, Pt.cells, Pt.slots] at X19 l19 y19 z19 st19 hQ19
  subst l19 y19 z19
  obtain ⟨rfl, N19q, eh19⟩ := hQ19
  have N19 := Fr.app N17 N19q
  have go20 : ∀ t, Steps p.tables e below (T19.setTop (mkF m 141 #[.val (.int p1), .val (.int p2), .val (.int p3), .val (.int p4), .val (.int p5), .val (.int p6), .val (.int hh), .val (.int b2), .val (.int b1), .val (.int b0), .val (.int s1), .val (.int s2), .val (.int kk), .val (.ref b8), .val (.ref b12), .val (.int got), .val (.int (own_ov (own_sp (own_sp (0 : Int64) (hh + (16 : Int32)) s1) (own_sb (hh + (16 : Int32)) s1) s2))), .unset, .unset, .unset, .unset, .unset, .unset, .unset, .unset, .unset] [])) t → Steps p.tables e below (s₁.setTop (entryFrame m #[(.int p1), (.int p2), (.int p3), (.int p4), (.int p5), (.int p6)] maxLocals)) t := by
    intro t kt
    refine go18 t ?_
    show Steps p.tables e below (T17.setTop (mkF m 134 #[.val (.int p1), .val (.int p2), .val (.int p3), .val (.int p4), .val (.int p5), .val (.int p6), .val (.int hh), .val (.int b2), .val (.int b1), .val (.int b0), .val (.int s1), .val (.int s2), .val (.int kk), .val (.ref b8), .val (.ref b12), .val (.int got), .unset, .unset, .unset, .unset, .unset, .unset, .unset, .unset, .unset, .unset] [])) _
    refine XS.aload X17.here hx rfl (hb hby at_134) rfl rfl ?_
    show Steps p.tables e below (T17.setTop (mkF m 136 #[.val (.int p1), .val (.int p2), .val (.int p3), .val (.int p4), .val (.int p5), .val (.int p6), .val (.int hh), .val (.int b2), .val (.int b1), .val (.int b0), .val (.int s1), .val (.int s2), .val (.int kk), .val (.ref b8), .val (.ref b12), .val (.int got), .unset, .unset, .unset, .unset, .unset, .unset, .unset, .unset, .unset, .unset] [(.ref b12)])) _
    refine st19.trans ?_
    show Steps p.tables e below (T19.setTop (mkF m 139 #[.val (.int p1), .val (.int p2), .val (.int p3), .val (.int p4), .val (.int p5), .val (.int p6), .val (.int hh), .val (.int b2), .val (.int b1), .val (.int b0), .val (.int s1), .val (.int s2), .val (.int kk), .val (.ref b8), .val (.ref b12), .val (.int got), .unset, .unset, .unset, .unset, .unset, .unset, .unset, .unset, .unset, .unset] [(.int (own_ov (own_sp (own_sp (0 : Int64) (hh + (16 : Int32)) s1) (own_sb (hh + (16 : Int32)) s1) s2)))])) _
    refine XS.istore X19.here hx rfl (hb hby at_139) rfl (l' := #[.val (.int p1), .val (.int p2), .val (.int p3), .val (.int p4), .val (.int p5), .val (.int p6), .val (.int hh), .val (.int b2), .val (.int b1), .val (.int b0), .val (.int s1), .val (.int s2), .val (.int kk), .val (.ref b8), .val (.ref b12), .val (.int got), .val (.int (own_ov (own_sp (own_sp (0 : Int64) (hh + (16 : Int32)) s1) (own_sb (hh + (16 : Int32)) s1) s2))), .unset, .unset, .unset, .unset, .unset, .unset, .unset, .unset, .unset]) rfl ?_
    exact kt
  obtain ⟨ov, hov⟩ : ∃ z : Int32, z = (own_ov (own_sp (own_sp (0 : Int64) (hh + (16 : Int32)) s1) (own_sb (hh + (16 : Int32)) s1) s2)) := ⟨_, rfl⟩
  rw [← hov] at go20
  obtain ⟨cq21, kq21, q21a, q21b, q21c⟩ := isOf hZ eh19 E16_b12
  obtain ⟨_, _, ⟨T21, L21, k21, n21⟩, -, X21, ⟨Lc21, hQ21, l21, y21, z21⟩, st21⟩ := X19.virtualBack hx (y := (⟨"com/example/segmented_log/segmentedlog/format/BackwardBits", "isConsumed", "()Z"⟩ : MethodName)) (z := (⟨"com/example/segmented_log/segmentedlog/format/BackwardBits", "isConsumed", "()Z"⟩ : MethodName)) hown (mvT hZ (hw _ (List.mem_of_getElem? (i := 50) rfl))) (mvT hZ (hw _ (List.mem_of_getElem? (i := 51) rfl))) (notFace_of_selects (args := #[]) (mvT hZ (hw _ (List.mem_of_getElem? (i := 53) rfl)))) (mvT hZ (hw _ (List.mem_of_getElem? (i := 53) rfl))) (mvT hZ (hw _ (List.mem_of_getElem? (i := 52) rfl))) (by decide) (backOf (W := 0) (rm9 l Z a0 hw [] b12 b8 (own_v b2 b1 b0) (own_sp (own_sp (0 : Int64) (hh + (16 : Int32)) s1) (own_sb (hh + (16 : Int32)) s1) s2) (own_sb (own_sb (hh + (16 : Int32)) s1) s2) T16.heap n0 (Nat.le_trans (Nat.le_trans (Nat.le_trans (Nat.le_trans (Nat.le_trans (Nat.le_trans (Nat.le_trans (Nat.le_trans (Nat.le_trans Z0 E8.1) (Keep.of_wr W9).1) (Keep.of_wr W10).1) (Keep.of_wr W11).1) E12.1) K13c.1) K14c.1) K15c.1) K16c.1) F16_bytes F16_from F16_container F16_bits F16_loadedFrom F16_pastStart) hZ (hw _ (List.mem_of_getElem? (i := 54) rfl)) (hw _ (List.mem_of_getElem? (i := 4) rfl)) (by decide) (by decide)) q21a q21c (g := (mkF m 143 #[.val (.int p1), .val (.int p2), .val (.int p3), .val (.int p4), .val (.int p5), .val (.int p6), .val (.int hh), .val (.int b2), .val (.int b1), .val (.int b0), .val (.int s1), .val (.int s2), .val (.int kk), .val (.ref b8), .val (.ref b12), .val (.int got), .val (.int ov), .unset, .unset, .unset, .unset, .unset, .unset, .unset, .unset, .unset] [(.ref b12)])) rfl (by rw [hml]; rfl) (Steps.refl _) (argsL := []) (rest := []) (lenOf pd_5 rfl) rfl (by show 2 * 0 + _ ≤ _; exact Nat.le_of_eq rfl) (hb hby at_143) (fun _ _ => ⟨rfl, eh19, (by decide : 2 + 0 ≤ _), (by decide : 9 + 0 ≤ _)⟩)
  dsimp only [Pt.U, Pt.locs, Pt.cells, Pt.slots] at X21 l21 y21 z21 st21 hQ21
  subst l21 y21 z21
  obtain ⟨rfl, N21q, eh21⟩ := hQ21
  have N21 := Fr.app N19 N21q
  have go22 : ∀ t, Steps p.tables e below (T21.setTop (mkF m 148 #[.val (.int p1), .val (.int p2), .val (.int p3), .val (.int p4), .val (.int p5), .val (.int p6), .val (.int hh), .val (.int b2), .val (.int b1), .val (.int b0), .val (.int s1), .val (.int s2), .val (.int kk), .val (.ref b8), .val (.ref b12), .val (.int got), .val (.int ov), .val (.int (own_cons (own_sb (own_sb (hh + (16 : Int32)) s1) s2) (0 : Int32) (0 : Int32) (own_sp (own_sp (0 : Int64) (hh + (16 : Int32)) s1) (own_sb (hh + (16 : Int32)) s1) s2))), .unset, .unset, .unset, .unset, .unset, .unset, .unset, .unset] [])) t → Steps p.tables e below (s₁.setTop (entryFrame m #[(.int p1), (.int p2), (.int p3), (.int p4), (.int p5), (.int p6)] maxLocals)) t := by
    intro t kt
    refine go20 t ?_
    show Steps p.tables e below (T19.setTop (mkF m 141 #[.val (.int p1), .val (.int p2), .val (.int p3), .val (.int p4), .val (.int p5), .val (.int p6), .val (.int hh), .val (.int b2), .val (.int b1), .val (.int b0), .val (.int s1), .val (.int s2), .val (.int kk), .val (.ref b8), .val (.ref b12), .val (.int got), .val (.int ov), .unset, .unset, .unset, .unset, .unset, .unset, .unset, .unset, .unset] [])) _
    refine XS.aload X19.here hx rfl (hb hby at_141) rfl rfl ?_
    show Steps p.tables e below (T19.setTop (mkF m 143 #[.val (.int p1), .val (.int p2), .val (.int p3), .val (.int p4), .val (.int p5), .val (.int p6), .val (.int hh), .val (.int b2), .val (.int b1), .val (.int b0), .val (.int s1), .val (.int s2), .val (.int kk), .val (.ref b8), .val (.ref b12), .val (.int got), .val (.int ov), .unset, .unset, .unset, .unset, .unset, .unset, .unset, .unset, .unset] [(.ref b12)])) _
    refine st21.trans ?_
    show Steps p.tables e below (T21.setTop (mkF m 146 #[.val (.int p1), .val (.int p2), .val (.int p3), .val (.int p4), .val (.int p5), .val (.int p6), .val (.int hh), .val (.int b2), .val (.int b1), .val (.int b0), .val (.int s1), .val (.int s2), .val (.int kk), .val (.ref b8), .val (.ref b12), .val (.int got), .val (.int ov), .unset, .unset, .unset, .unset, .unset, .unset, .unset, .unset, .unset] [(.int (own_cons (own_sb (own_sb (hh + (16 : Int32)) s1) s2) (0 : Int32) (0 : Int32) (own_sp (own_sp (0 : Int64) (hh + (16 : Int32)) s1) (own_sb (hh + (16 : Int32)) s1) s2)))])) _
    refine XS.istore X21.here hx rfl (hb hby at_146) rfl (l' := #[.val (.int p1), .val (.int p2), .val (.int p3), .val (.int p4), .val (.int p5), .val (.int p6), .val (.int hh), .val (.int b2), .val (.int b1), .val (.int b0), .val (.int s1), .val (.int s2), .val (.int kk), .val (.ref b8), .val (.ref b12), .val (.int got), .val (.int ov), .val (.int (own_cons (own_sb (own_sb (hh + (16 : Int32)) s1) s2) (0 : Int32) (0 : Int32) (own_sp (own_sp (0 : Int64) (hh + (16 : Int32)) s1) (own_sb (hh + (16 : Int32)) s1) s2))), .unset, .unset, .unset, .unset, .unset, .unset, .unset, .unset]) rfl ?_
    exact kt
  obtain ⟨cs, hcs⟩ : ∃ z : Int32, z = (own_cons (own_sb (own_sb (hh + (16 : Int32)) s1) s2) (0 : Int32) (0 : Int32) (own_sp (own_sp (0 : Int64) (hh + (16 : Int32)) s1) (own_sb (hh + (16 : Int32)) s1) s2)) := ⟨_, rfl⟩
  rw [← hcs] at go22
  have go23 : ∀ t, Steps p.tables e below (T21.setTop (mkF m 155 #[.val (.int p1), .val (.int p2), .val (.int p3), .val (.int p4), .val (.int p5), .val (.int p6), .val (.int hh), .val (.int b2), .val (.int b1), .val (.int b0), .val (.int s1), .val (.int s2), .val (.int kk), .val (.ref b8), .val (.ref b12), .val (.int got), .val (.int ov), .val (.int cs), .val (.int (hh + (16 : Int32))), .unset, .unset, .unset, .unset, .unset, .unset, .unset] [])) t → Steps p.tables e below (s₁.setTop (entryFrame m #[(.int p1), (.int p2), (.int p3), (.int p4), (.int p5), (.int p6)] maxLocals)) t := by
    intro t kt
    refine go22 t ?_
    show Steps p.tables e below (T21.setTop (mkF m 148 #[.val (.int p1), .val (.int p2), .val (.int p3), .val (.int p4), .val (.int p5), .val (.int p6), .val (.int hh), .val (.int b2), .val (.int b1), .val (.int b0), .val (.int s1), .val (.int s2), .val (.int kk), .val (.ref b8), .val (.ref b12), .val (.int got), .val (.int ov), .val (.int cs), .unset, .unset, .unset, .unset, .unset, .unset, .unset, .unset] [])) _
    refine XS.iload X21.here hx rfl (hb hby at_148) rfl ?_
    show Steps p.tables e below (T21.setTop (mkF m 150 #[.val (.int p1), .val (.int p2), .val (.int p3), .val (.int p4), .val (.int p5), .val (.int p6), .val (.int hh), .val (.int b2), .val (.int b1), .val (.int b0), .val (.int s1), .val (.int s2), .val (.int kk), .val (.ref b8), .val (.ref b12), .val (.int got), .val (.int ov), .val (.int cs), .unset, .unset, .unset, .unset, .unset, .unset, .unset, .unset] [(.int hh)])) _
    refine XS.bipush X21.here hx rfl (hb hby at_150) ?_
    show Steps p.tables e below (T21.setTop (mkF m 152 #[.val (.int p1), .val (.int p2), .val (.int p3), .val (.int p4), .val (.int p5), .val (.int p6), .val (.int hh), .val (.int b2), .val (.int b1), .val (.int b0), .val (.int s1), .val (.int s2), .val (.int kk), .val (.ref b8), .val (.ref b12), .val (.int got), .val (.int ov), .val (.int cs), .unset, .unset, .unset, .unset, .unset, .unset, .unset, .unset] [(.int (16 : Int32)), (.int hh)])) _
    refine XS.iadd X21.here hx rfl (hb hby at_152) rfl ?_
    show Steps p.tables e below (T21.setTop (mkF m 153 #[.val (.int p1), .val (.int p2), .val (.int p3), .val (.int p4), .val (.int p5), .val (.int p6), .val (.int hh), .val (.int b2), .val (.int b1), .val (.int b0), .val (.int s1), .val (.int s2), .val (.int kk), .val (.ref b8), .val (.ref b12), .val (.int got), .val (.int ov), .val (.int cs), .unset, .unset, .unset, .unset, .unset, .unset, .unset, .unset] [(.int (hh + (16 : Int32)))])) _
    refine XS.istore X21.here hx rfl (hb hby at_153) rfl (l' := #[.val (.int p1), .val (.int p2), .val (.int p3), .val (.int p4), .val (.int p5), .val (.int p6), .val (.int hh), .val (.int b2), .val (.int b1), .val (.int b0), .val (.int s1), .val (.int s2), .val (.int kk), .val (.ref b8), .val (.ref b12), .val (.int got), .val (.int ov), .val (.int cs), .val (.int (hh + (16 : Int32))), .unset, .unset, .unset, .unset, .unset, .unset, .unset]) rfl ?_
    exact kt
  obtain ⟨tt, htt⟩ : ∃ z : Int32, z = (hh + (16 : Int32)) := ⟨_, rfl⟩
  rw [← htt] at go23
  have go24 : ∀ t, Steps p.tables e below (T21.setTop (mkF m 174 #[.val (.int p1), .val (.int p2), .val (.int p3), .val (.int p4), .val (.int p5), .val (.int p6), .val (.int hh), .val (.int b2), .val (.int b1), .val (.int b0), .val (.int s1), .val (.int s2), .val (.int kk), .val (.ref b8), .val (.ref b12), .val (.int got), .val (.int ov), .val (.int cs), .val (.int tt), .val (.long ((((b2.toInt64) <<< ((16 : Int32) &&& 0x3f).toInt64) ||| ((b1.toInt64) <<< ((8 : Int32) &&& 0x3f).toInt64)) ||| (b0.toInt64))), .second, .unset, .unset, .unset, .unset, .unset] [])) t → Steps p.tables e below (s₁.setTop (entryFrame m #[(.int p1), (.int p2), (.int p3), (.int p4), (.int p5), (.int p6)] maxLocals)) t := by
    intro t kt
    refine go23 t ?_
    show Steps p.tables e below (T21.setTop (mkF m 155 #[.val (.int p1), .val (.int p2), .val (.int p3), .val (.int p4), .val (.int p5), .val (.int p6), .val (.int hh), .val (.int b2), .val (.int b1), .val (.int b0), .val (.int s1), .val (.int s2), .val (.int kk), .val (.ref b8), .val (.ref b12), .val (.int got), .val (.int ov), .val (.int cs), .val (.int tt), .unset, .unset, .unset, .unset, .unset, .unset, .unset] [])) _
    refine XS.iload X21.here hx rfl (hb hby at_155) rfl ?_
    show Steps p.tables e below (T21.setTop (mkF m 157 #[.val (.int p1), .val (.int p2), .val (.int p3), .val (.int p4), .val (.int p5), .val (.int p6), .val (.int hh), .val (.int b2), .val (.int b1), .val (.int b0), .val (.int s1), .val (.int s2), .val (.int kk), .val (.ref b8), .val (.ref b12), .val (.int got), .val (.int ov), .val (.int cs), .val (.int tt), .unset, .unset, .unset, .unset, .unset, .unset, .unset] [(.int b2)])) _
    refine XS.i2l X21.here hx rfl (hb hby at_157) rfl ?_
    show Steps p.tables e below (T21.setTop (mkF m 158 #[.val (.int p1), .val (.int p2), .val (.int p3), .val (.int p4), .val (.int p5), .val (.int p6), .val (.int hh), .val (.int b2), .val (.int b1), .val (.int b0), .val (.int s1), .val (.int s2), .val (.int kk), .val (.ref b8), .val (.ref b12), .val (.int got), .val (.int ov), .val (.int cs), .val (.int tt), .unset, .unset, .unset, .unset, .unset, .unset, .unset] [(.long (b2.toInt64))])) _
    refine XS.bipush X21.here hx rfl (hb hby at_158) ?_
    show Steps p.tables e below (T21.setTop (mkF m 160 #[.val (.int p1), .val (.int p2), .val (.int p3), .val (.int p4), .val (.int p5), .val (.int p6), .val (.int hh), .val (.int b2), .val (.int b1), .val (.int b0), .val (.int s1), .val (.int s2), .val (.int kk), .val (.ref b8), .val (.ref b12), .val (.int got), .val (.int ov), .val (.int cs), .val (.int tt), .unset, .unset, .unset, .unset, .unset, .unset, .unset] [(.int (16 : Int32)), (.long (b2.toInt64))])) _
    refine XS.lshl X21.here hx rfl (hb hby at_160) rfl ?_
    show Steps p.tables e below (T21.setTop (mkF m 161 #[.val (.int p1), .val (.int p2), .val (.int p3), .val (.int p4), .val (.int p5), .val (.int p6), .val (.int hh), .val (.int b2), .val (.int b1), .val (.int b0), .val (.int s1), .val (.int s2), .val (.int kk), .val (.ref b8), .val (.ref b12), .val (.int got), .val (.int ov), .val (.int cs), .val (.int tt), .unset, .unset, .unset, .unset, .unset, .unset, .unset] [(.long ((b2.toInt64) <<< ((16 : Int32) &&& 0x3f).toInt64))])) _
    refine XS.iload X21.here hx rfl (hb hby at_161) rfl ?_
    show Steps p.tables e below (T21.setTop (mkF m 163 #[.val (.int p1), .val (.int p2), .val (.int p3), .val (.int p4), .val (.int p5), .val (.int p6), .val (.int hh), .val (.int b2), .val (.int b1), .val (.int b0), .val (.int s1), .val (.int s2), .val (.int kk), .val (.ref b8), .val (.ref b12), .val (.int got), .val (.int ov), .val (.int cs), .val (.int tt), .unset, .unset, .unset, .unset, .unset, .unset, .unset] [(.int b1), (.long ((b2.toInt64) <<< ((16 : Int32) &&& 0x3f).toInt64))])) _
    refine XS.i2l X21.here hx rfl (hb hby at_163) rfl ?_
    show Steps p.tables e below (T21.setTop (mkF m 164 #[.val (.int p1), .val (.int p2), .val (.int p3), .val (.int p4), .val (.int p5), .val (.int p6), .val (.int hh), .val (.int b2), .val (.int b1), .val (.int b0), .val (.int s1), .val (.int s2), .val (.int kk), .val (.ref b8), .val (.ref b12), .val (.int got), .val (.int ov), .val (.int cs), .val (.int tt), .unset, .unset, .unset, .unset, .unset, .unset, .unset] [(.long (b1.toInt64)), (.long ((b2.toInt64) <<< ((16 : Int32) &&& 0x3f).toInt64))])) _
    refine XS.bipush X21.here hx rfl (hb hby at_164) ?_
    show Steps p.tables e below (T21.setTop (mkF m 166 #[.val (.int p1), .val (.int p2), .val (.int p3), .val (.int p4), .val (.int p5), .val (.int p6), .val (.int hh), .val (.int b2), .val (.int b1), .val (.int b0), .val (.int s1), .val (.int s2), .val (.int kk), .val (.ref b8), .val (.ref b12), .val (.int got), .val (.int ov), .val (.int cs), .val (.int tt), .unset, .unset, .unset, .unset, .unset, .unset, .unset] [(.int (8 : Int32)), (.long (b1.toInt64)), (.long ((b2.toInt64) <<< ((16 : Int32) &&& 0x3f).toInt64))])) _
    refine XS.lshl X21.here hx rfl (hb hby at_166) rfl ?_
    show Steps p.tables e below (T21.setTop (mkF m 167 #[.val (.int p1), .val (.int p2), .val (.int p3), .val (.int p4), .val (.int p5), .val (.int p6), .val (.int hh), .val (.int b2), .val (.int b1), .val (.int b0), .val (.int s1), .val (.int s2), .val (.int kk), .val (.ref b8), .val (.ref b12), .val (.int got), .val (.int ov), .val (.int cs), .val (.int tt), .unset, .unset, .unset, .unset, .unset, .unset, .unset] [(.long ((b1.toInt64) <<< ((8 : Int32) &&& 0x3f).toInt64)), (.long ((b2.toInt64) <<< ((16 : Int32) &&& 0x3f).toInt64))])) _
    refine XS.lor X21.here hx rfl (hb hby at_167) rfl ?_
    show Steps p.tables e below (T21.setTop (mkF m 168 #[.val (.int p1), .val (.int p2), .val (.int p3), .val (.int p4), .val (.int p5), .val (.int p6), .val (.int hh), .val (.int b2), .val (.int b1), .val (.int b0), .val (.int s1), .val (.int s2), .val (.int kk), .val (.ref b8), .val (.ref b12), .val (.int got), .val (.int ov), .val (.int cs), .val (.int tt), .unset, .unset, .unset, .unset, .unset, .unset, .unset] [(.long (((b2.toInt64) <<< ((16 : Int32) &&& 0x3f).toInt64) ||| ((b1.toInt64) <<< ((8 : Int32) &&& 0x3f).toInt64)))])) _
    refine XS.iload X21.here hx rfl (hb hby at_168) rfl ?_
    show Steps p.tables e below (T21.setTop (mkF m 170 #[.val (.int p1), .val (.int p2), .val (.int p3), .val (.int p4), .val (.int p5), .val (.int p6), .val (.int hh), .val (.int b2), .val (.int b1), .val (.int b0), .val (.int s1), .val (.int s2), .val (.int kk), .val (.ref b8), .val (.ref b12), .val (.int got), .val (.int ov), .val (.int cs), .val (.int tt), .unset, .unset, .unset, .unset, .unset, .unset, .unset] [(.int b0), (.long (((b2.toInt64) <<< ((16 : Int32) &&& 0x3f).toInt64) ||| ((b1.toInt64) <<< ((8 : Int32) &&& 0x3f).toInt64)))])) _
    refine XS.i2l X21.here hx rfl (hb hby at_170) rfl ?_
    show Steps p.tables e below (T21.setTop (mkF m 171 #[.val (.int p1), .val (.int p2), .val (.int p3), .val (.int p4), .val (.int p5), .val (.int p6), .val (.int hh), .val (.int b2), .val (.int b1), .val (.int b0), .val (.int s1), .val (.int s2), .val (.int kk), .val (.ref b8), .val (.ref b12), .val (.int got), .val (.int ov), .val (.int cs), .val (.int tt), .unset, .unset, .unset, .unset, .unset, .unset, .unset] [(.long (b0.toInt64)), (.long (((b2.toInt64) <<< ((16 : Int32) &&& 0x3f).toInt64) ||| ((b1.toInt64) <<< ((8 : Int32) &&& 0x3f).toInt64)))])) _
    refine XS.lor X21.here hx rfl (hb hby at_171) rfl ?_
    show Steps p.tables e below (T21.setTop (mkF m 172 #[.val (.int p1), .val (.int p2), .val (.int p3), .val (.int p4), .val (.int p5), .val (.int p6), .val (.int hh), .val (.int b2), .val (.int b1), .val (.int b0), .val (.int s1), .val (.int s2), .val (.int kk), .val (.ref b8), .val (.ref b12), .val (.int got), .val (.int ov), .val (.int cs), .val (.int tt), .unset, .unset, .unset, .unset, .unset, .unset, .unset] [(.long ((((b2.toInt64) <<< ((16 : Int32) &&& 0x3f).toInt64) ||| ((b1.toInt64) <<< ((8 : Int32) &&& 0x3f).toInt64)) ||| (b0.toInt64)))])) _
    refine XS.lstore X21.here hx rfl (hb hby at_172) rfl (l' := #[.val (.int p1), .val (.int p2), .val (.int p3), .val (.int p4), .val (.int p5), .val (.int p6), .val (.int hh), .val (.int b2), .val (.int b1), .val (.int b0), .val (.int s1), .val (.int s2), .val (.int kk), .val (.ref b8), .val (.ref b12), .val (.int got), .val (.int ov), .val (.int cs), .val (.int tt), .val (.long ((((b2.toInt64) <<< ((16 : Int32) &&& 0x3f).toInt64) ||| ((b1.toInt64) <<< ((8 : Int32) &&& 0x3f).toInt64)) ||| (b0.toInt64))), .second, .unset, .unset, .unset, .unset, .unset]) rfl ?_
    exact kt
  obtain ⟨vv, hvv⟩ : ∃ z : Int64, z = ((((b2.toInt64) <<< ((16 : Int32) &&& 0x3f).toInt64) ||| ((b1.toInt64) <<< ((8 : Int32) &&& 0x3f).toInt64)) ||| (b0.toInt64)) := ⟨_, rfl⟩
  rw [← hvv] at go24
  have go25 : ∀ t, Steps p.tables e below (T21.setTop (mkF m 185 #[.val (.int p1), .val (.int p2), .val (.int p3), .val (.int p4), .val (.int p5), .val (.int p6), .val (.int hh), .val (.int b2), .val (.int b1), .val (.int b0), .val (.int s1), .val (.int s2), .val (.int kk), .val (.ref b8), .val (.ref b12), .val (.int got), .val (.int ov), .val (.int cs), .val (.int tt), .val (.long vv), .second, .val (.long (vv &&& (((1 : Int64) <<< (tt &&& 0x3f).toInt64) - (1 : Int64)))), .second, .unset, .unset, .unset] [])) t → Steps p.tables e below (s₁.setTop (entryFrame m #[(.int p1), (.int p2), (.int p3), (.int p4), (.int p5), (.int p6)] maxLocals)) t := by
    intro t kt
    refine go24 t ?_
    show Steps p.tables e below (T21.setTop (mkF m 174 #[.val (.int p1), .val (.int p2), .val (.int p3), .val (.int p4), .val (.int p5), .val (.int p6), .val (.int hh), .val (.int b2), .val (.int b1), .val (.int b0), .val (.int s1), .val (.int s2), .val (.int kk), .val (.ref b8), .val (.ref b12), .val (.int got), .val (.int ov), .val (.int cs), .val (.int tt), .val (.long vv), .second, .unset, .unset, .unset, .unset, .unset] [])) _
    refine XS.lload X21.here hx rfl (hb hby at_174) rfl ?_
    show Steps p.tables e below (T21.setTop (mkF m 176 #[.val (.int p1), .val (.int p2), .val (.int p3), .val (.int p4), .val (.int p5), .val (.int p6), .val (.int hh), .val (.int b2), .val (.int b1), .val (.int b0), .val (.int s1), .val (.int s2), .val (.int kk), .val (.ref b8), .val (.ref b12), .val (.int got), .val (.int ov), .val (.int cs), .val (.int tt), .val (.long vv), .second, .unset, .unset, .unset, .unset, .unset] [(.long vv)])) _
    refine XS.lconst X21.here hx rfl (hb hby at_176) ?_
    show Steps p.tables e below (T21.setTop (mkF m 177 #[.val (.int p1), .val (.int p2), .val (.int p3), .val (.int p4), .val (.int p5), .val (.int p6), .val (.int hh), .val (.int b2), .val (.int b1), .val (.int b0), .val (.int s1), .val (.int s2), .val (.int kk), .val (.ref b8), .val (.ref b12), .val (.int got), .val (.int ov), .val (.int cs), .val (.int tt), .val (.long vv), .second, .unset, .unset, .unset, .unset, .unset] [(.long (1 : Int64)), (.long vv)])) _
    refine XS.iload X21.here hx rfl (hb hby at_177) rfl ?_
    show Steps p.tables e below (T21.setTop (mkF m 179 #[.val (.int p1), .val (.int p2), .val (.int p3), .val (.int p4), .val (.int p5), .val (.int p6), .val (.int hh), .val (.int b2), .val (.int b1), .val (.int b0), .val (.int s1), .val (.int s2), .val (.int kk), .val (.ref b8), .val (.ref b12), .val (.int got), .val (.int ov), .val (.int cs), .val (.int tt), .val (.long vv), .second, .unset, .unset, .unset, .unset, .unset] [(.int tt), (.long (1 : Int64)), (.long vv)])) _
    refine XS.lshl X21.here hx rfl (hb hby at_179) rfl ?_
    show Steps p.tables e below (T21.setTop (mkF m 180 #[.val (.int p1), .val (.int p2), .val (.int p3), .val (.int p4), .val (.int p5), .val (.int p6), .val (.int hh), .val (.int b2), .val (.int b1), .val (.int b0), .val (.int s1), .val (.int s2), .val (.int kk), .val (.ref b8), .val (.ref b12), .val (.int got), .val (.int ov), .val (.int cs), .val (.int tt), .val (.long vv), .second, .unset, .unset, .unset, .unset, .unset] [(.long ((1 : Int64) <<< (tt &&& 0x3f).toInt64)), (.long vv)])) _
    refine XS.lconst X21.here hx rfl (hb hby at_180) ?_
    show Steps p.tables e below (T21.setTop (mkF m 181 #[.val (.int p1), .val (.int p2), .val (.int p3), .val (.int p4), .val (.int p5), .val (.int p6), .val (.int hh), .val (.int b2), .val (.int b1), .val (.int b0), .val (.int s1), .val (.int s2), .val (.int kk), .val (.ref b8), .val (.ref b12), .val (.int got), .val (.int ov), .val (.int cs), .val (.int tt), .val (.long vv), .second, .unset, .unset, .unset, .unset, .unset] [(.long (1 : Int64)), (.long ((1 : Int64) <<< (tt &&& 0x3f).toInt64)), (.long vv)])) _
    refine XS.lsub X21.here hx rfl (hb hby at_181) rfl ?_
    show Steps p.tables e below (T21.setTop (mkF m 182 #[.val (.int p1), .val (.int p2), .val (.int p3), .val (.int p4), .val (.int p5), .val (.int p6), .val (.int hh), .val (.int b2), .val (.int b1), .val (.int b0), .val (.int s1), .val (.int s2), .val (.int kk), .val (.ref b8), .val (.ref b12), .val (.int got), .val (.int ov), .val (.int cs), .val (.int tt), .val (.long vv), .second, .unset, .unset, .unset, .unset, .unset] [(.long (((1 : Int64) <<< (tt &&& 0x3f).toInt64) - (1 : Int64))), (.long vv)])) _
    refine XS.land X21.here hx rfl (hb hby at_182) rfl ?_
    show Steps p.tables e below (T21.setTop (mkF m 183 #[.val (.int p1), .val (.int p2), .val (.int p3), .val (.int p4), .val (.int p5), .val (.int p6), .val (.int hh), .val (.int b2), .val (.int b1), .val (.int b0), .val (.int s1), .val (.int s2), .val (.int kk), .val (.ref b8), .val (.ref b12), .val (.int got), .val (.int ov), .val (.int cs), .val (.int tt), .val (.long vv), .second, .unset, .unset, .unset, .unset, .unset] [(.long (vv &&& (((1 : Int64) <<< (tt &&& 0x3f).toInt64) - (1 : Int64))))])) _
    refine XS.lstore X21.here hx rfl (hb hby at_183) rfl (l' := #[.val (.int p1), .val (.int p2), .val (.int p3), .val (.int p4), .val (.int p5), .val (.int p6), .val (.int hh), .val (.int b2), .val (.int b1), .val (.int b0), .val (.int s1), .val (.int s2), .val (.int kk), .val (.ref b8), .val (.ref b12), .val (.int got), .val (.int ov), .val (.int cs), .val (.int tt), .val (.long vv), .second, .val (.long (vv &&& (((1 : Int64) <<< (tt &&& 0x3f).toInt64) - (1 : Int64)))), .second, .unset, .unset, .unset]) rfl ?_
    exact kt
  obtain ⟨ss, hss⟩ : ∃ z : Int64, z = (vv &&& (((1 : Int64) <<< (tt &&& 0x3f).toInt64) - (1 : Int64))) := ⟨_, rfl⟩
  rw [← hss] at go25
  have go26 : ∀ t, Steps p.tables e below (T21.setTop (mkF m 192 #[.val (.int p1), .val (.int p2), .val (.int p3), .val (.int p4), .val (.int p5), .val (.int p6), .val (.int hh), .val (.int b2), .val (.int b1), .val (.int b0), .val (.int s1), .val (.int s2), .val (.int kk), .val (.ref b8), .val (.ref b12), .val (.int got), .val (.int ov), .val (.int cs), .val (.int tt), .val (.long vv), .second, .val (.long ss), .second, .val (.int (s1 + s2)), .unset, .unset] [])) t → Steps p.tables e below (s₁.setTop (entryFrame m #[(.int p1), (.int p2), (.int p3), (.int p4), (.int p5), (.int p6)] maxLocals)) t := by
    intro t kt
    refine go25 t ?_
    show Steps p.tables e below (T21.setTop (mkF m 185 #[.val (.int p1), .val (.int p2), .val (.int p3), .val (.int p4), .val (.int p5), .val (.int p6), .val (.int hh), .val (.int b2), .val (.int b1), .val (.int b0), .val (.int s1), .val (.int s2), .val (.int kk), .val (.ref b8), .val (.ref b12), .val (.int got), .val (.int ov), .val (.int cs), .val (.int tt), .val (.long vv), .second, .val (.long ss), .second, .unset, .unset, .unset] [])) _
    refine XS.iload X21.here hx rfl (hb hby at_185) rfl ?_
    show Steps p.tables e below (T21.setTop (mkF m 187 #[.val (.int p1), .val (.int p2), .val (.int p3), .val (.int p4), .val (.int p5), .val (.int p6), .val (.int hh), .val (.int b2), .val (.int b1), .val (.int b0), .val (.int s1), .val (.int s2), .val (.int kk), .val (.ref b8), .val (.ref b12), .val (.int got), .val (.int ov), .val (.int cs), .val (.int tt), .val (.long vv), .second, .val (.long ss), .second, .unset, .unset, .unset] [(.int s1)])) _
    refine XS.iload X21.here hx rfl (hb hby at_187) rfl ?_
    show Steps p.tables e below (T21.setTop (mkF m 189 #[.val (.int p1), .val (.int p2), .val (.int p3), .val (.int p4), .val (.int p5), .val (.int p6), .val (.int hh), .val (.int b2), .val (.int b1), .val (.int b0), .val (.int s1), .val (.int s2), .val (.int kk), .val (.ref b8), .val (.ref b12), .val (.int got), .val (.int ov), .val (.int cs), .val (.int tt), .val (.long vv), .second, .val (.long ss), .second, .unset, .unset, .unset] [(.int s2), (.int s1)])) _
    refine XS.iadd X21.here hx rfl (hb hby at_189) rfl ?_
    show Steps p.tables e below (T21.setTop (mkF m 190 #[.val (.int p1), .val (.int p2), .val (.int p3), .val (.int p4), .val (.int p5), .val (.int p6), .val (.int hh), .val (.int b2), .val (.int b1), .val (.int b0), .val (.int s1), .val (.int s2), .val (.int kk), .val (.ref b8), .val (.ref b12), .val (.int got), .val (.int ov), .val (.int cs), .val (.int tt), .val (.long vv), .second, .val (.long ss), .second, .unset, .unset, .unset] [(.int (s1 + s2))])) _
    refine XS.istore X21.here hx rfl (hb hby at_190) rfl (l' := #[.val (.int p1), .val (.int p2), .val (.int p3), .val (.int p4), .val (.int p5), .val (.int p6), .val (.int hh), .val (.int b2), .val (.int b1), .val (.int b0), .val (.int s1), .val (.int s2), .val (.int kk), .val (.ref b8), .val (.ref b12), .val (.int got), .val (.int ov), .val (.int cs), .val (.int tt), .val (.long vv), .second, .val (.long ss), .second, .val (.int (s1 + s2)), .unset, .unset]) rfl ?_
    exact kt
  obtain ⟨us, hus⟩ : ∃ z : Int32, z = (s1 + s2) := ⟨_, rfl⟩
  rw [← hus] at go26
  have go27 : ∀ t, Steps p.tables e below (T21.setTop (mkF m 196 #[.val (.int p1), .val (.int p2), .val (.int p3), .val (.int p4), .val (.int p5), .val (.int p6), .val (.int hh), .val (.int b2), .val (.int b1), .val (.int b0), .val (.int s1), .val (.int s2), .val (.int kk), .val (.ref b8), .val (.ref b12), .val (.int got), .val (.int ov), .val (.int cs), .val (.int tt), .val (.long vv), .second, .val (.long ss), .second, .val (.int us), .unset, .unset] [(.int tt), (.int us)])) t → Steps p.tables e below (s₁.setTop (entryFrame m #[(.int p1), (.int p2), (.int p3), (.int p4), (.int p5), (.int p6)] maxLocals)) t := by
    intro t kt
    refine go26 t ?_
    show Steps p.tables e below (T21.setTop (mkF m 192 #[.val (.int p1), .val (.int p2), .val (.int p3), .val (.int p4), .val (.int p5), .val (.int p6), .val (.int hh), .val (.int b2), .val (.int b1), .val (.int b0), .val (.int s1), .val (.int s2), .val (.int kk), .val (.ref b8), .val (.ref b12), .val (.int got), .val (.int ov), .val (.int cs), .val (.int tt), .val (.long vv), .second, .val (.long ss), .second, .val (.int us), .unset, .unset] [])) _
    refine XS.iload X21.here hx rfl (hb hby at_192) rfl ?_
    show Steps p.tables e below (T21.setTop (mkF m 194 #[.val (.int p1), .val (.int p2), .val (.int p3), .val (.int p4), .val (.int p5), .val (.int p6), .val (.int hh), .val (.int b2), .val (.int b1), .val (.int b0), .val (.int s1), .val (.int s2), .val (.int kk), .val (.ref b8), .val (.ref b12), .val (.int got), .val (.int ov), .val (.int cs), .val (.int tt), .val (.long vv), .second, .val (.long ss), .second, .val (.int us), .unset, .unset] [(.int us)])) _
    refine XS.iload X21.here hx rfl (hb hby at_194) rfl ?_
    exact kt
  obtain ⟨wn, hwn⟩ : ∃ z : Int64, z = (if us < tt then ((((ss <<< ((32 : Int32) &&& 0x3f).toInt64).toUInt64 >>> ((((tt + (32 : Int32)) - us) - kk) &&& 0x3f).toInt64.toUInt64).toInt64) &&& (((1 : Int64) <<< (kk &&& 0x3f).toInt64) - (1 : Int64))) else (0 : Int64)) := ⟨_, rfl⟩
  have go28 : ∀ t, Steps p.tables e below (T21.setTop (mkF m 231 #[.val (.int p1), .val (.int p2), .val (.int p3), .val (.int p4), .val (.int p5), .val (.int p6), .val (.int hh), .val (.int b2), .val (.int b1), .val (.int b0), .val (.int s1), .val (.int s2), .val (.int kk), .val (.ref b8), .val (.ref b12), .val (.int got), .val (.int ov), .val (.int cs), .val (.int tt), .val (.long vv), .second, .val (.long ss), .second, .val (.int us), .val (.long wn), .second] [])) t → Steps p.tables e below (s₁.setTop (entryFrame m #[(.int p1), (.int p2), (.int p3), (.int p4), (.int p5), (.int p6)] maxLocals)) t := by
    intro t kt
    refine go27 t ?_
    by_cases hj : us < tt
    · rw [hwn, if_pos hj] at kt
      show Steps p.tables e below (T21.setTop (mkF m 196 #[.val (.int p1), .val (.int p2), .val (.int p3), .val (.int p4), .val (.int p5), .val (.int p6), .val (.int hh), .val (.int b2), .val (.int b1), .val (.int b0), .val (.int s1), .val (.int s2), .val (.int kk), .val (.ref b8), .val (.ref b12), .val (.int got), .val (.int ov), .val (.int cs), .val (.int tt), .val (.long vv), .second, .val (.long ss), .second, .val (.int us), .unset, .unset] [(.int tt), (.int us)])) _
      refine XS.icmpYes X21.here hx rfl (pc0 := 196) (pc' := 205) rfl (hb hby at_196) rfl (tlt hj).1 (by decide) (by decide) ?_
      show Steps p.tables e below (T21.setTop (mkF m 205 #[.val (.int p1), .val (.int p2), .val (.int p3), .val (.int p4), .val (.int p5), .val (.int p6), .val (.int hh), .val (.int b2), .val (.int b1), .val (.int b0), .val (.int s1), .val (.int s2), .val (.int kk), .val (.ref b8), .val (.ref b12), .val (.int got), .val (.int ov), .val (.int cs), .val (.int tt), .val (.long vv), .second, .val (.long ss), .second, .val (.int us), .unset, .unset] [])) _
      refine XS.lload X21.here hx rfl (hb hby at_205) rfl ?_
      show Steps p.tables e below (T21.setTop (mkF m 207 #[.val (.int p1), .val (.int p2), .val (.int p3), .val (.int p4), .val (.int p5), .val (.int p6), .val (.int hh), .val (.int b2), .val (.int b1), .val (.int b0), .val (.int s1), .val (.int s2), .val (.int kk), .val (.ref b8), .val (.ref b12), .val (.int got), .val (.int ov), .val (.int cs), .val (.int tt), .val (.long vv), .second, .val (.long ss), .second, .val (.int us), .unset, .unset] [(.long ss)])) _
      refine XS.bipush X21.here hx rfl (hb hby at_207) ?_
      show Steps p.tables e below (T21.setTop (mkF m 209 #[.val (.int p1), .val (.int p2), .val (.int p3), .val (.int p4), .val (.int p5), .val (.int p6), .val (.int hh), .val (.int b2), .val (.int b1), .val (.int b0), .val (.int s1), .val (.int s2), .val (.int kk), .val (.ref b8), .val (.ref b12), .val (.int got), .val (.int ov), .val (.int cs), .val (.int tt), .val (.long vv), .second, .val (.long ss), .second, .val (.int us), .unset, .unset] [(.int (32 : Int32)), (.long ss)])) _
      refine XS.lshl X21.here hx rfl (hb hby at_209) rfl ?_
      show Steps p.tables e below (T21.setTop (mkF m 210 #[.val (.int p1), .val (.int p2), .val (.int p3), .val (.int p4), .val (.int p5), .val (.int p6), .val (.int hh), .val (.int b2), .val (.int b1), .val (.int b0), .val (.int s1), .val (.int s2), .val (.int kk), .val (.ref b8), .val (.ref b12), .val (.int got), .val (.int ov), .val (.int cs), .val (.int tt), .val (.long vv), .second, .val (.long ss), .second, .val (.int us), .unset, .unset] [(.long (ss <<< ((32 : Int32) &&& 0x3f).toInt64))])) _
      refine XS.iload X21.here hx rfl (hb hby at_210) rfl ?_
      show Steps p.tables e below (T21.setTop (mkF m 212 #[.val (.int p1), .val (.int p2), .val (.int p3), .val (.int p4), .val (.int p5), .val (.int p6), .val (.int hh), .val (.int b2), .val (.int b1), .val (.int b0), .val (.int s1), .val (.int s2), .val (.int kk), .val (.ref b8), .val (.ref b12), .val (.int got), .val (.int ov), .val (.int cs), .val (.int tt), .val (.long vv), .second, .val (.long ss), .second, .val (.int us), .unset, .unset] [(.int tt), (.long (ss <<< ((32 : Int32) &&& 0x3f).toInt64))])) _
      refine XS.bipush X21.here hx rfl (hb hby at_212) ?_
      show Steps p.tables e below (T21.setTop (mkF m 214 #[.val (.int p1), .val (.int p2), .val (.int p3), .val (.int p4), .val (.int p5), .val (.int p6), .val (.int hh), .val (.int b2), .val (.int b1), .val (.int b0), .val (.int s1), .val (.int s2), .val (.int kk), .val (.ref b8), .val (.ref b12), .val (.int got), .val (.int ov), .val (.int cs), .val (.int tt), .val (.long vv), .second, .val (.long ss), .second, .val (.int us), .unset, .unset] [(.int (32 : Int32)), (.int tt), (.long (ss <<< ((32 : Int32) &&& 0x3f).toInt64))])) _
      refine XS.iadd X21.here hx rfl (hb hby at_214) rfl ?_
      show Steps p.tables e below (T21.setTop (mkF m 215 #[.val (.int p1), .val (.int p2), .val (.int p3), .val (.int p4), .val (.int p5), .val (.int p6), .val (.int hh), .val (.int b2), .val (.int b1), .val (.int b0), .val (.int s1), .val (.int s2), .val (.int kk), .val (.ref b8), .val (.ref b12), .val (.int got), .val (.int ov), .val (.int cs), .val (.int tt), .val (.long vv), .second, .val (.long ss), .second, .val (.int us), .unset, .unset] [(.int (tt + (32 : Int32))), (.long (ss <<< ((32 : Int32) &&& 0x3f).toInt64))])) _
      refine XS.iload X21.here hx rfl (hb hby at_215) rfl ?_
      show Steps p.tables e below (T21.setTop (mkF m 217 #[.val (.int p1), .val (.int p2), .val (.int p3), .val (.int p4), .val (.int p5), .val (.int p6), .val (.int hh), .val (.int b2), .val (.int b1), .val (.int b0), .val (.int s1), .val (.int s2), .val (.int kk), .val (.ref b8), .val (.ref b12), .val (.int got), .val (.int ov), .val (.int cs), .val (.int tt), .val (.long vv), .second, .val (.long ss), .second, .val (.int us), .unset, .unset] [(.int us), (.int (tt + (32 : Int32))), (.long (ss <<< ((32 : Int32) &&& 0x3f).toInt64))])) _
      refine XS.isub X21.here hx rfl (hb hby at_217) rfl ?_
      show Steps p.tables e below (T21.setTop (mkF m 218 #[.val (.int p1), .val (.int p2), .val (.int p3), .val (.int p4), .val (.int p5), .val (.int p6), .val (.int hh), .val (.int b2), .val (.int b1), .val (.int b0), .val (.int s1), .val (.int s2), .val (.int kk), .val (.ref b8), .val (.ref b12), .val (.int got), .val (.int ov), .val (.int cs), .val (.int tt), .val (.long vv), .second, .val (.long ss), .second, .val (.int us), .unset, .unset] [(.int ((tt + (32 : Int32)) - us)), (.long (ss <<< ((32 : Int32) &&& 0x3f).toInt64))])) _
      refine XS.iload X21.here hx rfl (hb hby at_218) rfl ?_
      show Steps p.tables e below (T21.setTop (mkF m 220 #[.val (.int p1), .val (.int p2), .val (.int p3), .val (.int p4), .val (.int p5), .val (.int p6), .val (.int hh), .val (.int b2), .val (.int b1), .val (.int b0), .val (.int s1), .val (.int s2), .val (.int kk), .val (.ref b8), .val (.ref b12), .val (.int got), .val (.int ov), .val (.int cs), .val (.int tt), .val (.long vv), .second, .val (.long ss), .second, .val (.int us), .unset, .unset] [(.int kk), (.int ((tt + (32 : Int32)) - us)), (.long (ss <<< ((32 : Int32) &&& 0x3f).toInt64))])) _
      refine XS.isub X21.here hx rfl (hb hby at_220) rfl ?_
      show Steps p.tables e below (T21.setTop (mkF m 221 #[.val (.int p1), .val (.int p2), .val (.int p3), .val (.int p4), .val (.int p5), .val (.int p6), .val (.int hh), .val (.int b2), .val (.int b1), .val (.int b0), .val (.int s1), .val (.int s2), .val (.int kk), .val (.ref b8), .val (.ref b12), .val (.int got), .val (.int ov), .val (.int cs), .val (.int tt), .val (.long vv), .second, .val (.long ss), .second, .val (.int us), .unset, .unset] [(.int (((tt + (32 : Int32)) - us) - kk)), (.long (ss <<< ((32 : Int32) &&& 0x3f).toInt64))])) _
      refine XS.lushr X21.here hx rfl (hb hby at_221) rfl ?_
      show Steps p.tables e below (T21.setTop (mkF m 222 #[.val (.int p1), .val (.int p2), .val (.int p3), .val (.int p4), .val (.int p5), .val (.int p6), .val (.int hh), .val (.int b2), .val (.int b1), .val (.int b0), .val (.int s1), .val (.int s2), .val (.int kk), .val (.ref b8), .val (.ref b12), .val (.int got), .val (.int ov), .val (.int cs), .val (.int tt), .val (.long vv), .second, .val (.long ss), .second, .val (.int us), .unset, .unset] [(.long (((ss <<< ((32 : Int32) &&& 0x3f).toInt64).toUInt64 >>> ((((tt + (32 : Int32)) - us) - kk) &&& 0x3f).toInt64.toUInt64).toInt64))])) _
      refine XS.lconst X21.here hx rfl (hb hby at_222) ?_
      show Steps p.tables e below (T21.setTop (mkF m 223 #[.val (.int p1), .val (.int p2), .val (.int p3), .val (.int p4), .val (.int p5), .val (.int p6), .val (.int hh), .val (.int b2), .val (.int b1), .val (.int b0), .val (.int s1), .val (.int s2), .val (.int kk), .val (.ref b8), .val (.ref b12), .val (.int got), .val (.int ov), .val (.int cs), .val (.int tt), .val (.long vv), .second, .val (.long ss), .second, .val (.int us), .unset, .unset] [(.long (1 : Int64)), (.long (((ss <<< ((32 : Int32) &&& 0x3f).toInt64).toUInt64 >>> ((((tt + (32 : Int32)) - us) - kk) &&& 0x3f).toInt64.toUInt64).toInt64))])) _
      refine XS.iload X21.here hx rfl (hb hby at_223) rfl ?_
      show Steps p.tables e below (T21.setTop (mkF m 225 #[.val (.int p1), .val (.int p2), .val (.int p3), .val (.int p4), .val (.int p5), .val (.int p6), .val (.int hh), .val (.int b2), .val (.int b1), .val (.int b0), .val (.int s1), .val (.int s2), .val (.int kk), .val (.ref b8), .val (.ref b12), .val (.int got), .val (.int ov), .val (.int cs), .val (.int tt), .val (.long vv), .second, .val (.long ss), .second, .val (.int us), .unset, .unset] [(.int kk), (.long (1 : Int64)), (.long (((ss <<< ((32 : Int32) &&& 0x3f).toInt64).toUInt64 >>> ((((tt + (32 : Int32)) - us) - kk) &&& 0x3f).toInt64.toUInt64).toInt64))])) _
      refine XS.lshl X21.here hx rfl (hb hby at_225) rfl ?_
      show Steps p.tables e below (T21.setTop (mkF m 226 #[.val (.int p1), .val (.int p2), .val (.int p3), .val (.int p4), .val (.int p5), .val (.int p6), .val (.int hh), .val (.int b2), .val (.int b1), .val (.int b0), .val (.int s1), .val (.int s2), .val (.int kk), .val (.ref b8), .val (.ref b12), .val (.int got), .val (.int ov), .val (.int cs), .val (.int tt), .val (.long vv), .second, .val (.long ss), .second, .val (.int us), .unset, .unset] [(.long ((1 : Int64) <<< (kk &&& 0x3f).toInt64)), (.long (((ss <<< ((32 : Int32) &&& 0x3f).toInt64).toUInt64 >>> ((((tt + (32 : Int32)) - us) - kk) &&& 0x3f).toInt64.toUInt64).toInt64))])) _
      refine XS.lconst X21.here hx rfl (hb hby at_226) ?_
      show Steps p.tables e below (T21.setTop (mkF m 227 #[.val (.int p1), .val (.int p2), .val (.int p3), .val (.int p4), .val (.int p5), .val (.int p6), .val (.int hh), .val (.int b2), .val (.int b1), .val (.int b0), .val (.int s1), .val (.int s2), .val (.int kk), .val (.ref b8), .val (.ref b12), .val (.int got), .val (.int ov), .val (.int cs), .val (.int tt), .val (.long vv), .second, .val (.long ss), .second, .val (.int us), .unset, .unset] [(.long (1 : Int64)), (.long ((1 : Int64) <<< (kk &&& 0x3f).toInt64)), (.long (((ss <<< ((32 : Int32) &&& 0x3f).toInt64).toUInt64 >>> ((((tt + (32 : Int32)) - us) - kk) &&& 0x3f).toInt64.toUInt64).toInt64))])) _
      refine XS.lsub X21.here hx rfl (hb hby at_227) rfl ?_
      show Steps p.tables e below (T21.setTop (mkF m 228 #[.val (.int p1), .val (.int p2), .val (.int p3), .val (.int p4), .val (.int p5), .val (.int p6), .val (.int hh), .val (.int b2), .val (.int b1), .val (.int b0), .val (.int s1), .val (.int s2), .val (.int kk), .val (.ref b8), .val (.ref b12), .val (.int got), .val (.int ov), .val (.int cs), .val (.int tt), .val (.long vv), .second, .val (.long ss), .second, .val (.int us), .unset, .unset] [(.long (((1 : Int64) <<< (kk &&& 0x3f).toInt64) - (1 : Int64))), (.long (((ss <<< ((32 : Int32) &&& 0x3f).toInt64).toUInt64 >>> ((((tt + (32 : Int32)) - us) - kk) &&& 0x3f).toInt64.toUInt64).toInt64))])) _
      refine XS.land X21.here hx rfl (hb hby at_228) rfl ?_
      show Steps p.tables e below (T21.setTop (mkF m 229 #[.val (.int p1), .val (.int p2), .val (.int p3), .val (.int p4), .val (.int p5), .val (.int p6), .val (.int hh), .val (.int b2), .val (.int b1), .val (.int b0), .val (.int s1), .val (.int s2), .val (.int kk), .val (.ref b8), .val (.ref b12), .val (.int got), .val (.int ov), .val (.int cs), .val (.int tt), .val (.long vv), .second, .val (.long ss), .second, .val (.int us), .unset, .unset] [(.long ((((ss <<< ((32 : Int32) &&& 0x3f).toInt64).toUInt64 >>> ((((tt + (32 : Int32)) - us) - kk) &&& 0x3f).toInt64.toUInt64).toInt64) &&& (((1 : Int64) <<< (kk &&& 0x3f).toInt64) - (1 : Int64))))])) _
      refine XS.lstore X21.here hx rfl (hb hby at_229) rfl (l' := #[.val (.int p1), .val (.int p2), .val (.int p3), .val (.int p4), .val (.int p5), .val (.int p6), .val (.int hh), .val (.int b2), .val (.int b1), .val (.int b0), .val (.int s1), .val (.int s2), .val (.int kk), .val (.ref b8), .val (.ref b12), .val (.int got), .val (.int ov), .val (.int cs), .val (.int tt), .val (.long vv), .second, .val (.long ss), .second, .val (.int us), .val (.long ((((ss <<< ((32 : Int32) &&& 0x3f).toInt64).toUInt64 >>> ((((tt + (32 : Int32)) - us) - kk) &&& 0x3f).toInt64.toUInt64).toInt64) &&& (((1 : Int64) <<< (kk &&& 0x3f).toInt64) - (1 : Int64)))), .second]) rfl ?_
      exact kt
    · rw [hwn, if_neg hj] at kt
      show Steps p.tables e below (T21.setTop (mkF m 196 #[.val (.int p1), .val (.int p2), .val (.int p3), .val (.int p4), .val (.int p5), .val (.int p6), .val (.int hh), .val (.int b2), .val (.int b1), .val (.int b0), .val (.int s1), .val (.int s2), .val (.int kk), .val (.ref b8), .val (.ref b12), .val (.int got), .val (.int ov), .val (.int cs), .val (.int tt), .val (.long vv), .second, .val (.long ss), .second, .val (.int us), .unset, .unset] [(.int tt), (.int us)])) _
      refine XS.icmpNo X21.here hx rfl (hb hby at_196) rfl (flt hj).1 ?_
      show Steps p.tables e below (T21.setTop (mkF m 199 #[.val (.int p1), .val (.int p2), .val (.int p3), .val (.int p4), .val (.int p5), .val (.int p6), .val (.int hh), .val (.int b2), .val (.int b1), .val (.int b0), .val (.int s1), .val (.int s2), .val (.int kk), .val (.ref b8), .val (.ref b12), .val (.int got), .val (.int ov), .val (.int cs), .val (.int tt), .val (.long vv), .second, .val (.long ss), .second, .val (.int us), .unset, .unset] [])) _
      refine XS.lconst X21.here hx rfl (hb hby at_199) ?_
      show Steps p.tables e below (T21.setTop (mkF m 200 #[.val (.int p1), .val (.int p2), .val (.int p3), .val (.int p4), .val (.int p5), .val (.int p6), .val (.int hh), .val (.int b2), .val (.int b1), .val (.int b0), .val (.int s1), .val (.int s2), .val (.int kk), .val (.ref b8), .val (.ref b12), .val (.int got), .val (.int ov), .val (.int cs), .val (.int tt), .val (.long vv), .second, .val (.long ss), .second, .val (.int us), .unset, .unset] [(.long (0 : Int64))])) _
      refine XS.lstore X21.here hx rfl (hb hby at_200) rfl (l' := #[.val (.int p1), .val (.int p2), .val (.int p3), .val (.int p4), .val (.int p5), .val (.int p6), .val (.int hh), .val (.int b2), .val (.int b1), .val (.int b0), .val (.int s1), .val (.int s2), .val (.int kk), .val (.ref b8), .val (.ref b12), .val (.int got), .val (.int ov), .val (.int cs), .val (.int tt), .val (.long vv), .second, .val (.long ss), .second, .val (.int us), .val (.long (0 : Int64)), .second]) rfl ?_
      show Steps p.tables e below (T21.setTop (mkF m 202 #[.val (.int p1), .val (.int p2), .val (.int p3), .val (.int p4), .val (.int p5), .val (.int p6), .val (.int hh), .val (.int b2), .val (.int b1), .val (.int b0), .val (.int s1), .val (.int s2), .val (.int kk), .val (.ref b8), .val (.ref b12), .val (.int got), .val (.int ov), .val (.int cs), .val (.int tt), .val (.long vv), .second, .val (.long ss), .second, .val (.int us), .val (.long (0 : Int64)), .second] [])) _
      refine XS.goto X21.here hx rfl (pc0 := 202) (pc' := 231) rfl (hb hby at_202) (by decide) (by decide) ?_
      exact kt
  have go29 : ∀ t, Steps p.tables e below (T21.setTop (mkF m 245 #[.val (.int p1), .val (.int p2), .val (.int p3), .val (.int p4), .val (.int p5), .val (.int p6), .val (.int hh), .val (.int b2), .val (.int b1), .val (.int b0), .val (.int s1), .val (.int s2), .val (.int kk), .val (.ref b8), .val (.ref b12), .val (.int got), .val (.int ov), .val (.int cs), .val (.int tt), .val (.long vv), .second, .val (.long ss), .second, .val (.int us), .val (.long wn), .second] [(.int tt), (.int us), (.int ov)])) t → Steps p.tables e below (s₁.setTop (entryFrame m #[(.int p1), (.int p2), (.int p3), (.int p4), (.int p5), (.int p6)] maxLocals)) t := by
    intro t kt
    refine go28 t ?_
    show Steps p.tables e below (T21.setTop (mkF m 231 #[.val (.int p1), .val (.int p2), .val (.int p3), .val (.int p4), .val (.int p5), .val (.int p6), .val (.int hh), .val (.int b2), .val (.int b1), .val (.int b0), .val (.int s1), .val (.int s2), .val (.int kk), .val (.ref b8), .val (.ref b12), .val (.int got), .val (.int ov), .val (.int cs), .val (.int tt), .val (.long vv), .second, .val (.long ss), .second, .val (.int us), .val (.long wn), .second] [])) _
    refine XS.iload X21.here hx rfl (hb hby at_231) rfl ?_
    show Steps p.tables e below (T21.setTop (mkF m 233 #[.val (.int p1), .val (.int p2), .val (.int p3), .val (.int p4), .val (.int p5), .val (.int p6), .val (.int hh), .val (.int b2), .val (.int b1), .val (.int b0), .val (.int s1), .val (.int s2), .val (.int kk), .val (.ref b8), .val (.ref b12), .val (.int got), .val (.int ov), .val (.int cs), .val (.int tt), .val (.long vv), .second, .val (.long ss), .second, .val (.int us), .val (.long wn), .second] [(.int got)])) _
    refine XS.lload X21.here hx rfl (hb hby at_233) rfl ?_
    show Steps p.tables e below (T21.setTop (mkF m 235 #[.val (.int p1), .val (.int p2), .val (.int p3), .val (.int p4), .val (.int p5), .val (.int p6), .val (.int hh), .val (.int b2), .val (.int b1), .val (.int b0), .val (.int s1), .val (.int s2), .val (.int kk), .val (.ref b8), .val (.ref b12), .val (.int got), .val (.int ov), .val (.int cs), .val (.int tt), .val (.long vv), .second, .val (.long ss), .second, .val (.int us), .val (.long wn), .second] [(.long wn), (.int got)])) _
    refine XS.l2i X21.here hx rfl (hb hby at_235) rfl ?_
    show Steps p.tables e below (T21.setTop (mkF m 236 #[.val (.int p1), .val (.int p2), .val (.int p3), .val (.int p4), .val (.int p5), .val (.int p6), .val (.int hh), .val (.int b2), .val (.int b1), .val (.int b0), .val (.int s1), .val (.int s2), .val (.int kk), .val (.ref b8), .val (.ref b12), .val (.int got), .val (.int ov), .val (.int cs), .val (.int tt), .val (.long vv), .second, .val (.long ss), .second, .val (.int us), .val (.long wn), .second] [(.int (wn.toInt32)), (.int got)])) _
    refine XS.icmpNo X21.here hx rfl (hb hby at_236) rfl (teq (own_k1 fh f2 f1 f0 fs1 fs2 fk hgot htt hvv hss hus hwn)).2 ?_
    show Steps p.tables e below (T21.setTop (mkF m 239 #[.val (.int p1), .val (.int p2), .val (.int p3), .val (.int p4), .val (.int p5), .val (.int p6), .val (.int hh), .val (.int b2), .val (.int b1), .val (.int b0), .val (.int s1), .val (.int s2), .val (.int kk), .val (.ref b8), .val (.ref b12), .val (.int got), .val (.int ov), .val (.int cs), .val (.int tt), .val (.long vv), .second, .val (.long ss), .second, .val (.int us), .val (.long wn), .second] [])) _
    refine XS.iload X21.here hx rfl (hb hby at_239) rfl ?_
    show Steps p.tables e below (T21.setTop (mkF m 241 #[.val (.int p1), .val (.int p2), .val (.int p3), .val (.int p4), .val (.int p5), .val (.int p6), .val (.int hh), .val (.int b2), .val (.int b1), .val (.int b0), .val (.int s1), .val (.int s2), .val (.int kk), .val (.ref b8), .val (.ref b12), .val (.int got), .val (.int ov), .val (.int cs), .val (.int tt), .val (.long vv), .second, .val (.long ss), .second, .val (.int us), .val (.long wn), .second] [(.int ov)])) _
    refine XS.iload X21.here hx rfl (hb hby at_241) rfl ?_
    show Steps p.tables e below (T21.setTop (mkF m 243 #[.val (.int p1), .val (.int p2), .val (.int p3), .val (.int p4), .val (.int p5), .val (.int p6), .val (.int hh), .val (.int b2), .val (.int b1), .val (.int b0), .val (.int s1), .val (.int s2), .val (.int kk), .val (.ref b8), .val (.ref b12), .val (.int got), .val (.int ov), .val (.int cs), .val (.int tt), .val (.long vv), .second, .val (.long ss), .second, .val (.int us), .val (.long wn), .second] [(.int us), (.int ov)])) _
    refine XS.iload X21.here hx rfl (hb hby at_243) rfl ?_
    exact kt
  obtain ⟨ro, hro⟩ : ∃ z : Int32, z = (if tt < us then (1 : Int32) else (0 : Int32)) := ⟨_, rfl⟩
  have go30 : ∀ t, Steps p.tables e below (T21.setTop (mkF m 253 #[.val (.int p1), .val (.int p2), .val (.int p3), .val (.int p4), .val (.int p5), .val (.int p6), .val (.int hh), .val (.int b2), .val (.int b1), .val (.int b0), .val (.int s1), .val (.int s2), .val (.int kk), .val (.ref b8), .val (.ref b12), .val (.int got), .val (.int ov), .val (.int cs), .val (.int tt), .val (.long vv), .second, .val (.long ss), .second, .val (.int us), .val (.long wn), .second] [(.int ro), (.int ov)])) t → Steps p.tables e below (s₁.setTop (entryFrame m #[(.int p1), (.int p2), (.int p3), (.int p4), (.int p5), (.int p6)] maxLocals)) t := by
    intro t kt
    refine go29 t ?_
    by_cases hj : tt < us
    · rw [hro, if_pos hj] at kt
      show Steps p.tables e below (T21.setTop (mkF m 245 #[.val (.int p1), .val (.int p2), .val (.int p3), .val (.int p4), .val (.int p5), .val (.int p6), .val (.int hh), .val (.int b2), .val (.int b1), .val (.int b0), .val (.int s1), .val (.int s2), .val (.int kk), .val (.ref b8), .val (.ref b12), .val (.int got), .val (.int ov), .val (.int cs), .val (.int tt), .val (.long vv), .second, .val (.long ss), .second, .val (.int us), .val (.long wn), .second] [(.int tt), (.int us), (.int ov)])) _
      refine XS.icmpNo X21.here hx rfl (hb hby at_245) rfl (tlt hj).2.2.2 ?_
      show Steps p.tables e below (T21.setTop (mkF m 248 #[.val (.int p1), .val (.int p2), .val (.int p3), .val (.int p4), .val (.int p5), .val (.int p6), .val (.int hh), .val (.int b2), .val (.int b1), .val (.int b0), .val (.int s1), .val (.int s2), .val (.int kk), .val (.ref b8), .val (.ref b12), .val (.int got), .val (.int ov), .val (.int cs), .val (.int tt), .val (.long vv), .second, .val (.long ss), .second, .val (.int us), .val (.long wn), .second] [(.int ov)])) _
      refine XS.iconst X21.here hx rfl (hb hby at_248) ?_
      show Steps p.tables e below (T21.setTop (mkF m 249 #[.val (.int p1), .val (.int p2), .val (.int p3), .val (.int p4), .val (.int p5), .val (.int p6), .val (.int hh), .val (.int b2), .val (.int b1), .val (.int b0), .val (.int s1), .val (.int s2), .val (.int kk), .val (.ref b8), .val (.ref b12), .val (.int got), .val (.int ov), .val (.int cs), .val (.int tt), .val (.long vv), .second, .val (.long ss), .second, .val (.int us), .val (.long wn), .second] [(.int (1 : Int32)), (.int ov)])) _
      refine XS.goto X21.here hx rfl (pc0 := 249) (pc' := 253) rfl (hb hby at_249) (by decide) (by decide) ?_
      exact kt
    · rw [hro, if_neg hj] at kt
      show Steps p.tables e below (T21.setTop (mkF m 245 #[.val (.int p1), .val (.int p2), .val (.int p3), .val (.int p4), .val (.int p5), .val (.int p6), .val (.int hh), .val (.int b2), .val (.int b1), .val (.int b0), .val (.int s1), .val (.int s2), .val (.int kk), .val (.ref b8), .val (.ref b12), .val (.int got), .val (.int ov), .val (.int cs), .val (.int tt), .val (.long vv), .second, .val (.long ss), .second, .val (.int us), .val (.long wn), .second] [(.int tt), (.int us), (.int ov)])) _
      refine XS.icmpYes X21.here hx rfl (pc0 := 245) (pc' := 252) rfl (hb hby at_245) rfl (flt hj).2.2.2 (by decide) (by decide) ?_
      show Steps p.tables e below (T21.setTop (mkF m 252 #[.val (.int p1), .val (.int p2), .val (.int p3), .val (.int p4), .val (.int p5), .val (.int p6), .val (.int hh), .val (.int b2), .val (.int b1), .val (.int b0), .val (.int s1), .val (.int s2), .val (.int kk), .val (.ref b8), .val (.ref b12), .val (.int got), .val (.int ov), .val (.int cs), .val (.int tt), .val (.long vv), .second, .val (.long ss), .second, .val (.int us), .val (.long wn), .second] [(.int ov)])) _
      refine XS.iconst X21.here hx rfl (hb hby at_252) ?_
      exact kt
  have go31 : ∀ t, Steps p.tables e below (T21.setTop (mkF m 262 #[.val (.int p1), .val (.int p2), .val (.int p3), .val (.int p4), .val (.int p5), .val (.int p6), .val (.int hh), .val (.int b2), .val (.int b1), .val (.int b0), .val (.int s1), .val (.int s2), .val (.int kk), .val (.ref b8), .val (.ref b12), .val (.int got), .val (.int ov), .val (.int cs), .val (.int tt), .val (.long vv), .second, .val (.long ss), .second, .val (.int us), .val (.long wn), .second] [(.int tt), (.int us), (.int cs)])) t → Steps p.tables e below (s₁.setTop (entryFrame m #[(.int p1), (.int p2), (.int p3), (.int p4), (.int p5), (.int p6)] maxLocals)) t := by
    intro t kt
    refine go30 t ?_
    show Steps p.tables e below (T21.setTop (mkF m 253 #[.val (.int p1), .val (.int p2), .val (.int p3), .val (.int p4), .val (.int p5), .val (.int p6), .val (.int hh), .val (.int b2), .val (.int b1), .val (.int b0), .val (.int s1), .val (.int s2), .val (.int kk), .val (.ref b8), .val (.ref b12), .val (.int got), .val (.int ov), .val (.int cs), .val (.int tt), .val (.long vv), .second, .val (.long ss), .second, .val (.int us), .val (.long wn), .second] [(.int ro), (.int ov)])) _
    refine XS.icmpNo X21.here hx rfl (hb hby at_253) rfl (teq (own_k2 fh fs1 fs2 hov htt hus hro)).2 ?_
    show Steps p.tables e below (T21.setTop (mkF m 256 #[.val (.int p1), .val (.int p2), .val (.int p3), .val (.int p4), .val (.int p5), .val (.int p6), .val (.int hh), .val (.int b2), .val (.int b1), .val (.int b0), .val (.int s1), .val (.int s2), .val (.int kk), .val (.ref b8), .val (.ref b12), .val (.int got), .val (.int ov), .val (.int cs), .val (.int tt), .val (.long vv), .second, .val (.long ss), .second, .val (.int us), .val (.long wn), .second] [])) _
    refine XS.iload X21.here hx rfl (hb hby at_256) rfl ?_
    show Steps p.tables e below (T21.setTop (mkF m 258 #[.val (.int p1), .val (.int p2), .val (.int p3), .val (.int p4), .val (.int p5), .val (.int p6), .val (.int hh), .val (.int b2), .val (.int b1), .val (.int b0), .val (.int s1), .val (.int s2), .val (.int kk), .val (.ref b8), .val (.ref b12), .val (.int got), .val (.int ov), .val (.int cs), .val (.int tt), .val (.long vv), .second, .val (.long ss), .second, .val (.int us), .val (.long wn), .second] [(.int cs)])) _
    refine XS.iload X21.here hx rfl (hb hby at_258) rfl ?_
    show Steps p.tables e below (T21.setTop (mkF m 260 #[.val (.int p1), .val (.int p2), .val (.int p3), .val (.int p4), .val (.int p5), .val (.int p6), .val (.int hh), .val (.int b2), .val (.int b1), .val (.int b0), .val (.int s1), .val (.int s2), .val (.int kk), .val (.ref b8), .val (.ref b12), .val (.int got), .val (.int ov), .val (.int cs), .val (.int tt), .val (.long vv), .second, .val (.long ss), .second, .val (.int us), .val (.long wn), .second] [(.int us), (.int cs)])) _
    refine XS.iload X21.here hx rfl (hb hby at_260) rfl ?_
    exact kt
  obtain ⟨rc, hrc⟩ : ∃ z : Int32, z = (if us = tt then (1 : Int32) else (0 : Int32)) := ⟨_, rfl⟩
  have go32 : ∀ t, Steps p.tables e below (T21.setTop (mkF m 270 #[.val (.int p1), .val (.int p2), .val (.int p3), .val (.int p4), .val (.int p5), .val (.int p6), .val (.int hh), .val (.int b2), .val (.int b1), .val (.int b0), .val (.int s1), .val (.int s2), .val (.int kk), .val (.ref b8), .val (.ref b12), .val (.int got), .val (.int ov), .val (.int cs), .val (.int tt), .val (.long vv), .second, .val (.long ss), .second, .val (.int us), .val (.long wn), .second] [(.int rc), (.int cs)])) t → Steps p.tables e below (s₁.setTop (entryFrame m #[(.int p1), (.int p2), (.int p3), (.int p4), (.int p5), (.int p6)] maxLocals)) t := by
    intro t kt
    refine go31 t ?_
    by_cases hj : us = tt
    · rw [hrc, if_pos hj] at kt
      show Steps p.tables e below (T21.setTop (mkF m 262 #[.val (.int p1), .val (.int p2), .val (.int p3), .val (.int p4), .val (.int p5), .val (.int p6), .val (.int hh), .val (.int b2), .val (.int b1), .val (.int b0), .val (.int s1), .val (.int s2), .val (.int kk), .val (.ref b8), .val (.ref b12), .val (.int got), .val (.int ov), .val (.int cs), .val (.int tt), .val (.long vv), .second, .val (.long ss), .second, .val (.int us), .val (.long wn), .second] [(.int tt), (.int us), (.int cs)])) _
      refine XS.icmpNo X21.here hx rfl (hb hby at_262) rfl (teq hj).2 ?_
      show Steps p.tables e below (T21.setTop (mkF m 265 #[.val (.int p1), .val (.int p2), .val (.int p3), .val (.int p4), .val (.int p5), .val (.int p6), .val (.int hh), .val (.int b2), .val (.int b1), .val (.int b0), .val (.int s1), .val (.int s2), .val (.int kk), .val (.ref b8), .val (.ref b12), .val (.int got), .val (.int ov), .val (.int cs), .val (.int tt), .val (.long vv), .second, .val (.long ss), .second, .val (.int us), .val (.long wn), .second] [(.int cs)])) _
      refine XS.iconst X21.here hx rfl (hb hby at_265) ?_
      show Steps p.tables e below (T21.setTop (mkF m 266 #[.val (.int p1), .val (.int p2), .val (.int p3), .val (.int p4), .val (.int p5), .val (.int p6), .val (.int hh), .val (.int b2), .val (.int b1), .val (.int b0), .val (.int s1), .val (.int s2), .val (.int kk), .val (.ref b8), .val (.ref b12), .val (.int got), .val (.int ov), .val (.int cs), .val (.int tt), .val (.long vv), .second, .val (.long ss), .second, .val (.int us), .val (.long wn), .second] [(.int (1 : Int32)), (.int cs)])) _
      refine XS.goto X21.here hx rfl (pc0 := 266) (pc' := 270) rfl (hb hby at_266) (by decide) (by decide) ?_
      exact kt
    · rw [hrc, if_neg hj] at kt
      show Steps p.tables e below (T21.setTop (mkF m 262 #[.val (.int p1), .val (.int p2), .val (.int p3), .val (.int p4), .val (.int p5), .val (.int p6), .val (.int hh), .val (.int b2), .val (.int b1), .val (.int b0), .val (.int s1), .val (.int s2), .val (.int kk), .val (.ref b8), .val (.ref b12), .val (.int got), .val (.int ov), .val (.int cs), .val (.int tt), .val (.long vv), .second, .val (.long ss), .second, .val (.int us), .val (.long wn), .second] [(.int tt), (.int us), (.int cs)])) _
      refine XS.icmpYes X21.here hx rfl (pc0 := 262) (pc' := 269) rfl (hb hby at_262) rfl (feq hj).2 (by decide) (by decide) ?_
      show Steps p.tables e below (T21.setTop (mkF m 269 #[.val (.int p1), .val (.int p2), .val (.int p3), .val (.int p4), .val (.int p5), .val (.int p6), .val (.int hh), .val (.int b2), .val (.int b1), .val (.int b0), .val (.int s1), .val (.int s2), .val (.int kk), .val (.ref b8), .val (.ref b12), .val (.int got), .val (.int ov), .val (.int cs), .val (.int tt), .val (.long vv), .second, .val (.long ss), .second, .val (.int us), .val (.long wn), .second] [(.int cs)])) _
      refine XS.iconst X21.here hx rfl (hb hby at_269) ?_
      exact kt
  obtain ⟨fs, hr, hrun, hended, hW, hsame⟩ := X21.leave (v := some (.int (1 : Int32))) (fun h => by rw [Bd.returns] at h; cases h)
  refine ⟨_, _, go32 _ ?_, hrun, hended, _, _, rfl, ?_, ⟨_, rfl⟩, hW, hsame.mono (by decide) (by decide)⟩
  · show Steps p.tables e below (T21.setTop (mkF m 270 #[.val (.int p1), .val (.int p2), .val (.int p3), .val (.int p4), .val (.int p5), .val (.int p6), .val (.int hh), .val (.int b2), .val (.int b1), .val (.int b0), .val (.int s1), .val (.int s2), .val (.int kk), .val (.ref b8), .val (.ref b12), .val (.int got), .val (.int ov), .val (.int cs), .val (.int tt), .val (.long vv), .second, .val (.long ss), .second, .val (.int us), .val (.long wn), .second] [(.int rc), (.int cs)])) _
    refine XS.icmpNo X21.here hx rfl (hb hby at_270) rfl (teq (own_k3 fh fs1 fs2 hcs htt hus hrc)).2 ?_
    show Steps p.tables e below (T21.setTop (mkF m 273 #[.val (.int p1), .val (.int p2), .val (.int p3), .val (.int p4), .val (.int p5), .val (.int p6), .val (.int hh), .val (.int b2), .val (.int b1), .val (.int b0), .val (.int s1), .val (.int s2), .val (.int kk), .val (.ref b8), .val (.ref b12), .val (.int got), .val (.int ov), .val (.int cs), .val (.int tt), .val (.long vv), .second, .val (.long ss), .second, .val (.int us), .val (.long wn), .second] [])) _
    refine XS.iconst X21.here hx rfl (hb hby at_273) ?_
    show Steps p.tables e below (T21.setTop (mkF m 274 #[.val (.int p1), .val (.int p2), .val (.int p3), .val (.int p4), .val (.int p5), .val (.int p6), .val (.int hh), .val (.int b2), .val (.int b1), .val (.int b0), .val (.int s1), .val (.int s2), .val (.int kk), .val (.ref b8), .val (.ref b12), .val (.int got), .val (.int ov), .val (.int cs), .val (.int tt), .val (.long vv), .second, .val (.long ss), .second, .val (.int us), .val (.long wn), .second] [(.int (1 : Int32))])) _
    refine XS.goto X21.here hx rfl (pc0 := 274) (pc' := 278) rfl (hb hby at_274) (by decide) (by decide) ?_
    show Steps p.tables e below (T21.setTop (mkF m 278 #[.val (.int p1), .val (.int p2), .val (.int p3), .val (.int p4), .val (.int p5), .val (.int p6), .val (.int hh), .val (.int b2), .val (.int b1), .val (.int b0), .val (.int s1), .val (.int s2), .val (.int kk), .val (.ref b8), .val (.ref b12), .val (.int got), .val (.int ov), .val (.int cs), .val (.int tt), .val (.long vv), .second, .val (.long ss), .second, .val (.int us), .val (.long wn), .second] [(.int (1 : Int32))])) _
    exact retN X21 hx (t := .boolean) Bd.returns (by simp) (hb hby at_278) hr
  · show Q0 Z p1 p2 p3 p4 p5 p6 h0 n0 _ T21.heap _
    rw [eh21]
    exact ⟨rfl, N21⟩
set_option maxRecDepth 65536 in
set_option maxHeartbeats 40000000 in
theorem comes_1 {Post : Tables → Env → Array Value → State → Outcome → State → Prop} (hpost : ∀ tb e args s v u, (limb_1_1.after args s (.returned v) u = true ∧ limb_1_2.after args s (.returned v) u = true ∧ True) → FrameEnd s (.returned v) u (Jvm.fieldLocs frame_1_writes args s ++ Jvm.arrayLocs frame_1_arrays args s ++ Jvm.staticLocs frame_1_statics s) 16 128 → Post tb e args s (.returned v) u) :
    ArmFor flags0 classFile x code maxLocals ret World_1 tables_1 room_1 Calls_1 rest_1 Pre_1 Post := by
  intro l hfl _ _ p e ha hc hk s m args below hf hA hF happ hP
  obtain ⟨hcalls, hrest, hpre⟩ := hP
  obtain ⟨-, -, -, hnamed, -, -, -, hat⟩ := (Spec.applies_iff hf).mp happ
  obtain ⟨hg, hn⟩ := and_e (Cond.before_iff.mp (show (Jvm.Cond.and given_1 narrow_1).before args s = true from hpre))
  obtain ⟨hcnt, hg0⟩ := and_e hg
  obtain ⟨ga0, gb0⟩ := and_e hg0
  obtain ⟨ga1, gb1⟩ := and_e gb0
  obtain ⟨ga2, gb2⟩ := and_e gb1
  obtain ⟨ga3, gb3⟩ := and_e gb2
  obtain ⟨ga4, gb4⟩ := and_e gb3
  obtain ⟨w0, w1, w2, w3, w4, w5, rfl⟩ : ∃ w0 w1 w2 w3 w4 w5 : Value, args = #[w0, w1, w2, w3, w4, w5] := by
    have hs : args.size = 6 := by simpa [Cond.value, given_1] using hcnt
    obtain ⟨L⟩ := args
    match L, hs with
    | [w0, w1, w2, w3, w4, w5], _ => exact ⟨w0, w1, w2, w3, w4, w5, rfl⟩
  have hw := fun d (hd : d ∈ tables_1) => atoms_spec (ws := Jvm.Cond.code x code maxLocals ret :: tables_1) hat d (List.mem_cons_of_mem _ hd)
  obtain ⟨i0, ei0⟩ := is_v ga0
  obtain rfl : w0 = (.int i0) := Option.some.inj ei0
  obtain ⟨i1, ei1⟩ := is_v ga1
  obtain rfl : w1 = (.int i1) := Option.some.inj ei1
  obtain ⟨i2, ei2⟩ := is_v ga2
  obtain rfl : w2 = (.int i2) := Option.some.inj ei2
  obtain ⟨i3, ei3⟩ := is_v ga3
  obtain rfl : w3 = (.int i3) := Option.some.inj ei3
  obtain ⟨i4, ei4⟩ := is_v ga4
  obtain rfl : w4 = (.int i4) := Option.some.inj ei4
  obtain ⟨i5, ei5⟩ := is_v gb4
  obtain rfl : w5 = (.int i5) := Option.some.inj ei5
  obtain ⟨n, o, h1, h2, h3, _, L, rfl, ⟨rfl, N⟩, hq⟩ := rm0 l s _ hw tables_1 i0 i1 i2 i3 i4 i5 s.heap s.heap.size (Nat.le_refl _) p e ha hc hk s m _ below hf ((Spec.applies_iff_loose hf).mp happ).1 ⟨rfl, State.Warmed39.refl s, rfl⟩ trivial
  refine ⟨n, _, h1, h2, h3, hpost _ _ _ _ _ _ ⟨Cond.after_iff.mpr rfl, Cond.after_iff.mpr (eq_i res_at (Term.int_eval (1)) rfl), trivial⟩ ⟨hq.1, hq.2.1, (hq.2.2.sift fun y hy => Or.inr (N y hy)).mono (by decide) (by decide)⟩⟩
theorem main_1_1 : Claimed_1_1 := comes_1 fun _ _ _ _ _ _ h hF => ⟨h.1, hF⟩
theorem main_1_2 : Claimed_1_2 := comes_1 fun _ _ _ _ _ _ h hF => ⟨h.2.1, hF⟩
end Jvm.Pilot.@@N@@
namespace Jvm.Pilot.@@N@@
open Jvm Jvm.ClassFile Sem Op Lib Jvm.Free Jvm.Stand Jvm.Pilot.@@N@@.Jvm.D
/-! MADE BY PROGRAM (witnessworld.py) out of the Statement's table words and the real class files: 14 classes; the members and pool entries that the words name. The judged class is class 1, her method 1. -/
namespace start1
open Jvm.ClassFile
def u (s : String) : CpInfo := .utf8 (stringToUtf16 s)
/-- a pool by its gaps: so many unusable entries, then the entry; so many at the end -/
def gap : Nat → List CpInfo → List CpInfo
  | 0, r => r
  | n + 1, r => .unusable :: gap n r
def poolList (es : List (Nat × CpInfo)) (last : Nat) : List CpInfo := es.foldr (fun e r => gap e.1 (e.2 :: r)) (gap last [])
def pool (es : List (Nat × CpInfo)) (last : Nat) : Array CpInfo := ⟨poolList es last⟩
def fileOf (pool : Array CpInfo) (this : Nat) (attrs : Array Attribute := #[]) (ms : Array MethodInfo := #[]) (fl : Nat := 33) (sup : Nat := 0) (ifs : Array Nat := #[]) (fds : Array FieldInfo := #[]) : ClassFile where
  minorVersion := 0
  majorVersion := 65
  constantPool := pool
  accessFlags := fl
  thisClass := this
  superClass := sup
  interfaces := ifs
  fields := fds
  methods := ms
  attributes := attrs
def plain (name : String) (sup : Option ClassId) : Class where
  name := name
  kind := .ordinary
  loader := none
  accessFlags := 33
  super := sup
  interfaces := #[]
  cf := none
  fields := #[]
  methods := #[]
  instanceTypes := #[]
  staticTypes := #[]
  resolved := #[]
  callSites := []
  init := .initialized
  statics := none
  mirror := none

def pool0 : Array CpInfo := pool [(5, u "<init>"), (0, u "()V"), (1, .class_ 10), (1, u "java/lang/Object")] 113

def k0c0 : Code := { maxStack := 0, maxLocals := 1, code := object_method_1_code, exceptionTable := #[], attributes := #[] }
def k0m0 : Method := { name := "<init>", desc := "()V", sig := { parameters := [], returnType := none }, accessFlags := 1, code := some k0c0 }
/-- java/lang/Object -/
def k0 : Class := { plain "java/lang/Object" none with
  accessFlags := 33
  interfaces := #[]
  cf := some (fileOf pool0 8 #[] #[{ accessFlags := 1, nameIndex := 5, descriptorIndex := 6, attributes := #[] }] 33 0 #[] #[])
  fields := #[]
  methods := #[k0m0]
  instanceTypes := #[]
  staticTypes := #[]
  resolved := Array.replicate 124 none
  statics := none }

def pool1 : Array CpInfo := pool [(2, .class_ 4), (1, u "java/lang/Object"), (0, u "<init>"), (0, u "()V"), (0, .integer 2147483647), (0, .class_ 9), (0, u "com/example/segmented_log/segmentedlog/format/BackwardBits"), (0, .methodref 8 11), (0, .nameAndType 5 12), (0, u "([BII)V"), (0, .methodref 8 14), (0, .nameAndType 15 16), (0, u "peek"), (0, u "(I)I"), (0, .methodref 8 18), (0, .nameAndType 19 20), (0, u "skip"), (0, u "(I)V"), (0, .methodref 8 22), (0, .nameAndType 23 24), (0, u "overflowed"), (0, u "()Z"), (0, .methodref 8 26), (0, .nameAndType 27 24), (0, u "isConsumed"), (0, .class_ 29), (0, u "com/example/segmented_log/segmentedlog/format/BackwardBitsSkipPinLaw"), (2, u "law"), (0, u "(IIIIII)Z")] 8

def k1m0 : Method := { name := "<init>", desc := "()V", sig := { parameters := [], returnType := none }, accessFlags := 1, code := none }
def k1c1 : Code := { maxStack := 6, maxLocals := 26, code := code, exceptionTable := #[], attributes := #[] }
def k1m1 : Method := { name := "law", desc := "(IIIIII)Z", sig := { parameters := [.int, .int, .int, .int, .int, .int], returnType := some .boolean }, accessFlags := 9, code := some k1c1 }
/-- com/example/segmented_log/segmentedlog/format/BackwardBitsSkipPinLaw -/
def k1 : Class := { plain "com/example/segmented_log/segmentedlog/format/BackwardBitsSkipPinLaw" (some 0) with
  accessFlags := 49
  interfaces := #[]
  cf := some (fileOf pool1 28 #[] #[{ accessFlags := 1, nameIndex := 5, descriptorIndex := 6, attributes := #[] }, { accessFlags := 9, nameIndex := 32, descriptorIndex := 33, attributes := #[] }] 49 2 #[] #[])
  fields := #[]
  methods := #[k1m0, k1m1]
  instanceTypes := #[]
  staticTypes := #[]
  resolved := Array.replicate 42 none
  statics := none }

def pool2 : Array CpInfo := pool [(1, .methodref 2 3), (0, .class_ 4), (0, .nameAndType 5 6), (0, u "java/lang/Object"), (0, u "<init>"), (0, u "()V"), (7, .fieldref 15 16), (0, .class_ 17), (0, .nameAndType 18 19), (0, u "com/example/segmented_log/segmentedlog/format/BackwardBits"), (0, u "bytes"), (0, u "[B"), (0, .fieldref 15 21), (0, .nameAndType 22 23), (0, u "from"), (0, u "I"), (0, .fieldref 15 25), (0, .nameAndType 26 27), (0, u "container"), (0, u "J"), (0, .methodref 29 30), (0, .class_ 31), (0, .nameAndType 32 33), (0, u "java/lang/Integer"), (0, u "numberOfLeadingZeros"), (0, u "(I)I"), (0, .fieldref 15 35), (0, .nameAndType 36 23), (0, u "bits"), (0, .fieldref 15 38), (0, .nameAndType 39 23), (0, u "loadedFrom"), (2, u "peek"), (2, u "skip"), (0, u "(I)V"), (0, .methodref 15 48), (0, .nameAndType 49 6), (0, u "refill"), (0, .methodref 15 51), (0, .nameAndType 52 53), (0, u "mask"), (0, u "(I)J"), (0, .fieldref 15 55), (0, .nameAndType 56 27), (0, u "pastStart"), (8, u "FULL"), (2, u "([BII)V"), (6, u "overflowed"), (0, u "()Z"), (0, u "isConsumed")] 2

def k2c0 : Code := { maxStack := 3, maxLocals := 5, code := prog_13_method_1_code, exceptionTable := #[], attributes := #[] }
def k2m0 : Method := { name := "<init>", desc := "([BII)V", sig := { parameters := [(.array .byte), .int, .int], returnType := none }, accessFlags := 0, code := some k2c0 }
def k2c1 : Code := { maxStack := 4, maxLocals := 3, code := prog_13_method_3_code, exceptionTable := #[], attributes := #[] }
def k2m1 : Method := { name := "peek", desc := "(I)I", sig := { parameters := [.int], returnType := some .int }, accessFlags := 0, code := some k2c1 }
def k2c2 : Code := { maxStack := 5, maxLocals := 2, code := prog_13_method_4_code, exceptionTable := #[], attributes := #[] }
def k2m2 : Method := { name := "skip", desc := "(I)V", sig := { parameters := [.int], returnType := none }, accessFlags := 0, code := some k2c2 }
def k2c3 : Code := { maxStack := 4, maxLocals := 1, code := prog_13_method_5_code, exceptionTable := #[], attributes := #[] }
def k2m3 : Method := { name := "overflowed", desc := "()Z", sig := { parameters := [], returnType := some .boolean }, accessFlags := 0, code := some k2c3 }
def k2c4 : Code := { maxStack := 4, maxLocals := 1, code := prog_13_method_6_code, exceptionTable := #[], attributes := #[] }
def k2m4 : Method := { name := "isConsumed", desc := "()Z", sig := { parameters := [], returnType := some .boolean }, accessFlags := 0, code := some k2c4 }
def k2c5 : Code := { maxStack := 8, maxLocals := 4, code := prog_13_method_7_code, exceptionTable := #[], attributes := #[] }
def k2m5 : Method := { name := "refill", desc := "()V", sig := { parameters := [], returnType := none }, accessFlags := 2, code := some k2c5 }
def k2c6 : Code := { maxStack := 4, maxLocals := 1, code := prog_13_method_8_code, exceptionTable := #[], attributes := #[] }
def k2m6 : Method := { name := "mask", desc := "(I)J", sig := { parameters := [.int], returnType := some .long }, accessFlags := 10, code := some k2c6 }
/-- com/example/segmented_log/segmentedlog/format/BackwardBits -/
def k2 : Class := { plain "com/example/segmented_log/segmentedlog/format/BackwardBits" (some 0) with
  accessFlags := 32
  interfaces := #[]
  cf := some (fileOf pool2 15 #[] #[{ accessFlags := 0, nameIndex := 5, descriptorIndex := 68, attributes := #[] }, { accessFlags := 0, nameIndex := 42, descriptorIndex := 33, attributes := #[] }, { accessFlags := 0, nameIndex := 45, descriptorIndex := 46, attributes := #[] }, { accessFlags := 0, nameIndex := 75, descriptorIndex := 76, attributes := #[] }, { accessFlags := 0, nameIndex := 77, descriptorIndex := 76, attributes := #[] }, { accessFlags := 2, nameIndex := 49, descriptorIndex := 6, attributes := #[] }, { accessFlags := 10, nameIndex := 52, descriptorIndex := 53, attributes := #[] }] 32 2 #[] #[{ accessFlags := 26, nameIndex := 65, descriptorIndex := 23, attributes := #[] }, { accessFlags := 18, nameIndex := 18, descriptorIndex := 19, attributes := #[] }, { accessFlags := 18, nameIndex := 22, descriptorIndex := 23, attributes := #[] }, { accessFlags := 2, nameIndex := 39, descriptorIndex := 23, attributes := #[] }, { accessFlags := 2, nameIndex := 26, descriptorIndex := 27, attributes := #[] }, { accessFlags := 2, nameIndex := 36, descriptorIndex := 23, attributes := #[] }, { accessFlags := 2, nameIndex := 56, descriptorIndex := 27, attributes := #[] }])
  fields := #[{ name := "FULL", type := .int, accessFlags := 26, slot := 0, constantValue := 0 }, { name := "bytes", type := (.array .byte), accessFlags := 18, slot := 0, constantValue := 0 }, { name := "from", type := .int, accessFlags := 18, slot := 1, constantValue := 0 }, { name := "loadedFrom", type := .int, accessFlags := 2, slot := 2, constantValue := 0 }, { name := "container", type := .long, accessFlags := 2, slot := 3, constantValue := 0 }, { name := "bits", type := .int, accessFlags := 2, slot := 4, constantValue := 0 }, { name := "pastStart", type := .long, accessFlags := 2, slot := 5, constantValue := 0 }]
  methods := #[k2m0, k2m1, k2m2, k2m3, k2m4, k2m5, k2m6]
  instanceTypes := #[(.array .byte), .int, .int, .long, .int, .long]
  staticTypes := #[.int]
  resolved := Array.replicate 80 none
  statics := none }

def pool3 : Array CpInfo := pool [(1, .class_ 2), (0, u "java/io/Serializable"), (0, .class_ 4), (0, u "java/lang/Object")] 2

/-- java/io/Serializable -/
def k3 : Class := { plain "java/io/Serializable" (some 0) with
  accessFlags := 1537
  interfaces := #[]
  cf := some (fileOf pool3 1 #[] #[] 1537 3 #[] #[])
  fields := #[]
  methods := #[]
  instanceTypes := #[]
  staticTypes := #[]
  resolved := Array.replicate 7 none
  statics := none }

def pool4 : Array CpInfo := pool [(2, .class_ 4), (1, u "java/lang/Object"), (0, u "<init>"), (0, u "()V"), (1, .class_ 10), (1, u "java/lang/Number"), (2, .class_ 14), (0, u "java/io/Serializable"), (0, u "serialVersionUID"), (0, u "J")] 20

def k4m0 : Method := { name := "<init>", desc := "()V", sig := { parameters := [], returnType := none }, accessFlags := 1, code := none }
/-- java/lang/Number -/
def k4 : Class := { plain "java/lang/Number" (some 0) with
  accessFlags := 1057
  interfaces := #[3]
  cf := some (fileOf pool4 8 #[] #[{ accessFlags := 1, nameIndex := 5, descriptorIndex := 6, attributes := #[] }] 1057 2 #[13] #[{ accessFlags := 26, nameIndex := 15, descriptorIndex := 16, attributes := #[] }])
  fields := #[{ name := "serialVersionUID", type := .long, accessFlags := 26, slot := 0, constantValue := 0 }]
  methods := #[k4m0]
  instanceTypes := #[]
  staticTypes := #[.long]
  resolved := Array.replicate 37 none
  statics := none }

def pool5 : Array CpInfo := pool [(1, .class_ 2), (0, u "java/lang/Comparable"), (0, .class_ 4), (0, u "java/lang/Object")] 7

/-- java/lang/Comparable -/
def k5 : Class := { plain "java/lang/Comparable" (some 0) with
  accessFlags := 1537
  interfaces := #[]
  cf := some (fileOf pool5 1 #[] #[] 1537 3 #[] #[])
  fields := #[]
  methods := #[]
  instanceTypes := #[]
  staticTypes := #[]
  resolved := Array.replicate 12 none
  statics := none }

def pool6 : Array CpInfo := pool [(1, .class_ 2), (0, u "java/lang/constant/Constable"), (0, .class_ 4), (0, u "java/lang/Object")] 6

/-- java/lang/constant/Constable -/
def k6 : Class := { plain "java/lang/constant/Constable" (some 0) with
  accessFlags := 1537
  interfaces := #[]
  cf := some (fileOf pool6 1 #[] #[] 1537 3 #[] #[])
  fields := #[]
  methods := #[]
  instanceTypes := #[]
  staticTypes := #[]
  resolved := Array.replicate 11 none
  statics := none }

def pool7 : Array CpInfo := pool [(1, .class_ 2), (0, u "java/lang/constant/ConstantDesc"), (0, .class_ 4), (0, u "java/lang/Object")] 32

/-- java/lang/constant/ConstantDesc -/
def k7 : Class := { plain "java/lang/constant/ConstantDesc" (some 0) with
  accessFlags := 1537
  interfaces := #[]
  cf := some (fileOf pool7 1 #[] #[] 1537 3 #[] #[])
  fields := #[]
  methods := #[]
  instanceTypes := #[]
  staticTypes := #[]
  resolved := Array.replicate 37 none
  statics := none }

def pool8 : Array CpInfo := pool [(1, .class_ 2), (0, u "java/lang/Integer"), (16, u "digits"), (0, u "[C"), (32, u "numberOfLeadingZeros"), (0, u "(I)I"), (30, u "DigitOnes"), (0, u "[B"), (2, u "DigitTens"), (99, .class_ 190), (0, u "java/lang/Integer$IntegerCache"), (3, u "I"), (8, .class_ 204), (0, u "java/lang/Number"), (2, u "value"), (56, .integer 65536), (37, u "TYPE"), (0, u "Ljava/lang/Class;"), (0, .class_ 305), (0, u "java/lang/Comparable"), (0, .class_ 307), (0, u "java/lang/constant/Constable"), (0, .class_ 309), (0, u "java/lang/constant/ConstantDesc"), (0, u "MIN_VALUE"), (1, u "MAX_VALUE"), (3, u "SIZE"), (1, u "BYTES"), (1, u "serialVersionUID"), (0, u "J")] 131

def k8c0 : Code := { maxStack := 3, maxLocals := 2, code := jdk_33_method_47_code, exceptionTable := #[], attributes := #[] }
def k8m0 : Method := { name := "numberOfLeadingZeros", desc := "(I)I", sig := { parameters := [.int], returnType := some .int }, accessFlags := 9, code := some k8c0 }
/-- java/lang/Integer -/
def k8 : Class := { plain "java/lang/Integer" (some 4) with
  accessFlags := 49
  interfaces := #[5, 6, 7]
  cf := some (fileOf pool8 1 #[.nestMembers #[189]] #[{ accessFlags := 9, nameIndex := 53, descriptorIndex := 54, attributes := #[] }] 49 203 #[304, 306, 308] #[{ accessFlags := 25, nameIndex := 310, descriptorIndex := 194, attributes := #[] }, { accessFlags := 25, nameIndex := 312, descriptorIndex := 194, attributes := #[] }, { accessFlags := 25, nameIndex := 302, descriptorIndex := 303, attributes := #[] }, { accessFlags := 24, nameIndex := 19, descriptorIndex := 20, attributes := #[] }, { accessFlags := 24, nameIndex := 89, descriptorIndex := 86, attributes := #[] }, { accessFlags := 24, nameIndex := 85, descriptorIndex := 86, attributes := #[] }, { accessFlags := 18, nameIndex := 207, descriptorIndex := 194, attributes := #[] }, { accessFlags := 25, nameIndex := 316, descriptorIndex := 194, attributes := #[] }, { accessFlags := 25, nameIndex := 318, descriptorIndex := 194, attributes := #[] }, { accessFlags := 26, nameIndex := 320, descriptorIndex := 321, attributes := #[] }])
  fields := #[{ name := "MIN_VALUE", type := .int, accessFlags := 25, slot := 0, constantValue := 0 }, { name := "MAX_VALUE", type := .int, accessFlags := 25, slot := 1, constantValue := 0 }, { name := "TYPE", type := (.object "java/lang/Class"), accessFlags := 25, slot := 2, constantValue := 0 }, { name := "digits", type := (.array .char), accessFlags := 24, slot := 3, constantValue := 0 }, { name := "DigitTens", type := (.array .byte), accessFlags := 24, slot := 4, constantValue := 0 }, { name := "DigitOnes", type := (.array .byte), accessFlags := 24, slot := 5, constantValue := 0 }, { name := "value", type := .int, accessFlags := 18, slot := 0, constantValue := 0 }, { name := "SIZE", type := .int, accessFlags := 25, slot := 6, constantValue := 0 }, { name := "BYTES", type := .int, accessFlags := 25, slot := 7, constantValue := 0 }, { name := "serialVersionUID", type := .long, accessFlags := 26, slot := 8, constantValue := 0 }]
  methods := #[k8m0]
  instanceTypes := #[.int]
  staticTypes := #[.int, .int, (.object "java/lang/Class"), (.array .char), (.array .byte), (.array .byte), .int, .int, .long]
  resolved := Array.replicate 453 none
  statics := none }

def pool9 : Array CpInfo := pool [(1, u "java/lang/Cloneable"), (0, .class_ 1), (0, u "java/lang/Object"), (0, .class_ 3)] 3

/-- java/lang/Cloneable -/
def k9 : Class := { plain "java/lang/Cloneable" (some 0) with
  accessFlags := 1537
  interfaces := #[]
  cf := some (fileOf pool9 2 #[] #[] 1537 4 #[] #[])
  fields := #[]
  methods := #[]
  instanceTypes := #[]
  staticTypes := #[]
  resolved := Array.replicate 8 none
  statics := none }

/-- the primitive byte -/
def k10 : Class := { plain "byte" none with kind := .primitive 'B', accessFlags := 0x411 }
/-- [B -/
def k11 : Class := { plain "[B" (some 0) with kind := .array 10 .byte, interfaces := #[9, 3], accessFlags := 1041 }

/-- the primitive int -/
def k12 : Class := { plain "int" none with kind := .primitive 'I', accessFlags := 0x411 }
/-- [I -/
def k13 : Class := { plain "[I" (some 0) with kind := .array 12 .int, interfaces := #[9, 3], accessFlags := 1041 }

def heap : Heap := #[]
def classes : Array Class := #[k0, k1, k2, k3, k4, k5, k6, k7, k8, k9, k10, k11, k12, k13]
def interned : List (Array UInt16 × Addr) := []
def slotsUsed : Nat := 0
def theMethod : MethodId := ⟨1, 1⟩
def args0 : Array Value := #[.int 5, .int 6, .int 7, .int 8, .int 9, .int 10]
def aboutOver (below : List Frame) : State where
  vm := { classes := classes, interned := interned.toArray }
  heap := heap
  slotsUsed := slotsUsed
  threads := #[{ frames := .invoking theMethod args0 :: below }]
def below0 : List Frame := [.native { method := ⟨0, 0⟩, args := #[] }]
def about1 : State := aboutOver below0
def p0 : Program := .bare "" "" ""
def e0 : Env := launch0.env 0 0 0
theorem w_frames : about1.frames = Frame.invoking theMethod args0 :: below0 := rfl
set_option maxRecDepth 65536 in
theorem w_args : argsFit about1.vm theMethod args0 = true := by decide +kernel
set_option maxRecDepth 65536 in
theorem w_heap : heapFits about1 = true := by decide +kernel
set_option maxRecDepth 65536 in
theorem w_runnable : about1.curStatus? = some .runnable := by decide +kernel
set_option maxRecDepth 65536 in
theorem w_alone : about1.alone = true := by decide +kernel
set_option maxRecDepth 65536 in
theorem w_named : about1.methodNamed? x = some theMethod := by decide +kernel
set_option maxRecDepth 65536 in
theorem w_hears : about1.hears theMethod below0 = true := by decide +kernel
set_option maxRecDepth 65536 in
theorem w_ripe : about1.ripe theMethod args0 below0 = true := by decide +kernel
theorem w_running : about1.status = .running := rfl
set_option maxRecDepth 65536 in
theorem w_room : about1.hasRoom e0.platform room_1 = true :=
  launch0.hasRoom_least _ room_1 (by decide +kernel) (by decide +kernel) (by decide +kernel) (by decide +kernel) (by decide +kernel) (by decide +kernel)
theorem allAtoms_all (ts : List Jvm.Cond) (a : Array Jvm.Value) (st : Jvm.State) : (allAtoms ts).before a st = ts.all (fun c => c.before a st) := by
  induction ts with
  | nil => rfl
  | cons c t ih =>
    show (Jvm.Cond.and c (allAtoms t)).before a st = _
    rw [Jvm.Cond.before_and, ih, List.all_cons]
def words1 : List Jvm.Cond := Jvm.Cond.code x code maxLocals ret :: tables_1
/-- a 'code' word, met by the world's own term for the bytes: nothing is compared byte by byte -/
theorem code_word {y : MethodName} {bytes : ByteArray} {mx : Nat} {rt : Option FieldType} {a : Array Value} {s : State} {m : MethodId} {meth : Method} {c : Code} (h1 : s.methodNamed? y = some m) (h2 : s.vm.method? m = some meth) (h3 : meth.code = some c) (h4 : c.code = bytes)
    (h5 : (c.maxLocals == mx && c.exceptionTable.isEmpty && decide (c.maxStack ≤ mostOperands) && decide (meth.sig.returnType = rt) && !meth.locks && decide (parseMethodDescriptor y.desc = some meth.sig)) = true) : (Jvm.Cond.code y bytes mx rt).before a s = true := by
  simp only [Bool.and_eq_true, beq_iff_eq, Bool.not_eq_true', decide_eq_true_eq] at h5
  obtain ⟨⟨⟨⟨⟨g1, g2⟩, g3⟩, g4⟩, g5⟩, g6⟩ := h5
  simp [Cond.before, Cond.holds, Cond.value, h1, h2, h3, h4, g1, g2, g3, g4, g5, g6]
def isCode : Jvm.Cond → Bool
  | .code _ _ _ _ => true
  | _ => false
theorem all_split {L : List Jvm.Cond} {P : Jvm.Cond → Bool} (h1 : L.all (fun c => isCode c || P c) = true) (h2 : ∀ c ∈ L.filter isCode, P c = true) : L.all P = true := by
  refine List.all_eq_true.mpr fun c hc => ?_
  have h := List.all_eq_true.mp h1 c hc
  rcases Bool.eq_false_or_eq_true (isCode c) with hi | hi
  · exact h2 c (List.mem_filter.mpr ⟨hc, hi⟩)
  · simpa [hi] using h
set_option maxRecDepth 65536 in
theorem w_c0 : (Jvm.Cond.code x code maxLocals ret).before args0 about1 = true := code_word (m := ⟨1, 1⟩) (meth := k1m1) (c := k1c1) (by decide +kernel) rfl rfl rfl (by decide +kernel)
set_option maxRecDepth 65536 in
theorem w_c1 : (Jvm.Cond.code ({ cls := "com/example/segmented_log/segmentedlog/format/BackwardBits", name := "<init>", desc := "([BII)V" } : Jvm.MethodName) prog_13_method_1_code (5 : Nat) (Option.none : Option Jvm.ClassFile.FieldType)).before args0 about1 = true := code_word (m := ⟨2, 0⟩) (meth := k2m0) (c := k2c0) (by decide +kernel) rfl rfl rfl (by decide +kernel)
set_option maxRecDepth 65536 in
theorem w_c2 : (Jvm.Cond.code ({ cls := "java/lang/Object", name := "<init>", desc := "()V" } : Jvm.MethodName) object_method_1_code (1 : Nat) (Option.none : Option Jvm.ClassFile.FieldType)).before args0 about1 = true := code_word (m := ⟨0, 0⟩) (meth := k0m0) (c := k0c0) (by decide +kernel) rfl rfl rfl (by decide +kernel)
set_option maxRecDepth 65536 in
theorem w_c3 : (Jvm.Cond.code ({ cls := "java/lang/Integer", name := "numberOfLeadingZeros", desc := "(I)I" } : Jvm.MethodName) jdk_33_method_47_code (2 : Nat) (Option.some Jvm.ClassFile.FieldType.int)).before args0 about1 = true := code_word (m := ⟨8, 0⟩) (meth := k8m0) (c := k8c0) (by decide +kernel) rfl rfl rfl (by decide +kernel)
set_option maxRecDepth 65536 in
theorem w_c4 : (Jvm.Cond.code ({ cls := "com/example/segmented_log/segmentedlog/format/BackwardBits", name := "peek", desc := "(I)I" } : Jvm.MethodName) prog_13_method_3_code (3 : Nat) (Option.some Jvm.ClassFile.FieldType.int)).before args0 about1 = true := code_word (m := ⟨2, 1⟩) (meth := k2m1) (c := k2c1) (by decide +kernel) rfl rfl rfl (by decide +kernel)
set_option maxRecDepth 65536 in
theorem w_c5 : (Jvm.Cond.code ({ cls := "com/example/segmented_log/segmentedlog/format/BackwardBits", name := "refill", desc := "()V" } : Jvm.MethodName) prog_13_method_7_code (4 : Nat) (Option.none : Option Jvm.ClassFile.FieldType)).before args0 about1 = true := code_word (m := ⟨2, 5⟩) (meth := k2m5) (c := k2c5) (by decide +kernel) rfl rfl rfl (by decide +kernel)
set_option maxRecDepth 65536 in
theorem w_c6 : (Jvm.Cond.code ({ cls := "com/example/segmented_log/segmentedlog/format/BackwardBits", name := "mask", desc := "(I)J" } : Jvm.MethodName) prog_13_method_8_code (1 : Nat) (Option.some Jvm.ClassFile.FieldType.long)).before args0 about1 = true := code_word (m := ⟨2, 6⟩) (meth := k2m6) (c := k2c6) (by decide +kernel) rfl rfl rfl (by decide +kernel)
set_option maxRecDepth 65536 in
theorem w_c7 : (Jvm.Cond.code ({ cls := "com/example/segmented_log/segmentedlog/format/BackwardBits", name := "skip", desc := "(I)V" } : Jvm.MethodName) prog_13_method_4_code (2 : Nat) (Option.none : Option Jvm.ClassFile.FieldType)).before args0 about1 = true := code_word (m := ⟨2, 2⟩) (meth := k2m2) (c := k2c2) (by decide +kernel) rfl rfl rfl (by decide +kernel)
set_option maxRecDepth 65536 in
theorem w_c8 : (Jvm.Cond.code ({ cls := "com/example/segmented_log/segmentedlog/format/BackwardBits", name := "overflowed", desc := "()Z" } : Jvm.MethodName) prog_13_method_5_code (1 : Nat) (Option.some Jvm.ClassFile.FieldType.boolean)).before args0 about1 = true := code_word (m := ⟨2, 3⟩) (meth := k2m3) (c := k2c3) (by decide +kernel) rfl rfl rfl (by decide +kernel)
set_option maxRecDepth 65536 in
theorem w_c9 : (Jvm.Cond.code ({ cls := "com/example/segmented_log/segmentedlog/format/BackwardBits", name := "isConsumed", desc := "()Z" } : Jvm.MethodName) prog_13_method_6_code (1 : Nat) (Option.some Jvm.ClassFile.FieldType.boolean)).before args0 about1 = true := code_word (m := ⟨2, 4⟩) (meth := k2m4) (c := k2c4) (by decide +kernel) rfl rfl rfl (by decide +kernel)
def codes1 : List Jvm.Cond := [Jvm.Cond.code x code maxLocals ret, Jvm.Cond.code ({ cls := "com/example/segmented_log/segmentedlog/format/BackwardBits", name := "<init>", desc := "([BII)V" } : Jvm.MethodName) prog_13_method_1_code (5 : Nat) (Option.none : Option Jvm.ClassFile.FieldType), Jvm.Cond.code ({ cls := "java/lang/Object", name := "<init>", desc := "()V" } : Jvm.MethodName) object_method_1_code (1 : Nat) (Option.none : Option Jvm.ClassFile.FieldType), Jvm.Cond.code ({ cls := "java/lang/Integer", name := "numberOfLeadingZeros", desc := "(I)I" } : Jvm.MethodName) jdk_33_method_47_code (2 : Nat) (Option.some Jvm.ClassFile.FieldType.int), Jvm.Cond.code ({ cls := "com/example/segmented_log/segmentedlog/format/BackwardBits", name := "peek", desc := "(I)I" } : Jvm.MethodName) prog_13_method_3_code (3 : Nat) (Option.some Jvm.ClassFile.FieldType.int), Jvm.Cond.code ({ cls := "com/example/segmented_log/segmentedlog/format/BackwardBits", name := "refill", desc := "()V" } : Jvm.MethodName) prog_13_method_7_code (4 : Nat) (Option.none : Option Jvm.ClassFile.FieldType), Jvm.Cond.code ({ cls := "com/example/segmented_log/segmentedlog/format/BackwardBits", name := "mask", desc := "(I)J" } : Jvm.MethodName) prog_13_method_8_code (1 : Nat) (Option.some Jvm.ClassFile.FieldType.long), Jvm.Cond.code ({ cls := "com/example/segmented_log/segmentedlog/format/BackwardBits", name := "skip", desc := "(I)V" } : Jvm.MethodName) prog_13_method_4_code (2 : Nat) (Option.none : Option Jvm.ClassFile.FieldType), Jvm.Cond.code ({ cls := "com/example/segmented_log/segmentedlog/format/BackwardBits", name := "overflowed", desc := "()Z" } : Jvm.MethodName) prog_13_method_5_code (1 : Nat) (Option.some Jvm.ClassFile.FieldType.boolean), Jvm.Cond.code ({ cls := "com/example/segmented_log/segmentedlog/format/BackwardBits", name := "isConsumed", desc := "()Z" } : Jvm.MethodName) prog_13_method_6_code (1 : Nat) (Option.some Jvm.ClassFile.FieldType.boolean)]
set_option maxRecDepth 65536 in
theorem codes_eq : words1.filter isCode = codes1 := rfl
theorem w_codes : ∀ c ∈ words1.filter isCode, c.before args0 about1 = true := by
  rw [codes_eq]
  intro c hc
  simp only [codes1, List.mem_cons, List.not_mem_nil, or_false] at hc
  rcases hc with rfl | rfl | rfl | rfl | rfl | rfl | rfl | rfl | rfl | rfl
  · exact w_c0
  · exact w_c1
  · exact w_c2
  · exact w_c3
  · exact w_c4
  · exact w_c5
  · exact w_c6
  · exact w_c7
  · exact w_c8
  · exact w_c9
set_option maxRecDepth 65536 in
theorem w_t1 : (words1.take 24).all (fun c => isCode c || c.before args0 about1) = true := by decide +kernel
set_option maxRecDepth 65536 in
theorem w_t2 : ((words1.drop 24).take 24).all (fun c => isCode c || c.before args0 about1) = true := by decide +kernel
set_option maxRecDepth 65536 in
theorem w_t3 : ((words1.drop 24).drop 24).all (fun c => isCode c || c.before args0 about1) = true := by decide +kernel
theorem w_tables : (allAtoms (Jvm.Cond.code x code maxLocals ret :: tables_1)).before args0 about1 = true := by
  rw [allAtoms_all]
  show words1.all (fun c => c.before args0 about1) = true
  refine all_split ?_ w_codes
  rw [← List.take_append_drop 24 words1, List.all_append, w_t1, ← List.take_append_drop 24 (words1.drop 24), List.all_append, w_t2, w_t3]
  rfl
set_option maxRecDepth 65536 in
theorem w_case : (Jvm.Cond.and given_1 narrow_1).before args0 about1 = true := by decide +kernel
theorem w_applies : (headSpec (Jvm.Cond.code x code maxLocals ret :: tables_1) room_1).applies x e0.platform about1 = true :=
  (Spec.applies_iff w_frames).mpr ⟨w_running, w_runnable, w_alone, w_named, w_hears, w_ripe, w_room, w_tables⟩
theorem atStart : AtStart classFile x code maxLocals ret World_1 tables_1 room_1 Calls_1 rest_1 Pre_1 launch0 p0 e0 about1 theMethod args0 below0 :=
  ⟨lists_1, trivial, launch0.admits_env _ _ _, launch0.least_env, fairChoices_fair.cas, fairChoices_fair.clock, w_frames, w_args, w_heap, w_applies, trivial, trivial, w_case⟩
end start1
theorem witness_1 : WitnessClaimed_1 := ⟨start1.p0, start1.e0, start1.about1, start1.theMethod, start1.args0, start1.below0, start1.atStart⟩
end Jvm.Pilot.@@N@@
