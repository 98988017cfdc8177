import JvmDerived
import JvmDerived.Pilot.@@N@@Statement
import JvmDerived.Pilot.@@N@@Code
set_option linter.unusedVariables false
set_option linter.unusedSimpArgs false
@@BLOCK:NumsL.lean.txt@@
namespace Jvm.RoadKit
open Sem ClassFile Op Lib Jvm.Stand Jvm.Free Jvm.LawKit
section New
variable {p : Program} {l : Launch} {e : Env} {R : Room} {s : State} {m : MethodId} {args : Array Value} {below : List Frame} {meth : Method} {c : Code} {T : State} {locs : List Loc} {cells slots : Nat}
theorem retI (X : Stand p l e R s m args below meth c T locs cells slots) (hx : p.tables.exec = Jvm.exec) {pc : Nat} {Ls : Array Slot} {z : Int32} {rest : List Value} (hret : meth.sig.returnType = some .int) (hd : decode c.code pc = .ok (.ireturn, 1)) {fs : List Frame}
    (hl : ∀ (f : JFrame) (acts : List Action), f.method = m → f.locked = none → f.entered = [] → (doReturn e (T.setTop f) acts (some (.int z))).1 = T.setFrames fs) : Steps p.tables e below (T.setTop (mkF m pc Ls (.int z :: rest))) (T.setFrames fs) := by
  have hm' : T.vm.method? m = some meth := X.method'
  have hn : narrow .int (.int z) = .int z := rfl
  show Steps p.tables e below (T.setTop { method := m, pc := pc, locals := Ls, stack := _ :: rest, locked := none }) _
  jvm_step X.here [X.here.top, hx, hd, hm', hret, hn]
  first | (intro acts; rw [hl _ acts rfl rfl rfl]) | rw [hl _ _ rfl rfl rfl]
  exact Steps.refl _
end New
end Jvm.RoadKit
namespace Jvm.Pilot.@@N@@
open Jvm Jvm.ClassFile Sem Op Lib Jvm.Free Jvm.Stand Jvm.LawKit Jvm.RoadKit Bundle Jvm.Pilot.@@N@@.Jvm.D

theorem own_max : (2147483647 : Int32).toInt = 2147483647 := rfl
theorem own_nn (p : Int32) : 0 ≤ (p &&& (2147483647 : Int32)).toInt := by
  rw [Jvm.Kit.i32_mask p 2147483647 (k := 31) (by decide) (by decide)]; omega
theorem own_pa (p : Int32) : 0 ≤ ((p &&& (2147483647 : Int32)) % (2147483647 : Int32)).toInt ∧ ((p &&& (2147483647 : Int32)) % (2147483647 : Int32)).toInt < 2147483647 := by
  have h := own_nn p
  have e : ((p &&& (2147483647 : Int32)) % (2147483647 : Int32)).toInt = (p &&& (2147483647 : Int32)).toInt % 2147483647 := Jvm.Kit.i32_rem_nonneg h
  rw [e]; omega
theorem own_sub {a : Int32} (h : 0 ≤ a.toInt ∧ a.toInt < 2147483647) : ((2147483647 : Int32) - a).toInt = 2147483647 - a.toInt := by
  have := Jvm.Kit.i32_sub (p := (2147483647 : Int32)) (q := a) (by rw [own_max]; omega) (by rw [own_max]; omega)
  rw [this, own_max]
theorem own_nz {a : Int32} (h : 0 ≤ a.toInt ∧ a.toInt < 2147483647) : (2147483647 : Int32) - a ≠ 0 := by
  intro q
  have e := own_sub h
  rw [q] at e
  have z : (0 : Int32).toInt = 0 := rfl
  omega
theorem own_ra {a p : Int32} (h : 0 ≤ a.toInt ∧ a.toInt < 2147483647) : ¬ a < 0 ∧ a < (a + (1 : Int32)) + ((p &&& (2147483647 : Int32)) % ((2147483647 : Int32) - a)) := by
  have z : (0 : Int32).toInt = 0 := rfl
  have o : (1 : Int32).toInt = 1 := rfl
  have hn := own_nn p
  have e := own_sub h
  have e2 : ((p &&& (2147483647 : Int32)) % ((2147483647 : Int32) - a)).toInt = (p &&& (2147483647 : Int32)).toInt % (2147483647 - a.toInt) := by rw [Jvm.Kit.i32_rem_nonneg hn, e]
  have b1 := Int.emod_nonneg (p &&& (2147483647 : Int32)).toInt (show (2147483647 - a.toInt) ≠ 0 by omega)
  have b2 := Int.emod_lt_of_pos (p &&& (2147483647 : Int32)).toInt (show 0 < (2147483647 - a.toInt) by omega)
  have e3 : (a + (1 : Int32)).toInt = a.toInt + 1 := by rw [Jvm.Kit.i32_add (by rw [o]; omega) (by rw [o]; omega), o]
  have e4 : ((a + (1 : Int32)) + ((p &&& (2147483647 : Int32)) % ((2147483647 : Int32) - a))).toInt = (a.toInt + 1) + (p &&& (2147483647 : Int32)).toInt % (2147483647 - a.toInt) := by
    rw [Jvm.Kit.i32_add (by rw [e3, e2]; omega) (by rw [e3, e2]; omega), e3, e2]
  rw [Int32.lt_iff_toInt_lt, Int32.lt_iff_toInt_lt, e4]
  omega
theorem own_3 (p : Int32) : (p &&& (3 : Int32)).toInt = p.toInt % 2 ^ 2 := Jvm.Kit.i32_mask p 3 (k := 2) (by decide) (by decide)
theorem own_3n (p : Int32) : ¬ (p &&& (3 : Int32)) < 0 := by
  have z : (0 : Int32).toInt = 0 := rfl
  rw [Int32.lt_iff_toInt_lt, own_3]; omega
theorem own_3c (p : Int32) : (p &&& (3 : Int32)).toNatClampNeg ≤ 3 := by
  show (p &&& (3 : Int32)).toInt.toNat ≤ 3
  rw [own_3]; omega
theorem pn_2 : plainName "com/example/racewitness/racewitness/analysis/Race" = true := by first | (simp [plainName, overriddenIn]; done) | decide +kernel
theorem ef_2a (m : MethodId) (o : Addr) (arr : Addr) (p1 : Int32) (p2 : Int32) : entryFrame m #[(.ref o), (.int p1), (.int p2), (.ref arr), .null, .null] 6 = mkF m 0 #[.val (.ref o), .val (.int p1), .val (.int p2), .val (.ref arr), .val .null, .val .null] [] := by first | (simp [entryFrame, mkF, argsToLocals, Value.category]; done) | rfl
def Q2a (Z : State) (o arr : Addr) (p1 p2 : Int32) (h0 : Heap) (n0 : Nat) (v : Option Value) (h : Heap) (L : List Loc) : Prop := v = none ∧ Fr n0 L ∧ Keep h0 h [o] ∧ Fld Z h o "com/example/racewitness/racewitness/analysis/Race" "partner" "I" (.int p1) ∧ Fld Z h o "com/example/racewitness/racewitness/analysis/Race" "racyEvent" "I" (.int p2) ∧ Fld Z h o "com/example/racewitness/racewitness/analysis/Race" "lastScheduled" "[I" (.ref arr) ∧ Fld Z h o "com/example/racewitness/racewitness/analysis/Race" "schedule" "[I" .null ∧ Fld Z h o "com/example/racewitness/racewitness/analysis/Race" "prefixWitness" "Lcom/example/racewitness/racewitness/analysis/Race$PrefixWitness;" .null
theorem d2_0 : decode prog_33_method_3_code 0 = .ok (.aload_n 0, 1) := by decide +kernel
theorem d2_1 : decode prog_33_method_3_code 1 = .ok (.invokespecial 12, 3) := by decide +kernel
theorem d2_4 : decode prog_33_method_3_code 4 = .ok (.iload_n 1, 1) := by decide +kernel
theorem d2_5 : decode prog_33_method_3_code 5 = .ok (.ifCond .lt 8, 3) := by decide +kernel
theorem d2_8 : decode prog_33_method_3_code 8 = .ok (.iload_n 1, 1) := by decide +kernel
theorem d2_9 : decode prog_33_method_3_code 9 = .ok (.iload_n 2, 1) := by decide +kernel
theorem d2_10 : decode prog_33_method_3_code 10 = .ok (.if_icmp .lt 18, 3) := by decide +kernel
theorem d2_28 : decode prog_33_method_3_code 28 = .ok (.aload_n 0, 1) := by decide +kernel
theorem d2_29 : decode prog_33_method_3_code 29 = .ok (.iload_n 1, 1) := by decide +kernel
theorem d2_30 : decode prog_33_method_3_code 30 = .ok (.putfield 26, 3) := by decide +kernel
theorem d2_33 : decode prog_33_method_3_code 33 = .ok (.aload_n 0, 1) := by decide +kernel
theorem d2_34 : decode prog_33_method_3_code 34 = .ok (.iload_n 2, 1) := by decide +kernel
theorem d2_35 : decode prog_33_method_3_code 35 = .ok (.putfield 30, 3) := by decide +kernel
theorem d2_38 : decode prog_33_method_3_code 38 = .ok (.aload_n 0, 1) := by decide +kernel
theorem d2_39 : decode prog_33_method_3_code 39 = .ok (.aload_n 3, 1) := by decide +kernel
theorem d2_40 : decode prog_33_method_3_code 40 = .ok (.putfield 33, 3) := by decide +kernel
theorem d2_43 : decode prog_33_method_3_code 43 = .ok (.aload_n 0, 1) := by decide +kernel
theorem d2_44 : decode prog_33_method_3_code 44 = .ok (.aload 4, 2) := by decide +kernel
theorem d2_46 : decode prog_33_method_3_code 46 = .ok (.putfield 37, 3) := by decide +kernel
theorem d2_49 : decode prog_33_method_3_code 49 = .ok (.aload_n 0, 1) := by decide +kernel
theorem d2_50 : decode prog_33_method_3_code 50 = .ok (.aload 5, 2) := by decide +kernel
theorem d2_52 : decode prog_33_method_3_code 52 = .ok (.putfield 40, 3) := by decide +kernel
theorem d2_55 : decode prog_33_method_3_code 55 = .ok (.return_, 1) := by decide +kernel
set_option maxRecDepth 65536 in
set_option maxHeartbeats 40000000 in
theorem rm2a (l : Launch) (Z : State) (a0 : Array Value) (hw : ∀ d ∈ tables_1, d.before a0 Z = true) (ws : List Jvm.Cond) (o arr : Addr) (p1 p2 : Int32) (h0 : Heap) (n0 : Nat) (Z0 : n0 ≤ h0.size) (ge : n0 ≤ o) (E : Exa Z h0 o "com/example/racewitness/racewitness/analysis/Race") (F_partner : Fld Z h0 o "com/example/racewitness/racewitness/analysis/Race" "partner" "I" (.int (0 : Int32))) (F_racyEvent : Fld Z h0 o "com/example/racewitness/racewitness/analysis/Race" "racyEvent" "I" (.int (0 : Int32))) (F_lastScheduled : Fld Z h0 o "com/example/racewitness/racewitness/analysis/Race" "lastScheduled" "[I" .null) (F_schedule : Fld Z h0 o "com/example/racewitness/racewitness/analysis/Race" "schedule" "[I" .null) (F_prefixWitness : Fld Z h0 o "com/example/racewitness/racewitness/analysis/Race" "prefixWitness" "Lcom/example/racewitness/racewitness/analysis/Race$PrefixWitness;" .null) (hp1 : ¬ p1 < (0 : Int32)) (hp2 : p1 < p2) :
    MetFree l (⟨"com/example/racewitness/racewitness/analysis/Race", "<init>", "(II[I[ILcom/example/racewitness/racewitness/analysis/Race$PrefixWitness;)V"⟩ : MethodName) (head1 (Jvm.Cond.code (⟨"com/example/racewitness/racewitness/analysis/Race", "<init>", "(II[I[ILcom/example/racewitness/racewitness/analysis/Race$PrefixWitness;)V"⟩ : MethodName) prog_33_method_3_code 6 none :: ws) ({ frames := 1, cells := 0, slots := 0, locals := 12 } : Room)) (fun a U => a = #[(.ref o), (.int p1), (.int p2), (.ref arr), .null, .null] ∧ Z.Warmed39 U.vm ∧ U.heap = h0) (fun _ _ _ _ _ => True) (fun _ U oU U' => ∃ v L, oU = .returned v ∧ Q2a Z o arr p1 p2 h0 n0 v U'.heap L ∧ FrameEnd U oU U' L ({ frames := 1, cells := 0, slots := 0, locals := 12 } : Room).cells ({ frames := 1, cells := 0, slots := 0, locals := 12 } : Room).slots) := by
  refine MetFree.of_bodySF (plainFor_of_name pn_2) hisR ?_
  intro p e s m args below meth c s₁ Bd hml0 hP hK
  obtain ⟨rfl, hZ, hh⟩ := hP
  have hx := Bd.exec
  have hby := Bd.bytes
  have hml : c.maxLocals = 6 := hml0
  have hown : s.vm.findClass "com/example/racewitness/racewitness/analysis/Race" = some m.cls := findClass_of_methodNamed Bd.named
  have hnm := (name_of_methodNamed Bd.named Bd.method).1
  have X0 : Stand p l e ({ frames := 1, cells := 0, slots := 0, locals := 12 } : Room) s m #[(.ref o), (.int p1), (.int p2), (.ref arr), .null, .null] below meth c s₁ [] 0 0 := Stand.of_body Bd
  have e0 : s₁.heap = h0 := by rw [← hh, Bd.state]; rfl
  have N0 := Fr.nil n0
  have go0 : ∀ t, Steps p.tables e below (s₁.setTop (mkF m 0 #[.val (.ref o), .val (.int p1), .val (.int p2), .val (.ref arr), .val .null, .val .null] [])) t → Steps p.tables e below (s₁.setTop (entryFrame m #[(.ref o), (.int p1), (.int p2), (.ref arr), .null, .null] 6)) t := fun t k => castTop (ef_2a m o arr p1 p2) k
  obtain ⟨T1, X1, e1, st1⟩ := initO X0 hx hZ hown (hw _ (List.mem_of_getElem? (i := 11) rfl)) (hw _ (List.mem_of_getElem? (i := 12) rfl)) (hw _ (List.mem_of_getElem? (i := 13) rfl)) e0 (g := (mkF m 1 #[.val (.ref o), .val (.int p1), .val (.int p2), .val (.ref arr), .val .null, .val .null] [(.ref o)])) rfl (by rw [hml]; rfl) rfl (hb hby d2_1) (by decide) (W := 0) (by show 2 * 0 + _ ≤ _; exact Nat.le_of_eq rfl) (by decide)
  obtain ⟨T2, h2, X2, e2, W2, st2⟩ := putF X1 hx hZ hown (host := "") (Or.inl (hw _ (List.mem_of_getElem? (i := 14) rfl))) Via.refl e1 F_partner E (Or.inr ⟨(hw _ (List.mem_of_getElem? (i := 15) rfl)), rfl, hnm⟩) (hw _ (List.mem_of_getElem? (i := 3) rfl)) (ty := .int) (by decide) rfl rfl (g := (mkF m 30 #[.val (.ref o), .val (.int p1), .val (.int p2), .val (.ref arr), .val .null, .val .null] [(.int p1), (.ref o)])) rfl rfl (hb hby d2_30)
  have E2_o := E.wr W2
  have F2_o_partner := F_partner.same W2
  have F2_o_racyEvent := F_racyEvent.other W2 (Or.inr (slot_ne (Or.inr (hw _ (List.mem_of_getElem? (i := 17) rfl))) (Or.inr (hw _ (List.mem_of_getElem? (i := 15) rfl))) (by decide) (t := .int) (t' := .int) (by decide) (by decide)))
  have F2_o_lastScheduled := F_lastScheduled.other W2 (Or.inr (slot_ne (Or.inr (hw _ (List.mem_of_getElem? (i := 19) rfl))) (Or.inr (hw _ (List.mem_of_getElem? (i := 15) rfl))) (by decide) (t := (.array .int)) (t' := .int) (by decide) (by decide)))
  have F2_o_schedule := F_schedule.other W2 (Or.inr (slot_ne (Or.inr (hw _ (List.mem_of_getElem? (i := 21) rfl))) (Or.inr (hw _ (List.mem_of_getElem? (i := 15) rfl))) (by decide) (t := (.array .int)) (t' := .int) (by decide) (by decide)))
  have F2_o_prefixWitness := F_prefixWitness.other W2 (Or.inr (slot_ne (Or.inr (hw _ (List.mem_of_getElem? (i := 23) rfl))) (Or.inr (hw _ (List.mem_of_getElem? (i := 15) rfl))) (by decide) (t := (.object "com/example/racewitness/racewitness/analysis/Race$PrefixWitness")) (t' := .int) (by decide) (by decide)))
  have N2 := Fr.snoc X2 N0 ge
  have K2 : Keep h0 h2 [o] := (Keep.refl h0 [o]).wr W2 (Or.inl (List.mem_of_getElem? (i := 0) rfl))
  obtain ⟨T3, h3, X3, e3, W3, st3⟩ := putF X2 hx hZ hown (host := "") (Or.inl (hw _ (List.mem_of_getElem? (i := 16) rfl))) Via.refl e2 F2_o_racyEvent E2_o (Or.inr ⟨(hw _ (List.mem_of_getElem? (i := 17) rfl)), rfl, hnm⟩) (hw _ (List.mem_of_getElem? (i := 3) rfl)) (ty := .int) (by decide) rfl rfl (g := (mkF m 35 #[.val (.ref o), .val (.int p1), .val (.int p2), .val (.ref arr), .val .null, .val .null] [(.int p2), (.ref o)])) rfl rfl (hb hby d2_35)
  have E3_o := E2_o.wr W3
  have F3_o_partner := F2_o_partner.other W3 (Or.inr (slot_ne (Or.inr (hw _ (List.mem_of_getElem? (i := 15) rfl))) (Or.inr (hw _ (List.mem_of_getElem? (i := 17) rfl))) (by decide) (t := .int) (t' := .int) (by decide) (by decide)))
  have F3_o_racyEvent := F2_o_racyEvent.same W3
  have F3_o_lastScheduled := F2_o_lastScheduled.other W3 (Or.inr (slot_ne (Or.inr (hw _ (List.mem_of_getElem? (i := 19) rfl))) (Or.inr (hw _ (List.mem_of_getElem? (i := 17) rfl))) (by decide) (t := (.array .int)) (t' := .int) (by decide) (by decide)))
  have F3_o_schedule := F2_o_schedule.other W3 (Or.inr (slot_ne (Or.inr (hw _ (List.mem_of_getElem? (i := 21) rfl))) (Or.inr (hw _ (List.mem_of_getElem? (i := 17) rfl))) (by decide) (t := (.array .int)) (t' := .int) (by decide) (by decide)))
  have F3_o_prefixWitness := F2_o_prefixWitness.other W3 (Or.inr (slot_ne (Or.inr (hw _ (List.mem_of_getElem? (i := 23) rfl))) (Or.inr (hw _ (List.mem_of_getElem? (i := 17) rfl))) (by decide) (t := (.object "com/example/racewitness/racewitness/analysis/Race$PrefixWitness")) (t' := .int) (by decide) (by decide)))
  have N3 := Fr.snoc X3 N2 ge
  have K3 : Keep h0 h3 [o] := K2.wr W3 (Or.inl (List.mem_of_getElem? (i := 0) rfl))
  obtain ⟨T4, h4, X4, e4, W4, st4⟩ := putF X3 hx hZ hown (host := "") (Or.inl (hw _ (List.mem_of_getElem? (i := 18) rfl))) Via.refl e3 F3_o_lastScheduled E3_o (Or.inr ⟨(hw _ (List.mem_of_getElem? (i := 19) rfl)), rfl, hnm⟩) (hw _ (List.mem_of_getElem? (i := 3) rfl)) (ty := (.array .int)) (by decide) rfl rfl (g := (mkF m 40 #[.val (.ref o), .val (.int p1), .val (.int p2), .val (.ref arr), .val .null, .val .null] [(.ref arr), (.ref o)])) rfl rfl (hb hby d2_40)
  have E4_o := E3_o.wr W4
  have F4_o_partner := F3_o_partner.other W4 (Or.inr (slot_ne (Or.inr (hw _ (List.mem_of_getElem? (i := 15) rfl))) (Or.inr (hw _ (List.mem_of_getElem? (i := 19) rfl))) (by decide) (t := .int) (t' := (.array .int)) (by decide) (by decide)))
  have F4_o_racyEvent := F3_o_racyEvent.other W4 (Or.inr (slot_ne (Or.inr (hw _ (List.mem_of_getElem? (i := 17) rfl))) (Or.inr (hw _ (List.mem_of_getElem? (i := 19) rfl))) (by decide) (t := .int) (t' := (.array .int)) (by decide) (by decide)))
  have F4_o_lastScheduled := F3_o_lastScheduled.same W4
  have F4_o_schedule := F3_o_schedule.other W4 (Or.inr (slot_ne (Or.inr (hw _ (List.mem_of_getElem? (i := 21) rfl))) (Or.inr (hw _ (List.mem_of_getElem? (i := 19) rfl))) (by decide) (t := (.array .int)) (t' := (.array .int)) (by decide) (by decide)))
  have F4_o_prefixWitness := F3_o_prefixWitness.other W4 (Or.inr (slot_ne (Or.inr (hw _ (List.mem_of_getElem? (i := 23) rfl))) (Or.inr (hw _ (List.mem_of_getElem? (i := 19) rfl))) (by decide) (t := (.object "com/example/racewitness/racewitness/analysis/Race$PrefixWitness")) (t' := (.array .int)) (by decide) (by decide)))
  have N4 := Fr.snoc X4 N3 ge
  have K4 : Keep h0 h4 [o] := K3.wr W4 (Or.inl (List.mem_of_getElem? (i := 0) rfl))
  obtain ⟨T5, h5, X5, e5, W5, st5⟩ := putF X4 hx hZ hown (host := "") (Or.inl (hw _ (List.mem_of_getElem? (i := 20) rfl))) Via.refl e4 F4_o_schedule E4_o (Or.inr ⟨(hw _ (List.mem_of_getElem? (i := 21) rfl)), rfl, hnm⟩) (hw _ (List.mem_of_getElem? (i := 3) rfl)) (ty := (.array .int)) (by decide) rfl rfl (g := (mkF m 46 #[.val (.ref o), .val (.int p1), .val (.int p2), .val (.ref arr), .val .null, .val .null] [.null, (.ref o)])) rfl rfl (hb hby d2_46)
  have E5_o := E4_o.wr W5
  have F5_o_partner := F4_o_partner.other W5 (Or.inr (slot_ne (Or.inr (hw _ (List.mem_of_getElem? (i := 15) rfl))) (Or.inr (hw _ (List.mem_of_getElem? (i := 21) rfl))) (by decide) (t := .int) (t' := (.array .int)) (by decide) (by decide)))
  have F5_o_racyEvent := F4_o_racyEvent.other W5 (Or.inr (slot_ne (Or.inr (hw _ (List.mem_of_getElem? (i := 17) rfl))) (Or.inr (hw _ (List.mem_of_getElem? (i := 21) rfl))) (by decide) (t := .int) (t' := (.array .int)) (by decide) (by decide)))
  have F5_o_lastScheduled := F4_o_lastScheduled.other W5 (Or.inr (slot_ne (Or.inr (hw _ (List.mem_of_getElem? (i := 19) rfl))) (Or.inr (hw _ (List.mem_of_getElem? (i := 21) rfl))) (by decide) (t := (.array .int)) (t' := (.array .int)) (by decide) (by decide)))
  have F5_o_schedule := F4_o_schedule.same W5
  have F5_o_prefixWitness := F4_o_prefixWitness.other W5 (Or.inr (slot_ne (Or.inr (hw _ (List.mem_of_getElem? (i := 23) rfl))) (Or.inr (hw _ (List.mem_of_getElem? (i := 21) rfl))) (by decide) (t := (.object "com/example/racewitness/racewitness/analysis/Race$PrefixWitness")) (t' := (.array .int)) (by decide) (by decide)))
  have N5 := Fr.snoc X5 N4 ge
  have K5 : Keep h0 h5 [o] := K4.wr W5 (Or.inl (List.mem_of_getElem? (i := 0) rfl))
  obtain ⟨T6, h6, X6, e6, W6, st6⟩ := putF X5 hx hZ hown (host := "") (Or.inl (hw _ (List.mem_of_getElem? (i := 22) rfl))) Via.refl e5 F5_o_prefixWitness E5_o (Or.inr ⟨(hw _ (List.mem_of_getElem? (i := 23) rfl)), rfl, hnm⟩) (hw _ (List.mem_of_getElem? (i := 3) rfl)) (ty := (.object "com/example/racewitness/racewitness/analysis/Race$PrefixWitness")) (by decide) rfl rfl (g := (mkF m 52 #[.val (.ref o), .val (.int p1), .val (.int p2), .val (.ref arr), .val .null, .val .null] [.null, (.ref o)])) rfl rfl (hb hby d2_52)
  have E6_o := E5_o.wr W6
  have F6_o_partner := F5_o_partner.other W6 (Or.inr (slot_ne (Or.inr (hw _ (List.mem_of_getElem? (i := 15) rfl))) (Or.inr (hw _ (List.mem_of_getElem? (i := 23) rfl))) (by decide) (t := .int) (t' := (.object "com/example/racewitness/racewitness/analysis/Race$PrefixWitness")) (by decide) (by decide)))
  have F6_o_racyEvent := F5_o_racyEvent.other W6 (Or.inr (slot_ne (Or.inr (hw _ (List.mem_of_getElem? (i := 17) rfl))) (Or.inr (hw _ (List.mem_of_getElem? (i := 23) rfl))) (by decide) (t := .int) (t' := (.object "com/example/racewitness/racewitness/analysis/Race$PrefixWitness")) (by decide) (by decide)))
  have F6_o_lastScheduled := F5_o_lastScheduled.other W6 (Or.inr (slot_ne (Or.inr (hw _ (List.mem_of_getElem? (i := 19) rfl))) (Or.inr (hw _ (List.mem_of_getElem? (i := 23) rfl))) (by decide) (t := (.array .int)) (t' := (.object "com/example/racewitness/racewitness/analysis/Race$PrefixWitness")) (by decide) (by decide)))
  have F6_o_schedule := F5_o_schedule.other W6 (Or.inr (slot_ne (Or.inr (hw _ (List.mem_of_getElem? (i := 21) rfl))) (Or.inr (hw _ (List.mem_of_getElem? (i := 23) rfl))) (by decide) (t := (.array .int)) (t' := (.object "com/example/racewitness/racewitness/analysis/Race$PrefixWitness")) (by decide) (by decide)))
  have F6_o_prefixWitness := F5_o_prefixWitness.same W6
  have N6 := Fr.snoc X6 N5 ge
  have K6 : Keep h0 h6 [o] := K5.wr W6 (Or.inl (List.mem_of_getElem? (i := 0) rfl))
  obtain ⟨fs, hr, hrun, hended, hW, hsame⟩ := X6.leave (v := none) (fun _ => rfl)
  refine ⟨_, _, go0 _ ?_, hrun, hended, _, _, rfl, ?_, ⟨_, rfl⟩, hW, hsame.mono (by decide) (by decide)⟩
  · show Steps p.tables e below (s₁.setTop (mkF m 0 #[.val (.ref o), .val (.int p1), .val (.int p2), .val (.ref arr), .val .null, .val .null] [])) _
    refine XS.aloadN X0.here hx rfl (hb hby d2_0) rfl rfl ?_
    show Steps p.tables e below (s₁.setTop (mkF m 1 #[.val (.ref o), .val (.int p1), .val (.int p2), .val (.ref arr), .val .null, .val .null] [(.ref o)])) _
    refine st1 _ ?_
    show Steps p.tables e below (T1.setTop (mkF m 4 #[.val (.ref o), .val (.int p1), .val (.int p2), .val (.ref arr), .val .null, .val .null] [])) _
    refine XS.iloadN X1.here hx rfl (hb hby d2_4) rfl ?_
    show Steps p.tables e below (T1.setTop (mkF m 5 #[.val (.ref o), .val (.int p1), .val (.int p2), .val (.ref arr), .val .null, .val .null] [(.int p1)])) _
    refine XS.ifNo X1.here hx rfl (hb hby d2_5) rfl ((if0 _ _).trans (flt hp1).1) ?_
    show Steps p.tables e below (T1.setTop (mkF m 8 #[.val (.ref o), .val (.int p1), .val (.int p2), .val (.ref arr), .val .null, .val .null] [])) _
    refine XS.iloadN X1.here hx rfl (hb hby d2_8) rfl ?_
    show Steps p.tables e below (T1.setTop (mkF m 9 #[.val (.ref o), .val (.int p1), .val (.int p2), .val (.ref arr), .val .null, .val .null] [(.int p1)])) _
    refine XS.iloadN X1.here hx rfl (hb hby d2_9) rfl ?_
    show Steps p.tables e below (T1.setTop (mkF m 10 #[.val (.ref o), .val (.int p1), .val (.int p2), .val (.ref arr), .val .null, .val .null] [(.int p2), (.int p1)])) _
    refine XS.icmpYes X1.here hx rfl (pc0 := 10) (pc' := 28) rfl (hb hby d2_10) rfl (tlt hp2).1 (by decide) (by decide) ?_
    show Steps p.tables e below (T1.setTop (mkF m 28 #[.val (.ref o), .val (.int p1), .val (.int p2), .val (.ref arr), .val .null, .val .null] [])) _
    refine XS.aloadN X1.here hx rfl (hb hby d2_28) rfl rfl ?_
    show Steps p.tables e below (T1.setTop (mkF m 29 #[.val (.ref o), .val (.int p1), .val (.int p2), .val (.ref arr), .val .null, .val .null] [(.ref o)])) _
    refine XS.iloadN X1.here hx rfl (hb hby d2_29) rfl ?_
    show Steps p.tables e below (T1.setTop (mkF m 30 #[.val (.ref o), .val (.int p1), .val (.int p2), .val (.ref arr), .val .null, .val .null] [(.int p1), (.ref o)])) _
    refine st2 _ ?_
    show Steps p.tables e below (T2.setTop (mkF m 33 #[.val (.ref o), .val (.int p1), .val (.int p2), .val (.ref arr), .val .null, .val .null] [])) _
    refine XS.aloadN X2.here hx rfl (hb hby d2_33) rfl rfl ?_
    show Steps p.tables e below (T2.setTop (mkF m 34 #[.val (.ref o), .val (.int p1), .val (.int p2), .val (.ref arr), .val .null, .val .null] [(.ref o)])) _
    refine XS.iloadN X2.here hx rfl (hb hby d2_34) rfl ?_
    show Steps p.tables e below (T2.setTop (mkF m 35 #[.val (.ref o), .val (.int p1), .val (.int p2), .val (.ref arr), .val .null, .val .null] [(.int p2), (.ref o)])) _
    refine st3 _ ?_
    show Steps p.tables e below (T3.setTop (mkF m 38 #[.val (.ref o), .val (.int p1), .val (.int p2), .val (.ref arr), .val .null, .val .null] [])) _
    refine XS.aloadN X3.here hx rfl (hb hby d2_38) rfl rfl ?_
    show Steps p.tables e below (T3.setTop (mkF m 39 #[.val (.ref o), .val (.int p1), .val (.int p2), .val (.ref arr), .val .null, .val .null] [(.ref o)])) _
    refine XS.aloadN X3.here hx rfl (hb hby d2_39) rfl rfl ?_
    show Steps p.tables e below (T3.setTop (mkF m 40 #[.val (.ref o), .val (.int p1), .val (.int p2), .val (.ref arr), .val .null, .val .null] [(.ref arr), (.ref o)])) _
    refine st4 _ ?_
    show Steps p.tables e below (T4.setTop (mkF m 43 #[.val (.ref o), .val (.int p1), .val (.int p2), .val (.ref arr), .val .null, .val .null] [])) _
    refine XS.aloadN X4.here hx rfl (hb hby d2_43) rfl rfl ?_
    show Steps p.tables e below (T4.setTop (mkF m 44 #[.val (.ref o), .val (.int p1), .val (.int p2), .val (.ref arr), .val .null, .val .null] [(.ref o)])) _
    refine XS.aload X4.here hx rfl (hb hby d2_44) rfl rfl ?_
    show Steps p.tables e below (T4.setTop (mkF m 46 #[.val (.ref o), .val (.int p1), .val (.int p2), .val (.ref arr), .val .null, .val .null] [.null, (.ref o)])) _
    refine st5 _ ?_
    show Steps p.tables e below (T5.setTop (mkF m 49 #[.val (.ref o), .val (.int p1), .val (.int p2), .val (.ref arr), .val .null, .val .null] [])) _
    refine XS.aloadN X5.here hx rfl (hb hby d2_49) rfl rfl ?_
    show Steps p.tables e below (T5.setTop (mkF m 50 #[.val (.ref o), .val (.int p1), .val (.int p2), .val (.ref arr), .val .null, .val .null] [(.ref o)])) _
    refine XS.aload X5.here hx rfl (hb hby d2_50) rfl rfl ?_
    show Steps p.tables e below (T5.setTop (mkF m 52 #[.val (.ref o), .val (.int p1), .val (.int p2), .val (.ref arr), .val .null, .val .null] [.null, (.ref o)])) _
    refine st6 _ ?_
    show Steps p.tables e below (T6.setTop (mkF m 55 #[.val (.ref o), .val (.int p1), .val (.int p2), .val (.ref arr), .val .null, .val .null] [])) _
    exact X6.returnOut hx Bd.returns (hb hby d2_55) hr
  · show Q2a Z o arr p1 p2 h0 n0 _ T6.heap _
    rw [e6]
    exact ⟨rfl, N6, K6, F6_o_partner, F6_o_racyEvent, F6_o_lastScheduled, F6_o_schedule, F6_o_prefixWitness⟩
theorem ef_2b (m : MethodId) (o : Addr) (p1 : Int32) (p2 : Int32) : entryFrame m #[(.ref o), (.int p1), (.int p2), .null, .null, .null] 6 = mkF m 0 #[.val (.ref o), .val (.int p1), .val (.int p2), .val .null, .val .null, .val .null] [] := by first | (simp [entryFrame, mkF, argsToLocals, Value.category]; done) | rfl
def Q2b (Z : State) (o : Addr) (p1 p2 : Int32) (h0 : Heap) (n0 : Nat) (v : Option Value) (h : Heap) (L : List Loc) : Prop := v = none ∧ Fr n0 L ∧ Keep h0 h [o] ∧ Fld Z h o "com/example/racewitness/racewitness/analysis/Race" "partner" "I" (.int p1) ∧ Fld Z h o "com/example/racewitness/racewitness/analysis/Race" "racyEvent" "I" (.int p2) ∧ Fld Z h o "com/example/racewitness/racewitness/analysis/Race" "lastScheduled" "[I" .null ∧ Fld Z h o "com/example/racewitness/racewitness/analysis/Race" "schedule" "[I" .null ∧ Fld Z h o "com/example/racewitness/racewitness/analysis/Race" "prefixWitness" "Lcom/example/racewitness/racewitness/analysis/Race$PrefixWitness;" .null
set_option maxRecDepth 65536 in
set_option maxHeartbeats 40000000 in
theorem rm2b (l : Launch) (Z : State) (a0 : Array Value) (hw : ∀ d ∈ tables_1, d.before a0 Z = true) (ws : List Jvm.Cond) (o : Addr) (p1 p2 : Int32) (h0 : Heap) (n0 : Nat) (Z0 : n0 ≤ h0.size) (ge : n0 ≤ o) (E : Exa Z h0 o "com/example/racewitness/racewitness/analysis/Race") (F_partner : Fld Z h0 o "com/example/racewitness/racewitness/analysis/Race" "partner" "I" (.int (0 : Int32))) (F_racyEvent : Fld Z h0 o "com/example/racewitness/racewitness/analysis/Race" "racyEvent" "I" (.int (0 : Int32))) (F_lastScheduled : Fld Z h0 o "com/example/racewitness/racewitness/analysis/Race" "lastScheduled" "[I" .null) (F_schedule : Fld Z h0 o "com/example/racewitness/racewitness/analysis/Race" "schedule" "[I" .null) (F_prefixWitness : Fld Z h0 o "com/example/racewitness/racewitness/analysis/Race" "prefixWitness" "Lcom/example/racewitness/racewitness/analysis/Race$PrefixWitness;" .null) (hp1 : ¬ p1 < (0 : Int32)) (hp2 : p1 < p2) :
    MetFree l (⟨"com/example/racewitness/racewitness/analysis/Race", "<init>", "(II[I[ILcom/example/racewitness/racewitness/analysis/Race$PrefixWitness;)V"⟩ : MethodName) (head1 (Jvm.Cond.code (⟨"com/example/racewitness/racewitness/analysis/Race", "<init>", "(II[I[ILcom/example/racewitness/racewitness/analysis/Race$PrefixWitness;)V"⟩ : MethodName) prog_33_method_3_code 6 none :: ws) ({ frames := 1, cells := 0, slots := 0, locals := 12 } : Room)) (fun a U => a = #[(.ref o), (.int p1), (.int p2), .null, .null, .null] ∧ Z.Warmed39 U.vm ∧ U.heap = h0) (fun _ _ _ _ _ => True) (fun _ U oU U' => ∃ v L, oU = .returned v ∧ Q2b Z o p1 p2 h0 n0 v U'.heap L ∧ FrameEnd U oU U' L ({ frames := 1, cells := 0, slots := 0, locals := 12 } : Room).cells ({ frames := 1, cells := 0, slots := 0, locals := 12 } : Room).slots) := by
  refine MetFree.of_bodySF (plainFor_of_name pn_2) hisR ?_
  intro p e s m args below meth c s₁ Bd hml0 hP hK
  obtain ⟨rfl, hZ, hh⟩ := hP
  have hx := Bd.exec
  have hby := Bd.bytes
  have hml : c.maxLocals = 6 := hml0
  have hown : s.vm.findClass "com/example/racewitness/racewitness/analysis/Race" = some m.cls := findClass_of_methodNamed Bd.named
  have hnm := (name_of_methodNamed Bd.named Bd.method).1
  have X0 : Stand p l e ({ frames := 1, cells := 0, slots := 0, locals := 12 } : Room) s m #[(.ref o), (.int p1), (.int p2), .null, .null, .null] below meth c s₁ [] 0 0 := Stand.of_body Bd
  have e0 : s₁.heap = h0 := by rw [← hh, Bd.state]; rfl
  have N0 := Fr.nil n0
  have go0 : ∀ t, Steps p.tables e below (s₁.setTop (mkF m 0 #[.val (.ref o), .val (.int p1), .val (.int p2), .val .null, .val .null, .val .null] [])) t → Steps p.tables e below (s₁.setTop (entryFrame m #[(.ref o), (.int p1), (.int p2), .null, .null, .null] 6)) t := fun t k => castTop (ef_2b m o p1 p2) k
  obtain ⟨T1, X1, e1, st1⟩ := initO X0 hx hZ hown (hw _ (List.mem_of_getElem? (i := 11) rfl)) (hw _ (List.mem_of_getElem? (i := 12) rfl)) (hw _ (List.mem_of_getElem? (i := 13) rfl)) e0 (g := (mkF m 1 #[.val (.ref o), .val (.int p1), .val (.int p2), .val .null, .val .null, .val .null] [(.ref o)])) rfl (by rw [hml]; rfl) rfl (hb hby d2_1) (by decide) (W := 0) (by show 2 * 0 + _ ≤ _; exact Nat.le_of_eq rfl) (by decide)
  obtain ⟨T2, h2, X2, e2, W2, st2⟩ := putF X1 hx hZ hown (host := "") (Or.inl (hw _ (List.mem_of_getElem? (i := 14) rfl))) Via.refl e1 F_partner E (Or.inr ⟨(hw _ (List.mem_of_getElem? (i := 15) rfl)), rfl, hnm⟩) (hw _ (List.mem_of_getElem? (i := 3) rfl)) (ty := .int) (by decide) rfl rfl (g := (mkF m 30 #[.val (.ref o), .val (.int p1), .val (.int p2), .val .null, .val .null, .val .null] [(.int p1), (.ref o)])) rfl rfl (hb hby d2_30)
  have E2_o := E.wr W2
  have F2_o_partner := F_partner.same W2
  have F2_o_racyEvent := F_racyEvent.other W2 (Or.inr (slot_ne (Or.inr (hw _ (List.mem_of_getElem? (i := 17) rfl))) (Or.inr (hw _ (List.mem_of_getElem? (i := 15) rfl))) (by decide) (t := .int) (t' := .int) (by decide) (by decide)))
  have F2_o_lastScheduled := F_lastScheduled.other W2 (Or.inr (slot_ne (Or.inr (hw _ (List.mem_of_getElem? (i := 19) rfl))) (Or.inr (hw _ (List.mem_of_getElem? (i := 15) rfl))) (by decide) (t := (.array .int)) (t' := .int) (by decide) (by decide)))
  have F2_o_schedule := F_schedule.other W2 (Or.inr (slot_ne (Or.inr (hw _ (List.mem_of_getElem? (i := 21) rfl))) (Or.inr (hw _ (List.mem_of_getElem? (i := 15) rfl))) (by decide) (t := (.array .int)) (t' := .int) (by decide) (by decide)))
  have F2_o_prefixWitness := F_prefixWitness.other W2 (Or.inr (slot_ne (Or.inr (hw _ (List.mem_of_getElem? (i := 23) rfl))) (Or.inr (hw _ (List.mem_of_getElem? (i := 15) rfl))) (by decide) (t := (.object "com/example/racewitness/racewitness/analysis/Race$PrefixWitness")) (t' := .int) (by decide) (by decide)))
  have N2 := Fr.snoc X2 N0 ge
  have K2 : Keep h0 h2 [o] := (Keep.refl h0 [o]).wr W2 (Or.inl (List.mem_of_getElem? (i := 0) rfl))
  obtain ⟨T3, h3, X3, e3, W3, st3⟩ := putF X2 hx hZ hown (host := "") (Or.inl (hw _ (List.mem_of_getElem? (i := 16) rfl))) Via.refl e2 F2_o_racyEvent E2_o (Or.inr ⟨(hw _ (List.mem_of_getElem? (i := 17) rfl)), rfl, hnm⟩) (hw _ (List.mem_of_getElem? (i := 3) rfl)) (ty := .int) (by decide) rfl rfl (g := (mkF m 35 #[.val (.ref o), .val (.int p1), .val (.int p2), .val .null, .val .null, .val .null] [(.int p2), (.ref o)])) rfl rfl (hb hby d2_35)
  have E3_o := E2_o.wr W3
  have F3_o_partner := F2_o_partner.other W3 (Or.inr (slot_ne (Or.inr (hw _ (List.mem_of_getElem? (i := 15) rfl))) (Or.inr (hw _ (List.mem_of_getElem? (i := 17) rfl))) (by decide) (t := .int) (t' := .int) (by decide) (by decide)))
  have F3_o_racyEvent := F2_o_racyEvent.same W3
  have F3_o_lastScheduled := F2_o_lastScheduled.other W3 (Or.inr (slot_ne (Or.inr (hw _ (List.mem_of_getElem? (i := 19) rfl))) (Or.inr (hw _ (List.mem_of_getElem? (i := 17) rfl))) (by decide) (t := (.array .int)) (t' := .int) (by decide) (by decide)))
  have F3_o_schedule := F2_o_schedule.other W3 (Or.inr (slot_ne (Or.inr (hw _ (List.mem_of_getElem? (i := 21) rfl))) (Or.inr (hw _ (List.mem_of_getElem? (i := 17) rfl))) (by decide) (t := (.array .int)) (t' := .int) (by decide) (by decide)))
  have F3_o_prefixWitness := F2_o_prefixWitness.other W3 (Or.inr (slot_ne (Or.inr (hw _ (List.mem_of_getElem? (i := 23) rfl))) (Or.inr (hw _ (List.mem_of_getElem? (i := 17) rfl))) (by decide) (t := (.object "com/example/racewitness/racewitness/analysis/Race$PrefixWitness")) (t' := .int) (by decide) (by decide)))
  have N3 := Fr.snoc X3 N2 ge
  have K3 : Keep h0 h3 [o] := K2.wr W3 (Or.inl (List.mem_of_getElem? (i := 0) rfl))
  obtain ⟨T4, h4, X4, e4, W4, st4⟩ := putF X3 hx hZ hown (host := "") (Or.inl (hw _ (List.mem_of_getElem? (i := 18) rfl))) Via.refl e3 F3_o_lastScheduled E3_o (Or.inr ⟨(hw _ (List.mem_of_getElem? (i := 19) rfl)), rfl, hnm⟩) (hw _ (List.mem_of_getElem? (i := 3) rfl)) (ty := (.array .int)) (by decide) rfl rfl (g := (mkF m 40 #[.val (.ref o), .val (.int p1), .val (.int p2), .val .null, .val .null, .val .null] [.null, (.ref o)])) rfl rfl (hb hby d2_40)
  have E4_o := E3_o.wr W4
  have F4_o_partner := F3_o_partner.other W4 (Or.inr (slot_ne (Or.inr (hw _ (List.mem_of_getElem? (i := 15) rfl))) (Or.inr (hw _ (List.mem_of_getElem? (i := 19) rfl))) (by decide) (t := .int) (t' := (.array .int)) (by decide) (by decide)))
  have F4_o_racyEvent := F3_o_racyEvent.other W4 (Or.inr (slot_ne (Or.inr (hw _ (List.mem_of_getElem? (i := 17) rfl))) (Or.inr (hw _ (List.mem_of_getElem? (i := 19) rfl))) (by decide) (t := .int) (t' := (.array .int)) (by decide) (by decide)))
  have F4_o_lastScheduled := F3_o_lastScheduled.same W4
  have F4_o_schedule := F3_o_schedule.other W4 (Or.inr (slot_ne (Or.inr (hw _ (List.mem_of_getElem? (i := 21) rfl))) (Or.inr (hw _ (List.mem_of_getElem? (i := 19) rfl))) (by decide) (t := (.array .int)) (t' := (.array .int)) (by decide) (by decide)))
  have F4_o_prefixWitness := F3_o_prefixWitness.other W4 (Or.inr (slot_ne (Or.inr (hw _ (List.mem_of_getElem? (i := 23) rfl))) (Or.inr (hw _ (List.mem_of_getElem? (i := 19) rfl))) (by decide) (t := (.object "com/example/racewitness/racewitness/analysis/Race$PrefixWitness")) (t' := (.array .int)) (by decide) (by decide)))
  have N4 := Fr.snoc X4 N3 ge
  have K4 : Keep h0 h4 [o] := K3.wr W4 (Or.inl (List.mem_of_getElem? (i := 0) rfl))
  obtain ⟨T5, h5, X5, e5, W5, st5⟩ := putF X4 hx hZ hown (host := "") (Or.inl (hw _ (List.mem_of_getElem? (i := 20) rfl))) Via.refl e4 F4_o_schedule E4_o (Or.inr ⟨(hw _ (List.mem_of_getElem? (i := 21) rfl)), rfl, hnm⟩) (hw _ (List.mem_of_getElem? (i := 3) rfl)) (ty := (.array .int)) (by decide) rfl rfl (g := (mkF m 46 #[.val (.ref o), .val (.int p1), .val (.int p2), .val .null, .val .null, .val .null] [.null, (.ref o)])) rfl rfl (hb hby d2_46)
  have E5_o := E4_o.wr W5
  have F5_o_partner := F4_o_partner.other W5 (Or.inr (slot_ne (Or.inr (hw _ (List.mem_of_getElem? (i := 15) rfl))) (Or.inr (hw _ (List.mem_of_getElem? (i := 21) rfl))) (by decide) (t := .int) (t' := (.array .int)) (by decide) (by decide)))
  have F5_o_racyEvent := F4_o_racyEvent.other W5 (Or.inr (slot_ne (Or.inr (hw _ (List.mem_of_getElem? (i := 17) rfl))) (Or.inr (hw _ (List.mem_of_getElem? (i := 21) rfl))) (by decide) (t := .int) (t' := (.array .int)) (by decide) (by decide)))
  have F5_o_lastScheduled := F4_o_lastScheduled.other W5 (Or.inr (slot_ne (Or.inr (hw _ (List.mem_of_getElem? (i := 19) rfl))) (Or.inr (hw _ (List.mem_of_getElem? (i := 21) rfl))) (by decide) (t := (.array .int)) (t' := (.array .int)) (by decide) (by decide)))
  have F5_o_schedule := F4_o_schedule.same W5
  have F5_o_prefixWitness := F4_o_prefixWitness.other W5 (Or.inr (slot_ne (Or.inr (hw _ (List.mem_of_getElem? (i := 23) rfl))) (Or.inr (hw _ (List.mem_of_getElem? (i := 21) rfl))) (by decide) (t := (.object "com/example/racewitness/racewitness/analysis/Race$PrefixWitness")) (t' := (.array .int)) (by decide) (by decide)))
  have N5 := Fr.snoc X5 N4 ge
  have K5 : Keep h0 h5 [o] := K4.wr W5 (Or.inl (List.mem_of_getElem? (i := 0) rfl))
  obtain ⟨T6, h6, X6, e6, W6, st6⟩ := putF X5 hx hZ hown (host := "") (Or.inl (hw _ (List.mem_of_getElem? (i := 22) rfl))) Via.refl e5 F5_o_prefixWitness E5_o (Or.inr ⟨(hw _ (List.mem_of_getElem? (i := 23) rfl)), rfl, hnm⟩) (hw _ (List.mem_of_getElem? (i := 3) rfl)) (ty := (.object "com/example/racewitness/racewitness/analysis/Race$PrefixWitness")) (by decide) rfl rfl (g := (mkF m 52 #[.val (.ref o), .val (.int p1), .val (.int p2), .val .null, .val .null, .val .null] [.null, (.ref o)])) rfl rfl (hb hby d2_52)
  have E6_o := E5_o.wr W6
  have F6_o_partner := F5_o_partner.other W6 (Or.inr (slot_ne (Or.inr (hw _ (List.mem_of_getElem? (i := 15) rfl))) (Or.inr (hw _ (List.mem_of_getElem? (i := 23) rfl))) (by decide) (t := .int) (t' := (.object "com/example/racewitness/racewitness/analysis/Race$PrefixWitness")) (by decide) (by decide)))
  have F6_o_racyEvent := F5_o_racyEvent.other W6 (Or.inr (slot_ne (Or.inr (hw _ (List.mem_of_getElem? (i := 17) rfl))) (Or.inr (hw _ (List.mem_of_getElem? (i := 23) rfl))) (by decide) (t := .int) (t' := (.object "com/example/racewitness/racewitness/analysis/Race$PrefixWitness")) (by decide) (by decide)))
  have F6_o_lastScheduled := F5_o_lastScheduled.other W6 (Or.inr (slot_ne (Or.inr (hw _ (List.mem_of_getElem? (i := 19) rfl))) (Or.inr (hw _ (List.mem_of_getElem? (i := 23) rfl))) (by decide) (t := (.array .int)) (t' := (.object "com/example/racewitness/racewitness/analysis/Race$PrefixWitness")) (by decide) (by decide)))
  have F6_o_schedule := F5_o_schedule.other W6 (Or.inr (slot_ne (Or.inr (hw _ (List.mem_of_getElem? (i := 21) rfl))) (Or.inr (hw _ (List.mem_of_getElem? (i := 23) rfl))) (by decide) (t := (.array .int)) (t' := (.object "com/example/racewitness/racewitness/analysis/Race$PrefixWitness")) (by decide) (by decide)))
  have F6_o_prefixWitness := F5_o_prefixWitness.same W6
  have N6 := Fr.snoc X6 N5 ge
  have K6 : Keep h0 h6 [o] := K5.wr W6 (Or.inl (List.mem_of_getElem? (i := 0) rfl))
  obtain ⟨fs, hr, hrun, hended, hW, hsame⟩ := X6.leave (v := none) (fun _ => rfl)
  refine ⟨_, _, go0 _ ?_, hrun, hended, _, _, rfl, ?_, ⟨_, rfl⟩, hW, hsame.mono (by decide) (by decide)⟩
  · show Steps p.tables e below (s₁.setTop (mkF m 0 #[.val (.ref o), .val (.int p1), .val (.int p2), .val .null, .val .null, .val .null] [])) _
    refine XS.aloadN X0.here hx rfl (hb hby d2_0) rfl rfl ?_
    show Steps p.tables e below (s₁.setTop (mkF m 1 #[.val (.ref o), .val (.int p1), .val (.int p2), .val .null, .val .null, .val .null] [(.ref o)])) _
    refine st1 _ ?_
    show Steps p.tables e below (T1.setTop (mkF m 4 #[.val (.ref o), .val (.int p1), .val (.int p2), .val .null, .val .null, .val .null] [])) _
    refine XS.iloadN X1.here hx rfl (hb hby d2_4) rfl ?_
    show Steps p.tables e below (T1.setTop (mkF m 5 #[.val (.ref o), .val (.int p1), .val (.int p2), .val .null, .val .null, .val .null] [(.int p1)])) _
    refine XS.ifNo X1.here hx rfl (hb hby d2_5) rfl ((if0 _ _).trans (flt hp1).1) ?_
    show Steps p.tables e below (T1.setTop (mkF m 8 #[.val (.ref o), .val (.int p1), .val (.int p2), .val .null, .val .null, .val .null] [])) _
    refine XS.iloadN X1.here hx rfl (hb hby d2_8) rfl ?_
    show Steps p.tables e below (T1.setTop (mkF m 9 #[.val (.ref o), .val (.int p1), .val (.int p2), .val .null, .val .null, .val .null] [(.int p1)])) _
    refine XS.iloadN X1.here hx rfl (hb hby d2_9) rfl ?_
    show Steps p.tables e below (T1.setTop (mkF m 10 #[.val (.ref o), .val (.int p1), .val (.int p2), .val .null, .val .null, .val .null] [(.int p2), (.int p1)])) _
    refine XS.icmpYes X1.here hx rfl (pc0 := 10) (pc' := 28) rfl (hb hby d2_10) rfl (tlt hp2).1 (by decide) (by decide) ?_
    show Steps p.tables e below (T1.setTop (mkF m 28 #[.val (.ref o), .val (.int p1), .val (.int p2), .val .null, .val .null, .val .null] [])) _
    refine XS.aloadN X1.here hx rfl (hb hby d2_28) rfl rfl ?_
    show Steps p.tables e below (T1.setTop (mkF m 29 #[.val (.ref o), .val (.int p1), .val (.int p2), .val .null, .val .null, .val .null] [(.ref o)])) _
    refine XS.iloadN X1.here hx rfl (hb hby d2_29) rfl ?_
    show Steps p.tables e below (T1.setTop (mkF m 30 #[.val (.ref o), .val (.int p1), .val (.int p2), .val .null, .val .null, .val .null] [(.int p1), (.ref o)])) _
    refine st2 _ ?_
    show Steps p.tables e below (T2.setTop (mkF m 33 #[.val (.ref o), .val (.int p1), .val (.int p2), .val .null, .val .null, .val .null] [])) _
    refine XS.aloadN X2.here hx rfl (hb hby d2_33) rfl rfl ?_
    show Steps p.tables e below (T2.setTop (mkF m 34 #[.val (.ref o), .val (.int p1), .val (.int p2), .val .null, .val .null, .val .null] [(.ref o)])) _
    refine XS.iloadN X2.here hx rfl (hb hby d2_34) rfl ?_
    show Steps p.tables e below (T2.setTop (mkF m 35 #[.val (.ref o), .val (.int p1), .val (.int p2), .val .null, .val .null, .val .null] [(.int p2), (.ref o)])) _
    refine st3 _ ?_
    show Steps p.tables e below (T3.setTop (mkF m 38 #[.val (.ref o), .val (.int p1), .val (.int p2), .val .null, .val .null, .val .null] [])) _
    refine XS.aloadN X3.here hx rfl (hb hby d2_38) rfl rfl ?_
    show Steps p.tables e below (T3.setTop (mkF m 39 #[.val (.ref o), .val (.int p1), .val (.int p2), .val .null, .val .null, .val .null] [(.ref o)])) _
    refine XS.aloadN X3.here hx rfl (hb hby d2_39) rfl rfl ?_
    show Steps p.tables e below (T3.setTop (mkF m 40 #[.val (.ref o), .val (.int p1), .val (.int p2), .val .null, .val .null, .val .null] [.null, (.ref o)])) _
    refine st4 _ ?_
    show Steps p.tables e below (T4.setTop (mkF m 43 #[.val (.ref o), .val (.int p1), .val (.int p2), .val .null, .val .null, .val .null] [])) _
    refine XS.aloadN X4.here hx rfl (hb hby d2_43) rfl rfl ?_
    show Steps p.tables e below (T4.setTop (mkF m 44 #[.val (.ref o), .val (.int p1), .val (.int p2), .val .null, .val .null, .val .null] [(.ref o)])) _
    refine XS.aload X4.here hx rfl (hb hby d2_44) rfl rfl ?_
    show Steps p.tables e below (T4.setTop (mkF m 46 #[.val (.ref o), .val (.int p1), .val (.int p2), .val .null, .val .null, .val .null] [.null, (.ref o)])) _
    refine st5 _ ?_
    show Steps p.tables e below (T5.setTop (mkF m 49 #[.val (.ref o), .val (.int p1), .val (.int p2), .val .null, .val .null, .val .null] [])) _
    refine XS.aloadN X5.here hx rfl (hb hby d2_49) rfl rfl ?_
    show Steps p.tables e below (T5.setTop (mkF m 50 #[.val (.ref o), .val (.int p1), .val (.int p2), .val .null, .val .null, .val .null] [(.ref o)])) _
    refine XS.aload X5.here hx rfl (hb hby d2_50) rfl rfl ?_
    show Steps p.tables e below (T5.setTop (mkF m 52 #[.val (.ref o), .val (.int p1), .val (.int p2), .val .null, .val .null, .val .null] [.null, (.ref o)])) _
    refine st6 _ ?_
    show Steps p.tables e below (T6.setTop (mkF m 55 #[.val (.ref o), .val (.int p1), .val (.int p2), .val .null, .val .null, .val .null] [])) _
    exact X6.returnOut hx Bd.returns (hb hby d2_55) hr
  · show Q2b Z o p1 p2 h0 n0 _ T6.heap _
    rw [e6]
    exact ⟨rfl, N6, K6, F6_o_partner, F6_o_racyEvent, F6_o_lastScheduled, F6_o_schedule, F6_o_prefixWitness⟩
theorem ef_2c (m : MethodId) (o : Addr) (arr : Addr) (p1 : Int32) (p2 : Int32) : entryFrame m #[(.ref o), (.int p1), (.int p2), .null, (.ref arr), .null] 6 = mkF m 0 #[.val (.ref o), .val (.int p1), .val (.int p2), .val .null, .val (.ref arr), .val .null] [] := by first | (simp [entryFrame, mkF, argsToLocals, Value.category]; done) | rfl
def Q2c (Z : State) (o arr : Addr) (p1 p2 : Int32) (h0 : Heap) (n0 : Nat) (v : Option Value) (h : Heap) (L : List Loc) : Prop := v = none ∧ Fr n0 L ∧ Keep h0 h [o] ∧ Fld Z h o "com/example/racewitness/racewitness/analysis/Race" "partner" "I" (.int p1) ∧ Fld Z h o "com/example/racewitness/racewitness/analysis/Race" "racyEvent" "I" (.int p2) ∧ Fld Z h o "com/example/racewitness/racewitness/analysis/Race" "lastScheduled" "[I" .null ∧ Fld Z h o "com/example/racewitness/racewitness/analysis/Race" "schedule" "[I" (.ref arr) ∧ Fld Z h o "com/example/racewitness/racewitness/analysis/Race" "prefixWitness" "Lcom/example/racewitness/racewitness/analysis/Race$PrefixWitness;" .null
set_option maxRecDepth 65536 in
set_option maxHeartbeats 40000000 in
theorem rm2c (l : Launch) (Z : State) (a0 : Array Value) (hw : ∀ d ∈ tables_1, d.before a0 Z = true) (ws : List Jvm.Cond) (o arr : Addr) (p1 p2 : Int32) (h0 : Heap) (n0 : Nat) (Z0 : n0 ≤ h0.size) (ge : n0 ≤ o) (E : Exa Z h0 o "com/example/racewitness/racewitness/analysis/Race") (F_partner : Fld Z h0 o "com/example/racewitness/racewitness/analysis/Race" "partner" "I" (.int (0 : Int32))) (F_racyEvent : Fld Z h0 o "com/example/racewitness/racewitness/analysis/Race" "racyEvent" "I" (.int (0 : Int32))) (F_lastScheduled : Fld Z h0 o "com/example/racewitness/racewitness/analysis/Race" "lastScheduled" "[I" .null) (F_schedule : Fld Z h0 o "com/example/racewitness/racewitness/analysis/Race" "schedule" "[I" .null) (F_prefixWitness : Fld Z h0 o "com/example/racewitness/racewitness/analysis/Race" "prefixWitness" "Lcom/example/racewitness/racewitness/analysis/Race$PrefixWitness;" .null) (hp1 : ¬ p1 < (0 : Int32)) (hp2 : p1 < p2) :
    MetFree l (⟨"com/example/racewitness/racewitness/analysis/Race", "<init>", "(II[I[ILcom/example/racewitness/racewitness/analysis/Race$PrefixWitness;)V"⟩ : MethodName) (head1 (Jvm.Cond.code (⟨"com/example/racewitness/racewitness/analysis/Race", "<init>", "(II[I[ILcom/example/racewitness/racewitness/analysis/Race$PrefixWitness;)V"⟩ : MethodName) prog_33_method_3_code 6 none :: ws) ({ frames := 1, cells := 0, slots := 0, locals := 12 } : Room)) (fun a U => a = #[(.ref o), (.int p1), (.int p2), .null, (.ref arr), .null] ∧ Z.Warmed39 U.vm ∧ U.heap = h0) (fun _ _ _ _ _ => True) (fun _ U oU U' => ∃ v L, oU = .returned v ∧ Q2c Z o arr p1 p2 h0 n0 v U'.heap L ∧ FrameEnd U oU U' L ({ frames := 1, cells := 0, slots := 0, locals := 12 } : Room).cells ({ frames := 1, cells := 0, slots := 0, locals := 12 } : Room).slots) := by
  refine MetFree.of_bodySF (plainFor_of_name pn_2) hisR ?_
  intro p e s m args below meth c s₁ Bd hml0 hP hK
  obtain ⟨rfl, hZ, hh⟩ := hP
  have hx := Bd.exec
  have hby := Bd.bytes
  have hml : c.maxLocals = 6 := hml0
  have hown : s.vm.findClass "com/example/racewitness/racewitness/analysis/Race" = some m.cls := findClass_of_methodNamed Bd.named
  have hnm := (name_of_methodNamed Bd.named Bd.method).1
  have X0 : Stand p l e ({ frames := 1, cells := 0, slots := 0, locals := 12 } : Room) s m #[(.ref o), (.int p1), (.int p2), .null, (.ref arr), .null] below meth c s₁ [] 0 0 := Stand.of_body Bd
  have e0 : s₁.heap = h0 := by rw [← hh, Bd.state]; rfl
  have N0 := Fr.nil n0
  have go0 : ∀ t, Steps p.tables e below (s₁.setTop (mkF m 0 #[.val (.ref o), .val (.int p1), .val (.int p2), .val .null, .val (.ref arr), .val .null] [])) t → Steps p.tables e below (s₁.setTop (entryFrame m #[(.ref o), (.int p1), (.int p2), .null, (.ref arr), .null] 6)) t := fun t k => castTop (ef_2c m o arr p1 p2) k
  obtain ⟨T1, X1, e1, st1⟩ := initO X0 hx hZ hown (hw _ (List.mem_of_getElem? (i := 11) rfl)) (hw _ (List.mem_of_getElem? (i := 12) rfl)) (hw _ (List.mem_of_getElem? (i := 13) rfl)) e0 (g := (mkF m 1 #[.val (.ref o), .val (.int p1), .val (.int p2), .val .null, .val (.ref arr), .val .null] [(.ref o)])) rfl (by rw [hml]; rfl) rfl (hb hby d2_1) (by decide) (W := 0) (by show 2 * 0 + _ ≤ _; exact Nat.le_of_eq rfl) (by decide)
  obtain ⟨T2, h2, X2, e2, W2, st2⟩ := putF X1 hx hZ hown (host := "") (Or.inl (hw _ (List.mem_of_getElem? (i := 14) rfl))) Via.refl e1 F_partner E (Or.inr ⟨(hw _ (List.mem_of_getElem? (i := 15) rfl)), rfl, hnm⟩) (hw _ (List.mem_of_getElem? (i := 3) rfl)) (ty := .int) (by decide) rfl rfl (g := (mkF m 30 #[.val (.ref o), .val (.int p1), .val (.int p2), .val .null, .val (.ref arr), .val .null] [(.int p1), (.ref o)])) rfl rfl (hb hby d2_30)
  have E2_o := E.wr W2
  have F2_o_partner := F_partner.same W2
  have F2_o_racyEvent := F_racyEvent.other W2 (Or.inr (slot_ne (Or.inr (hw _ (List.mem_of_getElem? (i := 17) rfl))) (Or.inr (hw _ (List.mem_of_getElem? (i := 15) rfl))) (by decide) (t := .int) (t' := .int) (by decide) (by decide)))
  have F2_o_lastScheduled := F_lastScheduled.other W2 (Or.inr (slot_ne (Or.inr (hw _ (List.mem_of_getElem? (i := 19) rfl))) (Or.inr (hw _ (List.mem_of_getElem? (i := 15) rfl))) (by decide) (t := (.array .int)) (t' := .int) (by decide) (by decide)))
  have F2_o_schedule := F_schedule.other W2 (Or.inr (slot_ne (Or.inr (hw _ (List.mem_of_getElem? (i := 21) rfl))) (Or.inr (hw _ (List.mem_of_getElem? (i := 15) rfl))) (by decide) (t := (.array .int)) (t' := .int) (by decide) (by decide)))
  have F2_o_prefixWitness := F_prefixWitness.other W2 (Or.inr (slot_ne (Or.inr (hw _ (List.mem_of_getElem? (i := 23) rfl))) (Or.inr (hw _ (List.mem_of_getElem? (i := 15) rfl))) (by decide) (t := (.object "com/example/racewitness/racewitness/analysis/Race$PrefixWitness")) (t' := .int) (by decide) (by decide)))
  have N2 := Fr.snoc X2 N0 ge
  have K2 : Keep h0 h2 [o] := (Keep.refl h0 [o]).wr W2 (Or.inl (List.mem_of_getElem? (i := 0) rfl))
  obtain ⟨T3, h3, X3, e3, W3, st3⟩ := putF X2 hx hZ hown (host := "") (Or.inl (hw _ (List.mem_of_getElem? (i := 16) rfl))) Via.refl e2 F2_o_racyEvent E2_o (Or.inr ⟨(hw _ (List.mem_of_getElem? (i := 17) rfl)), rfl, hnm⟩) (hw _ (List.mem_of_getElem? (i := 3) rfl)) (ty := .int) (by decide) rfl rfl (g := (mkF m 35 #[.val (.ref o), .val (.int p1), .val (.int p2), .val .null, .val (.ref arr), .val .null] [(.int p2), (.ref o)])) rfl rfl (hb hby d2_35)
  have E3_o := E2_o.wr W3
  have F3_o_partner := F2_o_partner.other W3 (Or.inr (slot_ne (Or.inr (hw _ (List.mem_of_getElem? (i := 15) rfl))) (Or.inr (hw _ (List.mem_of_getElem? (i := 17) rfl))) (by decide) (t := .int) (t' := .int) (by decide) (by decide)))
  have F3_o_racyEvent := F2_o_racyEvent.same W3
  have F3_o_lastScheduled := F2_o_lastScheduled.other W3 (Or.inr (slot_ne (Or.inr (hw _ (List.mem_of_getElem? (i := 19) rfl))) (Or.inr (hw _ (List.mem_of_getElem? (i := 17) rfl))) (by decide) (t := (.array .int)) (t' := .int) (by decide) (by decide)))
  have F3_o_schedule := F2_o_schedule.other W3 (Or.inr (slot_ne (Or.inr (hw _ (List.mem_of_getElem? (i := 21) rfl))) (Or.inr (hw _ (List.mem_of_getElem? (i := 17) rfl))) (by decide) (t := (.array .int)) (t' := .int) (by decide) (by decide)))
  have F3_o_prefixWitness := F2_o_prefixWitness.other W3 (Or.inr (slot_ne (Or.inr (hw _ (List.mem_of_getElem? (i := 23) rfl))) (Or.inr (hw _ (List.mem_of_getElem? (i := 17) rfl))) (by decide) (t := (.object "com/example/racewitness/racewitness/analysis/Race$PrefixWitness")) (t' := .int) (by decide) (by decide)))
  have N3 := Fr.snoc X3 N2 ge
  have K3 : Keep h0 h3 [o] := K2.wr W3 (Or.inl (List.mem_of_getElem? (i := 0) rfl))
  obtain ⟨T4, h4, X4, e4, W4, st4⟩ := putF X3 hx hZ hown (host := "") (Or.inl (hw _ (List.mem_of_getElem? (i := 18) rfl))) Via.refl e3 F3_o_lastScheduled E3_o (Or.inr ⟨(hw _ (List.mem_of_getElem? (i := 19) rfl)), rfl, hnm⟩) (hw _ (List.mem_of_getElem? (i := 3) rfl)) (ty := (.array .int)) (by decide) rfl rfl (g := (mkF m 40 #[.val (.ref o), .val (.int p1), .val (.int p2), .val .null, .val (.ref arr), .val .null] [.null, (.ref o)])) rfl rfl (hb hby d2_40)
  have E4_o := E3_o.wr W4
  have F4_o_partner := F3_o_partner.other W4 (Or.inr (slot_ne (Or.inr (hw _ (List.mem_of_getElem? (i := 15) rfl))) (Or.inr (hw _ (List.mem_of_getElem? (i := 19) rfl))) (by decide) (t := .int) (t' := (.array .int)) (by decide) (by decide)))
  have F4_o_racyEvent := F3_o_racyEvent.other W4 (Or.inr (slot_ne (Or.inr (hw _ (List.mem_of_getElem? (i := 17) rfl))) (Or.inr (hw _ (List.mem_of_getElem? (i := 19) rfl))) (by decide) (t := .int) (t' := (.array .int)) (by decide) (by decide)))
  have F4_o_lastScheduled := F3_o_lastScheduled.same W4
  have F4_o_schedule := F3_o_schedule.other W4 (Or.inr (slot_ne (Or.inr (hw _ (List.mem_of_getElem? (i := 21) rfl))) (Or.inr (hw _ (List.mem_of_getElem? (i := 19) rfl))) (by decide) (t := (.array .int)) (t' := (.array .int)) (by decide) (by decide)))
  have F4_o_prefixWitness := F3_o_prefixWitness.other W4 (Or.inr (slot_ne (Or.inr (hw _ (List.mem_of_getElem? (i := 23) rfl))) (Or.inr (hw _ (List.mem_of_getElem? (i := 19) rfl))) (by decide) (t := (.object "com/example/racewitness/racewitness/analysis/Race$PrefixWitness")) (t' := (.array .int)) (by decide) (by decide)))
  have N4 := Fr.snoc X4 N3 ge
  have K4 : Keep h0 h4 [o] := K3.wr W4 (Or.inl (List.mem_of_getElem? (i := 0) rfl))
  obtain ⟨T5, h5, X5, e5, W5, st5⟩ := putF X4 hx hZ hown (host := "") (Or.inl (hw _ (List.mem_of_getElem? (i := 20) rfl))) Via.refl e4 F4_o_schedule E4_o (Or.inr ⟨(hw _ (List.mem_of_getElem? (i := 21) rfl)), rfl, hnm⟩) (hw _ (List.mem_of_getElem? (i := 3) rfl)) (ty := (.array .int)) (by decide) rfl rfl (g := (mkF m 46 #[.val (.ref o), .val (.int p1), .val (.int p2), .val .null, .val (.ref arr), .val .null] [(.ref arr), (.ref o)])) rfl rfl (hb hby d2_46)
  have E5_o := E4_o.wr W5
  have F5_o_partner := F4_o_partner.other W5 (Or.inr (slot_ne (Or.inr (hw _ (List.mem_of_getElem? (i := 15) rfl))) (Or.inr (hw _ (List.mem_of_getElem? (i := 21) rfl))) (by decide) (t := .int) (t' := (.array .int)) (by decide) (by decide)))
  have F5_o_racyEvent := F4_o_racyEvent.other W5 (Or.inr (slot_ne (Or.inr (hw _ (List.mem_of_getElem? (i := 17) rfl))) (Or.inr (hw _ (List.mem_of_getElem? (i := 21) rfl))) (by decide) (t := .int) (t' := (.array .int)) (by decide) (by decide)))
  have F5_o_lastScheduled := F4_o_lastScheduled.other W5 (Or.inr (slot_ne (Or.inr (hw _ (List.mem_of_getElem? (i := 19) rfl))) (Or.inr (hw _ (List.mem_of_getElem? (i := 21) rfl))) (by decide) (t := (.array .int)) (t' := (.array .int)) (by decide) (by decide)))
  have F5_o_schedule := F4_o_schedule.same W5
  have F5_o_prefixWitness := F4_o_prefixWitness.other W5 (Or.inr (slot_ne (Or.inr (hw _ (List.mem_of_getElem? (i := 23) rfl))) (Or.inr (hw _ (List.mem_of_getElem? (i := 21) rfl))) (by decide) (t := (.object "com/example/racewitness/racewitness/analysis/Race$PrefixWitness")) (t' := (.array .int)) (by decide) (by decide)))
  have N5 := Fr.snoc X5 N4 ge
  have K5 : Keep h0 h5 [o] := K4.wr W5 (Or.inl (List.mem_of_getElem? (i := 0) rfl))
  obtain ⟨T6, h6, X6, e6, W6, st6⟩ := putF X5 hx hZ hown (host := "") (Or.inl (hw _ (List.mem_of_getElem? (i := 22) rfl))) Via.refl e5 F5_o_prefixWitness E5_o (Or.inr ⟨(hw _ (List.mem_of_getElem? (i := 23) rfl)), rfl, hnm⟩) (hw _ (List.mem_of_getElem? (i := 3) rfl)) (ty := (.object "com/example/racewitness/racewitness/analysis/Race$PrefixWitness")) (by decide) rfl rfl (g := (mkF m 52 #[.val (.ref o), .val (.int p1), .val (.int p2), .val .null, .val (.ref arr), .val .null] [.null, (.ref o)])) rfl rfl (hb hby d2_52)
  have E6_o := E5_o.wr W6
  have F6_o_partner := F5_o_partner.other W6 (Or.inr (slot_ne (Or.inr (hw _ (List.mem_of_getElem? (i := 15) rfl))) (Or.inr (hw _ (List.mem_of_getElem? (i := 23) rfl))) (by decide) (t := .int) (t' := (.object "com/example/racewitness/racewitness/analysis/Race$PrefixWitness")) (by decide) (by decide)))
  have F6_o_racyEvent := F5_o_racyEvent.other W6 (Or.inr (slot_ne (Or.inr (hw _ (List.mem_of_getElem? (i := 17) rfl))) (Or.inr (hw _ (List.mem_of_getElem? (i := 23) rfl))) (by decide) (t := .int) (t' := (.object "com/example/racewitness/racewitness/analysis/Race$PrefixWitness")) (by decide) (by decide)))
  have F6_o_lastScheduled := F5_o_lastScheduled.other W6 (Or.inr (slot_ne (Or.inr (hw _ (List.mem_of_getElem? (i := 19) rfl))) (Or.inr (hw _ (List.mem_of_getElem? (i := 23) rfl))) (by decide) (t := (.array .int)) (t' := (.object "com/example/racewitness/racewitness/analysis/Race$PrefixWitness")) (by decide) (by decide)))
  have F6_o_schedule := F5_o_schedule.other W6 (Or.inr (slot_ne (Or.inr (hw _ (List.mem_of_getElem? (i := 21) rfl))) (Or.inr (hw _ (List.mem_of_getElem? (i := 23) rfl))) (by decide) (t := (.array .int)) (t' := (.object "com/example/racewitness/racewitness/analysis/Race$PrefixWitness")) (by decide) (by decide)))
  have F6_o_prefixWitness := F5_o_prefixWitness.same W6
  have N6 := Fr.snoc X6 N5 ge
  have K6 : Keep h0 h6 [o] := K5.wr W6 (Or.inl (List.mem_of_getElem? (i := 0) rfl))
  obtain ⟨fs, hr, hrun, hended, hW, hsame⟩ := X6.leave (v := none) (fun _ => rfl)
  refine ⟨_, _, go0 _ ?_, hrun, hended, _, _, rfl, ?_, ⟨_, rfl⟩, hW, hsame.mono (by decide) (by decide)⟩
  · show Steps p.tables e below (s₁.setTop (mkF m 0 #[.val (.ref o), .val (.int p1), .val (.int p2), .val .null, .val (.ref arr), .val .null] [])) _
    refine XS.aloadN X0.here hx rfl (hb hby d2_0) rfl rfl ?_
    show Steps p.tables e below (s₁.setTop (mkF m 1 #[.val (.ref o), .val (.int p1), .val (.int p2), .val .null, .val (.ref arr), .val .null] [(.ref o)])) _
    refine st1 _ ?_
    show Steps p.tables e below (T1.setTop (mkF m 4 #[.val (.ref o), .val (.int p1), .val (.int p2), .val .null, .val (.ref arr), .val .null] [])) _
    refine XS.iloadN X1.here hx rfl (hb hby d2_4) rfl ?_
    show Steps p.tables e below (T1.setTop (mkF m 5 #[.val (.ref o), .val (.int p1), .val (.int p2), .val .null, .val (.ref arr), .val .null] [(.int p1)])) _
    refine XS.ifNo X1.here hx rfl (hb hby d2_5) rfl ((if0 _ _).trans (flt hp1).1) ?_
    show Steps p.tables e below (T1.setTop (mkF m 8 #[.val (.ref o), .val (.int p1), .val (.int p2), .val .null, .val (.ref arr), .val .null] [])) _
    refine XS.iloadN X1.here hx rfl (hb hby d2_8) rfl ?_
    show Steps p.tables e below (T1.setTop (mkF m 9 #[.val (.ref o), .val (.int p1), .val (.int p2), .val .null, .val (.ref arr), .val .null] [(.int p1)])) _
    refine XS.iloadN X1.here hx rfl (hb hby d2_9) rfl ?_
    show Steps p.tables e below (T1.setTop (mkF m 10 #[.val (.ref o), .val (.int p1), .val (.int p2), .val .null, .val (.ref arr), .val .null] [(.int p2), (.int p1)])) _
    refine XS.icmpYes X1.here hx rfl (pc0 := 10) (pc' := 28) rfl (hb hby d2_10) rfl (tlt hp2).1 (by decide) (by decide) ?_
    show Steps p.tables e below (T1.setTop (mkF m 28 #[.val (.ref o), .val (.int p1), .val (.int p2), .val .null, .val (.ref arr), .val .null] [])) _
    refine XS.aloadN X1.here hx rfl (hb hby d2_28) rfl rfl ?_
    show Steps p.tables e below (T1.setTop (mkF m 29 #[.val (.ref o), .val (.int p1), .val (.int p2), .val .null, .val (.ref arr), .val .null] [(.ref o)])) _
    refine XS.iloadN X1.here hx rfl (hb hby d2_29) rfl ?_
    show Steps p.tables e below (T1.setTop (mkF m 30 #[.val (.ref o), .val (.int p1), .val (.int p2), .val .null, .val (.ref arr), .val .null] [(.int p1), (.ref o)])) _
    refine st2 _ ?_
    show Steps p.tables e below (T2.setTop (mkF m 33 #[.val (.ref o), .val (.int p1), .val (.int p2), .val .null, .val (.ref arr), .val .null] [])) _
    refine XS.aloadN X2.here hx rfl (hb hby d2_33) rfl rfl ?_
    show Steps p.tables e below (T2.setTop (mkF m 34 #[.val (.ref o), .val (.int p1), .val (.int p2), .val .null, .val (.ref arr), .val .null] [(.ref o)])) _
    refine XS.iloadN X2.here hx rfl (hb hby d2_34) rfl ?_
    show Steps p.tables e below (T2.setTop (mkF m 35 #[.val (.ref o), .val (.int p1), .val (.int p2), .val .null, .val (.ref arr), .val .null] [(.int p2), (.ref o)])) _
    refine st3 _ ?_
    show Steps p.tables e below (T3.setTop (mkF m 38 #[.val (.ref o), .val (.int p1), .val (.int p2), .val .null, .val (.ref arr), .val .null] [])) _
    refine XS.aloadN X3.here hx rfl (hb hby d2_38) rfl rfl ?_
    show Steps p.tables e below (T3.setTop (mkF m 39 #[.val (.ref o), .val (.int p1), .val (.int p2), .val .null, .val (.ref arr), .val .null] [(.ref o)])) _
    refine XS.aloadN X3.here hx rfl (hb hby d2_39) rfl rfl ?_
    show Steps p.tables e below (T3.setTop (mkF m 40 #[.val (.ref o), .val (.int p1), .val (.int p2), .val .null, .val (.ref arr), .val .null] [.null, (.ref o)])) _
    refine st4 _ ?_
    show Steps p.tables e below (T4.setTop (mkF m 43 #[.val (.ref o), .val (.int p1), .val (.int p2), .val .null, .val (.ref arr), .val .null] [])) _
    refine XS.aloadN X4.here hx rfl (hb hby d2_43) rfl rfl ?_
    show Steps p.tables e below (T4.setTop (mkF m 44 #[.val (.ref o), .val (.int p1), .val (.int p2), .val .null, .val (.ref arr), .val .null] [(.ref o)])) _
    refine XS.aload X4.here hx rfl (hb hby d2_44) rfl rfl ?_
    show Steps p.tables e below (T4.setTop (mkF m 46 #[.val (.ref o), .val (.int p1), .val (.int p2), .val .null, .val (.ref arr), .val .null] [(.ref arr), (.ref o)])) _
    refine st5 _ ?_
    show Steps p.tables e below (T5.setTop (mkF m 49 #[.val (.ref o), .val (.int p1), .val (.int p2), .val .null, .val (.ref arr), .val .null] [])) _
    refine XS.aloadN X5.here hx rfl (hb hby d2_49) rfl rfl ?_
    show Steps p.tables e below (T5.setTop (mkF m 50 #[.val (.ref o), .val (.int p1), .val (.int p2), .val .null, .val (.ref arr), .val .null] [(.ref o)])) _
    refine XS.aload X5.here hx rfl (hb hby d2_50) rfl rfl ?_
    show Steps p.tables e below (T5.setTop (mkF m 52 #[.val (.ref o), .val (.int p1), .val (.int p2), .val .null, .val (.ref arr), .val .null] [.null, (.ref o)])) _
    refine st6 _ ?_
    show Steps p.tables e below (T6.setTop (mkF m 55 #[.val (.ref o), .val (.int p1), .val (.int p2), .val .null, .val (.ref arr), .val .null] [])) _
    exact X6.returnOut hx Bd.returns (hb hby d2_55) hr
  · show Q2c Z o arr p1 p2 h0 n0 _ T6.heap _
    rw [e6]
    exact ⟨rfl, N6, K6, F6_o_partner, F6_o_racyEvent, F6_o_lastScheduled, F6_o_schedule, F6_o_prefixWitness⟩
theorem ef_1a (m : MethodId) (o : Addr) (arr : Addr) (p1 : Int32) (p2 : Int32) : entryFrame m #[(.ref o), (.int p1), (.int p2), (.ref arr)] 4 = mkF m 0 #[.val (.ref o), .val (.int p1), .val (.int p2), .val (.ref arr)] [] := by first | (simp [entryFrame, mkF, argsToLocals, Value.category]; done) | rfl
def Q1a (Z : State) (o arr : Addr) (p1 p2 : Int32) (h0 : Heap) (n0 : Nat) (v : Option Value) (h : Heap) (L : List Loc) : Prop := v = none ∧ Fr n0 L ∧ Keep h0 h [o] ∧ Fld Z h o "com/example/racewitness/racewitness/analysis/Race" "partner" "I" (.int p1) ∧ Fld Z h o "com/example/racewitness/racewitness/analysis/Race" "racyEvent" "I" (.int p2) ∧ Fld Z h o "com/example/racewitness/racewitness/analysis/Race" "lastScheduled" "[I" (.ref arr) ∧ Fld Z h o "com/example/racewitness/racewitness/analysis/Race" "schedule" "[I" .null ∧ Fld Z h o "com/example/racewitness/racewitness/analysis/Race" "prefixWitness" "Lcom/example/racewitness/racewitness/analysis/Race$PrefixWitness;" .null
theorem d1_0 : decode prog_33_method_2_code 0 = .ok (.aload_n 0, 1) := by decide +kernel
theorem d1_1 : decode prog_33_method_2_code 1 = .ok (.iload_n 1, 1) := by decide +kernel
theorem d1_2 : decode prog_33_method_2_code 2 = .ok (.iload_n 2, 1) := by decide +kernel
theorem d1_3 : decode prog_33_method_2_code 3 = .ok (.aload_n 3, 1) := by decide +kernel
theorem d1_4 : decode prog_33_method_2_code 4 = .ok (.aconst_null, 1) := by decide +kernel
theorem d1_5 : decode prog_33_method_2_code 5 = .ok (.aconst_null, 1) := by decide +kernel
theorem d1_6 : decode prog_33_method_2_code 6 = .ok (.invokespecial 9, 3) := by decide +kernel
theorem pd_0 : parseMethodDescriptor "(II[I[ILcom/example/racewitness/racewitness/analysis/Race$PrefixWitness;)V" = some ⟨[.int, .int, (.array .int), (.array .int), (.object "com/example/racewitness/racewitness/analysis/Race$PrefixWitness")], none⟩ := by decide +kernel
theorem d1_9 : decode prog_33_method_2_code 9 = .ok (.return_, 1) := by decide +kernel
set_option maxRecDepth 65536 in
set_option maxHeartbeats 40000000 in
theorem rm1a (l : Launch) (Z : State) (a0 : Array Value) (hw : ∀ d ∈ tables_1, d.before a0 Z = true) (ws : List Jvm.Cond) (o arr : Addr) (p1 p2 : Int32) (h0 : Heap) (n0 : Nat) (Z0 : n0 ≤ h0.size) (ge : n0 ≤ o) (E : Exa Z h0 o "com/example/racewitness/racewitness/analysis/Race") (F_partner : Fld Z h0 o "com/example/racewitness/racewitness/analysis/Race" "partner" "I" (.int (0 : Int32))) (F_racyEvent : Fld Z h0 o "com/example/racewitness/racewitness/analysis/Race" "racyEvent" "I" (.int (0 : Int32))) (F_lastScheduled : Fld Z h0 o "com/example/racewitness/racewitness/analysis/Race" "lastScheduled" "[I" .null) (F_schedule : Fld Z h0 o "com/example/racewitness/racewitness/analysis/Race" "schedule" "[I" .null) (F_prefixWitness : Fld Z h0 o "com/example/racewitness/racewitness/analysis/Race" "prefixWitness" "Lcom/example/racewitness/racewitness/analysis/Race$PrefixWitness;" .null) (hp1 : ¬ p1 < (0 : Int32)) (hp2 : p1 < p2) :
    MetFree l (⟨"com/example/racewitness/racewitness/analysis/Race", "<init>", "(II[I)V"⟩ : MethodName) (head1 (Jvm.Cond.code (⟨"com/example/racewitness/racewitness/analysis/Race", "<init>", "(II[I)V"⟩ : MethodName) prog_33_method_2_code 4 none :: ws) ({ frames := 2, cells := 0, slots := 0, locals := 29 } : Room)) (fun a U => a = #[(.ref o), (.int p1), (.int p2), (.ref arr)] ∧ Z.Warmed39 U.vm ∧ U.heap = h0) (fun _ _ _ _ _ => True) (fun _ U oU U' => ∃ v L, oU = .returned v ∧ Q1a Z o arr p1 p2 h0 n0 v U'.heap L ∧ FrameEnd U oU U' L ({ frames := 2, cells := 0, slots := 0, locals := 29 } : Room).cells ({ frames := 2, cells := 0, slots := 0, locals := 29 } : Room).slots) := by
  refine MetFree.of_bodySF (plainFor_of_name pn_2) hisR ?_
  intro p e s m args below meth c s₁ Bd hml0 hP hK
  obtain ⟨rfl, hZ, hh⟩ := hP
  have hx := Bd.exec
  have hby := Bd.bytes
  have hml : c.maxLocals = 4 := hml0
  have hown : s.vm.findClass "com/example/racewitness/racewitness/analysis/Race" = some m.cls := findClass_of_methodNamed Bd.named
  have hnm := (name_of_methodNamed Bd.named Bd.method).1
  have X0 : Stand p l e ({ frames := 2, cells := 0, slots := 0, locals := 29 } : Room) s m #[(.ref o), (.int p1), (.int p2), (.ref arr)] below meth c s₁ [] 0 0 := Stand.of_body Bd
  have e0 : s₁.heap = h0 := by rw [← hh, Bd.state]; rfl
  have N0 := Fr.nil n0
  have go0 : ∀ t, Steps p.tables e below (s₁.setTop (mkF m 0 #[.val (.ref o), .val (.int p1), .val (.int p2), .val (.ref arr)] [])) t → Steps p.tables e below (s₁.setTop (entryFrame m #[(.ref o), (.int p1), (.int p2), (.ref arr)] 4)) t := fun t k => castTop (ef_1a m o arr p1 p2) k
  obtain ⟨_, _, ⟨T1, L1, k1, n1⟩, -, X1, ⟨Lc1, hQ1, l1, y1, z1⟩, st1⟩ := X0.specialBack hx (y := (⟨"com/example/racewitness/racewitness/analysis/Race", "<init>", "(II[I[ILcom/example/racewitness/racewitness/analysis/Race$PrefixWitness;)V"⟩ : MethodName)) rfl hown (mvT hZ (hw _ (List.mem_of_getElem? (i := 8) rfl))) (mvT hZ (hw _ (List.mem_of_getElem? (i := 9) rfl))) (mvT hZ (hw _ (List.mem_of_getElem? (i := 10) rfl))) (by decide) (backOf (W := 0) (rm2a l Z a0 hw [] o arr p1 p2 h0 n0 Z0 ge E F_partner F_racyEvent F_lastScheduled F_schedule F_prefixWitness hp1 hp2) hZ (hw _ (List.mem_of_getElem? (i := 10) rfl)) (hw _ (List.mem_of_getElem? (i := 4) rfl)) (by decide) (by decide)) (g := (mkF m 6 #[.val (.ref o), .val (.int p1), .val (.int p2), .val (.ref arr)] [.null, .null, (.ref arr), (.int p2), (.int p1), (.ref o)])) rfl (by rw [hml]; rfl) (Steps.refl _) (a := o) (argsL := [(.int p1), (.int p2), (.ref arr), .null, .null]) (rest := []) (lenOf pd_0 rfl) rfl (by show 2 * 0 + _ ≤ _; exact Nat.le_of_eq rfl) (hb hby d1_6) (fun _ _ => ⟨rfl, e0, (by decide : 0 + 0 ≤ _), (by decide : 0 + 0 ≤ _)⟩)
  dsimp only [Pt.U, Pt.locs, Pt.cells, Pt.slots] at X1 l1 y1 z1 st1 hQ1
  subst l1 y1 z1
  obtain ⟨rfl, N1q, K1c, F1_partner, F1_racyEvent, F1_lastScheduled, F1_schedule, F1_prefixWitness⟩ := hQ1
  have N1 := Fr.app N0 N1q
  have E1_o := E.keep K1c
  obtain ⟨fs, hr, hrun, hended, hW, hsame⟩ := X1.leave (v := none) (fun _ => rfl)
  refine ⟨_, _, go0 _ ?_, hrun, hended, _, _, rfl, ?_, ⟨_, rfl⟩, hW, hsame.mono (by decide) (by decide)⟩
  · show Steps p.tables e below (s₁.setTop (mkF m 0 #[.val (.ref o), .val (.int p1), .val (.int p2), .val (.ref arr)] [])) _
    refine XS.aloadN X0.here hx rfl (hb hby d1_0) rfl rfl ?_
    show Steps p.tables e below (s₁.setTop (mkF m 1 #[.val (.ref o), .val (.int p1), .val (.int p2), .val (.ref arr)] [(.ref o)])) _
    refine XS.iloadN X0.here hx rfl (hb hby d1_1) rfl ?_
    show Steps p.tables e below (s₁.setTop (mkF m 2 #[.val (.ref o), .val (.int p1), .val (.int p2), .val (.ref arr)] [(.int p1), (.ref o)])) _
    refine XS.iloadN X0.here hx rfl (hb hby d1_2) rfl ?_
    show Steps p.tables e below (s₁.setTop (mkF m 3 #[.val (.ref o), .val (.int p1), .val (.int p2), .val (.ref arr)] [(.int p2), (.int p1), (.ref o)])) _
    refine XS.aloadN X0.here hx rfl (hb hby d1_3) rfl rfl ?_
    show Steps p.tables e below (s₁.setTop (mkF m 4 #[.val (.ref o), .val (.int p1), .val (.int p2), .val (.ref arr)] [(.ref arr), (.int p2), (.int p1), (.ref o)])) _
    refine XS.aconstNull X0.here hx rfl (hb hby d1_4) ?_
    show Steps p.tables e below (s₁.setTop (mkF m 5 #[.val (.ref o), .val (.int p1), .val (.int p2), .val (.ref arr)] [.null, (.ref arr), (.int p2), (.int p1), (.ref o)])) _
    refine XS.aconstNull X0.here hx rfl (hb hby d1_5) ?_
    show Steps p.tables e below (s₁.setTop (mkF m 6 #[.val (.ref o), .val (.int p1), .val (.int p2), .val (.ref arr)] [.null, .null, (.ref arr), (.int p2), (.int p1), (.ref o)])) _
    refine st1.trans ?_
    show Steps p.tables e below (T1.setTop (mkF m 9 #[.val (.ref o), .val (.int p1), .val (.int p2), .val (.ref arr)] [])) _
    exact X1.returnOut hx Bd.returns (hb hby d1_9) hr
  · show Q1a Z o arr p1 p2 h0 n0 _ T1.heap _
    exact ⟨rfl, N1, K1c, F1_partner, F1_racyEvent, F1_lastScheduled, F1_schedule, F1_prefixWitness⟩
theorem ef_1b (m : MethodId) (o : Addr) (p1 : Int32) (p2 : Int32) : entryFrame m #[(.ref o), (.int p1), (.int p2), .null] 4 = mkF m 0 #[.val (.ref o), .val (.int p1), .val (.int p2), .val .null] [] := by first | (simp [entryFrame, mkF, argsToLocals, Value.category]; done) | rfl
def Q1b (Z : State) (o : Addr) (p1 p2 : Int32) (h0 : Heap) (n0 : Nat) (v : Option Value) (h : Heap) (L : List Loc) : Prop := v = none ∧ Fr n0 L ∧ Keep h0 h [o] ∧ Fld Z h o "com/example/racewitness/racewitness/analysis/Race" "partner" "I" (.int p1) ∧ Fld Z h o "com/example/racewitness/racewitness/analysis/Race" "racyEvent" "I" (.int p2) ∧ Fld Z h o "com/example/racewitness/racewitness/analysis/Race" "lastScheduled" "[I" .null ∧ Fld Z h o "com/example/racewitness/racewitness/analysis/Race" "schedule" "[I" .null ∧ Fld Z h o "com/example/racewitness/racewitness/analysis/Race" "prefixWitness" "Lcom/example/racewitness/racewitness/analysis/Race$PrefixWitness;" .null
set_option maxRecDepth 65536 in
set_option maxHeartbeats 40000000 in
theorem rm1b (l : Launch) (Z : State) (a0 : Array Value) (hw : ∀ d ∈ tables_1, d.before a0 Z = true) (ws : List Jvm.Cond) (o : Addr) (p1 p2 : Int32) (h0 : Heap) (n0 : Nat) (Z0 : n0 ≤ h0.size) (ge : n0 ≤ o) (E : Exa Z h0 o "com/example/racewitness/racewitness/analysis/Race") (F_partner : Fld Z h0 o "com/example/racewitness/racewitness/analysis/Race" "partner" "I" (.int (0 : Int32))) (F_racyEvent : Fld Z h0 o "com/example/racewitness/racewitness/analysis/Race" "racyEvent" "I" (.int (0 : Int32))) (F_lastScheduled : Fld Z h0 o "com/example/racewitness/racewitness/analysis/Race" "lastScheduled" "[I" .null) (F_schedule : Fld Z h0 o "com/example/racewitness/racewitness/analysis/Race" "schedule" "[I" .null) (F_prefixWitness : Fld Z h0 o "com/example/racewitness/racewitness/analysis/Race" "prefixWitness" "Lcom/example/racewitness/racewitness/analysis/Race$PrefixWitness;" .null) (hp1 : ¬ p1 < (0 : Int32)) (hp2 : p1 < p2) :
    MetFree l (⟨"com/example/racewitness/racewitness/analysis/Race", "<init>", "(II[I)V"⟩ : MethodName) (head1 (Jvm.Cond.code (⟨"com/example/racewitness/racewitness/analysis/Race", "<init>", "(II[I)V"⟩ : MethodName) prog_33_method_2_code 4 none :: ws) ({ frames := 2, cells := 0, slots := 0, locals := 29 } : Room)) (fun a U => a = #[(.ref o), (.int p1), (.int p2), .null] ∧ Z.Warmed39 U.vm ∧ U.heap = h0) (fun _ _ _ _ _ => True) (fun _ U oU U' => ∃ v L, oU = .returned v ∧ Q1b Z o p1 p2 h0 n0 v U'.heap L ∧ FrameEnd U oU U' L ({ frames := 2, cells := 0, slots := 0, locals := 29 } : Room).cells ({ frames := 2, cells := 0, slots := 0, locals := 29 } : Room).slots) := by
  refine MetFree.of_bodySF (plainFor_of_name pn_2) hisR ?_
  intro p e s m args below meth c s₁ Bd hml0 hP hK
  obtain ⟨rfl, hZ, hh⟩ := hP
  have hx := Bd.exec
  have hby := Bd.bytes
  have hml : c.maxLocals = 4 := hml0
  have hown : s.vm.findClass "com/example/racewitness/racewitness/analysis/Race" = some m.cls := findClass_of_methodNamed Bd.named
  have hnm := (name_of_methodNamed Bd.named Bd.method).1
  have X0 : Stand p l e ({ frames := 2, cells := 0, slots := 0, locals := 29 } : Room) s m #[(.ref o), (.int p1), (.int p2), .null] below meth c s₁ [] 0 0 := Stand.of_body Bd
  have e0 : s₁.heap = h0 := by rw [← hh, Bd.state]; rfl
  have N0 := Fr.nil n0
  have go0 : ∀ t, Steps p.tables e below (s₁.setTop (mkF m 0 #[.val (.ref o), .val (.int p1), .val (.int p2), .val .null] [])) t → Steps p.tables e below (s₁.setTop (entryFrame m #[(.ref o), (.int p1), (.int p2), .null] 4)) t := fun t k => castTop (ef_1b m o p1 p2) k
  obtain ⟨_, _, ⟨T1, L1, k1, n1⟩, -, X1, ⟨Lc1, hQ1, l1, y1, z1⟩, st1⟩ := X0.specialBack hx (y := (⟨"com/example/racewitness/racewitness/analysis/Race", "<init>", "(II[I[ILcom/example/racewitness/racewitness/analysis/Race$PrefixWitness;)V"⟩ : MethodName)) rfl hown (mvT hZ (hw _ (List.mem_of_getElem? (i := 8) rfl))) (mvT hZ (hw _ (List.mem_of_getElem? (i := 9) rfl))) (mvT hZ (hw _ (List.mem_of_getElem? (i := 10) rfl))) (by decide) (backOf (W := 0) (rm2b l Z a0 hw [] o p1 p2 h0 n0 Z0 ge E F_partner F_racyEvent F_lastScheduled F_schedule F_prefixWitness hp1 hp2) hZ (hw _ (List.mem_of_getElem? (i := 10) rfl)) (hw _ (List.mem_of_getElem? (i := 4) rfl)) (by decide) (by decide)) (g := (mkF m 6 #[.val (.ref o), .val (.int p1), .val (.int p2), .val .null] [.null, .null, .null, (.int p2), (.int p1), (.ref o)])) rfl (by rw [hml]; rfl) (Steps.refl _) (a := o) (argsL := [(.int p1), (.int p2), .null, .null, .null]) (rest := []) (lenOf pd_0 rfl) rfl (by show 2 * 0 + _ ≤ _; exact Nat.le_of_eq rfl) (hb hby d1_6) (fun _ _ => ⟨rfl, e0, (by decide : 0 + 0 ≤ _), (by decide : 0 + 0 ≤ _)⟩)
  dsimp only [Pt.U, Pt.locs, Pt.cells, Pt.slots] at X1 l1 y1 z1 st1 hQ1
  subst l1 y1 z1
  obtain ⟨rfl, N1q, K1c, F1_partner, F1_racyEvent, F1_lastScheduled, F1_schedule, F1_prefixWitness⟩ := hQ1
  have N1 := Fr.app N0 N1q
  have E1_o := E.keep K1c
  obtain ⟨fs, hr, hrun, hended, hW, hsame⟩ := X1.leave (v := none) (fun _ => rfl)
  refine ⟨_, _, go0 _ ?_, hrun, hended, _, _, rfl, ?_, ⟨_, rfl⟩, hW, hsame.mono (by decide) (by decide)⟩
  · show Steps p.tables e below (s₁.setTop (mkF m 0 #[.val (.ref o), .val (.int p1), .val (.int p2), .val .null] [])) _
    refine XS.aloadN X0.here hx rfl (hb hby d1_0) rfl rfl ?_
    show Steps p.tables e below (s₁.setTop (mkF m 1 #[.val (.ref o), .val (.int p1), .val (.int p2), .val .null] [(.ref o)])) _
    refine XS.iloadN X0.here hx rfl (hb hby d1_1) rfl ?_
    show Steps p.tables e below (s₁.setTop (mkF m 2 #[.val (.ref o), .val (.int p1), .val (.int p2), .val .null] [(.int p1), (.ref o)])) _
    refine XS.iloadN X0.here hx rfl (hb hby d1_2) rfl ?_
    show Steps p.tables e below (s₁.setTop (mkF m 3 #[.val (.ref o), .val (.int p1), .val (.int p2), .val .null] [(.int p2), (.int p1), (.ref o)])) _
    refine XS.aloadN X0.here hx rfl (hb hby d1_3) rfl rfl ?_
    show Steps p.tables e below (s₁.setTop (mkF m 4 #[.val (.ref o), .val (.int p1), .val (.int p2), .val .null] [.null, (.int p2), (.int p1), (.ref o)])) _
    refine XS.aconstNull X0.here hx rfl (hb hby d1_4) ?_
    show Steps p.tables e below (s₁.setTop (mkF m 5 #[.val (.ref o), .val (.int p1), .val (.int p2), .val .null] [.null, .null, (.int p2), (.int p1), (.ref o)])) _
    refine XS.aconstNull X0.here hx rfl (hb hby d1_5) ?_
    show Steps p.tables e below (s₁.setTop (mkF m 6 #[.val (.ref o), .val (.int p1), .val (.int p2), .val .null] [.null, .null, .null, (.int p2), (.int p1), (.ref o)])) _
    refine st1.trans ?_
    show Steps p.tables e below (T1.setTop (mkF m 9 #[.val (.ref o), .val (.int p1), .val (.int p2), .val .null] [])) _
    exact X1.returnOut hx Bd.returns (hb hby d1_9) hr
  · show Q1b Z o p1 p2 h0 n0 _ T1.heap _
    exact ⟨rfl, N1, K1c, F1_partner, F1_racyEvent, F1_lastScheduled, F1_schedule, F1_prefixWitness⟩
theorem ef_9 (m : MethodId) (o : Addr) (p1 : Int32) (p2 : Int32) : entryFrame m #[(.ref o), (.int p1), (.int p2)] 3 = mkF m 0 #[.val (.ref o), .val (.int p1), .val (.int p2)] [] := by first | (simp [entryFrame, mkF, argsToLocals, Value.category]; done) | rfl
def Q9 (Z : State) (o : Addr) (p1 p2 : Int32) (h0 : Heap) (n0 : Nat) (v : Option Value) (h : Heap) (L : List Loc) : Prop := v = none ∧ Fr n0 L ∧ Keep h0 h [o] ∧ Fld Z h o "com/example/racewitness/racewitness/analysis/Race" "partner" "I" (.int p1) ∧ Fld Z h o "com/example/racewitness/racewitness/analysis/Race" "racyEvent" "I" (.int p2) ∧ Fld Z h o "com/example/racewitness/racewitness/analysis/Race" "lastScheduled" "[I" .null ∧ Fld Z h o "com/example/racewitness/racewitness/analysis/Race" "schedule" "[I" .null ∧ Fld Z h o "com/example/racewitness/racewitness/analysis/Race" "prefixWitness" "Lcom/example/racewitness/racewitness/analysis/Race$PrefixWitness;" .null
theorem d9_0 : decode prog_33_method_1_code 0 = .ok (.aload_n 0, 1) := by decide +kernel
theorem d9_1 : decode prog_33_method_1_code 1 = .ok (.iload_n 1, 1) := by decide +kernel
theorem d9_2 : decode prog_33_method_1_code 2 = .ok (.iload_n 2, 1) := by decide +kernel
theorem d9_3 : decode prog_33_method_1_code 3 = .ok (.aconst_null, 1) := by decide +kernel
theorem d9_4 : decode prog_33_method_1_code 4 = .ok (.invokespecial 3, 3) := by decide +kernel
theorem pd_1 : parseMethodDescriptor "(II[I)V" = some ⟨[.int, .int, (.array .int)], none⟩ := by decide +kernel
theorem d9_7 : decode prog_33_method_1_code 7 = .ok (.return_, 1) := by decide +kernel
set_option maxRecDepth 65536 in
set_option maxHeartbeats 40000000 in
theorem rm9 (l : Launch) (Z : State) (a0 : Array Value) (hw : ∀ d ∈ tables_1, d.before a0 Z = true) (ws : List Jvm.Cond) (o : Addr) (p1 p2 : Int32) (h0 : Heap) (n0 : Nat) (Z0 : n0 ≤ h0.size) (ge : n0 ≤ o) (E : Exa Z h0 o "com/example/racewitness/racewitness/analysis/Race") (F_partner : Fld Z h0 o "com/example/racewitness/racewitness/analysis/Race" "partner" "I" (.int (0 : Int32))) (F_racyEvent : Fld Z h0 o "com/example/racewitness/racewitness/analysis/Race" "racyEvent" "I" (.int (0 : Int32))) (F_lastScheduled : Fld Z h0 o "com/example/racewitness/racewitness/analysis/Race" "lastScheduled" "[I" .null) (F_schedule : Fld Z h0 o "com/example/racewitness/racewitness/analysis/Race" "schedule" "[I" .null) (F_prefixWitness : Fld Z h0 o "com/example/racewitness/racewitness/analysis/Race" "prefixWitness" "Lcom/example/racewitness/racewitness/analysis/Race$PrefixWitness;" .null) (hp1 : ¬ p1 < (0 : Int32)) (hp2 : p1 < p2) :
    MetFree l (⟨"com/example/racewitness/racewitness/analysis/Race", "<init>", "(II)V"⟩ : MethodName) (head1 (Jvm.Cond.code (⟨"com/example/racewitness/racewitness/analysis/Race", "<init>", "(II)V"⟩ : MethodName) prog_33_method_1_code 3 none :: ws) ({ frames := 3, cells := 0, slots := 0, locals := 44 } : Room)) (fun a U => a = #[(.ref o), (.int p1), (.int p2)] ∧ Z.Warmed39 U.vm ∧ U.heap = h0) (fun _ _ _ _ _ => True) (fun _ U oU U' => ∃ v L, oU = .returned v ∧ Q9 Z o p1 p2 h0 n0 v U'.heap L ∧ FrameEnd U oU U' L ({ frames := 3, cells := 0, slots := 0, locals := 44 } : Room).cells ({ frames := 3, cells := 0, slots := 0, locals := 44 } : Room).slots) := by
  refine MetFree.of_bodySF (plainFor_of_name pn_2) hisR ?_
  intro p e s m args below meth c s₁ Bd hml0 hP hK
  obtain ⟨rfl, hZ, hh⟩ := hP
  have hx := Bd.exec
  have hby := Bd.bytes
  have hml : c.maxLocals = 3 := hml0
  have hown : s.vm.findClass "com/example/racewitness/racewitness/analysis/Race" = some m.cls := findClass_of_methodNamed Bd.named
  have hnm := (name_of_methodNamed Bd.named Bd.method).1
  have X0 : Stand p l e ({ frames := 3, cells := 0, slots := 0, locals := 44 } : Room) s m #[(.ref o), (.int p1), (.int p2)] below meth c s₁ [] 0 0 := Stand.of_body Bd
  have e0 : s₁.heap = h0 := by rw [← hh, Bd.state]; rfl
  have N0 := Fr.nil n0
  have go0 : ∀ t, Steps p.tables e below (s₁.setTop (mkF m 0 #[.val (.ref o), .val (.int p1), .val (.int p2)] [])) t → Steps p.tables e below (s₁.setTop (entryFrame m #[(.ref o), (.int p1), (.int p2)] 3)) t := fun t k => castTop (ef_9 m o p1 p2) k
  obtain ⟨_, _, ⟨T1, L1, k1, n1⟩, -, X1, ⟨Lc1, hQ1, l1, y1, z1⟩, st1⟩ := X0.specialBack hx (y := (⟨"com/example/racewitness/racewitness/analysis/Race", "<init>", "(II[I)V"⟩ : MethodName)) rfl hown (mvT hZ (hw _ (List.mem_of_getElem? (i := 60) rfl))) (mvT hZ (hw _ (List.mem_of_getElem? (i := 6) rfl))) (mvT hZ (hw _ (List.mem_of_getElem? (i := 7) rfl))) (by decide) (backOf (W := 0) (rm1b l Z a0 hw [] o p1 p2 h0 n0 Z0 ge E F_partner F_racyEvent F_lastScheduled F_schedule F_prefixWitness hp1 hp2) hZ (hw _ (List.mem_of_getElem? (i := 7) rfl)) (hw _ (List.mem_of_getElem? (i := 4) rfl)) (by decide) (by decide)) (g := (mkF m 4 #[.val (.ref o), .val (.int p1), .val (.int p2)] [.null, (.int p2), (.int p1), (.ref o)])) rfl (by rw [hml]; rfl) (Steps.refl _) (a := o) (argsL := [(.int p1), (.int p2), .null]) (rest := []) (lenOf pd_1 rfl) rfl (by show 2 * 0 + _ ≤ _; exact Nat.le_of_eq rfl) (hb hby d9_4) (fun _ _ => ⟨rfl, e0, (by decide : 0 + 0 ≤ _), (by decide : 0 + 0 ≤ _)⟩)
  dsimp only [Pt.U, Pt.locs, Pt.cells, Pt.slots] at X1 l1 y1 z1 st1 hQ1
  subst l1 y1 z1
  obtain ⟨rfl, N1q, K1c, F1_partner, F1_racyEvent, F1_lastScheduled, F1_schedule, F1_prefixWitness⟩ := hQ1
  have N1 := Fr.app N0 N1q
  have E1_o := E.keep K1c
  obtain ⟨fs, hr, hrun, hended, hW, hsame⟩ := X1.leave (v := none) (fun _ => rfl)
  refine ⟨_, _, go0 _ ?_, hrun, hended, _, _, rfl, ?_, ⟨_, rfl⟩, hW, hsame.mono (by decide) (by decide)⟩
  · show Steps p.tables e below (s₁.setTop (mkF m 0 #[.val (.ref o), .val (.int p1), .val (.int p2)] [])) _
    refine XS.aloadN X0.here hx rfl (hb hby d9_0) rfl rfl ?_
    show Steps p.tables e below (s₁.setTop (mkF m 1 #[.val (.ref o), .val (.int p1), .val (.int p2)] [(.ref o)])) _
    refine XS.iloadN X0.here hx rfl (hb hby d9_1) rfl ?_
    show Steps p.tables e below (s₁.setTop (mkF m 2 #[.val (.ref o), .val (.int p1), .val (.int p2)] [(.int p1), (.ref o)])) _
    refine XS.iloadN X0.here hx rfl (hb hby d9_2) rfl ?_
    show Steps p.tables e below (s₁.setTop (mkF m 3 #[.val (.ref o), .val (.int p1), .val (.int p2)] [(.int p2), (.int p1), (.ref o)])) _
    refine XS.aconstNull X0.here hx rfl (hb hby d9_3) ?_
    show Steps p.tables e below (s₁.setTop (mkF m 4 #[.val (.ref o), .val (.int p1), .val (.int p2)] [.null, (.int p2), (.int p1), (.ref o)])) _
    refine st1.trans ?_
    show Steps p.tables e below (T1.setTop (mkF m 7 #[.val (.ref o), .val (.int p1), .val (.int p2)] [])) _
    exact X1.returnOut hx Bd.returns (hb hby d9_7) hr
  · show Q9 Z o p1 p2 h0 n0 _ T1.heap _
    exact ⟨rfl, N1, K1c, F1_partner, F1_racyEvent, F1_lastScheduled, F1_schedule, F1_prefixWitness⟩
theorem ef_4a (m : MethodId) (o : Addr) : entryFrame m #[(.ref o)] 1 = mkF m 0 #[.val (.ref o)] [] := by first | (simp [entryFrame, mkF, argsToLocals, Value.category]; done) | rfl
def Q4a (Z : State) (o : Addr) (h0 : Heap) (n0 : Nat) (v : Option Value) (h : Heap) (L : List Loc) : Prop := v = some (.int 1) ∧ Fr n0 L ∧ h = h0
theorem d4_0 : decode prog_33_method_8_code 0 = .ok (.aload_n 0, 1) := by decide +kernel
theorem d4_1 : decode prog_33_method_8_code 1 = .ok (.getfield 33, 3) := by decide +kernel
theorem d4_4 : decode prog_33_method_8_code 4 = .ok (.ifnonnull 17, 3) := by decide +kernel
theorem d4_21 : decode prog_33_method_8_code 21 = .ok (.iconst 1, 1) := by decide +kernel
theorem d4_22 : decode prog_33_method_8_code 22 = .ok (.goto 4, 3) := by decide +kernel
theorem d4_26 : decode prog_33_method_8_code 26 = .ok (.ireturn, 1) := by decide +kernel
set_option maxRecDepth 65536 in
set_option maxHeartbeats 40000000 in
theorem rm4a (l : Launch) (Z : State) (a0 : Array Value) (hw : ∀ d ∈ tables_1, d.before a0 Z = true) (ws : List Jvm.Cond) (o arr : Addr) (p1 p2 : Int32) (h0 : Heap) (n0 : Nat) (Z0 : n0 ≤ h0.size) (F_partner : Fld Z h0 o "com/example/racewitness/racewitness/analysis/Race" "partner" "I" (.int p1)) (F_racyEvent : Fld Z h0 o "com/example/racewitness/racewitness/analysis/Race" "racyEvent" "I" (.int p2)) (F_lastScheduled : Fld Z h0 o "com/example/racewitness/racewitness/analysis/Race" "lastScheduled" "[I" (.ref arr)) (F_schedule : Fld Z h0 o "com/example/racewitness/racewitness/analysis/Race" "schedule" "[I" .null) (F_prefixWitness : Fld Z h0 o "com/example/racewitness/racewitness/analysis/Race" "prefixWitness" "Lcom/example/racewitness/racewitness/analysis/Race$PrefixWitness;" .null) :
    MetFree l (⟨"com/example/racewitness/racewitness/analysis/Race", "hasWitness", "()Z"⟩ : MethodName) (head1 (Jvm.Cond.code (⟨"com/example/racewitness/racewitness/analysis/Race", "hasWitness", "()Z"⟩ : MethodName) prog_33_method_8_code 1 (some .boolean) :: ws) ({ frames := 0, cells := 0, slots := 0, locals := 0 } : Room)) (fun a U => a = #[(.ref o)] ∧ Z.Warmed39 U.vm ∧ U.heap = h0) (fun _ _ _ _ _ => True) (fun _ U oU U' => ∃ v L, oU = .returned v ∧ Q4a Z o h0 n0 v U'.heap L ∧ FrameEnd U oU U' L ({ frames := 0, cells := 0, slots := 0, locals := 0 } : Room).cells ({ frames := 0, cells := 0, slots := 0, locals := 0 } : Room).slots) := by
  refine MetFree.of_bodySF (plainFor_of_name pn_2) hisR ?_
  intro p e s m args below meth c s₁ Bd hml0 hP hK
  obtain ⟨rfl, hZ, hh⟩ := hP
  have hx := Bd.exec
  have hby := Bd.bytes
  have hml : c.maxLocals = 1 := hml0
  have hown : s.vm.findClass "com/example/racewitness/racewitness/analysis/Race" = some m.cls := findClass_of_methodNamed Bd.named
  have hnm := (name_of_methodNamed Bd.named Bd.method).1
  have X0 : Stand p l e ({ frames := 0, cells := 0, slots := 0, locals := 0 } : Room) s m #[(.ref o)] below meth c s₁ [] 0 0 := Stand.of_body Bd
  have e0 : s₁.heap = h0 := by rw [← hh, Bd.state]; rfl
  have N0 := Fr.nil n0
  have go0 : ∀ t, Steps p.tables e below (s₁.setTop (mkF m 0 #[.val (.ref o)] [])) t → Steps p.tables e below (s₁.setTop (entryFrame m #[(.ref o)] 1)) t := fun t k => castTop (ef_4a m o) k
  obtain ⟨T1, X1, e1, st1⟩ := getF X0 hx hZ hown (host := "") (Or.inl (hw _ (List.mem_of_getElem? (i := 18) rfl))) Via.refl e0 F_lastScheduled (g := (mkF m 1 #[.val (.ref o)] [(.ref o)])) rfl rfl (hb hby d4_1)
  obtain ⟨fs, hr, hrun, hended, hW, hsame⟩ := X1.leave (v := some (.int (1 : Int32))) (fun h => by rw [Bd.returns] at h; cases h)
  refine ⟨_, _, go0 _ ?_, hrun, hended, _, _, rfl, ?_, ⟨_, rfl⟩, hW, hsame.mono (by decide) (by decide)⟩
  · show Steps p.tables e below (s₁.setTop (mkF m 0 #[.val (.ref o)] [])) _
    refine XS.aloadN X0.here hx rfl (hb hby d4_0) rfl rfl ?_
    show Steps p.tables e below (s₁.setTop (mkF m 1 #[.val (.ref o)] [(.ref o)])) _
    refine st1 _ ?_
    show Steps p.tables e below (T1.setTop (mkF m 4 #[.val (.ref o)] [(.ref arr)])) _
    refine XS.ifnonnullYes X1.here hx rfl (pc0 := 4) (pc' := 21) rfl (hb hby d4_4) rfl (by decide) (by decide) ?_
    show Steps p.tables e below (T1.setTop (mkF m 21 #[.val (.ref o)] [])) _
    refine XS.iconst X1.here hx rfl (hb hby d4_21) ?_
    show Steps p.tables e below (T1.setTop (mkF m 22 #[.val (.ref o)] [(.int (1 : Int32))])) _
    refine XS.goto X1.here hx rfl (pc0 := 22) (pc' := 26) rfl (hb hby d4_22) (by decide) (by decide) ?_
    show Steps p.tables e below (T1.setTop (mkF m 26 #[.val (.ref o)] [(.int (1 : Int32))])) _
    exact retN X1 hx (t := .boolean) Bd.returns (by simp) (hb hby d4_26) hr
  · show Q4a Z o h0 n0 _ T1.heap _
    rw [e1]
    exact ⟨rfl, N0, rfl⟩
theorem ef_4b (m : MethodId) (o : Addr) : entryFrame m #[(.ref o)] 1 = mkF m 0 #[.val (.ref o)] [] := by first | (simp [entryFrame, mkF, argsToLocals, Value.category]; done) | rfl
def Q4b (Z : State) (o : Addr) (h0 : Heap) (n0 : Nat) (v : Option Value) (h : Heap) (L : List Loc) : Prop := v = some (.int 0) ∧ Fr n0 L ∧ h = h0
theorem d4_7 : decode prog_33_method_8_code 7 = .ok (.aload_n 0, 1) := by decide +kernel
theorem d4_8 : decode prog_33_method_8_code 8 = .ok (.getfield 37, 3) := by decide +kernel
theorem d4_11 : decode prog_33_method_8_code 11 = .ok (.ifnonnull 10, 3) := by decide +kernel
theorem d4_14 : decode prog_33_method_8_code 14 = .ok (.aload_n 0, 1) := by decide +kernel
theorem d4_15 : decode prog_33_method_8_code 15 = .ok (.getfield 40, 3) := by decide +kernel
theorem d4_18 : decode prog_33_method_8_code 18 = .ok (.ifnull 7, 3) := by decide +kernel
theorem d4_25 : decode prog_33_method_8_code 25 = .ok (.iconst 0, 1) := by decide +kernel
set_option maxRecDepth 65536 in
set_option maxHeartbeats 40000000 in
theorem rm4b (l : Launch) (Z : State) (a0 : Array Value) (hw : ∀ d ∈ tables_1, d.before a0 Z = true) (ws : List Jvm.Cond) (o : Addr) (p1 p2 : Int32) (h0 : Heap) (n0 : Nat) (Z0 : n0 ≤ h0.size) (F_partner : Fld Z h0 o "com/example/racewitness/racewitness/analysis/Race" "partner" "I" (.int p1)) (F_racyEvent : Fld Z h0 o "com/example/racewitness/racewitness/analysis/Race" "racyEvent" "I" (.int p2)) (F_lastScheduled : Fld Z h0 o "com/example/racewitness/racewitness/analysis/Race" "lastScheduled" "[I" .null) (F_schedule : Fld Z h0 o "com/example/racewitness/racewitness/analysis/Race" "schedule" "[I" .null) (F_prefixWitness : Fld Z h0 o "com/example/racewitness/racewitness/analysis/Race" "prefixWitness" "Lcom/example/racewitness/racewitness/analysis/Race$PrefixWitness;" .null) :
    MetFree l (⟨"com/example/racewitness/racewitness/analysis/Race", "hasWitness", "()Z"⟩ : MethodName) (head1 (Jvm.Cond.code (⟨"com/example/racewitness/racewitness/analysis/Race", "hasWitness", "()Z"⟩ : MethodName) prog_33_method_8_code 1 (some .boolean) :: ws) ({ frames := 0, cells := 0, slots := 0, locals := 0 } : Room)) (fun a U => a = #[(.ref o)] ∧ Z.Warmed39 U.vm ∧ U.heap = h0) (fun _ _ _ _ _ => True) (fun _ U oU U' => ∃ v L, oU = .returned v ∧ Q4b Z o h0 n0 v U'.heap L ∧ FrameEnd U oU U' L ({ frames := 0, cells := 0, slots := 0, locals := 0 } : Room).cells ({ frames := 0, cells := 0, slots := 0, locals := 0 } : Room).slots) := by
  refine MetFree.of_bodySF (plainFor_of_name pn_2) hisR ?_
  intro p e s m args below meth c s₁ Bd hml0 hP hK
  obtain ⟨rfl, hZ, hh⟩ := hP
  have hx := Bd.exec
  have hby := Bd.bytes
  have hml : c.maxLocals = 1 := hml0
  have hown : s.vm.findClass "com/example/racewitness/racewitness/analysis/Race" = some m.cls := findClass_of_methodNamed Bd.named
  have hnm := (name_of_methodNamed Bd.named Bd.method).1
  have X0 : Stand p l e ({ frames := 0, cells := 0, slots := 0, locals := 0 } : Room) s m #[(.ref o)] below meth c s₁ [] 0 0 := Stand.of_body Bd
  have e0 : s₁.heap = h0 := by rw [← hh, Bd.state]; rfl
  have N0 := Fr.nil n0
  have go0 : ∀ t, Steps p.tables e below (s₁.setTop (mkF m 0 #[.val (.ref o)] [])) t → Steps p.tables e below (s₁.setTop (entryFrame m #[(.ref o)] 1)) t := fun t k => castTop (ef_4b m o) k
  obtain ⟨T1, X1, e1, st1⟩ := getF X0 hx hZ hown (host := "") (Or.inl (hw _ (List.mem_of_getElem? (i := 18) rfl))) Via.refl e0 F_lastScheduled (g := (mkF m 1 #[.val (.ref o)] [(.ref o)])) rfl rfl (hb hby d4_1)
  obtain ⟨T2, X2, e2, st2⟩ := getF X1 hx hZ hown (host := "") (Or.inl (hw _ (List.mem_of_getElem? (i := 20) rfl))) Via.refl e1 F_schedule (g := (mkF m 8 #[.val (.ref o)] [(.ref o)])) rfl rfl (hb hby d4_8)
  obtain ⟨T3, X3, e3, st3⟩ := getF X2 hx hZ hown (host := "") (Or.inl (hw _ (List.mem_of_getElem? (i := 22) rfl))) Via.refl e2 F_prefixWitness (g := (mkF m 15 #[.val (.ref o)] [(.ref o)])) rfl rfl (hb hby d4_15)
  obtain ⟨fs, hr, hrun, hended, hW, hsame⟩ := X3.leave (v := some (.int (0 : Int32))) (fun h => by rw [Bd.returns] at h; cases h)
  refine ⟨_, _, go0 _ ?_, hrun, hended, _, _, rfl, ?_, ⟨_, rfl⟩, hW, hsame.mono (by decide) (by decide)⟩
  · show Steps p.tables e below (s₁.setTop (mkF m 0 #[.val (.ref o)] [])) _
    refine XS.aloadN X0.here hx rfl (hb hby d4_0) rfl rfl ?_
    show Steps p.tables e below (s₁.setTop (mkF m 1 #[.val (.ref o)] [(.ref o)])) _
    refine st1 _ ?_
    show Steps p.tables e below (T1.setTop (mkF m 4 #[.val (.ref o)] [.null])) _
    refine XS.ifnonnullNo X1.here hx rfl (hb hby d4_4) rfl ?_
    show Steps p.tables e below (T1.setTop (mkF m 7 #[.val (.ref o)] [])) _
    refine XS.aloadN X1.here hx rfl (hb hby d4_7) rfl rfl ?_
    show Steps p.tables e below (T1.setTop (mkF m 8 #[.val (.ref o)] [(.ref o)])) _
    refine st2 _ ?_
    show Steps p.tables e below (T2.setTop (mkF m 11 #[.val (.ref o)] [.null])) _
    refine XS.ifnonnullNo X2.here hx rfl (hb hby d4_11) rfl ?_
    show Steps p.tables e below (T2.setTop (mkF m 14 #[.val (.ref o)] [])) _
    refine XS.aloadN X2.here hx rfl (hb hby d4_14) rfl rfl ?_
    show Steps p.tables e below (T2.setTop (mkF m 15 #[.val (.ref o)] [(.ref o)])) _
    refine st3 _ ?_
    show Steps p.tables e below (T3.setTop (mkF m 18 #[.val (.ref o)] [.null])) _
    refine XS.ifnullYes X3.here hx rfl (pc0 := 18) (pc' := 25) rfl (hb hby d4_18) rfl (by decide) (by decide) ?_
    show Steps p.tables e below (T3.setTop (mkF m 25 #[.val (.ref o)] [])) _
    refine XS.iconst X3.here hx rfl (hb hby d4_25) ?_
    show Steps p.tables e below (T3.setTop (mkF m 26 #[.val (.ref o)] [(.int (0 : Int32))])) _
    exact retN X3 hx (t := .boolean) Bd.returns (by simp) (hb hby d4_26) hr
  · show Q4b Z o h0 n0 _ T3.heap _
    rw [e3]
    exact ⟨rfl, N0, rfl⟩
theorem ef_4c (m : MethodId) (o : Addr) : entryFrame m #[(.ref o)] 1 = mkF m 0 #[.val (.ref o)] [] := by first | (simp [entryFrame, mkF, argsToLocals, Value.category]; done) | rfl
def Q4c (Z : State) (o : Addr) (h0 : Heap) (n0 : Nat) (v : Option Value) (h : Heap) (L : List Loc) : Prop := v = some (.int 1) ∧ Fr n0 L ∧ h = h0
set_option maxRecDepth 65536 in
set_option maxHeartbeats 40000000 in
theorem rm4c (l : Launch) (Z : State) (a0 : Array Value) (hw : ∀ d ∈ tables_1, d.before a0 Z = true) (ws : List Jvm.Cond) (o arr : Addr) (p1 p2 : Int32) (h0 : Heap) (n0 : Nat) (Z0 : n0 ≤ h0.size) (F_partner : Fld Z h0 o "com/example/racewitness/racewitness/analysis/Race" "partner" "I" (.int p1)) (F_racyEvent : Fld Z h0 o "com/example/racewitness/racewitness/analysis/Race" "racyEvent" "I" (.int p2)) (F_lastScheduled : Fld Z h0 o "com/example/racewitness/racewitness/analysis/Race" "lastScheduled" "[I" .null) (F_schedule : Fld Z h0 o "com/example/racewitness/racewitness/analysis/Race" "schedule" "[I" (.ref arr)) (F_prefixWitness : Fld Z h0 o "com/example/racewitness/racewitness/analysis/Race" "prefixWitness" "Lcom/example/racewitness/racewitness/analysis/Race$PrefixWitness;" .null) :
    MetFree l (⟨"com/example/racewitness/racewitness/analysis/Race", "hasWitness", "()Z"⟩ : MethodName) (head1 (Jvm.Cond.code (⟨"com/example/racewitness/racewitness/analysis/Race", "hasWitness", "()Z"⟩ : MethodName) prog_33_method_8_code 1 (some .boolean) :: ws) ({ frames := 0, cells := 0, slots := 0, locals := 0 } : Room)) (fun a U => a = #[(.ref o)] ∧ Z.Warmed39 U.vm ∧ U.heap = h0) (fun _ _ _ _ _ => True) (fun _ U oU U' => ∃ v L, oU = .returned v ∧ Q4c Z o h0 n0 v U'.heap L ∧ FrameEnd U oU U' L ({ frames := 0, cells := 0, slots := 0, locals := 0 } : Room).cells ({ frames := 0, cells := 0, slots := 0, locals := 0 } : Room).slots) := by
  refine MetFree.of_bodySF (plainFor_of_name pn_2) hisR ?_
  intro p e s m args below meth c s₁ Bd hml0 hP hK
  obtain ⟨rfl, hZ, hh⟩ := hP
  have hx := Bd.exec
  have hby := Bd.bytes
  have hml : c.maxLocals = 1 := hml0
  have hown : s.vm.findClass "com/example/racewitness/racewitness/analysis/Race" = some m.cls := findClass_of_methodNamed Bd.named
  have hnm := (name_of_methodNamed Bd.named Bd.method).1
  have X0 : Stand p l e ({ frames := 0, cells := 0, slots := 0, locals := 0 } : Room) s m #[(.ref o)] below meth c s₁ [] 0 0 := Stand.of_body Bd
  have e0 : s₁.heap = h0 := by rw [← hh, Bd.state]; rfl
  have N0 := Fr.nil n0
  have go0 : ∀ t, Steps p.tables e below (s₁.setTop (mkF m 0 #[.val (.ref o)] [])) t → Steps p.tables e below (s₁.setTop (entryFrame m #[(.ref o)] 1)) t := fun t k => castTop (ef_4c m o) k
  obtain ⟨T1, X1, e1, st1⟩ := getF X0 hx hZ hown (host := "") (Or.inl (hw _ (List.mem_of_getElem? (i := 18) rfl))) Via.refl e0 F_lastScheduled (g := (mkF m 1 #[.val (.ref o)] [(.ref o)])) rfl rfl (hb hby d4_1)
  obtain ⟨T2, X2, e2, st2⟩ := getF X1 hx hZ hown (host := "") (Or.inl (hw _ (List.mem_of_getElem? (i := 20) rfl))) Via.refl e1 F_schedule (g := (mkF m 8 #[.val (.ref o)] [(.ref o)])) rfl rfl (hb hby d4_8)
  obtain ⟨fs, hr, hrun, hended, hW, hsame⟩ := X2.leave (v := some (.int (1 : Int32))) (fun h => by rw [Bd.returns] at h; cases h)
  refine ⟨_, _, go0 _ ?_, hrun, hended, _, _, rfl, ?_, ⟨_, rfl⟩, hW, hsame.mono (by decide) (by decide)⟩
  · show Steps p.tables e below (s₁.setTop (mkF m 0 #[.val (.ref o)] [])) _
    refine XS.aloadN X0.here hx rfl (hb hby d4_0) rfl rfl ?_
    show Steps p.tables e below (s₁.setTop (mkF m 1 #[.val (.ref o)] [(.ref o)])) _
    refine st1 _ ?_
    show Steps p.tables e below (T1.setTop (mkF m 4 #[.val (.ref o)] [.null])) _
    refine XS.ifnonnullNo X1.here hx rfl (hb hby d4_4) rfl ?_
    show Steps p.tables e below (T1.setTop (mkF m 7 #[.val (.ref o)] [])) _
    refine XS.aloadN X1.here hx rfl (hb hby d4_7) rfl rfl ?_
    show Steps p.tables e below (T1.setTop (mkF m 8 #[.val (.ref o)] [(.ref o)])) _
    refine st2 _ ?_
    show Steps p.tables e below (T2.setTop (mkF m 11 #[.val (.ref o)] [(.ref arr)])) _
    refine XS.ifnonnullYes X2.here hx rfl (pc0 := 11) (pc' := 21) rfl (hb hby d4_11) rfl (by decide) (by decide) ?_
    show Steps p.tables e below (T2.setTop (mkF m 21 #[.val (.ref o)] [])) _
    refine XS.iconst X2.here hx rfl (hb hby d4_21) ?_
    show Steps p.tables e below (T2.setTop (mkF m 22 #[.val (.ref o)] [(.int (1 : Int32))])) _
    refine XS.goto X2.here hx rfl (pc0 := 22) (pc' := 26) rfl (hb hby d4_22) (by decide) (by decide) ?_
    show Steps p.tables e below (T2.setTop (mkF m 26 #[.val (.ref o)] [(.int (1 : Int32))])) _
    exact retN X2 hx (t := .boolean) Bd.returns (by simp) (hb hby d4_26) hr
  · show Q4c Z o h0 n0 _ T2.heap _
    rw [e2]
    exact ⟨rfl, N0, rfl⟩
theorem ef_5 (m : MethodId) (o : Addr) : entryFrame m #[(.ref o)] 1 = mkF m 0 #[.val (.ref o)] [] := by first | (simp [entryFrame, mkF, argsToLocals, Value.category]; done) | rfl
def Q5 (Z : State) (w : Int32) (h0 : Heap) (n0 : Nat) (v : Option Value) (h : Heap) (L : List Loc) : Prop := v = some (.int w) ∧ Fr n0 L ∧ h = h0
theorem d5_0 : decode prog_33_method_6_code 0 = .ok (.aload_n 0, 1) := by decide +kernel
theorem d5_1 : decode prog_33_method_6_code 1 = .ok (.getfield 26, 3) := by decide +kernel
theorem d5_4 : decode prog_33_method_6_code 4 = .ok (.ireturn, 1) := by decide +kernel
set_option maxRecDepth 65536 in
set_option maxHeartbeats 40000000 in
theorem rm5 (l : Launch) (Z : State) (a0 : Array Value) (hw : ∀ d ∈ tables_1, d.before a0 Z = true) (ws : List Jvm.Cond) (o : Addr) (w : Int32) (h0 : Heap) (n0 : Nat) (Z0 : n0 ≤ h0.size) (F : Fld Z h0 o "com/example/racewitness/racewitness/analysis/Race" "partner" "I" (.int w)) :
    MetFree l (⟨"com/example/racewitness/racewitness/analysis/Race", "partner", "()I"⟩ : MethodName) (head1 (Jvm.Cond.code (⟨"com/example/racewitness/racewitness/analysis/Race", "partner", "()I"⟩ : MethodName) prog_33_method_6_code 1 (some .int) :: ws) ({ frames := 0, cells := 0, slots := 0, locals := 0 } : Room)) (fun a U => a = #[(.ref o)] ∧ Z.Warmed39 U.vm ∧ U.heap = h0) (fun _ _ _ _ _ => True) (fun _ U oU U' => ∃ v L, oU = .returned v ∧ Q5 Z w h0 n0 v U'.heap L ∧ FrameEnd U oU U' L ({ frames := 0, cells := 0, slots := 0, locals := 0 } : Room).cells ({ frames := 0, cells := 0, slots := 0, locals := 0 } : Room).slots) := by
  refine MetFree.of_bodySF (plainFor_of_name pn_2) hisR ?_
  intro p e s m args below meth c s₁ Bd hml0 hP hK
  obtain ⟨rfl, hZ, hh⟩ := hP
  have hx := Bd.exec
  have hby := Bd.bytes
  have hml : c.maxLocals = 1 := hml0
  have hown : s.vm.findClass "com/example/racewitness/racewitness/analysis/Race" = some m.cls := findClass_of_methodNamed Bd.named
  have hnm := (name_of_methodNamed Bd.named Bd.method).1
  have X0 : Stand p l e ({ frames := 0, cells := 0, slots := 0, locals := 0 } : Room) s m #[(.ref o)] below meth c s₁ [] 0 0 := Stand.of_body Bd
  have e0 : s₁.heap = h0 := by rw [← hh, Bd.state]; rfl
  have N0 := Fr.nil n0
  have go0 : ∀ t, Steps p.tables e below (s₁.setTop (mkF m 0 #[.val (.ref o)] [])) t → Steps p.tables e below (s₁.setTop (entryFrame m #[(.ref o)] 1)) t := fun t k => castTop (ef_5 m o) k
  obtain ⟨T1, X1, e1, st1⟩ := getF X0 hx hZ hown (host := "") (Or.inl (hw _ (List.mem_of_getElem? (i := 14) rfl))) Via.refl e0 F (g := (mkF m 1 #[.val (.ref o)] [(.ref o)])) rfl rfl (hb hby d5_1)
  obtain ⟨fs, hr, hrun, hended, hW, hsame⟩ := X1.leave (v := some (.int w)) (fun h => by rw [Bd.returns] at h; cases h)
  refine ⟨_, _, go0 _ ?_, hrun, hended, _, _, rfl, ?_, ⟨_, rfl⟩, hW, hsame.mono (by decide) (by decide)⟩
  · show Steps p.tables e below (s₁.setTop (mkF m 0 #[.val (.ref o)] [])) _
    refine XS.aloadN X0.here hx rfl (hb hby d5_0) rfl rfl ?_
    show Steps p.tables e below (s₁.setTop (mkF m 1 #[.val (.ref o)] [(.ref o)])) _
    refine st1 _ ?_
    show Steps p.tables e below (T1.setTop (mkF m 4 #[.val (.ref o)] [(.int w)])) _
    exact retI X1 hx Bd.returns (hb hby d5_4) hr
  · show Q5 Z w h0 n0 _ T1.heap _
    rw [e1]
    exact ⟨rfl, N0, rfl⟩
theorem ef_6 (m : MethodId) (o : Addr) : entryFrame m #[(.ref o)] 1 = mkF m 0 #[.val (.ref o)] [] := by first | (simp [entryFrame, mkF, argsToLocals, Value.category]; done) | rfl
def Q6 (Z : State) (w : Int32) (h0 : Heap) (n0 : Nat) (v : Option Value) (h : Heap) (L : List Loc) : Prop := v = some (.int w) ∧ Fr n0 L ∧ h = h0
theorem d6_0 : decode prog_33_method_7_code 0 = .ok (.aload_n 0, 1) := by decide +kernel
theorem d6_1 : decode prog_33_method_7_code 1 = .ok (.getfield 30, 3) := by decide +kernel
theorem d6_4 : decode prog_33_method_7_code 4 = .ok (.ireturn, 1) := by decide +kernel
set_option maxRecDepth 65536 in
set_option maxHeartbeats 40000000 in
theorem rm6 (l : Launch) (Z : State) (a0 : Array Value) (hw : ∀ d ∈ tables_1, d.before a0 Z = true) (ws : List Jvm.Cond) (o : Addr) (w : Int32) (h0 : Heap) (n0 : Nat) (Z0 : n0 ≤ h0.size) (F : Fld Z h0 o "com/example/racewitness/racewitness/analysis/Race" "racyEvent" "I" (.int w)) :
    MetFree l (⟨"com/example/racewitness/racewitness/analysis/Race", "racyEvent", "()I"⟩ : MethodName) (head1 (Jvm.Cond.code (⟨"com/example/racewitness/racewitness/analysis/Race", "racyEvent", "()I"⟩ : MethodName) prog_33_method_7_code 1 (some .int) :: ws) ({ frames := 0, cells := 0, slots := 0, locals := 0 } : Room)) (fun a U => a = #[(.ref o)] ∧ Z.Warmed39 U.vm ∧ U.heap = h0) (fun _ _ _ _ _ => True) (fun _ U oU U' => ∃ v L, oU = .returned v ∧ Q6 Z w h0 n0 v U'.heap L ∧ FrameEnd U oU U' L ({ frames := 0, cells := 0, slots := 0, locals := 0 } : Room).cells ({ frames := 0, cells := 0, slots := 0, locals := 0 } : Room).slots) := by
  refine MetFree.of_bodySF (plainFor_of_name pn_2) hisR ?_
  intro p e s m args below meth c s₁ Bd hml0 hP hK
  obtain ⟨rfl, hZ, hh⟩ := hP
  have hx := Bd.exec
  have hby := Bd.bytes
  have hml : c.maxLocals = 1 := hml0
  have hown : s.vm.findClass "com/example/racewitness/racewitness/analysis/Race" = some m.cls := findClass_of_methodNamed Bd.named
  have hnm := (name_of_methodNamed Bd.named Bd.method).1
  have X0 : Stand p l e ({ frames := 0, cells := 0, slots := 0, locals := 0 } : Room) s m #[(.ref o)] below meth c s₁ [] 0 0 := Stand.of_body Bd
  have e0 : s₁.heap = h0 := by rw [← hh, Bd.state]; rfl
  have N0 := Fr.nil n0
  have go0 : ∀ t, Steps p.tables e below (s₁.setTop (mkF m 0 #[.val (.ref o)] [])) t → Steps p.tables e below (s₁.setTop (entryFrame m #[(.ref o)] 1)) t := fun t k => castTop (ef_6 m o) k
  obtain ⟨T1, X1, e1, st1⟩ := getF X0 hx hZ hown (host := "") (Or.inl (hw _ (List.mem_of_getElem? (i := 16) rfl))) Via.refl e0 F (g := (mkF m 1 #[.val (.ref o)] [(.ref o)])) rfl rfl (hb hby d6_1)
  obtain ⟨fs, hr, hrun, hended, hW, hsame⟩ := X1.leave (v := some (.int w)) (fun h => by rw [Bd.returns] at h; cases h)
  refine ⟨_, _, go0 _ ?_, hrun, hended, _, _, rfl, ?_, ⟨_, rfl⟩, hW, hsame.mono (by decide) (by decide)⟩
  · show Steps p.tables e below (s₁.setTop (mkF m 0 #[.val (.ref o)] [])) _
    refine XS.aloadN X0.here hx rfl (hb hby d6_0) rfl rfl ?_
    show Steps p.tables e below (s₁.setTop (mkF m 1 #[.val (.ref o)] [(.ref o)])) _
    refine st1 _ ?_
    show Steps p.tables e below (T1.setTop (mkF m 4 #[.val (.ref o)] [(.int w)])) _
    exact retI X1 hx Bd.returns (hb hby d6_4) hr
  · show Q6 Z w h0 n0 _ T1.heap _
    rw [e1]
    exact ⟨rfl, N0, rfl⟩
theorem pn_8 : plainName "java/util/Objects" = true := by first | (simp [plainName, overriddenIn]; done) | decide +kernel
theorem ef_8 (m : MethodId) (o : Addr) (q : Addr) : entryFrame m #[(.ref o), (.ref q)] 2 = mkF m 0 #[.val (.ref o), .val (.ref q)] [] := by first | (simp [entryFrame, mkF, argsToLocals, Value.category]; done) | rfl
def Q8 (Z : State) (o q : Addr) (h0 : Heap) (n0 : Nat) (v : Option Value) (h : Heap) (L : List Loc) : Prop := v = some (.ref o) ∧ Fr n0 L ∧ h = h0
theorem d8_0 : decode jdk_31_method_11_code 0 = .ok (.aload_n 0, 1) := by decide +kernel
theorem d8_1 : decode jdk_31_method_11_code 1 = .ok (.ifnonnull 12, 3) := by decide +kernel
theorem d8_13 : decode jdk_31_method_11_code 13 = .ok (.aload_n 0, 1) := by decide +kernel
theorem d8_14 : decode jdk_31_method_11_code 14 = .ok (.areturn, 1) := by decide +kernel
set_option maxRecDepth 65536 in
set_option maxHeartbeats 40000000 in
theorem rm8 (l : Launch) (Z : State) (a0 : Array Value) (hw : ∀ d ∈ tables_1, d.before a0 Z = true) (ws : List Jvm.Cond) (o q : Addr) (h0 : Heap) (n0 : Nat) (Z0 : n0 ≤ h0.size)  :
    MetFree l (⟨"java/util/Objects", "requireNonNull", "(Ljava/lang/Object;Ljava/lang/String;)Ljava/lang/Object;"⟩ : MethodName) (head1 (Jvm.Cond.code (⟨"java/util/Objects", "requireNonNull", "(Ljava/lang/Object;Ljava/lang/String;)Ljava/lang/Object;"⟩ : MethodName) jdk_31_method_11_code 2 (some (.object "java/lang/Object")) :: ws) ({ frames := 0, cells := 0, slots := 0, locals := 0 } : Room)) (fun a U => a = #[(.ref o), (.ref q)] ∧ Z.Warmed39 U.vm ∧ U.heap = h0) (fun _ _ _ _ _ => True) (fun _ U oU U' => ∃ v L, oU = .returned v ∧ Q8 Z o q h0 n0 v U'.heap L ∧ FrameEnd U oU U' L ({ frames := 0, cells := 0, slots := 0, locals := 0 } : Room).cells ({ frames := 0, cells := 0, slots := 0, locals := 0 } : Room).slots) := by
  refine MetFree.of_bodySF (plainFor_of_name pn_8) hisR ?_
  intro p e s m args below meth c s₁ Bd hml0 hP hK
  obtain ⟨rfl, hZ, hh⟩ := hP
  have hx := Bd.exec
  have hby := Bd.bytes
  have hml : c.maxLocals = 2 := hml0
  have hown : s.vm.findClass "java/util/Objects" = some m.cls := findClass_of_methodNamed Bd.named
  have hnm := (name_of_methodNamed Bd.named Bd.method).1
  have X0 : Stand p l e ({ frames := 0, cells := 0, slots := 0, locals := 0 } : Room) s m #[(.ref o), (.ref q)] below meth c s₁ [] 0 0 := Stand.of_body Bd
  have e0 : s₁.heap = h0 := by rw [← hh, Bd.state]; rfl
  have N0 := Fr.nil n0
  have go0 : ∀ t, Steps p.tables e below (s₁.setTop (mkF m 0 #[.val (.ref o), .val (.ref q)] [])) t → Steps p.tables e below (s₁.setTop (entryFrame m #[(.ref o), (.ref q)] 2)) t := fun t k => castTop (ef_8 m o q) k
  obtain ⟨fs, hr, hrun, hended, hW, hsame⟩ := X0.leave (v := some (.ref o)) (fun h => by rw [Bd.returns] at h; cases h)
  refine ⟨_, _, go0 _ ?_, hrun, hended, _, _, rfl, ?_, ⟨_, rfl⟩, hW, hsame.mono (by decide) (by decide)⟩
  · show Steps p.tables e below (s₁.setTop (mkF m 0 #[.val (.ref o), .val (.ref q)] [])) _
    refine XS.aloadN X0.here hx rfl (hb hby d8_0) rfl rfl ?_
    show Steps p.tables e below (s₁.setTop (mkF m 1 #[.val (.ref o), .val (.ref q)] [(.ref o)])) _
    refine XS.ifnonnullYes X0.here hx rfl (pc0 := 1) (pc' := 13) rfl (hb hby d8_1) rfl (by decide) (by decide) ?_
    show Steps p.tables e below (s₁.setTop (mkF m 13 #[.val (.ref o), .val (.ref q)] [])) _
    refine XS.aloadN X0.here hx rfl (hb hby d8_13) rfl rfl ?_
    show Steps p.tables e below (s₁.setTop (mkF m 14 #[.val (.ref o), .val (.ref q)] [(.ref o)])) _
    jvm_step X0.here [X0.here.top, hx, (hb hby d8_14), X0.method', Bd.returns, Value.isRef, FieldType.isReference]
    first | (intro acts; rw [hr _ acts rfl rfl rfl]) | rw [hr _ _ rfl rfl rfl]
    exact Steps.refl _
  · show Q8 Z o q h0 n0 _ s₁.heap _
    rw [e0]
    exact ⟨rfl, N0, rfl⟩
theorem ef_7 (m : MethodId) (arr : Addr) (p1 : Int32) (p2 : Int32) : entryFrame m #[(.int p1), (.int p2), (.ref arr)] 3 = mkF m 0 #[.val (.int p1), .val (.int p2), .val (.ref arr)] [] := by first | (simp [entryFrame, mkF, argsToLocals, Value.category]; done) | rfl
def Q7 (Z : State) (arr : Addr) (p1 p2 : Int32) (h0 : Heap) (n0 : Nat) (v : Option Value) (h : Heap) (L : List Loc) : Prop := ∃ b : Addr, v = some (.ref b) ∧ Fr n0 L ∧ Keep h0 h [] ∧ Exa Z h b "com/example/racewitness/racewitness/analysis/Race" ∧ Fld Z h b "com/example/racewitness/racewitness/analysis/Race" "partner" "I" (.int p1) ∧ Fld Z h b "com/example/racewitness/racewitness/analysis/Race" "racyEvent" "I" (.int p2) ∧ Fld Z h b "com/example/racewitness/racewitness/analysis/Race" "lastScheduled" "[I" .null ∧ Fld Z h b "com/example/racewitness/racewitness/analysis/Race" "schedule" "[I" (.ref arr) ∧ Fld Z h b "com/example/racewitness/racewitness/analysis/Race" "prefixWitness" "Lcom/example/racewitness/racewitness/analysis/Race$PrefixWitness;" .null
theorem d7_0 : decode prog_33_method_4_code 0 = .ok (.new 4, 3) := by decide +kernel
theorem d7_3 : decode prog_33_method_4_code 3 = .ok (.dup, 1) := by decide +kernel
theorem d7_4 : decode prog_33_method_4_code 4 = .ok (.iload_n 0, 1) := by decide +kernel
theorem d7_5 : decode prog_33_method_4_code 5 = .ok (.iload_n 1, 1) := by decide +kernel
theorem d7_6 : decode prog_33_method_4_code 6 = .ok (.aconst_null, 1) := by decide +kernel
theorem d7_7 : decode prog_33_method_4_code 7 = .ok (.aload_n 2, 1) := by decide +kernel
theorem d7_8 : decode prog_33_method_4_code 8 = .ok (.ldc 44, 2) := by decide +kernel
theorem own_strs : ∀ d ∈ Bundle.stringAtoms, d ∈ tables_1 := by decide +kernel
theorem d7_10 : decode prog_33_method_4_code 10 = .ok (.invokestatic 45, 3) := by decide +kernel
theorem pd_2 : parseMethodDescriptor "(Ljava/lang/Object;Ljava/lang/String;)Ljava/lang/Object;" = some ⟨[(.object "java/lang/Object"), (.object "java/lang/String")], some (.object "java/lang/Object")⟩ := by decide +kernel
theorem d7_13 : decode prog_33_method_4_code 13 = .ok (.checkcast 51, 3) := by decide +kernel
theorem d7_16 : decode prog_33_method_4_code 16 = .ok (.aconst_null, 1) := by decide +kernel
theorem d7_17 : decode prog_33_method_4_code 17 = .ok (.invokespecial 9, 3) := by decide +kernel
theorem d7_20 : decode prog_33_method_4_code 20 = .ok (.areturn, 1) := by decide +kernel
set_option maxRecDepth 65536 in
set_option maxHeartbeats 40000000 in
theorem rm7 (l : Launch) (Z : State) (a0 : Array Value) (hw : ∀ d ∈ tables_1, d.before a0 Z = true) (ws : List Jvm.Cond) (arr : Addr) (p1 p2 : Int32) (h0 : Heap) (n0 : Nat) (Z0 : n0 ≤ h0.size) (EA : Exa Z h0 arr "[I") (hp1 : ¬ p1 < (0 : Int32)) (hp2 : p1 < p2) :
    MetFree l (⟨"com/example/racewitness/racewitness/analysis/Race", "withSchedule", "(II[I)Lcom/example/racewitness/racewitness/analysis/Race;"⟩ : MethodName) (head1 (Jvm.Cond.code (⟨"com/example/racewitness/racewitness/analysis/Race", "withSchedule", "(II[I)Lcom/example/racewitness/racewitness/analysis/Race;"⟩ : MethodName) prog_33_method_4_code 3 (some (.object "com/example/racewitness/racewitness/analysis/Race")) :: ws) ({ frames := 2, cells := 3, slots := 41, locals := 32 } : Room)) (fun a U => a = #[(.int p1), (.int p2), (.ref arr)] ∧ Z.Warmed39 U.vm ∧ U.heap = h0) (fun _ _ _ _ _ => True) (fun _ U oU U' => ∃ v L, oU = .returned v ∧ Q7 Z arr p1 p2 h0 n0 v U'.heap L ∧ ReturnedEndW U oU U' L ({ frames := 2, cells := 3, slots := 41, locals := 32 } : Room).cells ({ frames := 2, cells := 3, slots := 41, locals := 32 } : Room).slots) := by
  refine MetFree.of_bodySF (plainFor_of_name pn_2) hisR ?_
  intro p e s m args below meth c s₁ Bd hml0 hP hK
  obtain ⟨rfl, hZ, hh⟩ := hP
  have hx := Bd.exec
  have hby := Bd.bytes
  have hml : c.maxLocals = 3 := hml0
  have hown : s.vm.findClass "com/example/racewitness/racewitness/analysis/Race" = some m.cls := findClass_of_methodNamed Bd.named
  have hnm := (name_of_methodNamed Bd.named Bd.method).1
  have X0 : Stand p l e ({ frames := 2, cells := 3, slots := 41, locals := 32 } : Room) (s.setVm s.vm) m #[(.int p1), (.int p2), (.ref arr)] below meth c s₁ [] 0 0 := Stand.of_body Bd
  have e0 : s₁.heap = h0 := by rw [← hh, Bd.state]; rfl
  have N0 := Fr.nil n0
  have hS0 : s.Since s.vm 0 := (State.WarmedH.refl s).since 0
  have go0 : ∀ t, Steps p.tables e below (s₁.setTop (mkF m 0 #[.val (.int p1), .val (.int p2), .val (.ref arr)] [])) t → Steps p.tables e below (s₁.setTop (entryFrame m #[(.int p1), (.int p2), (.ref arr)] 3)) t := fun t k => castTop (ef_7 m arr p1 p2) k
  obtain ⟨T1, h1, X1, e1, E1, A1, D1, -, st1⟩ := newO X0 hx hZ hown (hw _ (List.mem_of_getElem? (i := 42) rfl)) (hw _ (List.mem_of_getElem? (i := 3) rfl)) (hw _ (List.mem_of_getElem? (i := 4) rfl)) e0 (g := (mkF m 0 #[.val (.int p1), .val (.int p2), .val (.ref arr)] [])) rfl (hb hby d7_0) (by decide) (by decide)
  obtain ⟨b1, g1⟩ : ∃ z, z = h0.size := ⟨_, rfl⟩
  rw [← g1] at A1 D1 st1
  have ne_arr_b1 : arr ≠ b1 := Nat.ne_of_lt (Nat.lt_of_lt_of_le EA.lt (Nat.le_of_eq g1.symm))
  have E1_arr := EA.ext E1
  have K1 : Keep h0 h1 [] := (Keep.refl h0 []).ext E1
  have ge_b1 : n0 ≤ b1 := (Nat.le_trans Z0 (Nat.le_of_eq g1.symm))
  have sz_b1 : h0.size ≤ b1 := (Nat.le_trans (Keep.refl h0 []).1 (Nat.le_of_eq g1.symm))
  have F1_b1_partner : Fld Z h1 b1 "com/example/racewitness/racewitness/analysis/Race" "partner" "I" (.int (0 : Int32)) := D1 (Or.inr (hw _ (List.mem_of_getElem? (i := 15) rfl))) (ty := .int) (by decide)
  have F1_b1_racyEvent : Fld Z h1 b1 "com/example/racewitness/racewitness/analysis/Race" "racyEvent" "I" (.int (0 : Int32)) := D1 (Or.inr (hw _ (List.mem_of_getElem? (i := 17) rfl))) (ty := .int) (by decide)
  have F1_b1_lastScheduled : Fld Z h1 b1 "com/example/racewitness/racewitness/analysis/Race" "lastScheduled" "[I" .null := D1 (Or.inr (hw _ (List.mem_of_getElem? (i := 19) rfl))) (ty := (.array .int)) (by decide)
  have F1_b1_schedule : Fld Z h1 b1 "com/example/racewitness/racewitness/analysis/Race" "schedule" "[I" .null := D1 (Or.inr (hw _ (List.mem_of_getElem? (i := 21) rfl))) (ty := (.array .int)) (by decide)
  have F1_b1_prefixWitness : Fld Z h1 b1 "com/example/racewitness/racewitness/analysis/Race" "prefixWitness" "Lcom/example/racewitness/racewitness/analysis/Race$PrefixWitness;" .null := D1 (Or.inr (hw _ (List.mem_of_getElem? (i := 23) rfl))) (ty := (.object "com/example/racewitness/racewitness/analysis/Race$PrefixWitness")) (by decide)
  obtain ⟨b2, T2, h2, ks2, X2, e2, E2, hS2, hk2, hZ2, hown2, st2⟩ := ldcS X1 hx hZ hown (hw _ (List.mem_of_getElem? (i := 43) rfl)) (fun d hd => hw d (own_strs d hd)) e1 hS0 (Nat.le_trans (Nat.zero_le _) E1.1) (g := (mkF m 8 #[.val (.int p1), .val (.int p2), .val (.ref arr)] [(.ref arr), .null, (.int p2), (.int p1), (.ref b1), (.ref b1)])) rfl (hb hby d7_8) (n := 32) (by decide) (by decide) (by decide) (by decide)
  have E2_arr := E1_arr.ext E2
  have E2_b1 := A1.ext E2
  have F2_b1_partner := F1_b1_partner.ext E2
  have F2_b1_racyEvent := F1_b1_racyEvent.ext E2
  have F2_b1_lastScheduled := F1_b1_lastScheduled.ext E2
  have F2_b1_schedule := F1_b1_schedule.ext E2
  have F2_b1_prefixWitness := F1_b1_prefixWitness.ext E2
  have K2 : Keep h0 h2 [] := K1.ext E2
  obtain ⟨_, _, ⟨T3, L3, k3, n3⟩, -, X3, ⟨Lc3, hQ3, l3, y3, z3⟩, st3⟩ := Jvm.LawKit.callS X2 hx (y := (⟨"java/util/Objects", "requireNonNull", "(Ljava/lang/Object;Ljava/lang/String;)Ljava/lang/Object;"⟩ : MethodName)) hown2 (mvT hZ2 (hw _ (List.mem_of_getElem? (i := 51) rfl))) (mvT hZ2 (hw _ (List.mem_of_getElem? (i := 52) rfl))) (mvT hZ2 (hw _ (List.mem_of_getElem? (i := 53) rfl))) (mvT hZ2 (hw _ (List.mem_of_getElem? (i := 54) rfl))) (by decide) (backOf (W := 5) (rm8 l Z a0 hw [] arr b2 h2 n0 (Nat.le_trans (Nat.le_trans Z0 E1.1) E2.1)) hZ2 (hw _ (List.mem_of_getElem? (i := 54) rfl)) (hw _ (List.mem_of_getElem? (i := 53) rfl)) (by decide) (by decide)) (g := (mkF m 10 #[.val (.int p1), .val (.int p2), .val (.ref arr)] [(.ref b2), (.ref arr), .null, (.int p2), (.int p1), (.ref b1), (.ref b1)])) rfl (by rw [hml]; rfl) (argsL := [(.ref arr), (.ref b2)]) (rest := [.null, (.int p2), (.int p1), (.ref b1), (.ref b1)]) (lenOf pd_2 rfl) rfl (by show 2 * 0 + _ ≤ _; exact Nat.le_of_eq rfl) (hb hby d7_10) (fun _ _ => ⟨rfl, e2, (by decide : 3 + 0 ≤ _), (by decide : 41 + 0 ≤ _)⟩)
  dsimp only [Pt.U, Pt.locs, Pt.cells, Pt.slots] at X3 l3 y3 z3 st3 hQ3
  subst l3 y3 z3
  obtain ⟨rfl, N3q, eh3⟩ := hQ3
  have N3 := Fr.app N0 N3q
  obtain ⟨T4, X4, e4, st4⟩ := castY X3 hx hZ2 hown2 (hw _ (List.mem_of_getElem? (i := 55) rfl)) eh3 (Ins.self E2_arr) (g := (mkF m 13 #[.val (.int p1), .val (.int p2), .val (.ref arr)] [(.ref arr), .null, (.int p2), (.int p1), (.ref b1), (.ref b1)])) rfl rfl (hb hby d7_13)
  obtain ⟨_, _, ⟨T5, L5, k5, n5⟩, -, X5, ⟨Lc5, hQ5, l5, y5, z5⟩, st5⟩ := X4.specialBack hx (y := (⟨"com/example/racewitness/racewitness/analysis/Race", "<init>", "(II[I[ILcom/example/racewitness/racewitness/analysis/Race$PrefixWitness;)V"⟩ : MethodName)) rfl hown2 (mvT hZ2 (hw _ (List.mem_of_getElem? (i := 8) rfl))) (mvT hZ2 (hw _ (List.mem_of_getElem? (i := 9) rfl))) (mvT hZ2 (hw _ (List.mem_of_getElem? (i := 10) rfl))) (by decide) (backOf (W := 1) (rm2c l Z a0 hw [] b1 arr p1 p2 h2 n0 (Nat.le_trans (Nat.le_trans Z0 E1.1) E2.1) ge_b1 E2_b1 F2_b1_partner F2_b1_racyEvent F2_b1_lastScheduled F2_b1_schedule F2_b1_prefixWitness hp1 hp2) hZ2 (hw _ (List.mem_of_getElem? (i := 10) rfl)) (hw _ (List.mem_of_getElem? (i := 4) rfl)) (by decide) (by decide)) (g := (mkF m 17 #[.val (.int p1), .val (.int p2), .val (.ref arr)] [.null, (.ref arr), .null, (.int p2), (.int p1), (.ref b1), (.ref b1)])) rfl (by rw [hml]; rfl) (Steps.refl _) (a := b1) (argsL := [(.int p1), (.int p2), .null, (.ref arr), .null]) (rest := [(.ref b1)]) (lenOf pd_0 rfl) rfl (by show 2 * 0 + _ ≤ _; exact Nat.le_of_eq rfl) (hb hby d7_17) (fun _ _ => ⟨rfl, e4, (by decide : 3 + 0 ≤ _), (by decide : 41 + 0 ≤ _)⟩)
  dsimp only [Pt.U, Pt.locs, Pt.cells, Pt.slots] at X5 l5 y5 z5 st5 hQ5
  subst l5 y5 z5
  obtain ⟨rfl, N5q, K5c, F5_partner, F5_racyEvent, F5_lastScheduled, F5_schedule, F5_prefixWitness⟩ := hQ5
  have N5 := Fr.app N3 N5q
  have E5_arr := E2_arr.keep K5c
  have E5_b1 := E2_b1.keep K5c
  have K5 : Keep h0 T5.heap [] := K2.trans K5c (fun x hx => by cases List.mem_singleton.mp hx; exact Or.inr sz_b1)
  obtain ⟨fs, hr, hrun, hended, hRW⟩ := X5.leaveW hS2 (Nat.le_trans hk2 K5c.1) (v := some (.ref b1)) (fun h => by rw [Bd.returns] at h; cases h)
  refine ⟨_, _, go0 _ ?_, hrun, hended, _, _, rfl, ?_, ⟨hRW.1, hRW.2.1, hRW.2.2.1, hRW.2.2.2.mono (by decide) (by decide)⟩⟩
  · show Steps p.tables e below (s₁.setTop (mkF m 0 #[.val (.int p1), .val (.int p2), .val (.ref arr)] [])) _
    refine st1 _ ?_
    show Steps p.tables e below (T1.setTop (mkF m 3 #[.val (.int p1), .val (.int p2), .val (.ref arr)] [(.ref b1)])) _
    refine XS.dup X1.here hx rfl (hb hby d7_3) rfl rfl ?_
    show Steps p.tables e below (T1.setTop (mkF m 4 #[.val (.int p1), .val (.int p2), .val (.ref arr)] [(.ref b1), (.ref b1)])) _
    refine XS.iloadN X1.here hx rfl (hb hby d7_4) rfl ?_
    show Steps p.tables e below (T1.setTop (mkF m 5 #[.val (.int p1), .val (.int p2), .val (.ref arr)] [(.int p1), (.ref b1), (.ref b1)])) _
    refine XS.iloadN X1.here hx rfl (hb hby d7_5) rfl ?_
    show Steps p.tables e below (T1.setTop (mkF m 6 #[.val (.int p1), .val (.int p2), .val (.ref arr)] [(.int p2), (.int p1), (.ref b1), (.ref b1)])) _
    refine XS.aconstNull X1.here hx rfl (hb hby d7_6) ?_
    show Steps p.tables e below (T1.setTop (mkF m 7 #[.val (.int p1), .val (.int p2), .val (.ref arr)] [.null, (.int p2), (.int p1), (.ref b1), (.ref b1)])) _
    refine XS.aloadN X1.here hx rfl (hb hby d7_7) rfl rfl ?_
    show Steps p.tables e below (T1.setTop (mkF m 8 #[.val (.int p1), .val (.int p2), .val (.ref arr)] [(.ref arr), .null, (.int p2), (.int p1), (.ref b1), (.ref b1)])) _
    refine st2 _ ?_
    show Steps p.tables e below (T2.setTop (mkF m 10 #[.val (.int p1), .val (.int p2), .val (.ref arr)] [(.ref b2), (.ref arr), .null, (.int p2), (.int p1), (.ref b1), (.ref b1)])) _
    refine st3 _ ?_
    show Steps p.tables e below (T3.setTop (mkF m 13 #[.val (.int p1), .val (.int p2), .val (.ref arr)] [(.ref arr), .null, (.int p2), (.int p1), (.ref b1), (.ref b1)])) _
    refine st4 _ ?_
    show Steps p.tables e below (T4.setTop (mkF m 16 #[.val (.int p1), .val (.int p2), .val (.ref arr)] [(.ref arr), .null, (.int p2), (.int p1), (.ref b1), (.ref b1)])) _
    refine XS.aconstNull X4.here hx rfl (hb hby d7_16) ?_
    show Steps p.tables e below (T4.setTop (mkF m 17 #[.val (.int p1), .val (.int p2), .val (.ref arr)] [.null, (.ref arr), .null, (.int p2), (.int p1), (.ref b1), (.ref b1)])) _
    refine st5.trans ?_
    show Steps p.tables e below (T5.setTop (mkF m 20 #[.val (.int p1), .val (.int p2), .val (.ref arr)] [(.ref b1)])) _
    jvm_step X5.here [X5.here.top, hx, (hb hby d7_20), X5.method', Bd.returns, Value.isRef, FieldType.isReference]
    first | (intro acts; rw [hr _ acts rfl rfl rfl]) | rw [hr _ _ rfl rfl rfl]
    exact Steps.refl _
  · show Q7 Z arr p1 p2 h0 n0 _ T5.heap _
    exact ⟨_, rfl, N5, K5, E5_b1, F5_partner, F5_racyEvent, F5_lastScheduled, F5_schedule, F5_prefixWitness⟩
theorem pn_0 : plainName "com/example/racewitness/racewitness/analysis/RaceHasWitnessPinLaw" = true := by first | (simp [plainName, overriddenIn]; done) | decide +kernel
theorem ef_0 (m : MethodId) (p1 : Int32) (p2 : Int32) (p3 : Int32) (p4 : Int32) (p5 : Int32) : entryFrame m #[(.int p1), (.int p2), (.int p3), (.int p4), (.int p5)] maxLocals = mkF m 0 #[.val (.int p1), .val (.int p2), .val (.int p3), .val (.int p4), .val (.int p5), .unset, .unset, .unset, .unset, .unset, .unset] [] := by first | (simp [entryFrame, mkF, argsToLocals, Value.category, maxLocals]; done) | rfl
def Q0 (Z : State) (p1 p2 p3 p4 p5 : Int32) (h0 : Heap) (n0 : Nat) (v : Option Value) (h : Heap) (L : List Loc) : Prop := v = some (.int 1) ∧ Fr n0 L
theorem pd_3 : parseMethodDescriptor "(II)V" = some ⟨[.int, .int], none⟩ := by decide +kernel
theorem pd_4 : parseMethodDescriptor "()Z" = some ⟨[], some .boolean⟩ := by decide +kernel
theorem pd_5 : parseMethodDescriptor "()I" = some ⟨[], some .int⟩ := by decide +kernel
theorem pd_6 : parseMethodDescriptor "(II[I)Lcom/example/racewitness/racewitness/analysis/Race;" = some ⟨[.int, .int, (.array .int)], some (.object "com/example/racewitness/racewitness/analysis/Race")⟩ := by decide +kernel
set_option maxRecDepth 65536 in
set_option maxHeartbeats 40000000 in
theorem rm0 (l : Launch) (Z : State) (a0 : Array Value) (hw : ∀ d ∈ tables_1, d.before a0 Z = true) (ws : List Jvm.Cond) (p1 p2 p3 p4 p5 : Int32) (h0 : Heap) (n0 : Nat) (Z0 : n0 ≤ h0.size)  :
    MetFree l x (head1 (Jvm.Cond.code x code maxLocals ret :: ws) room_1) (fun a U => a = #[(.int p1), (.int p2), (.int p3), (.int p4), (.int p5)] ∧ Z.Warmed39 U.vm ∧ U.heap = h0) (fun _ _ _ _ _ => True) (fun _ U oU U' => ∃ v L, oU = .returned v ∧ Q0 Z p1 p2 p3 p4 p5 h0 n0 v U'.heap L ∧ ReturnedEndW U oU U' L room_1.cells room_1.slots) := by
  refine MetFree.of_bodySF (plainFor_of_name pn_0) hisR ?_
  intro p e s m args below meth c s₁ Bd hml0 hP hK
  obtain ⟨rfl, hZ, hh⟩ := hP
  have hx := Bd.exec
  have hby := Bd.bytes
  have hml : c.maxLocals = 11 := hml0
  have hown : s.vm.findClass "com/example/racewitness/racewitness/analysis/RaceHasWitnessPinLaw" = some m.cls := findClass_of_methodNamed Bd.named
  have hnm := (name_of_methodNamed Bd.named Bd.method).1
  have X0 : Stand p l e room_1 (s.setVm s.vm) m #[(.int p1), (.int p2), (.int p3), (.int p4), (.int p5)] below meth c s₁ [] 0 0 := Stand.of_body Bd
  have e0 : s₁.heap = h0 := by rw [← hh, Bd.state]; rfl
  have N0 := Fr.nil n0
  have hS0 : s.Since s.vm 0 := (State.WarmedH.refl s).since 0
  have go0 : ∀ t, Steps p.tables e below (s₁.setTop (mkF m 0 #[.val (.int p1), .val (.int p2), .val (.int p3), .val (.int p4), .val (.int p5), .unset, .unset, .unset, .unset, .unset, .unset] [])) t → Steps p.tables e below (s₁.setTop (entryFrame m #[(.int p1), (.int p2), (.int p3), (.int p4), (.int p5)] maxLocals)) t := fun t k => castTop (ef_0 m p1 p2 p3 p4 p5) k
  have go1 : ∀ t, Steps p.tables e below (s₁.setTop (mkF m 9 #[.val (.int p1), .val (.int p2), .val (.int p3), .val (.int p4), .val (.int p5), .val (.int ((p1 &&& (2147483647 : Int32)) % (2147483647 : Int32))), .unset, .unset, .unset, .unset, .unset] [])) t → Steps p.tables e below (s₁.setTop (entryFrame m #[(.int p1), (.int p2), (.int p3), (.int p4), (.int p5)] maxLocals)) t := by
    intro t kt
    refine go0 t ?_
    show Steps p.tables e below (s₁.setTop (mkF m 0 #[.val (.int p1), .val (.int p2), .val (.int p3), .val (.int p4), .val (.int p5), .unset, .unset, .unset, .unset, .unset, .unset] [])) _
    refine XS.iloadN X0.here hx rfl (hb hby at_0) rfl ?_
    show Steps p.tables e below (s₁.setTop (mkF m 1 #[.val (.int p1), .val (.int p2), .val (.int p3), .val (.int p4), .val (.int p5), .unset, .unset, .unset, .unset, .unset, .unset] [(.int p1)])) _
    refine X0.ldcInt hx hown (mvT hZ (hw _ (List.mem_of_getElem? (i := 0) rfl))) (g := (mkF m 1 #[.val (.int p1), .val (.int p2), .val (.int p3), .val (.int p4), .val (.int p5), .unset, .unset, .unset, .unset, .unset, .unset] [(.int p1)])) rfl (hb hby at_1) _ ?_
    show Steps p.tables e below (s₁.setTop (mkF m 3 #[.val (.int p1), .val (.int p2), .val (.int p3), .val (.int p4), .val (.int p5), .unset, .unset, .unset, .unset, .unset, .unset] [(.int (2147483647 : Int32)), (.int p1)])) _
    refine XS.iand X0.here hx rfl (hb hby at_3) rfl ?_
    show Steps p.tables e below (s₁.setTop (mkF m 4 #[.val (.int p1), .val (.int p2), .val (.int p3), .val (.int p4), .val (.int p5), .unset, .unset, .unset, .unset, .unset, .unset] [(.int (p1 &&& (2147483647 : Int32)))])) _
    refine X0.ldcInt hx hown (mvT hZ (hw _ (List.mem_of_getElem? (i := 0) rfl))) (g := (mkF m 4 #[.val (.int p1), .val (.int p2), .val (.int p3), .val (.int p4), .val (.int p5), .unset, .unset, .unset, .unset, .unset, .unset] [(.int (p1 &&& (2147483647 : Int32)))])) rfl (hb hby at_4) _ ?_
    show Steps p.tables e below (s₁.setTop (mkF m 6 #[.val (.int p1), .val (.int p2), .val (.int p3), .val (.int p4), .val (.int p5), .unset, .unset, .unset, .unset, .unset, .unset] [(.int (2147483647 : Int32)), (.int (p1 &&& (2147483647 : Int32)))])) _
    refine iremM X0 hx rfl (hb hby at_6) rfl (by decide) ?_
    show Steps p.tables e below (s₁.setTop (mkF m 7 #[.val (.int p1), .val (.int p2), .val (.int p3), .val (.int p4), .val (.int p5), .unset, .unset, .unset, .unset, .unset, .unset] [(.int ((p1 &&& (2147483647 : Int32)) % (2147483647 : Int32)))])) _
    refine XS.istore X0.here hx rfl (hb hby at_7) rfl (l' := #[.val (.int p1), .val (.int p2), .val (.int p3), .val (.int p4), .val (.int p5), .val (.int ((p1 &&& (2147483647 : Int32)) % (2147483647 : Int32))), .unset, .unset, .unset, .unset, .unset]) rfl ?_
    exact kt
  obtain ⟨pa, hpa⟩ : ∃ z : Int32, z = ((p1 &&& (2147483647 : Int32)) % (2147483647 : Int32)) := ⟨_, rfl⟩
  rw [← hpa] at go1
  have hpa' : 0 ≤ pa.toInt ∧ pa.toInt < 2147483647 := by rw [hpa]; exact own_pa p1
  have go2 : ∀ t, Steps p.tables e below (s₁.setTop (mkF m 26 #[.val (.int p1), .val (.int p2), .val (.int p3), .val (.int p4), .val (.int p5), .val (.int pa), .val (.int ((pa + (1 : Int32)) + ((p2 &&& (2147483647 : Int32)) % ((2147483647 : Int32) - pa)))), .unset, .unset, .unset, .unset] [])) t → Steps p.tables e below (s₁.setTop (entryFrame m #[(.int p1), (.int p2), (.int p3), (.int p4), (.int p5)] maxLocals)) t := by
    intro t kt
    refine go1 t ?_
    show Steps p.tables e below (s₁.setTop (mkF m 9 #[.val (.int p1), .val (.int p2), .val (.int p3), .val (.int p4), .val (.int p5), .val (.int pa), .unset, .unset, .unset, .unset, .unset] [])) _
    refine XS.iload X0.here hx rfl (hb hby at_9) rfl ?_
    show Steps p.tables e below (s₁.setTop (mkF m 11 #[.val (.int p1), .val (.int p2), .val (.int p3), .val (.int p4), .val (.int p5), .val (.int pa), .unset, .unset, .unset, .unset, .unset] [(.int pa)])) _
    refine XS.iconst X0.here hx rfl (hb hby at_11) ?_
    show Steps p.tables e below (s₁.setTop (mkF m 12 #[.val (.int p1), .val (.int p2), .val (.int p3), .val (.int p4), .val (.int p5), .val (.int pa), .unset, .unset, .unset, .unset, .unset] [(.int (1 : Int32)), (.int pa)])) _
    refine XS.iadd X0.here hx rfl (hb hby at_12) rfl ?_
    show Steps p.tables e below (s₁.setTop (mkF m 13 #[.val (.int p1), .val (.int p2), .val (.int p3), .val (.int p4), .val (.int p5), .val (.int pa), .unset, .unset, .unset, .unset, .unset] [(.int (pa + (1 : Int32)))])) _
    refine XS.iloadN X0.here hx rfl (hb hby at_13) rfl ?_
    show Steps p.tables e below (s₁.setTop (mkF m 14 #[.val (.int p1), .val (.int p2), .val (.int p3), .val (.int p4), .val (.int p5), .val (.int pa), .unset, .unset, .unset, .unset, .unset] [(.int p2), (.int (pa + (1 : Int32)))])) _
    refine X0.ldcInt hx hown (mvT hZ (hw _ (List.mem_of_getElem? (i := 0) rfl))) (g := (mkF m 14 #[.val (.int p1), .val (.int p2), .val (.int p3), .val (.int p4), .val (.int p5), .val (.int pa), .unset, .unset, .unset, .unset, .unset] [(.int p2), (.int (pa + (1 : Int32)))])) rfl (hb hby at_14) _ ?_
    show Steps p.tables e below (s₁.setTop (mkF m 16 #[.val (.int p1), .val (.int p2), .val (.int p3), .val (.int p4), .val (.int p5), .val (.int pa), .unset, .unset, .unset, .unset, .unset] [(.int (2147483647 : Int32)), (.int p2), (.int (pa + (1 : Int32)))])) _
    refine XS.iand X0.here hx rfl (hb hby at_16) rfl ?_
    show Steps p.tables e below (s₁.setTop (mkF m 17 #[.val (.int p1), .val (.int p2), .val (.int p3), .val (.int p4), .val (.int p5), .val (.int pa), .unset, .unset, .unset, .unset, .unset] [(.int (p2 &&& (2147483647 : Int32))), (.int (pa + (1 : Int32)))])) _
    refine X0.ldcInt hx hown (mvT hZ (hw _ (List.mem_of_getElem? (i := 0) rfl))) (g := (mkF m 17 #[.val (.int p1), .val (.int p2), .val (.int p3), .val (.int p4), .val (.int p5), .val (.int pa), .unset, .unset, .unset, .unset, .unset] [(.int (p2 &&& (2147483647 : Int32))), (.int (pa + (1 : Int32)))])) rfl (hb hby at_17) _ ?_
    show Steps p.tables e below (s₁.setTop (mkF m 19 #[.val (.int p1), .val (.int p2), .val (.int p3), .val (.int p4), .val (.int p5), .val (.int pa), .unset, .unset, .unset, .unset, .unset] [(.int (2147483647 : Int32)), (.int (p2 &&& (2147483647 : Int32))), (.int (pa + (1 : Int32)))])) _
    refine XS.iload X0.here hx rfl (hb hby at_19) rfl ?_
    show Steps p.tables e below (s₁.setTop (mkF m 21 #[.val (.int p1), .val (.int p2), .val (.int p3), .val (.int p4), .val (.int p5), .val (.int pa), .unset, .unset, .unset, .unset, .unset] [(.int pa), (.int (2147483647 : Int32)), (.int (p2 &&& (2147483647 : Int32))), (.int (pa + (1 : Int32)))])) _
    refine XS.isub X0.here hx rfl (hb hby at_21) rfl ?_
    show Steps p.tables e below (s₁.setTop (mkF m 22 #[.val (.int p1), .val (.int p2), .val (.int p3), .val (.int p4), .val (.int p5), .val (.int pa), .unset, .unset, .unset, .unset, .unset] [(.int ((2147483647 : Int32) - pa)), (.int (p2 &&& (2147483647 : Int32))), (.int (pa + (1 : Int32)))])) _
    refine iremM X0 hx rfl (hb hby at_22) rfl (own_nz hpa') ?_
    show Steps p.tables e below (s₁.setTop (mkF m 23 #[.val (.int p1), .val (.int p2), .val (.int p3), .val (.int p4), .val (.int p5), .val (.int pa), .unset, .unset, .unset, .unset, .unset] [(.int ((p2 &&& (2147483647 : Int32)) % ((2147483647 : Int32) - pa))), (.int (pa + (1 : Int32)))])) _
    refine XS.iadd X0.here hx rfl (hb hby at_23) rfl ?_
    show Steps p.tables e below (s₁.setTop (mkF m 24 #[.val (.int p1), .val (.int p2), .val (.int p3), .val (.int p4), .val (.int p5), .val (.int pa), .unset, .unset, .unset, .unset, .unset] [(.int ((pa + (1 : Int32)) + ((p2 &&& (2147483647 : Int32)) % ((2147483647 : Int32) - pa))))])) _
    refine XS.istore X0.here hx rfl (hb hby at_24) rfl (l' := #[.val (.int p1), .val (.int p2), .val (.int p3), .val (.int p4), .val (.int p5), .val (.int pa), .val (.int ((pa + (1 : Int32)) + ((p2 &&& (2147483647 : Int32)) % ((2147483647 : Int32) - pa)))), .unset, .unset, .unset, .unset]) rfl ?_
    exact kt
  obtain ⟨ra, hra⟩ : ∃ z : Int32, z = ((pa + (1 : Int32)) + ((p2 &&& (2147483647 : Int32)) % ((2147483647 : Int32) - pa))) := ⟨_, rfl⟩
  rw [← hra] at go2
  have hra' : ¬ pa < (0 : Int32) ∧ pa < ra := by rw [hra]; exact own_ra hpa'
  clear hra; have hra := hra'
  have go3 : ∀ t, Steps p.tables e below (s₁.setTop (mkF m 31 #[.val (.int p1), .val (.int p2), .val (.int p3), .val (.int p4), .val (.int p5), .val (.int pa), .val (.int ra), .val (.int (p3 &&& (3 : Int32))), .unset, .unset, .unset] [])) t → Steps p.tables e below (s₁.setTop (entryFrame m #[(.int p1), (.int p2), (.int p3), (.int p4), (.int p5)] maxLocals)) t := by
    intro t kt
    refine go2 t ?_
    show Steps p.tables e below (s₁.setTop (mkF m 26 #[.val (.int p1), .val (.int p2), .val (.int p3), .val (.int p4), .val (.int p5), .val (.int pa), .val (.int ra), .unset, .unset, .unset, .unset] [])) _
    refine XS.iloadN X0.here hx rfl (hb hby at_26) rfl ?_
    show Steps p.tables e below (s₁.setTop (mkF m 27 #[.val (.int p1), .val (.int p2), .val (.int p3), .val (.int p4), .val (.int p5), .val (.int pa), .val (.int ra), .unset, .unset, .unset, .unset] [(.int p3)])) _
    refine XS.iconst X0.here hx rfl (hb hby at_27) ?_
    show Steps p.tables e below (s₁.setTop (mkF m 28 #[.val (.int p1), .val (.int p2), .val (.int p3), .val (.int p4), .val (.int p5), .val (.int pa), .val (.int ra), .unset, .unset, .unset, .unset] [(.int (3 : Int32)), (.int p3)])) _
    refine XS.iand X0.here hx rfl (hb hby at_28) rfl ?_
    show Steps p.tables e below (s₁.setTop (mkF m 29 #[.val (.int p1), .val (.int p2), .val (.int p3), .val (.int p4), .val (.int p5), .val (.int pa), .val (.int ra), .unset, .unset, .unset, .unset] [(.int (p3 &&& (3 : Int32)))])) _
    refine XS.istore X0.here hx rfl (hb hby at_29) rfl (l' := #[.val (.int p1), .val (.int p2), .val (.int p3), .val (.int p4), .val (.int p5), .val (.int pa), .val (.int ra), .val (.int (p3 &&& (3 : Int32))), .unset, .unset, .unset]) rfl ?_
    exact kt
  obtain ⟨kd, hkd⟩ : ∃ z : Int32, z = (p3 &&& (3 : Int32)) := ⟨_, rfl⟩
  rw [← hkd] at go3
  have go4 : ∀ t, Steps p.tables e below (s₁.setTop (mkF m 34 #[.val (.int p1), .val (.int p2), .val (.int p3), .val (.int p4), .val (.int p5), .val (.int pa), .val (.int ra), .val (.int kd), .unset, .unset, .unset] [(.int (p4 &&& (3 : Int32)))])) t → Steps p.tables e below (s₁.setTop (entryFrame m #[(.int p1), (.int p2), (.int p3), (.int p4), (.int p5)] maxLocals)) t := by
    intro t kt
    refine go3 t ?_
    show Steps p.tables e below (s₁.setTop (mkF m 31 #[.val (.int p1), .val (.int p2), .val (.int p3), .val (.int p4), .val (.int p5), .val (.int pa), .val (.int ra), .val (.int kd), .unset, .unset, .unset] [])) _
    refine XS.iloadN X0.here hx rfl (hb hby at_31) rfl ?_
    show Steps p.tables e below (s₁.setTop (mkF m 32 #[.val (.int p1), .val (.int p2), .val (.int p3), .val (.int p4), .val (.int p5), .val (.int pa), .val (.int ra), .val (.int kd), .unset, .unset, .unset] [(.int p4)])) _
    refine XS.iconst X0.here hx rfl (hb hby at_32) ?_
    show Steps p.tables e below (s₁.setTop (mkF m 33 #[.val (.int p1), .val (.int p2), .val (.int p3), .val (.int p4), .val (.int p5), .val (.int pa), .val (.int ra), .val (.int kd), .unset, .unset, .unset] [(.int (3 : Int32)), (.int p4)])) _
    refine XS.iand X0.here hx rfl (hb hby at_33) rfl ?_
    exact kt
  obtain ⟨ln, hln⟩ : ∃ z : Int32, z = (p4 &&& (3 : Int32)) := ⟨_, rfl⟩
  rw [← hln] at go4
  have hl1 : ¬ ln < (0 : Int32) := by rw [hln]; exact own_3n p4
  have hl2 : ln.toNatClampNeg ≤ 3 := by rw [hln]; exact own_3c p4
  obtain ⟨T5, h5, k5, X5, e5, E5, A5, EA5, st5⟩ := newPE X0 hx hZ (hw _ (List.mem_of_getElem? (i := 1) rfl)) e0 (g := (mkF m 34 #[.val (.int p1), .val (.int p2), .val (.int p3), .val (.int p4), .val (.int p5), .val (.int pa), .val (.int ra), .val (.int kd), .unset, .unset, .unset] [(.int ln)])) rfl (hb hby at_34) rfl hl1 (cap := 3) hl2 (by decide) (by decide) (by decide) (ad := "[I") (by decide)
  obtain ⟨b5, g5⟩ : ∃ z, z = h0.size := ⟨_, rfl⟩
  rw [← g5] at A5 EA5 st5
  have ge_b5 : n0 ≤ b5 := (Nat.le_trans Z0 (Nat.le_of_eq g5.symm))
  have V5_b5 : Arv Z h5 b5 k5 .int ln [] (.int (0 : Int32)) := Arv.new A5 hl1
  obtain ⟨cl6, Ar6, q6, S6, M6, Hh6, G6⟩ := id V5_b5
  have go7 : ∀ t, Steps p.tables e below (T5.setTop (mkF m 41 #[.val (.int p1), .val (.int p2), .val (.int p3), .val (.int p4), .val (.int p5), .val (.int pa), .val (.int ra), .val (.int kd), .val (.ref b5), .unset, .unset] [(.int ln)])) t → Steps p.tables e below (s₁.setTop (entryFrame m #[(.int p1), (.int p2), (.int p3), (.int p4), (.int p5)] maxLocals)) t := by
    intro t kt
    refine go4 t ?_
    show Steps p.tables e below (s₁.setTop (mkF m 34 #[.val (.int p1), .val (.int p2), .val (.int p3), .val (.int p4), .val (.int p5), .val (.int pa), .val (.int ra), .val (.int kd), .unset, .unset, .unset] [(.int ln)])) _
    refine st5 _ ?_
    show Steps p.tables e below (T5.setTop (mkF m 36 #[.val (.int p1), .val (.int p2), .val (.int p3), .val (.int p4), .val (.int p5), .val (.int pa), .val (.int ra), .val (.int kd), .unset, .unset, .unset] [(.ref b5)])) _
    refine XS.astore X5.here hx rfl (hb hby at_36) rfl rfl (l' := #[.val (.int p1), .val (.int p2), .val (.int p3), .val (.int p4), .val (.int p5), .val (.int pa), .val (.int ra), .val (.int kd), .val (.ref b5), .unset, .unset]) rfl ?_
    show Steps p.tables e below (T5.setTop (mkF m 38 #[.val (.int p1), .val (.int p2), .val (.int p3), .val (.int p4), .val (.int p5), .val (.int pa), .val (.int ra), .val (.int kd), .val (.ref b5), .unset, .unset] [])) _
    refine XS.aload X5.here hx rfl (hb hby at_38) rfl rfl ?_
    show Steps p.tables e below (T5.setTop (mkF m 40 #[.val (.int p1), .val (.int p2), .val (.int p3), .val (.int p4), .val (.int p5), .val (.int pa), .val (.int ra), .val (.int kd), .val (.ref b5), .unset, .unset] [(.ref b5)])) _
    refine X5.arraylength hx (by rw [e5]; exact Ar6.1) (State.isArrayOf_alike hZ.alike Ar6.2.1) (g := (mkF m 40 #[.val (.int p1), .val (.int p2), .val (.int p3), .val (.int p4), .val (.int p5), .val (.int pa), .val (.int ra), .val (.int kd), .val (.ref b5), .unset, .unset] [(.ref b5)])) rfl rfl (hb hby at_40) _ ?_
    rw [len_of S6 M6]
    exact kt
  by_cases hc41 : (0 : Int32) < ln
  · -- pc 41: not taken
    have V8_b5 : Arv Z h5 b5 k5 .int ln [(.int (0 : Int32))] (.int (0 : Int32)) := V5_b5.pad (pad_rep [] (.int (0 : Int32)) 1)
    obtain ⟨cl9, Ar9, q9, S9, M9, Hh9, G9⟩ := id V8_b5
    obtain ⟨T9, h9, X9, e9, W9, st9⟩ := stI X5 hx hZ e5 Ar9 (j := (0 : Int32)) (inb_of S9 ⟨by decide, hc41⟩) (g := (mkF m 49 #[.val (.int p1), .val (.int p2), .val (.int p3), .val (.int p4), .val (.int p5), .val (.int pa), .val (.int ra), .val (.int kd), .val (.ref b5), .unset, .unset] [(.int p5), (.int (0 : Int32)), (.ref b5)])) rfl rfl (hb hby at_49)
    have V9_b5 : Arv Z h9 b5 k5 .int ln [(.int p5)] (.int (0 : Int32)) := Arv.set Ar9 q9 S9 M9 Hh9 G9 rfl W9 0 rfl (Nat.le_of_ble_eq_true rfl)
    have E9_b5 := EA5.wr W9
    have N9 := Fr.snoc X9 N0 ge_b5
    have go10 : ∀ t, Steps p.tables e below (T9.setTop (mkF m 52 #[.val (.int p1), .val (.int p2), .val (.int p3), .val (.int p4), .val (.int p5), .val (.int pa), .val (.int ra), .val (.int kd), .val (.ref b5), .unset, .unset] [(.int kd)])) t → Steps p.tables e below (s₁.setTop (entryFrame m #[(.int p1), (.int p2), (.int p3), (.int p4), (.int p5)] maxLocals)) t := by
      intro t kt
      refine go7 t ?_
      show Steps p.tables e below (T5.setTop (mkF m 41 #[.val (.int p1), .val (.int p2), .val (.int p3), .val (.int p4), .val (.int p5), .val (.int pa), .val (.int ra), .val (.int kd), .val (.ref b5), .unset, .unset] [(.int ln)])) _
      refine XS.ifNo X5.here hx rfl (hb hby at_41) rfl ((if0 _ _).trans (tlt hc41).2.2.2) ?_
      show Steps p.tables e below (T5.setTop (mkF m 44 #[.val (.int p1), .val (.int p2), .val (.int p3), .val (.int p4), .val (.int p5), .val (.int pa), .val (.int ra), .val (.int kd), .val (.ref b5), .unset, .unset] [])) _
      refine XS.aload X5.here hx rfl (hb hby at_44) rfl rfl ?_
      show Steps p.tables e below (T5.setTop (mkF m 46 #[.val (.int p1), .val (.int p2), .val (.int p3), .val (.int p4), .val (.int p5), .val (.int pa), .val (.int ra), .val (.int kd), .val (.ref b5), .unset, .unset] [(.ref b5)])) _
      refine XS.iconst X5.here hx rfl (hb hby at_46) ?_
      show Steps p.tables e below (T5.setTop (mkF m 47 #[.val (.int p1), .val (.int p2), .val (.int p3), .val (.int p4), .val (.int p5), .val (.int pa), .val (.int ra), .val (.int kd), .val (.ref b5), .unset, .unset] [(.int (0 : Int32)), (.ref b5)])) _
      refine XS.iload X5.here hx rfl (hb hby at_47) rfl ?_
      show Steps p.tables e below (T5.setTop (mkF m 49 #[.val (.int p1), .val (.int p2), .val (.int p3), .val (.int p4), .val (.int p5), .val (.int pa), .val (.int ra), .val (.int kd), .val (.ref b5), .unset, .unset] [(.int p5), (.int (0 : Int32)), (.ref b5)])) _
      refine st9 _ ?_
      show Steps p.tables e below (T9.setTop (mkF m 50 #[.val (.int p1), .val (.int p2), .val (.int p3), .val (.int p4), .val (.int p5), .val (.int pa), .val (.int ra), .val (.int kd), .val (.ref b5), .unset, .unset] [])) _
      refine XS.iload X9.here hx rfl (hb hby at_50) rfl ?_
      exact kt
    by_cases hc52 : kd = (0 : Int32)
    · -- pc 52: not taken
      obtain ⟨T11, h11, X11, e11, E11, A11, D11, -, st11⟩ := newO X9 hx hZ hown (hw _ (List.mem_of_getElem? (i := 2) rfl)) (hw _ (List.mem_of_getElem? (i := 3) rfl)) (hw _ (List.mem_of_getElem? (i := 4) rfl)) e9 (g := (mkF m 55 #[.val (.int p1), .val (.int p2), .val (.int p3), .val (.int p4), .val (.int p5), .val (.int pa), .val (.int ra), .val (.int kd), .val (.ref b5), .unset, .unset] [])) rfl (hb hby at_55) (by decide) (by decide)
      obtain ⟨b11, g11⟩ : ∃ z, z = h9.size := ⟨_, rfl⟩
      rw [← g11] at A11 D11 st11
      have ne_b5_b11 : b5 ≠ b11 := Nat.ne_of_lt (Nat.lt_of_lt_of_le E9_b5.lt (Nat.le_of_eq g11.symm))
      have E11_b5 := E9_b5.ext E11
      have ge_b11 : n0 ≤ b11 := (Nat.le_trans (Nat.le_trans (Nat.le_trans Z0 E5.1) (Keep.of_wr W9).1) (Nat.le_of_eq g11.symm))
      have F11_b11_partner : Fld Z h11 b11 "com/example/racewitness/racewitness/analysis/Race" "partner" "I" (.int (0 : Int32)) := D11 (Or.inr (hw _ (List.mem_of_getElem? (i := 15) rfl))) (ty := .int) (by decide)
      have F11_b11_racyEvent : Fld Z h11 b11 "com/example/racewitness/racewitness/analysis/Race" "racyEvent" "I" (.int (0 : Int32)) := D11 (Or.inr (hw _ (List.mem_of_getElem? (i := 17) rfl))) (ty := .int) (by decide)
      have F11_b11_lastScheduled : Fld Z h11 b11 "com/example/racewitness/racewitness/analysis/Race" "lastScheduled" "[I" .null := D11 (Or.inr (hw _ (List.mem_of_getElem? (i := 19) rfl))) (ty := (.array .int)) (by decide)
      have F11_b11_schedule : Fld Z h11 b11 "com/example/racewitness/racewitness/analysis/Race" "schedule" "[I" .null := D11 (Or.inr (hw _ (List.mem_of_getElem? (i := 21) rfl))) (ty := (.array .int)) (by decide)
      have F11_b11_prefixWitness : Fld Z h11 b11 "com/example/racewitness/racewitness/analysis/Race" "prefixWitness" "Lcom/example/racewitness/racewitness/analysis/Race$PrefixWitness;" .null := D11 (Or.inr (hw _ (List.mem_of_getElem? (i := 23) rfl))) (ty := (.object "com/example/racewitness/racewitness/analysis/Race$PrefixWitness")) (by decide)
      obtain ⟨_, _, ⟨T12, L12, k12, n12⟩, -, X12, ⟨Lc12, hQ12, l12, y12, z12⟩, st12⟩ := X11.specialBack hx (y := (⟨"com/example/racewitness/racewitness/analysis/Race", "<init>", "(II)V"⟩ : MethodName)) rfl hown (mvT hZ (hw _ (List.mem_of_getElem? (i := 57) rfl))) (mvT hZ (hw _ (List.mem_of_getElem? (i := 58) rfl))) (mvT hZ (hw _ (List.mem_of_getElem? (i := 59) rfl))) (by decide) (backOf (W := 1) (rm9 l Z a0 hw [] b11 pa ra h11 n0 (Nat.le_trans (Nat.le_trans (Nat.le_trans Z0 E5.1) (Keep.of_wr W9).1) E11.1) ge_b11 A11 F11_b11_partner F11_b11_racyEvent F11_b11_lastScheduled F11_b11_schedule F11_b11_prefixWitness hra.1 hra.2) hZ (hw _ (List.mem_of_getElem? (i := 59) rfl)) (hw _ (List.mem_of_getElem? (i := 4) rfl)) (by decide) (by decide)) (g := (mkF m 63 #[.val (.int p1), .val (.int p2), .val (.int p3), .val (.int p4), .val (.int p5), .val (.int pa), .val (.int ra), .val (.int kd), .val (.ref b5), .unset, .unset] [(.int ra), (.int pa), (.ref b11), (.ref b11)])) rfl (by rw [hml]; rfl) (Steps.refl _) (a := b11) (argsL := [(.int pa), (.int ra)]) (rest := [(.ref b11)]) (lenOf pd_3 rfl) rfl (by show 2 * 0 + _ ≤ _; exact Nat.le_of_eq rfl) (hb hby at_63) (fun _ _ => ⟨rfl, e11, (by decide : 2 + 0 ≤ _), (by decide : 8 + 0 ≤ _)⟩)
      dsimp only [Pt.U, Pt.locs, Pt.cells, Pt.slots] at X12 l12 y12 z12 st12 hQ12
      subst l12 y12 z12
      obtain ⟨rfl, N12q, K12c, F12_partner, F12_racyEvent, F12_lastScheduled, F12_schedule, F12_prefixWitness⟩ := hQ12
      have N12 := Fr.app N9 N12q
      have E12_b5 := E11_b5.keep K12c
      have E12_b11 := A11.keep K12c
      obtain ⟨cq13, kq13, q13a, q13b, q13c⟩ := isOf hZ rfl E12_b11
      obtain ⟨_, _, ⟨T13, L13, k13, n13⟩, -, X13, ⟨Lc13, hQ13, l13, y13, z13⟩, st13⟩ := X12.virtualBack hx (y := (⟨"com/example/racewitness/racewitness/analysis/Race", "hasWitness", "()Z"⟩ : MethodName)) (z := (⟨"com/example/racewitness/racewitness/analysis/Race", "hasWitness", "()Z"⟩ : MethodName)) hown (mvT hZ (hw _ (List.mem_of_getElem? (i := 24) rfl))) (mvT hZ (hw _ (List.mem_of_getElem? (i := 25) rfl))) (notFace_of_selects (args := #[]) (mvT hZ (hw _ (List.mem_of_getElem? (i := 27) rfl)))) (mvT hZ (hw _ (List.mem_of_getElem? (i := 27) rfl))) (mvT hZ (hw _ (List.mem_of_getElem? (i := 26) rfl))) (by decide) (backOf (W := 0) (rm4b l Z a0 hw [] b11 pa ra T12.heap n0 (Nat.le_trans (Nat.le_trans (Nat.le_trans (Nat.le_trans Z0 E5.1) (Keep.of_wr W9).1) E11.1) K12c.1) F12_partner F12_racyEvent F12_lastScheduled F12_schedule F12_prefixWitness) hZ (hw _ (List.mem_of_getElem? (i := 28) rfl)) (hw _ (List.mem_of_getElem? (i := 4) rfl)) (by decide) (by decide)) q13a q13c (g := (mkF m 146 #[.val (.int p1), .val (.int p2), .val (.int p3), .val (.int p4), .val (.int p5), .val (.int pa), .val (.int ra), .val (.int kd), .val (.ref b5), .val (.ref b11), .val (.int (0 : Int32))] [(.ref b11)])) rfl (by rw [hml]; rfl) (Steps.refl _) (argsL := []) (rest := []) (lenOf pd_4 rfl) rfl (by show 2 * 0 + _ ≤ _; exact Nat.le_of_eq rfl) (hb hby at_146) (fun _ _ => ⟨rfl, rfl, (by decide : 2 + 0 ≤ _), (by decide : 8 + 0 ≤ _)⟩)
      dsimp only [Pt.U, Pt.locs, Pt.cells, Pt.slots] at X13 l13 y13 z13 st13 hQ13
      subst l13 y13 z13
      obtain ⟨rfl, N13q, eh13⟩ := hQ13
      have N13 := Fr.app N12 N13q
      obtain ⟨cq14, kq14, q14a, q14b, q14c⟩ := isOf hZ eh13 E12_b11
      obtain ⟨_, _, ⟨T14, L14, k14, n14⟩, -, X14, ⟨Lc14, hQ14, l14, y14, z14⟩, st14⟩ := X13.virtualBack hx (y := (⟨"com/example/racewitness/racewitness/analysis/Race", "partner", "()I"⟩ : MethodName)) (z := (⟨"com/example/racewitness/racewitness/analysis/Race", "partner", "()I"⟩ : MethodName)) hown (mvT hZ (hw _ (List.mem_of_getElem? (i := 29) rfl))) (mvT hZ (hw _ (List.mem_of_getElem? (i := 30) rfl))) (notFace_of_selects (args := #[]) (mvT hZ (hw _ (List.mem_of_getElem? (i := 32) rfl)))) (mvT hZ (hw _ (List.mem_of_getElem? (i := 32) rfl))) (mvT hZ (hw _ (List.mem_of_getElem? (i := 31) rfl))) (by decide) (backOf (W := 0) (rm5 l Z a0 hw [] b11 pa T12.heap n0 (Nat.le_trans (Nat.le_trans (Nat.le_trans (Nat.le_trans Z0 E5.1) (Keep.of_wr W9).1) E11.1) K12c.1) F12_partner) hZ (hw _ (List.mem_of_getElem? (i := 33) rfl)) (hw _ (List.mem_of_getElem? (i := 4) rfl)) (by decide) (by decide)) q14a q14c (g := (mkF m 156 #[.val (.int p1), .val (.int p2), .val (.int p3), .val (.int p4), .val (.int p5), .val (.int pa), .val (.int ra), .val (.int kd), .val (.ref b5), .val (.ref b11), .val (.int (0 : Int32))] [(.ref b11)])) rfl (by rw [hml]; rfl) (Steps.refl _) (argsL := []) (rest := []) (lenOf pd_5 rfl) rfl (by show 2 * 0 + _ ≤ _; exact Nat.le_of_eq rfl) (hb hby at_156) (fun _ _ => ⟨rfl, eh13, (by decide : 2 + 0 ≤ _), (by decide : 8 + 0 ≤ _)⟩)
      dsimp only [Pt.U, Pt.locs, Pt.cells, Pt.slots] at X14 l14 y14 z14 st14 hQ14
      subst l14 y14 z14
      obtain ⟨rfl, N14q, eh14⟩ := hQ14
      have N14 := Fr.app N13 N14q
      obtain ⟨cq15, kq15, q15a, q15b, q15c⟩ := isOf hZ eh14 E12_b11
      obtain ⟨_, _, ⟨T15, L15, k15, n15⟩, -, X15, ⟨Lc15, hQ15, l15, y15, z15⟩, st15⟩ := X14.virtualBack hx (y := (⟨"com/example/racewitness/racewitness/analysis/Race", "racyEvent", "()I"⟩ : MethodName)) (z := (⟨"com/example/racewitness/racewitness/analysis/Race", "racyEvent", "()I"⟩ : MethodName)) hown (mvT hZ (hw _ (List.mem_of_getElem? (i := 34) rfl))) (mvT hZ (hw _ (List.mem_of_getElem? (i := 35) rfl))) (notFace_of_selects (args := #[]) (mvT hZ (hw _ (List.mem_of_getElem? (i := 37) rfl)))) (mvT hZ (hw _ (List.mem_of_getElem? (i := 37) rfl))) (mvT hZ (hw _ (List.mem_of_getElem? (i := 36) rfl))) (by decide) (backOf (W := 0) (rm6 l Z a0 hw [] b11 ra T12.heap n0 (Nat.le_trans (Nat.le_trans (Nat.le_trans (Nat.le_trans Z0 E5.1) (Keep.of_wr W9).1) E11.1) K12c.1) F12_racyEvent) hZ (hw _ (List.mem_of_getElem? (i := 38) rfl)) (hw _ (List.mem_of_getElem? (i := 4) rfl)) (by decide) (by decide)) q15a q15c (g := (mkF m 166 #[.val (.int p1), .val (.int p2), .val (.int p3), .val (.int p4), .val (.int p5), .val (.int pa), .val (.int ra), .val (.int kd), .val (.ref b5), .val (.ref b11), .val (.int (0 : Int32))] [(.ref b11)])) rfl (by rw [hml]; rfl) (Steps.refl _) (argsL := []) (rest := []) (lenOf pd_5 rfl) rfl (by show 2 * 0 + _ ≤ _; exact Nat.le_of_eq rfl) (hb hby at_166) (fun _ _ => ⟨rfl, eh14, (by decide : 2 + 0 ≤ _), (by decide : 8 + 0 ≤ _)⟩)
      dsimp only [Pt.U, Pt.locs, Pt.cells, Pt.slots] at X15 l15 y15 z15 st15 hQ15
      subst l15 y15 z15
      obtain ⟨rfl, N15q, eh15⟩ := hQ15
      have N15 := Fr.app N14 N15q
      obtain ⟨fs, hr, hrun, hended, hRW⟩ := X15.leaveW hS0 (by rw [eh15]; exact (Nat.le_trans (Nat.le_trans (Nat.le_trans (Nat.le_trans (Nat.zero_le _) E5.1) (Keep.of_wr W9).1) E11.1) K12c.1)) (v := some (.int (1 : Int32))) (fun h => by rw [Bd.returns] at h; cases h)
      refine ⟨_, _, go10 _ ?_, hrun, hended, _, _, rfl, ?_, ⟨hRW.1, hRW.2.1, hRW.2.2.1, hRW.2.2.2.mono (by decide) (by decide)⟩⟩
      · show Steps p.tables e below (T9.setTop (mkF m 52 #[.val (.int p1), .val (.int p2), .val (.int p3), .val (.int p4), .val (.int p5), .val (.int pa), .val (.int ra), .val (.int kd), .val (.ref b5), .unset, .unset] [(.int kd)])) _
        refine XS.ifNo X9.here hx rfl (hb hby at_52) rfl ((if0 _ _).trans (teq hc52).2) ?_
        show Steps p.tables e below (T9.setTop (mkF m 55 #[.val (.int p1), .val (.int p2), .val (.int p3), .val (.int p4), .val (.int p5), .val (.int pa), .val (.int ra), .val (.int kd), .val (.ref b5), .unset, .unset] [])) _
        refine st11 _ ?_
        show Steps p.tables e below (T11.setTop (mkF m 58 #[.val (.int p1), .val (.int p2), .val (.int p3), .val (.int p4), .val (.int p5), .val (.int pa), .val (.int ra), .val (.int kd), .val (.ref b5), .unset, .unset] [(.ref b11)])) _
        refine XS.dup X11.here hx rfl (hb hby at_58) rfl rfl ?_
        show Steps p.tables e below (T11.setTop (mkF m 59 #[.val (.int p1), .val (.int p2), .val (.int p3), .val (.int p4), .val (.int p5), .val (.int pa), .val (.int ra), .val (.int kd), .val (.ref b5), .unset, .unset] [(.ref b11), (.ref b11)])) _
        refine XS.iload X11.here hx rfl (hb hby at_59) rfl ?_
        show Steps p.tables e below (T11.setTop (mkF m 61 #[.val (.int p1), .val (.int p2), .val (.int p3), .val (.int p4), .val (.int p5), .val (.int pa), .val (.int ra), .val (.int kd), .val (.ref b5), .unset, .unset] [(.int pa), (.ref b11), (.ref b11)])) _
        refine XS.iload X11.here hx rfl (hb hby at_61) rfl ?_
        show Steps p.tables e below (T11.setTop (mkF m 63 #[.val (.int p1), .val (.int p2), .val (.int p3), .val (.int p4), .val (.int p5), .val (.int pa), .val (.int ra), .val (.int kd), .val (.ref b5), .unset, .unset] [(.int ra), (.int pa), (.ref b11), (.ref b11)])) _
        refine st12.trans ?_
        show Steps p.tables e below (T12.setTop (mkF m 66 #[.val (.int p1), .val (.int p2), .val (.int p3), .val (.int p4), .val (.int p5), .val (.int pa), .val (.int ra), .val (.int kd), .val (.ref b5), .unset, .unset] [(.ref b11)])) _
        refine XS.astore X12.here hx rfl (hb hby at_66) rfl rfl (l' := #[.val (.int p1), .val (.int p2), .val (.int p3), .val (.int p4), .val (.int p5), .val (.int pa), .val (.int ra), .val (.int kd), .val (.ref b5), .val (.ref b11), .unset]) rfl ?_
        show Steps p.tables e below (T12.setTop (mkF m 68 #[.val (.int p1), .val (.int p2), .val (.int p3), .val (.int p4), .val (.int p5), .val (.int pa), .val (.int ra), .val (.int kd), .val (.ref b5), .val (.ref b11), .unset] [])) _
        refine XS.iconst X12.here hx rfl (hb hby at_68) ?_
        show Steps p.tables e below (T12.setTop (mkF m 69 #[.val (.int p1), .val (.int p2), .val (.int p3), .val (.int p4), .val (.int p5), .val (.int pa), .val (.int ra), .val (.int kd), .val (.ref b5), .val (.ref b11), .unset] [(.int (0 : Int32))])) _
        refine XS.istore X12.here hx rfl (hb hby at_69) rfl (l' := #[.val (.int p1), .val (.int p2), .val (.int p3), .val (.int p4), .val (.int p5), .val (.int pa), .val (.int ra), .val (.int kd), .val (.ref b5), .val (.ref b11), .val (.int (0 : Int32))]) rfl ?_
        show Steps p.tables e below (T12.setTop (mkF m 71 #[.val (.int p1), .val (.int p2), .val (.int p3), .val (.int p4), .val (.int p5), .val (.int pa), .val (.int ra), .val (.int kd), .val (.ref b5), .val (.ref b11), .val (.int (0 : Int32))] [])) _
        refine XS.goto X12.here hx rfl (pc0 := 71) (pc' := 144) rfl (hb hby at_71) (by decide) (by decide) ?_
        show Steps p.tables e below (T12.setTop (mkF m 144 #[.val (.int p1), .val (.int p2), .val (.int p3), .val (.int p4), .val (.int p5), .val (.int pa), .val (.int ra), .val (.int kd), .val (.ref b5), .val (.ref b11), .val (.int (0 : Int32))] [])) _
        refine XS.aload X12.here hx rfl (hb hby at_144) rfl rfl ?_
        show Steps p.tables e below (T12.setTop (mkF m 146 #[.val (.int p1), .val (.int p2), .val (.int p3), .val (.int p4), .val (.int p5), .val (.int pa), .val (.int ra), .val (.int kd), .val (.ref b5), .val (.ref b11), .val (.int (0 : Int32))] [(.ref b11)])) _
        refine st13.trans ?_
        show Steps p.tables e below (T13.setTop (mkF m 149 #[.val (.int p1), .val (.int p2), .val (.int p3), .val (.int p4), .val (.int p5), .val (.int pa), .val (.int ra), .val (.int kd), .val (.ref b5), .val (.ref b11), .val (.int (0 : Int32))] [(.int (0 : Int32))])) _
        refine XS.iload X13.here hx rfl (hb hby at_149) rfl ?_
        show Steps p.tables e below (T13.setTop (mkF m 151 #[.val (.int p1), .val (.int p2), .val (.int p3), .val (.int p4), .val (.int p5), .val (.int pa), .val (.int ra), .val (.int kd), .val (.ref b5), .val (.ref b11), .val (.int (0 : Int32))] [(.int (0 : Int32)), (.int (0 : Int32))])) _
        refine XS.icmpNo X13.here hx rfl (hb hby at_151) rfl (teq rfl).2 ?_
        show Steps p.tables e below (T13.setTop (mkF m 154 #[.val (.int p1), .val (.int p2), .val (.int p3), .val (.int p4), .val (.int p5), .val (.int pa), .val (.int ra), .val (.int kd), .val (.ref b5), .val (.ref b11), .val (.int (0 : Int32))] [])) _
        refine XS.aload X13.here hx rfl (hb hby at_154) rfl rfl ?_
        show Steps p.tables e below (T13.setTop (mkF m 156 #[.val (.int p1), .val (.int p2), .val (.int p3), .val (.int p4), .val (.int p5), .val (.int pa), .val (.int ra), .val (.int kd), .val (.ref b5), .val (.ref b11), .val (.int (0 : Int32))] [(.ref b11)])) _
        refine st14.trans ?_
        show Steps p.tables e below (T14.setTop (mkF m 159 #[.val (.int p1), .val (.int p2), .val (.int p3), .val (.int p4), .val (.int p5), .val (.int pa), .val (.int ra), .val (.int kd), .val (.ref b5), .val (.ref b11), .val (.int (0 : Int32))] [(.int pa)])) _
        refine XS.iload X14.here hx rfl (hb hby at_159) rfl ?_
        show Steps p.tables e below (T14.setTop (mkF m 161 #[.val (.int p1), .val (.int p2), .val (.int p3), .val (.int p4), .val (.int p5), .val (.int pa), .val (.int ra), .val (.int kd), .val (.ref b5), .val (.ref b11), .val (.int (0 : Int32))] [(.int pa), (.int pa)])) _
        refine XS.icmpNo X14.here hx rfl (hb hby at_161) rfl (teq rfl).2 ?_
        show Steps p.tables e below (T14.setTop (mkF m 164 #[.val (.int p1), .val (.int p2), .val (.int p3), .val (.int p4), .val (.int p5), .val (.int pa), .val (.int ra), .val (.int kd), .val (.ref b5), .val (.ref b11), .val (.int (0 : Int32))] [])) _
        refine XS.aload X14.here hx rfl (hb hby at_164) rfl rfl ?_
        show Steps p.tables e below (T14.setTop (mkF m 166 #[.val (.int p1), .val (.int p2), .val (.int p3), .val (.int p4), .val (.int p5), .val (.int pa), .val (.int ra), .val (.int kd), .val (.ref b5), .val (.ref b11), .val (.int (0 : Int32))] [(.ref b11)])) _
        refine st15.trans ?_
        show Steps p.tables e below (T15.setTop (mkF m 169 #[.val (.int p1), .val (.int p2), .val (.int p3), .val (.int p4), .val (.int p5), .val (.int pa), .val (.int ra), .val (.int kd), .val (.ref b5), .val (.ref b11), .val (.int (0 : Int32))] [(.int ra)])) _
        refine XS.iload X15.here hx rfl (hb hby at_169) rfl ?_
        show Steps p.tables e below (T15.setTop (mkF m 171 #[.val (.int p1), .val (.int p2), .val (.int p3), .val (.int p4), .val (.int p5), .val (.int pa), .val (.int ra), .val (.int kd), .val (.ref b5), .val (.ref b11), .val (.int (0 : Int32))] [(.int ra), (.int ra)])) _
        refine XS.icmpNo X15.here hx rfl (hb hby at_171) rfl (teq rfl).2 ?_
        show Steps p.tables e below (T15.setTop (mkF m 174 #[.val (.int p1), .val (.int p2), .val (.int p3), .val (.int p4), .val (.int p5), .val (.int pa), .val (.int ra), .val (.int kd), .val (.ref b5), .val (.ref b11), .val (.int (0 : Int32))] [])) _
        refine XS.iconst X15.here hx rfl (hb hby at_174) ?_
        show Steps p.tables e below (T15.setTop (mkF m 175 #[.val (.int p1), .val (.int p2), .val (.int p3), .val (.int p4), .val (.int p5), .val (.int pa), .val (.int ra), .val (.int kd), .val (.ref b5), .val (.ref b11), .val (.int (0 : Int32))] [(.int (1 : Int32))])) _
        refine XS.goto X15.here hx rfl (pc0 := 175) (pc' := 179) rfl (hb hby at_175) (by decide) (by decide) ?_
        show Steps p.tables e below (T15.setTop (mkF m 179 #[.val (.int p1), .val (.int p2), .val (.int p3), .val (.int p4), .val (.int p5), .val (.int pa), .val (.int ra), .val (.int kd), .val (.ref b5), .val (.ref b11), .val (.int (0 : Int32))] [(.int (1 : Int32))])) _
        exact retN X15 hx (t := .boolean) Bd.returns (by simp) (hb hby at_179) hr
      · show Q0 Z p1 p2 p3 p4 p5 h0 n0 _ T15.heap _
        rw [eh15]
        exact ⟨rfl, N15⟩
    · -- pc 52: taken
      have go16 : ∀ t, Steps p.tables e below (T9.setTop (mkF m 77 #[.val (.int p1), .val (.int p2), .val (.int p3), .val (.int p4), .val (.int p5), .val (.int pa), .val (.int ra), .val (.int kd), .val (.ref b5), .unset, .unset] [(.int (1 : Int32)), (.int kd)])) t → Steps p.tables e below (s₁.setTop (entryFrame m #[(.int p1), (.int p2), (.int p3), (.int p4), (.int p5)] maxLocals)) t := by
        intro t kt
        refine go10 t ?_
        show Steps p.tables e below (T9.setTop (mkF m 52 #[.val (.int p1), .val (.int p2), .val (.int p3), .val (.int p4), .val (.int p5), .val (.int pa), .val (.int ra), .val (.int kd), .val (.ref b5), .unset, .unset] [(.int kd)])) _
        refine XS.ifYes X9.here hx rfl (pc0 := 52) (pc' := 74) rfl (hb hby at_52) rfl ((if0 _ _).trans (feq hc52).2) (by decide) (by decide) ?_
        show Steps p.tables e below (T9.setTop (mkF m 74 #[.val (.int p1), .val (.int p2), .val (.int p3), .val (.int p4), .val (.int p5), .val (.int pa), .val (.int ra), .val (.int kd), .val (.ref b5), .unset, .unset] [])) _
        refine XS.iload X9.here hx rfl (hb hby at_74) rfl ?_
        show Steps p.tables e below (T9.setTop (mkF m 76 #[.val (.int p1), .val (.int p2), .val (.int p3), .val (.int p4), .val (.int p5), .val (.int pa), .val (.int ra), .val (.int kd), .val (.ref b5), .unset, .unset] [(.int kd)])) _
        refine XS.iconst X9.here hx rfl (hb hby at_76) ?_
        exact kt
      by_cases hc77 : kd = (1 : Int32)
      · -- pc 77: not taken
        obtain ⟨T17, h17, X17, e17, E17, A17, D17, -, st17⟩ := newO X9 hx hZ hown (hw _ (List.mem_of_getElem? (i := 2) rfl)) (hw _ (List.mem_of_getElem? (i := 3) rfl)) (hw _ (List.mem_of_getElem? (i := 4) rfl)) e9 (g := (mkF m 80 #[.val (.int p1), .val (.int p2), .val (.int p3), .val (.int p4), .val (.int p5), .val (.int pa), .val (.int ra), .val (.int kd), .val (.ref b5), .unset, .unset] [])) rfl (hb hby at_80) (by decide) (by decide)
        obtain ⟨b17, g17⟩ : ∃ z, z = h9.size := ⟨_, rfl⟩
        rw [← g17] at A17 D17 st17
        have ne_b5_b17 : b5 ≠ b17 := Nat.ne_of_lt (Nat.lt_of_lt_of_le E9_b5.lt (Nat.le_of_eq g17.symm))
        have E17_b5 := E9_b5.ext E17
        have ge_b17 : n0 ≤ b17 := (Nat.le_trans (Nat.le_trans (Nat.le_trans Z0 E5.1) (Keep.of_wr W9).1) (Nat.le_of_eq g17.symm))
        have F17_b17_partner : Fld Z h17 b17 "com/example/racewitness/racewitness/analysis/Race" "partner" "I" (.int (0 : Int32)) := D17 (Or.inr (hw _ (List.mem_of_getElem? (i := 15) rfl))) (ty := .int) (by decide)
        have F17_b17_racyEvent : Fld Z h17 b17 "com/example/racewitness/racewitness/analysis/Race" "racyEvent" "I" (.int (0 : Int32)) := D17 (Or.inr (hw _ (List.mem_of_getElem? (i := 17) rfl))) (ty := .int) (by decide)
        have F17_b17_lastScheduled : Fld Z h17 b17 "com/example/racewitness/racewitness/analysis/Race" "lastScheduled" "[I" .null := D17 (Or.inr (hw _ (List.mem_of_getElem? (i := 19) rfl))) (ty := (.array .int)) (by decide)
        have F17_b17_schedule : Fld Z h17 b17 "com/example/racewitness/racewitness/analysis/Race" "schedule" "[I" .null := D17 (Or.inr (hw _ (List.mem_of_getElem? (i := 21) rfl))) (ty := (.array .int)) (by decide)
        have F17_b17_prefixWitness : Fld Z h17 b17 "com/example/racewitness/racewitness/analysis/Race" "prefixWitness" "Lcom/example/racewitness/racewitness/analysis/Race$PrefixWitness;" .null := D17 (Or.inr (hw _ (List.mem_of_getElem? (i := 23) rfl))) (ty := (.object "com/example/racewitness/racewitness/analysis/Race$PrefixWitness")) (by decide)
        obtain ⟨_, _, ⟨T18, L18, k18, n18⟩, -, X18, ⟨Lc18, hQ18, l18, y18, z18⟩, st18⟩ := X17.specialBack hx (y := (⟨"com/example/racewitness/racewitness/analysis/Race", "<init>", "(II[I)V"⟩ : MethodName)) rfl hown (mvT hZ (hw _ (List.mem_of_getElem? (i := 5) rfl))) (mvT hZ (hw _ (List.mem_of_getElem? (i := 6) rfl))) (mvT hZ (hw _ (List.mem_of_getElem? (i := 7) rfl))) (by decide) (backOf (W := 1) (rm1b l Z a0 hw [] b17 pa ra h17 n0 (Nat.le_trans (Nat.le_trans (Nat.le_trans Z0 E5.1) (Keep.of_wr W9).1) E17.1) ge_b17 A17 F17_b17_partner F17_b17_racyEvent F17_b17_lastScheduled F17_b17_schedule F17_b17_prefixWitness hra.1 hra.2) hZ (hw _ (List.mem_of_getElem? (i := 7) rfl)) (hw _ (List.mem_of_getElem? (i := 4) rfl)) (by decide) (by decide)) (g := (mkF m 92 #[.val (.int p1), .val (.int p2), .val (.int p3), .val (.int p4), .val (.int p5), .val (.int pa), .val (.int ra), .val (.int kd), .val (.ref b5), .unset, .unset] [.null, (.int ra), (.int pa), (.ref b17), (.ref b17)])) rfl (by rw [hml]; rfl) (Steps.refl _) (a := b17) (argsL := [(.int pa), (.int ra), .null]) (rest := [(.ref b17)]) (lenOf pd_1 rfl) rfl (by show 2 * 0 + _ ≤ _; exact Nat.le_of_eq rfl) (hb hby at_92) (fun _ _ => ⟨rfl, e17, (by decide : 2 + 0 ≤ _), (by decide : 8 + 0 ≤ _)⟩)
        dsimp only [Pt.U, Pt.locs, Pt.cells, Pt.slots] at X18 l18 y18 z18 st18 hQ18
        subst l18 y18 z18
        obtain ⟨rfl, N18q, K18c, F18_partner, F18_racyEvent, F18_lastScheduled, F18_schedule, F18_prefixWitness⟩ := hQ18
        have N18 := Fr.app N9 N18q
        have E18_b5 := E17_b5.keep K18c
        have E18_b17 := A17.keep K18c
        obtain ⟨cq19, kq19, q19a, q19b, q19c⟩ := isOf hZ rfl E18_b17
        obtain ⟨_, _, ⟨T19, L19, k19, n19⟩, -, X19, ⟨Lc19, hQ19, l19, y19, z19⟩, st19⟩ := X18.virtualBack hx (y := (⟨"com/example/racewitness/racewitness/analysis/Race", "hasWitness", "()Z"⟩ : MethodName)) (z := (⟨"com/example/racewitness/racewitness/analysis/Race", "hasWitness", "()Z"⟩ : MethodName)) hown (mvT hZ (hw _ (List.mem_of_getElem? (i := 24) rfl))) (mvT hZ (hw _ (List.mem_of_getElem? (i := 25) rfl))) (notFace_of_selects (args := #[]) (mvT hZ (hw _ (List.mem_of_getElem? (i := 27) rfl)))) (mvT hZ (hw _ (List.mem_of_getElem? (i := 27) rfl))) (mvT hZ (hw _ (List.mem_of_getElem? (i := 26) rfl))) (by decide) (backOf (W := 0) (rm4b l Z a0 hw [] b17 pa ra T18.heap n0 (Nat.le_trans (Nat.le_trans (Nat.le_trans (Nat.le_trans Z0 E5.1) (Keep.of_wr W9).1) E17.1) K18c.1) F18_partner F18_racyEvent F18_lastScheduled F18_schedule F18_prefixWitness) hZ (hw _ (List.mem_of_getElem? (i := 28) rfl)) (hw _ (List.mem_of_getElem? (i := 4) rfl)) (by decide) (by decide)) q19a q19c (g := (mkF m 146 #[.val (.int p1), .val (.int p2), .val (.int p3), .val (.int p4), .val (.int p5), .val (.int pa), .val (.int ra), .val (.int kd), .val (.ref b5), .val (.ref b17), .val (.int (0 : Int32))] [(.ref b17)])) rfl (by rw [hml]; rfl) (Steps.refl _) (argsL := []) (rest := []) (lenOf pd_4 rfl) rfl (by show 2 * 0 + _ ≤ _; exact Nat.le_of_eq rfl) (hb hby at_146) (fun _ _ => ⟨rfl, rfl, (by decide : 2 + 0 ≤ _), (by decide : 8 + 0 ≤ _)⟩)
        dsimp only [Pt.U, Pt.locs, Pt.cells, Pt.slots] at X19 l19 y19 z19 st19 hQ19
        subst l19 y19 z19
        obtain ⟨rfl, N19q, eh19⟩ := hQ19
        have N19 := Fr.app N18 N19q
        obtain ⟨cq20, kq20, q20a, q20b, q20c⟩ := isOf hZ eh19 E18_b17
        obtain ⟨_, _, ⟨T20, L20, k20, n20⟩, -, X20, ⟨Lc20, hQ20, l20, y20, z20⟩, st20⟩ := X19.virtualBack hx (y := (⟨"com/example/racewitness/racewitness/analysis/Race", "partner", "()I"⟩ : MethodName)) (z := (⟨"com/example/racewitness/racewitness/analysis/Race", "partner", "()I"⟩ : MethodName)) hown (mvT hZ (hw _ (List.mem_of_getElem? (i := 29) rfl))) (mvT hZ (hw _ (List.mem_of_getElem? (i := 30) rfl))) (notFace_of_selects (args := #[]) (mvT hZ (hw _ (List.mem_of_getElem? (i := 32) rfl)))) (mvT hZ (hw _ (List.mem_of_getElem? (i := 32) rfl))) (mvT hZ (hw _ (List.mem_of_getElem? (i := 31) rfl))) (by decide) (backOf (W := 0) (rm5 l Z a0 hw [] b17 pa T18.heap n0 (Nat.le_trans (Nat.le_trans (Nat.le_trans (Nat.le_trans Z0 E5.1) (Keep.of_wr W9).1) E17.1) K18c.1) F18_partner) hZ (hw _ (List.mem_of_getElem? (i := 33) rfl)) (hw _ (List.mem_of_getElem? (i := 4) rfl)) (by decide) (by decide)) q20a q20c (g := (mkF m 156 #[.val (.int p1), .val (.int p2), .val (.int p3), .val (.int p4), .val (.int p5), .val (.int pa), .val (.int ra), .val (.int kd), .val (.ref b5), .val (.ref b17), .val (.int (0 : Int32))] [(.ref b17)])) rfl (by rw [hml]; rfl) (Steps.refl _) (argsL := []) (rest := []) (lenOf pd_5 rfl) rfl (by show 2 * 0 + _ ≤ _; exact Nat.le_of_eq rfl) (hb hby at_156) (fun _ _ => ⟨rfl, eh19, (by decide : 2 + 0 ≤ _), (by decide : 8 + 0 ≤ _)⟩)
        dsimp only [Pt.U, Pt.locs, Pt.cells, Pt.slots] at X20 l20 y20 z20 st20 hQ20
        subst l20 y20 z20
        obtain ⟨rfl, N20q, eh20⟩ := hQ20
        have N20 := Fr.app N19 N20q
        obtain ⟨cq21, kq21, q21a, q21b, q21c⟩ := isOf hZ eh20 E18_b17
        obtain ⟨_, _, ⟨T21, L21, k21, n21⟩, -, X21, ⟨Lc21, hQ21, l21, y21, z21⟩, st21⟩ := X20.virtualBack hx (y := (⟨"com/example/racewitness/racewitness/analysis/Race", "racyEvent", "()I"⟩ : MethodName)) (z := (⟨"com/example/racewitness/racewitness/analysis/Race", "racyEvent", "()I"⟩ : MethodName)) hown (mvT hZ (hw _ (List.mem_of_getElem? (i := 34) rfl))) (mvT hZ (hw _ (List.mem_of_getElem? (i := 35) rfl))) (notFace_of_selects (args := #[]) (mvT hZ (hw _ (List.mem_of_getElem? (i := 37) rfl)))) (mvT hZ (hw _ (List.mem_of_getElem? (i := 37) rfl))) (mvT hZ (hw _ (List.mem_of_getElem? (i := 36) rfl))) (by decide) (backOf (W := 0) (rm6 l Z a0 hw [] b17 ra T18.heap n0 (Nat.le_trans (Nat.le_trans (Nat.le_trans (Nat.le_trans Z0 E5.1) (Keep.of_wr W9).1) E17.1) K18c.1) F18_racyEvent) hZ (hw _ (List.mem_of_getElem? (i := 38) rfl)) (hw _ (List.mem_of_getElem? (i := 4) rfl)) (by decide) (by decide)) q21a q21c (g := (mkF m 166 #[.val (.int p1), .val (.int p2), .val (.int p3), .val (.int p4), .val (.int p5), .val (.int pa), .val (.int ra), .val (.int kd), .val (.ref b5), .val (.ref b17), .val (.int (0 : Int32))] [(.ref b17)])) rfl (by rw [hml]; rfl) (Steps.refl _) (argsL := []) (rest := []) (lenOf pd_5 rfl) rfl (by show 2 * 0 + _ ≤ _; exact Nat.le_of_eq rfl) (hb hby at_166) (fun _ _ => ⟨rfl, eh20, (by decide : 2 + 0 ≤ _), (by decide : 8 + 0 ≤ _)⟩)
        dsimp only [Pt.U, Pt.locs, Pt.cells, Pt.slots] at X21 l21 y21 z21 st21 hQ21
        subst l21 y21 z21
        obtain ⟨rfl, N21q, eh21⟩ := hQ21
        have N21 := Fr.app N20 N21q
        obtain ⟨fs, hr, hrun, hended, hRW⟩ := X21.leaveW hS0 (by rw [eh21]; exact (Nat.le_trans (Nat.le_trans (Nat.le_trans (Nat.le_trans (Nat.zero_le _) E5.1) (Keep.of_wr W9).1) E17.1) K18c.1)) (v := some (.int (1 : Int32))) (fun h => by rw [Bd.returns] at h; cases h)
        refine ⟨_, _, go16 _ ?_, hrun, hended, _, _, rfl, ?_, ⟨hRW.1, hRW.2.1, hRW.2.2.1, hRW.2.2.2.mono (by decide) (by decide)⟩⟩
        · show Steps p.tables e below (T9.setTop (mkF m 77 #[.val (.int p1), .val (.int p2), .val (.int p3), .val (.int p4), .val (.int p5), .val (.int pa), .val (.int ra), .val (.int kd), .val (.ref b5), .unset, .unset] [(.int (1 : Int32)), (.int kd)])) _
          refine XS.icmpNo X9.here hx rfl (hb hby at_77) rfl (teq hc77).2 ?_
          show Steps p.tables e below (T9.setTop (mkF m 80 #[.val (.int p1), .val (.int p2), .val (.int p3), .val (.int p4), .val (.int p5), .val (.int pa), .val (.int ra), .val (.int kd), .val (.ref b5), .unset, .unset] [])) _
          refine st17 _ ?_
          show Steps p.tables e below (T17.setTop (mkF m 83 #[.val (.int p1), .val (.int p2), .val (.int p3), .val (.int p4), .val (.int p5), .val (.int pa), .val (.int ra), .val (.int kd), .val (.ref b5), .unset, .unset] [(.ref b17)])) _
          refine XS.dup X17.here hx rfl (hb hby at_83) rfl rfl ?_
          show Steps p.tables e below (T17.setTop (mkF m 84 #[.val (.int p1), .val (.int p2), .val (.int p3), .val (.int p4), .val (.int p5), .val (.int pa), .val (.int ra), .val (.int kd), .val (.ref b5), .unset, .unset] [(.ref b17), (.ref b17)])) _
          refine XS.iload X17.here hx rfl (hb hby at_84) rfl ?_
          show Steps p.tables e below (T17.setTop (mkF m 86 #[.val (.int p1), .val (.int p2), .val (.int p3), .val (.int p4), .val (.int p5), .val (.int pa), .val (.int ra), .val (.int kd), .val (.ref b5), .unset, .unset] [(.int pa), (.ref b17), (.ref b17)])) _
          refine XS.iload X17.here hx rfl (hb hby at_86) rfl ?_
          show Steps p.tables e below (T17.setTop (mkF m 88 #[.val (.int p1), .val (.int p2), .val (.int p3), .val (.int p4), .val (.int p5), .val (.int pa), .val (.int ra), .val (.int kd), .val (.ref b5), .unset, .unset] [(.int ra), (.int pa), (.ref b17), (.ref b17)])) _
          refine XS.aconstNull X17.here hx rfl (hb hby at_88) ?_
          show Steps p.tables e below (T17.setTop (mkF m 89 #[.val (.int p1), .val (.int p2), .val (.int p3), .val (.int p4), .val (.int p5), .val (.int pa), .val (.int ra), .val (.int kd), .val (.ref b5), .unset, .unset] [.null, (.int ra), (.int pa), (.ref b17), (.ref b17)])) _
          refine X17.checkcastNull hx (g := (mkF m 89 #[.val (.int p1), .val (.int p2), .val (.int p3), .val (.int p4), .val (.int p5), .val (.int pa), .val (.int ra), .val (.int kd), .val (.ref b5), .unset, .unset] [.null, (.int ra), (.int pa), (.ref b17), (.ref b17)])) rfl rfl (hb hby at_89) _ ?_
          show Steps p.tables e below (T17.setTop (mkF m 92 #[.val (.int p1), .val (.int p2), .val (.int p3), .val (.int p4), .val (.int p5), .val (.int pa), .val (.int ra), .val (.int kd), .val (.ref b5), .unset, .unset] [.null, (.int ra), (.int pa), (.ref b17), (.ref b17)])) _
          refine st18.trans ?_
          show Steps p.tables e below (T18.setTop (mkF m 95 #[.val (.int p1), .val (.int p2), .val (.int p3), .val (.int p4), .val (.int p5), .val (.int pa), .val (.int ra), .val (.int kd), .val (.ref b5), .unset, .unset] [(.ref b17)])) _
          refine XS.astore X18.here hx rfl (hb hby at_95) rfl rfl (l' := #[.val (.int p1), .val (.int p2), .val (.int p3), .val (.int p4), .val (.int p5), .val (.int pa), .val (.int ra), .val (.int kd), .val (.ref b5), .val (.ref b17), .unset]) rfl ?_
          show Steps p.tables e below (T18.setTop (mkF m 97 #[.val (.int p1), .val (.int p2), .val (.int p3), .val (.int p4), .val (.int p5), .val (.int pa), .val (.int ra), .val (.int kd), .val (.ref b5), .val (.ref b17), .unset] [])) _
          refine XS.iconst X18.here hx rfl (hb hby at_97) ?_
          show Steps p.tables e below (T18.setTop (mkF m 98 #[.val (.int p1), .val (.int p2), .val (.int p3), .val (.int p4), .val (.int p5), .val (.int pa), .val (.int ra), .val (.int kd), .val (.ref b5), .val (.ref b17), .unset] [(.int (0 : Int32))])) _
          refine XS.istore X18.here hx rfl (hb hby at_98) rfl (l' := #[.val (.int p1), .val (.int p2), .val (.int p3), .val (.int p4), .val (.int p5), .val (.int pa), .val (.int ra), .val (.int kd), .val (.ref b5), .val (.ref b17), .val (.int (0 : Int32))]) rfl ?_
          show Steps p.tables e below (T18.setTop (mkF m 100 #[.val (.int p1), .val (.int p2), .val (.int p3), .val (.int p4), .val (.int p5), .val (.int pa), .val (.int ra), .val (.int kd), .val (.ref b5), .val (.ref b17), .val (.int (0 : Int32))] [])) _
          refine XS.goto X18.here hx rfl (pc0 := 100) (pc' := 144) rfl (hb hby at_100) (by decide) (by decide) ?_
          show Steps p.tables e below (T18.setTop (mkF m 144 #[.val (.int p1), .val (.int p2), .val (.int p3), .val (.int p4), .val (.int p5), .val (.int pa), .val (.int ra), .val (.int kd), .val (.ref b5), .val (.ref b17), .val (.int (0 : Int32))] [])) _
          refine XS.aload X18.here hx rfl (hb hby at_144) rfl rfl ?_
          show Steps p.tables e below (T18.setTop (mkF m 146 #[.val (.int p1), .val (.int p2), .val (.int p3), .val (.int p4), .val (.int p5), .val (.int pa), .val (.int ra), .val (.int kd), .val (.ref b5), .val (.ref b17), .val (.int (0 : Int32))] [(.ref b17)])) _
          refine st19.trans ?_
          show Steps p.tables e below (T19.setTop (mkF m 149 #[.val (.int p1), .val (.int p2), .val (.int p3), .val (.int p4), .val (.int p5), .val (.int pa), .val (.int ra), .val (.int kd), .val (.ref b5), .val (.ref b17), .val (.int (0 : Int32))] [(.int (0 : Int32))])) _
          refine XS.iload X19.here hx rfl (hb hby at_149) rfl ?_
          show Steps p.tables e below (T19.setTop (mkF m 151 #[.val (.int p1), .val (.int p2), .val (.int p3), .val (.int p4), .val (.int p5), .val (.int pa), .val (.int ra), .val (.int kd), .val (.ref b5), .val (.ref b17), .val (.int (0 : Int32))] [(.int (0 : Int32)), (.int (0 : Int32))])) _
          refine XS.icmpNo X19.here hx rfl (hb hby at_151) rfl (teq rfl).2 ?_
          show Steps p.tables e below (T19.setTop (mkF m 154 #[.val (.int p1), .val (.int p2), .val (.int p3), .val (.int p4), .val (.int p5), .val (.int pa), .val (.int ra), .val (.int kd), .val (.ref b5), .val (.ref b17), .val (.int (0 : Int32))] [])) _
          refine XS.aload X19.here hx rfl (hb hby at_154) rfl rfl ?_
          show Steps p.tables e below (T19.setTop (mkF m 156 #[.val (.int p1), .val (.int p2), .val (.int p3), .val (.int p4), .val (.int p5), .val (.int pa), .val (.int ra), .val (.int kd), .val (.ref b5), .val (.ref b17), .val (.int (0 : Int32))] [(.ref b17)])) _
          refine st20.trans ?_
          show Steps p.tables e below (T20.setTop (mkF m 159 #[.val (.int p1), .val (.int p2), .val (.int p3), .val (.int p4), .val (.int p5), .val (.int pa), .val (.int ra), .val (.int kd), .val (.ref b5), .val (.ref b17), .val (.int (0 : Int32))] [(.int pa)])) _
          refine XS.iload X20.here hx rfl (hb hby at_159) rfl ?_
          show Steps p.tables e below (T20.setTop (mkF m 161 #[.val (.int p1), .val (.int p2), .val (.int p3), .val (.int p4), .val (.int p5), .val (.int pa), .val (.int ra), .val (.int kd), .val (.ref b5), .val (.ref b17), .val (.int (0 : Int32))] [(.int pa), (.int pa)])) _
          refine XS.icmpNo X20.here hx rfl (hb hby at_161) rfl (teq rfl).2 ?_
          show Steps p.tables e below (T20.setTop (mkF m 164 #[.val (.int p1), .val (.int p2), .val (.int p3), .val (.int p4), .val (.int p5), .val (.int pa), .val (.int ra), .val (.int kd), .val (.ref b5), .val (.ref b17), .val (.int (0 : Int32))] [])) _
          refine XS.aload X20.here hx rfl (hb hby at_164) rfl rfl ?_
          show Steps p.tables e below (T20.setTop (mkF m 166 #[.val (.int p1), .val (.int p2), .val (.int p3), .val (.int p4), .val (.int p5), .val (.int pa), .val (.int ra), .val (.int kd), .val (.ref b5), .val (.ref b17), .val (.int (0 : Int32))] [(.ref b17)])) _
          refine st21.trans ?_
          show Steps p.tables e below (T21.setTop (mkF m 169 #[.val (.int p1), .val (.int p2), .val (.int p3), .val (.int p4), .val (.int p5), .val (.int pa), .val (.int ra), .val (.int kd), .val (.ref b5), .val (.ref b17), .val (.int (0 : Int32))] [(.int ra)])) _
          refine XS.iload X21.here hx rfl (hb hby at_169) rfl ?_
          show Steps p.tables e below (T21.setTop (mkF m 171 #[.val (.int p1), .val (.int p2), .val (.int p3), .val (.int p4), .val (.int p5), .val (.int pa), .val (.int ra), .val (.int kd), .val (.ref b5), .val (.ref b17), .val (.int (0 : Int32))] [(.int ra), (.int ra)])) _
          refine XS.icmpNo X21.here hx rfl (hb hby at_171) rfl (teq rfl).2 ?_
          show Steps p.tables e below (T21.setTop (mkF m 174 #[.val (.int p1), .val (.int p2), .val (.int p3), .val (.int p4), .val (.int p5), .val (.int pa), .val (.int ra), .val (.int kd), .val (.ref b5), .val (.ref b17), .val (.int (0 : Int32))] [])) _
          refine XS.iconst X21.here hx rfl (hb hby at_174) ?_
          show Steps p.tables e below (T21.setTop (mkF m 175 #[.val (.int p1), .val (.int p2), .val (.int p3), .val (.int p4), .val (.int p5), .val (.int pa), .val (.int ra), .val (.int kd), .val (.ref b5), .val (.ref b17), .val (.int (0 : Int32))] [(.int (1 : Int32))])) _
          refine XS.goto X21.here hx rfl (pc0 := 175) (pc' := 179) rfl (hb hby at_175) (by decide) (by decide) ?_
          show Steps p.tables e below (T21.setTop (mkF m 179 #[.val (.int p1), .val (.int p2), .val (.int p3), .val (.int p4), .val (.int p5), .val (.int pa), .val (.int ra), .val (.int kd), .val (.ref b5), .val (.ref b17), .val (.int (0 : Int32))] [(.int (1 : Int32))])) _
          exact retN X21 hx (t := .boolean) Bd.returns (by simp) (hb hby at_179) hr
        · show Q0 Z p1 p2 p3 p4 p5 h0 n0 _ T21.heap _
          rw [eh21]
          exact ⟨rfl, N21⟩
      · -- pc 77: taken
        have go22 : ∀ t, Steps p.tables e below (T9.setTop (mkF m 106 #[.val (.int p1), .val (.int p2), .val (.int p3), .val (.int p4), .val (.int p5), .val (.int pa), .val (.int ra), .val (.int kd), .val (.ref b5), .unset, .unset] [(.int (2 : Int32)), (.int kd)])) t → Steps p.tables e below (s₁.setTop (entryFrame m #[(.int p1), (.int p2), (.int p3), (.int p4), (.int p5)] maxLocals)) t := by
          intro t kt
          refine go16 t ?_
          show Steps p.tables e below (T9.setTop (mkF m 77 #[.val (.int p1), .val (.int p2), .val (.int p3), .val (.int p4), .val (.int p5), .val (.int pa), .val (.int ra), .val (.int kd), .val (.ref b5), .unset, .unset] [(.int (1 : Int32)), (.int kd)])) _
          refine XS.icmpYes X9.here hx rfl (pc0 := 77) (pc' := 103) rfl (hb hby at_77) rfl (feq hc77).2 (by decide) (by decide) ?_
          show Steps p.tables e below (T9.setTop (mkF m 103 #[.val (.int p1), .val (.int p2), .val (.int p3), .val (.int p4), .val (.int p5), .val (.int pa), .val (.int ra), .val (.int kd), .val (.ref b5), .unset, .unset] [])) _
          refine XS.iload X9.here hx rfl (hb hby at_103) rfl ?_
          show Steps p.tables e below (T9.setTop (mkF m 105 #[.val (.int p1), .val (.int p2), .val (.int p3), .val (.int p4), .val (.int p5), .val (.int pa), .val (.int ra), .val (.int kd), .val (.ref b5), .unset, .unset] [(.int kd)])) _
          refine XS.iconst X9.here hx rfl (hb hby at_105) ?_
          exact kt
        by_cases hc106 : kd = (2 : Int32)
        · -- pc 106: not taken
          obtain ⟨T23, h23, X23, e23, E23, A23, D23, -, st23⟩ := newO X9 hx hZ hown (hw _ (List.mem_of_getElem? (i := 2) rfl)) (hw _ (List.mem_of_getElem? (i := 3) rfl)) (hw _ (List.mem_of_getElem? (i := 4) rfl)) e9 (g := (mkF m 109 #[.val (.int p1), .val (.int p2), .val (.int p3), .val (.int p4), .val (.int p5), .val (.int pa), .val (.int ra), .val (.int kd), .val (.ref b5), .unset, .unset] [])) rfl (hb hby at_109) (by decide) (by decide)
          obtain ⟨b23, g23⟩ : ∃ z, z = h9.size := ⟨_, rfl⟩
          rw [← g23] at A23 D23 st23
          have ne_b5_b23 : b5 ≠ b23 := Nat.ne_of_lt (Nat.lt_of_lt_of_le E9_b5.lt (Nat.le_of_eq g23.symm))
          have E23_b5 := E9_b5.ext E23
          have ge_b23 : n0 ≤ b23 := (Nat.le_trans (Nat.le_trans (Nat.le_trans Z0 E5.1) (Keep.of_wr W9).1) (Nat.le_of_eq g23.symm))
          have F23_b23_partner : Fld Z h23 b23 "com/example/racewitness/racewitness/analysis/Race" "partner" "I" (.int (0 : Int32)) := D23 (Or.inr (hw _ (List.mem_of_getElem? (i := 15) rfl))) (ty := .int) (by decide)
          have F23_b23_racyEvent : Fld Z h23 b23 "com/example/racewitness/racewitness/analysis/Race" "racyEvent" "I" (.int (0 : Int32)) := D23 (Or.inr (hw _ (List.mem_of_getElem? (i := 17) rfl))) (ty := .int) (by decide)
          have F23_b23_lastScheduled : Fld Z h23 b23 "com/example/racewitness/racewitness/analysis/Race" "lastScheduled" "[I" .null := D23 (Or.inr (hw _ (List.mem_of_getElem? (i := 19) rfl))) (ty := (.array .int)) (by decide)
          have F23_b23_schedule : Fld Z h23 b23 "com/example/racewitness/racewitness/analysis/Race" "schedule" "[I" .null := D23 (Or.inr (hw _ (List.mem_of_getElem? (i := 21) rfl))) (ty := (.array .int)) (by decide)
          have F23_b23_prefixWitness : Fld Z h23 b23 "com/example/racewitness/racewitness/analysis/Race" "prefixWitness" "Lcom/example/racewitness/racewitness/analysis/Race$PrefixWitness;" .null := D23 (Or.inr (hw _ (List.mem_of_getElem? (i := 23) rfl))) (ty := (.object "com/example/racewitness/racewitness/analysis/Race$PrefixWitness")) (by decide)
          obtain ⟨_, _, ⟨T24, L24, k24, n24⟩, -, X24, ⟨Lc24, hQ24, l24, y24, z24⟩, st24⟩ := X23.specialBack hx (y := (⟨"com/example/racewitness/racewitness/analysis/Race", "<init>", "(II[I)V"⟩ : MethodName)) rfl hown (mvT hZ (hw _ (List.mem_of_getElem? (i := 5) rfl))) (mvT hZ (hw _ (List.mem_of_getElem? (i := 6) rfl))) (mvT hZ (hw _ (List.mem_of_getElem? (i := 7) rfl))) (by decide) (backOf (W := 1) (rm1a l Z a0 hw [] b23 b5 pa ra h23 n0 (Nat.le_trans (Nat.le_trans (Nat.le_trans Z0 E5.1) (Keep.of_wr W9).1) E23.1) ge_b23 A23 F23_b23_partner F23_b23_racyEvent F23_b23_lastScheduled F23_b23_schedule F23_b23_prefixWitness hra.1 hra.2) hZ (hw _ (List.mem_of_getElem? (i := 7) rfl)) (hw _ (List.mem_of_getElem? (i := 4) rfl)) (by decide) (by decide)) (g := (mkF m 119 #[.val (.int p1), .val (.int p2), .val (.int p3), .val (.int p4), .val (.int p5), .val (.int pa), .val (.int ra), .val (.int kd), .val (.ref b5), .unset, .unset] [(.ref b5), (.int ra), (.int pa), (.ref b23), (.ref b23)])) rfl (by rw [hml]; rfl) (Steps.refl _) (a := b23) (argsL := [(.int pa), (.int ra), (.ref b5)]) (rest := [(.ref b23)]) (lenOf pd_1 rfl) rfl (by show 2 * 0 + _ ≤ _; exact Nat.le_of_eq rfl) (hb hby at_119) (fun _ _ => ⟨rfl, e23, (by decide : 2 + 0 ≤ _), (by decide : 8 + 0 ≤ _)⟩)
          dsimp only [Pt.U, Pt.locs, Pt.cells, Pt.slots] at X24 l24 y24 z24 st24 hQ24
          subst l24 y24 z24
          obtain ⟨rfl, N24q, K24c, F24_partner, F24_racyEvent, F24_lastScheduled, F24_schedule, F24_prefixWitness⟩ := hQ24
          have N24 := Fr.app N9 N24q
          have E24_b5 := E23_b5.keep K24c
          have E24_b23 := A23.keep K24c
          obtain ⟨cq25, kq25, q25a, q25b, q25c⟩ := isOf hZ rfl E24_b23
          obtain ⟨_, _, ⟨T25, L25, k25, n25⟩, -, X25, ⟨Lc25, hQ25, l25, y25, z25⟩, st25⟩ := X24.virtualBack hx (y := (⟨"com/example/racewitness/racewitness/analysis/Race", "hasWitness", "()Z"⟩ : MethodName)) (z := (⟨"com/example/racewitness/racewitness/analysis/Race", "hasWitness", "()Z"⟩ : MethodName)) hown (mvT hZ (hw _ (List.mem_of_getElem? (i := 24) rfl))) (mvT hZ (hw _ (List.mem_of_getElem? (i := 25) rfl))) (notFace_of_selects (args := #[]) (mvT hZ (hw _ (List.mem_of_getElem? (i := 27) rfl)))) (mvT hZ (hw _ (List.mem_of_getElem? (i := 27) rfl))) (mvT hZ (hw _ (List.mem_of_getElem? (i := 26) rfl))) (by decide) (backOf (W := 0) (rm4a l Z a0 hw [] b23 b5 pa ra T24.heap n0 (Nat.le_trans (Nat.le_trans (Nat.le_trans (Nat.le_trans Z0 E5.1) (Keep.of_wr W9).1) E23.1) K24c.1) F24_partner F24_racyEvent F24_lastScheduled F24_schedule F24_prefixWitness) hZ (hw _ (List.mem_of_getElem? (i := 28) rfl)) (hw _ (List.mem_of_getElem? (i := 4) rfl)) (by decide) (by decide)) q25a q25c (g := (mkF m 146 #[.val (.int p1), .val (.int p2), .val (.int p3), .val (.int p4), .val (.int p5), .val (.int pa), .val (.int ra), .val (.int kd), .val (.ref b5), .val (.ref b23), .val (.int (1 : Int32))] [(.ref b23)])) rfl (by rw [hml]; rfl) (Steps.refl _) (argsL := []) (rest := []) (lenOf pd_4 rfl) rfl (by show 2 * 0 + _ ≤ _; exact Nat.le_of_eq rfl) (hb hby at_146) (fun _ _ => ⟨rfl, rfl, (by decide : 2 + 0 ≤ _), (by decide : 8 + 0 ≤ _)⟩)
          dsimp only [Pt.U, Pt.locs, Pt.cells, Pt.slots] at X25 l25 y25 z25 st25 hQ25
          subst l25 y25 z25
          obtain ⟨rfl, N25q, eh25⟩ := hQ25
          have N25 := Fr.app N24 N25q
          obtain ⟨cq26, kq26, q26a, q26b, q26c⟩ := isOf hZ eh25 E24_b23
          obtain ⟨_, _, ⟨T26, L26, k26, n26⟩, -, X26, ⟨Lc26, hQ26, l26, y26, z26⟩, st26⟩ := X25.virtualBack hx (y := (⟨"com/example/racewitness/racewitness/analysis/Race", "partner", "()I"⟩ : MethodName)) (z := (⟨"com/example/racewitness/racewitness/analysis/Race", "partner", "()I"⟩ : MethodName)) hown (mvT hZ (hw _ (List.mem_of_getElem? (i := 29) rfl))) (mvT hZ (hw _ (List.mem_of_getElem? (i := 30) rfl))) (notFace_of_selects (args := #[]) (mvT hZ (hw _ (List.mem_of_getElem? (i := 32) rfl)))) (mvT hZ (hw _ (List.mem_of_getElem? (i := 32) rfl))) (mvT hZ (hw _ (List.mem_of_getElem? (i := 31) rfl))) (by decide) (backOf (W := 0) (rm5 l Z a0 hw [] b23 pa T24.heap n0 (Nat.le_trans (Nat.le_trans (Nat.le_trans (Nat.le_trans Z0 E5.1) (Keep.of_wr W9).1) E23.1) K24c.1) F24_partner) hZ (hw _ (List.mem_of_getElem? (i := 33) rfl)) (hw _ (List.mem_of_getElem? (i := 4) rfl)) (by decide) (by decide)) q26a q26c (g := (mkF m 156 #[.val (.int p1), .val (.int p2), .val (.int p3), .val (.int p4), .val (.int p5), .val (.int pa), .val (.int ra), .val (.int kd), .val (.ref b5), .val (.ref b23), .val (.int (1 : Int32))] [(.ref b23)])) rfl (by rw [hml]; rfl) (Steps.refl _) (argsL := []) (rest := []) (lenOf pd_5 rfl) rfl (by show 2 * 0 + _ ≤ _; exact Nat.le_of_eq rfl) (hb hby at_156) (fun _ _ => ⟨rfl, eh25, (by decide : 2 + 0 ≤ _), (by decide : 8 + 0 ≤ _)⟩)
          dsimp only [Pt.U, Pt.locs, Pt.cells, Pt.slots] at X26 l26 y26 z26 st26 hQ26
          subst l26 y26 z26
          obtain ⟨rfl, N26q, eh26⟩ := hQ26
          have N26 := Fr.app N25 N26q
          obtain ⟨cq27, kq27, q27a, q27b, q27c⟩ := isOf hZ eh26 E24_b23
          obtain ⟨_, _, ⟨T27, L27, k27, n27⟩, -, X27, ⟨Lc27, hQ27, l27, y27, z27⟩, st27⟩ := X26.virtualBack hx (y := (⟨"com/example/racewitness/racewitness/analysis/Race", "racyEvent", "()I"⟩ : MethodName)) (z := (⟨"com/example/racewitness/racewitness/analysis/Race", "racyEvent", "()I"⟩ : MethodName)) hown (mvT hZ (hw _ (List.mem_of_getElem? (i := 34) rfl))) (mvT hZ (hw _ (List.mem_of_getElem? (i := 35) rfl))) (notFace_of_selects (args := #[]) (mvT hZ (hw _ (List.mem_of_getElem? (i := 37) rfl)))) (mvT hZ (hw _ (List.mem_of_getElem? (i := 37) rfl))) (mvT hZ (hw _ (List.mem_of_getElem? (i := 36) rfl))) (by decide) (backOf (W := 0) (rm6 l Z a0 hw [] b23 ra T24.heap n0 (Nat.le_trans (Nat.le_trans (Nat.le_trans (Nat.le_trans Z0 E5.1) (Keep.of_wr W9).1) E23.1) K24c.1) F24_racyEvent) hZ (hw _ (List.mem_of_getElem? (i := 38) rfl)) (hw _ (List.mem_of_getElem? (i := 4) rfl)) (by decide) (by decide)) q27a q27c (g := (mkF m 166 #[.val (.int p1), .val (.int p2), .val (.int p3), .val (.int p4), .val (.int p5), .val (.int pa), .val (.int ra), .val (.int kd), .val (.ref b5), .val (.ref b23), .val (.int (1 : Int32))] [(.ref b23)])) rfl (by rw [hml]; rfl) (Steps.refl _) (argsL := []) (rest := []) (lenOf pd_5 rfl) rfl (by show 2 * 0 + _ ≤ _; exact Nat.le_of_eq rfl) (hb hby at_166) (fun _ _ => ⟨rfl, eh26, (by decide : 2 + 0 ≤ _), (by decide : 8 + 0 ≤ _)⟩)
          dsimp only [Pt.U, Pt.locs, Pt.cells, Pt.slots] at X27 l27 y27 z27 st27 hQ27
          subst l27 y27 z27
          obtain ⟨rfl, N27q, eh27⟩ := hQ27
          have N27 := Fr.app N26 N27q
          obtain ⟨fs, hr, hrun, hended, hRW⟩ := X27.leaveW hS0 (by rw [eh27]; exact (Nat.le_trans (Nat.le_trans (Nat.le_trans (Nat.le_trans (Nat.zero_le _) E5.1) (Keep.of_wr W9).1) E23.1) K24c.1)) (v := some (.int (1 : Int32))) (fun h => by rw [Bd.returns] at h; cases h)
          refine ⟨_, _, go22 _ ?_, hrun, hended, _, _, rfl, ?_, ⟨hRW.1, hRW.2.1, hRW.2.2.1, hRW.2.2.2.mono (by decide) (by decide)⟩⟩
          · show Steps p.tables e below (T9.setTop (mkF m 106 #[.val (.int p1), .val (.int p2), .val (.int p3), .val (.int p4), .val (.int p5), .val (.int pa), .val (.int ra), .val (.int kd), .val (.ref b5), .unset, .unset] [(.int (2 : Int32)), (.int kd)])) _
            refine XS.icmpNo X9.here hx rfl (hb hby at_106) rfl (teq hc106).2 ?_
            show Steps p.tables e below (T9.setTop (mkF m 109 #[.val (.int p1), .val (.int p2), .val (.int p3), .val (.int p4), .val (.int p5), .val (.int pa), .val (.int ra), .val (.int kd), .val (.ref b5), .unset, .unset] [])) _
            refine st23 _ ?_
            show Steps p.tables e below (T23.setTop (mkF m 112 #[.val (.int p1), .val (.int p2), .val (.int p3), .val (.int p4), .val (.int p5), .val (.int pa), .val (.int ra), .val (.int kd), .val (.ref b5), .unset, .unset] [(.ref b23)])) _
            refine XS.dup X23.here hx rfl (hb hby at_112) rfl rfl ?_
            show Steps p.tables e below (T23.setTop (mkF m 113 #[.val (.int p1), .val (.int p2), .val (.int p3), .val (.int p4), .val (.int p5), .val (.int pa), .val (.int ra), .val (.int kd), .val (.ref b5), .unset, .unset] [(.ref b23), (.ref b23)])) _
            refine XS.iload X23.here hx rfl (hb hby at_113) rfl ?_
            show Steps p.tables e below (T23.setTop (mkF m 115 #[.val (.int p1), .val (.int p2), .val (.int p3), .val (.int p4), .val (.int p5), .val (.int pa), .val (.int ra), .val (.int kd), .val (.ref b5), .unset, .unset] [(.int pa), (.ref b23), (.ref b23)])) _
            refine XS.iload X23.here hx rfl (hb hby at_115) rfl ?_
            show Steps p.tables e below (T23.setTop (mkF m 117 #[.val (.int p1), .val (.int p2), .val (.int p3), .val (.int p4), .val (.int p5), .val (.int pa), .val (.int ra), .val (.int kd), .val (.ref b5), .unset, .unset] [(.int ra), (.int pa), (.ref b23), (.ref b23)])) _
            refine XS.aload X23.here hx rfl (hb hby at_117) rfl rfl ?_
            show Steps p.tables e below (T23.setTop (mkF m 119 #[.val (.int p1), .val (.int p2), .val (.int p3), .val (.int p4), .val (.int p5), .val (.int pa), .val (.int ra), .val (.int kd), .val (.ref b5), .unset, .unset] [(.ref b5), (.int ra), (.int pa), (.ref b23), (.ref b23)])) _
            refine st24.trans ?_
            show Steps p.tables e below (T24.setTop (mkF m 122 #[.val (.int p1), .val (.int p2), .val (.int p3), .val (.int p4), .val (.int p5), .val (.int pa), .val (.int ra), .val (.int kd), .val (.ref b5), .unset, .unset] [(.ref b23)])) _
            refine XS.astore X24.here hx rfl (hb hby at_122) rfl rfl (l' := #[.val (.int p1), .val (.int p2), .val (.int p3), .val (.int p4), .val (.int p5), .val (.int pa), .val (.int ra), .val (.int kd), .val (.ref b5), .val (.ref b23), .unset]) rfl ?_
            show Steps p.tables e below (T24.setTop (mkF m 124 #[.val (.int p1), .val (.int p2), .val (.int p3), .val (.int p4), .val (.int p5), .val (.int pa), .val (.int ra), .val (.int kd), .val (.ref b5), .val (.ref b23), .unset] [])) _
            refine XS.iconst X24.here hx rfl (hb hby at_124) ?_
            show Steps p.tables e below (T24.setTop (mkF m 125 #[.val (.int p1), .val (.int p2), .val (.int p3), .val (.int p4), .val (.int p5), .val (.int pa), .val (.int ra), .val (.int kd), .val (.ref b5), .val (.ref b23), .unset] [(.int (1 : Int32))])) _
            refine XS.istore X24.here hx rfl (hb hby at_125) rfl (l' := #[.val (.int p1), .val (.int p2), .val (.int p3), .val (.int p4), .val (.int p5), .val (.int pa), .val (.int ra), .val (.int kd), .val (.ref b5), .val (.ref b23), .val (.int (1 : Int32))]) rfl ?_
            show Steps p.tables e below (T24.setTop (mkF m 127 #[.val (.int p1), .val (.int p2), .val (.int p3), .val (.int p4), .val (.int p5), .val (.int pa), .val (.int ra), .val (.int kd), .val (.ref b5), .val (.ref b23), .val (.int (1 : Int32))] [])) _
            refine XS.goto X24.here hx rfl (pc0 := 127) (pc' := 144) rfl (hb hby at_127) (by decide) (by decide) ?_
            show Steps p.tables e below (T24.setTop (mkF m 144 #[.val (.int p1), .val (.int p2), .val (.int p3), .val (.int p4), .val (.int p5), .val (.int pa), .val (.int ra), .val (.int kd), .val (.ref b5), .val (.ref b23), .val (.int (1 : Int32))] [])) _
            refine XS.aload X24.here hx rfl (hb hby at_144) rfl rfl ?_
            show Steps p.tables e below (T24.setTop (mkF m 146 #[.val (.int p1), .val (.int p2), .val (.int p3), .val (.int p4), .val (.int p5), .val (.int pa), .val (.int ra), .val (.int kd), .val (.ref b5), .val (.ref b23), .val (.int (1 : Int32))] [(.ref b23)])) _
            refine st25.trans ?_
            show Steps p.tables e below (T25.setTop (mkF m 149 #[.val (.int p1), .val (.int p2), .val (.int p3), .val (.int p4), .val (.int p5), .val (.int pa), .val (.int ra), .val (.int kd), .val (.ref b5), .val (.ref b23), .val (.int (1 : Int32))] [(.int (1 : Int32))])) _
            refine XS.iload X25.here hx rfl (hb hby at_149) rfl ?_
            show Steps p.tables e below (T25.setTop (mkF m 151 #[.val (.int p1), .val (.int p2), .val (.int p3), .val (.int p4), .val (.int p5), .val (.int pa), .val (.int ra), .val (.int kd), .val (.ref b5), .val (.ref b23), .val (.int (1 : Int32))] [(.int (1 : Int32)), (.int (1 : Int32))])) _
            refine XS.icmpNo X25.here hx rfl (hb hby at_151) rfl (teq rfl).2 ?_
            show Steps p.tables e below (T25.setTop (mkF m 154 #[.val (.int p1), .val (.int p2), .val (.int p3), .val (.int p4), .val (.int p5), .val (.int pa), .val (.int ra), .val (.int kd), .val (.ref b5), .val (.ref b23), .val (.int (1 : Int32))] [])) _
            refine XS.aload X25.here hx rfl (hb hby at_154) rfl rfl ?_
            show Steps p.tables e below (T25.setTop (mkF m 156 #[.val (.int p1), .val (.int p2), .val (.int p3), .val (.int p4), .val (.int p5), .val (.int pa), .val (.int ra), .val (.int kd), .val (.ref b5), .val (.ref b23), .val (.int (1 : Int32))] [(.ref b23)])) _
            refine st26.trans ?_
            show Steps p.tables e below (T26.setTop (mkF m 159 #[.val (.int p1), .val (.int p2), .val (.int p3), .val (.int p4), .val (.int p5), .val (.int pa), .val (.int ra), .val (.int kd), .val (.ref b5), .val (.ref b23), .val (.int (1 : Int32))] [(.int pa)])) _
            refine XS.iload X26.here hx rfl (hb hby at_159) rfl ?_
            show Steps p.tables e below (T26.setTop (mkF m 161 #[.val (.int p1), .val (.int p2), .val (.int p3), .val (.int p4), .val (.int p5), .val (.int pa), .val (.int ra), .val (.int kd), .val (.ref b5), .val (.ref b23), .val (.int (1 : Int32))] [(.int pa), (.int pa)])) _
            refine XS.icmpNo X26.here hx rfl (hb hby at_161) rfl (teq rfl).2 ?_
            show Steps p.tables e below (T26.setTop (mkF m 164 #[.val (.int p1), .val (.int p2), .val (.int p3), .val (.int p4), .val (.int p5), .val (.int pa), .val (.int ra), .val (.int kd), .val (.ref b5), .val (.ref b23), .val (.int (1 : Int32))] [])) _
            refine XS.aload X26.here hx rfl (hb hby at_164) rfl rfl ?_
            show Steps p.tables e below (T26.setTop (mkF m 166 #[.val (.int p1), .val (.int p2), .val (.int p3), .val (.int p4), .val (.int p5), .val (.int pa), .val (.int ra), .val (.int kd), .val (.ref b5), .val (.ref b23), .val (.int (1 : Int32))] [(.ref b23)])) _
            refine st27.trans ?_
            show Steps p.tables e below (T27.setTop (mkF m 169 #[.val (.int p1), .val (.int p2), .val (.int p3), .val (.int p4), .val (.int p5), .val (.int pa), .val (.int ra), .val (.int kd), .val (.ref b5), .val (.ref b23), .val (.int (1 : Int32))] [(.int ra)])) _
            refine XS.iload X27.here hx rfl (hb hby at_169) rfl ?_
            show Steps p.tables e below (T27.setTop (mkF m 171 #[.val (.int p1), .val (.int p2), .val (.int p3), .val (.int p4), .val (.int p5), .val (.int pa), .val (.int ra), .val (.int kd), .val (.ref b5), .val (.ref b23), .val (.int (1 : Int32))] [(.int ra), (.int ra)])) _
            refine XS.icmpNo X27.here hx rfl (hb hby at_171) rfl (teq rfl).2 ?_
            show Steps p.tables e below (T27.setTop (mkF m 174 #[.val (.int p1), .val (.int p2), .val (.int p3), .val (.int p4), .val (.int p5), .val (.int pa), .val (.int ra), .val (.int kd), .val (.ref b5), .val (.ref b23), .val (.int (1 : Int32))] [])) _
            refine XS.iconst X27.here hx rfl (hb hby at_174) ?_
            show Steps p.tables e below (T27.setTop (mkF m 175 #[.val (.int p1), .val (.int p2), .val (.int p3), .val (.int p4), .val (.int p5), .val (.int pa), .val (.int ra), .val (.int kd), .val (.ref b5), .val (.ref b23), .val (.int (1 : Int32))] [(.int (1 : Int32))])) _
            refine XS.goto X27.here hx rfl (pc0 := 175) (pc' := 179) rfl (hb hby at_175) (by decide) (by decide) ?_
            show Steps p.tables e below (T27.setTop (mkF m 179 #[.val (.int p1), .val (.int p2), .val (.int p3), .val (.int p4), .val (.int p5), .val (.int pa), .val (.int ra), .val (.int kd), .val (.ref b5), .val (.ref b23), .val (.int (1 : Int32))] [(.int (1 : Int32))])) _
            exact retN X27 hx (t := .boolean) Bd.returns (by simp) (hb hby at_179) hr
          · show Q0 Z p1 p2 p3 p4 p5 h0 n0 _ T27.heap _
            rw [eh27]
            exact ⟨rfl, N27⟩
        · -- pc 106: taken
          obtain ⟨_, _, ⟨T28, L28, k28, n28⟩, -, X28, hS28, gr28, ⟨Lc28, hQ28, l28, y28, z28⟩, st28⟩ := callSS X9 hx (y := (⟨"com/example/racewitness/racewitness/analysis/Race", "withSchedule", "(II[I)Lcom/example/racewitness/racewitness/analysis/Race;"⟩ : MethodName)) hown (mvT hZ (hw _ (List.mem_of_getElem? (i := 39) rfl))) (mvT hZ (hw _ (List.mem_of_getElem? (i := 40) rfl))) (mvT hZ (hw _ (List.mem_of_getElem? (i := 4) rfl))) (mvT hZ (hw _ (List.mem_of_getElem? (i := 41) rfl))) (by decide) (backOfS (W := 0) (rm7 l Z a0 hw [] b5 pa ra h9 n0 (Nat.le_trans (Nat.le_trans Z0 E5.1) (Keep.of_wr W9).1) E9_b5 hra.1 hra.2) hZ (hw _ (List.mem_of_getElem? (i := 41) rfl)) (hw _ (List.mem_of_getElem? (i := 4) rfl)) (by decide) (by decide)) (g := (mkF m 136 #[.val (.int p1), .val (.int p2), .val (.int p3), .val (.int p4), .val (.int p5), .val (.int pa), .val (.int ra), .val (.int kd), .val (.ref b5), .unset, .unset] [(.ref b5), (.int ra), (.int pa)])) rfl (by rw [hml]; rfl) (argsL := [(.int pa), (.int ra), (.ref b5)]) (rest := []) (lenOf pd_6 rfl) rfl (by show 2 * 0 + _ ≤ _; exact Nat.le_of_eq rfl) (hb hby at_136) (fun _ _ => ⟨rfl, e9, (by decide : 1 + 3 ≤ _), (by decide : 3 + 41 ≤ _)⟩)
          dsimp only [Pt.U, Pt.locs, Pt.cells, Pt.slots] at X28 hS28 gr28 l28 y28 z28 st28 hQ28
          subst l28 y28 z28
          obtain ⟨X28, hS28, hZ28, hown28⟩ := rebS hS0 (by rw [e9]; exact (Nat.le_trans (Nat.le_trans (Nat.zero_le _) E5.1) (Keep.of_wr W9).1)) X28 hS28 gr28 hZ hown
          obtain ⟨b28, rfl, N28q, K28c, E28c, F28_partner, F28_racyEvent, F28_lastScheduled, F28_schedule, F28_prefixWitness⟩ := hQ28
          have N28 := Fr.app N9 N28q
          have E28_b5 := E9_b5.keep K28c
          obtain ⟨cq29, kq29, q29a, q29b, q29c⟩ := isOf hZ28 rfl E28c
          obtain ⟨_, _, ⟨T29, L29, k29, n29⟩, -, X29, ⟨Lc29, hQ29, l29, y29, z29⟩, st29⟩ := X28.virtualBack hx (y := (⟨"com/example/racewitness/racewitness/analysis/Race", "hasWitness", "()Z"⟩ : MethodName)) (z := (⟨"com/example/racewitness/racewitness/analysis/Race", "hasWitness", "()Z"⟩ : MethodName)) hown28 (mvT hZ28 (hw _ (List.mem_of_getElem? (i := 24) rfl))) (mvT hZ28 (hw _ (List.mem_of_getElem? (i := 25) rfl))) (notFace_of_selects (args := #[]) (mvT hZ28 (hw _ (List.mem_of_getElem? (i := 27) rfl)))) (mvT hZ28 (hw _ (List.mem_of_getElem? (i := 27) rfl))) (mvT hZ28 (hw _ (List.mem_of_getElem? (i := 26) rfl))) (by decide) (backOf (W := 0) (rm4c l Z a0 hw [] b28 b5 pa ra T28.heap n0 (Nat.le_trans (Nat.le_trans (Nat.le_trans Z0 E5.1) (Keep.of_wr W9).1) K28c.1) F28_partner F28_racyEvent F28_lastScheduled F28_schedule F28_prefixWitness) hZ28 (hw _ (List.mem_of_getElem? (i := 28) rfl)) (hw _ (List.mem_of_getElem? (i := 4) rfl)) (by decide) (by decide)) q29a q29c (g := (mkF m 146 #[.val (.int p1), .val (.int p2), .val (.int p3), .val (.int p4), .val (.int p5), .val (.int pa), .val (.int ra), .val (.int kd), .val (.ref b5), .val (.ref b28), .val (.int (1 : Int32))] [(.ref b28)])) rfl (by rw [hml]; rfl) (Steps.refl _) (argsL := []) (rest := []) (lenOf pd_4 rfl) rfl (by show 2 * 0 + _ ≤ _; exact Nat.le_of_eq rfl) (hb hby at_146) (fun _ _ => ⟨rfl, rfl, (by decide : 4 + 0 ≤ _), (by decide : 44 + 0 ≤ _)⟩)
          dsimp only [Pt.U, Pt.locs, Pt.cells, Pt.slots] at X29 l29 y29 z29 st29 hQ29
          subst l29 y29 z29
          obtain ⟨rfl, N29q, eh29⟩ := hQ29
          have N29 := Fr.app N28 N29q
          obtain ⟨cq30, kq30, q30a, q30b, q30c⟩ := isOf hZ28 eh29 E28c
          obtain ⟨_, _, ⟨T30, L30, k30, n30⟩, -, X30, ⟨Lc30, hQ30, l30, y30, z30⟩, st30⟩ := X29.virtualBack hx (y := (⟨"com/example/racewitness/racewitness/analysis/Race", "partner", "()I"⟩ : MethodName)) (z := (⟨"com/example/racewitness/racewitness/analysis/Race", "partner", "()I"⟩ : MethodName)) hown28 (mvT hZ28 (hw _ (List.mem_of_getElem? (i := 29) rfl))) (mvT hZ28 (hw _ (List.mem_of_getElem? (i := 30) rfl))) (notFace_of_selects (args := #[]) (mvT hZ28 (hw _ (List.mem_of_getElem? (i := 32) rfl)))) (mvT hZ28 (hw _ (List.mem_of_getElem? (i := 32) rfl))) (mvT hZ28 (hw _ (List.mem_of_getElem? (i := 31) rfl))) (by decide) (backOf (W := 0) (rm5 l Z a0 hw [] b28 pa T28.heap n0 (Nat.le_trans (Nat.le_trans (Nat.le_trans Z0 E5.1) (Keep.of_wr W9).1) K28c.1) F28_partner) hZ28 (hw _ (List.mem_of_getElem? (i := 33) rfl)) (hw _ (List.mem_of_getElem? (i := 4) rfl)) (by decide) (by decide)) q30a q30c (g := (mkF m 156 #[.val (.int p1), .val (.int p2), .val (.int p3), .val (.int p4), .val (.int p5), .val (.int pa), .val (.int ra), .val (.int kd), .val (.ref b5), .val (.ref b28), .val (.int (1 : Int32))] [(.ref b28)])) rfl (by rw [hml]; rfl) (Steps.refl _) (argsL := []) (rest := []) (lenOf pd_5 rfl) rfl (by show 2 * 0 + _ ≤ _; exact Nat.le_of_eq rfl) (hb hby at_156) (fun _ _ => ⟨rfl, eh29, (by decide : 4 + 0 ≤ _), (by decide : 44 + 0 ≤ _)⟩)
          dsimp only [Pt.U, Pt.locs, Pt.cells, Pt.slots] at X30 l30 y30 z30 st30 hQ30
          subst l30 y30 z30
          obtain ⟨rfl, N30q, eh30⟩ := hQ30
          have N30 := Fr.app N29 N30q
          obtain ⟨cq31, kq31, q31a, q31b, q31c⟩ := isOf hZ28 eh30 E28c
          obtain ⟨_, _, ⟨T31, L31, k31, n31⟩, -, X31, ⟨Lc31, hQ31, l31, y31, z31⟩, st31⟩ := X30.virtualBack hx (y := (⟨"com/example/racewitness/racewitness/analysis/Race", "racyEvent", "()I"⟩ : MethodName)) (z := (⟨"com/example/racewitness/racewitness/analysis/Race", "racyEvent", "()I"⟩ : MethodName)) hown28 (mvT hZ28 (hw _ (List.mem_of_getElem? (i := 34) rfl))) (mvT hZ28 (hw _ (List.mem_of_getElem? (i := 35) rfl))) (notFace_of_selects (args := #[]) (mvT hZ28 (hw _ (List.mem_of_getElem? (i := 37) rfl)))) (mvT hZ28 (hw _ (List.mem_of_getElem? (i := 37) rfl))) (mvT hZ28 (hw _ (List.mem_of_getElem? (i := 36) rfl))) (by decide) (backOf (W := 0) (rm6 l Z a0 hw [] b28 ra T28.heap n0 (Nat.le_trans (Nat.le_trans (Nat.le_trans Z0 E5.1) (Keep.of_wr W9).1) K28c.1) F28_racyEvent) hZ28 (hw _ (List.mem_of_getElem? (i := 38) rfl)) (hw _ (List.mem_of_getElem? (i := 4) rfl)) (by decide) (by decide)) q31a q31c (g := (mkF m 166 #[.val (.int p1), .val (.int p2), .val (.int p3), .val (.int p4), .val (.int p5), .val (.int pa), .val (.int ra), .val (.int kd), .val (.ref b5), .val (.ref b28), .val (.int (1 : Int32))] [(.ref b28)])) rfl (by rw [hml]; rfl) (Steps.refl _) (argsL := []) (rest := []) (lenOf pd_5 rfl) rfl (by show 2 * 0 + _ ≤ _; exact Nat.le_of_eq rfl) (hb hby at_166) (fun _ _ => ⟨rfl, eh30, (by decide : 4 + 0 ≤ _), (by decide : 44 + 0 ≤ _)⟩)
          dsimp only [Pt.U, Pt.locs, Pt.cells, Pt.slots] at X31 l31 y31 z31 st31 hQ31
          subst l31 y31 z31
          obtain ⟨rfl, N31q, eh31⟩ := hQ31
          have N31 := Fr.app N30 N31q
          obtain ⟨fs, hr, hrun, hended, hRW⟩ := X31.leaveW hS28 (by rw [eh31]; exact (Nat.le_refl _)) (v := some (.int (1 : Int32))) (fun h => by rw [Bd.returns] at h; cases h)
          refine ⟨_, _, go22 _ ?_, hrun, hended, _, _, rfl, ?_, ⟨hRW.1, hRW.2.1, hRW.2.2.1, hRW.2.2.2.mono (by decide) (by decide)⟩⟩
          · show Steps p.tables e below (T9.setTop (mkF m 106 #[.val (.int p1), .val (.int p2), .val (.int p3), .val (.int p4), .val (.int p5), .val (.int pa), .val (.int ra), .val (.int kd), .val (.ref b5), .unset, .unset] [(.int (2 : Int32)), (.int kd)])) _
            refine XS.icmpYes X9.here hx rfl (pc0 := 106) (pc' := 130) rfl (hb hby at_106) rfl (feq hc106).2 (by decide) (by decide) ?_
            show Steps p.tables e below (T9.setTop (mkF m 130 #[.val (.int p1), .val (.int p2), .val (.int p3), .val (.int p4), .val (.int p5), .val (.int pa), .val (.int ra), .val (.int kd), .val (.ref b5), .unset, .unset] [])) _
            refine XS.iload X9.here hx rfl (hb hby at_130) rfl ?_
            show Steps p.tables e below (T9.setTop (mkF m 132 #[.val (.int p1), .val (.int p2), .val (.int p3), .val (.int p4), .val (.int p5), .val (.int pa), .val (.int ra), .val (.int kd), .val (.ref b5), .unset, .unset] [(.int pa)])) _
            refine XS.iload X9.here hx rfl (hb hby at_132) rfl ?_
            show Steps p.tables e below (T9.setTop (mkF m 134 #[.val (.int p1), .val (.int p2), .val (.int p3), .val (.int p4), .val (.int p5), .val (.int pa), .val (.int ra), .val (.int kd), .val (.ref b5), .unset, .unset] [(.int ra), (.int pa)])) _
            refine XS.aload X9.here hx rfl (hb hby at_134) rfl rfl ?_
            show Steps p.tables e below (T9.setTop (mkF m 136 #[.val (.int p1), .val (.int p2), .val (.int p3), .val (.int p4), .val (.int p5), .val (.int pa), .val (.int ra), .val (.int kd), .val (.ref b5), .unset, .unset] [(.ref b5), (.int ra), (.int pa)])) _
            refine st28.trans ?_
            show Steps p.tables e below (T28.setTop (mkF m 139 #[.val (.int p1), .val (.int p2), .val (.int p3), .val (.int p4), .val (.int p5), .val (.int pa), .val (.int ra), .val (.int kd), .val (.ref b5), .unset, .unset] [(.ref b28)])) _
            refine XS.astore X28.here hx rfl (hb hby at_139) rfl rfl (l' := #[.val (.int p1), .val (.int p2), .val (.int p3), .val (.int p4), .val (.int p5), .val (.int pa), .val (.int ra), .val (.int kd), .val (.ref b5), .val (.ref b28), .unset]) rfl ?_
            show Steps p.tables e below (T28.setTop (mkF m 141 #[.val (.int p1), .val (.int p2), .val (.int p3), .val (.int p4), .val (.int p5), .val (.int pa), .val (.int ra), .val (.int kd), .val (.ref b5), .val (.ref b28), .unset] [])) _
            refine XS.iconst X28.here hx rfl (hb hby at_141) ?_
            show Steps p.tables e below (T28.setTop (mkF m 142 #[.val (.int p1), .val (.int p2), .val (.int p3), .val (.int p4), .val (.int p5), .val (.int pa), .val (.int ra), .val (.int kd), .val (.ref b5), .val (.ref b28), .unset] [(.int (1 : Int32))])) _
            refine XS.istore X28.here hx rfl (hb hby at_142) rfl (l' := #[.val (.int p1), .val (.int p2), .val (.int p3), .val (.int p4), .val (.int p5), .val (.int pa), .val (.int ra), .val (.int kd), .val (.ref b5), .val (.ref b28), .val (.int (1 : Int32))]) rfl ?_
            show Steps p.tables e below (T28.setTop (mkF m 144 #[.val (.int p1), .val (.int p2), .val (.int p3), .val (.int p4), .val (.int p5), .val (.int pa), .val (.int ra), .val (.int kd), .val (.ref b5), .val (.ref b28), .val (.int (1 : Int32))] [])) _
            refine XS.aload X28.here hx rfl (hb hby at_144) rfl rfl ?_
            show Steps p.tables e below (T28.setTop (mkF m 146 #[.val (.int p1), .val (.int p2), .val (.int p3), .val (.int p4), .val (.int p5), .val (.int pa), .val (.int ra), .val (.int kd), .val (.ref b5), .val (.ref b28), .val (.int (1 : Int32))] [(.ref b28)])) _
            refine st29.trans ?_
            show Steps p.tables e below (T29.setTop (mkF m 149 #[.val (.int p1), .val (.int p2), .val (.int p3), .val (.int p4), .val (.int p5), .val (.int pa), .val (.int ra), .val (.int kd), .val (.ref b5), .val (.ref b28), .val (.int (1 : Int32))] [(.int (1 : Int32))])) _
            refine XS.iload X29.here hx rfl (hb hby at_149) rfl ?_
            show Steps p.tables e below (T29.setTop (mkF m 151 #[.val (.int p1), .val (.int p2), .val (.int p3), .val (.int p4), .val (.int p5), .val (.int pa), .val (.int ra), .val (.int kd), .val (.ref b5), .val (.ref b28), .val (.int (1 : Int32))] [(.int (1 : Int32)), (.int (1 : Int32))])) _
            refine XS.icmpNo X29.here hx rfl (hb hby at_151) rfl (teq rfl).2 ?_
            show Steps p.tables e below (T29.setTop (mkF m 154 #[.val (.int p1), .val (.int p2), .val (.int p3), .val (.int p4), .val (.int p5), .val (.int pa), .val (.int ra), .val (.int kd), .val (.ref b5), .val (.ref b28), .val (.int (1 : Int32))] [])) _
            refine XS.aload X29.here hx rfl (hb hby at_154) rfl rfl ?_
            show Steps p.tables e below (T29.setTop (mkF m 156 #[.val (.int p1), .val (.int p2), .val (.int p3), .val (.int p4), .val (.int p5), .val (.int pa), .val (.int ra), .val (.int kd), .val (.ref b5), .val (.ref b28), .val (.int (1 : Int32))] [(.ref b28)])) _
            refine st30.trans ?_
            show Steps p.tables e below (T30.setTop (mkF m 159 #[.val (.int p1), .val (.int p2), .val (.int p3), .val (.int p4), .val (.int p5), .val (.int pa), .val (.int ra), .val (.int kd), .val (.ref b5), .val (.ref b28), .val (.int (1 : Int32))] [(.int pa)])) _
            refine XS.iload X30.here hx rfl (hb hby at_159) rfl ?_
            show Steps p.tables e below (T30.setTop (mkF m 161 #[.val (.int p1), .val (.int p2), .val (.int p3), .val (.int p4), .val (.int p5), .val (.int pa), .val (.int ra), .val (.int kd), .val (.ref b5), .val (.ref b28), .val (.int (1 : Int32))] [(.int pa), (.int pa)])) _
            refine XS.icmpNo X30.here hx rfl (hb hby at_161) rfl (teq rfl).2 ?_
            show Steps p.tables e below (T30.setTop (mkF m 164 #[.val (.int p1), .val (.int p2), .val (.int p3), .val (.int p4), .val (.int p5), .val (.int pa), .val (.int ra), .val (.int kd), .val (.ref b5), .val (.ref b28), .val (.int (1 : Int32))] [])) _
            refine XS.aload X30.here hx rfl (hb hby at_164) rfl rfl ?_
            show Steps p.tables e below (T30.setTop (mkF m 166 #[.val (.int p1), .val (.int p2), .val (.int p3), .val (.int p4), .val (.int p5), .val (.int pa), .val (.int ra), .val (.int kd), .val (.ref b5), .val (.ref b28), .val (.int (1 : Int32))] [(.ref b28)])) _
            refine st31.trans ?_
            show Steps p.tables e below (T31.setTop (mkF m 169 #[.val (.int p1), .val (.int p2), .val (.int p3), .val (.int p4), .val (.int p5), .val (.int pa), .val (.int ra), .val (.int kd), .val (.ref b5), .val (.ref b28), .val (.int (1 : Int32))] [(.int ra)])) _
            refine XS.iload X31.here hx rfl (hb hby at_169) rfl ?_
            show Steps p.tables e below (T31.setTop (mkF m 171 #[.val (.int p1), .val (.int p2), .val (.int p3), .val (.int p4), .val (.int p5), .val (.int pa), .val (.int ra), .val (.int kd), .val (.ref b5), .val (.ref b28), .val (.int (1 : Int32))] [(.int ra), (.int ra)])) _
            refine XS.icmpNo X31.here hx rfl (hb hby at_171) rfl (teq rfl).2 ?_
            show Steps p.tables e below (T31.setTop (mkF m 174 #[.val (.int p1), .val (.int p2), .val (.int p3), .val (.int p4), .val (.int p5), .val (.int pa), .val (.int ra), .val (.int kd), .val (.ref b5), .val (.ref b28), .val (.int (1 : Int32))] [])) _
            refine XS.iconst X31.here hx rfl (hb hby at_174) ?_
            show Steps p.tables e below (T31.setTop (mkF m 175 #[.val (.int p1), .val (.int p2), .val (.int p3), .val (.int p4), .val (.int p5), .val (.int pa), .val (.int ra), .val (.int kd), .val (.ref b5), .val (.ref b28), .val (.int (1 : Int32))] [(.int (1 : Int32))])) _
            refine XS.goto X31.here hx rfl (pc0 := 175) (pc' := 179) rfl (hb hby at_175) (by decide) (by decide) ?_
            show Steps p.tables e below (T31.setTop (mkF m 179 #[.val (.int p1), .val (.int p2), .val (.int p3), .val (.int p4), .val (.int p5), .val (.int pa), .val (.int ra), .val (.int kd), .val (.ref b5), .val (.ref b28), .val (.int (1 : Int32))] [(.int (1 : Int32))])) _
            exact retN X31 hx (t := .boolean) Bd.returns (by simp) (hb hby at_179) hr
          · show Q0 Z p1 p2 p3 p4 p5 h0 n0 _ T31.heap _
            rw [eh31]
            exact ⟨rfl, N31⟩
  · -- pc 41: taken
    have go32 : ∀ t, Steps p.tables e below (T5.setTop (mkF m 52 #[.val (.int p1), .val (.int p2), .val (.int p3), .val (.int p4), .val (.int p5), .val (.int pa), .val (.int ra), .val (.int kd), .val (.ref b5), .unset, .unset] [(.int kd)])) t → Steps p.tables e below (s₁.setTop (entryFrame m #[(.int p1), (.int p2), (.int p3), (.int p4), (.int p5)] maxLocals)) t := by
      intro t kt
      refine go7 t ?_
      show Steps p.tables e below (T5.setTop (mkF m 41 #[.val (.int p1), .val (.int p2), .val (.int p3), .val (.int p4), .val (.int p5), .val (.int pa), .val (.int ra), .val (.int kd), .val (.ref b5), .unset, .unset] [(.int ln)])) _
      refine XS.ifYes X5.here hx rfl (pc0 := 41) (pc' := 50) rfl (hb hby at_41) rfl ((if0 _ _).trans (flt hc41).2.2.2) (by decide) (by decide) ?_
      show Steps p.tables e below (T5.setTop (mkF m 50 #[.val (.int p1), .val (.int p2), .val (.int p3), .val (.int p4), .val (.int p5), .val (.int pa), .val (.int ra), .val (.int kd), .val (.ref b5), .unset, .unset] [])) _
      refine XS.iload X5.here hx rfl (hb hby at_50) rfl ?_
      exact kt
    by_cases hc52 : kd = (0 : Int32)
    · -- pc 52: not taken
      obtain ⟨T33, h33, X33, e33, E33, A33, D33, -, st33⟩ := newO X5 hx hZ hown (hw _ (List.mem_of_getElem? (i := 2) rfl)) (hw _ (List.mem_of_getElem? (i := 3) rfl)) (hw _ (List.mem_of_getElem? (i := 4) rfl)) e5 (g := (mkF m 55 #[.val (.int p1), .val (.int p2), .val (.int p3), .val (.int p4), .val (.int p5), .val (.int pa), .val (.int ra), .val (.int kd), .val (.ref b5), .unset, .unset] [])) rfl (hb hby at_55) (by decide) (by decide)
      obtain ⟨b33, g33⟩ : ∃ z, z = h5.size := ⟨_, rfl⟩
      rw [← g33] at A33 D33 st33
      have ne_b5_b33 : b5 ≠ b33 := Nat.ne_of_lt (Nat.lt_of_lt_of_le EA5.lt (Nat.le_of_eq g33.symm))
      have E33_b5 := EA5.ext E33
      have ge_b33 : n0 ≤ b33 := (Nat.le_trans (Nat.le_trans Z0 E5.1) (Nat.le_of_eq g33.symm))
      have F33_b33_partner : Fld Z h33 b33 "com/example/racewitness/racewitness/analysis/Race" "partner" "I" (.int (0 : Int32)) := D33 (Or.inr (hw _ (List.mem_of_getElem? (i := 15) rfl))) (ty := .int) (by decide)
      have F33_b33_racyEvent : Fld Z h33 b33 "com/example/racewitness/racewitness/analysis/Race" "racyEvent" "I" (.int (0 : Int32)) := D33 (Or.inr (hw _ (List.mem_of_getElem? (i := 17) rfl))) (ty := .int) (by decide)
      have F33_b33_lastScheduled : Fld Z h33 b33 "com/example/racewitness/racewitness/analysis/Race" "lastScheduled" "[I" .null := D33 (Or.inr (hw _ (List.mem_of_getElem? (i := 19) rfl))) (ty := (.array .int)) (by decide)
      have F33_b33_schedule : Fld Z h33 b33 "com/example/racewitness/racewitness/analysis/Race" "schedule" "[I" .null := D33 (Or.inr (hw _ (List.mem_of_getElem? (i := 21) rfl))) (ty := (.array .int)) (by decide)
      have F33_b33_prefixWitness : Fld Z h33 b33 "com/example/racewitness/racewitness/analysis/Race" "prefixWitness" "Lcom/example/racewitness/racewitness/analysis/Race$PrefixWitness;" .null := D33 (Or.inr (hw _ (List.mem_of_getElem? (i := 23) rfl))) (ty := (.object "com/example/racewitness/racewitness/analysis/Race$PrefixWitness")) (by decide)
      obtain ⟨_, _, ⟨T34, L34, k34, n34⟩, -, X34, ⟨Lc34, hQ34, l34, y34, z34⟩, st34⟩ := X33.specialBack hx (y := (⟨"com/example/racewitness/racewitness/analysis/Race", "<init>", "(II)V"⟩ : MethodName)) rfl hown (mvT hZ (hw _ (List.mem_of_getElem? (i := 57) rfl))) (mvT hZ (hw _ (List.mem_of_getElem? (i := 58) rfl))) (mvT hZ (hw _ (List.mem_of_getElem? (i := 59) rfl))) (by decide) (backOf (W := 1) (rm9 l Z a0 hw [] b33 pa ra h33 n0 (Nat.le_trans (Nat.le_trans Z0 E5.1) E33.1) ge_b33 A33 F33_b33_partner F33_b33_racyEvent F33_b33_lastScheduled F33_b33_schedule F33_b33_prefixWitness hra.1 hra.2) hZ (hw _ (List.mem_of_getElem? (i := 59) rfl)) (hw _ (List.mem_of_getElem? (i := 4) rfl)) (by decide) (by decide)) (g := (mkF m 63 #[.val (.int p1), .val (.int p2), .val (.int p3), .val (.int p4), .val (.int p5), .val (.int pa), .val (.int ra), .val (.int kd), .val (.ref b5), .unset, .unset] [(.int ra), (.int pa), (.ref b33), (.ref b33)])) rfl (by rw [hml]; rfl) (Steps.refl _) (a := b33) (argsL := [(.int pa), (.int ra)]) (rest := [(.ref b33)]) (lenOf pd_3 rfl) rfl (by show 2 * 0 + _ ≤ _; exact Nat.le_of_eq rfl) (hb hby at_63) (fun _ _ => ⟨rfl, e33, (by decide : 2 + 0 ≤ _), (by decide : 8 + 0 ≤ _)⟩)
      dsimp only [Pt.U, Pt.locs, Pt.cells, Pt.slots] at X34 l34 y34 z34 st34 hQ34
      subst l34 y34 z34
      obtain ⟨rfl, N34q, K34c, F34_partner, F34_racyEvent, F34_lastScheduled, F34_schedule, F34_prefixWitness⟩ := hQ34
      have N34 := Fr.app N0 N34q
      have E34_b5 := E33_b5.keep K34c
      have E34_b33 := A33.keep K34c
      obtain ⟨cq35, kq35, q35a, q35b, q35c⟩ := isOf hZ rfl E34_b33
      obtain ⟨_, _, ⟨T35, L35, k35, n35⟩, -, X35, ⟨Lc35, hQ35, l35, y35, z35⟩, st35⟩ := X34.virtualBack hx (y := (⟨"com/example/racewitness/racewitness/analysis/Race", "hasWitness", "()Z"⟩ : MethodName)) (z := (⟨"com/example/racewitness/racewitness/analysis/Race", "hasWitness", "()Z"⟩ : MethodName)) hown (mvT hZ (hw _ (List.mem_of_getElem? (i := 24) rfl))) (mvT hZ (hw _ (List.mem_of_getElem? (i := 25) rfl))) (notFace_of_selects (args := #[]) (mvT hZ (hw _ (List.mem_of_getElem? (i := 27) rfl)))) (mvT hZ (hw _ (List.mem_of_getElem? (i := 27) rfl))) (mvT hZ (hw _ (List.mem_of_getElem? (i := 26) rfl))) (by decide) (backOf (W := 0) (rm4b l Z a0 hw [] b33 pa ra T34.heap n0 (Nat.le_trans (Nat.le_trans (Nat.le_trans Z0 E5.1) E33.1) K34c.1) F34_partner F34_racyEvent F34_lastScheduled F34_schedule F34_prefixWitness) hZ (hw _ (List.mem_of_getElem? (i := 28) rfl)) (hw _ (List.mem_of_getElem? (i := 4) rfl)) (by decide) (by decide)) q35a q35c (g := (mkF m 146 #[.val (.int p1), .val (.int p2), .val (.int p3), .val (.int p4), .val (.int p5), .val (.int pa), .val (.int ra), .val (.int kd), .val (.ref b5), .val (.ref b33), .val (.int (0 : Int32))] [(.ref b33)])) rfl (by rw [hml]; rfl) (Steps.refl _) (argsL := []) (rest := []) (lenOf pd_4 rfl) rfl (by show 2 * 0 + _ ≤ _; exact Nat.le_of_eq rfl) (hb hby at_146) (fun _ _ => ⟨rfl, rfl, (by decide : 2 + 0 ≤ _), (by decide : 8 + 0 ≤ _)⟩)
      dsimp only [Pt.U, Pt.locs, Pt.cells, Pt.slots] at X35 l35 y35 z35 st35 hQ35
      subst l35 y35 z35
      obtain ⟨rfl, N35q, eh35⟩ := hQ35
      have N35 := Fr.app N34 N35q
      obtain ⟨cq36, kq36, q36a, q36b, q36c⟩ := isOf hZ eh35 E34_b33
      obtain ⟨_, _, ⟨T36, L36, k36, n36⟩, -, X36, ⟨Lc36, hQ36, l36, y36, z36⟩, st36⟩ := X35.virtualBack hx (y := (⟨"com/example/racewitness/racewitness/analysis/Race", "partner", "()I"⟩ : MethodName)) (z := (⟨"com/example/racewitness/racewitness/analysis/Race", "partner", "()I"⟩ : MethodName)) hown (mvT hZ (hw _ (List.mem_of_getElem? (i := 29) rfl))) (mvT hZ (hw _ (List.mem_of_getElem? (i := 30) rfl))) (notFace_of_selects (args := #[]) (mvT hZ (hw _ (List.mem_of_getElem? (i := 32) rfl)))) (mvT hZ (hw _ (List.mem_of_getElem? (i := 32) rfl))) (mvT hZ (hw _ (List.mem_of_getElem? (i := 31) rfl))) (by decide) (backOf (W := 0) (rm5 l Z a0 hw [] b33 pa T34.heap n0 (Nat.le_trans (Nat.le_trans (Nat.le_trans Z0 E5.1) E33.1) K34c.1) F34_partner) hZ (hw _ (List.mem_of_getElem? (i := 33) rfl)) (hw _ (List.mem_of_getElem? (i := 4) rfl)) (by decide) (by decide)) q36a q36c (g := (mkF m 156 #[.val (.int p1), .val (.int p2), .val (.int p3), .val (.int p4), .val (.int p5), .val (.int pa), .val (.int ra), .val (.int kd), .val (.ref b5), .val (.ref b33), .val (.int (0 : Int32))] [(.ref b33)])) rfl (by rw [hml]; rfl) (Steps.refl _) (argsL := []) (rest := []) (lenOf pd_5 rfl) rfl (by show 2 * 0 + _ ≤ _; exact Nat.le_of_eq rfl) (hb hby at_156) (fun _ _ => ⟨rfl, eh35, (by decide : 2 + 0 ≤ _), (by decide : 8 + 0 ≤ _)⟩)
      dsimp only [Pt.U, Pt.locs, Pt.cells, Pt.slots] at X36 l36 y36 z36 st36 hQ36
      subst l36 y36 z36
      obtain ⟨rfl, N36q, eh36⟩ := hQ36
      have N36 := Fr.app N35 N36q
      obtain ⟨cq37, kq37, q37a, q37b, q37c⟩ := isOf hZ eh36 E34_b33
      obtain ⟨_, _, ⟨T37, L37, k37, n37⟩, -, X37, ⟨Lc37, hQ37, l37, y37, z37⟩, st37⟩ := X36.virtualBack hx (y := (⟨"com/example/racewitness/racewitness/analysis/Race", "racyEvent", "()I"⟩ : MethodName)) (z := (⟨"com/example/racewitness/racewitness/analysis/Race", "racyEvent", "()I"⟩ : MethodName)) hown (mvT hZ (hw _ (List.mem_of_getElem? (i := 34) rfl))) (mvT hZ (hw _ (List.mem_of_getElem? (i := 35) rfl))) (notFace_of_selects (args := #[]) (mvT hZ (hw _ (List.mem_of_getElem? (i := 37) rfl)))) (mvT hZ (hw _ (List.mem_of_getElem? (i := 37) rfl))) (mvT hZ (hw _ (List.mem_of_getElem? (i := 36) rfl))) (by decide) (backOf (W := 0) (rm6 l Z a0 hw [] b33 ra T34.heap n0 (Nat.le_trans (Nat.le_trans (Nat.le_trans Z0 E5.1) E33.1) K34c.1) F34_racyEvent) hZ (hw _ (List.mem_of_getElem? (i := 38) rfl)) (hw _ (List.mem_of_getElem? (i := 4) rfl)) (by decide) (by decide)) q37a q37c (g := (mkF m 166 #[.val (.int p1), .val (.int p2), .val (.int p3), .val (.int p4), .val (.int p5), .val (.int pa), .val (.int ra), .val (.int kd), .val (.ref b5), .val (.ref b33), .val (.int (0 : Int32))] [(.ref b33)])) rfl (by rw [hml]; rfl) (Steps.refl _) (argsL := []) (rest := []) (lenOf pd_5 rfl) rfl (by show 2 * 0 + _ ≤ _; exact Nat.le_of_eq rfl) (hb hby at_166) (fun _ _ => ⟨rfl, eh36, (by decide : 2 + 0 ≤ _), (by decide : 8 + 0 ≤ _)⟩)
      dsimp only [Pt.U, Pt.locs, Pt.cells, Pt.slots] at X37 l37 y37 z37 st37 hQ37
      subst l37 y37 z37
      obtain ⟨rfl, N37q, eh37⟩ := hQ37
      have N37 := Fr.app N36 N37q
      obtain ⟨fs, hr, hrun, hended, hRW⟩ := X37.leaveW hS0 (by rw [eh37]; exact (Nat.le_trans (Nat.le_trans (Nat.le_trans (Nat.zero_le _) E5.1) E33.1) K34c.1)) (v := some (.int (1 : Int32))) (fun h => by rw [Bd.returns] at h; cases h)
      refine ⟨_, _, go32 _ ?_, hrun, hended, _, _, rfl, ?_, ⟨hRW.1, hRW.2.1, hRW.2.2.1, hRW.2.2.2.mono (by decide) (by decide)⟩⟩
      · show Steps p.tables e below (T5.setTop (mkF m 52 #[.val (.int p1), .val (.int p2), .val (.int p3), .val (.int p4), .val (.int p5), .val (.int pa), .val (.int ra), .val (.int kd), .val (.ref b5), .unset, .unset] [(.int kd)])) _
        refine XS.ifNo X5.here hx rfl (hb hby at_52) rfl ((if0 _ _).trans (teq hc52).2) ?_
        show Steps p.tables e below (T5.setTop (mkF m 55 #[.val (.int p1), .val (.int p2), .val (.int p3), .val (.int p4), .val (.int p5), .val (.int pa), .val (.int ra), .val (.int kd), .val (.ref b5), .unset, .unset] [])) _
        refine st33 _ ?_
        show Steps p.tables e below (T33.setTop (mkF m 58 #[.val (.int p1), .val (.int p2), .val (.int p3), .val (.int p4), .val (.int p5), .val (.int pa), .val (.int ra), .val (.int kd), .val (.ref b5), .unset, .unset] [(.ref b33)])) _
        refine XS.dup X33.here hx rfl (hb hby at_58) rfl rfl ?_
        show Steps p.tables e below (T33.setTop (mkF m 59 #[.val (.int p1), .val (.int p2), .val (.int p3), .val (.int p4), .val (.int p5), .val (.int pa), .val (.int ra), .val (.int kd), .val (.ref b5), .unset, .unset] [(.ref b33), (.ref b33)])) _
        refine XS.iload X33.here hx rfl (hb hby at_59) rfl ?_
        show Steps p.tables e below (T33.setTop (mkF m 61 #[.val (.int p1), .val (.int p2), .val (.int p3), .val (.int p4), .val (.int p5), .val (.int pa), .val (.int ra), .val (.int kd), .val (.ref b5), .unset, .unset] [(.int pa), (.ref b33), (.ref b33)])) _
        refine XS.iload X33.here hx rfl (hb hby at_61) rfl ?_
        show Steps p.tables e below (T33.setTop (mkF m 63 #[.val (.int p1), .val (.int p2), .val (.int p3), .val (.int p4), .val (.int p5), .val (.int pa), .val (.int ra), .val (.int kd), .val (.ref b5), .unset, .unset] [(.int ra), (.int pa), (.ref b33), (.ref b33)])) _
        refine st34.trans ?_
        show Steps p.tables e below (T34.setTop (mkF m 66 #[.val (.int p1), .val (.int p2), .val (.int p3), .val (.int p4), .val (.int p5), .val (.int pa), .val (.int ra), .val (.int kd), .val (.ref b5), .unset, .unset] [(.ref b33)])) _
        refine XS.astore X34.here hx rfl (hb hby at_66) rfl rfl (l' := #[.val (.int p1), .val (.int p2), .val (.int p3), .val (.int p4), .val (.int p5), .val (.int pa), .val (.int ra), .val (.int kd), .val (.ref b5), .val (.ref b33), .unset]) rfl ?_
        show Steps p.tables e below (T34.setTop (mkF m 68 #[.val (.int p1), .val (.int p2), .val (.int p3), .val (.int p4), .val (.int p5), .val (.int pa), .val (.int ra), .val (.int kd), .val (.ref b5), .val (.ref b33), .unset] [])) _
        refine XS.iconst X34.here hx rfl (hb hby at_68) ?_
        show Steps p.tables e below (T34.setTop (mkF m 69 #[.val (.int p1), .val (.int p2), .val (.int p3), .val (.int p4), .val (.int p5), .val (.int pa), .val (.int ra), .val (.int kd), .val (.ref b5), .val (.ref b33), .unset] [(.int (0 : Int32))])) _
        refine XS.istore X34.here hx rfl (hb hby at_69) rfl (l' := #[.val (.int p1), .val (.int p2), .val (.int p3), .val (.int p4), .val (.int p5), .val (.int pa), .val (.int ra), .val (.int kd), .val (.ref b5), .val (.ref b33), .val (.int (0 : Int32))]) rfl ?_
        show Steps p.tables e below (T34.setTop (mkF m 71 #[.val (.int p1), .val (.int p2), .val (.int p3), .val (.int p4), .val (.int p5), .val (.int pa), .val (.int ra), .val (.int kd), .val (.ref b5), .val (.ref b33), .val (.int (0 : Int32))] [])) _
        refine XS.goto X34.here hx rfl (pc0 := 71) (pc' := 144) rfl (hb hby at_71) (by decide) (by decide) ?_
        show Steps p.tables e below (T34.setTop (mkF m 144 #[.val (.int p1), .val (.int p2), .val (.int p3), .val (.int p4), .val (.int p5), .val (.int pa), .val (.int ra), .val (.int kd), .val (.ref b5), .val (.ref b33), .val (.int (0 : Int32))] [])) _
        refine XS.aload X34.here hx rfl (hb hby at_144) rfl rfl ?_
        show Steps p.tables e below (T34.setTop (mkF m 146 #[.val (.int p1), .val (.int p2), .val (.int p3), .val (.int p4), .val (.int p5), .val (.int pa), .val (.int ra), .val (.int kd), .val (.ref b5), .val (.ref b33), .val (.int (0 : Int32))] [(.ref b33)])) _
        refine st35.trans ?_
        show Steps p.tables e below (T35.setTop (mkF m 149 #[.val (.int p1), .val (.int p2), .val (.int p3), .val (.int p4), .val (.int p5), .val (.int pa), .val (.int ra), .val (.int kd), .val (.ref b5), .val (.ref b33), .val (.int (0 : Int32))] [(.int (0 : Int32))])) _
        refine XS.iload X35.here hx rfl (hb hby at_149) rfl ?_
        show Steps p.tables e below (T35.setTop (mkF m 151 #[.val (.int p1), .val (.int p2), .val (.int p3), .val (.int p4), .val (.int p5), .val (.int pa), .val (.int ra), .val (.int kd), .val (.ref b5), .val (.ref b33), .val (.int (0 : Int32))] [(.int (0 : Int32)), (.int (0 : Int32))])) _
        refine XS.icmpNo X35.here hx rfl (hb hby at_151) rfl (teq rfl).2 ?_
        show Steps p.tables e below (T35.setTop (mkF m 154 #[.val (.int p1), .val (.int p2), .val (.int p3), .val (.int p4), .val (.int p5), .val (.int pa), .val (.int ra), .val (.int kd), .val (.ref b5), .val (.ref b33), .val (.int (0 : Int32))] [])) _
        refine XS.aload X35.here hx rfl (hb hby at_154) rfl rfl ?_
        show Steps p.tables e below (T35.setTop (mkF m 156 #[.val (.int p1), .val (.int p2), .val (.int p3), .val (.int p4), .val (.int p5), .val (.int pa), .val (.int ra), .val (.int kd), .val (.ref b5), .val (.ref b33), .val (.int (0 : Int32))] [(.ref b33)])) _
        refine st36.trans ?_
        show Steps p.tables e below (T36.setTop (mkF m 159 #[.val (.int p1), .val (.int p2), .val (.int p3), .val (.int p4), .val (.int p5), .val (.int pa), .val (.int ra), .val (.int kd), .val (.ref b5), .val (.ref b33), .val (.int (0 : Int32))] [(.int pa)])) _
        refine XS.iload X36.here hx rfl (hb hby at_159) rfl ?_
        show Steps p.tables e below (T36.setTop (mkF m 161 #[.val (.int p1), .val (.int p2), .val (.int p3), .val (.int p4), .val (.int p5), .val (.int pa), .val (.int ra), .val (.int kd), .val (.ref b5), .val (.ref b33), .val (.int (0 : Int32))] [(.int pa), (.int pa)])) _
        refine XS.icmpNo X36.here hx rfl (hb hby at_161) rfl (teq rfl).2 ?_
        show Steps p.tables e below (T36.setTop (mkF m 164 #[.val (.int p1), .val (.int p2), .val (.int p3), .val (.int p4), .val (.int p5), .val (.int pa), .val (.int ra), .val (.int kd), .val (.ref b5), .val (.ref b33), .val (.int (0 : Int32))] [])) _
        refine XS.aload X36.here hx rfl (hb hby at_164) rfl rfl ?_
        show Steps p.tables e below (T36.setTop (mkF m 166 #[.val (.int p1), .val (.int p2), .val (.int p3), .val (.int p4), .val (.int p5), .val (.int pa), .val (.int ra), .val (.int kd), .val (.ref b5), .val (.ref b33), .val (.int (0 : Int32))] [(.ref b33)])) _
        refine st37.trans ?_
        show Steps p.tables e below (T37.setTop (mkF m 169 #[.val (.int p1), .val (.int p2), .val (.int p3), .val (.int p4), .val (.int p5), .val (.int pa), .val (.int ra), .val (.int kd), .val (.ref b5), .val (.ref b33), .val (.int (0 : Int32))] [(.int ra)])) _
        refine XS.iload X37.here hx rfl (hb hby at_169) rfl ?_
        show Steps p.tables e below (T37.setTop (mkF m 171 #[.val (.int p1), .val (.int p2), .val (.int p3), .val (.int p4), .val (.int p5), .val (.int pa), .val (.int ra), .val (.int kd), .val (.ref b5), .val (.ref b33), .val (.int (0 : Int32))] [(.int ra), (.int ra)])) _
        refine XS.icmpNo X37.here hx rfl (hb hby at_171) rfl (teq rfl).2 ?_
        show Steps p.tables e below (T37.setTop (mkF m 174 #[.val (.int p1), .val (.int p2), .val (.int p3), .val (.int p4), .val (.int p5), .val (.int pa), .val (.int ra), .val (.int kd), .val (.ref b5), .val (.ref b33), .val (.int (0 : Int32))] [])) _
        refine XS.iconst X37.here hx rfl (hb hby at_174) ?_
        show Steps p.tables e below (T37.setTop (mkF m 175 #[.val (.int p1), .val (.int p2), .val (.int p3), .val (.int p4), .val (.int p5), .val (.int pa), .val (.int ra), .val (.int kd), .val (.ref b5), .val (.ref b33), .val (.int (0 : Int32))] [(.int (1 : Int32))])) _
        refine XS.goto X37.here hx rfl (pc0 := 175) (pc' := 179) rfl (hb hby at_175) (by decide) (by decide) ?_
        show Steps p.tables e below (T37.setTop (mkF m 179 #[.val (.int p1), .val (.int p2), .val (.int p3), .val (.int p4), .val (.int p5), .val (.int pa), .val (.int ra), .val (.int kd), .val (.ref b5), .val (.ref b33), .val (.int (0 : Int32))] [(.int (1 : Int32))])) _
        exact retN X37 hx (t := .boolean) Bd.returns (by simp) (hb hby at_179) hr
      · show Q0 Z p1 p2 p3 p4 p5 h0 n0 _ T37.heap _
        rw [eh37]
        exact ⟨rfl, N37⟩
    · -- pc 52: taken
      have go38 : ∀ t, Steps p.tables e below (T5.setTop (mkF m 77 #[.val (.int p1), .val (.int p2), .val (.int p3), .val (.int p4), .val (.int p5), .val (.int pa), .val (.int ra), .val (.int kd), .val (.ref b5), .unset, .unset] [(.int (1 : Int32)), (.int kd)])) t → Steps p.tables e below (s₁.setTop (entryFrame m #[(.int p1), (.int p2), (.int p3), (.int p4), (.int p5)] maxLocals)) t := by
        intro t kt
        refine go32 t ?_
        show Steps p.tables e below (T5.setTop (mkF m 52 #[.val (.int p1), .val (.int p2), .val (.int p3), .val (.int p4), .val (.int p5), .val (.int pa), .val (.int ra), .val (.int kd), .val (.ref b5), .unset, .unset] [(.int kd)])) _
        refine XS.ifYes X5.here hx rfl (pc0 := 52) (pc' := 74) rfl (hb hby at_52) rfl ((if0 _ _).trans (feq hc52).2) (by decide) (by decide) ?_
        show Steps p.tables e below (T5.setTop (mkF m 74 #[.val (.int p1), .val (.int p2), .val (.int p3), .val (.int p4), .val (.int p5), .val (.int pa), .val (.int ra), .val (.int kd), .val (.ref b5), .unset, .unset] [])) _
        refine XS.iload X5.here hx rfl (hb hby at_74) rfl ?_
        show Steps p.tables e below (T5.setTop (mkF m 76 #[.val (.int p1), .val (.int p2), .val (.int p3), .val (.int p4), .val (.int p5), .val (.int pa), .val (.int ra), .val (.int kd), .val (.ref b5), .unset, .unset] [(.int kd)])) _
        refine XS.iconst X5.here hx rfl (hb hby at_76) ?_
        exact kt
      by_cases hc77 : kd = (1 : Int32)
      · -- pc 77: not taken
        obtain ⟨T39, h39, X39, e39, E39, A39, D39, -, st39⟩ := newO X5 hx hZ hown (hw _ (List.mem_of_getElem? (i := 2) rfl)) (hw _ (List.mem_of_getElem? (i := 3) rfl)) (hw _ (List.mem_of_getElem? (i := 4) rfl)) e5 (g := (mkF m 80 #[.val (.int p1), .val (.int p2), .val (.int p3), .val (.int p4), .val (.int p5), .val (.int pa), .val (.int ra), .val (.int kd), .val (.ref b5), .unset, .unset] [])) rfl (hb hby at_80) (by decide) (by decide)
        obtain ⟨b39, g39⟩ : ∃ z, z = h5.size := ⟨_, rfl⟩
        rw [← g39] at A39 D39 st39
        have ne_b5_b39 : b5 ≠ b39 := Nat.ne_of_lt (Nat.lt_of_lt_of_le EA5.lt (Nat.le_of_eq g39.symm))
        have E39_b5 := EA5.ext E39
        have ge_b39 : n0 ≤ b39 := (Nat.le_trans (Nat.le_trans Z0 E5.1) (Nat.le_of_eq g39.symm))
        have F39_b39_partner : Fld Z h39 b39 "com/example/racewitness/racewitness/analysis/Race" "partner" "I" (.int (0 : Int32)) := D39 (Or.inr (hw _ (List.mem_of_getElem? (i := 15) rfl))) (ty := .int) (by decide)
        have F39_b39_racyEvent : Fld Z h39 b39 "com/example/racewitness/racewitness/analysis/Race" "racyEvent" "I" (.int (0 : Int32)) := D39 (Or.inr (hw _ (List.mem_of_getElem? (i := 17) rfl))) (ty := .int) (by decide)
        have F39_b39_lastScheduled : Fld Z h39 b39 "com/example/racewitness/racewitness/analysis/Race" "lastScheduled" "[I" .null := D39 (Or.inr (hw _ (List.mem_of_getElem? (i := 19) rfl))) (ty := (.array .int)) (by decide)
        have F39_b39_schedule : Fld Z h39 b39 "com/example/racewitness/racewitness/analysis/Race" "schedule" "[I" .null := D39 (Or.inr (hw _ (List.mem_of_getElem? (i := 21) rfl))) (ty := (.array .int)) (by decide)
        have F39_b39_prefixWitness : Fld Z h39 b39 "com/example/racewitness/racewitness/analysis/Race" "prefixWitness" "Lcom/example/racewitness/racewitness/analysis/Race$PrefixWitness;" .null := D39 (Or.inr (hw _ (List.mem_of_getElem? (i := 23) rfl))) (ty := (.object "com/example/racewitness/racewitness/analysis/Race$PrefixWitness")) (by decide)
        obtain ⟨_, _, ⟨T40, L40, k40, n40⟩, -, X40, ⟨Lc40, hQ40, l40, y40, z40⟩, st40⟩ := X39.specialBack hx (y := (⟨"com/example/racewitness/racewitness/analysis/Race", "<init>", "(II[I)V"⟩ : MethodName)) rfl hown (mvT hZ (hw _ (List.mem_of_getElem? (i := 5) rfl))) (mvT hZ (hw _ (List.mem_of_getElem? (i := 6) rfl))) (mvT hZ (hw _ (List.mem_of_getElem? (i := 7) rfl))) (by decide) (backOf (W := 1) (rm1b l Z a0 hw [] b39 pa ra h39 n0 (Nat.le_trans (Nat.le_trans Z0 E5.1) E39.1) ge_b39 A39 F39_b39_partner F39_b39_racyEvent F39_b39_lastScheduled F39_b39_schedule F39_b39_prefixWitness hra.1 hra.2) hZ (hw _ (List.mem_of_getElem? (i := 7) rfl)) (hw _ (List.mem_of_getElem? (i := 4) rfl)) (by decide) (by decide)) (g := (mkF m 92 #[.val (.int p1), .val (.int p2), .val (.int p3), .val (.int p4), .val (.int p5), .val (.int pa), .val (.int ra), .val (.int kd), .val (.ref b5), .unset, .unset] [.null, (.int ra), (.int pa), (.ref b39), (.ref b39)])) rfl (by rw [hml]; rfl) (Steps.refl _) (a := b39) (argsL := [(.int pa), (.int ra), .null]) (rest := [(.ref b39)]) (lenOf pd_1 rfl) rfl (by show 2 * 0 + _ ≤ _; exact Nat.le_of_eq rfl) (hb hby at_92) (fun _ _ => ⟨rfl, e39, (by decide : 2 + 0 ≤ _), (by decide : 8 + 0 ≤ _)⟩)
        dsimp only [Pt.U, Pt.locs, Pt.cells, Pt.slots] at X40 l40 y40 z40 st40 hQ40
        subst l40 y40 z40
        obtain ⟨rfl, N40q, K40c, F40_partner, F40_racyEvent, F40_lastScheduled, F40_schedule, F40_prefixWitness⟩ := hQ40
        have N40 := Fr.app N0 N40q
        have E40_b5 := E39_b5.keep K40c
        have E40_b39 := A39.keep K40c
        obtain ⟨cq41, kq41, q41a, q41b, q41c⟩ := isOf hZ rfl E40_b39
        obtain ⟨_, _, ⟨T41, L41, k41, n41⟩, -, X41, ⟨Lc41, hQ41, l41, y41, z41⟩, st41⟩ := X40.virtualBack hx (y := (⟨"com/example/racewitness/racewitness/analysis/Race", "hasWitness", "()Z"⟩ : MethodName)) (z := (⟨"com/example/racewitness/racewitness/analysis/Race", "hasWitness", "()Z"⟩ : MethodName)) hown (mvT hZ (hw _ (List.mem_of_getElem? (i := 24) rfl))) (mvT hZ (hw _ (List.mem_of_getElem? (i := 25) rfl))) (notFace_of_selects (args := #[]) (mvT hZ (hw _ (List.mem_of_getElem? (i := 27) rfl)))) (mvT hZ (hw _ (List.mem_of_getElem? (i := 27) rfl))) (mvT hZ (hw _ (List.mem_of_getElem? (i := 26) rfl))) (by decide) (backOf (W := 0) (rm4b l Z a0 hw [] b39 pa ra T40.heap n0 (Nat.le_trans (Nat.le_trans (Nat.le_trans Z0 E5.1) E39.1) K40c.1) F40_partner F40_racyEvent F40_lastScheduled F40_schedule F40_prefixWitness) hZ (hw _ (List.mem_of_getElem? (i := 28) rfl)) (hw _ (List.mem_of_getElem? (i := 4) rfl)) (by decide) (by decide)) q41a q41c (g := (mkF m 146 #[.val (.int p1), .val (.int p2), .val (.int p3), .val (.int p4), .val (.int p5), .val (.int pa), .val (.int ra), .val (.int kd), .val (.ref b5), .val (.ref b39), .val (.int (0 : Int32))] [(.ref b39)])) rfl (by rw [hml]; rfl) (Steps.refl _) (argsL := []) (rest := []) (lenOf pd_4 rfl) rfl (by show 2 * 0 + _ ≤ _; exact Nat.le_of_eq rfl) (hb hby at_146) (fun _ _ => ⟨rfl, rfl, (by decide : 2 + 0 ≤ _), (by decide : 8 + 0 ≤ _)⟩)
        dsimp only [Pt.U, Pt.locs, Pt.cells, Pt.slots] at X41 l41 y41 z41 st41 hQ41
        subst l41 y41 z41
        obtain ⟨rfl, N41q, eh41⟩ := hQ41
        have N41 := Fr.app N40 N41q
        obtain ⟨cq42, kq42, q42a, q42b, q42c⟩ := isOf hZ eh41 E40_b39
        obtain ⟨_, _, ⟨T42, L42, k42, n42⟩, -, X42, ⟨Lc42, hQ42, l42, y42, z42⟩, st42⟩ := X41.virtualBack hx (y := (⟨"com/example/racewitness/racewitness/analysis/Race", "partner", "()I"⟩ : MethodName)) (z := (⟨"com/example/racewitness/racewitness/analysis/Race", "partner", "()I"⟩ : MethodName)) hown (mvT hZ (hw _ (List.mem_of_getElem? (i := 29) rfl))) (mvT hZ (hw _ (List.mem_of_getElem? (i := 30) rfl))) (notFace_of_selects (args := #[]) (mvT hZ (hw _ (List.mem_of_getElem? (i := 32) rfl)))) (mvT hZ (hw _ (List.mem_of_getElem? (i := 32) rfl))) (mvT hZ (hw _ (List.mem_of_getElem? (i := 31) rfl))) (by decide) (backOf (W := 0) (rm5 l Z a0 hw [] b39 pa T40.heap n0 (Nat.le_trans (Nat.le_trans (Nat.le_trans Z0 E5.1) E39.1) K40c.1) F40_partner) hZ (hw _ (List.mem_of_getElem? (i := 33) rfl)) (hw _ (List.mem_of_getElem? (i := 4) rfl)) (by decide) (by decide)) q42a q42c (g := (mkF m 156 #[.val (.int p1), .val (.int p2), .val (.int p3), .val (.int p4), .val (.int p5), .val (.int pa), .val (.int ra), .val (.int kd), .val (.ref b5), .val (.ref b39), .val (.int (0 : Int32))] [(.ref b39)])) rfl (by rw [hml]; rfl) (Steps.refl _) (argsL := []) (rest := []) (lenOf pd_5 rfl) rfl (by show 2 * 0 + _ ≤ _; exact Nat.le_of_eq rfl) (hb hby at_156) (fun _ _ => ⟨rfl, eh41, (by decide : 2 + 0 ≤ _), (by decide : 8 + 0 ≤ _)⟩)
        dsimp only [Pt.U, Pt.locs, Pt.cells, Pt.slots] at X42 l42 y42 z42 st42 hQ42
        subst l42 y42 z42
        obtain ⟨rfl, N42q, eh42⟩ := hQ42
        have N42 := Fr.app N41 N42q
        obtain ⟨cq43, kq43, q43a, q43b, q43c⟩ := isOf hZ eh42 E40_b39
        obtain ⟨_, _, ⟨T43, L43, k43, n43⟩, -, X43, ⟨Lc43, hQ43, l43, y43, z43⟩, st43⟩ := X42.virtualBack hx (y := (⟨"com/example/racewitness/racewitness/analysis/Race", "racyEvent", "()I"⟩ : MethodName)) (z := (⟨"com/example/racewitness/racewitness/analysis/Race", "racyEvent", "()I"⟩ : MethodName)) hown (mvT hZ (hw _ (List.mem_of_getElem? (i := 34) rfl))) (mvT hZ (hw _ (List.mem_of_getElem? (i := 35) rfl))) (notFace_of_selects (args := #[]) (mvT hZ (hw _ (List.mem_of_getElem? (i := 37) rfl)))) (mvT hZ (hw _ (List.mem_of_getElem? (i := 37) rfl))) (mvT hZ (hw _ (List.mem_of_getElem? (i := 36) rfl))) (by decide) (backOf (W := 0) (rm6 l Z a0 hw [] b39 ra T40.heap n0 (Nat.le_trans (Nat.le_trans (Nat.le_trans Z0 E5.1) E39.1) K40c.1) F40_racyEvent) hZ (hw _ (List.mem_of_getElem? (i := 38) rfl)) (hw _ (List.mem_of_getElem? (i := 4) rfl)) (by decide) (by decide)) q43a q43c (g := (mkF m 166 #[.val (.int p1), .val (.int p2), .val (.int p3), .val (.int p4), .val (.int p5), .val (.int pa), .val (.int ra), .val (.int kd), .val (.ref b5), .val (.ref b39), .val (.int (0 : Int32))] [(.ref b39)])) rfl (by rw [hml]; rfl) (Steps.refl _) (argsL := []) (rest := []) (lenOf pd_5 rfl) rfl (by show 2 * 0 + _ ≤ _; exact Nat.le_of_eq rfl) (hb hby at_166) (fun _ _ => ⟨rfl, eh42, (by decide : 2 + 0 ≤ _), (by decide : 8 + 0 ≤ _)⟩)
        dsimp only [Pt.U, Pt.locs, Pt.cells, Pt.slots] at X43 l43 y43 z43 st43 hQ43
        subst l43 y43 z43
        obtain ⟨rfl, N43q, eh43⟩ := hQ43
        have N43 := Fr.app N42 N43q
        obtain ⟨fs, hr, hrun, hended, hRW⟩ := X43.leaveW hS0 (by rw [eh43]; exact (Nat.le_trans (Nat.le_trans (Nat.le_trans (Nat.zero_le _) E5.1) E39.1) K40c.1)) (v := some (.int (1 : Int32))) (fun h => by rw [Bd.returns] at h; cases h)
        refine ⟨_, _, go38 _ ?_, hrun, hended, _, _, rfl, ?_, ⟨hRW.1, hRW.2.1, hRW.2.2.1, hRW.2.2.2.mono (by decide) (by decide)⟩⟩
        · show Steps p.tables e below (T5.setTop (mkF m 77 #[.val (.int p1), .val (.int p2), .val (.int p3), .val (.int p4), .val (.int p5), .val (.int pa), .val (.int ra), .val (.int kd), .val (.ref b5), .unset, .unset] [(.int (1 : Int32)), (.int kd)])) _
          refine XS.icmpNo X5.here hx rfl (hb hby at_77) rfl (teq hc77).2 ?_
          show Steps p.tables e below (T5.setTop (mkF m 80 #[.val (.int p1), .val (.int p2), .val (.int p3), .val (.int p4), .val (.int p5), .val (.int pa), .val (.int ra), .val (.int kd), .val (.ref b5), .unset, .unset] [])) _
          refine st39 _ ?_
          show Steps p.tables e below (T39.setTop (mkF m 83 #[.val (.int p1), .val (.int p2), .val (.int p3), .val (.int p4), .val (.int p5), .val (.int pa), .val (.int ra), .val (.int kd), .val (.ref b5), .unset, .unset] [(.ref b39)])) _
          refine XS.dup X39.here hx rfl (hb hby at_83) rfl rfl ?_
          show Steps p.tables e below (T39.setTop (mkF m 84 #[.val (.int p1), .val (.int p2), .val (.int p3), .val (.int p4), .val (.int p5), .val (.int pa), .val (.int ra), .val (.int kd), .val (.ref b5), .unset, .unset] [(.ref b39), (.ref b39)])) _
          refine XS.iload X39.here hx rfl (hb hby at_84) rfl ?_
          show Steps p.tables e below (T39.setTop (mkF m 86 #[.val (.int p1), .val (.int p2), .val (.int p3), .val (.int p4), .val (.int p5), .val (.int pa), .val (.int ra), .val (.int kd), .val (.ref b5), .unset, .unset] [(.int pa), (.ref b39), (.ref b39)])) _
          refine XS.iload X39.here hx rfl (hb hby at_86) rfl ?_
          show Steps p.tables e below (T39.setTop (mkF m 88 #[.val (.int p1), .val (.int p2), .val (.int p3), .val (.int p4), .val (.int p5), .val (.int pa), .val (.int ra), .val (.int kd), .val (.ref b5), .unset, .unset] [(.int ra), (.int pa), (.ref b39), (.ref b39)])) _
          refine XS.aconstNull X39.here hx rfl (hb hby at_88) ?_
          show Steps p.tables e below (T39.setTop (mkF m 89 #[.val (.int p1), .val (.int p2), .val (.int p3), .val (.int p4), .val (.int p5), .val (.int pa), .val (.int ra), .val (.int kd), .val (.ref b5), .unset, .unset] [.null, (.int ra), (.int pa), (.ref b39), (.ref b39)])) _
          refine X39.checkcastNull hx (g := (mkF m 89 #[.val (.int p1), .val (.int p2), .val (.int p3), .val (.int p4), .val (.int p5), .val (.int pa), .val (.int ra), .val (.int kd), .val (.ref b5), .unset, .unset] [.null, (.int ra), (.int pa), (.ref b39), (.ref b39)])) rfl rfl (hb hby at_89) _ ?_
          show Steps p.tables e below (T39.setTop (mkF m 92 #[.val (.int p1), .val (.int p2), .val (.int p3), .val (.int p4), .val (.int p5), .val (.int pa), .val (.int ra), .val (.int kd), .val (.ref b5), .unset, .unset] [.null, (.int ra), (.int pa), (.ref b39), (.ref b39)])) _
          refine st40.trans ?_
          show Steps p.tables e below (T40.setTop (mkF m 95 #[.val (.int p1), .val (.int p2), .val (.int p3), .val (.int p4), .val (.int p5), .val (.int pa), .val (.int ra), .val (.int kd), .val (.ref b5), .unset, .unset] [(.ref b39)])) _
          refine XS.astore X40.here hx rfl (hb hby at_95) rfl rfl (l' := #[.val (.int p1), .val (.int p2), .val (.int p3), .val (.int p4), .val (.int p5), .val (.int pa), .val (.int ra), .val (.int kd), .val (.ref b5), .val (.ref b39), .unset]) rfl ?_
          show Steps p.tables e below (T40.setTop (mkF m 97 #[.val (.int p1), .val (.int p2), .val (.int p3), .val (.int p4), .val (.int p5), .val (.int pa), .val (.int ra), .val (.int kd), .val (.ref b5), .val (.ref b39), .unset] [])) _
          refine XS.iconst X40.here hx rfl (hb hby at_97) ?_
          show Steps p.tables e below (T40.setTop (mkF m 98 #[.val (.int p1), .val (.int p2), .val (.int p3), .val (.int p4), .val (.int p5), .val (.int pa), .val (.int ra), .val (.int kd), .val (.ref b5), .val (.ref b39), .unset] [(.int (0 : Int32))])) _
          refine XS.istore X40.here hx rfl (hb hby at_98) rfl (l' := #[.val (.int p1), .val (.int p2), .val (.int p3), .val (.int p4), .val (.int p5), .val (.int pa), .val (.int ra), .val (.int kd), .val (.ref b5), .val (.ref b39), .val (.int (0 : Int32))]) rfl ?_
          show Steps p.tables e below (T40.setTop (mkF m 100 #[.val (.int p1), .val (.int p2), .val (.int p3), .val (.int p4), .val (.int p5), .val (.int pa), .val (.int ra), .val (.int kd), .val (.ref b5), .val (.ref b39), .val (.int (0 : Int32))] [])) _
          refine XS.goto X40.here hx rfl (pc0 := 100) (pc' := 144) rfl (hb hby at_100) (by decide) (by decide) ?_
          show Steps p.tables e below (T40.setTop (mkF m 144 #[.val (.int p1), .val (.int p2), .val (.int p3), .val (.int p4), .val (.int p5), .val (.int pa), .val (.int ra), .val (.int kd), .val (.ref b5), .val (.ref b39), .val (.int (0 : Int32))] [])) _
          refine XS.aload X40.here hx rfl (hb hby at_144) rfl rfl ?_
          show Steps p.tables e below (T40.setTop (mkF m 146 #[.val (.int p1), .val (.int p2), .val (.int p3), .val (.int p4), .val (.int p5), .val (.int pa), .val (.int ra), .val (.int kd), .val (.ref b5), .val (.ref b39), .val (.int (0 : Int32))] [(.ref b39)])) _
          refine st41.trans ?_
          show Steps p.tables e below (T41.setTop (mkF m 149 #[.val (.int p1), .val (.int p2), .val (.int p3), .val (.int p4), .val (.int p5), .val (.int pa), .val (.int ra), .val (.int kd), .val (.ref b5), .val (.ref b39), .val (.int (0 : Int32))] [(.int (0 : Int32))])) _
          refine XS.iload X41.here hx rfl (hb hby at_149) rfl ?_
          show Steps p.tables e below (T41.setTop (mkF m 151 #[.val (.int p1), .val (.int p2), .val (.int p3), .val (.int p4), .val (.int p5), .val (.int pa), .val (.int ra), .val (.int kd), .val (.ref b5), .val (.ref b39), .val (.int (0 : Int32))] [(.int (0 : Int32)), (.int (0 : Int32))])) _
          refine XS.icmpNo X41.here hx rfl (hb hby at_151) rfl (teq rfl).2 ?_
          show Steps p.tables e below (T41.setTop (mkF m 154 #[.val (.int p1), .val (.int p2), .val (.int p3), .val (.int p4), .val (.int p5), .val (.int pa), .val (.int ra), .val (.int kd), .val (.ref b5), .val (.ref b39), .val (.int (0 : Int32))] [])) _
          refine XS.aload X41.here hx rfl (hb hby at_154) rfl rfl ?_
          show Steps p.tables e below (T41.setTop (mkF m 156 #[.val (.int p1), .val (.int p2), .val (.int p3), .val (.int p4), .val (.int p5), .val (.int pa), .val (.int ra), .val (.int kd), .val (.ref b5), .val (.ref b39), .val (.int (0 : Int32))] [(.ref b39)])) _
          refine st42.trans ?_
          show Steps p.tables e below (T42.setTop (mkF m 159 #[.val (.int p1), .val (.int p2), .val (.int p3), .val (.int p4), .val (.int p5), .val (.int pa), .val (.int ra), .val (.int kd), .val (.ref b5), .val (.ref b39), .val (.int (0 : Int32))] [(.int pa)])) _
          refine XS.iload X42.here hx rfl (hb hby at_159) rfl ?_
          show Steps p.tables e below (T42.setTop (mkF m 161 #[.val (.int p1), .val (.int p2), .val (.int p3), .val (.int p4), .val (.int p5), .val (.int pa), .val (.int ra), .val (.int kd), .val (.ref b5), .val (.ref b39), .val (.int (0 : Int32))] [(.int pa), (.int pa)])) _
          refine XS.icmpNo X42.here hx rfl (hb hby at_161) rfl (teq rfl).2 ?_
          show Steps p.tables e below (T42.setTop (mkF m 164 #[.val (.int p1), .val (.int p2), .val (.int p3), .val (.int p4), .val (.int p5), .val (.int pa), .val (.int ra), .val (.int kd), .val (.ref b5), .val (.ref b39), .val (.int (0 : Int32))] [])) _
          refine XS.aload X42.here hx rfl (hb hby at_164) rfl rfl ?_
          show Steps p.tables e below (T42.setTop (mkF m 166 #[.val (.int p1), .val (.int p2), .val (.int p3), .val (.int p4), .val (.int p5), .val (.int pa), .val (.int ra), .val (.int kd), .val (.ref b5), .val (.ref b39), .val (.int (0 : Int32))] [(.ref b39)])) _
          refine st43.trans ?_
          show Steps p.tables e below (T43.setTop (mkF m 169 #[.val (.int p1), .val (.int p2), .val (.int p3), .val (.int p4), .val (.int p5), .val (.int pa), .val (.int ra), .val (.int kd), .val (.ref b5), .val (.ref b39), .val (.int (0 : Int32))] [(.int ra)])) _
          refine XS.iload X43.here hx rfl (hb hby at_169) rfl ?_
          show Steps p.tables e below (T43.setTop (mkF m 171 #[.val (.int p1), .val (.int p2), .val (.int p3), .val (.int p4), .val (.int p5), .val (.int pa), .val (.int ra), .val (.int kd), .val (.ref b5), .val (.ref b39), .val (.int (0 : Int32))] [(.int ra), (.int ra)])) _
          refine XS.icmpNo X43.here hx rfl (hb hby at_171) rfl (teq rfl).2 ?_
          show Steps p.tables e below (T43.setTop (mkF m 174 #[.val (.int p1), .val (.int p2), .val (.int p3), .val (.int p4), .val (.int p5), .val (.int pa), .val (.int ra), .val (.int kd), .val (.ref b5), .val (.ref b39), .val (.int (0 : Int32))] [])) _
          refine XS.iconst X43.here hx rfl (hb hby at_174) ?_
          show Steps p.tables e below (T43.setTop (mkF m 175 #[.val (.int p1), .val (.int p2), .val (.int p3), .val (.int p4), .val (.int p5), .val (.int pa), .val (.int ra), .val (.int kd), .val (.ref b5), .val (.ref b39), .val (.int (0 : Int32))] [(.int (1 : Int32))])) _
          refine XS.goto X43.here hx rfl (pc0 := 175) (pc' := 179) rfl (hb hby at_175) (by decide) (by decide) ?_
          show Steps p.tables e below (T43.setTop (mkF m 179 #[.val (.int p1), .val (.int p2), .val (.int p3), .val (.int p4), .val (.int p5), .val (.int pa), .val (.int ra), .val (.int kd), .val (.ref b5), .val (.ref b39), .val (.int (0 : Int32))] [(.int (1 : Int32))])) _
          exact retN X43 hx (t := .boolean) Bd.returns (by simp) (hb hby at_179) hr
        · show Q0 Z p1 p2 p3 p4 p5 h0 n0 _ T43.heap _
          rw [eh43]
          exact ⟨rfl, N43⟩
      · -- pc 77: taken
        have go44 : ∀ t, Steps p.tables e below (T5.setTop (mkF m 106 #[.val (.int p1), .val (.int p2), .val (.int p3), .val (.int p4), .val (.int p5), .val (.int pa), .val (.int ra), .val (.int kd), .val (.ref b5), .unset, .unset] [(.int (2 : Int32)), (.int kd)])) t → Steps p.tables e below (s₁.setTop (entryFrame m #[(.int p1), (.int p2), (.int p3), (.int p4), (.int p5)] maxLocals)) t := by
          intro t kt
          refine go38 t ?_
          show Steps p.tables e below (T5.setTop (mkF m 77 #[.val (.int p1), .val (.int p2), .val (.int p3), .val (.int p4), .val (.int p5), .val (.int pa), .val (.int ra), .val (.int kd), .val (.ref b5), .unset, .unset] [(.int (1 : Int32)), (.int kd)])) _
          refine XS.icmpYes X5.here hx rfl (pc0 := 77) (pc' := 103) rfl (hb hby at_77) rfl (feq hc77).2 (by decide) (by decide) ?_
          show Steps p.tables e below (T5.setTop (mkF m 103 #[.val (.int p1), .val (.int p2), .val (.int p3), .val (.int p4), .val (.int p5), .val (.int pa), .val (.int ra), .val (.int kd), .val (.ref b5), .unset, .unset] [])) _
          refine XS.iload X5.here hx rfl (hb hby at_103) rfl ?_
          show Steps p.tables e below (T5.setTop (mkF m 105 #[.val (.int p1), .val (.int p2), .val (.int p3), .val (.int p4), .val (.int p5), .val (.int pa), .val (.int ra), .val (.int kd), .val (.ref b5), .unset, .unset] [(.int kd)])) _
          refine XS.iconst X5.here hx rfl (hb hby at_105) ?_
          exact kt
        by_cases hc106 : kd = (2 : Int32)
        · -- pc 106: not taken
          obtain ⟨T45, h45, X45, e45, E45, A45, D45, -, st45⟩ := newO X5 hx hZ hown (hw _ (List.mem_of_getElem? (i := 2) rfl)) (hw _ (List.mem_of_getElem? (i := 3) rfl)) (hw _ (List.mem_of_getElem? (i := 4) rfl)) e5 (g := (mkF m 109 #[.val (.int p1), .val (.int p2), .val (.int p3), .val (.int p4), .val (.int p5), .val (.int pa), .val (.int ra), .val (.int kd), .val (.ref b5), .unset, .unset] [])) rfl (hb hby at_109) (by decide) (by decide)
          obtain ⟨b45, g45⟩ : ∃ z, z = h5.size := ⟨_, rfl⟩
          rw [← g45] at A45 D45 st45
          have ne_b5_b45 : b5 ≠ b45 := Nat.ne_of_lt (Nat.lt_of_lt_of_le EA5.lt (Nat.le_of_eq g45.symm))
          have E45_b5 := EA5.ext E45
          have ge_b45 : n0 ≤ b45 := (Nat.le_trans (Nat.le_trans Z0 E5.1) (Nat.le_of_eq g45.symm))
          have F45_b45_partner : Fld Z h45 b45 "com/example/racewitness/racewitness/analysis/Race" "partner" "I" (.int (0 : Int32)) := D45 (Or.inr (hw _ (List.mem_of_getElem? (i := 15) rfl))) (ty := .int) (by decide)
          have F45_b45_racyEvent : Fld Z h45 b45 "com/example/racewitness/racewitness/analysis/Race" "racyEvent" "I" (.int (0 : Int32)) := D45 (Or.inr (hw _ (List.mem_of_getElem? (i := 17) rfl))) (ty := .int) (by decide)
          have F45_b45_lastScheduled : Fld Z h45 b45 "com/example/racewitness/racewitness/analysis/Race" "lastScheduled" "[I" .null := D45 (Or.inr (hw _ (List.mem_of_getElem? (i := 19) rfl))) (ty := (.array .int)) (by decide)
          have F45_b45_schedule : Fld Z h45 b45 "com/example/racewitness/racewitness/analysis/Race" "schedule" "[I" .null := D45 (Or.inr (hw _ (List.mem_of_getElem? (i := 21) rfl))) (ty := (.array .int)) (by decide)
          have F45_b45_prefixWitness : Fld Z h45 b45 "com/example/racewitness/racewitness/analysis/Race" "prefixWitness" "Lcom/example/racewitness/racewitness/analysis/Race$PrefixWitness;" .null := D45 (Or.inr (hw _ (List.mem_of_getElem? (i := 23) rfl))) (ty := (.object "com/example/racewitness/racewitness/analysis/Race$PrefixWitness")) (by decide)
          obtain ⟨_, _, ⟨T46, L46, k46, n46⟩, -, X46, ⟨Lc46, hQ46, l46, y46, z46⟩, st46⟩ := X45.specialBack hx (y := (⟨"com/example/racewitness/racewitness/analysis/Race", "<init>", "(II[I)V"⟩ : MethodName)) rfl hown (mvT hZ (hw _ (List.mem_of_getElem? (i := 5) rfl))) (mvT hZ (hw _ (List.mem_of_getElem? (i := 6) rfl))) (mvT hZ (hw _ (List.mem_of_getElem? (i := 7) rfl))) (by decide) (backOf (W := 1) (rm1a l Z a0 hw [] b45 b5 pa ra h45 n0 (Nat.le_trans (Nat.le_trans Z0 E5.1) E45.1) ge_b45 A45 F45_b45_partner F45_b45_racyEvent F45_b45_lastScheduled F45_b45_schedule F45_b45_prefixWitness hra.1 hra.2) hZ (hw _ (List.mem_of_getElem? (i := 7) rfl)) (hw _ (List.mem_of_getElem? (i := 4) rfl)) (by decide) (by decide)) (g := (mkF m 119 #[.val (.int p1), .val (.int p2), .val (.int p3), .val (.int p4), .val (.int p5), .val (.int pa), .val (.int ra), .val (.int kd), .val (.ref b5), .unset, .unset] [(.ref b5), (.int ra), (.int pa), (.ref b45), (.ref b45)])) rfl (by rw [hml]; rfl) (Steps.refl _) (a := b45) (argsL := [(.int pa), (.int ra), (.ref b5)]) (rest := [(.ref b45)]) (lenOf pd_1 rfl) rfl (by show 2 * 0 + _ ≤ _; exact Nat.le_of_eq rfl) (hb hby at_119) (fun _ _ => ⟨rfl, e45, (by decide : 2 + 0 ≤ _), (by decide : 8 + 0 ≤ _)⟩)
          dsimp only [Pt.U, Pt.locs, Pt.cells, Pt.slots] at X46 l46 y46 z46 st46 hQ46
          subst l46 y46 z46
          obtain ⟨rfl, N46q, K46c, F46_partner, F46_racyEvent, F46_lastScheduled, F46_schedule, F46_prefixWitness⟩ := hQ46
          have N46 := Fr.app N0 N46q
          have E46_b5 := E45_b5.keep K46c
          have E46_b45 := A45.keep K46c
          obtain ⟨cq47, kq47, q47a, q47b, q47c⟩ := isOf hZ rfl E46_b45
          obtain ⟨_, _, ⟨T47, L47, k47, n47⟩, -, X47, ⟨Lc47, hQ47, l47, y47, z47⟩, st47⟩ := X46.virtualBack hx (y := (⟨"com/example/racewitness/racewitness/analysis/Race", "hasWitness", "()Z"⟩ : MethodName)) (z := (⟨"com/example/racewitness/racewitness/analysis/Race", "hasWitness", "()Z"⟩ : MethodName)) hown (mvT hZ (hw _ (List.mem_of_getElem? (i := 24) rfl))) (mvT hZ (hw _ (List.mem_of_getElem? (i := 25) rfl))) (notFace_of_selects (args := #[]) (mvT hZ (hw _ (List.mem_of_getElem? (i := 27) rfl)))) (mvT hZ (hw _ (List.mem_of_getElem? (i := 27) rfl))) (mvT hZ (hw _ (List.mem_of_getElem? (i := 26) rfl))) (by decide) (backOf (W := 0) (rm4a l Z a0 hw [] b45 b5 pa ra T46.heap n0 (Nat.le_trans (Nat.le_trans (Nat.le_trans Z0 E5.1) E45.1) K46c.1) F46_partner F46_racyEvent F46_lastScheduled F46_schedule F46_prefixWitness) hZ (hw _ (List.mem_of_getElem? (i := 28) rfl)) (hw _ (List.mem_of_getElem? (i := 4) rfl)) (by decide) (by decide)) q47a q47c (g := (mkF m 146 #[.val (.int p1), .val (.int p2), .val (.int p3), .val (.int p4), .val (.int p5), .val (.int pa), .val (.int ra), .val (.int kd), .val (.ref b5), .val (.ref b45), .val (.int (1 : Int32))] [(.ref b45)])) rfl (by rw [hml]; rfl) (Steps.refl _) (argsL := []) (rest := []) (lenOf pd_4 rfl) rfl (by show 2 * 0 + _ ≤ _; exact Nat.le_of_eq rfl) (hb hby at_146) (fun _ _ => ⟨rfl, rfl, (by decide : 2 + 0 ≤ _), (by decide : 8 + 0 ≤ _)⟩)
          dsimp only [Pt.U, Pt.locs, Pt.cells, Pt.slots] at X47 l47 y47 z47 st47 hQ47
          subst l47 y47 z47
          obtain ⟨rfl, N47q, eh47⟩ := hQ47
          have N47 := Fr.app N46 N47q
          obtain ⟨cq48, kq48, q48a, q48b, q48c⟩ := isOf hZ eh47 E46_b45
          obtain ⟨_, _, ⟨T48, L48, k48, n48⟩, -, X48, ⟨Lc48, hQ48, l48, y48, z48⟩, st48⟩ := X47.virtualBack hx (y := (⟨"com/example/racewitness/racewitness/analysis/Race", "partner", "()I"⟩ : MethodName)) (z := (⟨"com/example/racewitness/racewitness/analysis/Race", "partner", "()I"⟩ : MethodName)) hown (mvT hZ (hw _ (List.mem_of_getElem? (i := 29) rfl))) (mvT hZ (hw _ (List.mem_of_getElem? (i := 30) rfl))) (notFace_of_selects (args := #[]) (mvT hZ (hw _ (List.mem_of_getElem? (i := 32) rfl)))) (mvT hZ (hw _ (List.mem_of_getElem? (i := 32) rfl))) (mvT hZ (hw _ (List.mem_of_getElem? (i := 31) rfl))) (by decide) (backOf (W := 0) (rm5 l Z a0 hw [] b45 pa T46.heap n0 (Nat.le_trans (Nat.le_trans (Nat.le_trans Z0 E5.1) E45.1) K46c.1) F46_partner) hZ (hw _ (List.mem_of_getElem? (i := 33) rfl)) (hw _ (List.mem_of_getElem? (i := 4) rfl)) (by decide) (by decide)) q48a q48c (g := (mkF m 156 #[.val (.int p1), .val (.int p2), .val (.int p3), .val (.int p4), .val (.int p5), .val (.int pa), .val (.int ra), .val (.int kd), .val (.ref b5), .val (.ref b45), .val (.int (1 : Int32))] [(.ref b45)])) rfl (by rw [hml]; rfl) (Steps.refl _) (argsL := []) (rest := []) (lenOf pd_5 rfl) rfl (by show 2 * 0 + _ ≤ _; exact Nat.le_of_eq rfl) (hb hby at_156) (fun _ _ => ⟨rfl, eh47, (by decide : 2 + 0 ≤ _), (by decide : 8 + 0 ≤ _)⟩)
          dsimp only [Pt.U, Pt.locs, Pt.cells, Pt.slots] at X48 l48 y48 z48 st48 hQ48
          subst l48 y48 z48
          obtain ⟨rfl, N48q, eh48⟩ := hQ48
          have N48 := Fr.app N47 N48q
          obtain ⟨cq49, kq49, q49a, q49b, q49c⟩ := isOf hZ eh48 E46_b45
          obtain ⟨_, _, ⟨T49, L49, k49, n49⟩, -, X49, ⟨Lc49, hQ49, l49, y49, z49⟩, st49⟩ := X48.virtualBack hx (y := (⟨"com/example/racewitness/racewitness/analysis/Race", "racyEvent", "()I"⟩ : MethodName)) (z := (⟨"com/example/racewitness/racewitness/analysis/Race", "racyEvent", "()I"⟩ : MethodName)) hown (mvT hZ (hw _ (List.mem_of_getElem? (i := 34) rfl))) (mvT hZ (hw _ (List.mem_of_getElem? (i := 35) rfl))) (notFace_of_selects (args := #[]) (mvT hZ (hw _ (List.mem_of_getElem? (i := 37) rfl)))) (mvT hZ (hw _ (List.mem_of_getElem? (i := 37) rfl))) (mvT hZ (hw _ (List.mem_of_getElem? (i := 36) rfl))) (by decide) (backOf (W := 0) (rm6 l Z a0 hw [] b45 ra T46.heap n0 (Nat.le_trans (Nat.le_trans (Nat.le_trans Z0 E5.1) E45.1) K46c.1) F46_racyEvent) hZ (hw _ (List.mem_of_getElem? (i := 38) rfl)) (hw _ (List.mem_of_getElem? (i := 4) rfl)) (by decide) (by decide)) q49a q49c (g := (mkF m 166 #[.val (.int p1), .val (.int p2), .val (.int p3), .val (.int p4), .val (.int p5), .val (.int pa), .val (.int ra), .val (.int kd), .val (.ref b5), .val (.ref b45), .val (.int (1 : Int32))] [(.ref b45)])) rfl (by rw [hml]; rfl) (Steps.refl _) (argsL := []) (rest := []) (lenOf pd_5 rfl) rfl (by show 2 * 0 + _ ≤ _; exact Nat.le_of_eq rfl) (hb hby at_166) (fun _ _ => ⟨rfl, eh48, (by decide : 2 + 0 ≤ _), (by decide : 8 + 0 ≤ _)⟩)
          dsimp only [Pt.U, Pt.locs, Pt.cells, Pt.slots] at X49 l49 y49 z49 st49 hQ49
          subst l49 y49 z49
          obtain ⟨rfl, N49q, eh49⟩ := hQ49
          have N49 := Fr.app N48 N49q
          obtain ⟨fs, hr, hrun, hended, hRW⟩ := X49.leaveW hS0 (by rw [eh49]; exact (Nat.le_trans (Nat.le_trans (Nat.le_trans (Nat.zero_le _) E5.1) E45.1) K46c.1)) (v := some (.int (1 : Int32))) (fun h => by rw [Bd.returns] at h; cases h)
          refine ⟨_, _, go44 _ ?_, hrun, hended, _, _, rfl, ?_, ⟨hRW.1, hRW.2.1, hRW.2.2.1, hRW.2.2.2.mono (by decide) (by decide)⟩⟩
          · show Steps p.tables e below (T5.setTop (mkF m 106 #[.val (.int p1), .val (.int p2), .val (.int p3), .val (.int p4), .val (.int p5), .val (.int pa), .val (.int ra), .val (.int kd), .val (.ref b5), .unset, .unset] [(.int (2 : Int32)), (.int kd)])) _
            refine XS.icmpNo X5.here hx rfl (hb hby at_106) rfl (teq hc106).2 ?_
            show Steps p.tables e below (T5.setTop (mkF m 109 #[.val (.int p1), .val (.int p2), .val (.int p3), .val (.int p4), .val (.int p5), .val (.int pa), .val (.int ra), .val (.int kd), .val (.ref b5), .unset, .unset] [])) _
            refine st45 _ ?_
            show Steps p.tables e below (T45.setTop (mkF m 112 #[.val (.int p1), .val (.int p2), .val (.int p3), .val (.int p4), .val (.int p5), .val (.int pa), .val (.int ra), .val (.int kd), .val (.ref b5), .unset, .unset] [(.ref b45)])) _
            refine XS.dup X45.here hx rfl (hb hby at_112) rfl rfl ?_
            show Steps p.tables e below (T45.setTop (mkF m 113 #[.val (.int p1), .val (.int p2), .val (.int p3), .val (.int p4), .val (.int p5), .val (.int pa), .val (.int ra), .val (.int kd), .val (.ref b5), .unset, .unset] [(.ref b45), (.ref b45)])) _
            refine XS.iload X45.here hx rfl (hb hby at_113) rfl ?_
            show Steps p.tables e below (T45.setTop (mkF m 115 #[.val (.int p1), .val (.int p2), .val (.int p3), .val (.int p4), .val (.int p5), .val (.int pa), .val (.int ra), .val (.int kd), .val (.ref b5), .unset, .unset] [(.int pa), (.ref b45), (.ref b45)])) _
            refine XS.iload X45.here hx rfl (hb hby at_115) rfl ?_
            show Steps p.tables e below (T45.setTop (mkF m 117 #[.val (.int p1), .val (.int p2), .val (.int p3), .val (.int p4), .val (.int p5), .val (.int pa), .val (.int ra), .val (.int kd), .val (.ref b5), .unset, .unset] [(.int ra), (.int pa), (.ref b45), (.ref b45)])) _
            refine XS.aload X45.here hx rfl (hb hby at_117) rfl rfl ?_
            show Steps p.tables e below (T45.setTop (mkF m 119 #[.val (.int p1), .val (.int p2), .val (.int p3), .val (.int p4), .val (.int p5), .val (.int pa), .val (.int ra), .val (.int kd), .val (.ref b5), .unset, .unset] [(.ref b5), (.int ra), (.int pa), (.ref b45), (.ref b45)])) _
            refine st46.trans ?_
            show Steps p.tables e below (T46.setTop (mkF m 122 #[.val (.int p1), .val (.int p2), .val (.int p3), .val (.int p4), .val (.int p5), .val (.int pa), .val (.int ra), .val (.int kd), .val (.ref b5), .unset, .unset] [(.ref b45)])) _
            refine XS.astore X46.here hx rfl (hb hby at_122) rfl rfl (l' := #[.val (.int p1), .val (.int p2), .val (.int p3), .val (.int p4), .val (.int p5), .val (.int pa), .val (.int ra), .val (.int kd), .val (.ref b5), .val (.ref b45), .unset]) rfl ?_
            show Steps p.tables e below (T46.setTop (mkF m 124 #[.val (.int p1), .val (.int p2), .val (.int p3), .val (.int p4), .val (.int p5), .val (.int pa), .val (.int ra), .val (.int kd), .val (.ref b5), .val (.ref b45), .unset] [])) _
            refine XS.iconst X46.here hx rfl (hb hby at_124) ?_
            show Steps p.tables e below (T46.setTop (mkF m 125 #[.val (.int p1), .val (.int p2), .val (.int p3), .val (.int p4), .val (.int p5), .val (.int pa), .val (.int ra), .val (.int kd), .val (.ref b5), .val (.ref b45), .unset] [(.int (1 : Int32))])) _
            refine XS.istore X46.here hx rfl (hb hby at_125) rfl (l' := #[.val (.int p1), .val (.int p2), .val (.int p3), .val (.int p4), .val (.int p5), .val (.int pa), .val (.int ra), .val (.int kd), .val (.ref b5), .val (.ref b45), .val (.int (1 : Int32))]) rfl ?_
            show Steps p.tables e below (T46.setTop (mkF m 127 #[.val (.int p1), .val (.int p2), .val (.int p3), .val (.int p4), .val (.int p5), .val (.int pa), .val (.int ra), .val (.int kd), .val (.ref b5), .val (.ref b45), .val (.int (1 : Int32))] [])) _
            refine XS.goto X46.here hx rfl (pc0 := 127) (pc' := 144) rfl (hb hby at_127) (by decide) (by decide) ?_
            show Steps p.tables e below (T46.setTop (mkF m 144 #[.val (.int p1), .val (.int p2), .val (.int p3), .val (.int p4), .val (.int p5), .val (.int pa), .val (.int ra), .val (.int kd), .val (.ref b5), .val (.ref b45), .val (.int (1 : Int32))] [])) _
            refine XS.aload X46.here hx rfl (hb hby at_144) rfl rfl ?_
            show Steps p.tables e below (T46.setTop (mkF m 146 #[.val (.int p1), .val (.int p2), .val (.int p3), .val (.int p4), .val (.int p5), .val (.int pa), .val (.int ra), .val (.int kd), .val (.ref b5), .val (.ref b45), .val (.int (1 : Int32))] [(.ref b45)])) _
            refine st47.trans ?_
            show Steps p.tables e below (T47.setTop (mkF m 149 #[.val (.int p1), .val (.int p2), .val (.int p3), .val (.int p4), .val (.int p5), .val (.int pa), .val (.int ra), .val (.int kd), .val (.ref b5), .val (.ref b45), .val (.int (1 : Int32))] [(.int (1 : Int32))])) _
            refine XS.iload X47.here hx rfl (hb hby at_149) rfl ?_
            show Steps p.tables e below (T47.setTop (mkF m 151 #[.val (.int p1), .val (.int p2), .val (.int p3), .val (.int p4), .val (.int p5), .val (.int pa), .val (.int ra), .val (.int kd), .val (.ref b5), .val (.ref b45), .val (.int (1 : Int32))] [(.int (1 : Int32)), (.int (1 : Int32))])) _
            refine XS.icmpNo X47.here hx rfl (hb hby at_151) rfl (teq rfl).2 ?_
            show Steps p.tables e below (T47.setTop (mkF m 154 #[.val (.int p1), .val (.int p2), .val (.int p3), .val (.int p4), .val (.int p5), .val (.int pa), .val (.int ra), .val (.int kd), .val (.ref b5), .val (.ref b45), .val (.int (1 : Int32))] [])) _
            refine XS.aload X47.here hx rfl (hb hby at_154) rfl rfl ?_
            show Steps p.tables e below (T47.setTop (mkF m 156 #[.val (.int p1), .val (.int p2), .val (.int p3), .val (.int p4), .val (.int p5), .val (.int pa), .val (.int ra), .val (.int kd), .val (.ref b5), .val (.ref b45), .val (.int (1 : Int32))] [(.ref b45)])) _
            refine st48.trans ?_
            show Steps p.tables e below (T48.setTop (mkF m 159 #[.val (.int p1), .val (.int p2), .val (.int p3), .val (.int p4), .val (.int p5), .val (.int pa), .val (.int ra), .val (.int kd), .val (.ref b5), .val (.ref b45), .val (.int (1 : Int32))] [(.int pa)])) _
            refine XS.iload X48.here hx rfl (hb hby at_159) rfl ?_
            show Steps p.tables e below (T48.setTop (mkF m 161 #[.val (.int p1), .val (.int p2), .val (.int p3), .val (.int p4), .val (.int p5), .val (.int pa), .val (.int ra), .val (.int kd), .val (.ref b5), .val (.ref b45), .val (.int (1 : Int32))] [(.int pa), (.int pa)])) _
            refine XS.icmpNo X48.here hx rfl (hb hby at_161) rfl (teq rfl).2 ?_
            show Steps p.tables e below (T48.setTop (mkF m 164 #[.val (.int p1), .val (.int p2), .val (.int p3), .val (.int p4), .val (.int p5), .val (.int pa), .val (.int ra), .val (.int kd), .val (.ref b5), .val (.ref b45), .val (.int (1 : Int32))] [])) _
            refine XS.aload X48.here hx rfl (hb hby at_164) rfl rfl ?_
            show Steps p.tables e below (T48.setTop (mkF m 166 #[.val (.int p1), .val (.int p2), .val (.int p3), .val (.int p4), .val (.int p5), .val (.int pa), .val (.int ra), .val (.int kd), .val (.ref b5), .val (.ref b45), .val (.int (1 : Int32))] [(.ref b45)])) _
            refine st49.trans ?_
            show Steps p.tables e below (T49.setTop (mkF m 169 #[.val (.int p1), .val (.int p2), .val (.int p3), .val (.int p4), .val (.int p5), .val (.int pa), .val (.int ra), .val (.int kd), .val (.ref b5), .val (.ref b45), .val (.int (1 : Int32))] [(.int ra)])) _
            refine XS.iload X49.here hx rfl (hb hby at_169) rfl ?_
            show Steps p.tables e below (T49.setTop (mkF m 171 #[.val (.int p1), .val (.int p2), .val (.int p3), .val (.int p4), .val (.int p5), .val (.int pa), .val (.int ra), .val (.int kd), .val (.ref b5), .val (.ref b45), .val (.int (1 : Int32))] [(.int ra), (.int ra)])) _
            refine XS.icmpNo X49.here hx rfl (hb hby at_171) rfl (teq rfl).2 ?_
            show Steps p.tables e below (T49.setTop (mkF m 174 #[.val (.int p1), .val (.int p2), .val (.int p3), .val (.int p4), .val (.int p5), .val (.int pa), .val (.int ra), .val (.int kd), .val (.ref b5), .val (.ref b45), .val (.int (1 : Int32))] [])) _
            refine XS.iconst X49.here hx rfl (hb hby at_174) ?_
            show Steps p.tables e below (T49.setTop (mkF m 175 #[.val (.int p1), .val (.int p2), .val (.int p3), .val (.int p4), .val (.int p5), .val (.int pa), .val (.int ra), .val (.int kd), .val (.ref b5), .val (.ref b45), .val (.int (1 : Int32))] [(.int (1 : Int32))])) _
            refine XS.goto X49.here hx rfl (pc0 := 175) (pc' := 179) rfl (hb hby at_175) (by decide) (by decide) ?_
            show Steps p.tables e below (T49.setTop (mkF m 179 #[.val (.int p1), .val (.int p2), .val (.int p3), .val (.int p4), .val (.int p5), .val (.int pa), .val (.int ra), .val (.int kd), .val (.ref b5), .val (.ref b45), .val (.int (1 : Int32))] [(.int (1 : Int32))])) _
            exact retN X49 hx (t := .boolean) Bd.returns (by simp) (hb hby at_179) hr
          · show Q0 Z p1 p2 p3 p4 p5 h0 n0 _ T49.heap _
            rw [eh49]
            exact ⟨rfl, N49⟩
        · -- pc 106: taken
          obtain ⟨_, _, ⟨T50, L50, k50, n50⟩, -, X50, hS50, gr50, ⟨Lc50, hQ50, l50, y50, z50⟩, st50⟩ := callSS X5 hx (y := (⟨"com/example/racewitness/racewitness/analysis/Race", "withSchedule", "(II[I)Lcom/example/racewitness/racewitness/analysis/Race;"⟩ : MethodName)) hown (mvT hZ (hw _ (List.mem_of_getElem? (i := 39) rfl))) (mvT hZ (hw _ (List.mem_of_getElem? (i := 40) rfl))) (mvT hZ (hw _ (List.mem_of_getElem? (i := 4) rfl))) (mvT hZ (hw _ (List.mem_of_getElem? (i := 41) rfl))) (by decide) (backOfS (W := 0) (rm7 l Z a0 hw [] b5 pa ra h5 n0 (Nat.le_trans Z0 E5.1) EA5 hra.1 hra.2) hZ (hw _ (List.mem_of_getElem? (i := 41) rfl)) (hw _ (List.mem_of_getElem? (i := 4) rfl)) (by decide) (by decide)) (g := (mkF m 136 #[.val (.int p1), .val (.int p2), .val (.int p3), .val (.int p4), .val (.int p5), .val (.int pa), .val (.int ra), .val (.int kd), .val (.ref b5), .unset, .unset] [(.ref b5), (.int ra), (.int pa)])) rfl (by rw [hml]; rfl) (argsL := [(.int pa), (.int ra), (.ref b5)]) (rest := []) (lenOf pd_6 rfl) rfl (by show 2 * 0 + _ ≤ _; exact Nat.le_of_eq rfl) (hb hby at_136) (fun _ _ => ⟨rfl, e5, (by decide : 1 + 3 ≤ _), (by decide : 3 + 41 ≤ _)⟩)
          dsimp only [Pt.U, Pt.locs, Pt.cells, Pt.slots] at X50 hS50 gr50 l50 y50 z50 st50 hQ50
          subst l50 y50 z50
          obtain ⟨X50, hS50, hZ50, hown50⟩ := rebS hS0 (by rw [e5]; exact (Nat.le_trans (Nat.zero_le _) E5.1)) X50 hS50 gr50 hZ hown
          obtain ⟨b50, rfl, N50q, K50c, E50c, F50_partner, F50_racyEvent, F50_lastScheduled, F50_schedule, F50_prefixWitness⟩ := hQ50
          have N50 := Fr.app N0 N50q
          have E50_b5 := EA5.keep K50c
          obtain ⟨cq51, kq51, q51a, q51b, q51c⟩ := isOf hZ50 rfl E50c
          obtain ⟨_, _, ⟨T51, L51, k51, n51⟩, -, X51, ⟨Lc51, hQ51, l51, y51, z51⟩, st51⟩ := X50.virtualBack hx (y := (⟨"com/example/racewitness/racewitness/analysis/Race", "hasWitness", "()Z"⟩ : MethodName)) (z := (⟨"com/example/racewitness/racewitness/analysis/Race", "hasWitness", "()Z"⟩ : MethodName)) hown50 (mvT hZ50 (hw _ (List.mem_of_getElem? (i := 24) rfl))) (mvT hZ50 (hw _ (List.mem_of_getElem? (i := 25) rfl))) (notFace_of_selects (args := #[]) (mvT hZ50 (hw _ (List.mem_of_getElem? (i := 27) rfl)))) (mvT hZ50 (hw _ (List.mem_of_getElem? (i := 27) rfl))) (mvT hZ50 (hw _ (List.mem_of_getElem? (i := 26) rfl))) (by decide) (backOf (W := 0) (rm4c l Z a0 hw [] b50 b5 pa ra T50.heap n0 (Nat.le_trans (Nat.le_trans Z0 E5.1) K50c.1) F50_partner F50_racyEvent F50_lastScheduled F50_schedule F50_prefixWitness) hZ50 (hw _ (List.mem_of_getElem? (i := 28) rfl)) (hw _ (List.mem_of_getElem? (i := 4) rfl)) (by decide) (by decide)) q51a q51c (g := (mkF m 146 #[.val (.int p1), .val (.int p2), .val (.int p3), .val (.int p4), .val (.int p5), .val (.int pa), .val (.int ra), .val (.int kd), .val (.ref b5), .val (.ref b50), .val (.int (1 : Int32))] [(.ref b50)])) rfl (by rw [hml]; rfl) (Steps.refl _) (argsL := []) (rest := []) (lenOf pd_4 rfl) rfl (by show 2 * 0 + _ ≤ _; exact Nat.le_of_eq rfl) (hb hby at_146) (fun _ _ => ⟨rfl, rfl, (by decide : 4 + 0 ≤ _), (by decide : 44 + 0 ≤ _)⟩)
          dsimp only [Pt.U, Pt.locs, Pt.cells, Pt.slots] at X51 l51 y51 z51 st51 hQ51
          subst l51 y51 z51
          obtain ⟨rfl, N51q, eh51⟩ := hQ51
          have N51 := Fr.app N50 N51q
          obtain ⟨cq52, kq52, q52a, q52b, q52c⟩ := isOf hZ50 eh51 E50c
          obtain ⟨_, _, ⟨T52, L52, k52, n52⟩, -, X52, ⟨Lc52, hQ52, l52, y52, z52⟩, st52⟩ := X51.virtualBack hx (y := (⟨"com/example/racewitness/racewitness/analysis/Race", "partner", "()I"⟩ : MethodName)) (z := (⟨"com/example/racewitness/racewitness/analysis/Race", "partner", "()I"⟩ : MethodName)) hown50 (mvT hZ50 (hw _ (List.mem_of_getElem? (i := 29) rfl))) (mvT hZ50 (hw _ (List.mem_of_getElem? (i := 30) rfl))) (notFace_of_selects (args := #[]) (mvT hZ50 (hw _ (List.mem_of_getElem? (i := 32) rfl)))) (mvT hZ50 (hw _ (List.mem_of_getElem? (i := 32) rfl))) (mvT hZ50 (hw _ (List.mem_of_getElem? (i := 31) rfl))) (by decide) (backOf (W := 0) (rm5 l Z a0 hw [] b50 pa T50.heap n0 (Nat.le_trans (Nat.le_trans Z0 E5.1) K50c.1) F50_partner) hZ50 (hw _ (List.mem_of_getElem? (i := 33) rfl)) (hw _ (List.mem_of_getElem? (i := 4) rfl)) (by decide) (by decide)) q52a q52c (g := (mkF m 156 #[.val (.int p1), .val (.int p2), .val (.int p3), .val (.int p4), .val (.int p5), .val (.int pa), .val (.int ra), .val (.int kd), .val (.ref b5), .val (.ref b50), .val (.int (1 : Int32))] [(.ref b50)])) rfl (by rw [hml]; rfl) (Steps.refl _) (argsL := []) (rest := []) (lenOf pd_5 rfl) rfl (by show 2 * 0 + _ ≤ _; exact Nat.le_of_eq rfl) (hb hby at_156) (fun _ _ => ⟨rfl, eh51, (by decide : 4 + 0 ≤ _), (by decide : 44 + 0 ≤ _)⟩)
          dsimp only [Pt.U, Pt.locs, Pt.cells, Pt.slots] at X52 l52 y52 z52 st52 hQ52
          subst l52 y52 z52
          obtain ⟨rfl, N52q, eh52⟩ := hQ52
          have N52 := Fr.app N51 N52q
          obtain ⟨cq53, kq53, q53a, q53b, q53c⟩ := isOf hZ50 eh52 E50c
          obtain ⟨_, _, ⟨T53, L53, k53, n53⟩, -, X53, ⟨Lc53, hQ53, l53, y53, z53⟩, st53⟩ := X52.virtualBack hx (y := (⟨"com/example/racewitness/racewitness/analysis/Race", "racyEvent", "()I"⟩ : MethodName)) (z := (⟨"com/example/racewitness/racewitness/analysis/Race", "racyEvent", "()I"⟩ : MethodName)) hown50 (mvT hZ50 (hw _ (List.mem_of_getElem? (i := 34) rfl))) (mvT hZ50 (hw _ (List.mem_of_getElem? (i := 35) rfl))) (notFace_of_selects (args := #[]) (mvT hZ50 (hw _ (List.mem_of_getElem? (i := 37) rfl)))) (mvT hZ50 (hw _ (List.mem_of_getElem? (i := 37) rfl))) (mvT hZ50 (hw _ (List.mem_of_getElem? (i := 36) rfl))) (by decide) (backOf (W := 0) (rm6 l Z a0 hw [] b50 ra T50.heap n0 (Nat.le_trans (Nat.le_trans Z0 E5.1) K50c.1) F50_racyEvent) hZ50 (hw _ (List.mem_of_getElem? (i := 38) rfl)) (hw _ (List.mem_of_getElem? (i := 4) rfl)) (by decide) (by decide)) q53a q53c (g := (mkF m 166 #[.val (.int p1), .val (.int p2), .val (.int p3), .val (.int p4), .val (.int p5), .val (.int pa), .val (.int ra), .val (.int kd), .val (.ref b5), .val (.ref b50), .val (.int (1 : Int32))] [(.ref b50)])) rfl (by rw [hml]; rfl) (Steps.refl _) (argsL := []) (rest := []) (lenOf pd_5 rfl) rfl (by show 2 * 0 + _ ≤ _; exact Nat.le_of_eq rfl) (hb hby at_166) (fun _ _ => ⟨rfl, eh52, (by decide : 4 + 0 ≤ _), (by decide : 44 + 0 ≤ _)⟩)
          dsimp only [Pt.U, Pt.locs, Pt.cells, Pt.slots] at X53 l53 y53 z53 st53 hQ53
          subst l53 y53 z53
          obtain ⟨rfl, N53q, eh53⟩ := hQ53
          have N53 := Fr.app N52 N53q
          obtain ⟨fs, hr, hrun, hended, hRW⟩ := X53.leaveW hS50 (by rw [eh53]; exact (Nat.le_refl _)) (v := some (.int (1 : Int32))) (fun h => by rw [Bd.returns] at h; cases h)
          refine ⟨_, _, go44 _ ?_, hrun, hended, _, _, rfl, ?_, ⟨hRW.1, hRW.2.1, hRW.2.2.1, hRW.2.2.2.mono (by decide) (by decide)⟩⟩
          · show Steps p.tables e below (T5.setTop (mkF m 106 #[.val (.int p1), .val (.int p2), .val (.int p3), .val (.int p4), .val (.int p5), .val (.int pa), .val (.int ra), .val (.int kd), .val (.ref b5), .unset, .unset] [(.int (2 : Int32)), (.int kd)])) _
            refine XS.icmpYes X5.here hx rfl (pc0 := 106) (pc' := 130) rfl (hb hby at_106) rfl (feq hc106).2 (by decide) (by decide) ?_
            show Steps p.tables e below (T5.setTop (mkF m 130 #[.val (.int p1), .val (.int p2), .val (.int p3), .val (.int p4), .val (.int p5), .val (.int pa), .val (.int ra), .val (.int kd), .val (.ref b5), .unset, .unset] [])) _
            refine XS.iload X5.here hx rfl (hb hby at_130) rfl ?_
            show Steps p.tables e below (T5.setTop (mkF m 132 #[.val (.int p1), .val (.int p2), .val (.int p3), .val (.int p4), .val (.int p5), .val (.int pa), .val (.int ra), .val (.int kd), .val (.ref b5), .unset, .unset] [(.int pa)])) _
            refine XS.iload X5.here hx rfl (hb hby at_132) rfl ?_
            show Steps p.tables e below (T5.setTop (mkF m 134 #[.val (.int p1), .val (.int p2), .val (.int p3), .val (.int p4), .val (.int p5), .val (.int pa), .val (.int ra), .val (.int kd), .val (.ref b5), .unset, .unset] [(.int ra), (.int pa)])) _
            refine XS.aload X5.here hx rfl (hb hby at_134) rfl rfl ?_
            show Steps p.tables e below (T5.setTop (mkF m 136 #[.val (.int p1), .val (.int p2), .val (.int p3), .val (.int p4), .val (.int p5), .val (.int pa), .val (.int ra), .val (.int kd), .val (.ref b5), .unset, .unset] [(.ref b5), (.int ra), (.int pa)])) _
            refine st50.trans ?_
            show Steps p.tables e below (T50.setTop (mkF m 139 #[.val (.int p1), .val (.int p2), .val (.int p3), .val (.int p4), .val (.int p5), .val (.int pa), .val (.int ra), .val (.int kd), .val (.ref b5), .unset, .unset] [(.ref b50)])) _
            refine XS.astore X50.here hx rfl (hb hby at_139) rfl rfl (l' := #[.val (.int p1), .val (.int p2), .val (.int p3), .val (.int p4), .val (.int p5), .val (.int pa), .val (.int ra), .val (.int kd), .val (.ref b5), .val (.ref b50), .unset]) rfl ?_
            show Steps p.tables e below (T50.setTop (mkF m 141 #[.val (.int p1), .val (.int p2), .val (.int p3), .val (.int p4), .val (.int p5), .val (.int pa), .val (.int ra), .val (.int kd), .val (.ref b5), .val (.ref b50), .unset] [])) _
            refine XS.iconst X50.here hx rfl (hb hby at_141) ?_
            show Steps p.tables e below (T50.setTop (mkF m 142 #[.val (.int p1), .val (.int p2), .val (.int p3), .val (.int p4), .val (.int p5), .val (.int pa), .val (.int ra), .val (.int kd), .val (.ref b5), .val (.ref b50), .unset] [(.int (1 : Int32))])) _
            refine XS.istore X50.here hx rfl (hb hby at_142) rfl (l' := #[.val (.int p1), .val (.int p2), .val (.int p3), .val (.int p4), .val (.int p5), .val (.int pa), .val (.int ra), .val (.int kd), .val (.ref b5), .val (.ref b50), .val (.int (1 : Int32))]) rfl ?_
            show Steps p.tables e below (T50.setTop (mkF m 144 #[.val (.int p1), .val (.int p2), .val (.int p3), .val (.int p4), .val (.int p5), .val (.int pa), .val (.int ra), .val (.int kd), .val (.ref b5), .val (.ref b50), .val (.int (1 : Int32))] [])) _
            refine XS.aload X50.here hx rfl (hb hby at_144) rfl rfl ?_
            show Steps p.tables e below (T50.setTop (mkF m 146 #[.val (.int p1), .val (.int p2), .val (.int p3), .val (.int p4), .val (.int p5), .val (.int pa), .val (.int ra), .val (.int kd), .val (.ref b5), .val (.ref b50), .val (.int (1 : Int32))] [(.ref b50)])) _
            refine st51.trans ?_
            show Steps p.tables e below (T51.setTop (mkF m 149 #[.val (.int p1), .val (.int p2), .val (.int p3), .val (.int p4), .val (.int p5), .val (.int pa), .val (.int ra), .val (.int kd), .val (.ref b5), .val (.ref b50), .val (.int (1 : Int32))] [(.int (1 : Int32))])) _
            refine XS.iload X51.here hx rfl (hb hby at_149) rfl ?_
            show Steps p.tables e below (T51.setTop (mkF m 151 #[.val (.int p1), .val (.int p2), .val (.int p3), .val (.int p4), .val (.int p5), .val (.int pa), .val (.int ra), .val (.int kd), .val (.ref b5), .val (.ref b50), .val (.int (1 : Int32))] [(.int (1 : Int32)), (.int (1 : Int32))])) _
            refine XS.icmpNo X51.here hx rfl (hb hby at_151) rfl (teq rfl).2 ?_
            show Steps p.tables e below (T51.setTop (mkF m 154 #[.val (.int p1), .val (.int p2), .val (.int p3), .val (.int p4), .val (.int p5), .val (.int pa), .val (.int ra), .val (.int kd), .val (.ref b5), .val (.ref b50), .val (.int (1 : Int32))] [])) _
            refine XS.aload X51.here hx rfl (hb hby at_154) rfl rfl ?_
            show Steps p.tables e below (T51.setTop (mkF m 156 #[.val (.int p1), .val (.int p2), .val (.int p3), .val (.int p4), .val (.int p5), .val (.int pa), .val (.int ra), .val (.int kd), .val (.ref b5), .val (.ref b50), .val (.int (1 : Int32))] [(.ref b50)])) _
            refine st52.trans ?_
            show Steps p.tables e below (T52.setTop (mkF m 159 #[.val (.int p1), .val (.int p2), .val (.int p3), .val (.int p4), .val (.int p5), .val (.int pa), .val (.int ra), .val (.int kd), .val (.ref b5), .val (.ref b50), .val (.int (1 : Int32))] [(.int pa)])) _
            refine XS.iload X52.here hx rfl (hb hby at_159) rfl ?_
            show Steps p.tables e below (T52.setTop (mkF m 161 #[.val (.int p1), .val (.int p2), .val (.int p3), .val (.int p4), .val (.int p5), .val (.int pa), .val (.int ra), .val (.int kd), .val (.ref b5), .val (.ref b50), .val (.int (1 : Int32))] [(.int pa), (.int pa)])) _
            refine XS.icmpNo X52.here hx rfl (hb hby at_161) rfl (teq rfl).2 ?_
            show Steps p.tables e below (T52.setTop (mkF m 164 #[.val (.int p1), .val (.int p2), .val (.int p3), .val (.int p4), .val (.int p5), .val (.int pa), .val (.int ra), .val (.int kd), .val (.ref b5), .val (.ref b50), .val (.int (1 : Int32))] [])) _
            refine XS.aload X52.here hx rfl (hb hby at_164) rfl rfl ?_
            show Steps p.tables e below (T52.setTop (mkF m 166 #[.val (.int p1), .val (.int p2), .val (.int p3), .val (.int p4), .val (.int p5), .val (.int pa), .val (.int ra), .val (.int kd), .val (.ref b5), .val (.ref b50), .val (.int (1 : Int32))] [(.ref b50)])) _
            refine st53.trans ?_
            show Steps p.tables e below (T53.setTop (mkF m 169 #[.val (.int p1), .val (.int p2), .val (.int p3), .val (.int p4), .val (.int p5), .val (.int pa), .val (.int ra), .val (.int kd), .val (.ref b5), .val (.ref b50), .val (.int (1 : Int32))] [(.int ra)])) _
            refine XS.iload X53.here hx rfl (hb hby at_169) rfl ?_
            show Steps p.tables e below (T53.setTop (mkF m 171 #[.val (.int p1), .val (.int p2), .val (.int p3), .val (.int p4), .val (.int p5), .val (.int pa), .val (.int ra), .val (.int kd), .val (.ref b5), .val (.ref b50), .val (.int (1 : Int32))] [(.int ra), (.int ra)])) _
            refine XS.icmpNo X53.here hx rfl (hb hby at_171) rfl (teq rfl).2 ?_
            show Steps p.tables e below (T53.setTop (mkF m 174 #[.val (.int p1), .val (.int p2), .val (.int p3), .val (.int p4), .val (.int p5), .val (.int pa), .val (.int ra), .val (.int kd), .val (.ref b5), .val (.ref b50), .val (.int (1 : Int32))] [])) _
            refine XS.iconst X53.here hx rfl (hb hby at_174) ?_
            show Steps p.tables e below (T53.setTop (mkF m 175 #[.val (.int p1), .val (.int p2), .val (.int p3), .val (.int p4), .val (.int p5), .val (.int pa), .val (.int ra), .val (.int kd), .val (.ref b5), .val (.ref b50), .val (.int (1 : Int32))] [(.int (1 : Int32))])) _
            refine XS.goto X53.here hx rfl (pc0 := 175) (pc' := 179) rfl (hb hby at_175) (by decide) (by decide) ?_
            show Steps p.tables e below (T53.setTop (mkF m 179 #[.val (.int p1), .val (.int p2), .val (.int p3), .val (.int p4), .val (.int p5), .val (.int pa), .val (.int ra), .val (.int kd), .val (.ref b5), .val (.ref b50), .val (.int (1 : Int32))] [(.int (1 : Int32))])) _
            exact retN X53 hx (t := .boolean) Bd.returns (by simp) (hb hby at_179) hr
          · show Q0 Z p1 p2 p3 p4 p5 h0 n0 _ T53.heap _
            rw [eh53]
            exact ⟨rfl, N53⟩
set_option maxRecDepth 65536 in
set_option maxHeartbeats 40000000 in
theorem comes_1 {Post : Tables → Env → Array Value → State → Outcome → State → Prop} (hpost : ∀ tb e args s v u, (limb_1_1.after args s (.returned v) u = true ∧ limb_1_2.after args s (.returned v) u = true ∧ True) → ReturnedEndW s (.returned v) u (Jvm.fieldLocs frame_1_writes args s ++ Jvm.arrayLocs frame_1_arrays args s ++ Jvm.staticLocs frame_1_statics s) 16 1152 → Post tb e args s (.returned v) u) :
    ArmFor flags0 classFile x code maxLocals ret World_1 tables_1 room_1 Calls_1 rest_1 Pre_1 Post := by
  intro l hfl _ _ p e ha hc hk s m args below hf hA hF happ hP
  obtain ⟨hcalls, hrest, hpre⟩ := hP
  obtain ⟨-, -, -, hnamed, -, -, -, hat⟩ := (Spec.applies_iff hf).mp happ
  obtain ⟨hg, hn⟩ := and_e (Cond.before_iff.mp (show (Jvm.Cond.and given_1 narrow_1).before args s = true from hpre))
  obtain ⟨hcnt, hg0⟩ := and_e hg
  obtain ⟨ga0, gb0⟩ := and_e hg0
  obtain ⟨ga1, gb1⟩ := and_e gb0
  obtain ⟨ga2, gb2⟩ := and_e gb1
  obtain ⟨ga3, gb3⟩ := and_e gb2
  obtain ⟨w0, w1, w2, w3, w4, rfl⟩ : ∃ w0 w1 w2 w3 w4 : Value, args = #[w0, w1, w2, w3, w4] := by
    have hs : args.size = 5 := by simpa [Cond.value, given_1] using hcnt
    obtain ⟨L⟩ := args
    match L, hs with
    | [w0, w1, w2, w3, w4], _ => exact ⟨w0, w1, w2, w3, w4, rfl⟩
  have hw := fun d (hd : d ∈ tables_1) => atoms_spec (ws := Jvm.Cond.code x code maxLocals ret :: tables_1) hat d (List.mem_cons_of_mem _ hd)
  obtain ⟨i0, ei0⟩ := is_v ga0
  obtain rfl : w0 = (.int i0) := Option.some.inj ei0
  obtain ⟨i1, ei1⟩ := is_v ga1
  obtain rfl : w1 = (.int i1) := Option.some.inj ei1
  obtain ⟨i2, ei2⟩ := is_v ga2
  obtain rfl : w2 = (.int i2) := Option.some.inj ei2
  obtain ⟨i3, ei3⟩ := is_v ga3
  obtain rfl : w3 = (.int i3) := Option.some.inj ei3
  obtain ⟨i4, ei4⟩ := is_v gb3
  obtain rfl : w4 = (.int i4) := Option.some.inj ei4
  obtain ⟨n, o, h1, h2, h3, _, L, rfl, ⟨rfl, N⟩, hq⟩ := rm0 l s _ hw tables_1 i0 i1 i2 i3 i4 s.heap s.heap.size (Nat.le_refl _) p e ha hc hk s m _ below hf ((Spec.applies_iff_loose hf).mp happ).1 ⟨rfl, State.Warmed39.refl s, rfl⟩ trivial
  refine ⟨n, _, h1, h2, h3, hpost _ _ _ _ _ _ ⟨Cond.after_iff.mpr rfl, Cond.after_iff.mpr (eq_i res_at (Term.int_eval (1)) rfl), trivial⟩ ⟨hq.1, hq.2.1, hq.2.2.1, (hq.2.2.2.sift fun y hy => Or.inr (N y hy)).mono (by decide) (by decide)⟩⟩
theorem main_1_1 : Claimed_1_1 := comes_1 fun _ _ _ _ _ _ h hF => ⟨h.1, hF⟩
theorem main_1_2 : Claimed_1_2 := comes_1 fun _ _ _ _ _ _ h hF => ⟨h.2.1, hF⟩
end Jvm.Pilot.@@N@@
namespace Jvm.Pilot.@@N@@
open Jvm Jvm.ClassFile Sem Op Lib Jvm.Free Jvm.Stand Jvm.Pilot.@@N@@.Jvm.D
/-! MADE BY PROGRAM (witnessworld.py) out of the Statement's table words and the real class files: 15 classes; the members and pool entries that the words name. The judged class is class 1, her method 1. -/
namespace start1
open Jvm.ClassFile
def u (s : String) : CpInfo := .utf8 (stringToUtf16 s)
/-- a pool by its gaps: so many unusable entries, then the entry; so many at the end -/
def gap : Nat → List CpInfo → List CpInfo
  | 0, r => r
  | n + 1, r => .unusable :: gap n r
def poolList (es : List (Nat × CpInfo)) (last : Nat) : List CpInfo := es.foldr (fun e r => gap e.1 (e.2 :: r)) (gap last [])
def pool (es : List (Nat × CpInfo)) (last : Nat) : Array CpInfo := ⟨poolList es last⟩
def fileOf (pool : Array CpInfo) (this : Nat) (attrs : Array Attribute := #[]) (ms : Array MethodInfo := #[]) (fl : Nat := 33) (sup : Nat := 0) (ifs : Array Nat := #[]) (fds : Array FieldInfo := #[]) : ClassFile where
  minorVersion := 0
  majorVersion := 65
  constantPool := pool
  accessFlags := fl
  thisClass := this
  superClass := sup
  interfaces := ifs
  fields := fds
  methods := ms
  attributes := attrs
def plain (name : String) (sup : Option ClassId) : Class where
  name := name
  kind := .ordinary
  loader := none
  accessFlags := 33
  super := sup
  interfaces := #[]
  cf := none
  fields := #[]
  methods := #[]
  instanceTypes := #[]
  staticTypes := #[]
  resolved := #[]
  callSites := []
  init := .initialized
  statics := none
  mirror := none

def pool0 : Array CpInfo := pool [(5, u "<init>"), (0, u "()V"), (1, .class_ 10), (1, u "java/lang/Object")] 113

def k0c0 : Code := { maxStack := 0, maxLocals := 1, code := object_method_1_code, exceptionTable := #[], attributes := #[] }
def k0m0 : Method := { name := "<init>", desc := "()V", sig := { parameters := [], returnType := none }, accessFlags := 1, code := some k0c0 }
/-- java/lang/Object -/
def k0 : Class := { plain "java/lang/Object" none with
  accessFlags := 33
  interfaces := #[]
  cf := some (fileOf pool0 8 #[] #[{ accessFlags := 1, nameIndex := 5, descriptorIndex := 6, attributes := #[] }] 33 0 #[] #[])
  fields := #[]
  methods := #[k0m0]
  instanceTypes := #[]
  staticTypes := #[]
  resolved := Array.replicate 124 none
  statics := none }

def pool1 : Array CpInfo := pool [(2, .class_ 4), (1, u "java/lang/Object"), (0, u "<init>"), (0, u "()V"), (0, .integer 2147483647), (0, .class_ 9), (0, u "com/example/racewitness/racewitness/analysis/Race"), (0, .methodref 8 11), (0, .nameAndType 5 12), (0, u "(II)V"), (2, .methodref 8 16), (0, .nameAndType 5 17), (0, u "(II[I)V"), (0, .methodref 8 19), (0, .nameAndType 20 21), (0, u "withSchedule"), (0, u "(II[I)Lcom/example/racewitness/racewitness/analysis/Race;"), (0, .methodref 8 23), (0, .nameAndType 24 25), (0, u "hasWitness"), (0, u "()Z"), (0, .methodref 8 27), (0, .nameAndType 28 29), (0, u "partner"), (0, u "()I"), (0, .methodref 8 31), (0, .nameAndType 32 29), (0, u "racyEvent"), (0, .class_ 34), (0, u "com/example/racewitness/racewitness/analysis/RaceHasWitnessPinLaw"), (2, u "law"), (0, u "(IIIII)Z")] 3

def k1m0 : Method := { name := "<init>", desc := "()V", sig := { parameters := [], returnType := none }, accessFlags := 1, code := none }
def k1c1 : Code := { maxStack := 5, maxLocals := 11, code := code, exceptionTable := #[], attributes := #[] }
def k1m1 : Method := { name := "law", desc := "(IIIII)Z", sig := { parameters := [.int, .int, .int, .int, .int], returnType := some .boolean }, accessFlags := 9, code := some k1c1 }
/-- com/example/racewitness/racewitness/analysis/RaceHasWitnessPinLaw -/
def k1 : Class := { plain "com/example/racewitness/racewitness/analysis/RaceHasWitnessPinLaw" (some 0) with
  accessFlags := 49
  interfaces := #[]
  cf := some (fileOf pool1 33 #[] #[{ accessFlags := 1, nameIndex := 5, descriptorIndex := 6, attributes := #[] }, { accessFlags := 9, nameIndex := 37, descriptorIndex := 38, attributes := #[] }] 49 2 #[] #[])
  fields := #[]
  methods := #[k1m0, k1m1]
  instanceTypes := #[]
  staticTypes := #[]
  resolved := Array.replicate 42 none
  statics := none }

def pool2 : Array CpInfo := pool [(3, .methodref 4 5), (0, .class_ 6), (0, .nameAndType 7 8), (0, u "com/example/racewitness/racewitness/analysis/Race"), (0, u "<init>"), (0, u "(II[I)V"), (0, .methodref 4 10), (0, .nameAndType 7 11), (0, u "(II[I[ILcom/example/racewitness/racewitness/analysis/Race$PrefixWitness;)V"), (0, .methodref 13 14), (0, .class_ 15), (0, .nameAndType 7 16), (0, u "java/lang/Object"), (0, u "()V"), (9, .fieldref 4 27), (0, .nameAndType 28 29), (0, u "partner"), (0, u "I"), (0, .fieldref 4 31), (0, .nameAndType 32 29), (0, u "racyEvent"), (0, .fieldref 4 34), (0, .nameAndType 35 36), (0, u "lastScheduled"), (0, u "[I"), (0, .fieldref 4 38), (0, .nameAndType 39 36), (0, u "schedule"), (0, .fieldref 4 41), (0, .nameAndType 42 43), (0, u "prefixWitness"), (0, u "Lcom/example/racewitness/racewitness/analysis/Race$PrefixWitness;"), (0, .string 39), (0, .methodref 46 47), (0, .class_ 48), (0, .nameAndType 49 50), (0, u "java/util/Objects"), (0, u "requireNonNull"), (0, u "(Ljava/lang/Object;Ljava/lang/String;)Ljava/lang/Object;"), (0, .class_ 36), (1, .class_ 54), (0, u "com/example/racewitness/racewitness/analysis/Race$PrefixWitness"), (2, u "hasWitness"), (0, u "()Z"), (49, u "(II)V"), (3, u "withSchedule"), (0, u "(II[I)Lcom/example/racewitness/racewitness/analysis/Race;"), (2, u "()I")] 26

def k2c0 : Code := { maxStack := 4, maxLocals := 3, code := prog_33_method_1_code, exceptionTable := #[], attributes := #[] }
def k2m0 : Method := { name := "<init>", desc := "(II)V", sig := { parameters := [.int, .int], returnType := none }, accessFlags := 1, code := some k2c0 }
def k2c1 : Code := { maxStack := 6, maxLocals := 4, code := prog_33_method_2_code, exceptionTable := #[], attributes := #[] }
def k2m1 : Method := { name := "<init>", desc := "(II[I)V", sig := { parameters := [.int, .int, (.array .int)], returnType := none }, accessFlags := 1, code := some k2c1 }
def k2c2 : Code := { maxStack := 4, maxLocals := 6, code := prog_33_method_3_code, exceptionTable := #[], attributes := #[] }
def k2m2 : Method := { name := "<init>", desc := "(II[I[ILcom/example/racewitness/racewitness/analysis/Race$PrefixWitness;)V", sig := { parameters := [.int, .int, (.array .int), (.array .int), (.object "com/example/racewitness/racewitness/analysis/Race$PrefixWitness")], returnType := none }, accessFlags := 2, code := some k2c2 }
def k2c3 : Code := { maxStack := 7, maxLocals := 3, code := prog_33_method_4_code, exceptionTable := #[], attributes := #[] }
def k2m3 : Method := { name := "withSchedule", desc := "(II[I)Lcom/example/racewitness/racewitness/analysis/Race;", sig := { parameters := [.int, .int, (.array .int)], returnType := some (.object "com/example/racewitness/racewitness/analysis/Race") }, accessFlags := 9, code := some k2c3 }
def k2c4 : Code := { maxStack := 1, maxLocals := 1, code := prog_33_method_6_code, exceptionTable := #[], attributes := #[] }
def k2m4 : Method := { name := "partner", desc := "()I", sig := { parameters := [], returnType := some .int }, accessFlags := 1, code := some k2c4 }
def k2c5 : Code := { maxStack := 1, maxLocals := 1, code := prog_33_method_7_code, exceptionTable := #[], attributes := #[] }
def k2m5 : Method := { name := "racyEvent", desc := "()I", sig := { parameters := [], returnType := some .int }, accessFlags := 1, code := some k2c5 }
def k2c6 : Code := { maxStack := 1, maxLocals := 1, code := prog_33_method_8_code, exceptionTable := #[], attributes := #[] }
def k2m6 : Method := { name := "hasWitness", desc := "()Z", sig := { parameters := [], returnType := some .boolean }, accessFlags := 1, code := some k2c6 }
/-- com/example/racewitness/racewitness/analysis/Race -/
def k2 : Class := { plain "com/example/racewitness/racewitness/analysis/Race" (some 0) with
  accessFlags := 49
  interfaces := #[]
  cf := some (fileOf pool2 4 #[.nestMembers #[53]] #[{ accessFlags := 1, nameIndex := 7, descriptorIndex := 108, attributes := #[] }, { accessFlags := 1, nameIndex := 7, descriptorIndex := 8, attributes := #[] }, { accessFlags := 2, nameIndex := 7, descriptorIndex := 11, attributes := #[] }, { accessFlags := 9, nameIndex := 112, descriptorIndex := 113, attributes := #[] }, { accessFlags := 1, nameIndex := 28, descriptorIndex := 116, attributes := #[] }, { accessFlags := 1, nameIndex := 32, descriptorIndex := 116, attributes := #[] }, { accessFlags := 1, nameIndex := 57, descriptorIndex := 58, attributes := #[] }] 49 13 #[] #[{ accessFlags := 18, nameIndex := 28, descriptorIndex := 29, attributes := #[] }, { accessFlags := 18, nameIndex := 32, descriptorIndex := 29, attributes := #[] }, { accessFlags := 18, nameIndex := 35, descriptorIndex := 36, attributes := #[] }, { accessFlags := 18, nameIndex := 39, descriptorIndex := 36, attributes := #[] }, { accessFlags := 18, nameIndex := 42, descriptorIndex := 43, attributes := #[] }])
  fields := #[{ name := "partner", type := .int, accessFlags := 18, slot := 0, constantValue := 0 }, { name := "racyEvent", type := .int, accessFlags := 18, slot := 1, constantValue := 0 }, { name := "lastScheduled", type := (.array .int), accessFlags := 18, slot := 2, constantValue := 0 }, { name := "schedule", type := (.array .int), accessFlags := 18, slot := 3, constantValue := 0 }, { name := "prefixWitness", type := (.object "com/example/racewitness/racewitness/analysis/Race$PrefixWitness"), accessFlags := 18, slot := 4, constantValue := 0 }]
  methods := #[k2m0, k2m1, k2m2, k2m3, k2m4, k2m5, k2m6]
  instanceTypes := #[.int, .int, (.array .int), (.array .int), (.object "com/example/racewitness/racewitness/analysis/Race$PrefixWitness")]
  staticTypes := #[]
  resolved := Array.replicate 143 none
  statics := none }

def pool3 : Array CpInfo := pool [(1, .class_ 2), (0, u "java/io/Serializable"), (0, .class_ 4), (0, u "java/lang/Object")] 2

/-- java/io/Serializable -/
def k3 : Class := { plain "java/io/Serializable" (some 0) with
  accessFlags := 1537
  interfaces := #[]
  cf := some (fileOf pool3 1 #[] #[] 1537 3 #[] #[])
  fields := #[]
  methods := #[]
  instanceTypes := #[]
  staticTypes := #[]
  resolved := Array.replicate 7 none
  statics := none }

def pool4 : Array CpInfo := pool [(1, .class_ 2), (0, u "java/lang/Comparable"), (0, .class_ 4), (0, u "java/lang/Object")] 7

/-- java/lang/Comparable -/
def k4 : Class := { plain "java/lang/Comparable" (some 0) with
  accessFlags := 1537
  interfaces := #[]
  cf := some (fileOf pool4 1 #[] #[] 1537 3 #[] #[])
  fields := #[]
  methods := #[]
  instanceTypes := #[]
  staticTypes := #[]
  resolved := Array.replicate 12 none
  statics := none }

def pool5 : Array CpInfo := pool [(2, .class_ 4), (1, u "java/lang/CharSequence"), (42, .class_ 48), (0, u "java/lang/CharSequence$1CodePointIterator"), (10, .class_ 60), (0, u "java/lang/CharSequence$1CharIterator"), (5, .class_ 67), (0, u "java/lang/Object")] 63

/-- java/lang/CharSequence -/
def k5 : Class := { plain "java/lang/CharSequence" (some 0) with
  accessFlags := 1537
  interfaces := #[]
  cf := some (fileOf pool5 2 #[.nestMembers #[47, 59]] #[] 1537 66 #[] #[])
  fields := #[]
  methods := #[]
  instanceTypes := #[]
  staticTypes := #[]
  resolved := Array.replicate 131 none
  statics := none }

def pool6 : Array CpInfo := pool [(1, .class_ 2), (0, u "java/lang/constant/Constable"), (0, .class_ 4), (0, u "java/lang/Object")] 6

/-- java/lang/constant/Constable -/
def k6 : Class := { plain "java/lang/constant/Constable" (some 0) with
  accessFlags := 1537
  interfaces := #[]
  cf := some (fileOf pool6 1 #[] #[] 1537 3 #[] #[])
  fields := #[]
  methods := #[]
  instanceTypes := #[]
  staticTypes := #[]
  resolved := Array.replicate 11 none
  statics := none }

def pool7 : Array CpInfo := pool [(1, .class_ 2), (0, u "java/lang/constant/ConstantDesc"), (0, .class_ 4), (0, u "java/lang/Object")] 32

/-- java/lang/constant/ConstantDesc -/
def k7 : Class := { plain "java/lang/constant/ConstantDesc" (some 0) with
  accessFlags := 1537
  interfaces := #[]
  cf := some (fileOf pool7 1 #[] #[] 1537 3 #[] #[])
  fields := #[]
  methods := #[]
  instanceTypes := #[]
  staticTypes := #[]
  resolved := Array.replicate 37 none
  statics := none }

def pool8 : Array CpInfo := pool [(2, .class_ 4), (1, u "java/lang/Object"), (0, u "<init>"), (0, u "()V"), (3, .class_ 12), (1, u "java/lang/String"), (0, u "value"), (0, u "[B"), (2, u "coder"), (0, u "B"), (2, u "hash"), (0, u "I"), (2, u "hashIsZero"), (0, u "Z"), (13, u "COMPACT_STRINGS"), (534, .class_ 576), (0, u "java/lang/CharSequence"), (22, u "CASE_INSENSITIVE_ORDER"), (0, u "Ljava/util/Comparator;"), (500, u "serialPersistentFields"), (0, u "[Ljava/io/ObjectStreamField;"), (0, .class_ 1104), (0, u "java/lang/String$CaseInsensitiveComparator"), (1, .class_ 1107), (0, u "java/io/Serializable"), (0, .class_ 1109), (0, u "java/lang/Comparable"), (0, .class_ 1111), (0, u "java/lang/constant/Constable"), (0, .class_ 1113), (0, u "java/lang/constant/ConstantDesc"), (2, u "serialVersionUID"), (0, u "J"), (3, u "REPL"), (0, u "C"), (2, u "LATIN1"), (1, u "UTF16")] 323

def k8m0 : Method := { name := "<init>", desc := "()V", sig := { parameters := [], returnType := none }, accessFlags := 1, code := none }
/-- java/lang/String -/
def k8 : Class := { plain "java/lang/String" (some 0) with
  accessFlags := 49
  interfaces := #[3, 4, 5, 6, 7]
  cf := some (fileOf pool8 10 #[.nestMembers #[1103]] #[{ accessFlags := 1, nameIndex := 5, descriptorIndex := 6, attributes := #[] }] 49 2 #[1106, 1108, 575, 1110, 1112] #[{ accessFlags := 18, nameIndex := 13, descriptorIndex := 14, attributes := #[] }, { accessFlags := 18, nameIndex := 17, descriptorIndex := 18, attributes := #[] }, { accessFlags := 2, nameIndex := 21, descriptorIndex := 22, attributes := #[] }, { accessFlags := 2, nameIndex := 25, descriptorIndex := 26, attributes := #[] }, { accessFlags := 26, nameIndex := 1116, descriptorIndex := 1117, attributes := #[] }, { accessFlags := 24, nameIndex := 40, descriptorIndex := 26, attributes := #[] }, { accessFlags := 26, nameIndex := 1101, descriptorIndex := 1102, attributes := #[] }, { accessFlags := 26, nameIndex := 1121, descriptorIndex := 1122, attributes := #[] }, { accessFlags := 25, nameIndex := 599, descriptorIndex := 600, attributes := #[] }, { accessFlags := 24, nameIndex := 1125, descriptorIndex := 18, attributes := #[] }, { accessFlags := 24, nameIndex := 1127, descriptorIndex := 18, attributes := #[] }])
  fields := #[{ name := "value", type := (.array .byte), accessFlags := 18, slot := 0, constantValue := 0 }, { name := "coder", type := .byte, accessFlags := 18, slot := 1, constantValue := 0 }, { name := "hash", type := .int, accessFlags := 2, slot := 2, constantValue := 0 }, { name := "hashIsZero", type := .boolean, accessFlags := 2, slot := 3, constantValue := 0 }, { name := "serialVersionUID", type := .long, accessFlags := 26, slot := 0, constantValue := 0 }, { name := "COMPACT_STRINGS", type := .boolean, accessFlags := 24, slot := 1, constantValue := 0 }, { name := "serialPersistentFields", type := (.array (.object "java/io/ObjectStreamField")), accessFlags := 26, slot := 2, constantValue := 0 }, { name := "REPL", type := .char, accessFlags := 26, slot := 3, constantValue := 0 }, { name := "CASE_INSENSITIVE_ORDER", type := (.object "java/util/Comparator"), accessFlags := 25, slot := 4, constantValue := 0 }, { name := "LATIN1", type := .byte, accessFlags := 24, slot := 5, constantValue := 0 }, { name := "UTF16", type := .byte, accessFlags := 24, slot := 6, constantValue := 0 }]
  methods := #[k8m0]
  instanceTypes := #[(.array .byte), .byte, .int, .boolean]
  staticTypes := #[.long, .boolean, (.array (.object "java/io/ObjectStreamField")), .char, (.object "java/util/Comparator"), .byte, .byte]
  resolved := Array.replicate 1451 none
  statics := none }

def pool9 : Array CpInfo := pool [(2, .class_ 4), (1, u "java/lang/Object"), (0, u "<init>"), (0, u "()V"), (35, .class_ 44), (1, u "java/util/Objects"), (0, u "requireNonNull"), (48, u "(Ljava/lang/Object;Ljava/lang/String;)Ljava/lang/Object;")] 89

def k9m0 : Method := { name := "<init>", desc := "()V", sig := { parameters := [], returnType := none }, accessFlags := 2, code := none }
def k9c1 : Code := { maxStack := 3, maxLocals := 2, code := jdk_31_method_11_code, exceptionTable := #[], attributes := #[] }
def k9m1 : Method := { name := "requireNonNull", desc := "(Ljava/lang/Object;Ljava/lang/String;)Ljava/lang/Object;", sig := { parameters := [(.object "java/lang/Object"), (.object "java/lang/String")], returnType := some (.object "java/lang/Object") }, accessFlags := 9, code := some k9c1 }
/-- java/util/Objects -/
def k9 : Class := { plain "java/util/Objects" (some 0) with
  accessFlags := 49
  interfaces := #[]
  cf := some (fileOf pool9 42 #[] #[{ accessFlags := 2, nameIndex := 5, descriptorIndex := 6, attributes := #[] }, { accessFlags := 9, nameIndex := 45, descriptorIndex := 94, attributes := #[] }] 49 2 #[] #[])
  fields := #[]
  methods := #[k9m0, k9m1]
  instanceTypes := #[]
  staticTypes := #[]
  resolved := Array.replicate 184 none
  statics := none }

def pool10 : Array CpInfo := pool [(1, u "java/lang/Cloneable"), (0, .class_ 1), (0, u "java/lang/Object"), (0, .class_ 3)] 3

/-- java/lang/Cloneable -/
def k10 : Class := { plain "java/lang/Cloneable" (some 0) with
  accessFlags := 1537
  interfaces := #[]
  cf := some (fileOf pool10 2 #[] #[] 1537 4 #[] #[])
  fields := #[]
  methods := #[]
  instanceTypes := #[]
  staticTypes := #[]
  resolved := Array.replicate 8 none
  statics := none }

/-- the primitive byte -/
def k11 : Class := { plain "byte" none with kind := .primitive 'B', accessFlags := 0x411 }
/-- [B -/
def k12 : Class := { plain "[B" (some 0) with kind := .array 11 .byte, interfaces := #[10, 3], accessFlags := 1041 }

/-- the primitive int -/
def k13 : Class := { plain "int" none with kind := .primitive 'I', accessFlags := 0x411 }
/-- [I -/
def k14 : Class := { plain "[I" (some 0) with kind := .array 13 .int, interfaces := #[10, 3], accessFlags := 1041 }

def heap : Heap := #[]
def classes : Array Class := #[k0, k1, k2, k3, k4, k5, k6, k7, k8, k9, k10, k11, k12, k13, k14]
def interned : List (Array UInt16 × Addr) := []
def slotsUsed : Nat := 0
def theMethod : MethodId := ⟨1, 1⟩
def args0 : Array Value := #[.int 5, .int 6, .int 7, .int 8, .int 9]
def aboutOver (below : List Frame) : State where
  vm := { classes := classes, interned := interned.toArray }
  heap := heap
  slotsUsed := slotsUsed
  threads := #[{ frames := .invoking theMethod args0 :: below }]
def below0 : List Frame := [.native { method := ⟨0, 0⟩, args := #[] }]
def about1 : State := aboutOver below0
def p0 : Program := .bare "" "" ""
def e0 : Env := launch0.env 0 0 0
theorem w_frames : about1.frames = Frame.invoking theMethod args0 :: below0 := rfl
set_option maxRecDepth 65536 in
theorem w_args : argsFit about1.vm theMethod args0 = true := by decide +kernel
set_option maxRecDepth 65536 in
theorem w_heap : heapFits about1 = true := by decide +kernel
set_option maxRecDepth 65536 in
theorem w_runnable : about1.curStatus? = some .runnable := by decide +kernel
set_option maxRecDepth 65536 in
theorem w_alone : about1.alone = true := by decide +kernel
set_option maxRecDepth 65536 in
theorem w_named : about1.methodNamed? x = some theMethod := by decide +kernel
set_option maxRecDepth 65536 in
theorem w_hears : about1.hears theMethod below0 = true := by decide +kernel
set_option maxRecDepth 65536 in
theorem w_ripe : about1.ripe theMethod args0 below0 = true := by decide +kernel
theorem w_running : about1.status = .running := rfl
set_option maxRecDepth 65536 in
theorem w_room : about1.hasRoom e0.platform room_1 = true :=
  launch0.hasRoom_least _ room_1 (by decide +kernel) (by decide +kernel) (by decide +kernel) (by decide +kernel) (by decide +kernel) (by decide +kernel)
theorem allAtoms_all (ts : List Jvm.Cond) (a : Array Jvm.Value) (st : Jvm.State) : (allAtoms ts).before a st = ts.all (fun c => c.before a st) := by
  induction ts with
  | nil => rfl
  | cons c t ih =>
    show (Jvm.Cond.and c (allAtoms t)).before a st = _
    rw [Jvm.Cond.before_and, ih, List.all_cons]
def words1 : List Jvm.Cond := Jvm.Cond.code x code maxLocals ret :: tables_1
/-- a 'code' word, met by the world's own term for the bytes: nothing is compared byte by byte -/
theorem code_word {y : MethodName} {bytes : ByteArray} {mx : Nat} {rt : Option FieldType} {a : Array Value} {s : State} {m : MethodId} {meth : Method} {c : Code} (h1 : s.methodNamed? y = some m) (h2 : s.vm.method? m = some meth) (h3 : meth.code = some c) (h4 : c.code = bytes)
    (h5 : (c.maxLocals == mx && c.exceptionTable.isEmpty && decide (c.maxStack ≤ mostOperands) && decide (meth.sig.returnType = rt) && !meth.locks && decide (parseMethodDescriptor y.desc = some meth.sig)) = true) : (Jvm.Cond.code y bytes mx rt).before a s = true := by
  simp only [Bool.and_eq_true, beq_iff_eq, Bool.not_eq_true', decide_eq_true_eq] at h5
  obtain ⟨⟨⟨⟨⟨g1, g2⟩, g3⟩, g4⟩, g5⟩, g6⟩ := h5
  simp [Cond.before, Cond.holds, Cond.value, h1, h2, h3, h4, g1, g2, g3, g4, g5, g6]
def isCode : Jvm.Cond → Bool
  | .code _ _ _ _ => true
  | _ => false
theorem all_split {L : List Jvm.Cond} {P : Jvm.Cond → Bool} (h1 : L.all (fun c => isCode c || P c) = true) (h2 : ∀ c ∈ L.filter isCode, P c = true) : L.all P = true := by
  refine List.all_eq_true.mpr fun c hc => ?_
  have h := List.all_eq_true.mp h1 c hc
  rcases Bool.eq_false_or_eq_true (isCode c) with hi | hi
  · exact h2 c (List.mem_filter.mpr ⟨hc, hi⟩)
  · simpa [hi] using h
set_option maxRecDepth 65536 in
theorem w_c0 : (Jvm.Cond.code x code maxLocals ret).before args0 about1 = true := code_word (m := ⟨1, 1⟩) (meth := k1m1) (c := k1c1) (by decide +kernel) rfl rfl rfl (by decide +kernel)
set_option maxRecDepth 65536 in
theorem w_c1 : (Jvm.Cond.code ({ cls := "com/example/racewitness/racewitness/analysis/Race", name := "<init>", desc := "(II[I)V" } : Jvm.MethodName) prog_33_method_2_code (4 : Nat) (Option.none : Option Jvm.ClassFile.FieldType)).before args0 about1 = true := code_word (m := ⟨2, 1⟩) (meth := k2m1) (c := k2c1) (by decide +kernel) rfl rfl rfl (by decide +kernel)
set_option maxRecDepth 65536 in
theorem w_c2 : (Jvm.Cond.code ({ cls := "com/example/racewitness/racewitness/analysis/Race", name := "<init>", desc := "(II[I[ILcom/example/racewitness/racewitness/analysis/Race$PrefixWitness;)V" } : Jvm.MethodName) prog_33_method_3_code (6 : Nat) (Option.none : Option Jvm.ClassFile.FieldType)).before args0 about1 = true := code_word (m := ⟨2, 2⟩) (meth := k2m2) (c := k2c2) (by decide +kernel) rfl rfl rfl (by decide +kernel)
set_option maxRecDepth 65536 in
theorem w_c3 : (Jvm.Cond.code ({ cls := "java/lang/Object", name := "<init>", desc := "()V" } : Jvm.MethodName) object_method_1_code (1 : Nat) (Option.none : Option Jvm.ClassFile.FieldType)).before args0 about1 = true := code_word (m := ⟨0, 0⟩) (meth := k0m0) (c := k0c0) (by decide +kernel) rfl rfl rfl (by decide +kernel)
set_option maxRecDepth 65536 in
theorem w_c4 : (Jvm.Cond.code ({ cls := "com/example/racewitness/racewitness/analysis/Race", name := "hasWitness", desc := "()Z" } : Jvm.MethodName) prog_33_method_8_code (1 : Nat) (Option.some Jvm.ClassFile.FieldType.boolean)).before args0 about1 = true := code_word (m := ⟨2, 6⟩) (meth := k2m6) (c := k2c6) (by decide +kernel) rfl rfl rfl (by decide +kernel)
set_option maxRecDepth 65536 in
theorem w_c5 : (Jvm.Cond.code ({ cls := "com/example/racewitness/racewitness/analysis/Race", name := "partner", desc := "()I" } : Jvm.MethodName) prog_33_method_6_code (1 : Nat) (Option.some Jvm.ClassFile.FieldType.int)).before args0 about1 = true := code_word (m := ⟨2, 4⟩) (meth := k2m4) (c := k2c4) (by decide +kernel) rfl rfl rfl (by decide +kernel)
set_option maxRecDepth 65536 in
theorem w_c6 : (Jvm.Cond.code ({ cls := "com/example/racewitness/racewitness/analysis/Race", name := "racyEvent", desc := "()I" } : Jvm.MethodName) prog_33_method_7_code (1 : Nat) (Option.some Jvm.ClassFile.FieldType.int)).before args0 about1 = true := code_word (m := ⟨2, 5⟩) (meth := k2m5) (c := k2c5) (by decide +kernel) rfl rfl rfl (by decide +kernel)
set_option maxRecDepth 65536 in
theorem w_c7 : (Jvm.Cond.code ({ cls := "com/example/racewitness/racewitness/analysis/Race", name := "withSchedule", desc := "(II[I)Lcom/example/racewitness/racewitness/analysis/Race;" } : Jvm.MethodName) prog_33_method_4_code (3 : Nat) (Option.some (Jvm.ClassFile.FieldType.object "com/example/racewitness/racewitness/analysis/Race"))).before args0 about1 = true := code_word (m := ⟨2, 3⟩) (meth := k2m3) (c := k2c3) (by decide +kernel) rfl rfl rfl (by decide +kernel)
set_option maxRecDepth 65536 in
theorem w_c8 : (Jvm.Cond.code ({ cls := "java/util/Objects", name := "requireNonNull", desc := "(Ljava/lang/Object;Ljava/lang/String;)Ljava/lang/Object;" } : Jvm.MethodName) jdk_31_method_11_code (2 : Nat) (Option.some (Jvm.ClassFile.FieldType.object "java/lang/Object"))).before args0 about1 = true := code_word (m := ⟨9, 1⟩) (meth := k9m1) (c := k9c1) (by decide +kernel) rfl rfl rfl (by decide +kernel)
set_option maxRecDepth 65536 in
theorem w_c9 : (Jvm.Cond.code ({ cls := "com/example/racewitness/racewitness/analysis/Race", name := "<init>", desc := "(II)V" } : Jvm.MethodName) prog_33_method_1_code (3 : Nat) (Option.none : Option Jvm.ClassFile.FieldType)).before args0 about1 = true := code_word (m := ⟨2, 0⟩) (meth := k2m0) (c := k2c0) (by decide +kernel) rfl rfl rfl (by decide +kernel)
def codes1 : List Jvm.Cond := [Jvm.Cond.code x code maxLocals ret, Jvm.Cond.code ({ cls := "com/example/racewitness/racewitness/analysis/Race", name := "<init>", desc := "(II[I)V" } : Jvm.MethodName) prog_33_method_2_code (4 : Nat) (Option.none : Option Jvm.ClassFile.FieldType), Jvm.Cond.code ({ cls := "com/example/racewitness/racewitness/analysis/Race", name := "<init>", desc := "(II[I[ILcom/example/racewitness/racewitness/analysis/Race$PrefixWitness;)V" } : Jvm.MethodName) prog_33_method_3_code (6 : Nat) (Option.none : Option Jvm.ClassFile.FieldType), Jvm.Cond.code ({ cls := "java/lang/Object", name := "<init>", desc := "()V" } : Jvm.MethodName) object_method_1_code (1 : Nat) (Option.none : Option Jvm.ClassFile.FieldType), Jvm.Cond.code ({ cls := "com/example/racewitness/racewitness/analysis/Race", name := "hasWitness", desc := "()Z" } : Jvm.MethodName) prog_33_method_8_code (1 : Nat) (Option.some Jvm.ClassFile.FieldType.boolean), Jvm.Cond.code ({ cls := "com/example/racewitness/racewitness/analysis/Race", name := "partner", desc := "()I" } : Jvm.MethodName) prog_33_method_6_code (1 : Nat) (Option.some Jvm.ClassFile.FieldType.int), Jvm.Cond.code ({ cls := "com/example/racewitness/racewitness/analysis/Race", name := "racyEvent", desc := "()I" } : Jvm.MethodName) prog_33_method_7_code (1 : Nat) (Option.some Jvm.ClassFile.FieldType.int), Jvm.Cond.code ({ cls := "com/example/racewitness/racewitness/analysis/Race", name := "withSchedule", desc := "(II[I)Lcom/example/racewitness/racewitness/analysis/Race;" } : Jvm.MethodName) prog_33_method_4_code (3 : Nat) (Option.some (Jvm.ClassFile.FieldType.object "com/example/racewitness/racewitness/analysis/Race")), Jvm.Cond.code ({ cls := "java/util/Objects", name := "requireNonNull", desc := "(Ljava/lang/Object;Ljava/lang/String;)Ljava/lang/Object;" } : Jvm.MethodName) jdk_31_method_11_code (2 : Nat) (Option.some (Jvm.ClassFile.FieldType.object "java/lang/Object")), Jvm.Cond.code ({ cls := "com/example/racewitness/racewitness/analysis/Race", name := "<init>", desc := "(II)V" } : Jvm.MethodName) prog_33_method_1_code (3 : Nat) (Option.none : Option Jvm.ClassFile.FieldType)]
set_option maxRecDepth 65536 in
theorem codes_eq : words1.filter isCode = codes1 := rfl
theorem w_codes : ∀ c ∈ words1.filter isCode, c.before args0 about1 = true := by
  rw [codes_eq]
  intro c hc
  simp only [codes1, List.mem_cons, List.not_mem_nil, or_false] at hc
  rcases hc with rfl | rfl | rfl | rfl | rfl | rfl | rfl | rfl | rfl | rfl
  · exact w_c0
  · exact w_c1
  · exact w_c2
  · exact w_c3
  · exact w_c4
  · exact w_c5
  · exact w_c6
  · exact w_c7
  · exact w_c8
  · exact w_c9
set_option maxRecDepth 65536 in
theorem w_t1 : (words1.take 24).all (fun c => isCode c || c.before args0 about1) = true := by decide +kernel
set_option maxRecDepth 65536 in
theorem w_t2 : ((words1.drop 24).take 24).all (fun c => isCode c || c.before args0 about1) = true := by decide +kernel
set_option maxRecDepth 65536 in
theorem w_t3 : ((words1.drop 24).drop 24).all (fun c => isCode c || c.before args0 about1) = true := by decide +kernel
theorem w_tables : (allAtoms (Jvm.Cond.code x code maxLocals ret :: tables_1)).before args0 about1 = true := by
  rw [allAtoms_all]
  show words1.all (fun c => c.before args0 about1) = true
  refine all_split ?_ w_codes
  rw [← List.take_append_drop 24 words1, List.all_append, w_t1, ← List.take_append_drop 24 (words1.drop 24), List.all_append, w_t2, w_t3]
  rfl
set_option maxRecDepth 65536 in
theorem w_case : (Jvm.Cond.and given_1 narrow_1).before args0 about1 = true := by decide +kernel
theorem w_applies : (headSpec (Jvm.Cond.code x code maxLocals ret :: tables_1) room_1).applies x e0.platform about1 = true :=
  (Spec.applies_iff w_frames).mpr ⟨w_running, w_runnable, w_alone, w_named, w_hears, w_ripe, w_room, w_tables⟩
theorem atStart : AtStart classFile x code maxLocals ret World_1 tables_1 room_1 Calls_1 rest_1 Pre_1 launch0 p0 e0 about1 theMethod args0 below0 :=
  ⟨lists_1, trivial, launch0.admits_env _ _ _, launch0.least_env, fairChoices_fair.cas, fairChoices_fair.clock, w_frames, w_args, w_heap, w_applies, trivial, trivial, w_case⟩
end start1
theorem witness_1 : WitnessClaimed_1 := ⟨start1.p0, start1.e0, start1.about1, start1.theMethod, start1.args0, start1.below0, start1.atStart⟩
end Jvm.Pilot.@@N@@
