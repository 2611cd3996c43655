import JvmDerived
import JvmDerived.Pilot.@@N@@Statement
import JvmDerived.Pilot.@@N@@Code
set_option linter.unusedVariables false
set_option linter.unusedSimpArgs false
namespace Jvm.RoadKit
open Sem ClassFile Op Lib Jvm.Stand Jvm.Free Jvm.LawKit
section New
variable {p : Program} {l : Launch} {e : Env} {R : Room} {s : State} {m : MethodId} {args : Array Value} {below : List Frame} {meth : Method} {c : Code} {T : State} {locs : List Loc} {cells slots : Nat}
theorem retI (X : Stand p l e R s m args below meth c T locs cells slots) (hx : p.tables.exec = Jvm.exec) {pc : Nat} {Ls : Array Slot} {z : Int32} {rest : List Value} (hret : meth.sig.returnType = some .int) (hd : decode c.code pc = .ok (.ireturn, 1)) {fs : List Frame}
    (hl : ∀ (f : JFrame) (acts : List Action), f.method = m → f.locked = none → f.entered = [] → (doReturn e (T.setTop f) acts (some (.int z))).1 = T.setFrames fs) : Steps p.tables e below (T.setTop (mkF m pc Ls (.int z :: rest))) (T.setFrames fs) := by
  have hm' : T.vm.method? m = some meth := X.method'
  have hn : narrow .int (.int z) = .int z := rfl
  show Steps p.tables e below (T.setTop { method := m, pc := pc, locals := Ls, stack := _ :: rest, locked := none }) _
  jvm_step X.here [X.here.top, hx, hd, hm', hret, hn]
  first | (intro acts; rw [hl _ acts rfl rfl rfl]) | rw [hl _ _ rfl rfl rfl]
  exact Steps.refl _
end New
end Jvm.RoadKit
namespace Jvm.Pilot.@@N@@
open Jvm Jvm.ClassFile Sem Op Lib Jvm.Free Jvm.Stand Jvm.LawKit Jvm.RoadKit Bundle Jvm.Pilot.@@N@@.Jvm.D
theorem d1_0 : decode prog_54_method_1_code 0 = .ok (.aload_n 0, 1) := by decide +kernel
theorem d1_1 : decode prog_54_method_1_code 1 = .ok (.invokespecial 1, 3) := by decide +kernel
theorem d1_4 : decode prog_54_method_1_code 4 = .ok (.aload_n 0, 1) := by decide +kernel
theorem d1_5 : decode prog_54_method_1_code 5 = .ok (.lload_n 1, 1) := by decide +kernel
theorem d1_6 : decode prog_54_method_1_code 6 = .ok (.putfield 7, 3) := by decide +kernel
theorem d1_9 : decode prog_54_method_1_code 9 = .ok (.return_, 1) := by decide +kernel
theorem pn_0 : plainName "com/example/tenure/tenure/sim/SeededRandom" = true := by first | (simp [plainName, overriddenIn]; done) | decide +kernel
theorem ef_1 (m : MethodId) (a1 : Addr) (q2 : Int64) : entryFrame m #[(.ref a1), (.long q2)] 3 = mkF m 0 #[.val (.ref a1), .val (.long q2), .second] [] := by first | (simp [entryFrame, mkF, argsToLocals, Value.category]; done) | rfl
def Q1 (Z : State) (a1 : Addr) (q2 : Int64) (w_state_a1 : Int64) (h0 : Heap) (n0 : Nat) (v : Option Value) (h : Heap) (L : List Loc) : Prop := v = none ∧ Fr n0 L ∧ Keep h0 h [a1] ∧ Exa Z h a1 "com/example/tenure/tenure/sim/SeededRandom" ∧ Fld Z h a1 "com/example/tenure/tenure/sim/SeededRandom" "state" "J" (.long q2)
set_option maxRecDepth 65536 in
set_option maxHeartbeats 40000000 in
theorem rm1 (l : Launch) (Z : State) (a0 : Array Value) (hw : ∀ d ∈ tables_1, d.before a0 Z = true) (ws : List Jvm.Cond) (a1 : Addr) (q2 : Int64) (w_state_a1 : Int64) (h0 : Heap) (n0 : Nat) (Z0 : n0 ≤ h0.size) (E_a1 : Exa Z h0 a1 "com/example/tenure/tenure/sim/SeededRandom") (F_state_a1 : Fld Z h0 a1 "com/example/tenure/tenure/sim/SeededRandom" "state" "J" (.long w_state_a1)) (g_a1 : n0 ≤ a1) :
    MetFree l (⟨"com/example/tenure/tenure/sim/SeededRandom", "<init>", "(J)V"⟩ : MethodName) (head1 (Jvm.Cond.code (⟨"com/example/tenure/tenure/sim/SeededRandom", "<init>", "(J)V"⟩ : MethodName) prog_54_method_1_code 3 none :: ws) ({ frames := 1, cells := 0, slots := 0, locals := 12 } : Room)) (fun a U => a = #[(.ref a1), (.long q2)] ∧ Z.Warmed39 U.vm ∧ U.heap = h0) (fun _ _ _ _ _ => True) (fun _ U o U' => ∃ v L, o = .returned v ∧ Q1 Z a1 q2 w_state_a1 h0 n0 v U'.heap L ∧ FrameEnd U o U' L ({ frames := 1, cells := 0, slots := 0, locals := 12 } : Room).cells ({ frames := 1, cells := 0, slots := 0, locals := 12 } : Room).slots) := by
  refine MetFree.of_bodySF (plainFor_of_name pn_0) hisR ?_
  intro p e s m args below meth c s₁ Bd hml0 hP hK
  obtain ⟨rfl, hZ, hh⟩ := hP
  have hx := Bd.exec
  have hby := Bd.bytes
  have hml : c.maxLocals = 3 := hml0
  have hown : s.vm.findClass "com/example/tenure/tenure/sim/SeededRandom" = some m.cls := findClass_of_methodNamed Bd.named
  have hnm := (name_of_methodNamed Bd.named Bd.method).1
  have X0 : Stand p l e ({ frames := 1, cells := 0, slots := 0, locals := 12 } : Room) s m #[(.ref a1), (.long q2)] below meth c s₁ [] 0 0 := Stand.of_body Bd
  have e0 : s₁.heap = h0 := by rw [← hh, Bd.state]; rfl
  have N0 := Fr.nil n0
  have pre0 : ∀ t, Steps p.tables e below (s₁.setTop (mkF m 0 #[.val (.ref a1), .val (.long q2), .second] [])) t → Steps p.tables e below (s₁.setTop (entryFrame m #[(.ref a1), (.long q2)] 3)) t := fun t k => castTop (ef_1 m a1 q2) k
  obtain ⟨T3, X3, e3, st3⟩ := initO X0 hx hZ hown (hw _ (List.mem_of_getElem? (i := 6) rfl)) (hw _ (List.mem_of_getElem? (i := 7) rfl)) (hw _ (List.mem_of_getElem? (i := 8) rfl)) e0 (g := (mkF m 1 #[.val (.ref a1), .val (.long q2), .second] [(.ref a1)])) rfl (by rw [hml]; rfl) rfl (hb hby d1_1) (by decide) (W := 0) (by show 2 * 0 + _ ≤ _; exact Nat.le_of_eq rfl) (by decide)
  obtain ⟨T4, h4, X4, e4, W4, st4⟩ := putF X3 hx hZ hown (host := "") (Or.inl (hw _ (List.mem_of_getElem? (i := 9) rfl))) Via.refl e3 F_state_a1 E_a1 (Or.inl (hw _ (List.mem_of_getElem? (i := 10) rfl))) (hw _ (List.mem_of_getElem? (i := 1) rfl)) (ty := .long) (by decide) rfl rfl (g := (mkF m 6 #[.val (.ref a1), .val (.long q2), .second] [(.long q2), (.ref a1)])) rfl rfl (hb hby d1_6)
  have N4 := Fr.snoc X4 N0 g_a1
  have K4 : Keep h0 h4 [a1] := ((Keep.refl h0 [a1])).wr W4 (Or.inl (List.mem_of_getElem? (i := 0) rfl))
  have Z4 : n0 ≤ h4.size := Nat.le_trans Z0 (Keep.of_wr W4).1
  obtain ⟨fs, hr, hrun, hended, hW, hsame⟩ := X4.leave (v := none) (fun _ => rfl)
  refine ⟨_, _, pre0 _ ?_, hrun, hended, _, _, rfl, ?_, ⟨_, rfl⟩, hW, hsame.mono (by decide) (by decide)⟩
  · show Steps p.tables e below (s₁.setTop (mkF m 0 #[.val (.ref a1), .val (.long q2), .second] [])) _
    refine XS.aloadN X0.here hx rfl (hb hby d1_0) rfl rfl ?_
    show Steps p.tables e below (s₁.setTop (mkF m 1 #[.val (.ref a1), .val (.long q2), .second] [(.ref a1)])) _
    refine st3 _ ?_
    show Steps p.tables e below (T3.setTop (mkF m 4 #[.val (.ref a1), .val (.long q2), .second] [])) _
    refine XS.aloadN X3.here hx rfl (hb hby d1_4) rfl rfl ?_
    show Steps p.tables e below (T3.setTop (mkF m 5 #[.val (.ref a1), .val (.long q2), .second] [(.ref a1)])) _
    refine XS.lloadN X3.here hx rfl (hb hby d1_5) rfl ?_
    show Steps p.tables e below (T3.setTop (mkF m 6 #[.val (.ref a1), .val (.long q2), .second] [(.long q2), (.ref a1)])) _
    refine st4 _ ?_
    show Steps p.tables e below (T4.setTop (mkF m 9 #[.val (.ref a1), .val (.long q2), .second] [])) _
    exact X4.returnOut hx Bd.returns (hb hby d1_9) hr
  · show Q1 Z a1 q2 w_state_a1 h0 n0 _ T4.heap _
    rw [e4]
    exact ⟨rfl, N4, (K4), (E_a1.wr W4), (F_state_a1.same W4)⟩
theorem d3_0 : decode prog_54_method_2_code 0 = .ok (.aload_n 0, 1) := by decide +kernel
theorem d3_1 : decode prog_54_method_2_code 1 = .ok (.dup, 1) := by decide +kernel
theorem d3_2 : decode prog_54_method_2_code 2 = .ok (.getfield 7, 3) := by decide +kernel
theorem d3_5 : decode prog_54_method_2_code 5 = .ok (.ldc2_w 13, 3) := by decide +kernel
theorem d3_8 : decode prog_54_method_2_code 8 = .ok (.ladd, 1) := by decide +kernel
theorem d3_9 : decode prog_54_method_2_code 9 = .ok (.putfield 7, 3) := by decide +kernel
theorem d3_12 : decode prog_54_method_2_code 12 = .ok (.aload_n 0, 1) := by decide +kernel
theorem d3_13 : decode prog_54_method_2_code 13 = .ok (.getfield 7, 3) := by decide +kernel
theorem d3_16 : decode prog_54_method_2_code 16 = .ok (.lstore_n 1, 1) := by decide +kernel
theorem d3_17 : decode prog_54_method_2_code 17 = .ok (.lload_n 1, 1) := by decide +kernel
theorem d3_18 : decode prog_54_method_2_code 18 = .ok (.lload_n 1, 1) := by decide +kernel
theorem d3_19 : decode prog_54_method_2_code 19 = .ok (.bipush 30, 2) := by decide +kernel
theorem d3_21 : decode prog_54_method_2_code 21 = .ok (.lushr, 1) := by decide +kernel
theorem d3_22 : decode prog_54_method_2_code 22 = .ok (.lxor, 1) := by decide +kernel
theorem d3_23 : decode prog_54_method_2_code 23 = .ok (.ldc2_w 15, 3) := by decide +kernel
theorem d3_26 : decode prog_54_method_2_code 26 = .ok (.lmul, 1) := by decide +kernel
theorem d3_27 : decode prog_54_method_2_code 27 = .ok (.lstore_n 1, 1) := by decide +kernel
theorem d3_28 : decode prog_54_method_2_code 28 = .ok (.lload_n 1, 1) := by decide +kernel
theorem d3_29 : decode prog_54_method_2_code 29 = .ok (.lload_n 1, 1) := by decide +kernel
theorem d3_30 : decode prog_54_method_2_code 30 = .ok (.bipush 27, 2) := by decide +kernel
theorem d3_32 : decode prog_54_method_2_code 32 = .ok (.lushr, 1) := by decide +kernel
theorem d3_33 : decode prog_54_method_2_code 33 = .ok (.lxor, 1) := by decide +kernel
theorem d3_34 : decode prog_54_method_2_code 34 = .ok (.ldc2_w 17, 3) := by decide +kernel
theorem d3_37 : decode prog_54_method_2_code 37 = .ok (.lmul, 1) := by decide +kernel
theorem d3_38 : decode prog_54_method_2_code 38 = .ok (.lstore_n 1, 1) := by decide +kernel
theorem d3_39 : decode prog_54_method_2_code 39 = .ok (.lload_n 1, 1) := by decide +kernel
theorem d3_40 : decode prog_54_method_2_code 40 = .ok (.lload_n 1, 1) := by decide +kernel
theorem d3_41 : decode prog_54_method_2_code 41 = .ok (.bipush 31, 2) := by decide +kernel
theorem d3_43 : decode prog_54_method_2_code 43 = .ok (.lushr, 1) := by decide +kernel
theorem d3_44 : decode prog_54_method_2_code 44 = .ok (.lxor, 1) := by decide +kernel
theorem d3_45 : decode prog_54_method_2_code 45 = .ok (.lreturn, 1) := by decide +kernel
theorem ef_3 (m : MethodId) (a1 : Addr) : entryFrame m #[(.ref a1)] 3 = mkF m 0 #[.val (.ref a1), .unset, .unset] [] := by first | (simp [entryFrame, mkF, argsToLocals, Value.category]; done) | rfl
def own_m1 (w_state_a1 : Int64) : Int64 := (((w_state_a1 + (-7046029254386353131 : Int64)) ^^^ (((w_state_a1 + (-7046029254386353131 : Int64)).toUInt64 >>> ((30 : Int32) &&& 0x3f).toInt64.toUInt64).toInt64)) * (-4658895280553007687 : Int64))
def own_m2 (w_state_a1 : Int64) : Int64 := (((own_m1 w_state_a1) ^^^ (((own_m1 w_state_a1).toUInt64 >>> ((27 : Int32) &&& 0x3f).toInt64.toUInt64).toInt64)) * (-7723592293110705685 : Int64))
def F3 (w_state_a1 : Int64) : Int64 := ((own_m2 w_state_a1) ^^^ (((own_m2 w_state_a1).toUInt64 >>> ((31 : Int32) &&& 0x3f).toInt64.toUInt64).toInt64))
def Q3 (Z : State) (a1 : Addr) (w_state_a1 : Int64) (h0 : Heap) (n0 : Nat) (v : Option Value) (h : Heap) (L : List Loc) : Prop := v = some (.long (F3 w_state_a1)) ∧ Fr n0 L ∧ Keep h0 h [a1] ∧ Exa Z h a1 "com/example/tenure/tenure/sim/SeededRandom" ∧ Fld Z h a1 "com/example/tenure/tenure/sim/SeededRandom" "state" "J" (.long (w_state_a1 + (-7046029254386353131 : Int64)))
set_option maxRecDepth 65536 in
set_option maxHeartbeats 40000000 in
theorem rm3 (l : Launch) (Z : State) (a0 : Array Value) (hw : ∀ d ∈ tables_1, d.before a0 Z = true) (ws : List Jvm.Cond) (a1 : Addr) (w_state_a1 : Int64) (h0 : Heap) (n0 : Nat) (Z0 : n0 ≤ h0.size) (E_a1 : Exa Z h0 a1 "com/example/tenure/tenure/sim/SeededRandom") (F_state_a1 : Fld Z h0 a1 "com/example/tenure/tenure/sim/SeededRandom" "state" "J" (.long w_state_a1)) (g_a1 : n0 ≤ a1) :
    MetFree l (⟨"com/example/tenure/tenure/sim/SeededRandom", "nextLong", "()J"⟩ : MethodName) (head1 (Jvm.Cond.code (⟨"com/example/tenure/tenure/sim/SeededRandom", "nextLong", "()J"⟩ : MethodName) prog_54_method_2_code 3 (some .long) :: ws) ({ frames := 0, cells := 0, slots := 0, locals := 0 } : Room)) (fun a U => a = #[(.ref a1)] ∧ Z.Warmed39 U.vm ∧ U.heap = h0) (fun _ _ _ _ _ => True) (fun _ U o U' => ∃ v L, o = .returned v ∧ Q3 Z a1 w_state_a1 h0 n0 v U'.heap L ∧ FrameEnd U o U' L ({ frames := 0, cells := 0, slots := 0, locals := 0 } : Room).cells ({ frames := 0, cells := 0, slots := 0, locals := 0 } : Room).slots) := by
  refine MetFree.of_bodySF (plainFor_of_name pn_0) hisR ?_
  intro p e s m args below meth c s₁ Bd hml0 hP hK
  obtain ⟨rfl, hZ, hh⟩ := hP
  have hx := Bd.exec
  have hby := Bd.bytes
  have hml : c.maxLocals = 3 := hml0
  have hown : s.vm.findClass "com/example/tenure/tenure/sim/SeededRandom" = some m.cls := findClass_of_methodNamed Bd.named
  have hnm := (name_of_methodNamed Bd.named Bd.method).1
  have X0 : Stand p l e ({ frames := 0, cells := 0, slots := 0, locals := 0 } : Room) s m #[(.ref a1)] below meth c s₁ [] 0 0 := Stand.of_body Bd
  have e0 : s₁.heap = h0 := by rw [← hh, Bd.state]; rfl
  have N0 := Fr.nil n0
  have pre0 : ∀ t, Steps p.tables e below (s₁.setTop (mkF m 0 #[.val (.ref a1), .unset, .unset] [])) t → Steps p.tables e below (s₁.setTop (entryFrame m #[(.ref a1)] 3)) t := fun t k => castTop (ef_3 m a1) k
  obtain ⟨T2, X2, e2, st2⟩ := getF X0 hx hZ hown (host := "") (Or.inl (hw _ (List.mem_of_getElem? (i := 9) rfl))) Via.refl e0 F_state_a1 (g := (mkF m 2 #[.val (.ref a1), .unset, .unset] [(.ref a1), (.ref a1)])) rfl rfl (hb hby d3_2)
  obtain ⟨T3, h3, X3, e3, W3, st3⟩ := putF X2 hx hZ hown (host := "") (Or.inl (hw _ (List.mem_of_getElem? (i := 9) rfl))) Via.refl e2 F_state_a1 E_a1 (Or.inl (hw _ (List.mem_of_getElem? (i := 10) rfl))) (hw _ (List.mem_of_getElem? (i := 1) rfl)) (ty := .long) (by decide) rfl rfl (g := (mkF m 9 #[.val (.ref a1), .unset, .unset] [(.long (w_state_a1 + (-7046029254386353131 : Int64))), (.ref a1)])) rfl rfl (hb hby d3_9)
  have N3 := Fr.snoc X3 N0 g_a1
  have K3 : Keep h0 h3 [a1] := ((Keep.refl h0 [a1])).wr W3 (Or.inl (List.mem_of_getElem? (i := 0) rfl))
  have Z3 : n0 ≤ h3.size := Nat.le_trans Z0 (Keep.of_wr W3).1
  obtain ⟨T4, X4, e4, st4⟩ := getF X3 hx hZ hown (host := "") (Or.inl (hw _ (List.mem_of_getElem? (i := 9) rfl))) Via.refl e3 (F_state_a1.same W3) (g := (mkF m 13 #[.val (.ref a1), .unset, .unset] [(.ref a1)])) rfl rfl (hb hby d3_13)
  obtain ⟨fs, hr, hrun, hended, hW, hsame⟩ := X4.leave (v := some (.long ((own_m2 w_state_a1) ^^^ (((own_m2 w_state_a1).toUInt64 >>> ((31 : Int32) &&& 0x3f).toInt64.toUInt64).toInt64)))) (fun h => by rw [Bd.returns] at h; cases h)
  refine ⟨_, _, pre0 _ ?_, hrun, hended, _, _, rfl, ?_, ⟨_, rfl⟩, hW, hsame.mono (by decide) (by decide)⟩
  · show Steps p.tables e below (s₁.setTop (mkF m 0 #[.val (.ref a1), .unset, .unset] [])) _
    refine XS.aloadN X0.here hx rfl (hb hby d3_0) rfl rfl ?_
    show Steps p.tables e below (s₁.setTop (mkF m 1 #[.val (.ref a1), .unset, .unset] [(.ref a1)])) _
    refine XS.dup X0.here hx rfl (hb hby d3_1) rfl rfl ?_
    show Steps p.tables e below (s₁.setTop (mkF m 2 #[.val (.ref a1), .unset, .unset] [(.ref a1), (.ref a1)])) _
    refine st2 _ ?_
    show Steps p.tables e below (T2.setTop (mkF m 5 #[.val (.ref a1), .unset, .unset] [(.long w_state_a1), (.ref a1)])) _
    refine X2.ldc2Long hx hown (mvT hZ (hw _ (List.mem_of_getElem? (i := 18) rfl))) (g := (mkF m 5 #[.val (.ref a1), .unset, .unset] [(.long w_state_a1), (.ref a1)])) rfl (hb hby d3_5) _ ?_
    show Steps p.tables e below (T2.setTop (mkF m 8 #[.val (.ref a1), .unset, .unset] [(.long (-7046029254386353131 : Int64)), (.long w_state_a1), (.ref a1)])) _
    refine XS.ladd X2.here hx rfl (hb hby d3_8) rfl ?_
    show Steps p.tables e below (T2.setTop (mkF m 9 #[.val (.ref a1), .unset, .unset] [(.long (w_state_a1 + (-7046029254386353131 : Int64))), (.ref a1)])) _
    refine st3 _ ?_
    show Steps p.tables e below (T3.setTop (mkF m 12 #[.val (.ref a1), .unset, .unset] [])) _
    refine XS.aloadN X3.here hx rfl (hb hby d3_12) rfl rfl ?_
    show Steps p.tables e below (T3.setTop (mkF m 13 #[.val (.ref a1), .unset, .unset] [(.ref a1)])) _
    refine st4 _ ?_
    show Steps p.tables e below (T4.setTop (mkF m 16 #[.val (.ref a1), .unset, .unset] [(.long (w_state_a1 + (-7046029254386353131 : Int64)))])) _
    refine XS.lstoreN X4.here hx rfl (hb hby d3_16) rfl (l' := #[.val (.ref a1), .val (.long (w_state_a1 + (-7046029254386353131 : Int64))), .second]) rfl ?_
    show Steps p.tables e below (T4.setTop (mkF m 17 #[.val (.ref a1), .val (.long (w_state_a1 + (-7046029254386353131 : Int64))), .second] [])) _
    refine XS.lloadN X4.here hx rfl (hb hby d3_17) rfl ?_
    show Steps p.tables e below (T4.setTop (mkF m 18 #[.val (.ref a1), .val (.long (w_state_a1 + (-7046029254386353131 : Int64))), .second] [(.long (w_state_a1 + (-7046029254386353131 : Int64)))])) _
    refine XS.lloadN X4.here hx rfl (hb hby d3_18) rfl ?_
    show Steps p.tables e below (T4.setTop (mkF m 19 #[.val (.ref a1), .val (.long (w_state_a1 + (-7046029254386353131 : Int64))), .second] [(.long (w_state_a1 + (-7046029254386353131 : Int64))), (.long (w_state_a1 + (-7046029254386353131 : Int64)))])) _
    refine XS.bipush X4.here hx rfl (hb hby d3_19) ?_
    show Steps p.tables e below (T4.setTop (mkF m 21 #[.val (.ref a1), .val (.long (w_state_a1 + (-7046029254386353131 : Int64))), .second] [(.int (30 : Int32)), (.long (w_state_a1 + (-7046029254386353131 : Int64))), (.long (w_state_a1 + (-7046029254386353131 : Int64)))])) _
    refine XS.lushr X4.here hx rfl (hb hby d3_21) rfl ?_
    show Steps p.tables e below (T4.setTop (mkF m 22 #[.val (.ref a1), .val (.long (w_state_a1 + (-7046029254386353131 : Int64))), .second] [(.long (((w_state_a1 + (-7046029254386353131 : Int64)).toUInt64 >>> ((30 : Int32) &&& 0x3f).toInt64.toUInt64).toInt64)), (.long (w_state_a1 + (-7046029254386353131 : Int64)))])) _
    refine XS.lxor X4.here hx rfl (hb hby d3_22) rfl ?_
    show Steps p.tables e below (T4.setTop (mkF m 23 #[.val (.ref a1), .val (.long (w_state_a1 + (-7046029254386353131 : Int64))), .second] [(.long ((w_state_a1 + (-7046029254386353131 : Int64)) ^^^ (((w_state_a1 + (-7046029254386353131 : Int64)).toUInt64 >>> ((30 : Int32) &&& 0x3f).toInt64.toUInt64).toInt64)))])) _
    refine X4.ldc2Long hx hown (mvT hZ (hw _ (List.mem_of_getElem? (i := 19) rfl))) (g := (mkF m 23 #[.val (.ref a1), .val (.long (w_state_a1 + (-7046029254386353131 : Int64))), .second] [(.long ((w_state_a1 + (-7046029254386353131 : Int64)) ^^^ (((w_state_a1 + (-7046029254386353131 : Int64)).toUInt64 >>> ((30 : Int32) &&& 0x3f).toInt64.toUInt64).toInt64)))])) rfl (hb hby d3_23) _ ?_
    show Steps p.tables e below (T4.setTop (mkF m 26 #[.val (.ref a1), .val (.long (w_state_a1 + (-7046029254386353131 : Int64))), .second] [(.long (-4658895280553007687 : Int64)), (.long ((w_state_a1 + (-7046029254386353131 : Int64)) ^^^ (((w_state_a1 + (-7046029254386353131 : Int64)).toUInt64 >>> ((30 : Int32) &&& 0x3f).toInt64.toUInt64).toInt64)))])) _
    refine XS.lmul X4.here hx rfl (hb hby d3_26) rfl ?_
    show Steps p.tables e below (T4.setTop (mkF m 27 #[.val (.ref a1), .val (.long (w_state_a1 + (-7046029254386353131 : Int64))), .second] [(.long (((w_state_a1 + (-7046029254386353131 : Int64)) ^^^ (((w_state_a1 + (-7046029254386353131 : Int64)).toUInt64 >>> ((30 : Int32) &&& 0x3f).toInt64.toUInt64).toInt64)) * (-4658895280553007687 : Int64)))])) _
    refine XS.lstoreN X4.here hx rfl (hb hby d3_27) rfl (l' := #[.val (.ref a1), .val (.long (own_m1 w_state_a1)), .second]) rfl ?_
    show Steps p.tables e below (T4.setTop (mkF m 28 #[.val (.ref a1), .val (.long (own_m1 w_state_a1)), .second] [])) _
    refine XS.lloadN X4.here hx rfl (hb hby d3_28) rfl ?_
    show Steps p.tables e below (T4.setTop (mkF m 29 #[.val (.ref a1), .val (.long (own_m1 w_state_a1)), .second] [(.long (own_m1 w_state_a1))])) _
    refine XS.lloadN X4.here hx rfl (hb hby d3_29) rfl ?_
    show Steps p.tables e below (T4.setTop (mkF m 30 #[.val (.ref a1), .val (.long (own_m1 w_state_a1)), .second] [(.long (own_m1 w_state_a1)), (.long (own_m1 w_state_a1))])) _
    refine XS.bipush X4.here hx rfl (hb hby d3_30) ?_
    show Steps p.tables e below (T4.setTop (mkF m 32 #[.val (.ref a1), .val (.long (own_m1 w_state_a1)), .second] [(.int (27 : Int32)), (.long (own_m1 w_state_a1)), (.long (own_m1 w_state_a1))])) _
    refine XS.lushr X4.here hx rfl (hb hby d3_32) rfl ?_
    show Steps p.tables e below (T4.setTop (mkF m 33 #[.val (.ref a1), .val (.long (own_m1 w_state_a1)), .second] [(.long (((own_m1 w_state_a1).toUInt64 >>> ((27 : Int32) &&& 0x3f).toInt64.toUInt64).toInt64)), (.long (own_m1 w_state_a1))])) _
    refine XS.lxor X4.here hx rfl (hb hby d3_33) rfl ?_
    show Steps p.tables e below (T4.setTop (mkF m 34 #[.val (.ref a1), .val (.long (own_m1 w_state_a1)), .second] [(.long ((own_m1 w_state_a1) ^^^ (((own_m1 w_state_a1).toUInt64 >>> ((27 : Int32) &&& 0x3f).toInt64.toUInt64).toInt64)))])) _
    refine X4.ldc2Long hx hown (mvT hZ (hw _ (List.mem_of_getElem? (i := 20) rfl))) (g := (mkF m 34 #[.val (.ref a1), .val (.long (own_m1 w_state_a1)), .second] [(.long ((own_m1 w_state_a1) ^^^ (((own_m1 w_state_a1).toUInt64 >>> ((27 : Int32) &&& 0x3f).toInt64.toUInt64).toInt64)))])) rfl (hb hby d3_34) _ ?_
    show Steps p.tables e below (T4.setTop (mkF m 37 #[.val (.ref a1), .val (.long (own_m1 w_state_a1)), .second] [(.long (-7723592293110705685 : Int64)), (.long ((own_m1 w_state_a1) ^^^ (((own_m1 w_state_a1).toUInt64 >>> ((27 : Int32) &&& 0x3f).toInt64.toUInt64).toInt64)))])) _
    refine XS.lmul X4.here hx rfl (hb hby d3_37) rfl ?_
    show Steps p.tables e below (T4.setTop (mkF m 38 #[.val (.ref a1), .val (.long (own_m1 w_state_a1)), .second] [(.long (((own_m1 w_state_a1) ^^^ (((own_m1 w_state_a1).toUInt64 >>> ((27 : Int32) &&& 0x3f).toInt64.toUInt64).toInt64)) * (-7723592293110705685 : Int64)))])) _
    refine XS.lstoreN X4.here hx rfl (hb hby d3_38) rfl (l' := #[.val (.ref a1), .val (.long (own_m2 w_state_a1)), .second]) rfl ?_
    show Steps p.tables e below (T4.setTop (mkF m 39 #[.val (.ref a1), .val (.long (own_m2 w_state_a1)), .second] [])) _
    refine XS.lloadN X4.here hx rfl (hb hby d3_39) rfl ?_
    show Steps p.tables e below (T4.setTop (mkF m 40 #[.val (.ref a1), .val (.long (own_m2 w_state_a1)), .second] [(.long (own_m2 w_state_a1))])) _
    refine XS.lloadN X4.here hx rfl (hb hby d3_40) rfl ?_
    show Steps p.tables e below (T4.setTop (mkF m 41 #[.val (.ref a1), .val (.long (own_m2 w_state_a1)), .second] [(.long (own_m2 w_state_a1)), (.long (own_m2 w_state_a1))])) _
    refine XS.bipush X4.here hx rfl (hb hby d3_41) ?_
    show Steps p.tables e below (T4.setTop (mkF m 43 #[.val (.ref a1), .val (.long (own_m2 w_state_a1)), .second] [(.int (31 : Int32)), (.long (own_m2 w_state_a1)), (.long (own_m2 w_state_a1))])) _
    refine XS.lushr X4.here hx rfl (hb hby d3_43) rfl ?_
    show Steps p.tables e below (T4.setTop (mkF m 44 #[.val (.ref a1), .val (.long (own_m2 w_state_a1)), .second] [(.long (((own_m2 w_state_a1).toUInt64 >>> ((31 : Int32) &&& 0x3f).toInt64.toUInt64).toInt64)), (.long (own_m2 w_state_a1))])) _
    refine XS.lxor X4.here hx rfl (hb hby d3_44) rfl ?_
    show Steps p.tables e below (T4.setTop (mkF m 45 #[.val (.ref a1), .val (.long (own_m2 w_state_a1)), .second] [(.long ((own_m2 w_state_a1) ^^^ (((own_m2 w_state_a1).toUInt64 >>> ((31 : Int32) &&& 0x3f).toInt64.toUInt64).toInt64)))])) _
    exact retOut X4 hx Bd.returns rfl (Or.inr (Or.inl ⟨rfl, rfl, _, rfl⟩)) (hb hby d3_45) hr
  · show Q3 Z a1 w_state_a1 h0 n0 _ T4.heap _
    rw [e4]
    have qr : F3 w_state_a1 = ((own_m2 w_state_a1) ^^^ (((own_m2 w_state_a1).toUInt64 >>> ((31 : Int32) &&& 0x3f).toInt64.toUInt64).toInt64)) := by rfl
    exact ⟨(by rw [qr]), N3, (K3), (E_a1.wr W3), (F_state_a1.same W3)⟩
theorem pd_0 : parseMethodDescriptor "(J)V" = some ⟨[.long], none⟩ := by decide +kernel
theorem pd_1 : parseMethodDescriptor "()J" = some ⟨[], some .long⟩ := by decide +kernel
theorem pn_1 : plainName "com/example/tenure/tenure/sim/SeededRandomNextLongPinLaw" = true := by first | (simp [plainName, overriddenIn]; done) | decide +kernel
theorem ef_0 (m : MethodId) (q1 : Int64) (q2 : Int64) : entryFrame m #[(.long q1), (.long q2)] maxLocals = mkF m 0 #[.val (.long q1), .second, .val (.long q2), .second, .unset, .unset, .unset, .unset, .unset, .unset, .unset, .unset, .unset, .unset, .unset, .unset, .unset, .unset, .unset, .unset, .unset, .unset, .unset] [] := by first | (simp [entryFrame, mkF, argsToLocals, Value.category, maxLocals]; done) | rfl
theorem own_bv (x : BitVec 64) (k : Nat) (hk : 64 ≤ 3 * k) : (x ^^^ (x >>> k)) ^^^ ((x ^^^ (x >>> k)) >>> k) ^^^ ((x ^^^ (x >>> k)) >>> (2 * k)) = x := by
  apply BitVec.eq_of_getLsbD_eq
  intro i hi
  simp only [BitVec.getLsbD_xor, BitVec.getLsbD_ushiftRight]
  have e1 : k + (k + i) = 2 * k + i := by omega
  have e2 : x.getLsbD (k + (2 * k + i)) = false := BitVec.getLsbD_of_ge _ _ (by omega)
  rw [e1, e2]
  cases x.getLsbD i <;> cases x.getLsbD (k + i) <;> cases x.getLsbD (2 * k + i) <;> rfl
theorem own_sh27 (x : Int64) : ((x.toUInt64 >>> ((27 : Int32) &&& 0x3f).toInt64.toUInt64).toInt64).toBitVec = x.toBitVec >>> 27 := rfl
theorem own_sh30 (x : Int64) : ((x.toUInt64 >>> ((30 : Int32) &&& 0x3f).toInt64.toUInt64).toInt64).toBitVec = x.toBitVec >>> 30 := rfl
theorem own_sh31 (x : Int64) : ((x.toUInt64 >>> ((31 : Int32) &&& 0x3f).toInt64.toUInt64).toInt64).toBitVec = x.toBitVec >>> 31 := rfl
theorem own_sh54 (x : Int64) : ((x.toUInt64 >>> ((54 : Int32) &&& 0x3f).toInt64.toUInt64).toInt64).toBitVec = x.toBitVec >>> 54 := rfl
theorem own_sh60 (x : Int64) : ((x.toUInt64 >>> ((60 : Int32) &&& 0x3f).toInt64.toUInt64).toInt64).toBitVec = x.toBitVec >>> 60 := rfl
theorem own_sh62 (x : Int64) : ((x.toUInt64 >>> ((62 : Int32) &&& 0x3f).toInt64.toUInt64).toInt64).toBitVec = x.toBitVec >>> 62 := rfl
theorem own_x27 (x y : Int64) (h : y = x ^^^ ((x.toUInt64 >>> ((27 : Int32) &&& 0x3f).toInt64.toUInt64).toInt64)) : (y ^^^ ((y.toUInt64 >>> ((27 : Int32) &&& 0x3f).toInt64.toUInt64).toInt64)) ^^^ ((y.toUInt64 >>> ((54 : Int32) &&& 0x3f).toInt64.toUInt64).toInt64) = x := by
  apply Int64.toBitVec_inj.mp
  subst h
  simp only [Int64.toBitVec_xor, own_sh27, own_sh54]
  exact own_bv x.toBitVec 27 (by decide)
theorem own_x30 (x y : Int64) (h : y = x ^^^ ((x.toUInt64 >>> ((30 : Int32) &&& 0x3f).toInt64.toUInt64).toInt64)) : (y ^^^ ((y.toUInt64 >>> ((30 : Int32) &&& 0x3f).toInt64.toUInt64).toInt64)) ^^^ ((y.toUInt64 >>> ((60 : Int32) &&& 0x3f).toInt64.toUInt64).toInt64) = x := by
  apply Int64.toBitVec_inj.mp
  subst h
  simp only [Int64.toBitVec_xor, own_sh30, own_sh60]
  exact own_bv x.toBitVec 30 (by decide)
theorem own_x31 (x y : Int64) (h : y = x ^^^ ((x.toUInt64 >>> ((31 : Int32) &&& 0x3f).toInt64.toUInt64).toInt64)) : (y ^^^ ((y.toUInt64 >>> ((31 : Int32) &&& 0x3f).toInt64.toUInt64).toInt64)) ^^^ ((y.toUInt64 >>> ((62 : Int32) &&& 0x3f).toInt64.toUInt64).toInt64) = x := by
  apply Int64.toBitVec_inj.mp
  subst h
  simp only [Int64.toBitVec_xor, own_sh31, own_sh62]
  exact own_bv x.toBitVec 31 (by decide)
theorem own_mul (x y c k : Int64) (h : y = x * c) (hk : c * k = 1) : y * k = x := by
  rw [h, Int64.mul_assoc, hk, Int64.mul_one]
theorem own_inj {x y : Int64} (h : F3 x = F3 y) : x = y := by
  have k1 : (-7723592293110705685 : Int64) * (3573116690164977347 : Int64) = 1 := by decide +kernel
  have k2 : (-4658895280553007687 : Int64) * (-7575587736534282103 : Int64) = 1 := by decide +kernel
  have s1 : own_m2 x = own_m2 y := by rw [← own_x31 (own_m2 x) (F3 x) rfl, ← own_x31 (own_m2 y) (F3 y) rfl, h]
  have s2 : (own_m1 x ^^^ ((own_m1 x).toUInt64 >>> ((27 : Int32) &&& 0x3f).toInt64.toUInt64).toInt64) = (own_m1 y ^^^ ((own_m1 y).toUInt64 >>> ((27 : Int32) &&& 0x3f).toInt64.toUInt64).toInt64) := by
    rw [← own_mul _ (own_m2 x) _ _ rfl k1, ← own_mul _ (own_m2 y) _ _ rfl k1, s1]
  have s3 : own_m1 x = own_m1 y := by rw [← own_x27 (own_m1 x) _ rfl, ← own_x27 (own_m1 y) _ rfl, s2]
  have s4 : ((x + (-7046029254386353131 : Int64)) ^^^ ((x + (-7046029254386353131 : Int64)).toUInt64 >>> ((30 : Int32) &&& 0x3f).toInt64.toUInt64).toInt64) = ((y + (-7046029254386353131 : Int64)) ^^^ ((y + (-7046029254386353131 : Int64)).toUInt64 >>> ((30 : Int32) &&& 0x3f).toInt64.toUInt64).toInt64) := by
    rw [← own_mul _ (own_m1 x) _ _ rfl k2, ← own_mul _ (own_m1 y) _ _ rfl k2, s3]
  have s5 : x + (-7046029254386353131 : Int64) = y + (-7046029254386353131 : Int64) := by rw [← own_x30 (x + (-7046029254386353131 : Int64)) _ rfl, ← own_x30 (y + (-7046029254386353131 : Int64)) _ rfl, s4]
  have s6 := congrArg (fun z => z - (-7046029254386353131 : Int64)) s5
  simpa [Int64.add_sub_cancel] using s6
def Q0 (Z : State) (q1 : Int64) (q2 : Int64) (h0 : Heap) (n0 : Nat) (v : Option Value) (h : Heap) (L : List Loc) : Prop := v = some (.int (1 : Int32)) ∧ Fr n0 L
set_option maxRecDepth 65536 in
set_option maxHeartbeats 40000000 in
theorem rm0 (l : Launch) (Z : State) (a0 : Array Value) (hw : ∀ d ∈ tables_1, d.before a0 Z = true) (ws : List Jvm.Cond) (q1 : Int64) (q2 : Int64) (h0 : Heap) (n0 : Nat) (Z0 : n0 ≤ h0.size) :
    MetFree l x (head1 (Jvm.Cond.code x code maxLocals ret :: ws) room_1) (fun a U => a = #[(.long q1), (.long q2)] ∧ Z.Warmed39 U.vm ∧ U.heap = h0) (fun _ _ _ _ _ => True) (fun _ U o U' => ∃ v L, o = .returned v ∧ Q0 Z q1 q2 h0 n0 v U'.heap L ∧ FrameEnd U o U' L room_1.cells room_1.slots) := by
  refine MetFree.of_bodySF (plainFor_of_name pn_1) hisR ?_
  intro p e s m args below meth c s₁ Bd hml0 hP hK
  obtain ⟨rfl, hZ, hh⟩ := hP
  have hx := Bd.exec
  have hby := Bd.bytes
  have hml : c.maxLocals = 23 := hml0
  have hown : s.vm.findClass "com/example/tenure/tenure/sim/SeededRandomNextLongPinLaw" = some m.cls := findClass_of_methodNamed Bd.named
  have hnm := (name_of_methodNamed Bd.named Bd.method).1
  have X0 : Stand p l e room_1 s m #[(.long q1), (.long q2)] below meth c s₁ [] 0 0 := Stand.of_body Bd
  have e0 : s₁.heap = h0 := by rw [← hh, Bd.state]; rfl
  have N0 := Fr.nil n0
  have pre0 : ∀ t, Steps p.tables e below (s₁.setTop (mkF m 0 #[.val (.long q1), .second, .val (.long q2), .second, .unset, .unset, .unset, .unset, .unset, .unset, .unset, .unset, .unset, .unset, .unset, .unset, .unset, .unset, .unset, .unset, .unset, .unset, .unset] [])) t → Steps p.tables e below (s₁.setTop (entryFrame m #[(.long q1), (.long q2)] maxLocals)) t := fun t k => castTop (ef_0 m q1 q2) k
  obtain ⟨T3, h3, X3, e3, E3, A3, D3, -, st3⟩ := newO X0 hx hZ hown (hw _ (List.mem_of_getElem? (i := 0) rfl)) (hw _ (List.mem_of_getElem? (i := 1) rfl)) (hw _ (List.mem_of_getElem? (i := 2) rfl)) e0 (g := (mkF m 0 #[.val (.long q1), .second, .val (.long q2), .second, .unset, .unset, .unset, .unset, .unset, .unset, .unset, .unset, .unset, .unset, .unset, .unset, .unset, .unset, .unset, .unset, .unset, .unset, .unset] [])) rfl (hb hby at_0) (by decide) (by decide)
  obtain ⟨b3, g3⟩ : ∃ z, z = h0.size := ⟨_, rfl⟩
  rw [← g3] at A3 D3 st3
  have g_b3 : n0 ≤ b3 := Nat.le_trans Z0 (Nat.le_of_eq g3.symm)
  have sz_b3 : h0.size ≤ b3 := Nat.le_trans ((Keep.refl h0 [])).1 (Nat.le_of_eq g3.symm)
  have K3 : Keep h0 h3 [] := ((Keep.refl h0 [])).ext E3
  have Z3 : n0 ≤ h3.size := Nat.le_trans Z0 E3.1
  have F_state_b3 : Fld Z h3 b3 "com/example/tenure/tenure/sim/SeededRandom" "state" "J" (.long (0 : Int64)) := D3 (Or.inl (hw _ (List.mem_of_getElem? (i := 10) rfl))) (ty := .long) (by decide)
  obtain ⟨_, _, ⟨T4, L4, k4, n4⟩, -, X4, ⟨Lc4, hQ4, l4, y4, z4⟩, st4⟩ := X3.specialBack hx (y := (⟨"com/example/tenure/tenure/sim/SeededRandom", "<init>", "(J)V"⟩ : MethodName)) rfl hown (mvT hZ (hw _ (List.mem_of_getElem? (i := 3) rfl))) (mvT hZ (hw _ (List.mem_of_getElem? (i := 4) rfl))) (mvT hZ (hw _ (List.mem_of_getElem? (i := 5) rfl))) (by decide) (backOf (W := 1) (rm1 l Z a0 hw [] b3 q1 (0 : Int64) h3 n0 Z3 A3 F_state_b3 g_b3) hZ (hw _ (List.mem_of_getElem? (i := 5) rfl)) (hw _ (List.mem_of_getElem? (i := 2) rfl)) (by decide) (by decide)) (g := (mkF m 5 #[.val (.long q1), .second, .val (.long q2), .second, .unset, .unset, .unset, .unset, .unset, .unset, .unset, .unset, .unset, .unset, .unset, .unset, .unset, .unset, .unset, .unset, .unset, .unset, .unset] [(.long q1), (.ref b3), (.ref b3)])) rfl (by rw [hml]; rfl) (Steps.refl _) (a := b3) (argsL := [(.long q1)]) (rest := [(.ref b3)]) (lenOf pd_0 rfl) rfl (by show 2 * 0 + _ ≤ _; exact Nat.le_of_eq rfl) (hb hby at_5) (fun _ _ => ⟨rfl, e3, (by decide : 1 + 0 ≤ _), (by decide : 1 + 0 ≤ _)⟩)
  dsimp only [Pt.U, Pt.locs, Pt.cells, Pt.slots] at X4 l4 y4 z4 st4 hQ4
  subst l4 y4 z4
  obtain ⟨rfl, N4q, K4q, f4_0, f4_1⟩ := hQ4
  have K4 : Keep h0 T4.heap [] := (K3).trans K4q (allS (P := fun x => x ∈ [] ∨ h0.size ≤ x) (Or.inr sz_b3) all0)
  have Z4 : n0 ≤ T4.heap.size := Nat.le_trans Z3 K4q.1
  have N4 := Fr.app N0 N4q
  obtain ⟨T5, h5, X5, e5, E5, A5, D5, -, st5⟩ := newO X4 hx hZ hown (hw _ (List.mem_of_getElem? (i := 0) rfl)) (hw _ (List.mem_of_getElem? (i := 1) rfl)) (hw _ (List.mem_of_getElem? (i := 2) rfl)) rfl (g := (mkF m 10 #[.val (.long q1), .second, .val (.long q2), .second, .val (.ref b3), .unset, .unset, .unset, .unset, .unset, .unset, .unset, .unset, .unset, .unset, .unset, .unset, .unset, .unset, .unset, .unset, .unset, .unset] [])) rfl (hb hby at_10) (by decide) (by decide)
  obtain ⟨b5, g5⟩ : ∃ z, z = T4.heap.size := ⟨_, rfl⟩
  rw [← g5] at A5 D5 st5
  have ne_b3_b5 : b3 ≠ b5 := Nat.ne_of_lt (Nat.lt_of_lt_of_le f4_0.lt (Nat.le_of_eq g5.symm))
  have g_b5 : n0 ≤ b5 := Nat.le_trans Z4 (Nat.le_of_eq g5.symm)
  have sz_b5 : h0.size ≤ b5 := Nat.le_trans (K4).1 (Nat.le_of_eq g5.symm)
  have K5 : Keep h0 h5 [] := (K4).ext E5
  have Z5 : n0 ≤ h5.size := Nat.le_trans Z4 E5.1
  have F_state_b5 : Fld Z h5 b5 "com/example/tenure/tenure/sim/SeededRandom" "state" "J" (.long (0 : Int64)) := D5 (Or.inl (hw _ (List.mem_of_getElem? (i := 10) rfl))) (ty := .long) (by decide)
  obtain ⟨_, _, ⟨T6, L6, k6, n6⟩, -, X6, ⟨Lc6, hQ6, l6, y6, z6⟩, st6⟩ := X5.specialBack hx (y := (⟨"com/example/tenure/tenure/sim/SeededRandom", "<init>", "(J)V"⟩ : MethodName)) rfl hown (mvT hZ (hw _ (List.mem_of_getElem? (i := 3) rfl))) (mvT hZ (hw _ (List.mem_of_getElem? (i := 4) rfl))) (mvT hZ (hw _ (List.mem_of_getElem? (i := 5) rfl))) (by decide) (backOf (W := 1) (rm1 l Z a0 hw [] b5 (q1 + (-7046029254386353131 : Int64)) (0 : Int64) h5 n0 Z5 A5 F_state_b5 g_b5) hZ (hw _ (List.mem_of_getElem? (i := 5) rfl)) (hw _ (List.mem_of_getElem? (i := 2) rfl)) (by decide) (by decide)) (g := (mkF m 19 #[.val (.long q1), .second, .val (.long q2), .second, .val (.ref b3), .unset, .unset, .unset, .unset, .unset, .unset, .unset, .unset, .unset, .unset, .unset, .unset, .unset, .unset, .unset, .unset, .unset, .unset] [(.long (q1 + (-7046029254386353131 : Int64))), (.ref b5), (.ref b5)])) rfl (by rw [hml]; rfl) (Steps.refl _) (a := b5) (argsL := [(.long (q1 + (-7046029254386353131 : Int64)))]) (rest := [(.ref b5)]) (lenOf pd_0 rfl) rfl (by show 2 * 0 + _ ≤ _; exact Nat.le_of_eq rfl) (hb hby at_19) (fun _ _ => ⟨rfl, e5, (by decide : 2 + 0 ≤ _), (by decide : 2 + 0 ≤ _)⟩)
  dsimp only [Pt.U, Pt.locs, Pt.cells, Pt.slots] at X6 l6 y6 z6 st6 hQ6
  subst l6 y6 z6
  obtain ⟨rfl, N6q, K6q, f6_0, f6_1⟩ := hQ6
  have y7 := ((f4_1.ext E5).keep K6q (ninS ne_b3_b5 nin0))
  have K6 : Keep h0 T6.heap [] := (K5).trans K6q (allS (P := fun x => x ∈ [] ∨ h0.size ≤ x) (Or.inr sz_b5) all0)
  have Z6 : n0 ≤ T6.heap.size := Nat.le_trans Z5 K6q.1
  have N6 := Fr.app N4 N6q
  obtain ⟨T8, h8, X8, e8, E8, A8, D8, -, st8⟩ := newO X6 hx hZ hown (hw _ (List.mem_of_getElem? (i := 0) rfl)) (hw _ (List.mem_of_getElem? (i := 1) rfl)) (hw _ (List.mem_of_getElem? (i := 2) rfl)) rfl (g := (mkF m 24 #[.val (.long q1), .second, .val (.long q2), .second, .val (.ref b3), .val (.ref b5), .unset, .unset, .unset, .unset, .unset, .unset, .unset, .unset, .unset, .unset, .unset, .unset, .unset, .unset, .unset, .unset, .unset] [])) rfl (hb hby at_24) (by decide) (by decide)
  obtain ⟨b8, g8⟩ : ∃ z, z = T6.heap.size := ⟨_, rfl⟩
  rw [← g8] at A8 D8 st8
  have ne_b3_b8 : b3 ≠ b8 := Nat.ne_of_lt (Nat.lt_of_lt_of_le ((f4_0.ext E5).keep K6q).lt (Nat.le_of_eq g8.symm))
  have ne_b5_b8 : b5 ≠ b8 := Nat.ne_of_lt (Nat.lt_of_lt_of_le f6_0.lt (Nat.le_of_eq g8.symm))
  have g_b8 : n0 ≤ b8 := Nat.le_trans Z6 (Nat.le_of_eq g8.symm)
  have sz_b8 : h0.size ≤ b8 := Nat.le_trans (K6).1 (Nat.le_of_eq g8.symm)
  have K8 : Keep h0 h8 [] := (K6).ext E8
  have Z8 : n0 ≤ h8.size := Nat.le_trans Z6 E8.1
  have F_state_b8 : Fld Z h8 b8 "com/example/tenure/tenure/sim/SeededRandom" "state" "J" (.long (0 : Int64)) := D8 (Or.inl (hw _ (List.mem_of_getElem? (i := 10) rfl))) (ty := .long) (by decide)
  obtain ⟨_, _, ⟨T9, L9, k9, n9⟩, -, X9, ⟨Lc9, hQ9, l9, y9, z9⟩, st9⟩ := X8.specialBack hx (y := (⟨"com/example/tenure/tenure/sim/SeededRandom", "<init>", "(J)V"⟩ : MethodName)) rfl hown (mvT hZ (hw _ (List.mem_of_getElem? (i := 3) rfl))) (mvT hZ (hw _ (List.mem_of_getElem? (i := 4) rfl))) (mvT hZ (hw _ (List.mem_of_getElem? (i := 5) rfl))) (by decide) (backOf (W := 1) (rm1 l Z a0 hw [] b8 q2 (0 : Int64) h8 n0 Z8 A8 F_state_b8 g_b8) hZ (hw _ (List.mem_of_getElem? (i := 5) rfl)) (hw _ (List.mem_of_getElem? (i := 2) rfl)) (by decide) (by decide)) (g := (mkF m 29 #[.val (.long q1), .second, .val (.long q2), .second, .val (.ref b3), .val (.ref b5), .unset, .unset, .unset, .unset, .unset, .unset, .unset, .unset, .unset, .unset, .unset, .unset, .unset, .unset, .unset, .unset, .unset] [(.long q2), (.ref b8), (.ref b8)])) rfl (by rw [hml]; rfl) (Steps.refl _) (a := b8) (argsL := [(.long q2)]) (rest := [(.ref b8)]) (lenOf pd_0 rfl) rfl (by show 2 * 0 + _ ≤ _; exact Nat.le_of_eq rfl) (hb hby at_29) (fun _ _ => ⟨rfl, e8, (by decide : 3 + 0 ≤ _), (by decide : 3 + 0 ≤ _)⟩)
  dsimp only [Pt.U, Pt.locs, Pt.cells, Pt.slots] at X9 l9 y9 z9 st9 hQ9
  subst l9 y9 z9
  obtain ⟨rfl, N9q, K9q, f9_0, f9_1⟩ := hQ9
  have y10 := ((((f4_0.ext E5).keep K6q).ext E8).keep K9q)
  have y11 := ((y7.ext E8).keep K9q (ninS ne_b3_b8 nin0))
  have y12 := ((f6_1.ext E8).keep K9q (ninS ne_b5_b8 nin0))
  have K9 : Keep h0 T9.heap [] := (K8).trans K9q (allS (P := fun x => x ∈ [] ∨ h0.size ≤ x) (Or.inr sz_b8) all0)
  have Z9 : n0 ≤ T9.heap.size := Nat.le_trans Z8 K9q.1
  have N9 := Fr.app N6 N9q
  obtain ⟨T13, h13, X13, e13, E13, A13, D13, -, st13⟩ := newO X9 hx hZ hown (hw _ (List.mem_of_getElem? (i := 0) rfl)) (hw _ (List.mem_of_getElem? (i := 1) rfl)) (hw _ (List.mem_of_getElem? (i := 2) rfl)) rfl (g := (mkF m 34 #[.val (.long q1), .second, .val (.long q2), .second, .val (.ref b3), .val (.ref b5), .val (.ref b8), .unset, .unset, .unset, .unset, .unset, .unset, .unset, .unset, .unset, .unset, .unset, .unset, .unset, .unset, .unset, .unset] [])) rfl (hb hby at_34) (by decide) (by decide)
  obtain ⟨b13, g13⟩ : ∃ z, z = T9.heap.size := ⟨_, rfl⟩
  rw [← g13] at A13 D13 st13
  have ne_b3_b13 : b3 ≠ b13 := Nat.ne_of_lt (Nat.lt_of_lt_of_le y10.lt (Nat.le_of_eq g13.symm))
  have ne_b5_b13 : b5 ≠ b13 := Nat.ne_of_lt (Nat.lt_of_lt_of_le ((f6_0.ext E8).keep K9q).lt (Nat.le_of_eq g13.symm))
  have ne_b8_b13 : b8 ≠ b13 := Nat.ne_of_lt (Nat.lt_of_lt_of_le f9_0.lt (Nat.le_of_eq g13.symm))
  have g_b13 : n0 ≤ b13 := Nat.le_trans Z9 (Nat.le_of_eq g13.symm)
  have sz_b13 : h0.size ≤ b13 := Nat.le_trans (K9).1 (Nat.le_of_eq g13.symm)
  have K13 : Keep h0 h13 [] := (K9).ext E13
  have Z13 : n0 ≤ h13.size := Nat.le_trans Z9 E13.1
  have F_state_b13 : Fld Z h13 b13 "com/example/tenure/tenure/sim/SeededRandom" "state" "J" (.long (0 : Int64)) := D13 (Or.inl (hw _ (List.mem_of_getElem? (i := 10) rfl))) (ty := .long) (by decide)
  obtain ⟨_, _, ⟨T14, L14, k14, n14⟩, -, X14, ⟨Lc14, hQ14, l14, y14, z14⟩, st14⟩ := X13.specialBack hx (y := (⟨"com/example/tenure/tenure/sim/SeededRandom", "<init>", "(J)V"⟩ : MethodName)) rfl hown (mvT hZ (hw _ (List.mem_of_getElem? (i := 3) rfl))) (mvT hZ (hw _ (List.mem_of_getElem? (i := 4) rfl))) (mvT hZ (hw _ (List.mem_of_getElem? (i := 5) rfl))) (by decide) (backOf (W := 1) (rm1 l Z a0 hw [] b13 (1234567 : Int64) (0 : Int64) h13 n0 Z13 A13 F_state_b13 g_b13) hZ (hw _ (List.mem_of_getElem? (i := 5) rfl)) (hw _ (List.mem_of_getElem? (i := 2) rfl)) (by decide) (by decide)) (g := (mkF m 41 #[.val (.long q1), .second, .val (.long q2), .second, .val (.ref b3), .val (.ref b5), .val (.ref b8), .unset, .unset, .unset, .unset, .unset, .unset, .unset, .unset, .unset, .unset, .unset, .unset, .unset, .unset, .unset, .unset] [(.long (1234567 : Int64)), (.ref b13), (.ref b13)])) rfl (by rw [hml]; rfl) (Steps.refl _) (a := b13) (argsL := [(.long (1234567 : Int64))]) (rest := [(.ref b13)]) (lenOf pd_0 rfl) rfl (by show 2 * 0 + _ ≤ _; exact Nat.le_of_eq rfl) (hb hby at_41) (fun _ _ => ⟨rfl, e13, (by decide : 4 + 0 ≤ _), (by decide : 4 + 0 ≤ _)⟩)
  dsimp only [Pt.U, Pt.locs, Pt.cells, Pt.slots] at X14 l14 y14 z14 st14 hQ14
  subst l14 y14 z14
  obtain ⟨rfl, N14q, K14q, f14_0, f14_1⟩ := hQ14
  have y15 := ((y11.ext E13).keep K14q (ninS ne_b3_b13 nin0))
  have y16 := ((((f6_0.ext E8).keep K9q).ext E13).keep K14q)
  have y17 := ((y12.ext E13).keep K14q (ninS ne_b5_b13 nin0))
  have y18 := ((f9_1.ext E13).keep K14q (ninS ne_b8_b13 nin0))
  have K14 : Keep h0 T14.heap [] := (K13).trans K14q (allS (P := fun x => x ∈ [] ∨ h0.size ≤ x) (Or.inr sz_b13) all0)
  have Z14 : n0 ≤ T14.heap.size := Nat.le_trans Z13 K14q.1
  have N14 := Fr.app N9 N14q
  obtain ⟨cq19, kq19, q19a, q19b, q19c⟩ := isOf hZ rfl ((y10.ext E13).keep K14q)
  obtain ⟨_, _, ⟨T19, L19, k19, n19⟩, -, X19, ⟨Lc19, hQ19, l19, y19, z19⟩, st19⟩ := X14.virtualBack hx (y := (⟨"com/example/tenure/tenure/sim/SeededRandom", "nextLong", "()J"⟩ : MethodName)) (z := (⟨"com/example/tenure/tenure/sim/SeededRandom", "nextLong", "()J"⟩ : MethodName)) hown (mvT hZ (hw _ (List.mem_of_getElem? (i := 13) rfl))) (mvT hZ (hw _ (List.mem_of_getElem? (i := 14) rfl))) (notFace_of_selects (args := #[]) (mvT hZ (hw _ (List.mem_of_getElem? (i := 16) rfl)))) (mvT hZ (hw _ (List.mem_of_getElem? (i := 16) rfl))) (mvT hZ (hw _ (List.mem_of_getElem? (i := 15) rfl))) (by decide) (backOf (W := 0) (rm3 l Z a0 hw [] b3 q1 T14.heap n0 Z14 ((y10.ext E13).keep K14q) y15 g_b3) hZ (hw _ (List.mem_of_getElem? (i := 17) rfl)) (hw _ (List.mem_of_getElem? (i := 2) rfl)) (by decide) (by decide)) q19a q19c (g := (mkF m 48 #[.val (.long q1), .second, .val (.long q2), .second, .val (.ref b3), .val (.ref b5), .val (.ref b8), .val (.ref b13), .unset, .unset, .unset, .unset, .unset, .unset, .unset, .unset, .unset, .unset, .unset, .unset, .unset, .unset, .unset] [(.ref b3)])) rfl (by rw [hml]; rfl) (Steps.refl _) (argsL := []) (rest := []) (lenOf pd_1 rfl) rfl (by show 2 * 0 + _ ≤ _; exact Nat.le_of_eq rfl) (hb hby at_48) (fun _ _ => ⟨rfl, rfl, (by decide : 4 + 0 ≤ _), (by decide : 4 + 0 ≤ _)⟩)
  dsimp only [Pt.U, Pt.locs, Pt.cells, Pt.slots] at X19 l19 y19 z19 st19 hQ19
  subst l19 y19 z19
  obtain ⟨rfl, N19q, K19q, f19_0, f19_1⟩ := hQ19
  have y20 := (y17.keep K19q (ninS (Ne.symm ne_b3_b5) nin0))
  have y21 := (y18.keep K19q (ninS (Ne.symm ne_b3_b8) nin0))
  have y22 := (f14_1.keep K19q (ninS (Ne.symm ne_b3_b13) nin0))
  have K19 : Keep h0 T19.heap [] := (K14).trans K19q (allS (P := fun x => x ∈ [] ∨ h0.size ≤ x) (Or.inr sz_b3) all0)
  have Z19 : n0 ≤ T19.heap.size := Nat.le_trans Z14 K19q.1
  have N19 := Fr.app N14 N19q
  obtain ⟨cq23, kq23, q23a, q23b, q23c⟩ := isOf hZ rfl f19_0
  obtain ⟨_, _, ⟨T23, L23, k23, n23⟩, -, X23, ⟨Lc23, hQ23, l23, y23, z23⟩, st23⟩ := X19.virtualBack hx (y := (⟨"com/example/tenure/tenure/sim/SeededRandom", "nextLong", "()J"⟩ : MethodName)) (z := (⟨"com/example/tenure/tenure/sim/SeededRandom", "nextLong", "()J"⟩ : MethodName)) hown (mvT hZ (hw _ (List.mem_of_getElem? (i := 13) rfl))) (mvT hZ (hw _ (List.mem_of_getElem? (i := 14) rfl))) (notFace_of_selects (args := #[]) (mvT hZ (hw _ (List.mem_of_getElem? (i := 16) rfl)))) (mvT hZ (hw _ (List.mem_of_getElem? (i := 16) rfl))) (mvT hZ (hw _ (List.mem_of_getElem? (i := 15) rfl))) (by decide) (backOf (W := 0) (rm3 l Z a0 hw [] b3 (q1 + (-7046029254386353131 : Int64)) T19.heap n0 Z19 f19_0 f19_1 g_b3) hZ (hw _ (List.mem_of_getElem? (i := 17) rfl)) (hw _ (List.mem_of_getElem? (i := 2) rfl)) (by decide) (by decide)) q23a q23c (g := (mkF m 55 #[.val (.long q1), .second, .val (.long q2), .second, .val (.ref b3), .val (.ref b5), .val (.ref b8), .val (.ref b13), .val (.long (F3 q1)), .second, .unset, .unset, .unset, .unset, .unset, .unset, .unset, .unset, .unset, .unset, .unset, .unset, .unset] [(.ref b3)])) rfl (by rw [hml]; rfl) (Steps.refl _) (argsL := []) (rest := []) (lenOf pd_1 rfl) rfl (by show 2 * 0 + _ ≤ _; exact Nat.le_of_eq rfl) (hb hby at_55) (fun _ _ => ⟨rfl, rfl, (by decide : 4 + 0 ≤ _), (by decide : 4 + 0 ≤ _)⟩)
  dsimp only [Pt.U, Pt.locs, Pt.cells, Pt.slots] at X23 l23 y23 z23 st23 hQ23
  subst l23 y23 z23
  obtain ⟨rfl, N23q, K23q, f23_0, f23_1⟩ := hQ23
  have y24 := (y20.keep K23q (ninS (Ne.symm ne_b3_b5) nin0))
  have y25 := ((((f9_0.ext E13).keep K14q).keep K19q).keep K23q)
  have y26 := (y21.keep K23q (ninS (Ne.symm ne_b3_b8) nin0))
  have y27 := (y22.keep K23q (ninS (Ne.symm ne_b3_b13) nin0))
  have K23 : Keep h0 T23.heap [] := (K19).trans K23q (allS (P := fun x => x ∈ [] ∨ h0.size ≤ x) (Or.inr sz_b3) all0)
  have Z23 : n0 ≤ T23.heap.size := Nat.le_trans Z19 K23q.1
  have N23 := Fr.app N19 N23q
  obtain ⟨cq28, kq28, q28a, q28b, q28c⟩ := isOf hZ rfl ((y16.keep K19q).keep K23q)
  obtain ⟨_, _, ⟨T28, L28, k28, n28⟩, -, X28, ⟨Lc28, hQ28, l28, y28, z28⟩, st28⟩ := X23.virtualBack hx (y := (⟨"com/example/tenure/tenure/sim/SeededRandom", "nextLong", "()J"⟩ : MethodName)) (z := (⟨"com/example/tenure/tenure/sim/SeededRandom", "nextLong", "()J"⟩ : MethodName)) hown (mvT hZ (hw _ (List.mem_of_getElem? (i := 13) rfl))) (mvT hZ (hw _ (List.mem_of_getElem? (i := 14) rfl))) (notFace_of_selects (args := #[]) (mvT hZ (hw _ (List.mem_of_getElem? (i := 16) rfl)))) (mvT hZ (hw _ (List.mem_of_getElem? (i := 16) rfl))) (mvT hZ (hw _ (List.mem_of_getElem? (i := 15) rfl))) (by decide) (backOf (W := 0) (rm3 l Z a0 hw [] b5 (q1 + (-7046029254386353131 : Int64)) T23.heap n0 Z23 ((y16.keep K19q).keep K23q) y24 g_b5) hZ (hw _ (List.mem_of_getElem? (i := 17) rfl)) (hw _ (List.mem_of_getElem? (i := 2) rfl)) (by decide) (by decide)) q28a q28c (g := (mkF m 62 #[.val (.long q1), .second, .val (.long q2), .second, .val (.ref b3), .val (.ref b5), .val (.ref b8), .val (.ref b13), .val (.long (F3 q1)), .second, .val (.long (F3 (q1 + (-7046029254386353131 : Int64)))), .second, .unset, .unset, .unset, .unset, .unset, .unset, .unset, .unset, .unset, .unset, .unset] [(.ref b5)])) rfl (by rw [hml]; rfl) (Steps.refl _) (argsL := []) (rest := []) (lenOf pd_1 rfl) rfl (by show 2 * 0 + _ ≤ _; exact Nat.le_of_eq rfl) (hb hby at_62) (fun _ _ => ⟨rfl, rfl, (by decide : 4 + 0 ≤ _), (by decide : 4 + 0 ≤ _)⟩)
  dsimp only [Pt.U, Pt.locs, Pt.cells, Pt.slots] at X28 l28 y28 z28 st28 hQ28
  subst l28 y28 z28
  obtain ⟨rfl, N28q, K28q, f28_0, f28_1⟩ := hQ28
  have y29 := (y26.keep K28q (ninS (Ne.symm ne_b5_b8) nin0))
  have y30 := (((f14_0.keep K19q).keep K23q).keep K28q)
  have y31 := (y27.keep K28q (ninS (Ne.symm ne_b5_b13) nin0))
  have K28 : Keep h0 T28.heap [] := (K23).trans K28q (allS (P := fun x => x ∈ [] ∨ h0.size ≤ x) (Or.inr sz_b5) all0)
  have Z28 : n0 ≤ T28.heap.size := Nat.le_trans Z23 K28q.1
  have N28 := Fr.app N23 N28q
  obtain ⟨cq32, kq32, q32a, q32b, q32c⟩ := isOf hZ rfl (y25.keep K28q)
  obtain ⟨_, _, ⟨T32, L32, k32, n32⟩, -, X32, ⟨Lc32, hQ32, l32, y32, z32⟩, st32⟩ := X28.virtualBack hx (y := (⟨"com/example/tenure/tenure/sim/SeededRandom", "nextLong", "()J"⟩ : MethodName)) (z := (⟨"com/example/tenure/tenure/sim/SeededRandom", "nextLong", "()J"⟩ : MethodName)) hown (mvT hZ (hw _ (List.mem_of_getElem? (i := 13) rfl))) (mvT hZ (hw _ (List.mem_of_getElem? (i := 14) rfl))) (notFace_of_selects (args := #[]) (mvT hZ (hw _ (List.mem_of_getElem? (i := 16) rfl)))) (mvT hZ (hw _ (List.mem_of_getElem? (i := 16) rfl))) (mvT hZ (hw _ (List.mem_of_getElem? (i := 15) rfl))) (by decide) (backOf (W := 0) (rm3 l Z a0 hw [] b8 q2 T28.heap n0 Z28 (y25.keep K28q) y29 g_b8) hZ (hw _ (List.mem_of_getElem? (i := 17) rfl)) (hw _ (List.mem_of_getElem? (i := 2) rfl)) (by decide) (by decide)) q32a q32c (g := (mkF m 69 #[.val (.long q1), .second, .val (.long q2), .second, .val (.ref b3), .val (.ref b5), .val (.ref b8), .val (.ref b13), .val (.long (F3 q1)), .second, .val (.long (F3 (q1 + (-7046029254386353131 : Int64)))), .second, .val (.long (F3 (q1 + (-7046029254386353131 : Int64)))), .second, .unset, .unset, .unset, .unset, .unset, .unset, .unset, .unset, .unset] [(.ref b8)])) rfl (by rw [hml]; rfl) (Steps.refl _) (argsL := []) (rest := []) (lenOf pd_1 rfl) rfl (by show 2 * 0 + _ ≤ _; exact Nat.le_of_eq rfl) (hb hby at_69) (fun _ _ => ⟨rfl, rfl, (by decide : 4 + 0 ≤ _), (by decide : 4 + 0 ≤ _)⟩)
  dsimp only [Pt.U, Pt.locs, Pt.cells, Pt.slots] at X32 l32 y32 z32 st32 hQ32
  subst l32 y32 z32
  obtain ⟨rfl, N32q, K32q, f32_0, f32_1⟩ := hQ32
  have y33 := (y31.keep K32q (ninS (Ne.symm ne_b8_b13) nin0))
  have y34 := ((f23_1.keep K28q (ninS ne_b3_b5 nin0)).keep K32q (ninS ne_b3_b8 nin0))
  have K32 : Keep h0 T32.heap [] := (K28).trans K32q (allS (P := fun x => x ∈ [] ∨ h0.size ≤ x) (Or.inr sz_b8) all0)
  have Z32 : n0 ≤ T32.heap.size := Nat.le_trans Z28 K32q.1
  have N32 := Fr.app N28 N32q
  obtain ⟨cq35, kq35, q35a, q35b, q35c⟩ := isOf hZ rfl (y30.keep K32q)
  obtain ⟨_, _, ⟨T35, L35, k35, n35⟩, -, X35, ⟨Lc35, hQ35, l35, y35, z35⟩, st35⟩ := X32.virtualBack hx (y := (⟨"com/example/tenure/tenure/sim/SeededRandom", "nextLong", "()J"⟩ : MethodName)) (z := (⟨"com/example/tenure/tenure/sim/SeededRandom", "nextLong", "()J"⟩ : MethodName)) hown (mvT hZ (hw _ (List.mem_of_getElem? (i := 13) rfl))) (mvT hZ (hw _ (List.mem_of_getElem? (i := 14) rfl))) (notFace_of_selects (args := #[]) (mvT hZ (hw _ (List.mem_of_getElem? (i := 16) rfl)))) (mvT hZ (hw _ (List.mem_of_getElem? (i := 16) rfl))) (mvT hZ (hw _ (List.mem_of_getElem? (i := 15) rfl))) (by decide) (backOf (W := 0) (rm3 l Z a0 hw [] b13 (1234567 : Int64) T32.heap n0 Z32 (y30.keep K32q) y33 g_b13) hZ (hw _ (List.mem_of_getElem? (i := 17) rfl)) (hw _ (List.mem_of_getElem? (i := 2) rfl)) (by decide) (by decide)) q35a q35c (g := (mkF m 76 #[.val (.long q1), .second, .val (.long q2), .second, .val (.ref b3), .val (.ref b5), .val (.ref b8), .val (.ref b13), .val (.long (F3 q1)), .second, .val (.long (F3 (q1 + (-7046029254386353131 : Int64)))), .second, .val (.long (F3 (q1 + (-7046029254386353131 : Int64)))), .second, .val (.long (F3 q2)), .second, .unset, .unset, .unset, .unset, .unset, .unset, .unset] [(.ref b13)])) rfl (by rw [hml]; rfl) (Steps.refl _) (argsL := []) (rest := []) (lenOf pd_1 rfl) rfl (by show 2 * 0 + _ ≤ _; exact Nat.le_of_eq rfl) (hb hby at_76) (fun _ _ => ⟨rfl, rfl, (by decide : 4 + 0 ≤ _), (by decide : 4 + 0 ≤ _)⟩)
  dsimp only [Pt.U, Pt.locs, Pt.cells, Pt.slots] at X35 l35 y35 z35 st35 hQ35
  subst l35 y35 z35
  obtain ⟨rfl, N35q, K35q, f35_0, f35_1⟩ := hQ35
  have y36 := (((f23_0.keep K28q).keep K32q).keep K35q)
  have y37 := ((f28_1.keep K32q (ninS ne_b5_b8 nin0)).keep K35q (ninS ne_b5_b13 nin0))
  have K35 : Keep h0 T35.heap [] := (K32).trans K35q (allS (P := fun x => x ∈ [] ∨ h0.size ≤ x) (Or.inr sz_b13) all0)
  have Z35 : n0 ≤ T35.heap.size := Nat.le_trans Z32 K35q.1
  have N35 := Fr.app N32 N35q
  obtain ⟨cq38, kq38, q38a, q38b, q38c⟩ := isOf hZ rfl f35_0
  obtain ⟨_, _, ⟨T38, L38, k38, n38⟩, -, X38, ⟨Lc38, hQ38, l38, y38, z38⟩, st38⟩ := X35.virtualBack hx (y := (⟨"com/example/tenure/tenure/sim/SeededRandom", "nextLong", "()J"⟩ : MethodName)) (z := (⟨"com/example/tenure/tenure/sim/SeededRandom", "nextLong", "()J"⟩ : MethodName)) hown (mvT hZ (hw _ (List.mem_of_getElem? (i := 13) rfl))) (mvT hZ (hw _ (List.mem_of_getElem? (i := 14) rfl))) (notFace_of_selects (args := #[]) (mvT hZ (hw _ (List.mem_of_getElem? (i := 16) rfl)))) (mvT hZ (hw _ (List.mem_of_getElem? (i := 16) rfl))) (mvT hZ (hw _ (List.mem_of_getElem? (i := 15) rfl))) (by decide) (backOf (W := 0) (rm3 l Z a0 hw [] b13 ((1234567 : Int64) + (-7046029254386353131 : Int64)) T35.heap n0 Z35 f35_0 f35_1 g_b13) hZ (hw _ (List.mem_of_getElem? (i := 17) rfl)) (hw _ (List.mem_of_getElem? (i := 2) rfl)) (by decide) (by decide)) q38a q38c (g := (mkF m 83 #[.val (.long q1), .second, .val (.long q2), .second, .val (.ref b3), .val (.ref b5), .val (.ref b8), .val (.ref b13), .val (.long (F3 q1)), .second, .val (.long (F3 (q1 + (-7046029254386353131 : Int64)))), .second, .val (.long (F3 (q1 + (-7046029254386353131 : Int64)))), .second, .val (.long (F3 q2)), .second, .val (.long (F3 (1234567 : Int64))), .second, .unset, .unset, .unset, .unset, .unset] [(.ref b13)])) rfl (by rw [hml]; rfl) (Steps.refl _) (argsL := []) (rest := []) (lenOf pd_1 rfl) rfl (by show 2 * 0 + _ ≤ _; exact Nat.le_of_eq rfl) (hb hby at_83) (fun _ _ => ⟨rfl, rfl, (by decide : 4 + 0 ≤ _), (by decide : 4 + 0 ≤ _)⟩)
  dsimp only [Pt.U, Pt.locs, Pt.cells, Pt.slots] at X38 l38 y38 z38 st38 hQ38
  subst l38 y38 z38
  obtain ⟨rfl, N38q, K38q, f38_0, f38_1⟩ := hQ38
  have y39 := (((f28_0.keep K32q).keep K35q).keep K38q)
  have y40 := ((y34.keep K35q (ninS ne_b3_b13 nin0)).keep K38q (ninS ne_b3_b13 nin0))
  have y41 := ((f32_1.keep K35q (ninS ne_b8_b13 nin0)).keep K38q (ninS ne_b8_b13 nin0))
  have K38 : Keep h0 T38.heap [] := (K35).trans K38q (allS (P := fun x => x ∈ [] ∨ h0.size ≤ x) (Or.inr sz_b13) all0)
  have Z38 : n0 ≤ T38.heap.size := Nat.le_trans Z35 K38q.1
  have N38 := Fr.app N35 N38q
  have pre43 : ∀ t, Steps p.tables e below (T38.setTop (mkF m 106 #[.val (.long q1), .second, .val (.long q2), .second, .val (.ref b3), .val (.ref b5), .val (.ref b8), .val (.ref b13), .val (.long (F3 q1)), .second, .val (.long (F3 (q1 + (-7046029254386353131 : Int64)))), .second, .val (.long (F3 (q1 + (-7046029254386353131 : Int64)))), .second, .val (.long (F3 q2)), .second, .val (.long (F3 (1234567 : Int64))), .second, .val (.long (F3 ((1234567 : Int64) + (-7046029254386353131 : Int64)))), .second, .val (.int (1 : Int32)), .unset, .unset] [(.int (lcmpW q1 q2))])) t → Steps p.tables e below (s₁.setTop (entryFrame m #[(.long q1), (.long q2)] maxLocals)) t := fun t kt => pre0 t (by
    show Steps p.tables e below (s₁.setTop (mkF m 0 #[.val (.long q1), .second, .val (.long q2), .second, .unset, .unset, .unset, .unset, .unset, .unset, .unset, .unset, .unset, .unset, .unset, .unset, .unset, .unset, .unset, .unset, .unset, .unset, .unset] [])) _
    refine st3 _ ?_
    show Steps p.tables e below (T3.setTop (mkF m 3 #[.val (.long q1), .second, .val (.long q2), .second, .unset, .unset, .unset, .unset, .unset, .unset, .unset, .unset, .unset, .unset, .unset, .unset, .unset, .unset, .unset, .unset, .unset, .unset, .unset] [(.ref b3)])) _
    refine XS.dup X3.here hx rfl (hb hby at_3) rfl rfl ?_
    show Steps p.tables e below (T3.setTop (mkF m 4 #[.val (.long q1), .second, .val (.long q2), .second, .unset, .unset, .unset, .unset, .unset, .unset, .unset, .unset, .unset, .unset, .unset, .unset, .unset, .unset, .unset, .unset, .unset, .unset, .unset] [(.ref b3), (.ref b3)])) _
    refine XS.lloadN X3.here hx rfl (hb hby at_4) rfl ?_
    show Steps p.tables e below (T3.setTop (mkF m 5 #[.val (.long q1), .second, .val (.long q2), .second, .unset, .unset, .unset, .unset, .unset, .unset, .unset, .unset, .unset, .unset, .unset, .unset, .unset, .unset, .unset, .unset, .unset, .unset, .unset] [(.long q1), (.ref b3), (.ref b3)])) _
    refine st4.trans ?_
    show Steps p.tables e below (T4.setTop (mkF m 8 #[.val (.long q1), .second, .val (.long q2), .second, .unset, .unset, .unset, .unset, .unset, .unset, .unset, .unset, .unset, .unset, .unset, .unset, .unset, .unset, .unset, .unset, .unset, .unset, .unset] [(.ref b3)])) _
    refine XS.astore X4.here hx rfl (hb hby at_8) rfl rfl (l' := #[.val (.long q1), .second, .val (.long q2), .second, .val (.ref b3), .unset, .unset, .unset, .unset, .unset, .unset, .unset, .unset, .unset, .unset, .unset, .unset, .unset, .unset, .unset, .unset, .unset, .unset]) rfl ?_
    show Steps p.tables e below (T4.setTop (mkF m 10 #[.val (.long q1), .second, .val (.long q2), .second, .val (.ref b3), .unset, .unset, .unset, .unset, .unset, .unset, .unset, .unset, .unset, .unset, .unset, .unset, .unset, .unset, .unset, .unset, .unset, .unset] [])) _
    refine st5 _ ?_
    show Steps p.tables e below (T5.setTop (mkF m 13 #[.val (.long q1), .second, .val (.long q2), .second, .val (.ref b3), .unset, .unset, .unset, .unset, .unset, .unset, .unset, .unset, .unset, .unset, .unset, .unset, .unset, .unset, .unset, .unset, .unset, .unset] [(.ref b5)])) _
    refine XS.dup X5.here hx rfl (hb hby at_13) rfl rfl ?_
    show Steps p.tables e below (T5.setTop (mkF m 14 #[.val (.long q1), .second, .val (.long q2), .second, .val (.ref b3), .unset, .unset, .unset, .unset, .unset, .unset, .unset, .unset, .unset, .unset, .unset, .unset, .unset, .unset, .unset, .unset, .unset, .unset] [(.ref b5), (.ref b5)])) _
    refine XS.lloadN X5.here hx rfl (hb hby at_14) rfl ?_
    show Steps p.tables e below (T5.setTop (mkF m 15 #[.val (.long q1), .second, .val (.long q2), .second, .val (.ref b3), .unset, .unset, .unset, .unset, .unset, .unset, .unset, .unset, .unset, .unset, .unset, .unset, .unset, .unset, .unset, .unset, .unset, .unset] [(.long q1), (.ref b5), (.ref b5)])) _
    refine X5.ldc2Long hx hown (mvT hZ (hw _ (List.mem_of_getElem? (i := 11) rfl))) (g := (mkF m 15 #[.val (.long q1), .second, .val (.long q2), .second, .val (.ref b3), .unset, .unset, .unset, .unset, .unset, .unset, .unset, .unset, .unset, .unset, .unset, .unset, .unset, .unset, .unset, .unset, .unset, .unset] [(.long q1), (.ref b5), (.ref b5)])) rfl (hb hby at_15) _ ?_
    show Steps p.tables e below (T5.setTop (mkF m 18 #[.val (.long q1), .second, .val (.long q2), .second, .val (.ref b3), .unset, .unset, .unset, .unset, .unset, .unset, .unset, .unset, .unset, .unset, .unset, .unset, .unset, .unset, .unset, .unset, .unset, .unset] [(.long (-7046029254386353131 : Int64)), (.long q1), (.ref b5), (.ref b5)])) _
    refine XS.ladd X5.here hx rfl (hb hby at_18) rfl ?_
    show Steps p.tables e below (T5.setTop (mkF m 19 #[.val (.long q1), .second, .val (.long q2), .second, .val (.ref b3), .unset, .unset, .unset, .unset, .unset, .unset, .unset, .unset, .unset, .unset, .unset, .unset, .unset, .unset, .unset, .unset, .unset, .unset] [(.long (q1 + (-7046029254386353131 : Int64))), (.ref b5), (.ref b5)])) _
    refine st6.trans ?_
    show Steps p.tables e below (T6.setTop (mkF m 22 #[.val (.long q1), .second, .val (.long q2), .second, .val (.ref b3), .unset, .unset, .unset, .unset, .unset, .unset, .unset, .unset, .unset, .unset, .unset, .unset, .unset, .unset, .unset, .unset, .unset, .unset] [(.ref b5)])) _
    refine XS.astore X6.here hx rfl (hb hby at_22) rfl rfl (l' := #[.val (.long q1), .second, .val (.long q2), .second, .val (.ref b3), .val (.ref b5), .unset, .unset, .unset, .unset, .unset, .unset, .unset, .unset, .unset, .unset, .unset, .unset, .unset, .unset, .unset, .unset, .unset]) rfl ?_
    show Steps p.tables e below (T6.setTop (mkF m 24 #[.val (.long q1), .second, .val (.long q2), .second, .val (.ref b3), .val (.ref b5), .unset, .unset, .unset, .unset, .unset, .unset, .unset, .unset, .unset, .unset, .unset, .unset, .unset, .unset, .unset, .unset, .unset] [])) _
    refine st8 _ ?_
    show Steps p.tables e below (T8.setTop (mkF m 27 #[.val (.long q1), .second, .val (.long q2), .second, .val (.ref b3), .val (.ref b5), .unset, .unset, .unset, .unset, .unset, .unset, .unset, .unset, .unset, .unset, .unset, .unset, .unset, .unset, .unset, .unset, .unset] [(.ref b8)])) _
    refine XS.dup X8.here hx rfl (hb hby at_27) rfl rfl ?_
    show Steps p.tables e below (T8.setTop (mkF m 28 #[.val (.long q1), .second, .val (.long q2), .second, .val (.ref b3), .val (.ref b5), .unset, .unset, .unset, .unset, .unset, .unset, .unset, .unset, .unset, .unset, .unset, .unset, .unset, .unset, .unset, .unset, .unset] [(.ref b8), (.ref b8)])) _
    refine XS.lloadN X8.here hx rfl (hb hby at_28) rfl ?_
    show Steps p.tables e below (T8.setTop (mkF m 29 #[.val (.long q1), .second, .val (.long q2), .second, .val (.ref b3), .val (.ref b5), .unset, .unset, .unset, .unset, .unset, .unset, .unset, .unset, .unset, .unset, .unset, .unset, .unset, .unset, .unset, .unset, .unset] [(.long q2), (.ref b8), (.ref b8)])) _
    refine st9.trans ?_
    show Steps p.tables e below (T9.setTop (mkF m 32 #[.val (.long q1), .second, .val (.long q2), .second, .val (.ref b3), .val (.ref b5), .unset, .unset, .unset, .unset, .unset, .unset, .unset, .unset, .unset, .unset, .unset, .unset, .unset, .unset, .unset, .unset, .unset] [(.ref b8)])) _
    refine XS.astore X9.here hx rfl (hb hby at_32) rfl rfl (l' := #[.val (.long q1), .second, .val (.long q2), .second, .val (.ref b3), .val (.ref b5), .val (.ref b8), .unset, .unset, .unset, .unset, .unset, .unset, .unset, .unset, .unset, .unset, .unset, .unset, .unset, .unset, .unset, .unset]) rfl ?_
    show Steps p.tables e below (T9.setTop (mkF m 34 #[.val (.long q1), .second, .val (.long q2), .second, .val (.ref b3), .val (.ref b5), .val (.ref b8), .unset, .unset, .unset, .unset, .unset, .unset, .unset, .unset, .unset, .unset, .unset, .unset, .unset, .unset, .unset, .unset] [])) _
    refine st13 _ ?_
    show Steps p.tables e below (T13.setTop (mkF m 37 #[.val (.long q1), .second, .val (.long q2), .second, .val (.ref b3), .val (.ref b5), .val (.ref b8), .unset, .unset, .unset, .unset, .unset, .unset, .unset, .unset, .unset, .unset, .unset, .unset, .unset, .unset, .unset, .unset] [(.ref b13)])) _
    refine XS.dup X13.here hx rfl (hb hby at_37) rfl rfl ?_
    show Steps p.tables e below (T13.setTop (mkF m 38 #[.val (.long q1), .second, .val (.long q2), .second, .val (.ref b3), .val (.ref b5), .val (.ref b8), .unset, .unset, .unset, .unset, .unset, .unset, .unset, .unset, .unset, .unset, .unset, .unset, .unset, .unset, .unset, .unset] [(.ref b13), (.ref b13)])) _
    refine X13.ldc2Long hx hown (mvT hZ (hw _ (List.mem_of_getElem? (i := 12) rfl))) (g := (mkF m 38 #[.val (.long q1), .second, .val (.long q2), .second, .val (.ref b3), .val (.ref b5), .val (.ref b8), .unset, .unset, .unset, .unset, .unset, .unset, .unset, .unset, .unset, .unset, .unset, .unset, .unset, .unset, .unset, .unset] [(.ref b13), (.ref b13)])) rfl (hb hby at_38) _ ?_
    show Steps p.tables e below (T13.setTop (mkF m 41 #[.val (.long q1), .second, .val (.long q2), .second, .val (.ref b3), .val (.ref b5), .val (.ref b8), .unset, .unset, .unset, .unset, .unset, .unset, .unset, .unset, .unset, .unset, .unset, .unset, .unset, .unset, .unset, .unset] [(.long (1234567 : Int64)), (.ref b13), (.ref b13)])) _
    refine st14.trans ?_
    show Steps p.tables e below (T14.setTop (mkF m 44 #[.val (.long q1), .second, .val (.long q2), .second, .val (.ref b3), .val (.ref b5), .val (.ref b8), .unset, .unset, .unset, .unset, .unset, .unset, .unset, .unset, .unset, .unset, .unset, .unset, .unset, .unset, .unset, .unset] [(.ref b13)])) _
    refine XS.astore X14.here hx rfl (hb hby at_44) rfl rfl (l' := #[.val (.long q1), .second, .val (.long q2), .second, .val (.ref b3), .val (.ref b5), .val (.ref b8), .val (.ref b13), .unset, .unset, .unset, .unset, .unset, .unset, .unset, .unset, .unset, .unset, .unset, .unset, .unset, .unset, .unset]) rfl ?_
    show Steps p.tables e below (T14.setTop (mkF m 46 #[.val (.long q1), .second, .val (.long q2), .second, .val (.ref b3), .val (.ref b5), .val (.ref b8), .val (.ref b13), .unset, .unset, .unset, .unset, .unset, .unset, .unset, .unset, .unset, .unset, .unset, .unset, .unset, .unset, .unset] [])) _
    refine XS.aload X14.here hx rfl (hb hby at_46) rfl rfl ?_
    show Steps p.tables e below (T14.setTop (mkF m 48 #[.val (.long q1), .second, .val (.long q2), .second, .val (.ref b3), .val (.ref b5), .val (.ref b8), .val (.ref b13), .unset, .unset, .unset, .unset, .unset, .unset, .unset, .unset, .unset, .unset, .unset, .unset, .unset, .unset, .unset] [(.ref b3)])) _
    refine st19.trans ?_
    show Steps p.tables e below (T19.setTop (mkF m 51 #[.val (.long q1), .second, .val (.long q2), .second, .val (.ref b3), .val (.ref b5), .val (.ref b8), .val (.ref b13), .unset, .unset, .unset, .unset, .unset, .unset, .unset, .unset, .unset, .unset, .unset, .unset, .unset, .unset, .unset] [(.long (F3 q1))])) _
    refine XS.lstore X19.here hx rfl (hb hby at_51) rfl (l' := #[.val (.long q1), .second, .val (.long q2), .second, .val (.ref b3), .val (.ref b5), .val (.ref b8), .val (.ref b13), .val (.long (F3 q1)), .second, .unset, .unset, .unset, .unset, .unset, .unset, .unset, .unset, .unset, .unset, .unset, .unset, .unset]) rfl ?_
    show Steps p.tables e below (T19.setTop (mkF m 53 #[.val (.long q1), .second, .val (.long q2), .second, .val (.ref b3), .val (.ref b5), .val (.ref b8), .val (.ref b13), .val (.long (F3 q1)), .second, .unset, .unset, .unset, .unset, .unset, .unset, .unset, .unset, .unset, .unset, .unset, .unset, .unset] [])) _
    refine XS.aload X19.here hx rfl (hb hby at_53) rfl rfl ?_
    show Steps p.tables e below (T19.setTop (mkF m 55 #[.val (.long q1), .second, .val (.long q2), .second, .val (.ref b3), .val (.ref b5), .val (.ref b8), .val (.ref b13), .val (.long (F3 q1)), .second, .unset, .unset, .unset, .unset, .unset, .unset, .unset, .unset, .unset, .unset, .unset, .unset, .unset] [(.ref b3)])) _
    refine st23.trans ?_
    show Steps p.tables e below (T23.setTop (mkF m 58 #[.val (.long q1), .second, .val (.long q2), .second, .val (.ref b3), .val (.ref b5), .val (.ref b8), .val (.ref b13), .val (.long (F3 q1)), .second, .unset, .unset, .unset, .unset, .unset, .unset, .unset, .unset, .unset, .unset, .unset, .unset, .unset] [(.long (F3 (q1 + (-7046029254386353131 : Int64))))])) _
    refine XS.lstore X23.here hx rfl (hb hby at_58) rfl (l' := #[.val (.long q1), .second, .val (.long q2), .second, .val (.ref b3), .val (.ref b5), .val (.ref b8), .val (.ref b13), .val (.long (F3 q1)), .second, .val (.long (F3 (q1 + (-7046029254386353131 : Int64)))), .second, .unset, .unset, .unset, .unset, .unset, .unset, .unset, .unset, .unset, .unset, .unset]) rfl ?_
    show Steps p.tables e below (T23.setTop (mkF m 60 #[.val (.long q1), .second, .val (.long q2), .second, .val (.ref b3), .val (.ref b5), .val (.ref b8), .val (.ref b13), .val (.long (F3 q1)), .second, .val (.long (F3 (q1 + (-7046029254386353131 : Int64)))), .second, .unset, .unset, .unset, .unset, .unset, .unset, .unset, .unset, .unset, .unset, .unset] [])) _
    refine XS.aload X23.here hx rfl (hb hby at_60) rfl rfl ?_
    show Steps p.tables e below (T23.setTop (mkF m 62 #[.val (.long q1), .second, .val (.long q2), .second, .val (.ref b3), .val (.ref b5), .val (.ref b8), .val (.ref b13), .val (.long (F3 q1)), .second, .val (.long (F3 (q1 + (-7046029254386353131 : Int64)))), .second, .unset, .unset, .unset, .unset, .unset, .unset, .unset, .unset, .unset, .unset, .unset] [(.ref b5)])) _
    refine st28.trans ?_
    show Steps p.tables e below (T28.setTop (mkF m 65 #[.val (.long q1), .second, .val (.long q2), .second, .val (.ref b3), .val (.ref b5), .val (.ref b8), .val (.ref b13), .val (.long (F3 q1)), .second, .val (.long (F3 (q1 + (-7046029254386353131 : Int64)))), .second, .unset, .unset, .unset, .unset, .unset, .unset, .unset, .unset, .unset, .unset, .unset] [(.long (F3 (q1 + (-7046029254386353131 : Int64))))])) _
    refine XS.lstore X28.here hx rfl (hb hby at_65) rfl (l' := #[.val (.long q1), .second, .val (.long q2), .second, .val (.ref b3), .val (.ref b5), .val (.ref b8), .val (.ref b13), .val (.long (F3 q1)), .second, .val (.long (F3 (q1 + (-7046029254386353131 : Int64)))), .second, .val (.long (F3 (q1 + (-7046029254386353131 : Int64)))), .second, .unset, .unset, .unset, .unset, .unset, .unset, .unset, .unset, .unset]) rfl ?_
    show Steps p.tables e below (T28.setTop (mkF m 67 #[.val (.long q1), .second, .val (.long q2), .second, .val (.ref b3), .val (.ref b5), .val (.ref b8), .val (.ref b13), .val (.long (F3 q1)), .second, .val (.long (F3 (q1 + (-7046029254386353131 : Int64)))), .second, .val (.long (F3 (q1 + (-7046029254386353131 : Int64)))), .second, .unset, .unset, .unset, .unset, .unset, .unset, .unset, .unset, .unset] [])) _
    refine XS.aload X28.here hx rfl (hb hby at_67) rfl rfl ?_
    show Steps p.tables e below (T28.setTop (mkF m 69 #[.val (.long q1), .second, .val (.long q2), .second, .val (.ref b3), .val (.ref b5), .val (.ref b8), .val (.ref b13), .val (.long (F3 q1)), .second, .val (.long (F3 (q1 + (-7046029254386353131 : Int64)))), .second, .val (.long (F3 (q1 + (-7046029254386353131 : Int64)))), .second, .unset, .unset, .unset, .unset, .unset, .unset, .unset, .unset, .unset] [(.ref b8)])) _
    refine st32.trans ?_
    show Steps p.tables e below (T32.setTop (mkF m 72 #[.val (.long q1), .second, .val (.long q2), .second, .val (.ref b3), .val (.ref b5), .val (.ref b8), .val (.ref b13), .val (.long (F3 q1)), .second, .val (.long (F3 (q1 + (-7046029254386353131 : Int64)))), .second, .val (.long (F3 (q1 + (-7046029254386353131 : Int64)))), .second, .unset, .unset, .unset, .unset, .unset, .unset, .unset, .unset, .unset] [(.long (F3 q2))])) _
    refine XS.lstore X32.here hx rfl (hb hby at_72) rfl (l' := #[.val (.long q1), .second, .val (.long q2), .second, .val (.ref b3), .val (.ref b5), .val (.ref b8), .val (.ref b13), .val (.long (F3 q1)), .second, .val (.long (F3 (q1 + (-7046029254386353131 : Int64)))), .second, .val (.long (F3 (q1 + (-7046029254386353131 : Int64)))), .second, .val (.long (F3 q2)), .second, .unset, .unset, .unset, .unset, .unset, .unset, .unset]) rfl ?_
    show Steps p.tables e below (T32.setTop (mkF m 74 #[.val (.long q1), .second, .val (.long q2), .second, .val (.ref b3), .val (.ref b5), .val (.ref b8), .val (.ref b13), .val (.long (F3 q1)), .second, .val (.long (F3 (q1 + (-7046029254386353131 : Int64)))), .second, .val (.long (F3 (q1 + (-7046029254386353131 : Int64)))), .second, .val (.long (F3 q2)), .second, .unset, .unset, .unset, .unset, .unset, .unset, .unset] [])) _
    refine XS.aload X32.here hx rfl (hb hby at_74) rfl rfl ?_
    show Steps p.tables e below (T32.setTop (mkF m 76 #[.val (.long q1), .second, .val (.long q2), .second, .val (.ref b3), .val (.ref b5), .val (.ref b8), .val (.ref b13), .val (.long (F3 q1)), .second, .val (.long (F3 (q1 + (-7046029254386353131 : Int64)))), .second, .val (.long (F3 (q1 + (-7046029254386353131 : Int64)))), .second, .val (.long (F3 q2)), .second, .unset, .unset, .unset, .unset, .unset, .unset, .unset] [(.ref b13)])) _
    refine st35.trans ?_
    show Steps p.tables e below (T35.setTop (mkF m 79 #[.val (.long q1), .second, .val (.long q2), .second, .val (.ref b3), .val (.ref b5), .val (.ref b8), .val (.ref b13), .val (.long (F3 q1)), .second, .val (.long (F3 (q1 + (-7046029254386353131 : Int64)))), .second, .val (.long (F3 (q1 + (-7046029254386353131 : Int64)))), .second, .val (.long (F3 q2)), .second, .unset, .unset, .unset, .unset, .unset, .unset, .unset] [(.long (F3 (1234567 : Int64)))])) _
    refine XS.lstore X35.here hx rfl (hb hby at_79) rfl (l' := #[.val (.long q1), .second, .val (.long q2), .second, .val (.ref b3), .val (.ref b5), .val (.ref b8), .val (.ref b13), .val (.long (F3 q1)), .second, .val (.long (F3 (q1 + (-7046029254386353131 : Int64)))), .second, .val (.long (F3 (q1 + (-7046029254386353131 : Int64)))), .second, .val (.long (F3 q2)), .second, .val (.long (F3 (1234567 : Int64))), .second, .unset, .unset, .unset, .unset, .unset]) rfl ?_
    show Steps p.tables e below (T35.setTop (mkF m 81 #[.val (.long q1), .second, .val (.long q2), .second, .val (.ref b3), .val (.ref b5), .val (.ref b8), .val (.ref b13), .val (.long (F3 q1)), .second, .val (.long (F3 (q1 + (-7046029254386353131 : Int64)))), .second, .val (.long (F3 (q1 + (-7046029254386353131 : Int64)))), .second, .val (.long (F3 q2)), .second, .val (.long (F3 (1234567 : Int64))), .second, .unset, .unset, .unset, .unset, .unset] [])) _
    refine XS.aload X35.here hx rfl (hb hby at_81) rfl rfl ?_
    show Steps p.tables e below (T35.setTop (mkF m 83 #[.val (.long q1), .second, .val (.long q2), .second, .val (.ref b3), .val (.ref b5), .val (.ref b8), .val (.ref b13), .val (.long (F3 q1)), .second, .val (.long (F3 (q1 + (-7046029254386353131 : Int64)))), .second, .val (.long (F3 (q1 + (-7046029254386353131 : Int64)))), .second, .val (.long (F3 q2)), .second, .val (.long (F3 (1234567 : Int64))), .second, .unset, .unset, .unset, .unset, .unset] [(.ref b13)])) _
    refine st38.trans ?_
    show Steps p.tables e below (T38.setTop (mkF m 86 #[.val (.long q1), .second, .val (.long q2), .second, .val (.ref b3), .val (.ref b5), .val (.ref b8), .val (.ref b13), .val (.long (F3 q1)), .second, .val (.long (F3 (q1 + (-7046029254386353131 : Int64)))), .second, .val (.long (F3 (q1 + (-7046029254386353131 : Int64)))), .second, .val (.long (F3 q2)), .second, .val (.long (F3 (1234567 : Int64))), .second, .unset, .unset, .unset, .unset, .unset] [(.long (F3 ((1234567 : Int64) + (-7046029254386353131 : Int64))))])) _
    refine XS.lstore X38.here hx rfl (hb hby at_86) rfl (l' := #[.val (.long q1), .second, .val (.long q2), .second, .val (.ref b3), .val (.ref b5), .val (.ref b8), .val (.ref b13), .val (.long (F3 q1)), .second, .val (.long (F3 (q1 + (-7046029254386353131 : Int64)))), .second, .val (.long (F3 (q1 + (-7046029254386353131 : Int64)))), .second, .val (.long (F3 q2)), .second, .val (.long (F3 (1234567 : Int64))), .second, .val (.long (F3 ((1234567 : Int64) + (-7046029254386353131 : Int64)))), .second, .unset, .unset, .unset]) rfl ?_
    show Steps p.tables e below (T38.setTop (mkF m 88 #[.val (.long q1), .second, .val (.long q2), .second, .val (.ref b3), .val (.ref b5), .val (.ref b8), .val (.ref b13), .val (.long (F3 q1)), .second, .val (.long (F3 (q1 + (-7046029254386353131 : Int64)))), .second, .val (.long (F3 (q1 + (-7046029254386353131 : Int64)))), .second, .val (.long (F3 q2)), .second, .val (.long (F3 (1234567 : Int64))), .second, .val (.long (F3 ((1234567 : Int64) + (-7046029254386353131 : Int64)))), .second, .unset, .unset, .unset] [])) _
    refine XS.lload X38.here hx rfl (hb hby at_88) rfl ?_
    show Steps p.tables e below (T38.setTop (mkF m 90 #[.val (.long q1), .second, .val (.long q2), .second, .val (.ref b3), .val (.ref b5), .val (.ref b8), .val (.ref b13), .val (.long (F3 q1)), .second, .val (.long (F3 (q1 + (-7046029254386353131 : Int64)))), .second, .val (.long (F3 (q1 + (-7046029254386353131 : Int64)))), .second, .val (.long (F3 q2)), .second, .val (.long (F3 (1234567 : Int64))), .second, .val (.long (F3 ((1234567 : Int64) + (-7046029254386353131 : Int64)))), .second, .unset, .unset, .unset] [(.long (F3 (q1 + (-7046029254386353131 : Int64))))])) _
    refine XS.lload X38.here hx rfl (hb hby at_90) rfl ?_
    show Steps p.tables e below (T38.setTop (mkF m 92 #[.val (.long q1), .second, .val (.long q2), .second, .val (.ref b3), .val (.ref b5), .val (.ref b8), .val (.ref b13), .val (.long (F3 q1)), .second, .val (.long (F3 (q1 + (-7046029254386353131 : Int64)))), .second, .val (.long (F3 (q1 + (-7046029254386353131 : Int64)))), .second, .val (.long (F3 q2)), .second, .val (.long (F3 (1234567 : Int64))), .second, .val (.long (F3 ((1234567 : Int64) + (-7046029254386353131 : Int64)))), .second, .unset, .unset, .unset] [(.long (F3 (q1 + (-7046029254386353131 : Int64)))), (.long (F3 (q1 + (-7046029254386353131 : Int64))))])) _
    refine XS.lcmp X38.here hx rfl (hb hby at_92) rfl ?_
    show Steps p.tables e below (T38.setTop (mkF m 93 #[.val (.long q1), .second, .val (.long q2), .second, .val (.ref b3), .val (.ref b5), .val (.ref b8), .val (.ref b13), .val (.long (F3 q1)), .second, .val (.long (F3 (q1 + (-7046029254386353131 : Int64)))), .second, .val (.long (F3 (q1 + (-7046029254386353131 : Int64)))), .second, .val (.long (F3 q2)), .second, .val (.long (F3 (1234567 : Int64))), .second, .val (.long (F3 ((1234567 : Int64) + (-7046029254386353131 : Int64)))), .second, .unset, .unset, .unset] [(.int (lcmpW (F3 (q1 + (-7046029254386353131 : Int64))) (F3 (q1 + (-7046029254386353131 : Int64)))))])) _
    refine XS.ifNo X38.here hx rfl (hb hby at_93) rfl ((if0 _ _).trans (teq ((lw_eq (F3 (q1 + (-7046029254386353131 : Int64))) (F3 (q1 + (-7046029254386353131 : Int64)))).mpr (rfl : (F3 (q1 + (-7046029254386353131 : Int64))) = (F3 (q1 + (-7046029254386353131 : Int64)))))).2) ?_
    show Steps p.tables e below (T38.setTop (mkF m 96 #[.val (.long q1), .second, .val (.long q2), .second, .val (.ref b3), .val (.ref b5), .val (.ref b8), .val (.ref b13), .val (.long (F3 q1)), .second, .val (.long (F3 (q1 + (-7046029254386353131 : Int64)))), .second, .val (.long (F3 (q1 + (-7046029254386353131 : Int64)))), .second, .val (.long (F3 q2)), .second, .val (.long (F3 (1234567 : Int64))), .second, .val (.long (F3 ((1234567 : Int64) + (-7046029254386353131 : Int64)))), .second, .unset, .unset, .unset] [])) _
    refine XS.iconst X38.here hx rfl (hb hby at_96) ?_
    show Steps p.tables e below (T38.setTop (mkF m 97 #[.val (.long q1), .second, .val (.long q2), .second, .val (.ref b3), .val (.ref b5), .val (.ref b8), .val (.ref b13), .val (.long (F3 q1)), .second, .val (.long (F3 (q1 + (-7046029254386353131 : Int64)))), .second, .val (.long (F3 (q1 + (-7046029254386353131 : Int64)))), .second, .val (.long (F3 q2)), .second, .val (.long (F3 (1234567 : Int64))), .second, .val (.long (F3 ((1234567 : Int64) + (-7046029254386353131 : Int64)))), .second, .unset, .unset, .unset] [(.int (1 : Int32))])) _
    refine XS.goto X38.here hx rfl (pc0 := 97) (pc' := 101) rfl (hb hby at_97) (by decide) (by decide) ?_
    show Steps p.tables e below (T38.setTop (mkF m 101 #[.val (.long q1), .second, .val (.long q2), .second, .val (.ref b3), .val (.ref b5), .val (.ref b8), .val (.ref b13), .val (.long (F3 q1)), .second, .val (.long (F3 (q1 + (-7046029254386353131 : Int64)))), .second, .val (.long (F3 (q1 + (-7046029254386353131 : Int64)))), .second, .val (.long (F3 q2)), .second, .val (.long (F3 (1234567 : Int64))), .second, .val (.long (F3 ((1234567 : Int64) + (-7046029254386353131 : Int64)))), .second, .unset, .unset, .unset] [(.int (1 : Int32))])) _
    refine XS.istore X38.here hx rfl (hb hby at_101) rfl (l' := #[.val (.long q1), .second, .val (.long q2), .second, .val (.ref b3), .val (.ref b5), .val (.ref b8), .val (.ref b13), .val (.long (F3 q1)), .second, .val (.long (F3 (q1 + (-7046029254386353131 : Int64)))), .second, .val (.long (F3 (q1 + (-7046029254386353131 : Int64)))), .second, .val (.long (F3 q2)), .second, .val (.long (F3 (1234567 : Int64))), .second, .val (.long (F3 ((1234567 : Int64) + (-7046029254386353131 : Int64)))), .second, .val (.int (1 : Int32)), .unset, .unset]) rfl ?_
    show Steps p.tables e below (T38.setTop (mkF m 103 #[.val (.long q1), .second, .val (.long q2), .second, .val (.ref b3), .val (.ref b5), .val (.ref b8), .val (.ref b13), .val (.long (F3 q1)), .second, .val (.long (F3 (q1 + (-7046029254386353131 : Int64)))), .second, .val (.long (F3 (q1 + (-7046029254386353131 : Int64)))), .second, .val (.long (F3 q2)), .second, .val (.long (F3 (1234567 : Int64))), .second, .val (.long (F3 ((1234567 : Int64) + (-7046029254386353131 : Int64)))), .second, .val (.int (1 : Int32)), .unset, .unset] [])) _
    refine XS.lloadN X38.here hx rfl (hb hby at_103) rfl ?_
    show Steps p.tables e below (T38.setTop (mkF m 104 #[.val (.long q1), .second, .val (.long q2), .second, .val (.ref b3), .val (.ref b5), .val (.ref b8), .val (.ref b13), .val (.long (F3 q1)), .second, .val (.long (F3 (q1 + (-7046029254386353131 : Int64)))), .second, .val (.long (F3 (q1 + (-7046029254386353131 : Int64)))), .second, .val (.long (F3 q2)), .second, .val (.long (F3 (1234567 : Int64))), .second, .val (.long (F3 ((1234567 : Int64) + (-7046029254386353131 : Int64)))), .second, .val (.int (1 : Int32)), .unset, .unset] [(.long q1)])) _
    refine XS.lloadN X38.here hx rfl (hb hby at_104) rfl ?_
    show Steps p.tables e below (T38.setTop (mkF m 105 #[.val (.long q1), .second, .val (.long q2), .second, .val (.ref b3), .val (.ref b5), .val (.ref b8), .val (.ref b13), .val (.long (F3 q1)), .second, .val (.long (F3 (q1 + (-7046029254386353131 : Int64)))), .second, .val (.long (F3 (q1 + (-7046029254386353131 : Int64)))), .second, .val (.long (F3 q2)), .second, .val (.long (F3 (1234567 : Int64))), .second, .val (.long (F3 ((1234567 : Int64) + (-7046029254386353131 : Int64)))), .second, .val (.int (1 : Int32)), .unset, .unset] [(.long q2), (.long q1)])) _
    refine XS.lcmp X38.here hx rfl (hb hby at_105) rfl ?_
    show Steps p.tables e below (T38.setTop (mkF m 106 #[.val (.long q1), .second, .val (.long q2), .second, .val (.ref b3), .val (.ref b5), .val (.ref b8), .val (.ref b13), .val (.long (F3 q1)), .second, .val (.long (F3 (q1 + (-7046029254386353131 : Int64)))), .second, .val (.long (F3 (q1 + (-7046029254386353131 : Int64)))), .second, .val (.long (F3 q2)), .second, .val (.long (F3 (1234567 : Int64))), .second, .val (.long (F3 ((1234567 : Int64) + (-7046029254386353131 : Int64)))), .second, .val (.int (1 : Int32)), .unset, .unset] [(.int (lcmpW q1 q2))])) _
    exact kt)
  by_cases hc106_42 : q1 = q2
  · have hc119_44 : (F3 q1) = (F3 q2) := congrArg F3 hc106_42
    have hc143_45 : (F3 (1234567 : Int64)) = (6457827717110365317 : Int64) := by decide +kernel
    have hc152_46 : (F3 ((1234567 : Int64) + (-7046029254386353131 : Int64))) = (3203168211198807973 : Int64) := by decide +kernel
    obtain ⟨fs, hr, hrun, hended, hW, hsame⟩ := X38.leave (v := some (.int (1 : Int32))) (fun h => by rw [Bd.returns] at h; cases h)
    refine ⟨_, _, pre43 _ ?_, hrun, hended, _, _, rfl, ?_, ⟨_, rfl⟩, hW, hsame.mono (by decide) (by decide)⟩
    · show Steps p.tables e below (T38.setTop (mkF m 106 #[.val (.long q1), .second, .val (.long q2), .second, .val (.ref b3), .val (.ref b5), .val (.ref b8), .val (.ref b13), .val (.long (F3 q1)), .second, .val (.long (F3 (q1 + (-7046029254386353131 : Int64)))), .second, .val (.long (F3 (q1 + (-7046029254386353131 : Int64)))), .second, .val (.long (F3 q2)), .second, .val (.long (F3 (1234567 : Int64))), .second, .val (.long (F3 ((1234567 : Int64) + (-7046029254386353131 : Int64)))), .second, .val (.int (1 : Int32)), .unset, .unset] [(.int (lcmpW q1 q2))])) _
      refine XS.ifNo X38.here hx rfl (hb hby at_106) rfl ((if0 _ _).trans (teq ((lw_eq q1 q2).mpr hc106_42)).2) ?_
      show Steps p.tables e below (T38.setTop (mkF m 109 #[.val (.long q1), .second, .val (.long q2), .second, .val (.ref b3), .val (.ref b5), .val (.ref b8), .val (.ref b13), .val (.long (F3 q1)), .second, .val (.long (F3 (q1 + (-7046029254386353131 : Int64)))), .second, .val (.long (F3 (q1 + (-7046029254386353131 : Int64)))), .second, .val (.long (F3 q2)), .second, .val (.long (F3 (1234567 : Int64))), .second, .val (.long (F3 ((1234567 : Int64) + (-7046029254386353131 : Int64)))), .second, .val (.int (1 : Int32)), .unset, .unset] [])) _
      refine XS.iconst X38.here hx rfl (hb hby at_109) ?_
      show Steps p.tables e below (T38.setTop (mkF m 110 #[.val (.long q1), .second, .val (.long q2), .second, .val (.ref b3), .val (.ref b5), .val (.ref b8), .val (.ref b13), .val (.long (F3 q1)), .second, .val (.long (F3 (q1 + (-7046029254386353131 : Int64)))), .second, .val (.long (F3 (q1 + (-7046029254386353131 : Int64)))), .second, .val (.long (F3 q2)), .second, .val (.long (F3 (1234567 : Int64))), .second, .val (.long (F3 ((1234567 : Int64) + (-7046029254386353131 : Int64)))), .second, .val (.int (1 : Int32)), .unset, .unset] [(.int (1 : Int32))])) _
      refine XS.goto X38.here hx rfl (pc0 := 110) (pc' := 114) rfl (hb hby at_110) (by decide) (by decide) ?_
      show Steps p.tables e below (T38.setTop (mkF m 114 #[.val (.long q1), .second, .val (.long q2), .second, .val (.ref b3), .val (.ref b5), .val (.ref b8), .val (.ref b13), .val (.long (F3 q1)), .second, .val (.long (F3 (q1 + (-7046029254386353131 : Int64)))), .second, .val (.long (F3 (q1 + (-7046029254386353131 : Int64)))), .second, .val (.long (F3 q2)), .second, .val (.long (F3 (1234567 : Int64))), .second, .val (.long (F3 ((1234567 : Int64) + (-7046029254386353131 : Int64)))), .second, .val (.int (1 : Int32)), .unset, .unset] [(.int (1 : Int32))])) _
      refine XS.lload X38.here hx rfl (hb hby at_114) rfl ?_
      show Steps p.tables e below (T38.setTop (mkF m 116 #[.val (.long q1), .second, .val (.long q2), .second, .val (.ref b3), .val (.ref b5), .val (.ref b8), .val (.ref b13), .val (.long (F3 q1)), .second, .val (.long (F3 (q1 + (-7046029254386353131 : Int64)))), .second, .val (.long (F3 (q1 + (-7046029254386353131 : Int64)))), .second, .val (.long (F3 q2)), .second, .val (.long (F3 (1234567 : Int64))), .second, .val (.long (F3 ((1234567 : Int64) + (-7046029254386353131 : Int64)))), .second, .val (.int (1 : Int32)), .unset, .unset] [(.long (F3 q1)), (.int (1 : Int32))])) _
      refine XS.lload X38.here hx rfl (hb hby at_116) rfl ?_
      show Steps p.tables e below (T38.setTop (mkF m 118 #[.val (.long q1), .second, .val (.long q2), .second, .val (.ref b3), .val (.ref b5), .val (.ref b8), .val (.ref b13), .val (.long (F3 q1)), .second, .val (.long (F3 (q1 + (-7046029254386353131 : Int64)))), .second, .val (.long (F3 (q1 + (-7046029254386353131 : Int64)))), .second, .val (.long (F3 q2)), .second, .val (.long (F3 (1234567 : Int64))), .second, .val (.long (F3 ((1234567 : Int64) + (-7046029254386353131 : Int64)))), .second, .val (.int (1 : Int32)), .unset, .unset] [(.long (F3 q2)), (.long (F3 q1)), (.int (1 : Int32))])) _
      refine XS.lcmp X38.here hx rfl (hb hby at_118) rfl ?_
      show Steps p.tables e below (T38.setTop (mkF m 119 #[.val (.long q1), .second, .val (.long q2), .second, .val (.ref b3), .val (.ref b5), .val (.ref b8), .val (.ref b13), .val (.long (F3 q1)), .second, .val (.long (F3 (q1 + (-7046029254386353131 : Int64)))), .second, .val (.long (F3 (q1 + (-7046029254386353131 : Int64)))), .second, .val (.long (F3 q2)), .second, .val (.long (F3 (1234567 : Int64))), .second, .val (.long (F3 ((1234567 : Int64) + (-7046029254386353131 : Int64)))), .second, .val (.int (1 : Int32)), .unset, .unset] [(.int (lcmpW (F3 q1) (F3 q2))), (.int (1 : Int32))])) _
      refine XS.ifNo X38.here hx rfl (hb hby at_119) rfl ((if0 _ _).trans (teq ((lw_eq (F3 q1) (F3 q2)).mpr hc119_44)).2) ?_
      show Steps p.tables e below (T38.setTop (mkF m 122 #[.val (.long q1), .second, .val (.long q2), .second, .val (.ref b3), .val (.ref b5), .val (.ref b8), .val (.ref b13), .val (.long (F3 q1)), .second, .val (.long (F3 (q1 + (-7046029254386353131 : Int64)))), .second, .val (.long (F3 (q1 + (-7046029254386353131 : Int64)))), .second, .val (.long (F3 q2)), .second, .val (.long (F3 (1234567 : Int64))), .second, .val (.long (F3 ((1234567 : Int64) + (-7046029254386353131 : Int64)))), .second, .val (.int (1 : Int32)), .unset, .unset] [(.int (1 : Int32))])) _
      refine XS.iconst X38.here hx rfl (hb hby at_122) ?_
      show Steps p.tables e below (T38.setTop (mkF m 123 #[.val (.long q1), .second, .val (.long q2), .second, .val (.ref b3), .val (.ref b5), .val (.ref b8), .val (.ref b13), .val (.long (F3 q1)), .second, .val (.long (F3 (q1 + (-7046029254386353131 : Int64)))), .second, .val (.long (F3 (q1 + (-7046029254386353131 : Int64)))), .second, .val (.long (F3 q2)), .second, .val (.long (F3 (1234567 : Int64))), .second, .val (.long (F3 ((1234567 : Int64) + (-7046029254386353131 : Int64)))), .second, .val (.int (1 : Int32)), .unset, .unset] [(.int (1 : Int32)), (.int (1 : Int32))])) _
      refine XS.goto X38.here hx rfl (pc0 := 123) (pc' := 127) rfl (hb hby at_123) (by decide) (by decide) ?_
      show Steps p.tables e below (T38.setTop (mkF m 127 #[.val (.long q1), .second, .val (.long q2), .second, .val (.ref b3), .val (.ref b5), .val (.ref b8), .val (.ref b13), .val (.long (F3 q1)), .second, .val (.long (F3 (q1 + (-7046029254386353131 : Int64)))), .second, .val (.long (F3 (q1 + (-7046029254386353131 : Int64)))), .second, .val (.long (F3 q2)), .second, .val (.long (F3 (1234567 : Int64))), .second, .val (.long (F3 ((1234567 : Int64) + (-7046029254386353131 : Int64)))), .second, .val (.int (1 : Int32)), .unset, .unset] [(.int (1 : Int32)), (.int (1 : Int32))])) _
      refine XS.icmpNo X38.here hx rfl (hb hby at_127) rfl (teq (by decide : (1 : Int32) = (1 : Int32))).2 ?_
      show Steps p.tables e below (T38.setTop (mkF m 130 #[.val (.long q1), .second, .val (.long q2), .second, .val (.ref b3), .val (.ref b5), .val (.ref b8), .val (.ref b13), .val (.long (F3 q1)), .second, .val (.long (F3 (q1 + (-7046029254386353131 : Int64)))), .second, .val (.long (F3 (q1 + (-7046029254386353131 : Int64)))), .second, .val (.long (F3 q2)), .second, .val (.long (F3 (1234567 : Int64))), .second, .val (.long (F3 ((1234567 : Int64) + (-7046029254386353131 : Int64)))), .second, .val (.int (1 : Int32)), .unset, .unset] [])) _
      refine XS.iconst X38.here hx rfl (hb hby at_130) ?_
      show Steps p.tables e below (T38.setTop (mkF m 131 #[.val (.long q1), .second, .val (.long q2), .second, .val (.ref b3), .val (.ref b5), .val (.ref b8), .val (.ref b13), .val (.long (F3 q1)), .second, .val (.long (F3 (q1 + (-7046029254386353131 : Int64)))), .second, .val (.long (F3 (q1 + (-7046029254386353131 : Int64)))), .second, .val (.long (F3 q2)), .second, .val (.long (F3 (1234567 : Int64))), .second, .val (.long (F3 ((1234567 : Int64) + (-7046029254386353131 : Int64)))), .second, .val (.int (1 : Int32)), .unset, .unset] [(.int (1 : Int32))])) _
      refine XS.goto X38.here hx rfl (pc0 := 131) (pc' := 135) rfl (hb hby at_131) (by decide) (by decide) ?_
      show Steps p.tables e below (T38.setTop (mkF m 135 #[.val (.long q1), .second, .val (.long q2), .second, .val (.ref b3), .val (.ref b5), .val (.ref b8), .val (.ref b13), .val (.long (F3 q1)), .second, .val (.long (F3 (q1 + (-7046029254386353131 : Int64)))), .second, .val (.long (F3 (q1 + (-7046029254386353131 : Int64)))), .second, .val (.long (F3 q2)), .second, .val (.long (F3 (1234567 : Int64))), .second, .val (.long (F3 ((1234567 : Int64) + (-7046029254386353131 : Int64)))), .second, .val (.int (1 : Int32)), .unset, .unset] [(.int (1 : Int32))])) _
      refine XS.istore X38.here hx rfl (hb hby at_135) rfl (l' := #[.val (.long q1), .second, .val (.long q2), .second, .val (.ref b3), .val (.ref b5), .val (.ref b8), .val (.ref b13), .val (.long (F3 q1)), .second, .val (.long (F3 (q1 + (-7046029254386353131 : Int64)))), .second, .val (.long (F3 (q1 + (-7046029254386353131 : Int64)))), .second, .val (.long (F3 q2)), .second, .val (.long (F3 (1234567 : Int64))), .second, .val (.long (F3 ((1234567 : Int64) + (-7046029254386353131 : Int64)))), .second, .val (.int (1 : Int32)), .val (.int (1 : Int32)), .unset]) rfl ?_
      show Steps p.tables e below (T38.setTop (mkF m 137 #[.val (.long q1), .second, .val (.long q2), .second, .val (.ref b3), .val (.ref b5), .val (.ref b8), .val (.ref b13), .val (.long (F3 q1)), .second, .val (.long (F3 (q1 + (-7046029254386353131 : Int64)))), .second, .val (.long (F3 (q1 + (-7046029254386353131 : Int64)))), .second, .val (.long (F3 q2)), .second, .val (.long (F3 (1234567 : Int64))), .second, .val (.long (F3 ((1234567 : Int64) + (-7046029254386353131 : Int64)))), .second, .val (.int (1 : Int32)), .val (.int (1 : Int32)), .unset] [])) _
      refine XS.lload X38.here hx rfl (hb hby at_137) rfl ?_
      show Steps p.tables e below (T38.setTop (mkF m 139 #[.val (.long q1), .second, .val (.long q2), .second, .val (.ref b3), .val (.ref b5), .val (.ref b8), .val (.ref b13), .val (.long (F3 q1)), .second, .val (.long (F3 (q1 + (-7046029254386353131 : Int64)))), .second, .val (.long (F3 (q1 + (-7046029254386353131 : Int64)))), .second, .val (.long (F3 q2)), .second, .val (.long (F3 (1234567 : Int64))), .second, .val (.long (F3 ((1234567 : Int64) + (-7046029254386353131 : Int64)))), .second, .val (.int (1 : Int32)), .val (.int (1 : Int32)), .unset] [(.long (F3 (1234567 : Int64)))])) _
      refine X38.ldc2Long hx hown (mvT hZ (hw _ (List.mem_of_getElem? (i := 21) rfl))) (g := (mkF m 139 #[.val (.long q1), .second, .val (.long q2), .second, .val (.ref b3), .val (.ref b5), .val (.ref b8), .val (.ref b13), .val (.long (F3 q1)), .second, .val (.long (F3 (q1 + (-7046029254386353131 : Int64)))), .second, .val (.long (F3 (q1 + (-7046029254386353131 : Int64)))), .second, .val (.long (F3 q2)), .second, .val (.long (F3 (1234567 : Int64))), .second, .val (.long (F3 ((1234567 : Int64) + (-7046029254386353131 : Int64)))), .second, .val (.int (1 : Int32)), .val (.int (1 : Int32)), .unset] [(.long (F3 (1234567 : Int64)))])) rfl (hb hby at_139) _ ?_
      show Steps p.tables e below (T38.setTop (mkF m 142 #[.val (.long q1), .second, .val (.long q2), .second, .val (.ref b3), .val (.ref b5), .val (.ref b8), .val (.ref b13), .val (.long (F3 q1)), .second, .val (.long (F3 (q1 + (-7046029254386353131 : Int64)))), .second, .val (.long (F3 (q1 + (-7046029254386353131 : Int64)))), .second, .val (.long (F3 q2)), .second, .val (.long (F3 (1234567 : Int64))), .second, .val (.long (F3 ((1234567 : Int64) + (-7046029254386353131 : Int64)))), .second, .val (.int (1 : Int32)), .val (.int (1 : Int32)), .unset] [(.long (6457827717110365317 : Int64)), (.long (F3 (1234567 : Int64)))])) _
      refine XS.lcmp X38.here hx rfl (hb hby at_142) rfl ?_
      show Steps p.tables e below (T38.setTop (mkF m 143 #[.val (.long q1), .second, .val (.long q2), .second, .val (.ref b3), .val (.ref b5), .val (.ref b8), .val (.ref b13), .val (.long (F3 q1)), .second, .val (.long (F3 (q1 + (-7046029254386353131 : Int64)))), .second, .val (.long (F3 (q1 + (-7046029254386353131 : Int64)))), .second, .val (.long (F3 q2)), .second, .val (.long (F3 (1234567 : Int64))), .second, .val (.long (F3 ((1234567 : Int64) + (-7046029254386353131 : Int64)))), .second, .val (.int (1 : Int32)), .val (.int (1 : Int32)), .unset] [(.int (lcmpW (F3 (1234567 : Int64)) (6457827717110365317 : Int64)))])) _
      refine XS.ifNo X38.here hx rfl (hb hby at_143) rfl ((if0 _ _).trans (teq ((lw_eq (F3 (1234567 : Int64)) (6457827717110365317 : Int64)).mpr hc143_45)).2) ?_
      show Steps p.tables e below (T38.setTop (mkF m 146 #[.val (.long q1), .second, .val (.long q2), .second, .val (.ref b3), .val (.ref b5), .val (.ref b8), .val (.ref b13), .val (.long (F3 q1)), .second, .val (.long (F3 (q1 + (-7046029254386353131 : Int64)))), .second, .val (.long (F3 (q1 + (-7046029254386353131 : Int64)))), .second, .val (.long (F3 q2)), .second, .val (.long (F3 (1234567 : Int64))), .second, .val (.long (F3 ((1234567 : Int64) + (-7046029254386353131 : Int64)))), .second, .val (.int (1 : Int32)), .val (.int (1 : Int32)), .unset] [])) _
      refine XS.lload X38.here hx rfl (hb hby at_146) rfl ?_
      show Steps p.tables e below (T38.setTop (mkF m 148 #[.val (.long q1), .second, .val (.long q2), .second, .val (.ref b3), .val (.ref b5), .val (.ref b8), .val (.ref b13), .val (.long (F3 q1)), .second, .val (.long (F3 (q1 + (-7046029254386353131 : Int64)))), .second, .val (.long (F3 (q1 + (-7046029254386353131 : Int64)))), .second, .val (.long (F3 q2)), .second, .val (.long (F3 (1234567 : Int64))), .second, .val (.long (F3 ((1234567 : Int64) + (-7046029254386353131 : Int64)))), .second, .val (.int (1 : Int32)), .val (.int (1 : Int32)), .unset] [(.long (F3 ((1234567 : Int64) + (-7046029254386353131 : Int64))))])) _
      refine X38.ldc2Long hx hown (mvT hZ (hw _ (List.mem_of_getElem? (i := 22) rfl))) (g := (mkF m 148 #[.val (.long q1), .second, .val (.long q2), .second, .val (.ref b3), .val (.ref b5), .val (.ref b8), .val (.ref b13), .val (.long (F3 q1)), .second, .val (.long (F3 (q1 + (-7046029254386353131 : Int64)))), .second, .val (.long (F3 (q1 + (-7046029254386353131 : Int64)))), .second, .val (.long (F3 q2)), .second, .val (.long (F3 (1234567 : Int64))), .second, .val (.long (F3 ((1234567 : Int64) + (-7046029254386353131 : Int64)))), .second, .val (.int (1 : Int32)), .val (.int (1 : Int32)), .unset] [(.long (F3 ((1234567 : Int64) + (-7046029254386353131 : Int64))))])) rfl (hb hby at_148) _ ?_
      show Steps p.tables e below (T38.setTop (mkF m 151 #[.val (.long q1), .second, .val (.long q2), .second, .val (.ref b3), .val (.ref b5), .val (.ref b8), .val (.ref b13), .val (.long (F3 q1)), .second, .val (.long (F3 (q1 + (-7046029254386353131 : Int64)))), .second, .val (.long (F3 (q1 + (-7046029254386353131 : Int64)))), .second, .val (.long (F3 q2)), .second, .val (.long (F3 (1234567 : Int64))), .second, .val (.long (F3 ((1234567 : Int64) + (-7046029254386353131 : Int64)))), .second, .val (.int (1 : Int32)), .val (.int (1 : Int32)), .unset] [(.long (3203168211198807973 : Int64)), (.long (F3 ((1234567 : Int64) + (-7046029254386353131 : Int64))))])) _
      refine XS.lcmp X38.here hx rfl (hb hby at_151) rfl ?_
      show Steps p.tables e below (T38.setTop (mkF m 152 #[.val (.long q1), .second, .val (.long q2), .second, .val (.ref b3), .val (.ref b5), .val (.ref b8), .val (.ref b13), .val (.long (F3 q1)), .second, .val (.long (F3 (q1 + (-7046029254386353131 : Int64)))), .second, .val (.long (F3 (q1 + (-7046029254386353131 : Int64)))), .second, .val (.long (F3 q2)), .second, .val (.long (F3 (1234567 : Int64))), .second, .val (.long (F3 ((1234567 : Int64) + (-7046029254386353131 : Int64)))), .second, .val (.int (1 : Int32)), .val (.int (1 : Int32)), .unset] [(.int (lcmpW (F3 ((1234567 : Int64) + (-7046029254386353131 : Int64))) (3203168211198807973 : Int64)))])) _
      refine XS.ifNo X38.here hx rfl (hb hby at_152) rfl ((if0 _ _).trans (teq ((lw_eq (F3 ((1234567 : Int64) + (-7046029254386353131 : Int64))) (3203168211198807973 : Int64)).mpr hc152_46)).2) ?_
      show Steps p.tables e below (T38.setTop (mkF m 155 #[.val (.long q1), .second, .val (.long q2), .second, .val (.ref b3), .val (.ref b5), .val (.ref b8), .val (.ref b13), .val (.long (F3 q1)), .second, .val (.long (F3 (q1 + (-7046029254386353131 : Int64)))), .second, .val (.long (F3 (q1 + (-7046029254386353131 : Int64)))), .second, .val (.long (F3 q2)), .second, .val (.long (F3 (1234567 : Int64))), .second, .val (.long (F3 ((1234567 : Int64) + (-7046029254386353131 : Int64)))), .second, .val (.int (1 : Int32)), .val (.int (1 : Int32)), .unset] [])) _
      refine XS.iconst X38.here hx rfl (hb hby at_155) ?_
      show Steps p.tables e below (T38.setTop (mkF m 156 #[.val (.long q1), .second, .val (.long q2), .second, .val (.ref b3), .val (.ref b5), .val (.ref b8), .val (.ref b13), .val (.long (F3 q1)), .second, .val (.long (F3 (q1 + (-7046029254386353131 : Int64)))), .second, .val (.long (F3 (q1 + (-7046029254386353131 : Int64)))), .second, .val (.long (F3 q2)), .second, .val (.long (F3 (1234567 : Int64))), .second, .val (.long (F3 ((1234567 : Int64) + (-7046029254386353131 : Int64)))), .second, .val (.int (1 : Int32)), .val (.int (1 : Int32)), .unset] [(.int (1 : Int32))])) _
      refine XS.goto X38.here hx rfl (pc0 := 156) (pc' := 160) rfl (hb hby at_156) (by decide) (by decide) ?_
      show Steps p.tables e below (T38.setTop (mkF m 160 #[.val (.long q1), .second, .val (.long q2), .second, .val (.ref b3), .val (.ref b5), .val (.ref b8), .val (.ref b13), .val (.long (F3 q1)), .second, .val (.long (F3 (q1 + (-7046029254386353131 : Int64)))), .second, .val (.long (F3 (q1 + (-7046029254386353131 : Int64)))), .second, .val (.long (F3 q2)), .second, .val (.long (F3 (1234567 : Int64))), .second, .val (.long (F3 ((1234567 : Int64) + (-7046029254386353131 : Int64)))), .second, .val (.int (1 : Int32)), .val (.int (1 : Int32)), .unset] [(.int (1 : Int32))])) _
      refine XS.istore X38.here hx rfl (hb hby at_160) rfl (l' := #[.val (.long q1), .second, .val (.long q2), .second, .val (.ref b3), .val (.ref b5), .val (.ref b8), .val (.ref b13), .val (.long (F3 q1)), .second, .val (.long (F3 (q1 + (-7046029254386353131 : Int64)))), .second, .val (.long (F3 (q1 + (-7046029254386353131 : Int64)))), .second, .val (.long (F3 q2)), .second, .val (.long (F3 (1234567 : Int64))), .second, .val (.long (F3 ((1234567 : Int64) + (-7046029254386353131 : Int64)))), .second, .val (.int (1 : Int32)), .val (.int (1 : Int32)), .val (.int (1 : Int32))]) rfl ?_
      show Steps p.tables e below (T38.setTop (mkF m 162 #[.val (.long q1), .second, .val (.long q2), .second, .val (.ref b3), .val (.ref b5), .val (.ref b8), .val (.ref b13), .val (.long (F3 q1)), .second, .val (.long (F3 (q1 + (-7046029254386353131 : Int64)))), .second, .val (.long (F3 (q1 + (-7046029254386353131 : Int64)))), .second, .val (.long (F3 q2)), .second, .val (.long (F3 (1234567 : Int64))), .second, .val (.long (F3 ((1234567 : Int64) + (-7046029254386353131 : Int64)))), .second, .val (.int (1 : Int32)), .val (.int (1 : Int32)), .val (.int (1 : Int32))] [])) _
      refine XS.iload X38.here hx rfl (hb hby at_162) rfl ?_
      show Steps p.tables e below (T38.setTop (mkF m 164 #[.val (.long q1), .second, .val (.long q2), .second, .val (.ref b3), .val (.ref b5), .val (.ref b8), .val (.ref b13), .val (.long (F3 q1)), .second, .val (.long (F3 (q1 + (-7046029254386353131 : Int64)))), .second, .val (.long (F3 (q1 + (-7046029254386353131 : Int64)))), .second, .val (.long (F3 q2)), .second, .val (.long (F3 (1234567 : Int64))), .second, .val (.long (F3 ((1234567 : Int64) + (-7046029254386353131 : Int64)))), .second, .val (.int (1 : Int32)), .val (.int (1 : Int32)), .val (.int (1 : Int32))] [(.int (1 : Int32))])) _
      refine XS.ifNo X38.here hx rfl (hb hby at_164) rfl ((if0 _ _).trans (feq (by decide : ¬ ((1 : Int32) = (0 : Int32)))).1) ?_
      show Steps p.tables e below (T38.setTop (mkF m 167 #[.val (.long q1), .second, .val (.long q2), .second, .val (.ref b3), .val (.ref b5), .val (.ref b8), .val (.ref b13), .val (.long (F3 q1)), .second, .val (.long (F3 (q1 + (-7046029254386353131 : Int64)))), .second, .val (.long (F3 (q1 + (-7046029254386353131 : Int64)))), .second, .val (.long (F3 q2)), .second, .val (.long (F3 (1234567 : Int64))), .second, .val (.long (F3 ((1234567 : Int64) + (-7046029254386353131 : Int64)))), .second, .val (.int (1 : Int32)), .val (.int (1 : Int32)), .val (.int (1 : Int32))] [])) _
      refine XS.iload X38.here hx rfl (hb hby at_167) rfl ?_
      show Steps p.tables e below (T38.setTop (mkF m 169 #[.val (.long q1), .second, .val (.long q2), .second, .val (.ref b3), .val (.ref b5), .val (.ref b8), .val (.ref b13), .val (.long (F3 q1)), .second, .val (.long (F3 (q1 + (-7046029254386353131 : Int64)))), .second, .val (.long (F3 (q1 + (-7046029254386353131 : Int64)))), .second, .val (.long (F3 q2)), .second, .val (.long (F3 (1234567 : Int64))), .second, .val (.long (F3 ((1234567 : Int64) + (-7046029254386353131 : Int64)))), .second, .val (.int (1 : Int32)), .val (.int (1 : Int32)), .val (.int (1 : Int32))] [(.int (1 : Int32))])) _
      refine XS.ifNo X38.here hx rfl (hb hby at_169) rfl ((if0 _ _).trans (feq (by decide : ¬ ((1 : Int32) = (0 : Int32)))).1) ?_
      show Steps p.tables e below (T38.setTop (mkF m 172 #[.val (.long q1), .second, .val (.long q2), .second, .val (.ref b3), .val (.ref b5), .val (.ref b8), .val (.ref b13), .val (.long (F3 q1)), .second, .val (.long (F3 (q1 + (-7046029254386353131 : Int64)))), .second, .val (.long (F3 (q1 + (-7046029254386353131 : Int64)))), .second, .val (.long (F3 q2)), .second, .val (.long (F3 (1234567 : Int64))), .second, .val (.long (F3 ((1234567 : Int64) + (-7046029254386353131 : Int64)))), .second, .val (.int (1 : Int32)), .val (.int (1 : Int32)), .val (.int (1 : Int32))] [])) _
      refine XS.iload X38.here hx rfl (hb hby at_172) rfl ?_
      show Steps p.tables e below (T38.setTop (mkF m 174 #[.val (.long q1), .second, .val (.long q2), .second, .val (.ref b3), .val (.ref b5), .val (.ref b8), .val (.ref b13), .val (.long (F3 q1)), .second, .val (.long (F3 (q1 + (-7046029254386353131 : Int64)))), .second, .val (.long (F3 (q1 + (-7046029254386353131 : Int64)))), .second, .val (.long (F3 q2)), .second, .val (.long (F3 (1234567 : Int64))), .second, .val (.long (F3 ((1234567 : Int64) + (-7046029254386353131 : Int64)))), .second, .val (.int (1 : Int32)), .val (.int (1 : Int32)), .val (.int (1 : Int32))] [(.int (1 : Int32))])) _
      refine XS.ifNo X38.here hx rfl (hb hby at_174) rfl ((if0 _ _).trans (feq (by decide : ¬ ((1 : Int32) = (0 : Int32)))).1) ?_
      show Steps p.tables e below (T38.setTop (mkF m 177 #[.val (.long q1), .second, .val (.long q2), .second, .val (.ref b3), .val (.ref b5), .val (.ref b8), .val (.ref b13), .val (.long (F3 q1)), .second, .val (.long (F3 (q1 + (-7046029254386353131 : Int64)))), .second, .val (.long (F3 (q1 + (-7046029254386353131 : Int64)))), .second, .val (.long (F3 q2)), .second, .val (.long (F3 (1234567 : Int64))), .second, .val (.long (F3 ((1234567 : Int64) + (-7046029254386353131 : Int64)))), .second, .val (.int (1 : Int32)), .val (.int (1 : Int32)), .val (.int (1 : Int32))] [])) _
      refine XS.iconst X38.here hx rfl (hb hby at_177) ?_
      show Steps p.tables e below (T38.setTop (mkF m 178 #[.val (.long q1), .second, .val (.long q2), .second, .val (.ref b3), .val (.ref b5), .val (.ref b8), .val (.ref b13), .val (.long (F3 q1)), .second, .val (.long (F3 (q1 + (-7046029254386353131 : Int64)))), .second, .val (.long (F3 (q1 + (-7046029254386353131 : Int64)))), .second, .val (.long (F3 q2)), .second, .val (.long (F3 (1234567 : Int64))), .second, .val (.long (F3 ((1234567 : Int64) + (-7046029254386353131 : Int64)))), .second, .val (.int (1 : Int32)), .val (.int (1 : Int32)), .val (.int (1 : Int32))] [(.int (1 : Int32))])) _
      refine XS.goto X38.here hx rfl (pc0 := 178) (pc' := 182) rfl (hb hby at_178) (by decide) (by decide) ?_
      show Steps p.tables e below (T38.setTop (mkF m 182 #[.val (.long q1), .second, .val (.long q2), .second, .val (.ref b3), .val (.ref b5), .val (.ref b8), .val (.ref b13), .val (.long (F3 q1)), .second, .val (.long (F3 (q1 + (-7046029254386353131 : Int64)))), .second, .val (.long (F3 (q1 + (-7046029254386353131 : Int64)))), .second, .val (.long (F3 q2)), .second, .val (.long (F3 (1234567 : Int64))), .second, .val (.long (F3 ((1234567 : Int64) + (-7046029254386353131 : Int64)))), .second, .val (.int (1 : Int32)), .val (.int (1 : Int32)), .val (.int (1 : Int32))] [(.int (1 : Int32))])) _
      exact retN X38 hx (t := .boolean) Bd.returns (by simp) (hb hby at_182) hr
    · show Q0 Z q1 q2 h0 n0 _ T38.heap _
      exact ⟨rfl, N38⟩
  · have hc119_47 : ¬ ((F3 q1) = (F3 q2)) := fun q => hc106_42 (own_inj q)
    have hc143_48 : (F3 (1234567 : Int64)) = (6457827717110365317 : Int64) := by decide +kernel
    have hc152_49 : (F3 ((1234567 : Int64) + (-7046029254386353131 : Int64))) = (3203168211198807973 : Int64) := by decide +kernel
    obtain ⟨fs, hr, hrun, hended, hW, hsame⟩ := X38.leave (v := some (.int (1 : Int32))) (fun h => by rw [Bd.returns] at h; cases h)
    refine ⟨_, _, pre43 _ ?_, hrun, hended, _, _, rfl, ?_, ⟨_, rfl⟩, hW, hsame.mono (by decide) (by decide)⟩
    · show Steps p.tables e below (T38.setTop (mkF m 106 #[.val (.long q1), .second, .val (.long q2), .second, .val (.ref b3), .val (.ref b5), .val (.ref b8), .val (.ref b13), .val (.long (F3 q1)), .second, .val (.long (F3 (q1 + (-7046029254386353131 : Int64)))), .second, .val (.long (F3 (q1 + (-7046029254386353131 : Int64)))), .second, .val (.long (F3 q2)), .second, .val (.long (F3 (1234567 : Int64))), .second, .val (.long (F3 ((1234567 : Int64) + (-7046029254386353131 : Int64)))), .second, .val (.int (1 : Int32)), .unset, .unset] [(.int (lcmpW q1 q2))])) _
      refine XS.ifYes X38.here hx rfl (pc0 := 106) (pc' := 113) rfl (hb hby at_106) rfl ((if0 _ _).trans (feq (mt (lw_eq q1 q2).mp hc106_42)).2) (by decide) (by decide) ?_
      show Steps p.tables e below (T38.setTop (mkF m 113 #[.val (.long q1), .second, .val (.long q2), .second, .val (.ref b3), .val (.ref b5), .val (.ref b8), .val (.ref b13), .val (.long (F3 q1)), .second, .val (.long (F3 (q1 + (-7046029254386353131 : Int64)))), .second, .val (.long (F3 (q1 + (-7046029254386353131 : Int64)))), .second, .val (.long (F3 q2)), .second, .val (.long (F3 (1234567 : Int64))), .second, .val (.long (F3 ((1234567 : Int64) + (-7046029254386353131 : Int64)))), .second, .val (.int (1 : Int32)), .unset, .unset] [])) _
      refine XS.iconst X38.here hx rfl (hb hby at_113) ?_
      show Steps p.tables e below (T38.setTop (mkF m 114 #[.val (.long q1), .second, .val (.long q2), .second, .val (.ref b3), .val (.ref b5), .val (.ref b8), .val (.ref b13), .val (.long (F3 q1)), .second, .val (.long (F3 (q1 + (-7046029254386353131 : Int64)))), .second, .val (.long (F3 (q1 + (-7046029254386353131 : Int64)))), .second, .val (.long (F3 q2)), .second, .val (.long (F3 (1234567 : Int64))), .second, .val (.long (F3 ((1234567 : Int64) + (-7046029254386353131 : Int64)))), .second, .val (.int (1 : Int32)), .unset, .unset] [(.int (0 : Int32))])) _
      refine XS.lload X38.here hx rfl (hb hby at_114) rfl ?_
      show Steps p.tables e below (T38.setTop (mkF m 116 #[.val (.long q1), .second, .val (.long q2), .second, .val (.ref b3), .val (.ref b5), .val (.ref b8), .val (.ref b13), .val (.long (F3 q1)), .second, .val (.long (F3 (q1 + (-7046029254386353131 : Int64)))), .second, .val (.long (F3 (q1 + (-7046029254386353131 : Int64)))), .second, .val (.long (F3 q2)), .second, .val (.long (F3 (1234567 : Int64))), .second, .val (.long (F3 ((1234567 : Int64) + (-7046029254386353131 : Int64)))), .second, .val (.int (1 : Int32)), .unset, .unset] [(.long (F3 q1)), (.int (0 : Int32))])) _
      refine XS.lload X38.here hx rfl (hb hby at_116) rfl ?_
      show Steps p.tables e below (T38.setTop (mkF m 118 #[.val (.long q1), .second, .val (.long q2), .second, .val (.ref b3), .val (.ref b5), .val (.ref b8), .val (.ref b13), .val (.long (F3 q1)), .second, .val (.long (F3 (q1 + (-7046029254386353131 : Int64)))), .second, .val (.long (F3 (q1 + (-7046029254386353131 : Int64)))), .second, .val (.long (F3 q2)), .second, .val (.long (F3 (1234567 : Int64))), .second, .val (.long (F3 ((1234567 : Int64) + (-7046029254386353131 : Int64)))), .second, .val (.int (1 : Int32)), .unset, .unset] [(.long (F3 q2)), (.long (F3 q1)), (.int (0 : Int32))])) _
      refine XS.lcmp X38.here hx rfl (hb hby at_118) rfl ?_
      show Steps p.tables e below (T38.setTop (mkF m 119 #[.val (.long q1), .second, .val (.long q2), .second, .val (.ref b3), .val (.ref b5), .val (.ref b8), .val (.ref b13), .val (.long (F3 q1)), .second, .val (.long (F3 (q1 + (-7046029254386353131 : Int64)))), .second, .val (.long (F3 (q1 + (-7046029254386353131 : Int64)))), .second, .val (.long (F3 q2)), .second, .val (.long (F3 (1234567 : Int64))), .second, .val (.long (F3 ((1234567 : Int64) + (-7046029254386353131 : Int64)))), .second, .val (.int (1 : Int32)), .unset, .unset] [(.int (lcmpW (F3 q1) (F3 q2))), (.int (0 : Int32))])) _
      refine XS.ifYes X38.here hx rfl (pc0 := 119) (pc' := 126) rfl (hb hby at_119) rfl ((if0 _ _).trans (feq (mt (lw_eq (F3 q1) (F3 q2)).mp hc119_47)).2) (by decide) (by decide) ?_
      show Steps p.tables e below (T38.setTop (mkF m 126 #[.val (.long q1), .second, .val (.long q2), .second, .val (.ref b3), .val (.ref b5), .val (.ref b8), .val (.ref b13), .val (.long (F3 q1)), .second, .val (.long (F3 (q1 + (-7046029254386353131 : Int64)))), .second, .val (.long (F3 (q1 + (-7046029254386353131 : Int64)))), .second, .val (.long (F3 q2)), .second, .val (.long (F3 (1234567 : Int64))), .second, .val (.long (F3 ((1234567 : Int64) + (-7046029254386353131 : Int64)))), .second, .val (.int (1 : Int32)), .unset, .unset] [(.int (0 : Int32))])) _
      refine XS.iconst X38.here hx rfl (hb hby at_126) ?_
      show Steps p.tables e below (T38.setTop (mkF m 127 #[.val (.long q1), .second, .val (.long q2), .second, .val (.ref b3), .val (.ref b5), .val (.ref b8), .val (.ref b13), .val (.long (F3 q1)), .second, .val (.long (F3 (q1 + (-7046029254386353131 : Int64)))), .second, .val (.long (F3 (q1 + (-7046029254386353131 : Int64)))), .second, .val (.long (F3 q2)), .second, .val (.long (F3 (1234567 : Int64))), .second, .val (.long (F3 ((1234567 : Int64) + (-7046029254386353131 : Int64)))), .second, .val (.int (1 : Int32)), .unset, .unset] [(.int (0 : Int32)), (.int (0 : Int32))])) _
      refine XS.icmpNo X38.here hx rfl (hb hby at_127) rfl (teq (by decide : (0 : Int32) = (0 : Int32))).2 ?_
      show Steps p.tables e below (T38.setTop (mkF m 130 #[.val (.long q1), .second, .val (.long q2), .second, .val (.ref b3), .val (.ref b5), .val (.ref b8), .val (.ref b13), .val (.long (F3 q1)), .second, .val (.long (F3 (q1 + (-7046029254386353131 : Int64)))), .second, .val (.long (F3 (q1 + (-7046029254386353131 : Int64)))), .second, .val (.long (F3 q2)), .second, .val (.long (F3 (1234567 : Int64))), .second, .val (.long (F3 ((1234567 : Int64) + (-7046029254386353131 : Int64)))), .second, .val (.int (1 : Int32)), .unset, .unset] [])) _
      refine XS.iconst X38.here hx rfl (hb hby at_130) ?_
      show Steps p.tables e below (T38.setTop (mkF m 131 #[.val (.long q1), .second, .val (.long q2), .second, .val (.ref b3), .val (.ref b5), .val (.ref b8), .val (.ref b13), .val (.long (F3 q1)), .second, .val (.long (F3 (q1 + (-7046029254386353131 : Int64)))), .second, .val (.long (F3 (q1 + (-7046029254386353131 : Int64)))), .second, .val (.long (F3 q2)), .second, .val (.long (F3 (1234567 : Int64))), .second, .val (.long (F3 ((1234567 : Int64) + (-7046029254386353131 : Int64)))), .second, .val (.int (1 : Int32)), .unset, .unset] [(.int (1 : Int32))])) _
      refine XS.goto X38.here hx rfl (pc0 := 131) (pc' := 135) rfl (hb hby at_131) (by decide) (by decide) ?_
      show Steps p.tables e below (T38.setTop (mkF m 135 #[.val (.long q1), .second, .val (.long q2), .second, .val (.ref b3), .val (.ref b5), .val (.ref b8), .val (.ref b13), .val (.long (F3 q1)), .second, .val (.long (F3 (q1 + (-7046029254386353131 : Int64)))), .second, .val (.long (F3 (q1 + (-7046029254386353131 : Int64)))), .second, .val (.long (F3 q2)), .second, .val (.long (F3 (1234567 : Int64))), .second, .val (.long (F3 ((1234567 : Int64) + (-7046029254386353131 : Int64)))), .second, .val (.int (1 : Int32)), .unset, .unset] [(.int (1 : Int32))])) _
      refine XS.istore X38.here hx rfl (hb hby at_135) rfl (l' := #[.val (.long q1), .second, .val (.long q2), .second, .val (.ref b3), .val (.ref b5), .val (.ref b8), .val (.ref b13), .val (.long (F3 q1)), .second, .val (.long (F3 (q1 + (-7046029254386353131 : Int64)))), .second, .val (.long (F3 (q1 + (-7046029254386353131 : Int64)))), .second, .val (.long (F3 q2)), .second, .val (.long (F3 (1234567 : Int64))), .second, .val (.long (F3 ((1234567 : Int64) + (-7046029254386353131 : Int64)))), .second, .val (.int (1 : Int32)), .val (.int (1 : Int32)), .unset]) rfl ?_
      show Steps p.tables e below (T38.setTop (mkF m 137 #[.val (.long q1), .second, .val (.long q2), .second, .val (.ref b3), .val (.ref b5), .val (.ref b8), .val (.ref b13), .val (.long (F3 q1)), .second, .val (.long (F3 (q1 + (-7046029254386353131 : Int64)))), .second, .val (.long (F3 (q1 + (-7046029254386353131 : Int64)))), .second, .val (.long (F3 q2)), .second, .val (.long (F3 (1234567 : Int64))), .second, .val (.long (F3 ((1234567 : Int64) + (-7046029254386353131 : Int64)))), .second, .val (.int (1 : Int32)), .val (.int (1 : Int32)), .unset] [])) _
      refine XS.lload X38.here hx rfl (hb hby at_137) rfl ?_
      show Steps p.tables e below (T38.setTop (mkF m 139 #[.val (.long q1), .second, .val (.long q2), .second, .val (.ref b3), .val (.ref b5), .val (.ref b8), .val (.ref b13), .val (.long (F3 q1)), .second, .val (.long (F3 (q1 + (-7046029254386353131 : Int64)))), .second, .val (.long (F3 (q1 + (-7046029254386353131 : Int64)))), .second, .val (.long (F3 q2)), .second, .val (.long (F3 (1234567 : Int64))), .second, .val (.long (F3 ((1234567 : Int64) + (-7046029254386353131 : Int64)))), .second, .val (.int (1 : Int32)), .val (.int (1 : Int32)), .unset] [(.long (F3 (1234567 : Int64)))])) _
      refine X38.ldc2Long hx hown (mvT hZ (hw _ (List.mem_of_getElem? (i := 21) rfl))) (g := (mkF m 139 #[.val (.long q1), .second, .val (.long q2), .second, .val (.ref b3), .val (.ref b5), .val (.ref b8), .val (.ref b13), .val (.long (F3 q1)), .second, .val (.long (F3 (q1 + (-7046029254386353131 : Int64)))), .second, .val (.long (F3 (q1 + (-7046029254386353131 : Int64)))), .second, .val (.long (F3 q2)), .second, .val (.long (F3 (1234567 : Int64))), .second, .val (.long (F3 ((1234567 : Int64) + (-7046029254386353131 : Int64)))), .second, .val (.int (1 : Int32)), .val (.int (1 : Int32)), .unset] [(.long (F3 (1234567 : Int64)))])) rfl (hb hby at_139) _ ?_
      show Steps p.tables e below (T38.setTop (mkF m 142 #[.val (.long q1), .second, .val (.long q2), .second, .val (.ref b3), .val (.ref b5), .val (.ref b8), .val (.ref b13), .val (.long (F3 q1)), .second, .val (.long (F3 (q1 + (-7046029254386353131 : Int64)))), .second, .val (.long (F3 (q1 + (-7046029254386353131 : Int64)))), .second, .val (.long (F3 q2)), .second, .val (.long (F3 (1234567 : Int64))), .second, .val (.long (F3 ((1234567 : Int64) + (-7046029254386353131 : Int64)))), .second, .val (.int (1 : Int32)), .val (.int (1 : Int32)), .unset] [(.long (6457827717110365317 : Int64)), (.long (F3 (1234567 : Int64)))])) _
      refine XS.lcmp X38.here hx rfl (hb hby at_142) rfl ?_
      show Steps p.tables e below (T38.setTop (mkF m 143 #[.val (.long q1), .second, .val (.long q2), .second, .val (.ref b3), .val (.ref b5), .val (.ref b8), .val (.ref b13), .val (.long (F3 q1)), .second, .val (.long (F3 (q1 + (-7046029254386353131 : Int64)))), .second, .val (.long (F3 (q1 + (-7046029254386353131 : Int64)))), .second, .val (.long (F3 q2)), .second, .val (.long (F3 (1234567 : Int64))), .second, .val (.long (F3 ((1234567 : Int64) + (-7046029254386353131 : Int64)))), .second, .val (.int (1 : Int32)), .val (.int (1 : Int32)), .unset] [(.int (lcmpW (F3 (1234567 : Int64)) (6457827717110365317 : Int64)))])) _
      refine XS.ifNo X38.here hx rfl (hb hby at_143) rfl ((if0 _ _).trans (teq ((lw_eq (F3 (1234567 : Int64)) (6457827717110365317 : Int64)).mpr hc143_48)).2) ?_
      show Steps p.tables e below (T38.setTop (mkF m 146 #[.val (.long q1), .second, .val (.long q2), .second, .val (.ref b3), .val (.ref b5), .val (.ref b8), .val (.ref b13), .val (.long (F3 q1)), .second, .val (.long (F3 (q1 + (-7046029254386353131 : Int64)))), .second, .val (.long (F3 (q1 + (-7046029254386353131 : Int64)))), .second, .val (.long (F3 q2)), .second, .val (.long (F3 (1234567 : Int64))), .second, .val (.long (F3 ((1234567 : Int64) + (-7046029254386353131 : Int64)))), .second, .val (.int (1 : Int32)), .val (.int (1 : Int32)), .unset] [])) _
      refine XS.lload X38.here hx rfl (hb hby at_146) rfl ?_
      show Steps p.tables e below (T38.setTop (mkF m 148 #[.val (.long q1), .second, .val (.long q2), .second, .val (.ref b3), .val (.ref b5), .val (.ref b8), .val (.ref b13), .val (.long (F3 q1)), .second, .val (.long (F3 (q1 + (-7046029254386353131 : Int64)))), .second, .val (.long (F3 (q1 + (-7046029254386353131 : Int64)))), .second, .val (.long (F3 q2)), .second, .val (.long (F3 (1234567 : Int64))), .second, .val (.long (F3 ((1234567 : Int64) + (-7046029254386353131 : Int64)))), .second, .val (.int (1 : Int32)), .val (.int (1 : Int32)), .unset] [(.long (F3 ((1234567 : Int64) + (-7046029254386353131 : Int64))))])) _
      refine X38.ldc2Long hx hown (mvT hZ (hw _ (List.mem_of_getElem? (i := 22) rfl))) (g := (mkF m 148 #[.val (.long q1), .second, .val (.long q2), .second, .val (.ref b3), .val (.ref b5), .val (.ref b8), .val (.ref b13), .val (.long (F3 q1)), .second, .val (.long (F3 (q1 + (-7046029254386353131 : Int64)))), .second, .val (.long (F3 (q1 + (-7046029254386353131 : Int64)))), .second, .val (.long (F3 q2)), .second, .val (.long (F3 (1234567 : Int64))), .second, .val (.long (F3 ((1234567 : Int64) + (-7046029254386353131 : Int64)))), .second, .val (.int (1 : Int32)), .val (.int (1 : Int32)), .unset] [(.long (F3 ((1234567 : Int64) + (-7046029254386353131 : Int64))))])) rfl (hb hby at_148) _ ?_
      show Steps p.tables e below (T38.setTop (mkF m 151 #[.val (.long q1), .second, .val (.long q2), .second, .val (.ref b3), .val (.ref b5), .val (.ref b8), .val (.ref b13), .val (.long (F3 q1)), .second, .val (.long (F3 (q1 + (-7046029254386353131 : Int64)))), .second, .val (.long (F3 (q1 + (-7046029254386353131 : Int64)))), .second, .val (.long (F3 q2)), .second, .val (.long (F3 (1234567 : Int64))), .second, .val (.long (F3 ((1234567 : Int64) + (-7046029254386353131 : Int64)))), .second, .val (.int (1 : Int32)), .val (.int (1 : Int32)), .unset] [(.long (3203168211198807973 : Int64)), (.long (F3 ((1234567 : Int64) + (-7046029254386353131 : Int64))))])) _
      refine XS.lcmp X38.here hx rfl (hb hby at_151) rfl ?_
      show Steps p.tables e below (T38.setTop (mkF m 152 #[.val (.long q1), .second, .val (.long q2), .second, .val (.ref b3), .val (.ref b5), .val (.ref b8), .val (.ref b13), .val (.long (F3 q1)), .second, .val (.long (F3 (q1 + (-7046029254386353131 : Int64)))), .second, .val (.long (F3 (q1 + (-7046029254386353131 : Int64)))), .second, .val (.long (F3 q2)), .second, .val (.long (F3 (1234567 : Int64))), .second, .val (.long (F3 ((1234567 : Int64) + (-7046029254386353131 : Int64)))), .second, .val (.int (1 : Int32)), .val (.int (1 : Int32)), .unset] [(.int (lcmpW (F3 ((1234567 : Int64) + (-7046029254386353131 : Int64))) (3203168211198807973 : Int64)))])) _
      refine XS.ifNo X38.here hx rfl (hb hby at_152) rfl ((if0 _ _).trans (teq ((lw_eq (F3 ((1234567 : Int64) + (-7046029254386353131 : Int64))) (3203168211198807973 : Int64)).mpr hc152_49)).2) ?_
      show Steps p.tables e below (T38.setTop (mkF m 155 #[.val (.long q1), .second, .val (.long q2), .second, .val (.ref b3), .val (.ref b5), .val (.ref b8), .val (.ref b13), .val (.long (F3 q1)), .second, .val (.long (F3 (q1 + (-7046029254386353131 : Int64)))), .second, .val (.long (F3 (q1 + (-7046029254386353131 : Int64)))), .second, .val (.long (F3 q2)), .second, .val (.long (F3 (1234567 : Int64))), .second, .val (.long (F3 ((1234567 : Int64) + (-7046029254386353131 : Int64)))), .second, .val (.int (1 : Int32)), .val (.int (1 : Int32)), .unset] [])) _
      refine XS.iconst X38.here hx rfl (hb hby at_155) ?_
      show Steps p.tables e below (T38.setTop (mkF m 156 #[.val (.long q1), .second, .val (.long q2), .second, .val (.ref b3), .val (.ref b5), .val (.ref b8), .val (.ref b13), .val (.long (F3 q1)), .second, .val (.long (F3 (q1 + (-7046029254386353131 : Int64)))), .second, .val (.long (F3 (q1 + (-7046029254386353131 : Int64)))), .second, .val (.long (F3 q2)), .second, .val (.long (F3 (1234567 : Int64))), .second, .val (.long (F3 ((1234567 : Int64) + (-7046029254386353131 : Int64)))), .second, .val (.int (1 : Int32)), .val (.int (1 : Int32)), .unset] [(.int (1 : Int32))])) _
      refine XS.goto X38.here hx rfl (pc0 := 156) (pc' := 160) rfl (hb hby at_156) (by decide) (by decide) ?_
      show Steps p.tables e below (T38.setTop (mkF m 160 #[.val (.long q1), .second, .val (.long q2), .second, .val (.ref b3), .val (.ref b5), .val (.ref b8), .val (.ref b13), .val (.long (F3 q1)), .second, .val (.long (F3 (q1 + (-7046029254386353131 : Int64)))), .second, .val (.long (F3 (q1 + (-7046029254386353131 : Int64)))), .second, .val (.long (F3 q2)), .second, .val (.long (F3 (1234567 : Int64))), .second, .val (.long (F3 ((1234567 : Int64) + (-7046029254386353131 : Int64)))), .second, .val (.int (1 : Int32)), .val (.int (1 : Int32)), .unset] [(.int (1 : Int32))])) _
      refine XS.istore X38.here hx rfl (hb hby at_160) rfl (l' := #[.val (.long q1), .second, .val (.long q2), .second, .val (.ref b3), .val (.ref b5), .val (.ref b8), .val (.ref b13), .val (.long (F3 q1)), .second, .val (.long (F3 (q1 + (-7046029254386353131 : Int64)))), .second, .val (.long (F3 (q1 + (-7046029254386353131 : Int64)))), .second, .val (.long (F3 q2)), .second, .val (.long (F3 (1234567 : Int64))), .second, .val (.long (F3 ((1234567 : Int64) + (-7046029254386353131 : Int64)))), .second, .val (.int (1 : Int32)), .val (.int (1 : Int32)), .val (.int (1 : Int32))]) rfl ?_
      show Steps p.tables e below (T38.setTop (mkF m 162 #[.val (.long q1), .second, .val (.long q2), .second, .val (.ref b3), .val (.ref b5), .val (.ref b8), .val (.ref b13), .val (.long (F3 q1)), .second, .val (.long (F3 (q1 + (-7046029254386353131 : Int64)))), .second, .val (.long (F3 (q1 + (-7046029254386353131 : Int64)))), .second, .val (.long (F3 q2)), .second, .val (.long (F3 (1234567 : Int64))), .second, .val (.long (F3 ((1234567 : Int64) + (-7046029254386353131 : Int64)))), .second, .val (.int (1 : Int32)), .val (.int (1 : Int32)), .val (.int (1 : Int32))] [])) _
      refine XS.iload X38.here hx rfl (hb hby at_162) rfl ?_
      show Steps p.tables e below (T38.setTop (mkF m 164 #[.val (.long q1), .second, .val (.long q2), .second, .val (.ref b3), .val (.ref b5), .val (.ref b8), .val (.ref b13), .val (.long (F3 q1)), .second, .val (.long (F3 (q1 + (-7046029254386353131 : Int64)))), .second, .val (.long (F3 (q1 + (-7046029254386353131 : Int64)))), .second, .val (.long (F3 q2)), .second, .val (.long (F3 (1234567 : Int64))), .second, .val (.long (F3 ((1234567 : Int64) + (-7046029254386353131 : Int64)))), .second, .val (.int (1 : Int32)), .val (.int (1 : Int32)), .val (.int (1 : Int32))] [(.int (1 : Int32))])) _
      refine XS.ifNo X38.here hx rfl (hb hby at_164) rfl ((if0 _ _).trans (feq (by decide : ¬ ((1 : Int32) = (0 : Int32)))).1) ?_
      show Steps p.tables e below (T38.setTop (mkF m 167 #[.val (.long q1), .second, .val (.long q2), .second, .val (.ref b3), .val (.ref b5), .val (.ref b8), .val (.ref b13), .val (.long (F3 q1)), .second, .val (.long (F3 (q1 + (-7046029254386353131 : Int64)))), .second, .val (.long (F3 (q1 + (-7046029254386353131 : Int64)))), .second, .val (.long (F3 q2)), .second, .val (.long (F3 (1234567 : Int64))), .second, .val (.long (F3 ((1234567 : Int64) + (-7046029254386353131 : Int64)))), .second, .val (.int (1 : Int32)), .val (.int (1 : Int32)), .val (.int (1 : Int32))] [])) _
      refine XS.iload X38.here hx rfl (hb hby at_167) rfl ?_
      show Steps p.tables e below (T38.setTop (mkF m 169 #[.val (.long q1), .second, .val (.long q2), .second, .val (.ref b3), .val (.ref b5), .val (.ref b8), .val (.ref b13), .val (.long (F3 q1)), .second, .val (.long (F3 (q1 + (-7046029254386353131 : Int64)))), .second, .val (.long (F3 (q1 + (-7046029254386353131 : Int64)))), .second, .val (.long (F3 q2)), .second, .val (.long (F3 (1234567 : Int64))), .second, .val (.long (F3 ((1234567 : Int64) + (-7046029254386353131 : Int64)))), .second, .val (.int (1 : Int32)), .val (.int (1 : Int32)), .val (.int (1 : Int32))] [(.int (1 : Int32))])) _
      refine XS.ifNo X38.here hx rfl (hb hby at_169) rfl ((if0 _ _).trans (feq (by decide : ¬ ((1 : Int32) = (0 : Int32)))).1) ?_
      show Steps p.tables e below (T38.setTop (mkF m 172 #[.val (.long q1), .second, .val (.long q2), .second, .val (.ref b3), .val (.ref b5), .val (.ref b8), .val (.ref b13), .val (.long (F3 q1)), .second, .val (.long (F3 (q1 + (-7046029254386353131 : Int64)))), .second, .val (.long (F3 (q1 + (-7046029254386353131 : Int64)))), .second, .val (.long (F3 q2)), .second, .val (.long (F3 (1234567 : Int64))), .second, .val (.long (F3 ((1234567 : Int64) + (-7046029254386353131 : Int64)))), .second, .val (.int (1 : Int32)), .val (.int (1 : Int32)), .val (.int (1 : Int32))] [])) _
      refine XS.iload X38.here hx rfl (hb hby at_172) rfl ?_
      show Steps p.tables e below (T38.setTop (mkF m 174 #[.val (.long q1), .second, .val (.long q2), .second, .val (.ref b3), .val (.ref b5), .val (.ref b8), .val (.ref b13), .val (.long (F3 q1)), .second, .val (.long (F3 (q1 + (-7046029254386353131 : Int64)))), .second, .val (.long (F3 (q1 + (-7046029254386353131 : Int64)))), .second, .val (.long (F3 q2)), .second, .val (.long (F3 (1234567 : Int64))), .second, .val (.long (F3 ((1234567 : Int64) + (-7046029254386353131 : Int64)))), .second, .val (.int (1 : Int32)), .val (.int (1 : Int32)), .val (.int (1 : Int32))] [(.int (1 : Int32))])) _
      refine XS.ifNo X38.here hx rfl (hb hby at_174) rfl ((if0 _ _).trans (feq (by decide : ¬ ((1 : Int32) = (0 : Int32)))).1) ?_
      show Steps p.tables e below (T38.setTop (mkF m 177 #[.val (.long q1), .second, .val (.long q2), .second, .val (.ref b3), .val (.ref b5), .val (.ref b8), .val (.ref b13), .val (.long (F3 q1)), .second, .val (.long (F3 (q1 + (-7046029254386353131 : Int64)))), .second, .val (.long (F3 (q1 + (-7046029254386353131 : Int64)))), .second, .val (.long (F3 q2)), .second, .val (.long (F3 (1234567 : Int64))), .second, .val (.long (F3 ((1234567 : Int64) + (-7046029254386353131 : Int64)))), .second, .val (.int (1 : Int32)), .val (.int (1 : Int32)), .val (.int (1 : Int32))] [])) _
      refine XS.iconst X38.here hx rfl (hb hby at_177) ?_
      show Steps p.tables e below (T38.setTop (mkF m 178 #[.val (.long q1), .second, .val (.long q2), .second, .val (.ref b3), .val (.ref b5), .val (.ref b8), .val (.ref b13), .val (.long (F3 q1)), .second, .val (.long (F3 (q1 + (-7046029254386353131 : Int64)))), .second, .val (.long (F3 (q1 + (-7046029254386353131 : Int64)))), .second, .val (.long (F3 q2)), .second, .val (.long (F3 (1234567 : Int64))), .second, .val (.long (F3 ((1234567 : Int64) + (-7046029254386353131 : Int64)))), .second, .val (.int (1 : Int32)), .val (.int (1 : Int32)), .val (.int (1 : Int32))] [(.int (1 : Int32))])) _
      refine XS.goto X38.here hx rfl (pc0 := 178) (pc' := 182) rfl (hb hby at_178) (by decide) (by decide) ?_
      show Steps p.tables e below (T38.setTop (mkF m 182 #[.val (.long q1), .second, .val (.long q2), .second, .val (.ref b3), .val (.ref b5), .val (.ref b8), .val (.ref b13), .val (.long (F3 q1)), .second, .val (.long (F3 (q1 + (-7046029254386353131 : Int64)))), .second, .val (.long (F3 (q1 + (-7046029254386353131 : Int64)))), .second, .val (.long (F3 q2)), .second, .val (.long (F3 (1234567 : Int64))), .second, .val (.long (F3 ((1234567 : Int64) + (-7046029254386353131 : Int64)))), .second, .val (.int (1 : Int32)), .val (.int (1 : Int32)), .val (.int (1 : Int32))] [(.int (1 : Int32))])) _
      exact retN X38 hx (t := .boolean) Bd.returns (by simp) (hb hby at_182) hr
    · show Q0 Z q1 q2 h0 n0 _ T38.heap _
      exact ⟨rfl, N38⟩
set_option maxRecDepth 65536 in
set_option maxHeartbeats 40000000 in
theorem comes_1 {Post : Tables → Env → Array Value → State → Outcome → State → Prop} (hpost : ∀ tb e args s v u, (limb_1_1.after args s (.returned v) u = true ∧ limb_1_2.after args s (.returned v) u = true ∧ True) → FrameEnd s (.returned v) u (Jvm.fieldLocs frame_1_writes args s ++ Jvm.arrayLocs frame_1_arrays args s ++ Jvm.staticLocs frame_1_statics s) 16 128 → Post tb e args s (.returned v) u) :
    ArmFor flags0 classFile x code maxLocals ret World_1 tables_1 room_1 Calls_1 rest_1 Pre_1 Post := by
  intro l hfl _ _ p e ha hc hk s m args below hf hA hF happ hP
  obtain ⟨hcalls, hrest, hpre⟩ := hP
  obtain ⟨-, -, -, hnamed, -, -, -, hat⟩ := (Spec.applies_iff hf).mp happ
  obtain ⟨hg, hn⟩ := and_e (Cond.before_iff.mp (show (Jvm.Cond.and given_1 narrow_1).before args s = true from hpre))
  obtain ⟨hcount, hr0⟩ := and_e hg
  obtain ⟨ga0, hr1⟩ := and_e hr0
  obtain ⟨w0, w1, rfl⟩ : ∃ w0 w1 : Value, args = #[w0, w1] := by
    have hs : args.size = 2 := by simpa [Cond.value, given_1] using hcount
    obtain ⟨L⟩ := args
    match L, hs with
    | [w0, w1], _ => exact ⟨w0, w1, rfl⟩
  have hw := fun d (hd : d ∈ tables_1) => atoms_spec (ws := Jvm.Cond.code x code maxLocals ret :: tables_1) hat d (List.mem_cons_of_mem _ hd)
  obtain ⟨i0, ei0⟩ := isL_v ga0
  obtain rfl : w0 = (.long i0) := Option.some.inj ei0
  obtain ⟨i1, ei1⟩ := isL_v hr1
  obtain rfl : w1 = (.long i1) := Option.some.inj ei1
  obtain ⟨n, o, h1, h2, h3, _, L, rfl, ⟨rfl, N⟩, hq⟩ := rm0 l s _ hw tables_1 i0 i1  s.heap s.heap.size (Nat.le_refl _)  p e ha hc hk s m _ below hf ((Spec.applies_iff_loose hf).mp happ).1 ⟨rfl, State.Warmed39.refl s, rfl⟩ trivial
  refine ⟨n, _, h1, h2, h3, hpost _ _ _ _ _ _ ⟨Cond.after_iff.mpr rfl, Cond.after_iff.mpr (eq_i res_at (Term.int_eval (1)) (rfl)), trivial⟩ ⟨hq.1, hq.2.1, (hq.2.2.sift fun y hy => Or.inr (N y hy)).mono (by decide) (by decide)⟩⟩
theorem main_1_1 : Claimed_1_1 := comes_1 fun _ _ _ _ _ _ h hF => ⟨h.1, hF⟩
theorem main_1_2 : Claimed_1_2 := comes_1 fun _ _ _ _ _ _ h hF => ⟨h.2.1, hF⟩
end Jvm.Pilot.@@N@@
namespace Jvm.Pilot.@@N@@
open Jvm Jvm.ClassFile Sem Op Lib Jvm.Free Jvm.Stand Jvm.Pilot.@@N@@.Jvm.D
/-! MADE BY PROGRAM (witnessworld.py) out of the Statement's table words and the real class files: 9 classes; the members and pool entries that the words name. The judged class is class 1, her method 1. -/
namespace start1
open Jvm.ClassFile
def u (s : String) : CpInfo := .utf8 (stringToUtf16 s)
/-- a pool by its gaps: so many unusable entries, then the entry; so many at the end -/
def gap : Nat → List CpInfo → List CpInfo
  | 0, r => r
  | n + 1, r => .unusable :: gap n r
def poolList (es : List (Nat × CpInfo)) (last : Nat) : List CpInfo := es.foldr (fun e r => gap e.1 (e.2 :: r)) (gap last [])
def pool (es : List (Nat × CpInfo)) (last : Nat) : Array CpInfo := ⟨poolList es last⟩
def fileOf (pool : Array CpInfo) (this : Nat) (attrs : Array Attribute := #[]) (ms : Array MethodInfo := #[]) (fl : Nat := 33) (sup : Nat := 0) (ifs : Array Nat := #[]) (fds : Array FieldInfo := #[]) : ClassFile where
  minorVersion := 0
  majorVersion := 65
  constantPool := pool
  accessFlags := fl
  thisClass := this
  superClass := sup
  interfaces := ifs
  fields := fds
  methods := ms
  attributes := attrs
def plain (name : String) (sup : Option ClassId) : Class where
  name := name
  kind := .ordinary
  loader := none
  accessFlags := 33
  super := sup
  interfaces := #[]
  cf := none
  fields := #[]
  methods := #[]
  instanceTypes := #[]
  staticTypes := #[]
  resolved := #[]
  callSites := []
  init := .initialized
  statics := none
  mirror := none

def pool0 : Array CpInfo := pool [(5, u "<init>"), (0, u "()V"), (1, .class_ 10), (1, u "java/lang/Object")] 113

def k0c0 : Code := { maxStack := 0, maxLocals := 1, code := object_method_1_code, exceptionTable := #[], attributes := #[] }
def k0m0 : Method := { name := "<init>", desc := "()V", sig := { parameters := [], returnType := none }, accessFlags := 1, code := some k0c0 }
/-- java/lang/Object -/
def k0 : Class := { plain "java/lang/Object" none with
  accessFlags := 33
  interfaces := #[]
  cf := some (fileOf pool0 8 #[] #[{ accessFlags := 1, nameIndex := 5, descriptorIndex := 6, attributes := #[] }] 33 0 #[] #[])
  fields := #[]
  methods := #[k0m0]
  instanceTypes := #[]
  staticTypes := #[]
  resolved := Array.replicate 124 none
  statics := none }

def pool1 : Array CpInfo := pool [(2, .class_ 4), (1, u "java/lang/Object"), (0, u "<init>"), (0, u "()V"), (0, .class_ 8), (0, u "com/example/tenure/tenure/sim/SeededRandom"), (0, .methodref 7 10), (0, .nameAndType 5 11), (0, u "(J)V"), (0, .class_ 13), (0, u "com/example/tenure/tenure/sim/SeededRandomNextLongPinLaw"), (0, .long 11400714819323198485), (1, .long 1234567), (1, .methodref 7 19), (0, .nameAndType 20 21), (0, u "nextLong"), (0, u "()J"), (0, .long 6457827717110365317), (1, .long 3203168211198807973), (1, u "GAMMA"), (0, u "J"), (3, u "law"), (0, u "(JJ)Z")] 3

def k1m0 : Method := { name := "<init>", desc := "()V", sig := { parameters := [], returnType := none }, accessFlags := 1, code := none }
def k1c1 : Code := { maxStack := 6, maxLocals := 23, code := code, exceptionTable := #[], attributes := #[] }
def k1m1 : Method := { name := "law", desc := "(JJ)Z", sig := { parameters := [.long, .long], returnType := some .boolean }, accessFlags := 9, code := some k1c1 }
/-- com/example/tenure/tenure/sim/SeededRandomNextLongPinLaw -/
def k1 : Class := { plain "com/example/tenure/tenure/sim/SeededRandomNextLongPinLaw" (some 0) with
  accessFlags := 49
  interfaces := #[]
  cf := some (fileOf pool1 12 #[] #[{ accessFlags := 1, nameIndex := 5, descriptorIndex := 6, attributes := #[] }, { accessFlags := 9, nameIndex := 31, descriptorIndex := 32, attributes := #[] }] 49 2 #[] #[{ accessFlags := 26, nameIndex := 26, descriptorIndex := 27, attributes := #[] }])
  fields := #[{ name := "GAMMA", type := .long, accessFlags := 26, slot := 0, constantValue := 0 }]
  methods := #[k1m0, k1m1]
  instanceTypes := #[]
  staticTypes := #[.long]
  resolved := Array.replicate 36 none
  statics := none }

def pool2 : Array CpInfo := pool [(1, .methodref 2 3), (0, .class_ 4), (0, .nameAndType 5 6), (0, u "java/lang/Object"), (0, u "<init>"), (0, u "()V"), (0, .fieldref 8 9), (0, .class_ 10), (0, .nameAndType 11 12), (0, u "com/example/tenure/tenure/sim/SeededRandom"), (0, u "state"), (0, u "J"), (0, .long 11400714819323198485), (1, .long 13787848793156543929), (1, .long 10723151780598845931), (3, u "nextLong"), (0, u "()J"), (2, u "GAMMA"), (1, u "UNIT"), (0, u "D"), (0, u "(J)V")] 9

def k2c0 : Code := { maxStack := 3, maxLocals := 3, code := prog_54_method_1_code, exceptionTable := #[], attributes := #[] }
def k2m0 : Method := { name := "<init>", desc := "(J)V", sig := { parameters := [.long], returnType := none }, accessFlags := 0, code := some k2c0 }
def k2c1 : Code := { maxStack := 5, maxLocals := 3, code := prog_54_method_2_code, exceptionTable := #[], attributes := #[] }
def k2m1 : Method := { name := "nextLong", desc := "()J", sig := { parameters := [], returnType := some .long }, accessFlags := 0, code := some k2c1 }
/-- com/example/tenure/tenure/sim/SeededRandom -/
def k2 : Class := { plain "com/example/tenure/tenure/sim/SeededRandom" (some 0) with
  accessFlags := 48
  interfaces := #[]
  cf := some (fileOf pool2 8 #[] #[{ accessFlags := 0, nameIndex := 5, descriptorIndex := 29, attributes := #[] }, { accessFlags := 0, nameIndex := 21, descriptorIndex := 22, attributes := #[] }] 48 2 #[] #[{ accessFlags := 26, nameIndex := 25, descriptorIndex := 12, attributes := #[] }, { accessFlags := 26, nameIndex := 27, descriptorIndex := 28, attributes := #[] }, { accessFlags := 2, nameIndex := 11, descriptorIndex := 12, attributes := #[] }])
  fields := #[{ name := "GAMMA", type := .long, accessFlags := 26, slot := 0, constantValue := 0 }, { name := "UNIT", type := .double, accessFlags := 26, slot := 1, constantValue := 0 }, { name := "state", type := .long, accessFlags := 2, slot := 0, constantValue := 0 }]
  methods := #[k2m0, k2m1]
  instanceTypes := #[.long]
  staticTypes := #[.long, .double]
  resolved := Array.replicate 39 none
  statics := none }

def pool3 : Array CpInfo := pool [(1, u "java/lang/Cloneable"), (0, .class_ 1), (0, u "java/lang/Object"), (0, .class_ 3)] 3

/-- java/lang/Cloneable -/
def k3 : Class := { plain "java/lang/Cloneable" (some 0) with
  accessFlags := 1537
  interfaces := #[]
  cf := some (fileOf pool3 2 #[] #[] 1537 4 #[] #[])
  fields := #[]
  methods := #[]
  instanceTypes := #[]
  staticTypes := #[]
  resolved := Array.replicate 8 none
  statics := none }

def pool4 : Array CpInfo := pool [(1, u "java/io/Serializable"), (0, .class_ 1), (0, u "java/lang/Object"), (0, .class_ 3)] 3

/-- java/io/Serializable -/
def k4 : Class := { plain "java/io/Serializable" (some 0) with
  accessFlags := 1537
  interfaces := #[]
  cf := some (fileOf pool4 2 #[] #[] 1537 4 #[] #[])
  fields := #[]
  methods := #[]
  instanceTypes := #[]
  staticTypes := #[]
  resolved := Array.replicate 8 none
  statics := none }

/-- the primitive byte -/
def k5 : Class := { plain "byte" none with kind := .primitive 'B', accessFlags := 0x411 }
/-- [B -/
def k6 : Class := { plain "[B" (some 0) with kind := .array 5 .byte, interfaces := #[3, 4], accessFlags := 1041 }

/-- the primitive int -/
def k7 : Class := { plain "int" none with kind := .primitive 'I', accessFlags := 0x411 }
/-- [I -/
def k8 : Class := { plain "[I" (some 0) with kind := .array 7 .int, interfaces := #[3, 4], accessFlags := 1041 }

def heap : Heap := #[]
def classes : Array Class := #[k0, k1, k2, k3, k4, k5, k6, k7, k8]
def interned : List (Array UInt16 × Addr) := []
def slotsUsed : Nat := 0
def theMethod : MethodId := ⟨1, 1⟩
def args0 : Array Value := #[.long 5, .long 9]
def aboutOver (below : List Frame) : State where
  vm := { classes := classes, interned := interned.toArray }
  heap := heap
  slotsUsed := slotsUsed
  threads := #[{ frames := .invoking theMethod args0 :: below }]
def below0 : List Frame := [.native { method := ⟨0, 0⟩, args := #[] }]
def about1 : State := aboutOver below0
def p0 : Program := .bare "" "" ""
def e0 : Env := launch0.env 0 0 0
theorem w_frames : about1.frames = Frame.invoking theMethod args0 :: below0 := rfl
set_option maxRecDepth 65536 in
theorem w_args : argsFit about1.vm theMethod args0 = true := by decide +kernel
set_option maxRecDepth 65536 in
theorem w_heap : heapFits about1 = true := by decide +kernel
set_option maxRecDepth 65536 in
theorem w_runnable : about1.curStatus? = some .runnable := by decide +kernel
set_option maxRecDepth 65536 in
theorem w_alone : about1.alone = true := by decide +kernel
set_option maxRecDepth 65536 in
theorem w_named : about1.methodNamed? x = some theMethod := by decide +kernel
set_option maxRecDepth 65536 in
theorem w_hears : about1.hears theMethod below0 = true := by decide +kernel
set_option maxRecDepth 65536 in
theorem w_ripe : about1.ripe theMethod args0 below0 = true := by decide +kernel
theorem w_running : about1.status = .running := rfl
set_option maxRecDepth 65536 in
theorem w_room : about1.hasRoom e0.platform room_1 = true :=
  launch0.hasRoom_least _ room_1 (by decide +kernel) (by decide +kernel) (by decide +kernel) (by decide +kernel) (by decide +kernel) (by decide +kernel)
theorem allAtoms_all (ts : List Jvm.Cond) (a : Array Jvm.Value) (st : Jvm.State) : (allAtoms ts).before a st = ts.all (fun c => c.before a st) := by
  induction ts with
  | nil => rfl
  | cons c t ih =>
    show (Jvm.Cond.and c (allAtoms t)).before a st = _
    rw [Jvm.Cond.before_and, ih, List.all_cons]
def words1 : List Jvm.Cond := Jvm.Cond.code x code maxLocals ret :: tables_1
/-- a 'code' word, met by the world's own term for the bytes: nothing is compared byte by byte -/
theorem code_word {y : MethodName} {bytes : ByteArray} {mx : Nat} {rt : Option FieldType} {a : Array Value} {s : State} {m : MethodId} {meth : Method} {c : Code} (h1 : s.methodNamed? y = some m) (h2 : s.vm.method? m = some meth) (h3 : meth.code = some c) (h4 : c.code = bytes)
    (h5 : (c.maxLocals == mx && c.exceptionTable.isEmpty && decide (c.maxStack ≤ mostOperands) && decide (meth.sig.returnType = rt) && !meth.locks && decide (parseMethodDescriptor y.desc = some meth.sig)) = true) : (Jvm.Cond.code y bytes mx rt).before a s = true := by
  simp only [Bool.and_eq_true, beq_iff_eq, Bool.not_eq_true', decide_eq_true_eq] at h5
  obtain ⟨⟨⟨⟨⟨g1, g2⟩, g3⟩, g4⟩, g5⟩, g6⟩ := h5
  simp [Cond.before, Cond.holds, Cond.value, h1, h2, h3, h4, g1, g2, g3, g4, g5, g6]
def isCode : Jvm.Cond → Bool
  | .code _ _ _ _ => true
  | _ => false
theorem all_split {L : List Jvm.Cond} {P : Jvm.Cond → Bool} (h1 : L.all (fun c => isCode c || P c) = true) (h2 : ∀ c ∈ L.filter isCode, P c = true) : L.all P = true := by
  refine List.all_eq_true.mpr fun c hc => ?_
  have h := List.all_eq_true.mp h1 c hc
  rcases Bool.eq_false_or_eq_true (isCode c) with hi | hi
  · exact h2 c (List.mem_filter.mpr ⟨hc, hi⟩)
  · simpa [hi] using h
set_option maxRecDepth 65536 in
theorem w_c0 : (Jvm.Cond.code x code maxLocals ret).before args0 about1 = true := code_word (m := ⟨1, 1⟩) (meth := k1m1) (c := k1c1) (by decide +kernel) rfl rfl rfl (by decide +kernel)
set_option maxRecDepth 65536 in
theorem w_c1 : (Jvm.Cond.code ({ cls := "com/example/tenure/tenure/sim/SeededRandom", name := "<init>", desc := "(J)V" } : Jvm.MethodName) prog_54_method_1_code (3 : Nat) (Option.none : Option Jvm.ClassFile.FieldType)).before args0 about1 = true := code_word (m := ⟨2, 0⟩) (meth := k2m0) (c := k2c0) (by decide +kernel) rfl rfl rfl (by decide +kernel)
set_option maxRecDepth 65536 in
theorem w_c2 : (Jvm.Cond.code ({ cls := "java/lang/Object", name := "<init>", desc := "()V" } : Jvm.MethodName) object_method_1_code (1 : Nat) (Option.none : Option Jvm.ClassFile.FieldType)).before args0 about1 = true := code_word (m := ⟨0, 0⟩) (meth := k0m0) (c := k0c0) (by decide +kernel) rfl rfl rfl (by decide +kernel)
set_option maxRecDepth 65536 in
theorem w_c3 : (Jvm.Cond.code ({ cls := "com/example/tenure/tenure/sim/SeededRandom", name := "nextLong", desc := "()J" } : Jvm.MethodName) prog_54_method_2_code (3 : Nat) (Option.some Jvm.ClassFile.FieldType.long)).before args0 about1 = true := code_word (m := ⟨2, 1⟩) (meth := k2m1) (c := k2c1) (by decide +kernel) rfl rfl rfl (by decide +kernel)
def codes1 : List Jvm.Cond := [Jvm.Cond.code x code maxLocals ret, Jvm.Cond.code ({ cls := "com/example/tenure/tenure/sim/SeededRandom", name := "<init>", desc := "(J)V" } : Jvm.MethodName) prog_54_method_1_code (3 : Nat) (Option.none : Option Jvm.ClassFile.FieldType), Jvm.Cond.code ({ cls := "java/lang/Object", name := "<init>", desc := "()V" } : Jvm.MethodName) object_method_1_code (1 : Nat) (Option.none : Option Jvm.ClassFile.FieldType), Jvm.Cond.code ({ cls := "com/example/tenure/tenure/sim/SeededRandom", name := "nextLong", desc := "()J" } : Jvm.MethodName) prog_54_method_2_code (3 : Nat) (Option.some Jvm.ClassFile.FieldType.long)]
set_option maxRecDepth 65536 in
theorem codes_eq : words1.filter isCode = codes1 := rfl
theorem w_codes : ∀ c ∈ words1.filter isCode, c.before args0 about1 = true := by
  rw [codes_eq]
  intro c hc
  simp only [codes1, List.mem_cons, List.not_mem_nil, or_false] at hc
  rcases hc with rfl | rfl | rfl | rfl
  · exact w_c0
  · exact w_c1
  · exact w_c2
  · exact w_c3
set_option maxRecDepth 65536 in
theorem w_t1 : words1.all (fun c => isCode c || c.before args0 about1) = true := by decide +kernel
theorem w_tables : (allAtoms (Jvm.Cond.code x code maxLocals ret :: tables_1)).before args0 about1 = true := by
  rw [allAtoms_all]
  show words1.all (fun c => c.before args0 about1) = true
  refine all_split ?_ w_codes
  rw [w_t1]
set_option maxRecDepth 65536 in
theorem w_case : (Jvm.Cond.and given_1 narrow_1).before args0 about1 = true := by decide +kernel
theorem w_applies : (headSpec (Jvm.Cond.code x code maxLocals ret :: tables_1) room_1).applies x e0.platform about1 = true :=
  (Spec.applies_iff w_frames).mpr ⟨w_running, w_runnable, w_alone, w_named, w_hears, w_ripe, w_room, w_tables⟩
theorem atStart : AtStart classFile x code maxLocals ret World_1 tables_1 room_1 Calls_1 rest_1 Pre_1 launch0 p0 e0 about1 theMethod args0 below0 :=
  ⟨lists_1, trivial, launch0.admits_env _ _ _, launch0.least_env, fairChoices_fair.cas, fairChoices_fair.clock, w_frames, w_args, w_heap, w_applies, trivial, trivial, w_case⟩
end start1
theorem witness_1 : WitnessClaimed_1 := ⟨start1.p0, start1.e0, start1.about1, start1.theMethod, start1.args0, start1.below0, start1.atStart⟩
end Jvm.Pilot.@@N@@
