import JvmDerived
import JvmDerived.Pilot.@@N@@Statement
import JvmDerived.Pilot.@@N@@Code
set_option linter.unusedVariables false
set_option linter.unusedSimpArgs false
@@BLOCK:NumsL.lean.txt@@
namespace Jvm.RoadKit
open Sem ClassFile Op Lib Jvm.Stand Jvm.Free Jvm.LawKit
section New
variable {p : Program} {l : Launch} {e : Env} {R : Room} {s : State} {m : MethodId} {args : Array Value} {below : List Frame} {meth : Method} {c : Code} {T : State} {locs : List Loc} {cells slots : Nat}
theorem retI (X : Stand p l e R s m args below meth c T locs cells slots) (hx : p.tables.exec = Jvm.exec) {pc : Nat} {Ls : Array Slot} {z : Int32} {rest : List Value} (hret : meth.sig.returnType = some .int) (hd : decode c.code pc = .ok (.ireturn, 1)) {fs : List Frame}
    (hl : ∀ (f : JFrame) (acts : List Action), f.method = m → f.locked = none → f.entered = [] → (doReturn e (T.setTop f) acts (some (.int z))).1 = T.setFrames fs) : Steps p.tables e below (T.setTop (mkF m pc Ls (.int z :: rest))) (T.setFrames fs) := by
  have hm' : T.vm.method? m = some meth := X.method'
  have hn : narrow .int (.int z) = .int z := rfl
  show Steps p.tables e below (T.setTop { method := m, pc := pc, locals := Ls, stack := _ :: rest, locked := none }) _
  jvm_step X.here [X.here.top, hx, hd, hm', hret, hn]
  first | (intro acts; rw [hl _ acts rfl rfl rfl]) | rw [hl _ _ rfl rfl rfl]
  exact Steps.refl _
end New
end Jvm.RoadKit
namespace Jvm.Pilot.@@N@@
open Jvm Jvm.ClassFile Sem Op Lib Jvm.Free Jvm.Stand Jvm.LawKit Jvm.RoadKit Bundle Jvm.Pilot.@@N@@.Jvm.D
theorem own_sa {Z : State} {a0 : Array Value} (hw : ∀ d ∈ tables_1, d.before a0 Z = true) : ∀ a ∈ Bundle.stringAtoms, a.before a0 Z = true := by
  intro d hd
  simp only [Bundle.stringAtoms, List.mem_cons, List.not_mem_nil, or_false] at hd
  rcases hd with rfl | rfl | rfl | rfl | rfl | rfl | rfl
  · exact (hw _ (List.mem_of_getElem? (i := 18) rfl))
  · exact (hw _ (List.mem_of_getElem? (i := 19) rfl))
  · exact (hw _ (List.mem_of_getElem? (i := 0) rfl))
  · exact (hw _ (List.mem_of_getElem? (i := 20) rfl))
  · exact (hw _ (List.mem_of_getElem? (i := 21) rfl))
  · exact (hw _ (List.mem_of_getElem? (i := 22) rfl))
  · exact (hw _ (List.mem_of_getElem? (i := 23) rfl))
theorem own_StaKeep {Z : State} {h h' : Heap} {C n d : String} {v : Value} {ws : List Addr} (F : Sta Z h C n d v) (K : Keep h h' ws) (q : ∀ x ∈ ws, ∃ D, Exa Z h x D) : Sta Z h' C n d v := by
  obtain ⟨cf, i, k, f, st, cell, h1, h2, h3, h4, h5, h6, h7⟩ := F
  refine ⟨cf, i, k, f, st, cell, h1, h2, h3, h4, K.2.1 st cell h5 (fun hm => ?_), h6, h7⟩
  obtain ⟨D, c', k', e1, -, -, e4, -⟩ := q st hm
  cases h5.symm.trans e1
  rw [e4] at h6; cases h6
theorem own_selp {s : State} {args args' : Array Value} {y w : MethodName} (hsel : (Jvm.Cond.selects w.cls w w).before args' s = true) (e : w.cls = y.cls) (hp : s.PrivateAt y) (hinst : (Jvm.Cond.instanceMethod y).before args s = true) (hy : y.cls ≠ "java/lang/invoke/MethodHandle" ∧ y.cls ≠ "java/lang/invoke/VarHandle") : (Jvm.Cond.selects y.cls y y).before args s = true := by
  obtain ⟨c2, r2, m2, q1, q2, q3, q4, kP, hkP, hkPi⟩ := Cond.selects_spec hsel
  have hc := findClass_of_methodNamed q3
  rw [e] at hc
  exact Stand.selects_self_of_private hc hkP hkPi hp hinst hy
def own_at (vl : List Int32) (j : Int32) : Int32 := vl.getD j.toNatClampNeg 0
theorem own_atv (vl : List Int32) (j : Int32) : (vl.map Value.int).getD j.toNatClampNeg (.int (0 : Int32)) = .int (own_at vl j) := by
  unfold own_at
  simp only [List.getD_eq_getElem?_getD, List.getElem?_map]
  cases vl[j.toNatClampNeg]? <;> rfl
theorem d1_0 : decode method_2_code 0 = .ok (.iload_n 0, 1) := by decide +kernel
theorem d1_1 : decode method_2_code 1 = .ok (.iconst 3, 1) := by decide +kernel
theorem d1_2 : decode method_2_code 2 = .ok (.iand, 1) := by decide +kernel
theorem d1_3 : decode method_2_code 3 = .ok (.istore_n 1, 1) := by decide +kernel
theorem d1_4 : decode method_2_code 4 = .ok (.iload_n 1, 1) := by decide +kernel
theorem d1_5 : decode method_2_code 5 = .ok (.ifCond .ne 6, 3) := by decide +kernel
theorem d1_8 : decode method_2_code 8 = .ok (.bipush 97, 2) := by decide +kernel
theorem d1_10 : decode method_2_code 10 = .ok (.ireturn, 1) := by decide +kernel
theorem d1_11 : decode method_2_code 11 = .ok (.iload_n 1, 1) := by decide +kernel
theorem d1_12 : decode method_2_code 12 = .ok (.iconst 1, 1) := by decide +kernel
theorem d1_13 : decode method_2_code 13 = .ok (.if_icmp .ne 6, 3) := by decide +kernel
theorem d1_16 : decode method_2_code 16 = .ok (.bipush 13, 2) := by decide +kernel
theorem d1_18 : decode method_2_code 18 = .ok (.ireturn, 1) := by decide +kernel
theorem d1_19 : decode method_2_code 19 = .ok (.iload_n 1, 1) := by decide +kernel
theorem d1_20 : decode method_2_code 20 = .ok (.iconst 2, 1) := by decide +kernel
theorem d1_21 : decode method_2_code 21 = .ok (.if_icmp .ne 6, 3) := by decide +kernel
theorem d1_24 : decode method_2_code 24 = .ok (.bipush 10, 2) := by decide +kernel
theorem d1_26 : decode method_2_code 26 = .ok (.ireturn, 1) := by decide +kernel
theorem d1_27 : decode method_2_code 27 = .ok (.bipush (-128), 2) := by decide +kernel
theorem d1_29 : decode method_2_code 29 = .ok (.ireturn, 1) := by decide +kernel
theorem pn_0 : plainName "querent/hl7/LineReaderKeepFromNextPinLaw" = true := by first | (simp [plainName, overriddenIn]; done) | decide +kernel
theorem ef_1 (m : MethodId) (p1 : Int32) : entryFrame m #[(.int p1)] 2 = mkF m 0 #[.val (.int p1), .unset] [] := by first | (simp [entryFrame, mkF, argsToLocals, Value.category]; done) | rfl
def F1 (p1 : Int32) : Int32 := (if (p1 &&& (3 : Int32)) = (0 : Int32) then (97 : Int32) else (if (p1 &&& (3 : Int32)) = (1 : Int32) then (13 : Int32) else (if (p1 &&& (3 : Int32)) = (2 : Int32) then (10 : Int32) else (-128 : Int32))))
def Q1 (Z : State) (p1 : Int32) (h0 : Heap) (n0 : Nat) (v : Option Value) (h : Heap) (L : List Loc) : Prop := v = some (.int (F1 p1)) ∧ Fr n0 L ∧ h = h0
set_option maxRecDepth 65536 in
set_option maxHeartbeats 40000000 in
theorem rm1 (l : Launch) (Z : State) (a0 : Array Value) (hw : ∀ d ∈ tables_1, d.before a0 Z = true) (ws : List Jvm.Cond) (p1 : Int32) (h0 : Heap) (n0 : Nat) (Z0 : n0 ≤ h0.size) :
    MetFree l (⟨"querent/hl7/LineReaderKeepFromNextPinLaw", "pick", "(I)B"⟩ : MethodName) (head1 (Jvm.Cond.code (⟨"querent/hl7/LineReaderKeepFromNextPinLaw", "pick", "(I)B"⟩ : MethodName) method_2_code 2 (some .byte) :: ws) ({ frames := 0, cells := 0, slots := 0, locals := 0 } : Room)) (fun a U => a = #[(.int p1)] ∧ Z.Warmed39 U.vm ∧ U.heap = h0) (fun _ _ _ _ _ => True) (fun _ U o U' => ∃ v L, o = .returned v ∧ Q1 Z p1 h0 n0 v U'.heap L ∧ FrameEnd U o U' L ({ frames := 0, cells := 0, slots := 0, locals := 0 } : Room).cells ({ frames := 0, cells := 0, slots := 0, locals := 0 } : Room).slots) := by
  refine MetFree.of_bodySF (plainFor_of_name pn_0) hisR ?_
  intro p e s m args below meth c s₁ Bd hml0 hP hK
  obtain ⟨rfl, hZ, hh⟩ := hP
  have hx := Bd.exec
  have hby := Bd.bytes
  have hml : c.maxLocals = 2 := hml0
  have hown : s.vm.findClass "querent/hl7/LineReaderKeepFromNextPinLaw" = some m.cls := findClass_of_methodNamed Bd.named
  have hnm := (name_of_methodNamed Bd.named Bd.method).1
  have X0 : Stand p l e ({ frames := 0, cells := 0, slots := 0, locals := 0 } : Room) s m #[(.int p1)] below meth c s₁ [] 0 0 := Stand.of_body Bd
  have e0 : s₁.heap = h0 := by rw [← hh, Bd.state]; rfl
  have N0 := Fr.nil n0
  have pre0 : ∀ t, Steps p.tables e below (s₁.setTop (mkF m 0 #[.val (.int p1), .unset] [])) t → Steps p.tables e below (s₁.setTop (entryFrame m #[(.int p1)] 2)) t := fun t k => castTop (ef_1 m p1) k
  have pre3 : ∀ t, Steps p.tables e below (s₁.setTop (mkF m 5 #[.val (.int p1), .val (.int (p1 &&& (3 : Int32)))] [(.int (p1 &&& (3 : Int32)))])) t → Steps p.tables e below (s₁.setTop (entryFrame m #[(.int p1)] 2)) t := fun t kt => pre0 t (by
    show Steps p.tables e below (s₁.setTop (mkF m 0 #[.val (.int p1), .unset] [])) _
    refine XS.iloadN X0.here hx rfl (hb hby d1_0) rfl ?_
    show Steps p.tables e below (s₁.setTop (mkF m 1 #[.val (.int p1), .unset] [(.int p1)])) _
    refine XS.iconst X0.here hx rfl (hb hby d1_1) ?_
    show Steps p.tables e below (s₁.setTop (mkF m 2 #[.val (.int p1), .unset] [(.int (3 : Int32)), (.int p1)])) _
    refine XS.iand X0.here hx rfl (hb hby d1_2) rfl ?_
    show Steps p.tables e below (s₁.setTop (mkF m 3 #[.val (.int p1), .unset] [(.int (p1 &&& (3 : Int32)))])) _
    refine XS.istoreN X0.here hx rfl (hb hby d1_3) rfl (l' := #[.val (.int p1), .val (.int (p1 &&& (3 : Int32)))]) rfl ?_
    show Steps p.tables e below (s₁.setTop (mkF m 4 #[.val (.int p1), .val (.int (p1 &&& (3 : Int32)))] [])) _
    refine XS.iloadN X0.here hx rfl (hb hby d1_4) rfl ?_
    show Steps p.tables e below (s₁.setTop (mkF m 5 #[.val (.int p1), .val (.int (p1 &&& (3 : Int32)))] [(.int (p1 &&& (3 : Int32)))])) _
    exact kt)
  by_cases hc5_2 : (p1 &&& (3 : Int32)) = (0 : Int32)
  · obtain ⟨fs, hr, hrun, hended, hW, hsame⟩ := X0.leave (v := some (.int (97 : Int32))) (fun h => by rw [Bd.returns] at h; cases h)
    refine ⟨_, _, pre3 _ ?_, hrun, hended, _, _, rfl, ?_, ⟨_, rfl⟩, hW, hsame.mono (by decide) (by decide)⟩
    · show Steps p.tables e below (s₁.setTop (mkF m 5 #[.val (.int p1), .val (.int (p1 &&& (3 : Int32)))] [(.int (p1 &&& (3 : Int32)))])) _
      refine XS.ifNo X0.here hx rfl (hb hby d1_5) rfl ((if0 _ _).trans (teq hc5_2).2) ?_
      show Steps p.tables e below (s₁.setTop (mkF m 8 #[.val (.int p1), .val (.int (p1 &&& (3 : Int32)))] [])) _
      refine XS.bipush X0.here hx rfl (hb hby d1_8) ?_
      show Steps p.tables e below (s₁.setTop (mkF m 10 #[.val (.int p1), .val (.int (p1 &&& (3 : Int32)))] [(.int (97 : Int32))])) _
      exact retN X0 hx (t := .byte) Bd.returns (by simp) (hb hby d1_10) hr
    · show Q1 Z p1 h0 n0 _ s₁.heap _
      rw [e0]
      have qr : F1 p1 = (97 : Int32) := by unfold F1; rw [if_pos hc5_2]
      exact ⟨(by rw [qr]), N0, rfl⟩
  · have pre5 : ∀ t, Steps p.tables e below (s₁.setTop (mkF m 13 #[.val (.int p1), .val (.int (p1 &&& (3 : Int32)))] [(.int (1 : Int32)), (.int (p1 &&& (3 : Int32)))])) t → Steps p.tables e below (s₁.setTop (entryFrame m #[(.int p1)] 2)) t := fun t kt => pre3 t (by
      show Steps p.tables e below (s₁.setTop (mkF m 5 #[.val (.int p1), .val (.int (p1 &&& (3 : Int32)))] [(.int (p1 &&& (3 : Int32)))])) _
      refine XS.ifYes X0.here hx rfl (pc0 := 5) (pc' := 11) rfl (hb hby d1_5) rfl ((if0 _ _).trans (feq hc5_2).2) (by decide) (by decide) ?_
      show Steps p.tables e below (s₁.setTop (mkF m 11 #[.val (.int p1), .val (.int (p1 &&& (3 : Int32)))] [])) _
      refine XS.iloadN X0.here hx rfl (hb hby d1_11) rfl ?_
      show Steps p.tables e below (s₁.setTop (mkF m 12 #[.val (.int p1), .val (.int (p1 &&& (3 : Int32)))] [(.int (p1 &&& (3 : Int32)))])) _
      refine XS.iconst X0.here hx rfl (hb hby d1_12) ?_
      show Steps p.tables e below (s₁.setTop (mkF m 13 #[.val (.int p1), .val (.int (p1 &&& (3 : Int32)))] [(.int (1 : Int32)), (.int (p1 &&& (3 : Int32)))])) _
      exact kt)
    by_cases hc13_4 : (p1 &&& (3 : Int32)) = (1 : Int32)
    · obtain ⟨fs, hr, hrun, hended, hW, hsame⟩ := X0.leave (v := some (.int (13 : Int32))) (fun h => by rw [Bd.returns] at h; cases h)
      refine ⟨_, _, pre5 _ ?_, hrun, hended, _, _, rfl, ?_, ⟨_, rfl⟩, hW, hsame.mono (by decide) (by decide)⟩
      · show Steps p.tables e below (s₁.setTop (mkF m 13 #[.val (.int p1), .val (.int (p1 &&& (3 : Int32)))] [(.int (1 : Int32)), (.int (p1 &&& (3 : Int32)))])) _
        refine XS.icmpNo X0.here hx rfl (hb hby d1_13) rfl (teq hc13_4).2 ?_
        show Steps p.tables e below (s₁.setTop (mkF m 16 #[.val (.int p1), .val (.int (p1 &&& (3 : Int32)))] [])) _
        refine XS.bipush X0.here hx rfl (hb hby d1_16) ?_
        show Steps p.tables e below (s₁.setTop (mkF m 18 #[.val (.int p1), .val (.int (p1 &&& (3 : Int32)))] [(.int (13 : Int32))])) _
        exact retN X0 hx (t := .byte) Bd.returns (by simp) (hb hby d1_18) hr
      · show Q1 Z p1 h0 n0 _ s₁.heap _
        rw [e0]
        have qr : F1 p1 = (13 : Int32) := by unfold F1; rw [if_neg hc5_2, if_pos hc13_4]
        exact ⟨(by rw [qr]), N0, rfl⟩
    · have pre7 : ∀ t, Steps p.tables e below (s₁.setTop (mkF m 21 #[.val (.int p1), .val (.int (p1 &&& (3 : Int32)))] [(.int (2 : Int32)), (.int (p1 &&& (3 : Int32)))])) t → Steps p.tables e below (s₁.setTop (entryFrame m #[(.int p1)] 2)) t := fun t kt => pre5 t (by
        show Steps p.tables e below (s₁.setTop (mkF m 13 #[.val (.int p1), .val (.int (p1 &&& (3 : Int32)))] [(.int (1 : Int32)), (.int (p1 &&& (3 : Int32)))])) _
        refine XS.icmpYes X0.here hx rfl (pc0 := 13) (pc' := 19) rfl (hb hby d1_13) rfl (feq hc13_4).2 (by decide) (by decide) ?_
        show Steps p.tables e below (s₁.setTop (mkF m 19 #[.val (.int p1), .val (.int (p1 &&& (3 : Int32)))] [])) _
        refine XS.iloadN X0.here hx rfl (hb hby d1_19) rfl ?_
        show Steps p.tables e below (s₁.setTop (mkF m 20 #[.val (.int p1), .val (.int (p1 &&& (3 : Int32)))] [(.int (p1 &&& (3 : Int32)))])) _
        refine XS.iconst X0.here hx rfl (hb hby d1_20) ?_
        show Steps p.tables e below (s₁.setTop (mkF m 21 #[.val (.int p1), .val (.int (p1 &&& (3 : Int32)))] [(.int (2 : Int32)), (.int (p1 &&& (3 : Int32)))])) _
        exact kt)
      by_cases hc21_6 : (p1 &&& (3 : Int32)) = (2 : Int32)
      · obtain ⟨fs, hr, hrun, hended, hW, hsame⟩ := X0.leave (v := some (.int (10 : Int32))) (fun h => by rw [Bd.returns] at h; cases h)
        refine ⟨_, _, pre7 _ ?_, hrun, hended, _, _, rfl, ?_, ⟨_, rfl⟩, hW, hsame.mono (by decide) (by decide)⟩
        · show Steps p.tables e below (s₁.setTop (mkF m 21 #[.val (.int p1), .val (.int (p1 &&& (3 : Int32)))] [(.int (2 : Int32)), (.int (p1 &&& (3 : Int32)))])) _
          refine XS.icmpNo X0.here hx rfl (hb hby d1_21) rfl (teq hc21_6).2 ?_
          show Steps p.tables e below (s₁.setTop (mkF m 24 #[.val (.int p1), .val (.int (p1 &&& (3 : Int32)))] [])) _
          refine XS.bipush X0.here hx rfl (hb hby d1_24) ?_
          show Steps p.tables e below (s₁.setTop (mkF m 26 #[.val (.int p1), .val (.int (p1 &&& (3 : Int32)))] [(.int (10 : Int32))])) _
          exact retN X0 hx (t := .byte) Bd.returns (by simp) (hb hby d1_26) hr
        · show Q1 Z p1 h0 n0 _ s₁.heap _
          rw [e0]
          have qr : F1 p1 = (10 : Int32) := by unfold F1; rw [if_neg hc5_2, if_neg hc13_4, if_pos hc21_6]
          exact ⟨(by rw [qr]), N0, rfl⟩
      · obtain ⟨fs, hr, hrun, hended, hW, hsame⟩ := X0.leave (v := some (.int (-128 : Int32))) (fun h => by rw [Bd.returns] at h; cases h)
        refine ⟨_, _, pre7 _ ?_, hrun, hended, _, _, rfl, ?_, ⟨_, rfl⟩, hW, hsame.mono (by decide) (by decide)⟩
        · show Steps p.tables e below (s₁.setTop (mkF m 21 #[.val (.int p1), .val (.int (p1 &&& (3 : Int32)))] [(.int (2 : Int32)), (.int (p1 &&& (3 : Int32)))])) _
          refine XS.icmpYes X0.here hx rfl (pc0 := 21) (pc' := 27) rfl (hb hby d1_21) rfl (feq hc21_6).2 (by decide) (by decide) ?_
          show Steps p.tables e below (s₁.setTop (mkF m 27 #[.val (.int p1), .val (.int (p1 &&& (3 : Int32)))] [])) _
          refine XS.bipush X0.here hx rfl (hb hby d1_27) ?_
          show Steps p.tables e below (s₁.setTop (mkF m 29 #[.val (.int p1), .val (.int (p1 &&& (3 : Int32)))] [(.int (-128 : Int32))])) _
          exact retN X0 hx (t := .byte) Bd.returns (by simp) (hb hby d1_29) hr
        · show Q1 Z p1 h0 n0 _ s₁.heap _
          rw [e0]
          have qr : F1 p1 = (-128 : Int32) := by unfold F1; rw [if_neg hc5_2, if_neg hc13_4, if_neg hc21_6]
          exact ⟨(by rw [qr]), N0, rfl⟩
theorem d4_0 : decode jdk_31_method_11_code 0 = .ok (.aload_n 0, 1) := by decide +kernel
theorem d4_1 : decode jdk_31_method_11_code 1 = .ok (.ifnonnull 12, 3) := by decide +kernel
theorem d4_13 : decode jdk_31_method_11_code 13 = .ok (.aload_n 0, 1) := by decide +kernel
theorem d4_14 : decode jdk_31_method_11_code 14 = .ok (.areturn, 1) := by decide +kernel
theorem pn_1 : plainName "java/util/Objects" = true := by first | (simp [plainName, overriddenIn]; done) | decide +kernel
theorem ef_4 (m : MethodId) (a1 : Addr) (a2 : Addr) : entryFrame m #[(.ref a1), (.ref a2)] 2 = mkF m 0 #[.val (.ref a1), .val (.ref a2)] [] := by first | (simp [entryFrame, mkF, argsToLocals, Value.category]; done) | rfl
def Q4 (Z : State) (a1 : Addr) (a2 : Addr) (h0 : Heap) (n0 : Nat) (v : Option Value) (h : Heap) (L : List Loc) : Prop := v = some (.ref a1) ∧ Fr n0 L ∧ h = h0
set_option maxRecDepth 65536 in
set_option maxHeartbeats 40000000 in
theorem rm4 (l : Launch) (Z : State) (a0 : Array Value) (hw : ∀ d ∈ tables_1, d.before a0 Z = true) (ws : List Jvm.Cond) (a1 : Addr) (a2 : Addr) (h0 : Heap) (n0 : Nat) (Z0 : n0 ≤ h0.size) :
    MetFree l (⟨"java/util/Objects", "requireNonNull", "(Ljava/lang/Object;Ljava/lang/String;)Ljava/lang/Object;"⟩ : MethodName) (head1 (Jvm.Cond.code (⟨"java/util/Objects", "requireNonNull", "(Ljava/lang/Object;Ljava/lang/String;)Ljava/lang/Object;"⟩ : MethodName) jdk_31_method_11_code 2 (some (.object "java/lang/Object")) :: ws) ({ frames := 0, cells := 0, slots := 0, locals := 0 } : Room)) (fun a U => a = #[(.ref a1), (.ref a2)] ∧ Z.Warmed39 U.vm ∧ U.heap = h0) (fun _ _ _ _ _ => True) (fun _ U o U' => ∃ v L, o = .returned v ∧ Q4 Z a1 a2 h0 n0 v U'.heap L ∧ FrameEnd U o U' L ({ frames := 0, cells := 0, slots := 0, locals := 0 } : Room).cells ({ frames := 0, cells := 0, slots := 0, locals := 0 } : Room).slots) := by
  refine MetFree.of_bodySF (plainFor_of_name pn_1) hisR ?_
  intro p e s m args below meth c s₁ Bd hml0 hP hK
  obtain ⟨rfl, hZ, hh⟩ := hP
  have hx := Bd.exec
  have hby := Bd.bytes
  have hml : c.maxLocals = 2 := hml0
  have hown : s.vm.findClass "java/util/Objects" = some m.cls := findClass_of_methodNamed Bd.named
  have hnm := (name_of_methodNamed Bd.named Bd.method).1
  have X0 : Stand p l e ({ frames := 0, cells := 0, slots := 0, locals := 0 } : Room) s m #[(.ref a1), (.ref a2)] below meth c s₁ [] 0 0 := Stand.of_body Bd
  have e0 : s₁.heap = h0 := by rw [← hh, Bd.state]; rfl
  have N0 := Fr.nil n0
  have pre0 : ∀ t, Steps p.tables e below (s₁.setTop (mkF m 0 #[.val (.ref a1), .val (.ref a2)] [])) t → Steps p.tables e below (s₁.setTop (entryFrame m #[(.ref a1), (.ref a2)] 2)) t := fun t k => castTop (ef_4 m a1 a2) k
  obtain ⟨fs, hr, hrun, hended, hW, hsame⟩ := X0.leave (v := some (.ref a1)) (fun h => by rw [Bd.returns] at h; cases h)
  refine ⟨_, _, pre0 _ ?_, hrun, hended, _, _, rfl, ?_, ⟨_, rfl⟩, hW, hsame.mono (by decide) (by decide)⟩
  · show Steps p.tables e below (s₁.setTop (mkF m 0 #[.val (.ref a1), .val (.ref a2)] [])) _
    refine XS.aloadN X0.here hx rfl (hb hby d4_0) rfl rfl ?_
    show Steps p.tables e below (s₁.setTop (mkF m 1 #[.val (.ref a1), .val (.ref a2)] [(.ref a1)])) _
    refine XS.ifnonnullYes X0.here hx rfl (pc0 := 1) (pc' := 13) rfl (hb hby d4_1) rfl (by decide) (by decide) ?_
    show Steps p.tables e below (s₁.setTop (mkF m 13 #[.val (.ref a1), .val (.ref a2)] [])) _
    refine XS.aloadN X0.here hx rfl (hb hby d4_13) rfl rfl ?_
    show Steps p.tables e below (s₁.setTop (mkF m 14 #[.val (.ref a1), .val (.ref a2)] [(.ref a1)])) _
    exact retOut X0 hx Bd.returns rfl (Or.inr (Or.inr (Or.inr (Or.inr ⟨rfl, rfl, rfl⟩)))) (hb hby d4_14) hr
  · show Q4 Z a1 a2 h0 n0 _ s₁.heap _
    rw [e0]
    exact ⟨rfl, N0, rfl⟩
theorem d6_0 : decode jdk_41_method_12_code 0 = .ok (.iload_n 0, 1) := by decide +kernel
theorem d6_1 : decode jdk_41_method_12_code 1 = .ok (.ifCond .lt 13, 3) := by decide +kernel
theorem d6_4 : decode jdk_41_method_12_code 4 = .ok (.iload_n 0, 1) := by decide +kernel
theorem d6_5 : decode jdk_41_method_12_code 5 = .ok (.iload_n 1, 1) := by decide +kernel
theorem d6_6 : decode jdk_41_method_12_code 6 = .ok (.if_icmp .gt 8, 3) := by decide +kernel
theorem d6_9 : decode jdk_41_method_12_code 9 = .ok (.iload_n 1, 1) := by decide +kernel
theorem d6_10 : decode jdk_41_method_12_code 10 = .ok (.iload_n 2, 1) := by decide +kernel
theorem d6_11 : decode jdk_41_method_12_code 11 = .ok (.if_icmp .le 11, 3) := by decide +kernel
theorem d6_22 : decode jdk_41_method_12_code 22 = .ok (.iload_n 0, 1) := by decide +kernel
theorem d6_23 : decode jdk_41_method_12_code 23 = .ok (.ireturn, 1) := by decide +kernel
theorem pn_2 : plainName "jdk/internal/util/Preconditions" = true := by first | (simp [plainName, overriddenIn]; done) | decide +kernel
theorem ef_6 (m : MethodId) (p1 : Int32) (p2 : Int32) (p3 : Int32) : entryFrame m #[(.int p1), (.int p2), (.int p3), .null] 4 = mkF m 0 #[.val (.int p1), .val (.int p2), .val (.int p3), .val .null] [] := by first | (simp [entryFrame, mkF, argsToLocals, Value.category]; done) | rfl
def Q6 (Z : State) (p1 : Int32) (p2 : Int32) (p3 : Int32) (h0 : Heap) (n0 : Nat) (v : Option Value) (h : Heap) (L : List Loc) : Prop := v = some (.int p1) ∧ Fr n0 L ∧ h = h0
set_option maxRecDepth 65536 in
set_option maxHeartbeats 40000000 in
theorem rm6 (l : Launch) (Z : State) (a0 : Array Value) (hw : ∀ d ∈ tables_1, d.before a0 Z = true) (ws : List Jvm.Cond) (p1 : Int32) (p2 : Int32) (p3 : Int32) (h0 : Heap) (n0 : Nat) (Z0 : n0 ≤ h0.size) (hc1 : ¬ (p1 < (0 : Int32))) (hc6 : ¬ (p2 < p1)) (hc11 : ¬ (p3 < p2)) :
    MetFree l (⟨"jdk/internal/util/Preconditions", "checkFromToIndex", "(IIILjava/util/function/BiFunction;)I"⟩ : MethodName) (head1 (Jvm.Cond.code (⟨"jdk/internal/util/Preconditions", "checkFromToIndex", "(IIILjava/util/function/BiFunction;)I"⟩ : MethodName) jdk_41_method_12_code 4 (some .int) :: ws) ({ frames := 0, cells := 0, slots := 0, locals := 0 } : Room)) (fun a U => a = #[(.int p1), (.int p2), (.int p3), .null] ∧ Z.Warmed39 U.vm ∧ U.heap = h0) (fun _ _ _ _ _ => True) (fun _ U o U' => ∃ v L, o = .returned v ∧ Q6 Z p1 p2 p3 h0 n0 v U'.heap L ∧ FrameEnd U o U' L ({ frames := 0, cells := 0, slots := 0, locals := 0 } : Room).cells ({ frames := 0, cells := 0, slots := 0, locals := 0 } : Room).slots) := by
  refine MetFree.of_bodySF (plainFor_of_name pn_2) hisR ?_
  intro p e s m args below meth c s₁ Bd hml0 hP hK
  obtain ⟨rfl, hZ, hh⟩ := hP
  have hx := Bd.exec
  have hby := Bd.bytes
  have hml : c.maxLocals = 4 := hml0
  have hown : s.vm.findClass "jdk/internal/util/Preconditions" = some m.cls := findClass_of_methodNamed Bd.named
  have hnm := (name_of_methodNamed Bd.named Bd.method).1
  have X0 : Stand p l e ({ frames := 0, cells := 0, slots := 0, locals := 0 } : Room) s m #[(.int p1), (.int p2), (.int p3), .null] below meth c s₁ [] 0 0 := Stand.of_body Bd
  have e0 : s₁.heap = h0 := by rw [← hh, Bd.state]; rfl
  have N0 := Fr.nil n0
  have pre0 : ∀ t, Steps p.tables e below (s₁.setTop (mkF m 0 #[.val (.int p1), .val (.int p2), .val (.int p3), .val .null] [])) t → Steps p.tables e below (s₁.setTop (entryFrame m #[(.int p1), (.int p2), (.int p3), .null] 4)) t := fun t k => castTop (ef_6 m p1 p2 p3) k
  obtain ⟨fs, hr, hrun, hended, hW, hsame⟩ := X0.leave (v := some (.int p1)) (fun h => by rw [Bd.returns] at h; cases h)
  refine ⟨_, _, pre0 _ ?_, hrun, hended, _, _, rfl, ?_, ⟨_, rfl⟩, hW, hsame.mono (by decide) (by decide)⟩
  · show Steps p.tables e below (s₁.setTop (mkF m 0 #[.val (.int p1), .val (.int p2), .val (.int p3), .val .null] [])) _
    refine XS.iloadN X0.here hx rfl (hb hby d6_0) rfl ?_
    show Steps p.tables e below (s₁.setTop (mkF m 1 #[.val (.int p1), .val (.int p2), .val (.int p3), .val .null] [(.int p1)])) _
    refine XS.ifNo X0.here hx rfl (hb hby d6_1) rfl ((if0 _ _).trans (flt hc1).1) ?_
    show Steps p.tables e below (s₁.setTop (mkF m 4 #[.val (.int p1), .val (.int p2), .val (.int p3), .val .null] [])) _
    refine XS.iloadN X0.here hx rfl (hb hby d6_4) rfl ?_
    show Steps p.tables e below (s₁.setTop (mkF m 5 #[.val (.int p1), .val (.int p2), .val (.int p3), .val .null] [(.int p1)])) _
    refine XS.iloadN X0.here hx rfl (hb hby d6_5) rfl ?_
    show Steps p.tables e below (s₁.setTop (mkF m 6 #[.val (.int p1), .val (.int p2), .val (.int p3), .val .null] [(.int p2), (.int p1)])) _
    refine XS.icmpNo X0.here hx rfl (hb hby d6_6) rfl (flt hc6).2.2.1 ?_
    show Steps p.tables e below (s₁.setTop (mkF m 9 #[.val (.int p1), .val (.int p2), .val (.int p3), .val .null] [])) _
    refine XS.iloadN X0.here hx rfl (hb hby d6_9) rfl ?_
    show Steps p.tables e below (s₁.setTop (mkF m 10 #[.val (.int p1), .val (.int p2), .val (.int p3), .val .null] [(.int p2)])) _
    refine XS.iloadN X0.here hx rfl (hb hby d6_10) rfl ?_
    show Steps p.tables e below (s₁.setTop (mkF m 11 #[.val (.int p1), .val (.int p2), .val (.int p3), .val .null] [(.int p3), (.int p2)])) _
    refine XS.icmpYes X0.here hx rfl (pc0 := 11) (pc' := 22) rfl (hb hby d6_11) rfl (flt hc11).2.2.2 (by decide) (by decide) ?_
    show Steps p.tables e below (s₁.setTop (mkF m 22 #[.val (.int p1), .val (.int p2), .val (.int p3), .val .null] [])) _
    refine XS.iloadN X0.here hx rfl (hb hby d6_22) rfl ?_
    show Steps p.tables e below (s₁.setTop (mkF m 23 #[.val (.int p1), .val (.int p2), .val (.int p3), .val .null] [(.int p1)])) _
    exact retI X0 hx Bd.returns (hb hby d6_23) hr
  · show Q6 Z p1 p2 p3 h0 n0 _ s₁.heap _
    rw [e0]
    exact ⟨rfl, N0, rfl⟩
theorem pd_0 : parseMethodDescriptor "(IIILjava/util/function/BiFunction;)I" = some ⟨[.int, .int, .int, (.object "java/util/function/BiFunction")], some .int⟩ := by decide +kernel
theorem d5_0 : decode jdk_31_method_18_code 0 = .ok (.iload_n 0, 1) := by decide +kernel
theorem d5_1 : decode jdk_31_method_18_code 1 = .ok (.iload_n 1, 1) := by decide +kernel
theorem d5_2 : decode jdk_31_method_18_code 2 = .ok (.iload_n 2, 1) := by decide +kernel
theorem d5_3 : decode jdk_31_method_18_code 3 = .ok (.aconst_null, 1) := by decide +kernel
theorem d5_4 : decode jdk_31_method_18_code 4 = .ok (.invokestatic 111, 3) := by decide +kernel
theorem d5_7 : decode jdk_31_method_18_code 7 = .ok (.ireturn, 1) := by decide +kernel
theorem ef_5 (m : MethodId) (p1 : Int32) (p2 : Int32) (p3 : Int32) : entryFrame m #[(.int p1), (.int p2), (.int p3)] 3 = mkF m 0 #[.val (.int p1), .val (.int p2), .val (.int p3)] [] := by first | (simp [entryFrame, mkF, argsToLocals, Value.category]; done) | rfl
def Q5 (Z : State) (p1 : Int32) (p2 : Int32) (p3 : Int32) (h0 : Heap) (n0 : Nat) (v : Option Value) (h : Heap) (L : List Loc) : Prop := v = some (.int p1) ∧ Fr n0 L ∧ h = h0
set_option maxRecDepth 65536 in
set_option maxHeartbeats 40000000 in
theorem rm5 (l : Launch) (Z : State) (a0 : Array Value) (hw : ∀ d ∈ tables_1, d.before a0 Z = true) (ws : List Jvm.Cond) (p1 : Int32) (p2 : Int32) (p3 : Int32) (h0 : Heap) (n0 : Nat) (Z0 : n0 ≤ h0.size) (hq4_0 : ¬ (p1 < (0 : Int32))) (hq4_1 : ¬ (p2 < p1)) (hq4_2 : ¬ (p3 < p2)) :
    MetFree l (⟨"java/util/Objects", "checkFromToIndex", "(III)I"⟩ : MethodName) (head1 (Jvm.Cond.code (⟨"java/util/Objects", "checkFromToIndex", "(III)I"⟩ : MethodName) jdk_31_method_18_code 3 (some .int) :: ws) ({ frames := 1, cells := 0, slots := 0, locals := 15 } : Room)) (fun a U => a = #[(.int p1), (.int p2), (.int p3)] ∧ Z.Warmed39 U.vm ∧ U.heap = h0) (fun _ _ _ _ _ => True) (fun _ U o U' => ∃ v L, o = .returned v ∧ Q5 Z p1 p2 p3 h0 n0 v U'.heap L ∧ FrameEnd U o U' L ({ frames := 1, cells := 0, slots := 0, locals := 15 } : Room).cells ({ frames := 1, cells := 0, slots := 0, locals := 15 } : Room).slots) := by
  refine MetFree.of_bodySF (plainFor_of_name pn_1) hisR ?_
  intro p e s m args below meth c s₁ Bd hml0 hP hK
  obtain ⟨rfl, hZ, hh⟩ := hP
  have hx := Bd.exec
  have hby := Bd.bytes
  have hml : c.maxLocals = 3 := hml0
  have hown : s.vm.findClass "java/util/Objects" = some m.cls := findClass_of_methodNamed Bd.named
  have hnm := (name_of_methodNamed Bd.named Bd.method).1
  have X0 : Stand p l e ({ frames := 1, cells := 0, slots := 0, locals := 15 } : Room) s m #[(.int p1), (.int p2), (.int p3)] below meth c s₁ [] 0 0 := Stand.of_body Bd
  have e0 : s₁.heap = h0 := by rw [← hh, Bd.state]; rfl
  have N0 := Fr.nil n0
  have pre0 : ∀ t, Steps p.tables e below (s₁.setTop (mkF m 0 #[.val (.int p1), .val (.int p2), .val (.int p3)] [])) t → Steps p.tables e below (s₁.setTop (entryFrame m #[(.int p1), (.int p2), (.int p3)] 3)) t := fun t k => castTop (ef_5 m p1 p2 p3) k
  obtain ⟨_, _, ⟨T4, L4, k4, n4⟩, -, X4, ⟨Lc4, hQ4, l4, y4, z4⟩, st4⟩ := Jvm.LawKit.callS X0 hx (y := (⟨"jdk/internal/util/Preconditions", "checkFromToIndex", "(IIILjava/util/function/BiFunction;)I"⟩ : MethodName)) hown (mvT hZ (hw _ (List.mem_of_getElem? (i := 32) rfl))) (mvT hZ (hw _ (List.mem_of_getElem? (i := 33) rfl))) (mvT hZ (hw _ (List.mem_of_getElem? (i := 34) rfl))) (mvT hZ (hw _ (List.mem_of_getElem? (i := 35) rfl))) (by decide) (backOf (W := 0) (rm6 l Z a0 hw [] p1 p2 p3 h0 n0 Z0 hq4_0 hq4_1 hq4_2) hZ (hw _ (List.mem_of_getElem? (i := 35) rfl)) (hw _ (List.mem_of_getElem? (i := 34) rfl)) (by decide) (by decide)) (g := (mkF m 4 #[.val (.int p1), .val (.int p2), .val (.int p3)] [.null, (.int p3), (.int p2), (.int p1)])) rfl (by rw [hml]; rfl) (argsL := [(.int p1), (.int p2), (.int p3), .null]) (rest := []) (lenOf pd_0 rfl) rfl (by show 2 * 0 + _ ≤ _; exact Nat.le_of_eq rfl) (hb hby d5_4) (fun _ _ => ⟨rfl, e0, (by decide : 0 + 0 ≤ _), (by decide : 0 + 0 ≤ _)⟩)
  dsimp only [Pt.U, Pt.locs, Pt.cells, Pt.slots] at X4 l4 y4 z4 st4 hQ4
  subst l4 y4 z4
  obtain ⟨rfl, N4q, e4⟩ := hQ4
  have N4 := Fr.app N0 N4q
  obtain ⟨fs, hr, hrun, hended, hW, hsame⟩ := X4.leave (v := some (.int p1)) (fun h => by rw [Bd.returns] at h; cases h)
  refine ⟨_, _, pre0 _ ?_, hrun, hended, _, _, rfl, ?_, ⟨_, rfl⟩, hW, hsame.mono (by decide) (by decide)⟩
  · show Steps p.tables e below (s₁.setTop (mkF m 0 #[.val (.int p1), .val (.int p2), .val (.int p3)] [])) _
    refine XS.iloadN X0.here hx rfl (hb hby d5_0) rfl ?_
    show Steps p.tables e below (s₁.setTop (mkF m 1 #[.val (.int p1), .val (.int p2), .val (.int p3)] [(.int p1)])) _
    refine XS.iloadN X0.here hx rfl (hb hby d5_1) rfl ?_
    show Steps p.tables e below (s₁.setTop (mkF m 2 #[.val (.int p1), .val (.int p2), .val (.int p3)] [(.int p2), (.int p1)])) _
    refine XS.iloadN X0.here hx rfl (hb hby d5_2) rfl ?_
    show Steps p.tables e below (s₁.setTop (mkF m 3 #[.val (.int p1), .val (.int p2), .val (.int p3)] [(.int p3), (.int p2), (.int p1)])) _
    refine XS.aconstNull X0.here hx rfl (hb hby d5_3) ?_
    show Steps p.tables e below (s₁.setTop (mkF m 4 #[.val (.int p1), .val (.int p2), .val (.int p3)] [.null, (.int p3), (.int p2), (.int p1)])) _
    refine st4 _ ?_
    show Steps p.tables e below (T4.setTop (mkF m 7 #[.val (.int p1), .val (.int p2), .val (.int p3)] [(.int p1)])) _
    exact retI X4 hx Bd.returns (hb hby d5_7) hr
  · show Q5 Z p1 p2 p3 h0 n0 _ T4.heap _
    rw [e4]
    exact ⟨rfl, N4, rfl⟩
theorem pd_1 : parseMethodDescriptor "(Ljava/lang/Object;Ljava/lang/String;)Ljava/lang/Object;" = some ⟨[(.object "java/lang/Object"), (.object "java/lang/String")], some (.object "java/lang/Object")⟩ := by decide +kernel
theorem pd_2 : parseMethodDescriptor "(III)I" = some ⟨[.int, .int, .int], some .int⟩ := by decide +kernel
theorem d2_0 : decode prog_132_method_2_code 0 = .ok (.aload_n 0, 1) := by decide +kernel
theorem d2_1 : decode prog_132_method_2_code 1 = .ok (.invokespecial 3, 3) := by decide +kernel
theorem d2_4 : decode prog_132_method_2_code 4 = .ok (.aload_n 1, 1) := by decide +kernel
theorem d2_5 : decode prog_132_method_2_code 5 = .ok (.ldc 48, 2) := by decide +kernel
theorem d2_7 : decode prog_132_method_2_code 7 = .ok (.invokestatic 11, 3) := by decide +kernel
theorem d2_10 : decode prog_132_method_2_code 10 = .ok (.pop, 1) := by decide +kernel
theorem d2_11 : decode prog_132_method_2_code 11 = .ok (.aload 4, 2) := by decide +kernel
theorem d2_13 : decode prog_132_method_2_code 13 = .ok (.ldc 17, 2) := by decide +kernel
theorem d2_15 : decode prog_132_method_2_code 15 = .ok (.invokestatic 11, 3) := by decide +kernel
theorem d2_18 : decode prog_132_method_2_code 18 = .ok (.pop, 1) := by decide +kernel
theorem d2_19 : decode prog_132_method_2_code 19 = .ok (.iload_n 2, 1) := by decide +kernel
theorem d2_20 : decode prog_132_method_2_code 20 = .ok (.iload_n 3, 1) := by decide +kernel
theorem d2_21 : decode prog_132_method_2_code 21 = .ok (.aload_n 1, 1) := by decide +kernel
theorem d2_22 : decode prog_132_method_2_code 22 = .ok (.arraylength, 1) := by decide +kernel
theorem d2_23 : decode prog_132_method_2_code 23 = .ok (.invokestatic 50, 3) := by decide +kernel
theorem d2_26 : decode prog_132_method_2_code 26 = .ok (.pop, 1) := by decide +kernel
theorem d2_27 : decode prog_132_method_2_code 27 = .ok (.aload_n 0, 1) := by decide +kernel
theorem d2_28 : decode prog_132_method_2_code 28 = .ok (.aconst_null, 1) := by decide +kernel
theorem d2_29 : decode prog_132_method_2_code 29 = .ok (.putfield 28, 3) := by decide +kernel
theorem d2_32 : decode prog_132_method_2_code 32 = .ok (.aload_n 0, 1) := by decide +kernel
theorem d2_33 : decode prog_132_method_2_code 33 = .ok (.aload_n 1, 1) := by decide +kernel
theorem d2_34 : decode prog_132_method_2_code 34 = .ok (.putfield 34, 3) := by decide +kernel
theorem d2_37 : decode prog_132_method_2_code 37 = .ok (.aload_n 0, 1) := by decide +kernel
theorem d2_38 : decode prog_132_method_2_code 38 = .ok (.aload 4, 2) := by decide +kernel
theorem d2_40 : decode prog_132_method_2_code 40 = .ok (.getstatic 38, 3) := by decide +kernel
theorem d2_43 : decode prog_132_method_2_code 43 = .ok (.if_acmp .ne 7, 3) := by decide +kernel
theorem d2_46 : decode prog_132_method_2_code 46 = .ok (.iconst 1, 1) := by decide +kernel
theorem d2_47 : decode prog_132_method_2_code 47 = .ok (.goto 4, 3) := by decide +kernel
theorem d2_50 : decode prog_132_method_2_code 50 = .ok (.iconst 0, 1) := by decide +kernel
theorem d2_51 : decode prog_132_method_2_code 51 = .ok (.putfield 44, 3) := by decide +kernel
theorem d2_54 : decode prog_132_method_2_code 54 = .ok (.aload_n 0, 1) := by decide +kernel
theorem d2_55 : decode prog_132_method_2_code 55 = .ok (.iload_n 2, 1) := by decide +kernel
theorem d2_56 : decode prog_132_method_2_code 56 = .ok (.ineg, 1) := by decide +kernel
theorem d2_57 : decode prog_132_method_2_code 57 = .ok (.i2l, 1) := by decide +kernel
theorem d2_58 : decode prog_132_method_2_code 58 = .ok (.putfield 54, 3) := by decide +kernel
theorem d2_61 : decode prog_132_method_2_code 61 = .ok (.aload_n 0, 1) := by decide +kernel
theorem d2_62 : decode prog_132_method_2_code 62 = .ok (.iload_n 3, 1) := by decide +kernel
theorem d2_63 : decode prog_132_method_2_code 63 = .ok (.putfield 58, 3) := by decide +kernel
theorem d2_66 : decode prog_132_method_2_code 66 = .ok (.aload_n 0, 1) := by decide +kernel
theorem d2_67 : decode prog_132_method_2_code 67 = .ok (.iload_n 2, 1) := by decide +kernel
theorem d2_68 : decode prog_132_method_2_code 68 = .ok (.putfield 62, 3) := by decide +kernel
theorem d2_71 : decode prog_132_method_2_code 71 = .ok (.aload_n 0, 1) := by decide +kernel
theorem d2_72 : decode prog_132_method_2_code 72 = .ok (.iload_n 2, 1) := by decide +kernel
theorem d2_73 : decode prog_132_method_2_code 73 = .ok (.putfield 65, 3) := by decide +kernel
theorem d2_76 : decode prog_132_method_2_code 76 = .ok (.aload_n 0, 1) := by decide +kernel
theorem d2_77 : decode prog_132_method_2_code 77 = .ok (.iload_n 2, 1) := by decide +kernel
theorem d2_78 : decode prog_132_method_2_code 78 = .ok (.putfield 68, 3) := by decide +kernel
theorem d2_81 : decode prog_132_method_2_code 81 = .ok (.return_, 1) := by decide +kernel
theorem pn_3 : plainName "querent/hl7/LineReader" = true := by first | (simp [plainName, overriddenIn]; done) | decide +kernel
theorem ef_2 (m : MethodId) (a1 : Addr) (a2 : Addr) (p3 : Int32) (p4 : Int32) (a5 : Addr) : entryFrame m #[(.ref a1), (.ref a2), (.int p3), (.int p4), (.ref a5)] 5 = mkF m 0 #[.val (.ref a1), .val (.ref a2), .val (.int p3), .val (.int p4), .val (.ref a5)] [] := by first | (simp [entryFrame, mkF, argsToLocals, Value.category]; done) | rfl
def F2_carriageReturnEnds_a1 (a5 : Addr) (st_CARRIAGE_RETURN_OR_LINE_FEED : Addr) : Int32 := (if a5 = st_CARRIAGE_RETURN_OR_LINE_FEED then (1 : Int32) else (0 : Int32))
def Q2 (Z : State) (a1 : Addr) (a2 : Addr) (p3 : Int32) (p4 : Int32) (a5 : Addr) (w_carriageReturnEnds_a1 : Int32) (w_base_a1 : Int64) (w_limit_a1 : Int32) (w_start_a1 : Int32) (w_end_a1 : Int32) (w_next_a1 : Int32) (w_keeping_a1 : Int32) (w_kept_a1 : Int32) (w_ended_a1 : Int32) (w_afterCarriageReturn_a1 : Int32) (w_number_a1 : Int32) (k_a2 : ClassId) (vl_a2 : List Int32) (st_CARRIAGE_RETURN_OR_LINE_FEED : Addr) (h0 : Heap) (n0 : Nat) (v : Option Value) (h : Heap) (L : List Loc) : Prop := v = none ∧ Fr n0 L ∧ Keep h0 h [a1] ∧ Exa Z h a1 "querent/hl7/LineReader" ∧ Fld Z h a1 "querent/hl7/LineReader" "in" "Ljava/io/InputStream;" .null ∧ Fld Z h a1 "querent/hl7/LineReader" "block" "[B" (.ref a2) ∧ Fld Z h a1 "querent/hl7/LineReader" "carriageReturnEnds" "Z" (.int (F2_carriageReturnEnds_a1 a5 st_CARRIAGE_RETURN_OR_LINE_FEED)) ∧ Fld Z h a1 "querent/hl7/LineReader" "base" "J" (.long ((-p3).toInt64)) ∧ Fld Z h a1 "querent/hl7/LineReader" "limit" "I" (.int p4) ∧ Fld Z h a1 "querent/hl7/LineReader" "start" "I" (.int p3) ∧ Fld Z h a1 "querent/hl7/LineReader" "end" "I" (.int p3) ∧ Fld Z h a1 "querent/hl7/LineReader" "next" "I" (.int p3) ∧ Fld Z h a1 "querent/hl7/LineReader" "keeping" "Z" (.int w_keeping_a1) ∧ Fld Z h a1 "querent/hl7/LineReader" "kept" "I" (.int w_kept_a1) ∧ Fld Z h a1 "querent/hl7/LineReader" "ended" "Z" (.int w_ended_a1) ∧ Fld Z h a1 "querent/hl7/LineReader" "afterCarriageReturn" "Z" (.int w_afterCarriageReturn_a1) ∧ Fld Z h a1 "querent/hl7/LineReader" "number" "I" (.int w_number_a1)
set_option maxRecDepth 65536 in
set_option maxHeartbeats 40000000 in
theorem rm2 (l : Launch) (Z : State) (a0 : Array Value) (hw : ∀ d ∈ tables_1, d.before a0 Z = true) (ws : List Jvm.Cond) (a1 : Addr) (a2 : Addr) (p3 : Int32) (p4 : Int32) (a5 : Addr) (w_carriageReturnEnds_a1 : Int32) (w_base_a1 : Int64) (w_limit_a1 : Int32) (w_start_a1 : Int32) (w_end_a1 : Int32) (w_next_a1 : Int32) (w_keeping_a1 : Int32) (w_kept_a1 : Int32) (w_ended_a1 : Int32) (w_afterCarriageReturn_a1 : Int32) (w_number_a1 : Int32) (k_a2 : ClassId) (vl_a2 : List Int32) (st_CARRIAGE_RETURN_OR_LINE_FEED : Addr) (h0 : Heap) (n0 : Nat) (Z0 : n0 ≤ h0.size) (E_a1 : Exa Z h0 a1 "querent/hl7/LineReader") (F_in_a1 : Fld Z h0 a1 "querent/hl7/LineReader" "in" "Ljava/io/InputStream;" .null) (F_block_a1 : Fld Z h0 a1 "querent/hl7/LineReader" "block" "[B" .null) (F_carriageReturnEnds_a1 : Fld Z h0 a1 "querent/hl7/LineReader" "carriageReturnEnds" "Z" (.int w_carriageReturnEnds_a1)) (F_base_a1 : Fld Z h0 a1 "querent/hl7/LineReader" "base" "J" (.long w_base_a1)) (F_limit_a1 : Fld Z h0 a1 "querent/hl7/LineReader" "limit" "I" (.int w_limit_a1)) (F_start_a1 : Fld Z h0 a1 "querent/hl7/LineReader" "start" "I" (.int w_start_a1)) (F_end_a1 : Fld Z h0 a1 "querent/hl7/LineReader" "end" "I" (.int w_end_a1)) (F_next_a1 : Fld Z h0 a1 "querent/hl7/LineReader" "next" "I" (.int w_next_a1)) (F_keeping_a1 : Fld Z h0 a1 "querent/hl7/LineReader" "keeping" "Z" (.int w_keeping_a1)) (F_kept_a1 : Fld Z h0 a1 "querent/hl7/LineReader" "kept" "I" (.int w_kept_a1)) (F_ended_a1 : Fld Z h0 a1 "querent/hl7/LineReader" "ended" "Z" (.int w_ended_a1)) (F_afterCarriageReturn_a1 : Fld Z h0 a1 "querent/hl7/LineReader" "afterCarriageReturn" "Z" (.int w_afterCarriageReturn_a1)) (F_number_a1 : Fld Z h0 a1 "querent/hl7/LineReader" "number" "I" (.int w_number_a1)) (V_a2 : Arv Z h0 a2 k_a2 .byte (6 : Int32) (vl_a2.map Value.int) (.int (0 : Int32))) (S_CARRIAGE_RETURN_OR_LINE_FEED : Sta Z h0 "querent/hl7/LineReader$Ends" "CARRIAGE_RETURN_OR_LINE_FEED" "Lquerent/hl7/LineReader$Ends;" (.ref st_CARRIAGE_RETURN_OR_LINE_FEED)) (hq23_16 : ¬ (p3 < (0 : Int32))) (hq23_17 : ¬ (p4 < p3)) (hq23_18 : ¬ ((6 : Int32) < p4)) (g_a1 : n0 ≤ a1) (ne_a2_a1 : a2 ≠ a1) :
    MetFree l (⟨"querent/hl7/LineReader", "<init>", "([BIILquerent/hl7/LineReader$Ends;)V"⟩ : MethodName) (head1 (Jvm.Cond.code (⟨"querent/hl7/LineReader", "<init>", "([BIILquerent/hl7/LineReader$Ends;)V"⟩ : MethodName) prog_132_method_2_code 5 none :: ws) ({ frames := 2, cells := 4, slots := 196, locals := 29 } : Room)) (fun a U => a = #[(.ref a1), (.ref a2), (.int p3), (.int p4), (.ref a5)] ∧ Z.Warmed39 U.vm ∧ U.heap = h0) (fun _ _ _ _ _ => True) (fun _ U o U' => ∃ v L, o = .returned v ∧ Q2 Z a1 a2 p3 p4 a5 w_carriageReturnEnds_a1 w_base_a1 w_limit_a1 w_start_a1 w_end_a1 w_next_a1 w_keeping_a1 w_kept_a1 w_ended_a1 w_afterCarriageReturn_a1 w_number_a1 k_a2 vl_a2 st_CARRIAGE_RETURN_OR_LINE_FEED h0 n0 v U'.heap L ∧ ReturnedEndW U o U' L ({ frames := 2, cells := 4, slots := 196, locals := 29 } : Room).cells ({ frames := 2, cells := 4, slots := 196, locals := 29 } : Room).slots) := by
  refine MetFree.of_bodySF (plainFor_of_name pn_3) hisR ?_
  intro p e s m args below meth c s₁ Bd hml0 hP hK
  obtain ⟨rfl, hZ, hh⟩ := hP
  have hx := Bd.exec
  have hby := Bd.bytes
  have hml : c.maxLocals = 5 := hml0
  have hown : s.vm.findClass "querent/hl7/LineReader" = some m.cls := findClass_of_methodNamed Bd.named
  have hnm := (name_of_methodNamed Bd.named Bd.method).1
  have X0 : Stand p l e ({ frames := 2, cells := 4, slots := 196, locals := 29 } : Room) s m #[(.ref a1), (.ref a2), (.int p3), (.int p4), (.ref a5)] below meth c s₁ [] 0 0 := Stand.of_body Bd
  have e0 : s₁.heap = h0 := by rw [← hh, Bd.state]; rfl
  have N0 := Fr.nil n0
  have pre0 : ∀ t, Steps p.tables e below (s₁.setTop (mkF m 0 #[.val (.ref a1), .val (.ref a2), .val (.int p3), .val (.int p4), .val (.ref a5)] [])) t → Steps p.tables e below (s₁.setTop (entryFrame m #[(.ref a1), (.ref a2), (.int p3), (.int p4), (.ref a5)] 5)) t := fun t k => castTop (ef_2 m a1 a2 p3 p4 a5) k
  obtain ⟨T6, X6, e6, st6⟩ := initO X0 hx hZ hown (hw _ (List.mem_of_getElem? (i := 14) rfl)) (hw _ (List.mem_of_getElem? (i := 15) rfl)) (hw _ (List.mem_of_getElem? (i := 16) rfl)) e0 (g := (mkF m 1 #[.val (.ref a1), .val (.ref a2), .val (.int p3), .val (.int p4), .val (.ref a5)] [(.ref a1)])) rfl (by rw [hml]; rfl) rfl (hb hby d2_1) (by decide) (W := 0) (by show 2 * 0 + _ ≤ _; exact Nat.le_of_eq rfl) (by decide)
  obtain ⟨lit7, T7, h7, kk7, X7, e7, E7, hS7, hk7, hZ7, hown7, st7⟩ := ldcS (s := s) (vm0 := s.vm) X6 hx hZ hown (hw _ (List.mem_of_getElem? (i := 17) rfl)) (own_sa hw) e6 ((State.WarmedH.refl s).since 0) (Nat.zero_le _) (g := (mkF m 5 #[.val (.ref a1), .val (.ref a2), .val (.int p3), .val (.int p4), .val (.ref a5)] [(.ref a2)])) rfl (hb hby d2_5) (n := 84) (by decide +kernel) (by decide) (by decide) (by decide)
  have K7 : Keep h0 h7 [a1] := ((Keep.refl h0 [a1])).ext E7
  have Z7 : n0 ≤ h7.size := Nat.le_trans Z0 E7.1
  obtain ⟨_, _, ⟨T8, L8, k8, n8⟩, -, X8, ⟨Lc8, hQ8, l8, y8, z8⟩, st8⟩ := Jvm.LawKit.callS X7 hx (y := (⟨"java/util/Objects", "requireNonNull", "(Ljava/lang/Object;Ljava/lang/String;)Ljava/lang/Object;"⟩ : MethodName)) hown7 (mvT hZ7 (hw _ (List.mem_of_getElem? (i := 24) rfl))) (mvT hZ7 (hw _ (List.mem_of_getElem? (i := 25) rfl))) (mvT hZ7 (hw _ (List.mem_of_getElem? (i := 26) rfl))) (mvT hZ7 (hw _ (List.mem_of_getElem? (i := 27) rfl))) (by decide) (backOf (W := 0) (rm4 l Z a0 hw [] a2 lit7 h7 n0 Z7 ) hZ7 (hw _ (List.mem_of_getElem? (i := 27) rfl)) (hw _ (List.mem_of_getElem? (i := 26) rfl)) (by decide) (by decide)) (g := (mkF m 7 #[.val (.ref a1), .val (.ref a2), .val (.int p3), .val (.int p4), .val (.ref a5)] [(.ref lit7), (.ref a2)])) rfl (by rw [hml]; rfl) (argsL := [(.ref a2), (.ref lit7)]) (rest := []) (lenOf pd_1 rfl) rfl (by show 2 * 0 + _ ≤ _; exact Nat.le_of_eq rfl) (hb hby d2_7) (fun _ _ => ⟨rfl, e7, (by decide : 2 + 0 ≤ _), (by decide : 88 + 0 ≤ _)⟩)
  dsimp only [Pt.U, Pt.locs, Pt.cells, Pt.slots] at X8 l8 y8 z8 st8 hQ8
  subst l8 y8 z8
  obtain ⟨rfl, N8q, e8⟩ := hQ8
  have N8 := Fr.app N0 N8q
  obtain ⟨lit9, T9, h9, kk9, X9, e9, E9, hS9, hk9, hZ9, hown9, st9⟩ := ldcS X8 hx hZ7 hown7 (hw _ (List.mem_of_getElem? (i := 28) rfl)) (own_sa hw) e8 hS7 hk7 (g := (mkF m 13 #[.val (.ref a1), .val (.ref a2), .val (.int p3), .val (.int p4), .val (.ref a5)] [(.ref a5)])) rfl (hb hby d2_13) (n := 104) (by decide +kernel) (by decide) (by decide) (by decide)
  have y10 := ((F_carriageReturnEnds_a1.ext E7).ext E9)
  have y11 := ((F_afterCarriageReturn_a1.ext E7).ext E9)
  have y12 := ((S_CARRIAGE_RETURN_OR_LINE_FEED.ext E7).ext E9)
  have K9 : Keep h0 h9 [a1] := (K7).ext E9
  have Z9 : n0 ≤ h9.size := Nat.le_trans Z7 E9.1
  obtain ⟨_, _, ⟨T13, L13, k13, n13⟩, -, X13, ⟨Lc13, hQ13, l13, y13, z13⟩, st13⟩ := Jvm.LawKit.callS X9 hx (y := (⟨"java/util/Objects", "requireNonNull", "(Ljava/lang/Object;Ljava/lang/String;)Ljava/lang/Object;"⟩ : MethodName)) hown9 (mvT hZ9 (hw _ (List.mem_of_getElem? (i := 24) rfl))) (mvT hZ9 (hw _ (List.mem_of_getElem? (i := 25) rfl))) (mvT hZ9 (hw _ (List.mem_of_getElem? (i := 26) rfl))) (mvT hZ9 (hw _ (List.mem_of_getElem? (i := 27) rfl))) (by decide) (backOf (W := 0) (rm4 l Z a0 hw [] a5 lit9 h9 n0 Z9 ) hZ9 (hw _ (List.mem_of_getElem? (i := 27) rfl)) (hw _ (List.mem_of_getElem? (i := 26) rfl)) (by decide) (by decide)) (g := (mkF m 15 #[.val (.ref a1), .val (.ref a2), .val (.int p3), .val (.int p4), .val (.ref a5)] [(.ref lit9), (.ref a5)])) rfl (by rw [hml]; rfl) (argsL := [(.ref a5), (.ref lit9)]) (rest := []) (lenOf pd_1 rfl) rfl (by show 2 * 0 + _ ≤ _; exact Nat.le_of_eq rfl) (hb hby d2_15) (fun _ _ => ⟨rfl, e9, (by decide : 4 + 0 ≤ _), (by decide : 196 + 0 ≤ _)⟩)
  dsimp only [Pt.U, Pt.locs, Pt.cells, Pt.slots] at X13 l13 y13 z13 st13 hQ13
  subst l13 y13 z13
  obtain ⟨rfl, N13q, e13⟩ := hQ13
  have N13 := Fr.app N8 N13q
  obtain ⟨cl14, Ar14, qq14, S14, NN14, -, -⟩ := id ((V_a2.ext E7).ext E9)
  obtain ⟨_, _, ⟨T15, L15, k15, n15⟩, -, X15, ⟨Lc15, hQ15, l15, y15, z15⟩, st15⟩ := Jvm.LawKit.callS X13 hx (y := (⟨"java/util/Objects", "checkFromToIndex", "(III)I"⟩ : MethodName)) hown9 (mvT hZ9 (hw _ (List.mem_of_getElem? (i := 29) rfl))) (mvT hZ9 (hw _ (List.mem_of_getElem? (i := 30) rfl))) (mvT hZ9 (hw _ (List.mem_of_getElem? (i := 26) rfl))) (mvT hZ9 (hw _ (List.mem_of_getElem? (i := 31) rfl))) (by decide) (backOf (W := 0) (rm5 l Z a0 hw [] p3 p4 (6 : Int32) h9 n0 Z9 hq23_16 hq23_17 hq23_18) hZ9 (hw _ (List.mem_of_getElem? (i := 31) rfl)) (hw _ (List.mem_of_getElem? (i := 26) rfl)) (by decide) (by decide)) (g := (mkF m 23 #[.val (.ref a1), .val (.ref a2), .val (.int p3), .val (.int p4), .val (.ref a5)] [(.int (6 : Int32)), (.int p4), (.int p3)])) rfl (by rw [hml]; rfl) (argsL := [(.int p3), (.int p4), (.int (6 : Int32))]) (rest := []) (lenOf pd_2 rfl) rfl (by show 2 * 0 + _ ≤ _; exact Nat.le_of_eq rfl) (hb hby d2_23) (fun _ _ => ⟨rfl, e13, (by decide : 4 + 0 ≤ _), (by decide : 196 + 0 ≤ _)⟩)
  dsimp only [Pt.U, Pt.locs, Pt.cells, Pt.slots] at X15 l15 y15 z15 st15 hQ15
  subst l15 y15 z15
  obtain ⟨rfl, N15q, e15⟩ := hQ15
  have N15 := Fr.app N13 N15q
  obtain ⟨T16, h16, X16, e16, W16, st16⟩ := putF X15 hx hZ9 hown9 (host := "") (Or.inl (hw _ (List.mem_of_getElem? (i := 36) rfl))) Via.refl e15 ((F_in_a1.ext E7).ext E9) ((E_a1.ext E7).ext E9) (Or.inr ⟨(hw _ (List.mem_of_getElem? (i := 37) rfl)), rfl, hnm⟩) (hw _ (List.mem_of_getElem? (i := 9) rfl)) (ty := (.object "java/io/InputStream")) (by decide) rfl rfl (g := (mkF m 29 #[.val (.ref a1), .val (.ref a2), .val (.int p3), .val (.int p4), .val (.ref a5)] [.null, (.ref a1)])) rfl rfl (hb hby d2_29)
  have N16 := Fr.snoc X16 N15 g_a1
  have y17 := (((F_block_a1.ext E7).ext E9).other W16 (Or.inr (slot_ne (Or.inl (hw _ (List.mem_of_getElem? (i := 39) rfl))) (Or.inr (hw _ (List.mem_of_getElem? (i := 37) rfl))) (by decide) (t := (.array .byte)) (t' := (.object "java/io/InputStream")) (by decide) (by decide))))
  have y18 := (y10.other W16 (Or.inr (slot_ne (Or.inr (hw _ (List.mem_of_getElem? (i := 43) rfl))) (Or.inr (hw _ (List.mem_of_getElem? (i := 37) rfl))) (by decide) (t := .boolean) (t' := (.object "java/io/InputStream")) (by decide) (by decide))))
  have y19 := (((F_base_a1.ext E7).ext E9).other W16 (Or.inr (slot_ne (Or.inl (hw _ (List.mem_of_getElem? (i := 45) rfl))) (Or.inr (hw _ (List.mem_of_getElem? (i := 37) rfl))) (by decide) (t := .long) (t' := (.object "java/io/InputStream")) (by decide) (by decide))))
  have y20 := (((F_limit_a1.ext E7).ext E9).other W16 (Or.inr (slot_ne (Or.inl (hw _ (List.mem_of_getElem? (i := 47) rfl))) (Or.inr (hw _ (List.mem_of_getElem? (i := 37) rfl))) (by decide) (t := .int) (t' := (.object "java/io/InputStream")) (by decide) (by decide))))
  have y21 := (((F_start_a1.ext E7).ext E9).other W16 (Or.inr (slot_ne (Or.inl (hw _ (List.mem_of_getElem? (i := 49) rfl))) (Or.inr (hw _ (List.mem_of_getElem? (i := 37) rfl))) (by decide) (t := .int) (t' := (.object "java/io/InputStream")) (by decide) (by decide))))
  have y22 := (((F_end_a1.ext E7).ext E9).other W16 (Or.inr (slot_ne (Or.inl (hw _ (List.mem_of_getElem? (i := 51) rfl))) (Or.inr (hw _ (List.mem_of_getElem? (i := 37) rfl))) (by decide) (t := .int) (t' := (.object "java/io/InputStream")) (by decide) (by decide))))
  have y23 := (((F_next_a1.ext E7).ext E9).other W16 (Or.inr (slot_ne (Or.inl (hw _ (List.mem_of_getElem? (i := 53) rfl))) (Or.inr (hw _ (List.mem_of_getElem? (i := 37) rfl))) (by decide) (t := .int) (t' := (.object "java/io/InputStream")) (by decide) (by decide))))
  have y24 := (((F_keeping_a1.ext E7).ext E9).other W16 (Or.inr (slot_ne (Or.inl (hw _ (List.mem_of_getElem? (i := 65) rfl))) (Or.inr (hw _ (List.mem_of_getElem? (i := 37) rfl))) (by decide) (t := .boolean) (t' := (.object "java/io/InputStream")) (by decide) (by decide))))
  have y25 := (((F_kept_a1.ext E7).ext E9).other W16 (Or.inr (slot_ne (Or.inl (hw _ (List.mem_of_getElem? (i := 67) rfl))) (Or.inr (hw _ (List.mem_of_getElem? (i := 37) rfl))) (by decide) (t := .int) (t' := (.object "java/io/InputStream")) (by decide) (by decide))))
  have y26 := (((F_ended_a1.ext E7).ext E9).other W16 (Or.inr (slot_ne (Or.inl (hw _ (List.mem_of_getElem? (i := 95) rfl))) (Or.inr (hw _ (List.mem_of_getElem? (i := 37) rfl))) (by decide) (t := .boolean) (t' := (.object "java/io/InputStream")) (by decide) (by decide))))
  have y27 := (y11.other W16 (Or.inr (slot_ne (Or.inl (hw _ (List.mem_of_getElem? (i := 102) rfl))) (Or.inr (hw _ (List.mem_of_getElem? (i := 37) rfl))) (by decide) (t := .boolean) (t' := (.object "java/io/InputStream")) (by decide) (by decide))))
  have y28 := (((F_number_a1.ext E7).ext E9).other W16 (Or.inr (slot_ne (Or.inl (hw _ (List.mem_of_getElem? (i := 104) rfl))) (Or.inr (hw _ (List.mem_of_getElem? (i := 37) rfl))) (by decide) (t := .int) (t' := (.object "java/io/InputStream")) (by decide) (by decide))))
  have y29 := (((V_a2.ext E7).ext E9).other W16 ne_a2_a1)
  have K16 : Keep h0 h16 [a1] := (K9).wr W16 (Or.inl (List.mem_of_getElem? (i := 0) rfl))
  have Z16 : n0 ≤ h16.size := Nat.le_trans Z9 (Keep.of_wr W16).1
  obtain ⟨T30, h30, X30, e30, W30, st30⟩ := putF X16 hx hZ9 hown9 (host := "") (Or.inl (hw _ (List.mem_of_getElem? (i := 38) rfl))) Via.refl e16 y17 (((E_a1.ext E7).ext E9).wr W16) (Or.inl (hw _ (List.mem_of_getElem? (i := 39) rfl))) (hw _ (List.mem_of_getElem? (i := 9) rfl)) (ty := (.array .byte)) (by decide) rfl rfl (g := (mkF m 34 #[.val (.ref a1), .val (.ref a2), .val (.int p3), .val (.int p4), .val (.ref a5)] [(.ref a2), (.ref a1)])) rfl rfl (hb hby d2_34)
  have N30 := Fr.snoc X30 N16 g_a1
  have y31 := ((((F_in_a1.ext E7).ext E9).same W16).other W30 (Or.inr (slot_ne (Or.inr (hw _ (List.mem_of_getElem? (i := 37) rfl))) (Or.inl (hw _ (List.mem_of_getElem? (i := 39) rfl))) (by decide) (t := (.object "java/io/InputStream")) (t' := (.array .byte)) (by decide) (by decide))))
  have y32 := (y18.other W30 (Or.inr (slot_ne (Or.inr (hw _ (List.mem_of_getElem? (i := 43) rfl))) (Or.inl (hw _ (List.mem_of_getElem? (i := 39) rfl))) (by decide) (t := .boolean) (t' := (.array .byte)) (by decide) (by decide))))
  have y33 := (y19.other W30 (Or.inr (slot_ne (Or.inl (hw _ (List.mem_of_getElem? (i := 45) rfl))) (Or.inl (hw _ (List.mem_of_getElem? (i := 39) rfl))) (by decide) (t := .long) (t' := (.array .byte)) (by decide) (by decide))))
  have y34 := (y20.other W30 (Or.inr (slot_ne (Or.inl (hw _ (List.mem_of_getElem? (i := 47) rfl))) (Or.inl (hw _ (List.mem_of_getElem? (i := 39) rfl))) (by decide) (t := .int) (t' := (.array .byte)) (by decide) (by decide))))
  have y35 := (y21.other W30 (Or.inr (slot_ne (Or.inl (hw _ (List.mem_of_getElem? (i := 49) rfl))) (Or.inl (hw _ (List.mem_of_getElem? (i := 39) rfl))) (by decide) (t := .int) (t' := (.array .byte)) (by decide) (by decide))))
  have y36 := (y22.other W30 (Or.inr (slot_ne (Or.inl (hw _ (List.mem_of_getElem? (i := 51) rfl))) (Or.inl (hw _ (List.mem_of_getElem? (i := 39) rfl))) (by decide) (t := .int) (t' := (.array .byte)) (by decide) (by decide))))
  have y37 := (y23.other W30 (Or.inr (slot_ne (Or.inl (hw _ (List.mem_of_getElem? (i := 53) rfl))) (Or.inl (hw _ (List.mem_of_getElem? (i := 39) rfl))) (by decide) (t := .int) (t' := (.array .byte)) (by decide) (by decide))))
  have y38 := (y24.other W30 (Or.inr (slot_ne (Or.inl (hw _ (List.mem_of_getElem? (i := 65) rfl))) (Or.inl (hw _ (List.mem_of_getElem? (i := 39) rfl))) (by decide) (t := .boolean) (t' := (.array .byte)) (by decide) (by decide))))
  have y39 := (y25.other W30 (Or.inr (slot_ne (Or.inl (hw _ (List.mem_of_getElem? (i := 67) rfl))) (Or.inl (hw _ (List.mem_of_getElem? (i := 39) rfl))) (by decide) (t := .int) (t' := (.array .byte)) (by decide) (by decide))))
  have y40 := (y26.other W30 (Or.inr (slot_ne (Or.inl (hw _ (List.mem_of_getElem? (i := 95) rfl))) (Or.inl (hw _ (List.mem_of_getElem? (i := 39) rfl))) (by decide) (t := .boolean) (t' := (.array .byte)) (by decide) (by decide))))
  have y41 := (y27.other W30 (Or.inr (slot_ne (Or.inl (hw _ (List.mem_of_getElem? (i := 102) rfl))) (Or.inl (hw _ (List.mem_of_getElem? (i := 39) rfl))) (by decide) (t := .boolean) (t' := (.array .byte)) (by decide) (by decide))))
  have y42 := (y28.other W30 (Or.inr (slot_ne (Or.inl (hw _ (List.mem_of_getElem? (i := 104) rfl))) (Or.inl (hw _ (List.mem_of_getElem? (i := 39) rfl))) (by decide) (t := .int) (t' := (.array .byte)) (by decide) (by decide))))
  have K30 : Keep h0 h30 [a1] := (K16).wr W30 (Or.inl (List.mem_of_getElem? (i := 0) rfl))
  have Z30 : n0 ≤ h30.size := Nat.le_trans Z16 (Keep.of_wr W30).1
  obtain ⟨T43, X43, e43, st43⟩ := getS2 X30 hx hZ9 hown9 (host := "") (Or.inl (hw _ (List.mem_of_getElem? (i := 40) rfl))) Via.refl e30 ((y12.wr W16).wr W30) (g := (mkF m 40 #[.val (.ref a1), .val (.ref a2), .val (.int p3), .val (.int p4), .val (.ref a5)] [(.ref a5), (.ref a1)])) rfl (hb hby d2_40)
  have pre45 : ∀ t, Steps p.tables e below (T43.setTop (mkF m 43 #[.val (.ref a1), .val (.ref a2), .val (.int p3), .val (.int p4), .val (.ref a5)] [(.ref st_CARRIAGE_RETURN_OR_LINE_FEED), (.ref a5), (.ref a1)])) t → Steps p.tables e below (s₁.setTop (entryFrame m #[(.ref a1), (.ref a2), (.int p3), (.int p4), (.ref a5)] 5)) t := fun t kt => pre0 t (by
    show Steps p.tables e below (s₁.setTop (mkF m 0 #[.val (.ref a1), .val (.ref a2), .val (.int p3), .val (.int p4), .val (.ref a5)] [])) _
    refine XS.aloadN X0.here hx rfl (hb hby d2_0) rfl rfl ?_
    show Steps p.tables e below (s₁.setTop (mkF m 1 #[.val (.ref a1), .val (.ref a2), .val (.int p3), .val (.int p4), .val (.ref a5)] [(.ref a1)])) _
    refine st6 _ ?_
    show Steps p.tables e below (T6.setTop (mkF m 4 #[.val (.ref a1), .val (.ref a2), .val (.int p3), .val (.int p4), .val (.ref a5)] [])) _
    refine XS.aloadN X6.here hx rfl (hb hby d2_4) rfl rfl ?_
    show Steps p.tables e below (T6.setTop (mkF m 5 #[.val (.ref a1), .val (.ref a2), .val (.int p3), .val (.int p4), .val (.ref a5)] [(.ref a2)])) _
    refine st7 _ ?_
    show Steps p.tables e below (T7.setTop (mkF m 7 #[.val (.ref a1), .val (.ref a2), .val (.int p3), .val (.int p4), .val (.ref a5)] [(.ref lit7), (.ref a2)])) _
    refine st8 _ ?_
    show Steps p.tables e below (T8.setTop (mkF m 10 #[.val (.ref a1), .val (.ref a2), .val (.int p3), .val (.int p4), .val (.ref a5)] [(.ref a2)])) _
    refine XS.pop X8.here hx rfl (hb hby d2_10) rfl rfl ?_
    show Steps p.tables e below (T8.setTop (mkF m 11 #[.val (.ref a1), .val (.ref a2), .val (.int p3), .val (.int p4), .val (.ref a5)] [])) _
    refine XS.aload X8.here hx rfl (hb hby d2_11) rfl rfl ?_
    show Steps p.tables e below (T8.setTop (mkF m 13 #[.val (.ref a1), .val (.ref a2), .val (.int p3), .val (.int p4), .val (.ref a5)] [(.ref a5)])) _
    refine st9 _ ?_
    show Steps p.tables e below (T9.setTop (mkF m 15 #[.val (.ref a1), .val (.ref a2), .val (.int p3), .val (.int p4), .val (.ref a5)] [(.ref lit9), (.ref a5)])) _
    refine st13 _ ?_
    show Steps p.tables e below (T13.setTop (mkF m 18 #[.val (.ref a1), .val (.ref a2), .val (.int p3), .val (.int p4), .val (.ref a5)] [(.ref a5)])) _
    refine XS.pop X13.here hx rfl (hb hby d2_18) rfl rfl ?_
    show Steps p.tables e below (T13.setTop (mkF m 19 #[.val (.ref a1), .val (.ref a2), .val (.int p3), .val (.int p4), .val (.ref a5)] [])) _
    refine XS.iloadN X13.here hx rfl (hb hby d2_19) rfl ?_
    show Steps p.tables e below (T13.setTop (mkF m 20 #[.val (.ref a1), .val (.ref a2), .val (.int p3), .val (.int p4), .val (.ref a5)] [(.int p3)])) _
    refine XS.iloadN X13.here hx rfl (hb hby d2_20) rfl ?_
    show Steps p.tables e below (T13.setTop (mkF m 21 #[.val (.ref a1), .val (.ref a2), .val (.int p3), .val (.int p4), .val (.ref a5)] [(.int p4), (.int p3)])) _
    refine XS.aloadN X13.here hx rfl (hb hby d2_21) rfl rfl ?_
    show Steps p.tables e below (T13.setTop (mkF m 22 #[.val (.ref a1), .val (.ref a2), .val (.int p3), .val (.int p4), .val (.ref a5)] [(.ref a2), (.int p4), (.int p3)])) _
    refine X13.arraylength hx (by rw [e13]; exact Ar14.1) (State.isArrayOf_alike hZ9.alike Ar14.2.1) (g := (mkF m 22 #[.val (.ref a1), .val (.ref a2), .val (.int p3), .val (.int p4), .val (.ref a5)] [(.ref a2), (.int p4), (.int p3)])) rfl rfl (hb hby d2_22) _ ?_
    rw [len_of S14 NN14]
    show Steps p.tables e below (T13.setTop (mkF m 23 #[.val (.ref a1), .val (.ref a2), .val (.int p3), .val (.int p4), .val (.ref a5)] [(.int (6 : Int32)), (.int p4), (.int p3)])) _
    refine st15 _ ?_
    show Steps p.tables e below (T15.setTop (mkF m 26 #[.val (.ref a1), .val (.ref a2), .val (.int p3), .val (.int p4), .val (.ref a5)] [(.int p3)])) _
    refine XS.pop X15.here hx rfl (hb hby d2_26) rfl rfl ?_
    show Steps p.tables e below (T15.setTop (mkF m 27 #[.val (.ref a1), .val (.ref a2), .val (.int p3), .val (.int p4), .val (.ref a5)] [])) _
    refine XS.aloadN X15.here hx rfl (hb hby d2_27) rfl rfl ?_
    show Steps p.tables e below (T15.setTop (mkF m 28 #[.val (.ref a1), .val (.ref a2), .val (.int p3), .val (.int p4), .val (.ref a5)] [(.ref a1)])) _
    refine XS.aconstNull X15.here hx rfl (hb hby d2_28) ?_
    show Steps p.tables e below (T15.setTop (mkF m 29 #[.val (.ref a1), .val (.ref a2), .val (.int p3), .val (.int p4), .val (.ref a5)] [.null, (.ref a1)])) _
    refine st16 _ ?_
    show Steps p.tables e below (T16.setTop (mkF m 32 #[.val (.ref a1), .val (.ref a2), .val (.int p3), .val (.int p4), .val (.ref a5)] [])) _
    refine XS.aloadN X16.here hx rfl (hb hby d2_32) rfl rfl ?_
    show Steps p.tables e below (T16.setTop (mkF m 33 #[.val (.ref a1), .val (.ref a2), .val (.int p3), .val (.int p4), .val (.ref a5)] [(.ref a1)])) _
    refine XS.aloadN X16.here hx rfl (hb hby d2_33) rfl rfl ?_
    show Steps p.tables e below (T16.setTop (mkF m 34 #[.val (.ref a1), .val (.ref a2), .val (.int p3), .val (.int p4), .val (.ref a5)] [(.ref a2), (.ref a1)])) _
    refine st30 _ ?_
    show Steps p.tables e below (T30.setTop (mkF m 37 #[.val (.ref a1), .val (.ref a2), .val (.int p3), .val (.int p4), .val (.ref a5)] [])) _
    refine XS.aloadN X30.here hx rfl (hb hby d2_37) rfl rfl ?_
    show Steps p.tables e below (T30.setTop (mkF m 38 #[.val (.ref a1), .val (.ref a2), .val (.int p3), .val (.int p4), .val (.ref a5)] [(.ref a1)])) _
    refine XS.aload X30.here hx rfl (hb hby d2_38) rfl rfl ?_
    show Steps p.tables e below (T30.setTop (mkF m 40 #[.val (.ref a1), .val (.ref a2), .val (.int p3), .val (.int p4), .val (.ref a5)] [(.ref a5), (.ref a1)])) _
    refine st43 _ ?_
    show Steps p.tables e below (T43.setTop (mkF m 43 #[.val (.ref a1), .val (.ref a2), .val (.int p3), .val (.int p4), .val (.ref a5)] [(.ref st_CARRIAGE_RETURN_OR_LINE_FEED), (.ref a5), (.ref a1)])) _
    exact kt)
  by_cases hc43_44 : a5 = st_CARRIAGE_RETURN_OR_LINE_FEED
  · obtain ⟨T46, h46, X46, e46, W46, st46⟩ := putFN X43 hx hZ9 hown9 (hw _ (List.mem_of_getElem? (i := 42) rfl)) Via.refl e43 y32 ((((E_a1.ext E7).ext E9).wr W16).wr W30) (Or.inr ⟨(hw _ (List.mem_of_getElem? (i := 43) rfl)), rfl, hnm⟩) (hw _ (List.mem_of_getElem? (i := 9) rfl)) (ty := .boolean) (v' := (.int (1 : Int32))) (by decide) rfl rfl (g := (mkF m 51 #[.val (.ref a1), .val (.ref a2), .val (.int p3), .val (.int p4), .val (.ref a5)] [(.int (1 : Int32)), (.ref a1)])) rfl rfl (hb hby d2_51)
    have N46 := Fr.snoc X46 N30 g_a1
    have y47 := (((((E_a1.ext E7).ext E9).wr W16).wr W30).wr W46)
    have y48 := (y31.other W46 (Or.inr (slot_ne (Or.inr (hw _ (List.mem_of_getElem? (i := 37) rfl))) (Or.inr (hw _ (List.mem_of_getElem? (i := 43) rfl))) (by decide) (t := (.object "java/io/InputStream")) (t' := .boolean) (by decide) (by decide))))
    have y49 := ((y17.same W30).other W46 (Or.inr (slot_ne (Or.inl (hw _ (List.mem_of_getElem? (i := 39) rfl))) (Or.inr (hw _ (List.mem_of_getElem? (i := 43) rfl))) (by decide) (t := (.array .byte)) (t' := .boolean) (by decide) (by decide))))
    have y50 := (y33.other W46 (Or.inr (slot_ne (Or.inl (hw _ (List.mem_of_getElem? (i := 45) rfl))) (Or.inr (hw _ (List.mem_of_getElem? (i := 43) rfl))) (by decide) (t := .long) (t' := .boolean) (by decide) (by decide))))
    have y51 := (y34.other W46 (Or.inr (slot_ne (Or.inl (hw _ (List.mem_of_getElem? (i := 47) rfl))) (Or.inr (hw _ (List.mem_of_getElem? (i := 43) rfl))) (by decide) (t := .int) (t' := .boolean) (by decide) (by decide))))
    have y52 := (y35.other W46 (Or.inr (slot_ne (Or.inl (hw _ (List.mem_of_getElem? (i := 49) rfl))) (Or.inr (hw _ (List.mem_of_getElem? (i := 43) rfl))) (by decide) (t := .int) (t' := .boolean) (by decide) (by decide))))
    have y53 := (y36.other W46 (Or.inr (slot_ne (Or.inl (hw _ (List.mem_of_getElem? (i := 51) rfl))) (Or.inr (hw _ (List.mem_of_getElem? (i := 43) rfl))) (by decide) (t := .int) (t' := .boolean) (by decide) (by decide))))
    have y54 := (y37.other W46 (Or.inr (slot_ne (Or.inl (hw _ (List.mem_of_getElem? (i := 53) rfl))) (Or.inr (hw _ (List.mem_of_getElem? (i := 43) rfl))) (by decide) (t := .int) (t' := .boolean) (by decide) (by decide))))
    have y55 := (y38.other W46 (Or.inr (slot_ne (Or.inl (hw _ (List.mem_of_getElem? (i := 65) rfl))) (Or.inr (hw _ (List.mem_of_getElem? (i := 43) rfl))) (by decide) (t := .boolean) (t' := .boolean) (by decide) (by decide))))
    have y56 := (y39.other W46 (Or.inr (slot_ne (Or.inl (hw _ (List.mem_of_getElem? (i := 67) rfl))) (Or.inr (hw _ (List.mem_of_getElem? (i := 43) rfl))) (by decide) (t := .int) (t' := .boolean) (by decide) (by decide))))
    have y57 := (y40.other W46 (Or.inr (slot_ne (Or.inl (hw _ (List.mem_of_getElem? (i := 95) rfl))) (Or.inr (hw _ (List.mem_of_getElem? (i := 43) rfl))) (by decide) (t := .boolean) (t' := .boolean) (by decide) (by decide))))
    have y58 := (y41.other W46 (Or.inr (slot_ne (Or.inl (hw _ (List.mem_of_getElem? (i := 102) rfl))) (Or.inr (hw _ (List.mem_of_getElem? (i := 43) rfl))) (by decide) (t := .boolean) (t' := .boolean) (by decide) (by decide))))
    have y59 := (y42.other W46 (Or.inr (slot_ne (Or.inl (hw _ (List.mem_of_getElem? (i := 104) rfl))) (Or.inr (hw _ (List.mem_of_getElem? (i := 43) rfl))) (by decide) (t := .int) (t' := .boolean) (by decide) (by decide))))
    have y60 := ((y29.other W30 ne_a2_a1).other W46 ne_a2_a1)
    have K46 : Keep h0 h46 [a1] := (K30).wr W46 (Or.inl (List.mem_of_getElem? (i := 0) rfl))
    have Z46 : n0 ≤ h46.size := Nat.le_trans Z30 (Keep.of_wr W46).1
    obtain ⟨T61, h61, X61, e61, W61, st61⟩ := putF X46 hx hZ9 hown9 (host := "") (Or.inl (hw _ (List.mem_of_getElem? (i := 44) rfl))) Via.refl e46 y50 y47 (Or.inl (hw _ (List.mem_of_getElem? (i := 45) rfl))) (hw _ (List.mem_of_getElem? (i := 9) rfl)) (ty := .long) (by decide) rfl rfl (g := (mkF m 58 #[.val (.ref a1), .val (.ref a2), .val (.int p3), .val (.int p4), .val (.ref a5)] [(.long ((-p3).toInt64)), (.ref a1)])) rfl rfl (hb hby d2_58)
    have N61 := Fr.snoc X61 N46 g_a1
    have y62 := (y48.other W61 (Or.inr (slot_ne (Or.inr (hw _ (List.mem_of_getElem? (i := 37) rfl))) (Or.inl (hw _ (List.mem_of_getElem? (i := 45) rfl))) (by decide) (t := (.object "java/io/InputStream")) (t' := .long) (by decide) (by decide))))
    have y63 := (y49.other W61 (Or.inr (slot_ne (Or.inl (hw _ (List.mem_of_getElem? (i := 39) rfl))) (Or.inl (hw _ (List.mem_of_getElem? (i := 45) rfl))) (by decide) (t := (.array .byte)) (t' := .long) (by decide) (by decide))))
    have y64 := ((y32.same W46).other W61 (Or.inr (slot_ne (Or.inr (hw _ (List.mem_of_getElem? (i := 43) rfl))) (Or.inl (hw _ (List.mem_of_getElem? (i := 45) rfl))) (by decide) (t := .boolean) (t' := .long) (by decide) (by decide))))
    have y65 := (y51.other W61 (Or.inr (slot_ne (Or.inl (hw _ (List.mem_of_getElem? (i := 47) rfl))) (Or.inl (hw _ (List.mem_of_getElem? (i := 45) rfl))) (by decide) (t := .int) (t' := .long) (by decide) (by decide))))
    have y66 := (y52.other W61 (Or.inr (slot_ne (Or.inl (hw _ (List.mem_of_getElem? (i := 49) rfl))) (Or.inl (hw _ (List.mem_of_getElem? (i := 45) rfl))) (by decide) (t := .int) (t' := .long) (by decide) (by decide))))
    have y67 := (y53.other W61 (Or.inr (slot_ne (Or.inl (hw _ (List.mem_of_getElem? (i := 51) rfl))) (Or.inl (hw _ (List.mem_of_getElem? (i := 45) rfl))) (by decide) (t := .int) (t' := .long) (by decide) (by decide))))
    have y68 := (y54.other W61 (Or.inr (slot_ne (Or.inl (hw _ (List.mem_of_getElem? (i := 53) rfl))) (Or.inl (hw _ (List.mem_of_getElem? (i := 45) rfl))) (by decide) (t := .int) (t' := .long) (by decide) (by decide))))
    have y69 := (y55.other W61 (Or.inr (slot_ne (Or.inl (hw _ (List.mem_of_getElem? (i := 65) rfl))) (Or.inl (hw _ (List.mem_of_getElem? (i := 45) rfl))) (by decide) (t := .boolean) (t' := .long) (by decide) (by decide))))
    have y70 := (y56.other W61 (Or.inr (slot_ne (Or.inl (hw _ (List.mem_of_getElem? (i := 67) rfl))) (Or.inl (hw _ (List.mem_of_getElem? (i := 45) rfl))) (by decide) (t := .int) (t' := .long) (by decide) (by decide))))
    have y71 := (y57.other W61 (Or.inr (slot_ne (Or.inl (hw _ (List.mem_of_getElem? (i := 95) rfl))) (Or.inl (hw _ (List.mem_of_getElem? (i := 45) rfl))) (by decide) (t := .boolean) (t' := .long) (by decide) (by decide))))
    have y72 := (y58.other W61 (Or.inr (slot_ne (Or.inl (hw _ (List.mem_of_getElem? (i := 102) rfl))) (Or.inl (hw _ (List.mem_of_getElem? (i := 45) rfl))) (by decide) (t := .boolean) (t' := .long) (by decide) (by decide))))
    have y73 := (y59.other W61 (Or.inr (slot_ne (Or.inl (hw _ (List.mem_of_getElem? (i := 104) rfl))) (Or.inl (hw _ (List.mem_of_getElem? (i := 45) rfl))) (by decide) (t := .int) (t' := .long) (by decide) (by decide))))
    have K61 : Keep h0 h61 [a1] := (K46).wr W61 (Or.inl (List.mem_of_getElem? (i := 0) rfl))
    have Z61 : n0 ≤ h61.size := Nat.le_trans Z46 (Keep.of_wr W61).1
    obtain ⟨T74, h74, X74, e74, W74, st74⟩ := putF X61 hx hZ9 hown9 (host := "") (Or.inl (hw _ (List.mem_of_getElem? (i := 46) rfl))) Via.refl e61 y65 (y47.wr W61) (Or.inl (hw _ (List.mem_of_getElem? (i := 47) rfl))) (hw _ (List.mem_of_getElem? (i := 9) rfl)) (ty := .int) (by decide) rfl rfl (g := (mkF m 63 #[.val (.ref a1), .val (.ref a2), .val (.int p3), .val (.int p4), .val (.ref a5)] [(.int p4), (.ref a1)])) rfl rfl (hb hby d2_63)
    have N74 := Fr.snoc X74 N61 g_a1
    have y75 := (y62.other W74 (Or.inr (slot_ne (Or.inr (hw _ (List.mem_of_getElem? (i := 37) rfl))) (Or.inl (hw _ (List.mem_of_getElem? (i := 47) rfl))) (by decide) (t := (.object "java/io/InputStream")) (t' := .int) (by decide) (by decide))))
    have y76 := (y63.other W74 (Or.inr (slot_ne (Or.inl (hw _ (List.mem_of_getElem? (i := 39) rfl))) (Or.inl (hw _ (List.mem_of_getElem? (i := 47) rfl))) (by decide) (t := (.array .byte)) (t' := .int) (by decide) (by decide))))
    have y77 := (y64.other W74 (Or.inr (slot_ne (Or.inr (hw _ (List.mem_of_getElem? (i := 43) rfl))) (Or.inl (hw _ (List.mem_of_getElem? (i := 47) rfl))) (by decide) (t := .boolean) (t' := .int) (by decide) (by decide))))
    have y78 := ((y50.same W61).other W74 (Or.inr (slot_ne (Or.inl (hw _ (List.mem_of_getElem? (i := 45) rfl))) (Or.inl (hw _ (List.mem_of_getElem? (i := 47) rfl))) (by decide) (t := .long) (t' := .int) (by decide) (by decide))))
    have y79 := (y66.other W74 (Or.inr (slot_ne (Or.inl (hw _ (List.mem_of_getElem? (i := 49) rfl))) (Or.inl (hw _ (List.mem_of_getElem? (i := 47) rfl))) (by decide) (t := .int) (t' := .int) (by decide) (by decide))))
    have y80 := (y67.other W74 (Or.inr (slot_ne (Or.inl (hw _ (List.mem_of_getElem? (i := 51) rfl))) (Or.inl (hw _ (List.mem_of_getElem? (i := 47) rfl))) (by decide) (t := .int) (t' := .int) (by decide) (by decide))))
    have y81 := (y68.other W74 (Or.inr (slot_ne (Or.inl (hw _ (List.mem_of_getElem? (i := 53) rfl))) (Or.inl (hw _ (List.mem_of_getElem? (i := 47) rfl))) (by decide) (t := .int) (t' := .int) (by decide) (by decide))))
    have y82 := (y69.other W74 (Or.inr (slot_ne (Or.inl (hw _ (List.mem_of_getElem? (i := 65) rfl))) (Or.inl (hw _ (List.mem_of_getElem? (i := 47) rfl))) (by decide) (t := .boolean) (t' := .int) (by decide) (by decide))))
    have y83 := (y70.other W74 (Or.inr (slot_ne (Or.inl (hw _ (List.mem_of_getElem? (i := 67) rfl))) (Or.inl (hw _ (List.mem_of_getElem? (i := 47) rfl))) (by decide) (t := .int) (t' := .int) (by decide) (by decide))))
    have y84 := (y71.other W74 (Or.inr (slot_ne (Or.inl (hw _ (List.mem_of_getElem? (i := 95) rfl))) (Or.inl (hw _ (List.mem_of_getElem? (i := 47) rfl))) (by decide) (t := .boolean) (t' := .int) (by decide) (by decide))))
    have y85 := (y72.other W74 (Or.inr (slot_ne (Or.inl (hw _ (List.mem_of_getElem? (i := 102) rfl))) (Or.inl (hw _ (List.mem_of_getElem? (i := 47) rfl))) (by decide) (t := .boolean) (t' := .int) (by decide) (by decide))))
    have y86 := (y73.other W74 (Or.inr (slot_ne (Or.inl (hw _ (List.mem_of_getElem? (i := 104) rfl))) (Or.inl (hw _ (List.mem_of_getElem? (i := 47) rfl))) (by decide) (t := .int) (t' := .int) (by decide) (by decide))))
    have y87 := ((y60.other W61 ne_a2_a1).other W74 ne_a2_a1)
    have y88 := (((((y12.wr W16).wr W30).wr W46).wr W61).wr W74)
    have K74 : Keep h0 h74 [a1] := (K61).wr W74 (Or.inl (List.mem_of_getElem? (i := 0) rfl))
    have Z74 : n0 ≤ h74.size := Nat.le_trans Z61 (Keep.of_wr W74).1
    obtain ⟨T89, h89, X89, e89, W89, st89⟩ := putF X74 hx hZ9 hown9 (host := "") (Or.inl (hw _ (List.mem_of_getElem? (i := 48) rfl))) Via.refl e74 y79 ((y47.wr W61).wr W74) (Or.inl (hw _ (List.mem_of_getElem? (i := 49) rfl))) (hw _ (List.mem_of_getElem? (i := 9) rfl)) (ty := .int) (by decide) rfl rfl (g := (mkF m 68 #[.val (.ref a1), .val (.ref a2), .val (.int p3), .val (.int p4), .val (.ref a5)] [(.int p3), (.ref a1)])) rfl rfl (hb hby d2_68)
    have N89 := Fr.snoc X89 N74 g_a1
    have y90 := (y75.other W89 (Or.inr (slot_ne (Or.inr (hw _ (List.mem_of_getElem? (i := 37) rfl))) (Or.inl (hw _ (List.mem_of_getElem? (i := 49) rfl))) (by decide) (t := (.object "java/io/InputStream")) (t' := .int) (by decide) (by decide))))
    have y91 := (y76.other W89 (Or.inr (slot_ne (Or.inl (hw _ (List.mem_of_getElem? (i := 39) rfl))) (Or.inl (hw _ (List.mem_of_getElem? (i := 49) rfl))) (by decide) (t := (.array .byte)) (t' := .int) (by decide) (by decide))))
    have y92 := (y77.other W89 (Or.inr (slot_ne (Or.inr (hw _ (List.mem_of_getElem? (i := 43) rfl))) (Or.inl (hw _ (List.mem_of_getElem? (i := 49) rfl))) (by decide) (t := .boolean) (t' := .int) (by decide) (by decide))))
    have y93 := (y78.other W89 (Or.inr (slot_ne (Or.inl (hw _ (List.mem_of_getElem? (i := 45) rfl))) (Or.inl (hw _ (List.mem_of_getElem? (i := 49) rfl))) (by decide) (t := .long) (t' := .int) (by decide) (by decide))))
    have y94 := ((y65.same W74).other W89 (Or.inr (slot_ne (Or.inl (hw _ (List.mem_of_getElem? (i := 47) rfl))) (Or.inl (hw _ (List.mem_of_getElem? (i := 49) rfl))) (by decide) (t := .int) (t' := .int) (by decide) (by decide))))
    have y95 := (y80.other W89 (Or.inr (slot_ne (Or.inl (hw _ (List.mem_of_getElem? (i := 51) rfl))) (Or.inl (hw _ (List.mem_of_getElem? (i := 49) rfl))) (by decide) (t := .int) (t' := .int) (by decide) (by decide))))
    have y96 := (y81.other W89 (Or.inr (slot_ne (Or.inl (hw _ (List.mem_of_getElem? (i := 53) rfl))) (Or.inl (hw _ (List.mem_of_getElem? (i := 49) rfl))) (by decide) (t := .int) (t' := .int) (by decide) (by decide))))
    have y97 := (y82.other W89 (Or.inr (slot_ne (Or.inl (hw _ (List.mem_of_getElem? (i := 65) rfl))) (Or.inl (hw _ (List.mem_of_getElem? (i := 49) rfl))) (by decide) (t := .boolean) (t' := .int) (by decide) (by decide))))
    have y98 := (y83.other W89 (Or.inr (slot_ne (Or.inl (hw _ (List.mem_of_getElem? (i := 67) rfl))) (Or.inl (hw _ (List.mem_of_getElem? (i := 49) rfl))) (by decide) (t := .int) (t' := .int) (by decide) (by decide))))
    have y99 := (y84.other W89 (Or.inr (slot_ne (Or.inl (hw _ (List.mem_of_getElem? (i := 95) rfl))) (Or.inl (hw _ (List.mem_of_getElem? (i := 49) rfl))) (by decide) (t := .boolean) (t' := .int) (by decide) (by decide))))
    have y100 := (y85.other W89 (Or.inr (slot_ne (Or.inl (hw _ (List.mem_of_getElem? (i := 102) rfl))) (Or.inl (hw _ (List.mem_of_getElem? (i := 49) rfl))) (by decide) (t := .boolean) (t' := .int) (by decide) (by decide))))
    have y101 := (y86.other W89 (Or.inr (slot_ne (Or.inl (hw _ (List.mem_of_getElem? (i := 104) rfl))) (Or.inl (hw _ (List.mem_of_getElem? (i := 49) rfl))) (by decide) (t := .int) (t' := .int) (by decide) (by decide))))
    have K89 : Keep h0 h89 [a1] := (K74).wr W89 (Or.inl (List.mem_of_getElem? (i := 0) rfl))
    have Z89 : n0 ≤ h89.size := Nat.le_trans Z74 (Keep.of_wr W89).1
    obtain ⟨T102, h102, X102, e102, W102, st102⟩ := putF X89 hx hZ9 hown9 (host := "") (Or.inl (hw _ (List.mem_of_getElem? (i := 50) rfl))) Via.refl e89 y95 (((y47.wr W61).wr W74).wr W89) (Or.inl (hw _ (List.mem_of_getElem? (i := 51) rfl))) (hw _ (List.mem_of_getElem? (i := 9) rfl)) (ty := .int) (by decide) rfl rfl (g := (mkF m 73 #[.val (.ref a1), .val (.ref a2), .val (.int p3), .val (.int p4), .val (.ref a5)] [(.int p3), (.ref a1)])) rfl rfl (hb hby d2_73)
    have N102 := Fr.snoc X102 N89 g_a1
    have y103 := (y90.other W102 (Or.inr (slot_ne (Or.inr (hw _ (List.mem_of_getElem? (i := 37) rfl))) (Or.inl (hw _ (List.mem_of_getElem? (i := 51) rfl))) (by decide) (t := (.object "java/io/InputStream")) (t' := .int) (by decide) (by decide))))
    have y104 := (y91.other W102 (Or.inr (slot_ne (Or.inl (hw _ (List.mem_of_getElem? (i := 39) rfl))) (Or.inl (hw _ (List.mem_of_getElem? (i := 51) rfl))) (by decide) (t := (.array .byte)) (t' := .int) (by decide) (by decide))))
    have y105 := (y92.other W102 (Or.inr (slot_ne (Or.inr (hw _ (List.mem_of_getElem? (i := 43) rfl))) (Or.inl (hw _ (List.mem_of_getElem? (i := 51) rfl))) (by decide) (t := .boolean) (t' := .int) (by decide) (by decide))))
    have y106 := (y93.other W102 (Or.inr (slot_ne (Or.inl (hw _ (List.mem_of_getElem? (i := 45) rfl))) (Or.inl (hw _ (List.mem_of_getElem? (i := 51) rfl))) (by decide) (t := .long) (t' := .int) (by decide) (by decide))))
    have y107 := (y94.other W102 (Or.inr (slot_ne (Or.inl (hw _ (List.mem_of_getElem? (i := 47) rfl))) (Or.inl (hw _ (List.mem_of_getElem? (i := 51) rfl))) (by decide) (t := .int) (t' := .int) (by decide) (by decide))))
    have y108 := ((y79.same W89).other W102 (Or.inr (slot_ne (Or.inl (hw _ (List.mem_of_getElem? (i := 49) rfl))) (Or.inl (hw _ (List.mem_of_getElem? (i := 51) rfl))) (by decide) (t := .int) (t' := .int) (by decide) (by decide))))
    have y109 := (y96.other W102 (Or.inr (slot_ne (Or.inl (hw _ (List.mem_of_getElem? (i := 53) rfl))) (Or.inl (hw _ (List.mem_of_getElem? (i := 51) rfl))) (by decide) (t := .int) (t' := .int) (by decide) (by decide))))
    have y110 := (y97.other W102 (Or.inr (slot_ne (Or.inl (hw _ (List.mem_of_getElem? (i := 65) rfl))) (Or.inl (hw _ (List.mem_of_getElem? (i := 51) rfl))) (by decide) (t := .boolean) (t' := .int) (by decide) (by decide))))
    have y111 := (y98.other W102 (Or.inr (slot_ne (Or.inl (hw _ (List.mem_of_getElem? (i := 67) rfl))) (Or.inl (hw _ (List.mem_of_getElem? (i := 51) rfl))) (by decide) (t := .int) (t' := .int) (by decide) (by decide))))
    have y112 := (y99.other W102 (Or.inr (slot_ne (Or.inl (hw _ (List.mem_of_getElem? (i := 95) rfl))) (Or.inl (hw _ (List.mem_of_getElem? (i := 51) rfl))) (by decide) (t := .boolean) (t' := .int) (by decide) (by decide))))
    have y113 := (y100.other W102 (Or.inr (slot_ne (Or.inl (hw _ (List.mem_of_getElem? (i := 102) rfl))) (Or.inl (hw _ (List.mem_of_getElem? (i := 51) rfl))) (by decide) (t := .boolean) (t' := .int) (by decide) (by decide))))
    have y114 := (y101.other W102 (Or.inr (slot_ne (Or.inl (hw _ (List.mem_of_getElem? (i := 104) rfl))) (Or.inl (hw _ (List.mem_of_getElem? (i := 51) rfl))) (by decide) (t := .int) (t' := .int) (by decide) (by decide))))
    have y115 := ((y87.other W89 ne_a2_a1).other W102 ne_a2_a1)
    have K102 : Keep h0 h102 [a1] := (K89).wr W102 (Or.inl (List.mem_of_getElem? (i := 0) rfl))
    have Z102 : n0 ≤ h102.size := Nat.le_trans Z89 (Keep.of_wr W102).1
    obtain ⟨T116, h116, X116, e116, W116, st116⟩ := putF X102 hx hZ9 hown9 (host := "") (Or.inl (hw _ (List.mem_of_getElem? (i := 52) rfl))) Via.refl e102 y109 ((((y47.wr W61).wr W74).wr W89).wr W102) (Or.inl (hw _ (List.mem_of_getElem? (i := 53) rfl))) (hw _ (List.mem_of_getElem? (i := 9) rfl)) (ty := .int) (by decide) rfl rfl (g := (mkF m 78 #[.val (.ref a1), .val (.ref a2), .val (.int p3), .val (.int p4), .val (.ref a5)] [(.int p3), (.ref a1)])) rfl rfl (hb hby d2_78)
    have N116 := Fr.snoc X116 N102 g_a1
    have y117 := (((((y47.wr W61).wr W74).wr W89).wr W102).wr W116)
    have y118 := (y103.other W116 (Or.inr (slot_ne (Or.inr (hw _ (List.mem_of_getElem? (i := 37) rfl))) (Or.inl (hw _ (List.mem_of_getElem? (i := 53) rfl))) (by decide) (t := (.object "java/io/InputStream")) (t' := .int) (by decide) (by decide))))
    have y119 := (y104.other W116 (Or.inr (slot_ne (Or.inl (hw _ (List.mem_of_getElem? (i := 39) rfl))) (Or.inl (hw _ (List.mem_of_getElem? (i := 53) rfl))) (by decide) (t := (.array .byte)) (t' := .int) (by decide) (by decide))))
    have y120 := (y105.other W116 (Or.inr (slot_ne (Or.inr (hw _ (List.mem_of_getElem? (i := 43) rfl))) (Or.inl (hw _ (List.mem_of_getElem? (i := 53) rfl))) (by decide) (t := .boolean) (t' := .int) (by decide) (by decide))))
    have y121 := (y106.other W116 (Or.inr (slot_ne (Or.inl (hw _ (List.mem_of_getElem? (i := 45) rfl))) (Or.inl (hw _ (List.mem_of_getElem? (i := 53) rfl))) (by decide) (t := .long) (t' := .int) (by decide) (by decide))))
    have y122 := (y107.other W116 (Or.inr (slot_ne (Or.inl (hw _ (List.mem_of_getElem? (i := 47) rfl))) (Or.inl (hw _ (List.mem_of_getElem? (i := 53) rfl))) (by decide) (t := .int) (t' := .int) (by decide) (by decide))))
    have y123 := (y108.other W116 (Or.inr (slot_ne (Or.inl (hw _ (List.mem_of_getElem? (i := 49) rfl))) (Or.inl (hw _ (List.mem_of_getElem? (i := 53) rfl))) (by decide) (t := .int) (t' := .int) (by decide) (by decide))))
    have y124 := ((y95.same W102).other W116 (Or.inr (slot_ne (Or.inl (hw _ (List.mem_of_getElem? (i := 51) rfl))) (Or.inl (hw _ (List.mem_of_getElem? (i := 53) rfl))) (by decide) (t := .int) (t' := .int) (by decide) (by decide))))
    have y125 := (y110.other W116 (Or.inr (slot_ne (Or.inl (hw _ (List.mem_of_getElem? (i := 65) rfl))) (Or.inl (hw _ (List.mem_of_getElem? (i := 53) rfl))) (by decide) (t := .boolean) (t' := .int) (by decide) (by decide))))
    have y126 := (y111.other W116 (Or.inr (slot_ne (Or.inl (hw _ (List.mem_of_getElem? (i := 67) rfl))) (Or.inl (hw _ (List.mem_of_getElem? (i := 53) rfl))) (by decide) (t := .int) (t' := .int) (by decide) (by decide))))
    have y127 := (y112.other W116 (Or.inr (slot_ne (Or.inl (hw _ (List.mem_of_getElem? (i := 95) rfl))) (Or.inl (hw _ (List.mem_of_getElem? (i := 53) rfl))) (by decide) (t := .boolean) (t' := .int) (by decide) (by decide))))
    have y128 := (y113.other W116 (Or.inr (slot_ne (Or.inl (hw _ (List.mem_of_getElem? (i := 102) rfl))) (Or.inl (hw _ (List.mem_of_getElem? (i := 53) rfl))) (by decide) (t := .boolean) (t' := .int) (by decide) (by decide))))
    have y129 := (y114.other W116 (Or.inr (slot_ne (Or.inl (hw _ (List.mem_of_getElem? (i := 104) rfl))) (Or.inl (hw _ (List.mem_of_getElem? (i := 53) rfl))) (by decide) (t := .int) (t' := .int) (by decide) (by decide))))
    have K116 : Keep h0 h116 [a1] := (K102).wr W116 (Or.inl (List.mem_of_getElem? (i := 0) rfl))
    have Z116 : n0 ≤ h116.size := Nat.le_trans Z102 (Keep.of_wr W116).1
    obtain ⟨fs, hr, hrun, hended, hEW⟩ := X116.leaveW hS9 (by rw [e116]; exact (Nat.le_trans (Nat.le_trans (Nat.le_trans (Nat.le_trans (Nat.le_trans (Nat.le_trans (Nat.le_trans (Nat.le_trans hk9 (Keep.of_wr W16).1) (Keep.of_wr W30).1) (Keep.of_wr W46).1) (Keep.of_wr W61).1) (Keep.of_wr W74).1) (Keep.of_wr W89).1) (Keep.of_wr W102).1) (Keep.of_wr W116).1)) (v := none) (fun _ => rfl)
    refine ⟨_, _, pre45 _ ?_, hrun, hended, _, _, rfl, ?_, ⟨_, rfl⟩, hEW.2.1, hEW.2.2.1, hEW.2.2.2.mono (by decide) (by decide)⟩
    · show Steps p.tables e below (T43.setTop (mkF m 43 #[.val (.ref a1), .val (.ref a2), .val (.int p3), .val (.int p4), .val (.ref a5)] [(.ref st_CARRIAGE_RETURN_OR_LINE_FEED), (.ref a5), (.ref a1)])) _
      refine Jvm.RoadKit.acmp (g := (mkF m 43 #[.val (.ref a1), .val (.ref a2), .val (.int p3), .val (.int p4), .val (.ref a5)] [(.ref st_CARRIAGE_RETURN_OR_LINE_FEED), (.ref a5), (.ref a1)])) X43 hx rfl rfl rfl (pc0 := 43) (pc' := 46) (same := true) rfl (hb hby d2_43) rfl (decide_eq_true (congrArg Value.ref hc43_44)) (by decide) (by decide) ?_
      show Steps p.tables e below (T43.setTop (mkF m 46 #[.val (.ref a1), .val (.ref a2), .val (.int p3), .val (.int p4), .val (.ref a5)] [(.ref a1)])) _
      refine XS.iconst X43.here hx rfl (hb hby d2_46) ?_
      show Steps p.tables e below (T43.setTop (mkF m 47 #[.val (.ref a1), .val (.ref a2), .val (.int p3), .val (.int p4), .val (.ref a5)] [(.int (1 : Int32)), (.ref a1)])) _
      refine XS.goto X43.here hx rfl (pc0 := 47) (pc' := 51) rfl (hb hby d2_47) (by decide) (by decide) ?_
      show Steps p.tables e below (T43.setTop (mkF m 51 #[.val (.ref a1), .val (.ref a2), .val (.int p3), .val (.int p4), .val (.ref a5)] [(.int (1 : Int32)), (.ref a1)])) _
      refine st46 _ ?_
      show Steps p.tables e below (T46.setTop (mkF m 54 #[.val (.ref a1), .val (.ref a2), .val (.int p3), .val (.int p4), .val (.ref a5)] [])) _
      refine XS.aloadN X46.here hx rfl (hb hby d2_54) rfl rfl ?_
      show Steps p.tables e below (T46.setTop (mkF m 55 #[.val (.ref a1), .val (.ref a2), .val (.int p3), .val (.int p4), .val (.ref a5)] [(.ref a1)])) _
      refine XS.iloadN X46.here hx rfl (hb hby d2_55) rfl ?_
      show Steps p.tables e below (T46.setTop (mkF m 56 #[.val (.ref a1), .val (.ref a2), .val (.int p3), .val (.int p4), .val (.ref a5)] [(.int p3), (.ref a1)])) _
      refine XS.ineg X46.here hx rfl (hb hby d2_56) rfl ?_
      show Steps p.tables e below (T46.setTop (mkF m 57 #[.val (.ref a1), .val (.ref a2), .val (.int p3), .val (.int p4), .val (.ref a5)] [(.int (-p3)), (.ref a1)])) _
      refine XS.i2l X46.here hx rfl (hb hby d2_57) rfl ?_
      show Steps p.tables e below (T46.setTop (mkF m 58 #[.val (.ref a1), .val (.ref a2), .val (.int p3), .val (.int p4), .val (.ref a5)] [(.long ((-p3).toInt64)), (.ref a1)])) _
      refine st61 _ ?_
      show Steps p.tables e below (T61.setTop (mkF m 61 #[.val (.ref a1), .val (.ref a2), .val (.int p3), .val (.int p4), .val (.ref a5)] [])) _
      refine XS.aloadN X61.here hx rfl (hb hby d2_61) rfl rfl ?_
      show Steps p.tables e below (T61.setTop (mkF m 62 #[.val (.ref a1), .val (.ref a2), .val (.int p3), .val (.int p4), .val (.ref a5)] [(.ref a1)])) _
      refine XS.iloadN X61.here hx rfl (hb hby d2_62) rfl ?_
      show Steps p.tables e below (T61.setTop (mkF m 63 #[.val (.ref a1), .val (.ref a2), .val (.int p3), .val (.int p4), .val (.ref a5)] [(.int p4), (.ref a1)])) _
      refine st74 _ ?_
      show Steps p.tables e below (T74.setTop (mkF m 66 #[.val (.ref a1), .val (.ref a2), .val (.int p3), .val (.int p4), .val (.ref a5)] [])) _
      refine XS.aloadN X74.here hx rfl (hb hby d2_66) rfl rfl ?_
      show Steps p.tables e below (T74.setTop (mkF m 67 #[.val (.ref a1), .val (.ref a2), .val (.int p3), .val (.int p4), .val (.ref a5)] [(.ref a1)])) _
      refine XS.iloadN X74.here hx rfl (hb hby d2_67) rfl ?_
      show Steps p.tables e below (T74.setTop (mkF m 68 #[.val (.ref a1), .val (.ref a2), .val (.int p3), .val (.int p4), .val (.ref a5)] [(.int p3), (.ref a1)])) _
      refine st89 _ ?_
      show Steps p.tables e below (T89.setTop (mkF m 71 #[.val (.ref a1), .val (.ref a2), .val (.int p3), .val (.int p4), .val (.ref a5)] [])) _
      refine XS.aloadN X89.here hx rfl (hb hby d2_71) rfl rfl ?_
      show Steps p.tables e below (T89.setTop (mkF m 72 #[.val (.ref a1), .val (.ref a2), .val (.int p3), .val (.int p4), .val (.ref a5)] [(.ref a1)])) _
      refine XS.iloadN X89.here hx rfl (hb hby d2_72) rfl ?_
      show Steps p.tables e below (T89.setTop (mkF m 73 #[.val (.ref a1), .val (.ref a2), .val (.int p3), .val (.int p4), .val (.ref a5)] [(.int p3), (.ref a1)])) _
      refine st102 _ ?_
      show Steps p.tables e below (T102.setTop (mkF m 76 #[.val (.ref a1), .val (.ref a2), .val (.int p3), .val (.int p4), .val (.ref a5)] [])) _
      refine XS.aloadN X102.here hx rfl (hb hby d2_76) rfl rfl ?_
      show Steps p.tables e below (T102.setTop (mkF m 77 #[.val (.ref a1), .val (.ref a2), .val (.int p3), .val (.int p4), .val (.ref a5)] [(.ref a1)])) _
      refine XS.iloadN X102.here hx rfl (hb hby d2_77) rfl ?_
      show Steps p.tables e below (T102.setTop (mkF m 78 #[.val (.ref a1), .val (.ref a2), .val (.int p3), .val (.int p4), .val (.ref a5)] [(.int p3), (.ref a1)])) _
      refine st116 _ ?_
      show Steps p.tables e below (T116.setTop (mkF m 81 #[.val (.ref a1), .val (.ref a2), .val (.int p3), .val (.int p4), .val (.ref a5)] [])) _
      exact X116.returnOut hx Bd.returns (hb hby d2_81) hr
    · show Q2 Z a1 a2 p3 p4 a5 w_carriageReturnEnds_a1 w_base_a1 w_limit_a1 w_start_a1 w_end_a1 w_next_a1 w_keeping_a1 w_kept_a1 w_ended_a1 w_afterCarriageReturn_a1 w_number_a1 k_a2 vl_a2 st_CARRIAGE_RETURN_OR_LINE_FEED h0 n0 _ T116.heap _
      rw [e116]
      exact ⟨rfl, N116, (K116), y117, y118, y119, (by have qf : F2_carriageReturnEnds_a1 a5 st_CARRIAGE_RETURN_OR_LINE_FEED = (1 : Int32) := (by unfold F2_carriageReturnEnds_a1; rw [if_pos hc43_44]); rw [qf]; exact y120), y121, y122, y123, y124, (y109.same W116), y125, y126, y127, y128, y129⟩
  · obtain ⟨T130, h130, X130, e130, W130, st130⟩ := putFN X43 hx hZ9 hown9 (hw _ (List.mem_of_getElem? (i := 42) rfl)) Via.refl e43 y32 ((((E_a1.ext E7).ext E9).wr W16).wr W30) (Or.inr ⟨(hw _ (List.mem_of_getElem? (i := 43) rfl)), rfl, hnm⟩) (hw _ (List.mem_of_getElem? (i := 9) rfl)) (ty := .boolean) (v' := (.int (0 : Int32))) (by decide) rfl rfl (g := (mkF m 51 #[.val (.ref a1), .val (.ref a2), .val (.int p3), .val (.int p4), .val (.ref a5)] [(.int (0 : Int32)), (.ref a1)])) rfl rfl (hb hby d2_51)
    have N130 := Fr.snoc X130 N30 g_a1
    have y131 := (((((E_a1.ext E7).ext E9).wr W16).wr W30).wr W130)
    have y132 := (y31.other W130 (Or.inr (slot_ne (Or.inr (hw _ (List.mem_of_getElem? (i := 37) rfl))) (Or.inr (hw _ (List.mem_of_getElem? (i := 43) rfl))) (by decide) (t := (.object "java/io/InputStream")) (t' := .boolean) (by decide) (by decide))))
    have y133 := ((y17.same W30).other W130 (Or.inr (slot_ne (Or.inl (hw _ (List.mem_of_getElem? (i := 39) rfl))) (Or.inr (hw _ (List.mem_of_getElem? (i := 43) rfl))) (by decide) (t := (.array .byte)) (t' := .boolean) (by decide) (by decide))))
    have y134 := (y33.other W130 (Or.inr (slot_ne (Or.inl (hw _ (List.mem_of_getElem? (i := 45) rfl))) (Or.inr (hw _ (List.mem_of_getElem? (i := 43) rfl))) (by decide) (t := .long) (t' := .boolean) (by decide) (by decide))))
    have y135 := (y34.other W130 (Or.inr (slot_ne (Or.inl (hw _ (List.mem_of_getElem? (i := 47) rfl))) (Or.inr (hw _ (List.mem_of_getElem? (i := 43) rfl))) (by decide) (t := .int) (t' := .boolean) (by decide) (by decide))))
    have y136 := (y35.other W130 (Or.inr (slot_ne (Or.inl (hw _ (List.mem_of_getElem? (i := 49) rfl))) (Or.inr (hw _ (List.mem_of_getElem? (i := 43) rfl))) (by decide) (t := .int) (t' := .boolean) (by decide) (by decide))))
    have y137 := (y36.other W130 (Or.inr (slot_ne (Or.inl (hw _ (List.mem_of_getElem? (i := 51) rfl))) (Or.inr (hw _ (List.mem_of_getElem? (i := 43) rfl))) (by decide) (t := .int) (t' := .boolean) (by decide) (by decide))))
    have y138 := (y37.other W130 (Or.inr (slot_ne (Or.inl (hw _ (List.mem_of_getElem? (i := 53) rfl))) (Or.inr (hw _ (List.mem_of_getElem? (i := 43) rfl))) (by decide) (t := .int) (t' := .boolean) (by decide) (by decide))))
    have y139 := (y38.other W130 (Or.inr (slot_ne (Or.inl (hw _ (List.mem_of_getElem? (i := 65) rfl))) (Or.inr (hw _ (List.mem_of_getElem? (i := 43) rfl))) (by decide) (t := .boolean) (t' := .boolean) (by decide) (by decide))))
    have y140 := (y39.other W130 (Or.inr (slot_ne (Or.inl (hw _ (List.mem_of_getElem? (i := 67) rfl))) (Or.inr (hw _ (List.mem_of_getElem? (i := 43) rfl))) (by decide) (t := .int) (t' := .boolean) (by decide) (by decide))))
    have y141 := (y40.other W130 (Or.inr (slot_ne (Or.inl (hw _ (List.mem_of_getElem? (i := 95) rfl))) (Or.inr (hw _ (List.mem_of_getElem? (i := 43) rfl))) (by decide) (t := .boolean) (t' := .boolean) (by decide) (by decide))))
    have y142 := (y41.other W130 (Or.inr (slot_ne (Or.inl (hw _ (List.mem_of_getElem? (i := 102) rfl))) (Or.inr (hw _ (List.mem_of_getElem? (i := 43) rfl))) (by decide) (t := .boolean) (t' := .boolean) (by decide) (by decide))))
    have y143 := (y42.other W130 (Or.inr (slot_ne (Or.inl (hw _ (List.mem_of_getElem? (i := 104) rfl))) (Or.inr (hw _ (List.mem_of_getElem? (i := 43) rfl))) (by decide) (t := .int) (t' := .boolean) (by decide) (by decide))))
    have y144 := ((y29.other W30 ne_a2_a1).other W130 ne_a2_a1)
    have K130 : Keep h0 h130 [a1] := (K30).wr W130 (Or.inl (List.mem_of_getElem? (i := 0) rfl))
    have Z130 : n0 ≤ h130.size := Nat.le_trans Z30 (Keep.of_wr W130).1
    obtain ⟨T145, h145, X145, e145, W145, st145⟩ := putF X130 hx hZ9 hown9 (host := "") (Or.inl (hw _ (List.mem_of_getElem? (i := 44) rfl))) Via.refl e130 y134 y131 (Or.inl (hw _ (List.mem_of_getElem? (i := 45) rfl))) (hw _ (List.mem_of_getElem? (i := 9) rfl)) (ty := .long) (by decide) rfl rfl (g := (mkF m 58 #[.val (.ref a1), .val (.ref a2), .val (.int p3), .val (.int p4), .val (.ref a5)] [(.long ((-p3).toInt64)), (.ref a1)])) rfl rfl (hb hby d2_58)
    have N145 := Fr.snoc X145 N130 g_a1
    have y146 := (y132.other W145 (Or.inr (slot_ne (Or.inr (hw _ (List.mem_of_getElem? (i := 37) rfl))) (Or.inl (hw _ (List.mem_of_getElem? (i := 45) rfl))) (by decide) (t := (.object "java/io/InputStream")) (t' := .long) (by decide) (by decide))))
    have y147 := (y133.other W145 (Or.inr (slot_ne (Or.inl (hw _ (List.mem_of_getElem? (i := 39) rfl))) (Or.inl (hw _ (List.mem_of_getElem? (i := 45) rfl))) (by decide) (t := (.array .byte)) (t' := .long) (by decide) (by decide))))
    have y148 := ((y32.same W130).other W145 (Or.inr (slot_ne (Or.inr (hw _ (List.mem_of_getElem? (i := 43) rfl))) (Or.inl (hw _ (List.mem_of_getElem? (i := 45) rfl))) (by decide) (t := .boolean) (t' := .long) (by decide) (by decide))))
    have y149 := (y135.other W145 (Or.inr (slot_ne (Or.inl (hw _ (List.mem_of_getElem? (i := 47) rfl))) (Or.inl (hw _ (List.mem_of_getElem? (i := 45) rfl))) (by decide) (t := .int) (t' := .long) (by decide) (by decide))))
    have y150 := (y136.other W145 (Or.inr (slot_ne (Or.inl (hw _ (List.mem_of_getElem? (i := 49) rfl))) (Or.inl (hw _ (List.mem_of_getElem? (i := 45) rfl))) (by decide) (t := .int) (t' := .long) (by decide) (by decide))))
    have y151 := (y137.other W145 (Or.inr (slot_ne (Or.inl (hw _ (List.mem_of_getElem? (i := 51) rfl))) (Or.inl (hw _ (List.mem_of_getElem? (i := 45) rfl))) (by decide) (t := .int) (t' := .long) (by decide) (by decide))))
    have y152 := (y138.other W145 (Or.inr (slot_ne (Or.inl (hw _ (List.mem_of_getElem? (i := 53) rfl))) (Or.inl (hw _ (List.mem_of_getElem? (i := 45) rfl))) (by decide) (t := .int) (t' := .long) (by decide) (by decide))))
    have y153 := (y139.other W145 (Or.inr (slot_ne (Or.inl (hw _ (List.mem_of_getElem? (i := 65) rfl))) (Or.inl (hw _ (List.mem_of_getElem? (i := 45) rfl))) (by decide) (t := .boolean) (t' := .long) (by decide) (by decide))))
    have y154 := (y140.other W145 (Or.inr (slot_ne (Or.inl (hw _ (List.mem_of_getElem? (i := 67) rfl))) (Or.inl (hw _ (List.mem_of_getElem? (i := 45) rfl))) (by decide) (t := .int) (t' := .long) (by decide) (by decide))))
    have y155 := (y141.other W145 (Or.inr (slot_ne (Or.inl (hw _ (List.mem_of_getElem? (i := 95) rfl))) (Or.inl (hw _ (List.mem_of_getElem? (i := 45) rfl))) (by decide) (t := .boolean) (t' := .long) (by decide) (by decide))))
    have y156 := (y142.other W145 (Or.inr (slot_ne (Or.inl (hw _ (List.mem_of_getElem? (i := 102) rfl))) (Or.inl (hw _ (List.mem_of_getElem? (i := 45) rfl))) (by decide) (t := .boolean) (t' := .long) (by decide) (by decide))))
    have y157 := (y143.other W145 (Or.inr (slot_ne (Or.inl (hw _ (List.mem_of_getElem? (i := 104) rfl))) (Or.inl (hw _ (List.mem_of_getElem? (i := 45) rfl))) (by decide) (t := .int) (t' := .long) (by decide) (by decide))))
    have y158 := ((((y12.wr W16).wr W30).wr W130).wr W145)
    have K145 : Keep h0 h145 [a1] := (K130).wr W145 (Or.inl (List.mem_of_getElem? (i := 0) rfl))
    have Z145 : n0 ≤ h145.size := Nat.le_trans Z130 (Keep.of_wr W145).1
    obtain ⟨T159, h159, X159, e159, W159, st159⟩ := putF X145 hx hZ9 hown9 (host := "") (Or.inl (hw _ (List.mem_of_getElem? (i := 46) rfl))) Via.refl e145 y149 (y131.wr W145) (Or.inl (hw _ (List.mem_of_getElem? (i := 47) rfl))) (hw _ (List.mem_of_getElem? (i := 9) rfl)) (ty := .int) (by decide) rfl rfl (g := (mkF m 63 #[.val (.ref a1), .val (.ref a2), .val (.int p3), .val (.int p4), .val (.ref a5)] [(.int p4), (.ref a1)])) rfl rfl (hb hby d2_63)
    have N159 := Fr.snoc X159 N145 g_a1
    have y160 := (y146.other W159 (Or.inr (slot_ne (Or.inr (hw _ (List.mem_of_getElem? (i := 37) rfl))) (Or.inl (hw _ (List.mem_of_getElem? (i := 47) rfl))) (by decide) (t := (.object "java/io/InputStream")) (t' := .int) (by decide) (by decide))))
    have y161 := (y147.other W159 (Or.inr (slot_ne (Or.inl (hw _ (List.mem_of_getElem? (i := 39) rfl))) (Or.inl (hw _ (List.mem_of_getElem? (i := 47) rfl))) (by decide) (t := (.array .byte)) (t' := .int) (by decide) (by decide))))
    have y162 := (y148.other W159 (Or.inr (slot_ne (Or.inr (hw _ (List.mem_of_getElem? (i := 43) rfl))) (Or.inl (hw _ (List.mem_of_getElem? (i := 47) rfl))) (by decide) (t := .boolean) (t' := .int) (by decide) (by decide))))
    have y163 := ((y134.same W145).other W159 (Or.inr (slot_ne (Or.inl (hw _ (List.mem_of_getElem? (i := 45) rfl))) (Or.inl (hw _ (List.mem_of_getElem? (i := 47) rfl))) (by decide) (t := .long) (t' := .int) (by decide) (by decide))))
    have y164 := (y150.other W159 (Or.inr (slot_ne (Or.inl (hw _ (List.mem_of_getElem? (i := 49) rfl))) (Or.inl (hw _ (List.mem_of_getElem? (i := 47) rfl))) (by decide) (t := .int) (t' := .int) (by decide) (by decide))))
    have y165 := (y151.other W159 (Or.inr (slot_ne (Or.inl (hw _ (List.mem_of_getElem? (i := 51) rfl))) (Or.inl (hw _ (List.mem_of_getElem? (i := 47) rfl))) (by decide) (t := .int) (t' := .int) (by decide) (by decide))))
    have y166 := (y152.other W159 (Or.inr (slot_ne (Or.inl (hw _ (List.mem_of_getElem? (i := 53) rfl))) (Or.inl (hw _ (List.mem_of_getElem? (i := 47) rfl))) (by decide) (t := .int) (t' := .int) (by decide) (by decide))))
    have y167 := (y153.other W159 (Or.inr (slot_ne (Or.inl (hw _ (List.mem_of_getElem? (i := 65) rfl))) (Or.inl (hw _ (List.mem_of_getElem? (i := 47) rfl))) (by decide) (t := .boolean) (t' := .int) (by decide) (by decide))))
    have y168 := (y154.other W159 (Or.inr (slot_ne (Or.inl (hw _ (List.mem_of_getElem? (i := 67) rfl))) (Or.inl (hw _ (List.mem_of_getElem? (i := 47) rfl))) (by decide) (t := .int) (t' := .int) (by decide) (by decide))))
    have y169 := (y155.other W159 (Or.inr (slot_ne (Or.inl (hw _ (List.mem_of_getElem? (i := 95) rfl))) (Or.inl (hw _ (List.mem_of_getElem? (i := 47) rfl))) (by decide) (t := .boolean) (t' := .int) (by decide) (by decide))))
    have y170 := (y156.other W159 (Or.inr (slot_ne (Or.inl (hw _ (List.mem_of_getElem? (i := 102) rfl))) (Or.inl (hw _ (List.mem_of_getElem? (i := 47) rfl))) (by decide) (t := .boolean) (t' := .int) (by decide) (by decide))))
    have y171 := (y157.other W159 (Or.inr (slot_ne (Or.inl (hw _ (List.mem_of_getElem? (i := 104) rfl))) (Or.inl (hw _ (List.mem_of_getElem? (i := 47) rfl))) (by decide) (t := .int) (t' := .int) (by decide) (by decide))))
    have y172 := ((y144.other W145 ne_a2_a1).other W159 ne_a2_a1)
    have K159 : Keep h0 h159 [a1] := (K145).wr W159 (Or.inl (List.mem_of_getElem? (i := 0) rfl))
    have Z159 : n0 ≤ h159.size := Nat.le_trans Z145 (Keep.of_wr W159).1
    obtain ⟨T173, h173, X173, e173, W173, st173⟩ := putF X159 hx hZ9 hown9 (host := "") (Or.inl (hw _ (List.mem_of_getElem? (i := 48) rfl))) Via.refl e159 y164 ((y131.wr W145).wr W159) (Or.inl (hw _ (List.mem_of_getElem? (i := 49) rfl))) (hw _ (List.mem_of_getElem? (i := 9) rfl)) (ty := .int) (by decide) rfl rfl (g := (mkF m 68 #[.val (.ref a1), .val (.ref a2), .val (.int p3), .val (.int p4), .val (.ref a5)] [(.int p3), (.ref a1)])) rfl rfl (hb hby d2_68)
    have N173 := Fr.snoc X173 N159 g_a1
    have y174 := (y160.other W173 (Or.inr (slot_ne (Or.inr (hw _ (List.mem_of_getElem? (i := 37) rfl))) (Or.inl (hw _ (List.mem_of_getElem? (i := 49) rfl))) (by decide) (t := (.object "java/io/InputStream")) (t' := .int) (by decide) (by decide))))
    have y175 := (y161.other W173 (Or.inr (slot_ne (Or.inl (hw _ (List.mem_of_getElem? (i := 39) rfl))) (Or.inl (hw _ (List.mem_of_getElem? (i := 49) rfl))) (by decide) (t := (.array .byte)) (t' := .int) (by decide) (by decide))))
    have y176 := (y162.other W173 (Or.inr (slot_ne (Or.inr (hw _ (List.mem_of_getElem? (i := 43) rfl))) (Or.inl (hw _ (List.mem_of_getElem? (i := 49) rfl))) (by decide) (t := .boolean) (t' := .int) (by decide) (by decide))))
    have y177 := (y163.other W173 (Or.inr (slot_ne (Or.inl (hw _ (List.mem_of_getElem? (i := 45) rfl))) (Or.inl (hw _ (List.mem_of_getElem? (i := 49) rfl))) (by decide) (t := .long) (t' := .int) (by decide) (by decide))))
    have y178 := ((y149.same W159).other W173 (Or.inr (slot_ne (Or.inl (hw _ (List.mem_of_getElem? (i := 47) rfl))) (Or.inl (hw _ (List.mem_of_getElem? (i := 49) rfl))) (by decide) (t := .int) (t' := .int) (by decide) (by decide))))
    have y179 := (y165.other W173 (Or.inr (slot_ne (Or.inl (hw _ (List.mem_of_getElem? (i := 51) rfl))) (Or.inl (hw _ (List.mem_of_getElem? (i := 49) rfl))) (by decide) (t := .int) (t' := .int) (by decide) (by decide))))
    have y180 := (y166.other W173 (Or.inr (slot_ne (Or.inl (hw _ (List.mem_of_getElem? (i := 53) rfl))) (Or.inl (hw _ (List.mem_of_getElem? (i := 49) rfl))) (by decide) (t := .int) (t' := .int) (by decide) (by decide))))
    have y181 := (y167.other W173 (Or.inr (slot_ne (Or.inl (hw _ (List.mem_of_getElem? (i := 65) rfl))) (Or.inl (hw _ (List.mem_of_getElem? (i := 49) rfl))) (by decide) (t := .boolean) (t' := .int) (by decide) (by decide))))
    have y182 := (y168.other W173 (Or.inr (slot_ne (Or.inl (hw _ (List.mem_of_getElem? (i := 67) rfl))) (Or.inl (hw _ (List.mem_of_getElem? (i := 49) rfl))) (by decide) (t := .int) (t' := .int) (by decide) (by decide))))
    have y183 := (y169.other W173 (Or.inr (slot_ne (Or.inl (hw _ (List.mem_of_getElem? (i := 95) rfl))) (Or.inl (hw _ (List.mem_of_getElem? (i := 49) rfl))) (by decide) (t := .boolean) (t' := .int) (by decide) (by decide))))
    have y184 := (y170.other W173 (Or.inr (slot_ne (Or.inl (hw _ (List.mem_of_getElem? (i := 102) rfl))) (Or.inl (hw _ (List.mem_of_getElem? (i := 49) rfl))) (by decide) (t := .boolean) (t' := .int) (by decide) (by decide))))
    have y185 := (y171.other W173 (Or.inr (slot_ne (Or.inl (hw _ (List.mem_of_getElem? (i := 104) rfl))) (Or.inl (hw _ (List.mem_of_getElem? (i := 49) rfl))) (by decide) (t := .int) (t' := .int) (by decide) (by decide))))
    have K173 : Keep h0 h173 [a1] := (K159).wr W173 (Or.inl (List.mem_of_getElem? (i := 0) rfl))
    have Z173 : n0 ≤ h173.size := Nat.le_trans Z159 (Keep.of_wr W173).1
    obtain ⟨T186, h186, X186, e186, W186, st186⟩ := putF X173 hx hZ9 hown9 (host := "") (Or.inl (hw _ (List.mem_of_getElem? (i := 50) rfl))) Via.refl e173 y179 (((y131.wr W145).wr W159).wr W173) (Or.inl (hw _ (List.mem_of_getElem? (i := 51) rfl))) (hw _ (List.mem_of_getElem? (i := 9) rfl)) (ty := .int) (by decide) rfl rfl (g := (mkF m 73 #[.val (.ref a1), .val (.ref a2), .val (.int p3), .val (.int p4), .val (.ref a5)] [(.int p3), (.ref a1)])) rfl rfl (hb hby d2_73)
    have N186 := Fr.snoc X186 N173 g_a1
    have y187 := ((((y131.wr W145).wr W159).wr W173).wr W186)
    have y188 := (y174.other W186 (Or.inr (slot_ne (Or.inr (hw _ (List.mem_of_getElem? (i := 37) rfl))) (Or.inl (hw _ (List.mem_of_getElem? (i := 51) rfl))) (by decide) (t := (.object "java/io/InputStream")) (t' := .int) (by decide) (by decide))))
    have y189 := (y175.other W186 (Or.inr (slot_ne (Or.inl (hw _ (List.mem_of_getElem? (i := 39) rfl))) (Or.inl (hw _ (List.mem_of_getElem? (i := 51) rfl))) (by decide) (t := (.array .byte)) (t' := .int) (by decide) (by decide))))
    have y190 := (y176.other W186 (Or.inr (slot_ne (Or.inr (hw _ (List.mem_of_getElem? (i := 43) rfl))) (Or.inl (hw _ (List.mem_of_getElem? (i := 51) rfl))) (by decide) (t := .boolean) (t' := .int) (by decide) (by decide))))
    have y191 := (y177.other W186 (Or.inr (slot_ne (Or.inl (hw _ (List.mem_of_getElem? (i := 45) rfl))) (Or.inl (hw _ (List.mem_of_getElem? (i := 51) rfl))) (by decide) (t := .long) (t' := .int) (by decide) (by decide))))
    have y192 := (y178.other W186 (Or.inr (slot_ne (Or.inl (hw _ (List.mem_of_getElem? (i := 47) rfl))) (Or.inl (hw _ (List.mem_of_getElem? (i := 51) rfl))) (by decide) (t := .int) (t' := .int) (by decide) (by decide))))
    have y193 := ((y164.same W173).other W186 (Or.inr (slot_ne (Or.inl (hw _ (List.mem_of_getElem? (i := 49) rfl))) (Or.inl (hw _ (List.mem_of_getElem? (i := 51) rfl))) (by decide) (t := .int) (t' := .int) (by decide) (by decide))))
    have y194 := (y180.other W186 (Or.inr (slot_ne (Or.inl (hw _ (List.mem_of_getElem? (i := 53) rfl))) (Or.inl (hw _ (List.mem_of_getElem? (i := 51) rfl))) (by decide) (t := .int) (t' := .int) (by decide) (by decide))))
    have y195 := (y181.other W186 (Or.inr (slot_ne (Or.inl (hw _ (List.mem_of_getElem? (i := 65) rfl))) (Or.inl (hw _ (List.mem_of_getElem? (i := 51) rfl))) (by decide) (t := .boolean) (t' := .int) (by decide) (by decide))))
    have y196 := (y182.other W186 (Or.inr (slot_ne (Or.inl (hw _ (List.mem_of_getElem? (i := 67) rfl))) (Or.inl (hw _ (List.mem_of_getElem? (i := 51) rfl))) (by decide) (t := .int) (t' := .int) (by decide) (by decide))))
    have y197 := (y183.other W186 (Or.inr (slot_ne (Or.inl (hw _ (List.mem_of_getElem? (i := 95) rfl))) (Or.inl (hw _ (List.mem_of_getElem? (i := 51) rfl))) (by decide) (t := .boolean) (t' := .int) (by decide) (by decide))))
    have y198 := (y184.other W186 (Or.inr (slot_ne (Or.inl (hw _ (List.mem_of_getElem? (i := 102) rfl))) (Or.inl (hw _ (List.mem_of_getElem? (i := 51) rfl))) (by decide) (t := .boolean) (t' := .int) (by decide) (by decide))))
    have y199 := (y185.other W186 (Or.inr (slot_ne (Or.inl (hw _ (List.mem_of_getElem? (i := 104) rfl))) (Or.inl (hw _ (List.mem_of_getElem? (i := 51) rfl))) (by decide) (t := .int) (t' := .int) (by decide) (by decide))))
    have y200 := ((y172.other W173 ne_a2_a1).other W186 ne_a2_a1)
    have K186 : Keep h0 h186 [a1] := (K173).wr W186 (Or.inl (List.mem_of_getElem? (i := 0) rfl))
    have Z186 : n0 ≤ h186.size := Nat.le_trans Z173 (Keep.of_wr W186).1
    obtain ⟨T201, h201, X201, e201, W201, st201⟩ := putF X186 hx hZ9 hown9 (host := "") (Or.inl (hw _ (List.mem_of_getElem? (i := 52) rfl))) Via.refl e186 y194 y187 (Or.inl (hw _ (List.mem_of_getElem? (i := 53) rfl))) (hw _ (List.mem_of_getElem? (i := 9) rfl)) (ty := .int) (by decide) rfl rfl (g := (mkF m 78 #[.val (.ref a1), .val (.ref a2), .val (.int p3), .val (.int p4), .val (.ref a5)] [(.int p3), (.ref a1)])) rfl rfl (hb hby d2_78)
    have N201 := Fr.snoc X201 N186 g_a1
    have y202 := (y188.other W201 (Or.inr (slot_ne (Or.inr (hw _ (List.mem_of_getElem? (i := 37) rfl))) (Or.inl (hw _ (List.mem_of_getElem? (i := 53) rfl))) (by decide) (t := (.object "java/io/InputStream")) (t' := .int) (by decide) (by decide))))
    have y203 := (y189.other W201 (Or.inr (slot_ne (Or.inl (hw _ (List.mem_of_getElem? (i := 39) rfl))) (Or.inl (hw _ (List.mem_of_getElem? (i := 53) rfl))) (by decide) (t := (.array .byte)) (t' := .int) (by decide) (by decide))))
    have y204 := (y190.other W201 (Or.inr (slot_ne (Or.inr (hw _ (List.mem_of_getElem? (i := 43) rfl))) (Or.inl (hw _ (List.mem_of_getElem? (i := 53) rfl))) (by decide) (t := .boolean) (t' := .int) (by decide) (by decide))))
    have y205 := (y191.other W201 (Or.inr (slot_ne (Or.inl (hw _ (List.mem_of_getElem? (i := 45) rfl))) (Or.inl (hw _ (List.mem_of_getElem? (i := 53) rfl))) (by decide) (t := .long) (t' := .int) (by decide) (by decide))))
    have y206 := (y192.other W201 (Or.inr (slot_ne (Or.inl (hw _ (List.mem_of_getElem? (i := 47) rfl))) (Or.inl (hw _ (List.mem_of_getElem? (i := 53) rfl))) (by decide) (t := .int) (t' := .int) (by decide) (by decide))))
    have y207 := (y193.other W201 (Or.inr (slot_ne (Or.inl (hw _ (List.mem_of_getElem? (i := 49) rfl))) (Or.inl (hw _ (List.mem_of_getElem? (i := 53) rfl))) (by decide) (t := .int) (t' := .int) (by decide) (by decide))))
    have y208 := ((y179.same W186).other W201 (Or.inr (slot_ne (Or.inl (hw _ (List.mem_of_getElem? (i := 51) rfl))) (Or.inl (hw _ (List.mem_of_getElem? (i := 53) rfl))) (by decide) (t := .int) (t' := .int) (by decide) (by decide))))
    have y209 := (y195.other W201 (Or.inr (slot_ne (Or.inl (hw _ (List.mem_of_getElem? (i := 65) rfl))) (Or.inl (hw _ (List.mem_of_getElem? (i := 53) rfl))) (by decide) (t := .boolean) (t' := .int) (by decide) (by decide))))
    have y210 := (y196.other W201 (Or.inr (slot_ne (Or.inl (hw _ (List.mem_of_getElem? (i := 67) rfl))) (Or.inl (hw _ (List.mem_of_getElem? (i := 53) rfl))) (by decide) (t := .int) (t' := .int) (by decide) (by decide))))
    have y211 := (y197.other W201 (Or.inr (slot_ne (Or.inl (hw _ (List.mem_of_getElem? (i := 95) rfl))) (Or.inl (hw _ (List.mem_of_getElem? (i := 53) rfl))) (by decide) (t := .boolean) (t' := .int) (by decide) (by decide))))
    have y212 := (y198.other W201 (Or.inr (slot_ne (Or.inl (hw _ (List.mem_of_getElem? (i := 102) rfl))) (Or.inl (hw _ (List.mem_of_getElem? (i := 53) rfl))) (by decide) (t := .boolean) (t' := .int) (by decide) (by decide))))
    have y213 := (y199.other W201 (Or.inr (slot_ne (Or.inl (hw _ (List.mem_of_getElem? (i := 104) rfl))) (Or.inl (hw _ (List.mem_of_getElem? (i := 53) rfl))) (by decide) (t := .int) (t' := .int) (by decide) (by decide))))
    have y214 := ((((y158.wr W159).wr W173).wr W186).wr W201)
    have K201 : Keep h0 h201 [a1] := (K186).wr W201 (Or.inl (List.mem_of_getElem? (i := 0) rfl))
    have Z201 : n0 ≤ h201.size := Nat.le_trans Z186 (Keep.of_wr W201).1
    obtain ⟨fs, hr, hrun, hended, hEW⟩ := X201.leaveW hS9 (by rw [e201]; exact (Nat.le_trans (Nat.le_trans (Nat.le_trans (Nat.le_trans (Nat.le_trans (Nat.le_trans (Nat.le_trans (Nat.le_trans hk9 (Keep.of_wr W16).1) (Keep.of_wr W30).1) (Keep.of_wr W130).1) (Keep.of_wr W145).1) (Keep.of_wr W159).1) (Keep.of_wr W173).1) (Keep.of_wr W186).1) (Keep.of_wr W201).1)) (v := none) (fun _ => rfl)
    refine ⟨_, _, pre45 _ ?_, hrun, hended, _, _, rfl, ?_, ⟨_, rfl⟩, hEW.2.1, hEW.2.2.1, hEW.2.2.2.mono (by decide) (by decide)⟩
    · show Steps p.tables e below (T43.setTop (mkF m 43 #[.val (.ref a1), .val (.ref a2), .val (.int p3), .val (.int p4), .val (.ref a5)] [(.ref st_CARRIAGE_RETURN_OR_LINE_FEED), (.ref a5), (.ref a1)])) _
      refine Jvm.RoadKit.acmp (g := (mkF m 43 #[.val (.ref a1), .val (.ref a2), .val (.int p3), .val (.int p4), .val (.ref a5)] [(.ref st_CARRIAGE_RETURN_OR_LINE_FEED), (.ref a5), (.ref a1)])) X43 hx rfl rfl rfl (pc0 := 43) (pc' := 50) (same := false) rfl (hb hby d2_43) rfl (decide_eq_false fun q => hc43_44 (Value.ref.inj q)) (by decide) (by decide) ?_
      show Steps p.tables e below (T43.setTop (mkF m 50 #[.val (.ref a1), .val (.ref a2), .val (.int p3), .val (.int p4), .val (.ref a5)] [(.ref a1)])) _
      refine XS.iconst X43.here hx rfl (hb hby d2_50) ?_
      show Steps p.tables e below (T43.setTop (mkF m 51 #[.val (.ref a1), .val (.ref a2), .val (.int p3), .val (.int p4), .val (.ref a5)] [(.int (0 : Int32)), (.ref a1)])) _
      refine st130 _ ?_
      show Steps p.tables e below (T130.setTop (mkF m 54 #[.val (.ref a1), .val (.ref a2), .val (.int p3), .val (.int p4), .val (.ref a5)] [])) _
      refine XS.aloadN X130.here hx rfl (hb hby d2_54) rfl rfl ?_
      show Steps p.tables e below (T130.setTop (mkF m 55 #[.val (.ref a1), .val (.ref a2), .val (.int p3), .val (.int p4), .val (.ref a5)] [(.ref a1)])) _
      refine XS.iloadN X130.here hx rfl (hb hby d2_55) rfl ?_
      show Steps p.tables e below (T130.setTop (mkF m 56 #[.val (.ref a1), .val (.ref a2), .val (.int p3), .val (.int p4), .val (.ref a5)] [(.int p3), (.ref a1)])) _
      refine XS.ineg X130.here hx rfl (hb hby d2_56) rfl ?_
      show Steps p.tables e below (T130.setTop (mkF m 57 #[.val (.ref a1), .val (.ref a2), .val (.int p3), .val (.int p4), .val (.ref a5)] [(.int (-p3)), (.ref a1)])) _
      refine XS.i2l X130.here hx rfl (hb hby d2_57) rfl ?_
      show Steps p.tables e below (T130.setTop (mkF m 58 #[.val (.ref a1), .val (.ref a2), .val (.int p3), .val (.int p4), .val (.ref a5)] [(.long ((-p3).toInt64)), (.ref a1)])) _
      refine st145 _ ?_
      show Steps p.tables e below (T145.setTop (mkF m 61 #[.val (.ref a1), .val (.ref a2), .val (.int p3), .val (.int p4), .val (.ref a5)] [])) _
      refine XS.aloadN X145.here hx rfl (hb hby d2_61) rfl rfl ?_
      show Steps p.tables e below (T145.setTop (mkF m 62 #[.val (.ref a1), .val (.ref a2), .val (.int p3), .val (.int p4), .val (.ref a5)] [(.ref a1)])) _
      refine XS.iloadN X145.here hx rfl (hb hby d2_62) rfl ?_
      show Steps p.tables e below (T145.setTop (mkF m 63 #[.val (.ref a1), .val (.ref a2), .val (.int p3), .val (.int p4), .val (.ref a5)] [(.int p4), (.ref a1)])) _
      refine st159 _ ?_
      show Steps p.tables e below (T159.setTop (mkF m 66 #[.val (.ref a1), .val (.ref a2), .val (.int p3), .val (.int p4), .val (.ref a5)] [])) _
      refine XS.aloadN X159.here hx rfl (hb hby d2_66) rfl rfl ?_
      show Steps p.tables e below (T159.setTop (mkF m 67 #[.val (.ref a1), .val (.ref a2), .val (.int p3), .val (.int p4), .val (.ref a5)] [(.ref a1)])) _
      refine XS.iloadN X159.here hx rfl (hb hby d2_67) rfl ?_
      show Steps p.tables e below (T159.setTop (mkF m 68 #[.val (.ref a1), .val (.ref a2), .val (.int p3), .val (.int p4), .val (.ref a5)] [(.int p3), (.ref a1)])) _
      refine st173 _ ?_
      show Steps p.tables e below (T173.setTop (mkF m 71 #[.val (.ref a1), .val (.ref a2), .val (.int p3), .val (.int p4), .val (.ref a5)] [])) _
      refine XS.aloadN X173.here hx rfl (hb hby d2_71) rfl rfl ?_
      show Steps p.tables e below (T173.setTop (mkF m 72 #[.val (.ref a1), .val (.ref a2), .val (.int p3), .val (.int p4), .val (.ref a5)] [(.ref a1)])) _
      refine XS.iloadN X173.here hx rfl (hb hby d2_72) rfl ?_
      show Steps p.tables e below (T173.setTop (mkF m 73 #[.val (.ref a1), .val (.ref a2), .val (.int p3), .val (.int p4), .val (.ref a5)] [(.int p3), (.ref a1)])) _
      refine st186 _ ?_
      show Steps p.tables e below (T186.setTop (mkF m 76 #[.val (.ref a1), .val (.ref a2), .val (.int p3), .val (.int p4), .val (.ref a5)] [])) _
      refine XS.aloadN X186.here hx rfl (hb hby d2_76) rfl rfl ?_
      show Steps p.tables e below (T186.setTop (mkF m 77 #[.val (.ref a1), .val (.ref a2), .val (.int p3), .val (.int p4), .val (.ref a5)] [(.ref a1)])) _
      refine XS.iloadN X186.here hx rfl (hb hby d2_77) rfl ?_
      show Steps p.tables e below (T186.setTop (mkF m 78 #[.val (.ref a1), .val (.ref a2), .val (.int p3), .val (.int p4), .val (.ref a5)] [(.int p3), (.ref a1)])) _
      refine st201 _ ?_
      show Steps p.tables e below (T201.setTop (mkF m 81 #[.val (.ref a1), .val (.ref a2), .val (.int p3), .val (.int p4), .val (.ref a5)] [])) _
      exact X201.returnOut hx Bd.returns (hb hby d2_81) hr
    · show Q2 Z a1 a2 p3 p4 a5 w_carriageReturnEnds_a1 w_base_a1 w_limit_a1 w_start_a1 w_end_a1 w_next_a1 w_keeping_a1 w_kept_a1 w_ended_a1 w_afterCarriageReturn_a1 w_number_a1 k_a2 vl_a2 st_CARRIAGE_RETURN_OR_LINE_FEED h0 n0 _ T201.heap _
      rw [e201]
      exact ⟨rfl, N201, (K201), (y187.wr W201), y202, y203, (by have qf : F2_carriageReturnEnds_a1 a5 st_CARRIAGE_RETURN_OR_LINE_FEED = (0 : Int32) := (by unfold F2_carriageReturnEnds_a1; rw [if_neg hc43_44]); rw [qf]; exact y204), y205, y206, y207, y208, (y194.same W201), y209, y210, y211, y212, y213⟩
theorem d7_0 : decode prog_132_method_13_code 0 = .ok (.aload_n 0, 1) := by decide +kernel
theorem d7_1 : decode prog_132_method_13_code 1 = .ok (.getfield 54, 3) := by decide +kernel
theorem d7_4 : decode prog_132_method_13_code 4 = .ok (.aload_n 0, 1) := by decide +kernel
theorem d7_5 : decode prog_132_method_13_code 5 = .ok (.getfield 68, 3) := by decide +kernel
theorem d7_8 : decode prog_132_method_13_code 8 = .ok (.i2l, 1) := by decide +kernel
theorem d7_9 : decode prog_132_method_13_code 9 = .ok (.ladd, 1) := by decide +kernel
theorem d7_10 : decode prog_132_method_13_code 10 = .ok (.lreturn, 1) := by decide +kernel
theorem ef_7 (m : MethodId) (a1 : Addr) : entryFrame m #[(.ref a1)] 1 = mkF m 0 #[.val (.ref a1)] [] := by first | (simp [entryFrame, mkF, argsToLocals, Value.category]; done) | rfl
def Q7 (Z : State) (a1 : Addr) (w_base_a1 : Int64) (w_next_a1 : Int32) (h0 : Heap) (n0 : Nat) (v : Option Value) (h : Heap) (L : List Loc) : Prop := v = some (.long (w_base_a1 + (w_next_a1.toInt64))) ∧ Fr n0 L ∧ h = h0
set_option maxRecDepth 65536 in
set_option maxHeartbeats 40000000 in
theorem rm7 (l : Launch) (Z : State) (a0 : Array Value) (hw : ∀ d ∈ tables_1, d.before a0 Z = true) (ws : List Jvm.Cond) (a1 : Addr) (w_base_a1 : Int64) (w_next_a1 : Int32) (h0 : Heap) (n0 : Nat) (Z0 : n0 ≤ h0.size) (F_base_a1 : Fld Z h0 a1 "querent/hl7/LineReader" "base" "J" (.long w_base_a1)) (F_next_a1 : Fld Z h0 a1 "querent/hl7/LineReader" "next" "I" (.int w_next_a1)) :
    MetFree l (⟨"querent/hl7/LineReader", "offset", "()J"⟩ : MethodName) (head1 (Jvm.Cond.code (⟨"querent/hl7/LineReader", "offset", "()J"⟩ : MethodName) prog_132_method_13_code 1 (some .long) :: ws) ({ frames := 0, cells := 0, slots := 0, locals := 0 } : Room)) (fun a U => a = #[(.ref a1)] ∧ Z.Warmed39 U.vm ∧ U.heap = h0) (fun _ _ _ _ _ => True) (fun _ U o U' => ∃ v L, o = .returned v ∧ Q7 Z a1 w_base_a1 w_next_a1 h0 n0 v U'.heap L ∧ FrameEnd U o U' L ({ frames := 0, cells := 0, slots := 0, locals := 0 } : Room).cells ({ frames := 0, cells := 0, slots := 0, locals := 0 } : Room).slots) := by
  refine MetFree.of_bodySF (plainFor_of_name pn_3) hisR ?_
  intro p e s m args below meth c s₁ Bd hml0 hP hK
  obtain ⟨rfl, hZ, hh⟩ := hP
  have hx := Bd.exec
  have hby := Bd.bytes
  have hml : c.maxLocals = 1 := hml0
  have hown : s.vm.findClass "querent/hl7/LineReader" = some m.cls := findClass_of_methodNamed Bd.named
  have hnm := (name_of_methodNamed Bd.named Bd.method).1
  have X0 : Stand p l e ({ frames := 0, cells := 0, slots := 0, locals := 0 } : Room) s m #[(.ref a1)] below meth c s₁ [] 0 0 := Stand.of_body Bd
  have e0 : s₁.heap = h0 := by rw [← hh, Bd.state]; rfl
  have N0 := Fr.nil n0
  have pre0 : ∀ t, Steps p.tables e below (s₁.setTop (mkF m 0 #[.val (.ref a1)] [])) t → Steps p.tables e below (s₁.setTop (entryFrame m #[(.ref a1)] 1)) t := fun t k => castTop (ef_7 m a1) k
  obtain ⟨T2, X2, e2, st2⟩ := getF X0 hx hZ hown (host := "") (Or.inl (hw _ (List.mem_of_getElem? (i := 44) rfl))) Via.refl e0 F_base_a1 (g := (mkF m 1 #[.val (.ref a1)] [(.ref a1)])) rfl rfl (hb hby d7_1)
  obtain ⟨T3, X3, e3, st3⟩ := getF X2 hx hZ hown (host := "") (Or.inl (hw _ (List.mem_of_getElem? (i := 52) rfl))) Via.refl e2 F_next_a1 (g := (mkF m 5 #[.val (.ref a1)] [(.ref a1), (.long w_base_a1)])) rfl rfl (hb hby d7_5)
  obtain ⟨fs, hr, hrun, hended, hW, hsame⟩ := X3.leave (v := some (.long (w_base_a1 + (w_next_a1.toInt64)))) (fun h => by rw [Bd.returns] at h; cases h)
  refine ⟨_, _, pre0 _ ?_, hrun, hended, _, _, rfl, ?_, ⟨_, rfl⟩, hW, hsame.mono (by decide) (by decide)⟩
  · show Steps p.tables e below (s₁.setTop (mkF m 0 #[.val (.ref a1)] [])) _
    refine XS.aloadN X0.here hx rfl (hb hby d7_0) rfl rfl ?_
    show Steps p.tables e below (s₁.setTop (mkF m 1 #[.val (.ref a1)] [(.ref a1)])) _
    refine st2 _ ?_
    show Steps p.tables e below (T2.setTop (mkF m 4 #[.val (.ref a1)] [(.long w_base_a1)])) _
    refine XS.aloadN X2.here hx rfl (hb hby d7_4) rfl rfl ?_
    show Steps p.tables e below (T2.setTop (mkF m 5 #[.val (.ref a1)] [(.ref a1), (.long w_base_a1)])) _
    refine st3 _ ?_
    show Steps p.tables e below (T3.setTop (mkF m 8 #[.val (.ref a1)] [(.int w_next_a1), (.long w_base_a1)])) _
    refine XS.i2l X3.here hx rfl (hb hby d7_8) rfl ?_
    show Steps p.tables e below (T3.setTop (mkF m 9 #[.val (.ref a1)] [(.long (w_next_a1.toInt64)), (.long w_base_a1)])) _
    refine XS.ladd X3.here hx rfl (hb hby d7_9) rfl ?_
    show Steps p.tables e below (T3.setTop (mkF m 10 #[.val (.ref a1)] [(.long (w_base_a1 + (w_next_a1.toInt64)))])) _
    exact retOut X3 hx Bd.returns rfl (Or.inr (Or.inl ⟨rfl, rfl, _, rfl⟩)) (hb hby d7_10) hr
  · show Q7 Z a1 w_base_a1 w_next_a1 h0 n0 _ T3.heap _
    rw [e3]
    exact ⟨rfl, N0, rfl⟩
theorem d9_0 : decode prog_132_method_7_code 0 = .ok (.aload_n 0, 1) := by decide +kernel
theorem d9_1 : decode prog_132_method_7_code 1 = .ok (.getfield 98, 3) := by decide +kernel
theorem d9_4 : decode prog_132_method_7_code 4 = .ok (.ireturn, 1) := by decide +kernel
theorem ef_9 (m : MethodId) (a1 : Addr) : entryFrame m #[(.ref a1)] 1 = mkF m 0 #[.val (.ref a1)] [] := by first | (simp [entryFrame, mkF, argsToLocals, Value.category]; done) | rfl
def Q9 (Z : State) (a1 : Addr) (w_kept_a1 : Int32) (h0 : Heap) (n0 : Nat) (v : Option Value) (h : Heap) (L : List Loc) : Prop := v = some (.int w_kept_a1) ∧ Fr n0 L ∧ h = h0
set_option maxRecDepth 65536 in
set_option maxHeartbeats 40000000 in
theorem rm9 (l : Launch) (Z : State) (a0 : Array Value) (hw : ∀ d ∈ tables_1, d.before a0 Z = true) (ws : List Jvm.Cond) (a1 : Addr) (w_kept_a1 : Int32) (h0 : Heap) (n0 : Nat) (Z0 : n0 ≤ h0.size) (F_kept_a1 : Fld Z h0 a1 "querent/hl7/LineReader" "kept" "I" (.int w_kept_a1)) :
    MetFree l (⟨"querent/hl7/LineReader", "kept", "()I"⟩ : MethodName) (head1 (Jvm.Cond.code (⟨"querent/hl7/LineReader", "kept", "()I"⟩ : MethodName) prog_132_method_7_code 1 (some .int) :: ws) ({ frames := 0, cells := 0, slots := 0, locals := 0 } : Room)) (fun a U => a = #[(.ref a1)] ∧ Z.Warmed39 U.vm ∧ U.heap = h0) (fun _ _ _ _ _ => True) (fun _ U o U' => ∃ v L, o = .returned v ∧ Q9 Z a1 w_kept_a1 h0 n0 v U'.heap L ∧ FrameEnd U o U' L ({ frames := 0, cells := 0, slots := 0, locals := 0 } : Room).cells ({ frames := 0, cells := 0, slots := 0, locals := 0 } : Room).slots) := by
  refine MetFree.of_bodySF (plainFor_of_name pn_3) hisR ?_
  intro p e s m args below meth c s₁ Bd hml0 hP hK
  obtain ⟨rfl, hZ, hh⟩ := hP
  have hx := Bd.exec
  have hby := Bd.bytes
  have hml : c.maxLocals = 1 := hml0
  have hown : s.vm.findClass "querent/hl7/LineReader" = some m.cls := findClass_of_methodNamed Bd.named
  have hnm := (name_of_methodNamed Bd.named Bd.method).1
  have X0 : Stand p l e ({ frames := 0, cells := 0, slots := 0, locals := 0 } : Room) s m #[(.ref a1)] below meth c s₁ [] 0 0 := Stand.of_body Bd
  have e0 : s₁.heap = h0 := by rw [← hh, Bd.state]; rfl
  have N0 := Fr.nil n0
  have pre0 : ∀ t, Steps p.tables e below (s₁.setTop (mkF m 0 #[.val (.ref a1)] [])) t → Steps p.tables e below (s₁.setTop (entryFrame m #[(.ref a1)] 1)) t := fun t k => castTop (ef_9 m a1) k
  obtain ⟨T2, X2, e2, st2⟩ := getF X0 hx hZ hown (host := "") (Or.inl (hw _ (List.mem_of_getElem? (i := 66) rfl))) Via.refl e0 F_kept_a1 (g := (mkF m 1 #[.val (.ref a1)] [(.ref a1)])) rfl rfl (hb hby d9_1)
  obtain ⟨fs, hr, hrun, hended, hW, hsame⟩ := X2.leave (v := some (.int w_kept_a1)) (fun h => by rw [Bd.returns] at h; cases h)
  refine ⟨_, _, pre0 _ ?_, hrun, hended, _, _, rfl, ?_, ⟨_, rfl⟩, hW, hsame.mono (by decide) (by decide)⟩
  · show Steps p.tables e below (s₁.setTop (mkF m 0 #[.val (.ref a1)] [])) _
    refine XS.aloadN X0.here hx rfl (hb hby d9_0) rfl rfl ?_
    show Steps p.tables e below (s₁.setTop (mkF m 1 #[.val (.ref a1)] [(.ref a1)])) _
    refine st2 _ ?_
    show Steps p.tables e below (T2.setTop (mkF m 4 #[.val (.ref a1)] [(.int w_kept_a1)])) _
    exact retI X2 hx Bd.returns (hb hby d9_4) hr
  · show Q9 Z a1 w_kept_a1 h0 n0 _ T2.heap _
    rw [e2]
    exact ⟨rfl, N0, rfl⟩
theorem d15_0 : decode prog_132_method_8_code 0 = .ok (.aload_n 0, 1) := by decide +kernel
theorem d15_1 : decode prog_132_method_8_code 1 = .ok (.getfield 62, 3) := by decide +kernel
theorem d15_4 : decode prog_132_method_8_code 4 = .ok (.ireturn, 1) := by decide +kernel
theorem ef_15 (m : MethodId) (a1 : Addr) : entryFrame m #[(.ref a1)] 1 = mkF m 0 #[.val (.ref a1)] [] := by first | (simp [entryFrame, mkF, argsToLocals, Value.category]; done) | rfl
def Q15 (Z : State) (a1 : Addr) (w_start_a1 : Int32) (h0 : Heap) (n0 : Nat) (v : Option Value) (h : Heap) (L : List Loc) : Prop := v = some (.int w_start_a1) ∧ Fr n0 L ∧ h = h0
set_option maxRecDepth 65536 in
set_option maxHeartbeats 40000000 in
theorem rm15 (l : Launch) (Z : State) (a0 : Array Value) (hw : ∀ d ∈ tables_1, d.before a0 Z = true) (ws : List Jvm.Cond) (a1 : Addr) (w_start_a1 : Int32) (h0 : Heap) (n0 : Nat) (Z0 : n0 ≤ h0.size) (F_start_a1 : Fld Z h0 a1 "querent/hl7/LineReader" "start" "I" (.int w_start_a1)) :
    MetFree l (⟨"querent/hl7/LineReader", "start", "()I"⟩ : MethodName) (head1 (Jvm.Cond.code (⟨"querent/hl7/LineReader", "start", "()I"⟩ : MethodName) prog_132_method_8_code 1 (some .int) :: ws) ({ frames := 0, cells := 0, slots := 0, locals := 0 } : Room)) (fun a U => a = #[(.ref a1)] ∧ Z.Warmed39 U.vm ∧ U.heap = h0) (fun _ _ _ _ _ => True) (fun _ U o U' => ∃ v L, o = .returned v ∧ Q15 Z a1 w_start_a1 h0 n0 v U'.heap L ∧ FrameEnd U o U' L ({ frames := 0, cells := 0, slots := 0, locals := 0 } : Room).cells ({ frames := 0, cells := 0, slots := 0, locals := 0 } : Room).slots) := by
  refine MetFree.of_bodySF (plainFor_of_name pn_3) hisR ?_
  intro p e s m args below meth c s₁ Bd hml0 hP hK
  obtain ⟨rfl, hZ, hh⟩ := hP
  have hx := Bd.exec
  have hby := Bd.bytes
  have hml : c.maxLocals = 1 := hml0
  have hown : s.vm.findClass "querent/hl7/LineReader" = some m.cls := findClass_of_methodNamed Bd.named
  have hnm := (name_of_methodNamed Bd.named Bd.method).1
  have X0 : Stand p l e ({ frames := 0, cells := 0, slots := 0, locals := 0 } : Room) s m #[(.ref a1)] below meth c s₁ [] 0 0 := Stand.of_body Bd
  have e0 : s₁.heap = h0 := by rw [← hh, Bd.state]; rfl
  have N0 := Fr.nil n0
  have pre0 : ∀ t, Steps p.tables e below (s₁.setTop (mkF m 0 #[.val (.ref a1)] [])) t → Steps p.tables e below (s₁.setTop (entryFrame m #[(.ref a1)] 1)) t := fun t k => castTop (ef_15 m a1) k
  obtain ⟨T2, X2, e2, st2⟩ := getF X0 hx hZ hown (host := "") (Or.inl (hw _ (List.mem_of_getElem? (i := 48) rfl))) Via.refl e0 F_start_a1 (g := (mkF m 1 #[.val (.ref a1)] [(.ref a1)])) rfl rfl (hb hby d15_1)
  obtain ⟨fs, hr, hrun, hended, hW, hsame⟩ := X2.leave (v := some (.int w_start_a1)) (fun h => by rw [Bd.returns] at h; cases h)
  refine ⟨_, _, pre0 _ ?_, hrun, hended, _, _, rfl, ?_, ⟨_, rfl⟩, hW, hsame.mono (by decide) (by decide)⟩
  · show Steps p.tables e below (s₁.setTop (mkF m 0 #[.val (.ref a1)] [])) _
    refine XS.aloadN X0.here hx rfl (hb hby d15_0) rfl rfl ?_
    show Steps p.tables e below (s₁.setTop (mkF m 1 #[.val (.ref a1)] [(.ref a1)])) _
    refine st2 _ ?_
    show Steps p.tables e below (T2.setTop (mkF m 4 #[.val (.ref a1)] [(.int w_start_a1)])) _
    exact retI X2 hx Bd.returns (hb hby d15_4) hr
  · show Q15 Z a1 w_start_a1 h0 n0 _ T2.heap _
    rw [e2]
    exact ⟨rfl, N0, rfl⟩
theorem d18_0 : decode prog_132_method_6_code 0 = .ok (.aload_n 0, 1) := by decide +kernel
theorem d18_1 : decode prog_132_method_6_code 1 = .ok (.getfield 34, 3) := by decide +kernel
theorem d18_4 : decode prog_132_method_6_code 4 = .ok (.areturn, 1) := by decide +kernel
theorem ef_18 (m : MethodId) (a1 : Addr) : entryFrame m #[(.ref a1)] 1 = mkF m 0 #[.val (.ref a1)] [] := by first | (simp [entryFrame, mkF, argsToLocals, Value.category]; done) | rfl
def Q18 (Z : State) (a1 : Addr) (w_block_a1 : Addr) (h0 : Heap) (n0 : Nat) (v : Option Value) (h : Heap) (L : List Loc) : Prop := v = some (.ref w_block_a1) ∧ Fr n0 L ∧ h = h0
set_option maxRecDepth 65536 in
set_option maxHeartbeats 40000000 in
theorem rm18 (l : Launch) (Z : State) (a0 : Array Value) (hw : ∀ d ∈ tables_1, d.before a0 Z = true) (ws : List Jvm.Cond) (a1 : Addr) (w_block_a1 : Addr) (h0 : Heap) (n0 : Nat) (Z0 : n0 ≤ h0.size) (F_block_a1 : Fld Z h0 a1 "querent/hl7/LineReader" "block" "[B" (.ref w_block_a1)) :
    MetFree l (⟨"querent/hl7/LineReader", "bytes", "()[B"⟩ : MethodName) (head1 (Jvm.Cond.code (⟨"querent/hl7/LineReader", "bytes", "()[B"⟩ : MethodName) prog_132_method_6_code 1 (some (.array .byte)) :: ws) ({ frames := 0, cells := 0, slots := 0, locals := 0 } : Room)) (fun a U => a = #[(.ref a1)] ∧ Z.Warmed39 U.vm ∧ U.heap = h0) (fun _ _ _ _ _ => True) (fun _ U o U' => ∃ v L, o = .returned v ∧ Q18 Z a1 w_block_a1 h0 n0 v U'.heap L ∧ FrameEnd U o U' L ({ frames := 0, cells := 0, slots := 0, locals := 0 } : Room).cells ({ frames := 0, cells := 0, slots := 0, locals := 0 } : Room).slots) := by
  refine MetFree.of_bodySF (plainFor_of_name pn_3) hisR ?_
  intro p e s m args below meth c s₁ Bd hml0 hP hK
  obtain ⟨rfl, hZ, hh⟩ := hP
  have hx := Bd.exec
  have hby := Bd.bytes
  have hml : c.maxLocals = 1 := hml0
  have hown : s.vm.findClass "querent/hl7/LineReader" = some m.cls := findClass_of_methodNamed Bd.named
  have hnm := (name_of_methodNamed Bd.named Bd.method).1
  have X0 : Stand p l e ({ frames := 0, cells := 0, slots := 0, locals := 0 } : Room) s m #[(.ref a1)] below meth c s₁ [] 0 0 := Stand.of_body Bd
  have e0 : s₁.heap = h0 := by rw [← hh, Bd.state]; rfl
  have N0 := Fr.nil n0
  have pre0 : ∀ t, Steps p.tables e below (s₁.setTop (mkF m 0 #[.val (.ref a1)] [])) t → Steps p.tables e below (s₁.setTop (entryFrame m #[(.ref a1)] 1)) t := fun t k => castTop (ef_18 m a1) k
  obtain ⟨T2, X2, e2, st2⟩ := getF X0 hx hZ hown (host := "") (Or.inl (hw _ (List.mem_of_getElem? (i := 38) rfl))) Via.refl e0 F_block_a1 (g := (mkF m 1 #[.val (.ref a1)] [(.ref a1)])) rfl rfl (hb hby d18_1)
  obtain ⟨fs, hr, hrun, hended, hW, hsame⟩ := X2.leave (v := some (.ref w_block_a1)) (fun h => by rw [Bd.returns] at h; cases h)
  refine ⟨_, _, pre0 _ ?_, hrun, hended, _, _, rfl, ?_, ⟨_, rfl⟩, hW, hsame.mono (by decide) (by decide)⟩
  · show Steps p.tables e below (s₁.setTop (mkF m 0 #[.val (.ref a1)] [])) _
    refine XS.aloadN X0.here hx rfl (hb hby d18_0) rfl rfl ?_
    show Steps p.tables e below (s₁.setTop (mkF m 1 #[.val (.ref a1)] [(.ref a1)])) _
    refine st2 _ ?_
    show Steps p.tables e below (T2.setTop (mkF m 4 #[.val (.ref a1)] [(.ref w_block_a1)])) _
    exact retOut X2 hx Bd.returns rfl (Or.inr (Or.inr (Or.inr (Or.inr ⟨rfl, rfl, rfl⟩)))) (hb hby d18_4) hr
  · show Q18 Z a1 w_block_a1 h0 n0 _ T2.heap _
    rw [e2]
    exact ⟨rfl, N0, rfl⟩
theorem d8_0 : decode prog_132_method_5_code 0 = .ok (.aload_n 0, 1) := by decide +kernel
theorem d8_1 : decode prog_132_method_5_code 1 = .ok (.iconst 1, 1) := by decide +kernel
theorem d8_2 : decode prog_132_method_5_code 2 = .ok (.putfield 95, 3) := by decide +kernel
theorem d8_5 : decode prog_132_method_5_code 5 = .ok (.aload_n 0, 1) := by decide +kernel
theorem d8_6 : decode prog_132_method_5_code 6 = .ok (.aload_n 0, 1) := by decide +kernel
theorem d8_7 : decode prog_132_method_5_code 7 = .ok (.getfield 68, 3) := by decide +kernel
theorem d8_10 : decode prog_132_method_5_code 10 = .ok (.putfield 98, 3) := by decide +kernel
theorem d8_13 : decode prog_132_method_5_code 13 = .ok (.return_, 1) := by decide +kernel
theorem ef_8 (m : MethodId) (a1 : Addr) : entryFrame m #[(.ref a1)] 1 = mkF m 0 #[.val (.ref a1)] [] := by first | (simp [entryFrame, mkF, argsToLocals, Value.category]; done) | rfl
def Q8 (Z : State) (a1 : Addr) (w_block_a1 : Addr) (w_carriageReturnEnds_a1 : Int32) (w_base_a1 : Int64) (w_limit_a1 : Int32) (w_start_a1 : Int32) (w_end_a1 : Int32) (w_next_a1 : Int32) (w_keeping_a1 : Int32) (w_kept_a1 : Int32) (w_ended_a1 : Int32) (w_afterCarriageReturn_a1 : Int32) (w_number_a1 : Int32) (h0 : Heap) (n0 : Nat) (v : Option Value) (h : Heap) (L : List Loc) : Prop := v = none ∧ Fr n0 L ∧ Keep h0 h [a1] ∧ Exa Z h a1 "querent/hl7/LineReader" ∧ Fld Z h a1 "querent/hl7/LineReader" "in" "Ljava/io/InputStream;" .null ∧ Fld Z h a1 "querent/hl7/LineReader" "block" "[B" (.ref w_block_a1) ∧ Fld Z h a1 "querent/hl7/LineReader" "carriageReturnEnds" "Z" (.int w_carriageReturnEnds_a1) ∧ Fld Z h a1 "querent/hl7/LineReader" "base" "J" (.long w_base_a1) ∧ Fld Z h a1 "querent/hl7/LineReader" "limit" "I" (.int w_limit_a1) ∧ Fld Z h a1 "querent/hl7/LineReader" "start" "I" (.int w_start_a1) ∧ Fld Z h a1 "querent/hl7/LineReader" "end" "I" (.int w_end_a1) ∧ Fld Z h a1 "querent/hl7/LineReader" "next" "I" (.int w_next_a1) ∧ Fld Z h a1 "querent/hl7/LineReader" "keeping" "Z" (.int (1 : Int32)) ∧ Fld Z h a1 "querent/hl7/LineReader" "kept" "I" (.int w_next_a1) ∧ Fld Z h a1 "querent/hl7/LineReader" "ended" "Z" (.int w_ended_a1) ∧ Fld Z h a1 "querent/hl7/LineReader" "afterCarriageReturn" "Z" (.int w_afterCarriageReturn_a1) ∧ Fld Z h a1 "querent/hl7/LineReader" "number" "I" (.int w_number_a1)
set_option maxRecDepth 65536 in
set_option maxHeartbeats 40000000 in
theorem rm8 (l : Launch) (Z : State) (a0 : Array Value) (hw : ∀ d ∈ tables_1, d.before a0 Z = true) (ws : List Jvm.Cond) (a1 : Addr) (w_block_a1 : Addr) (w_carriageReturnEnds_a1 : Int32) (w_base_a1 : Int64) (w_limit_a1 : Int32) (w_start_a1 : Int32) (w_end_a1 : Int32) (w_next_a1 : Int32) (w_keeping_a1 : Int32) (w_kept_a1 : Int32) (w_ended_a1 : Int32) (w_afterCarriageReturn_a1 : Int32) (w_number_a1 : Int32) (h0 : Heap) (n0 : Nat) (Z0 : n0 ≤ h0.size) (E_a1 : Exa Z h0 a1 "querent/hl7/LineReader") (F_in_a1 : Fld Z h0 a1 "querent/hl7/LineReader" "in" "Ljava/io/InputStream;" .null) (F_block_a1 : Fld Z h0 a1 "querent/hl7/LineReader" "block" "[B" (.ref w_block_a1)) (F_carriageReturnEnds_a1 : Fld Z h0 a1 "querent/hl7/LineReader" "carriageReturnEnds" "Z" (.int w_carriageReturnEnds_a1)) (F_base_a1 : Fld Z h0 a1 "querent/hl7/LineReader" "base" "J" (.long w_base_a1)) (F_limit_a1 : Fld Z h0 a1 "querent/hl7/LineReader" "limit" "I" (.int w_limit_a1)) (F_start_a1 : Fld Z h0 a1 "querent/hl7/LineReader" "start" "I" (.int w_start_a1)) (F_end_a1 : Fld Z h0 a1 "querent/hl7/LineReader" "end" "I" (.int w_end_a1)) (F_next_a1 : Fld Z h0 a1 "querent/hl7/LineReader" "next" "I" (.int w_next_a1)) (F_keeping_a1 : Fld Z h0 a1 "querent/hl7/LineReader" "keeping" "Z" (.int w_keeping_a1)) (F_kept_a1 : Fld Z h0 a1 "querent/hl7/LineReader" "kept" "I" (.int w_kept_a1)) (F_ended_a1 : Fld Z h0 a1 "querent/hl7/LineReader" "ended" "Z" (.int w_ended_a1)) (F_afterCarriageReturn_a1 : Fld Z h0 a1 "querent/hl7/LineReader" "afterCarriageReturn" "Z" (.int w_afterCarriageReturn_a1)) (F_number_a1 : Fld Z h0 a1 "querent/hl7/LineReader" "number" "I" (.int w_number_a1)) (g_a1 : n0 ≤ a1) :
    MetFree l (⟨"querent/hl7/LineReader", "keepFromNext", "()V"⟩ : MethodName) (head1 (Jvm.Cond.code (⟨"querent/hl7/LineReader", "keepFromNext", "()V"⟩ : MethodName) prog_132_method_5_code 1 none :: ws) ({ frames := 0, cells := 0, slots := 0, locals := 0 } : Room)) (fun a U => a = #[(.ref a1)] ∧ Z.Warmed39 U.vm ∧ U.heap = h0) (fun _ _ _ _ _ => True) (fun _ U o U' => ∃ v L, o = .returned v ∧ Q8 Z a1 w_block_a1 w_carriageReturnEnds_a1 w_base_a1 w_limit_a1 w_start_a1 w_end_a1 w_next_a1 w_keeping_a1 w_kept_a1 w_ended_a1 w_afterCarriageReturn_a1 w_number_a1 h0 n0 v U'.heap L ∧ FrameEnd U o U' L ({ frames := 0, cells := 0, slots := 0, locals := 0 } : Room).cells ({ frames := 0, cells := 0, slots := 0, locals := 0 } : Room).slots) := by
  refine MetFree.of_bodySF (plainFor_of_name pn_3) hisR ?_
  intro p e s m args below meth c s₁ Bd hml0 hP hK
  obtain ⟨rfl, hZ, hh⟩ := hP
  have hx := Bd.exec
  have hby := Bd.bytes
  have hml : c.maxLocals = 1 := hml0
  have hown : s.vm.findClass "querent/hl7/LineReader" = some m.cls := findClass_of_methodNamed Bd.named
  have hnm := (name_of_methodNamed Bd.named Bd.method).1
  have X0 : Stand p l e ({ frames := 0, cells := 0, slots := 0, locals := 0 } : Room) s m #[(.ref a1)] below meth c s₁ [] 0 0 := Stand.of_body Bd
  have e0 : s₁.heap = h0 := by rw [← hh, Bd.state]; rfl
  have N0 := Fr.nil n0
  have pre0 : ∀ t, Steps p.tables e below (s₁.setTop (mkF m 0 #[.val (.ref a1)] [])) t → Steps p.tables e below (s₁.setTop (entryFrame m #[(.ref a1)] 1)) t := fun t k => castTop (ef_8 m a1) k
  obtain ⟨T2, h2, X2, e2, W2, st2⟩ := putFN X0 hx hZ hown (hw _ (List.mem_of_getElem? (i := 64) rfl)) Via.refl e0 F_keeping_a1 E_a1 (Or.inl (hw _ (List.mem_of_getElem? (i := 65) rfl))) (hw _ (List.mem_of_getElem? (i := 9) rfl)) (ty := .boolean) (v' := (.int (1 : Int32))) (by decide) rfl rfl (g := (mkF m 2 #[.val (.ref a1)] [(.int (1 : Int32)), (.ref a1)])) rfl rfl (hb hby d8_2)
  have N2 := Fr.snoc X2 N0 g_a1
  have y3 := (F_in_a1.other W2 (Or.inr (slot_ne (Or.inr (hw _ (List.mem_of_getElem? (i := 37) rfl))) (Or.inl (hw _ (List.mem_of_getElem? (i := 65) rfl))) (by decide) (t := (.object "java/io/InputStream")) (t' := .boolean) (by decide) (by decide))))
  have y4 := (F_block_a1.other W2 (Or.inr (slot_ne (Or.inl (hw _ (List.mem_of_getElem? (i := 39) rfl))) (Or.inl (hw _ (List.mem_of_getElem? (i := 65) rfl))) (by decide) (t := (.array .byte)) (t' := .boolean) (by decide) (by decide))))
  have y5 := (F_carriageReturnEnds_a1.other W2 (Or.inr (slot_ne (Or.inr (hw _ (List.mem_of_getElem? (i := 43) rfl))) (Or.inl (hw _ (List.mem_of_getElem? (i := 65) rfl))) (by decide) (t := .boolean) (t' := .boolean) (by decide) (by decide))))
  have y6 := (F_base_a1.other W2 (Or.inr (slot_ne (Or.inl (hw _ (List.mem_of_getElem? (i := 45) rfl))) (Or.inl (hw _ (List.mem_of_getElem? (i := 65) rfl))) (by decide) (t := .long) (t' := .boolean) (by decide) (by decide))))
  have y7 := (F_limit_a1.other W2 (Or.inr (slot_ne (Or.inl (hw _ (List.mem_of_getElem? (i := 47) rfl))) (Or.inl (hw _ (List.mem_of_getElem? (i := 65) rfl))) (by decide) (t := .int) (t' := .boolean) (by decide) (by decide))))
  have y8 := (F_start_a1.other W2 (Or.inr (slot_ne (Or.inl (hw _ (List.mem_of_getElem? (i := 49) rfl))) (Or.inl (hw _ (List.mem_of_getElem? (i := 65) rfl))) (by decide) (t := .int) (t' := .boolean) (by decide) (by decide))))
  have y9 := (F_end_a1.other W2 (Or.inr (slot_ne (Or.inl (hw _ (List.mem_of_getElem? (i := 51) rfl))) (Or.inl (hw _ (List.mem_of_getElem? (i := 65) rfl))) (by decide) (t := .int) (t' := .boolean) (by decide) (by decide))))
  have y10 := (F_next_a1.other W2 (Or.inr (slot_ne (Or.inl (hw _ (List.mem_of_getElem? (i := 53) rfl))) (Or.inl (hw _ (List.mem_of_getElem? (i := 65) rfl))) (by decide) (t := .int) (t' := .boolean) (by decide) (by decide))))
  have y11 := (F_kept_a1.other W2 (Or.inr (slot_ne (Or.inl (hw _ (List.mem_of_getElem? (i := 67) rfl))) (Or.inl (hw _ (List.mem_of_getElem? (i := 65) rfl))) (by decide) (t := .int) (t' := .boolean) (by decide) (by decide))))
  have y12 := (F_ended_a1.other W2 (Or.inr (slot_ne (Or.inl (hw _ (List.mem_of_getElem? (i := 95) rfl))) (Or.inl (hw _ (List.mem_of_getElem? (i := 65) rfl))) (by decide) (t := .boolean) (t' := .boolean) (by decide) (by decide))))
  have y13 := (F_afterCarriageReturn_a1.other W2 (Or.inr (slot_ne (Or.inl (hw _ (List.mem_of_getElem? (i := 102) rfl))) (Or.inl (hw _ (List.mem_of_getElem? (i := 65) rfl))) (by decide) (t := .boolean) (t' := .boolean) (by decide) (by decide))))
  have y14 := (F_number_a1.other W2 (Or.inr (slot_ne (Or.inl (hw _ (List.mem_of_getElem? (i := 104) rfl))) (Or.inl (hw _ (List.mem_of_getElem? (i := 65) rfl))) (by decide) (t := .int) (t' := .boolean) (by decide) (by decide))))
  have K2 : Keep h0 h2 [a1] := ((Keep.refl h0 [a1])).wr W2 (Or.inl (List.mem_of_getElem? (i := 0) rfl))
  have Z2 : n0 ≤ h2.size := Nat.le_trans Z0 (Keep.of_wr W2).1
  obtain ⟨T15, X15, e15, st15⟩ := getF X2 hx hZ hown (host := "") (Or.inl (hw _ (List.mem_of_getElem? (i := 52) rfl))) Via.refl e2 y10 (g := (mkF m 7 #[.val (.ref a1)] [(.ref a1), (.ref a1)])) rfl rfl (hb hby d8_7)
  obtain ⟨T16, h16, X16, e16, W16, st16⟩ := putF X15 hx hZ hown (host := "") (Or.inl (hw _ (List.mem_of_getElem? (i := 66) rfl))) Via.refl e15 y11 (E_a1.wr W2) (Or.inl (hw _ (List.mem_of_getElem? (i := 67) rfl))) (hw _ (List.mem_of_getElem? (i := 9) rfl)) (ty := .int) (by decide) rfl rfl (g := (mkF m 10 #[.val (.ref a1)] [(.int w_next_a1), (.ref a1)])) rfl rfl (hb hby d8_10)
  have N16 := Fr.snoc X16 N2 g_a1
  have y17 := (y3.other W16 (Or.inr (slot_ne (Or.inr (hw _ (List.mem_of_getElem? (i := 37) rfl))) (Or.inl (hw _ (List.mem_of_getElem? (i := 67) rfl))) (by decide) (t := (.object "java/io/InputStream")) (t' := .int) (by decide) (by decide))))
  have y18 := (y4.other W16 (Or.inr (slot_ne (Or.inl (hw _ (List.mem_of_getElem? (i := 39) rfl))) (Or.inl (hw _ (List.mem_of_getElem? (i := 67) rfl))) (by decide) (t := (.array .byte)) (t' := .int) (by decide) (by decide))))
  have y19 := (y5.other W16 (Or.inr (slot_ne (Or.inr (hw _ (List.mem_of_getElem? (i := 43) rfl))) (Or.inl (hw _ (List.mem_of_getElem? (i := 67) rfl))) (by decide) (t := .boolean) (t' := .int) (by decide) (by decide))))
  have y20 := (y6.other W16 (Or.inr (slot_ne (Or.inl (hw _ (List.mem_of_getElem? (i := 45) rfl))) (Or.inl (hw _ (List.mem_of_getElem? (i := 67) rfl))) (by decide) (t := .long) (t' := .int) (by decide) (by decide))))
  have y21 := (y7.other W16 (Or.inr (slot_ne (Or.inl (hw _ (List.mem_of_getElem? (i := 47) rfl))) (Or.inl (hw _ (List.mem_of_getElem? (i := 67) rfl))) (by decide) (t := .int) (t' := .int) (by decide) (by decide))))
  have y22 := (y8.other W16 (Or.inr (slot_ne (Or.inl (hw _ (List.mem_of_getElem? (i := 49) rfl))) (Or.inl (hw _ (List.mem_of_getElem? (i := 67) rfl))) (by decide) (t := .int) (t' := .int) (by decide) (by decide))))
  have y23 := (y9.other W16 (Or.inr (slot_ne (Or.inl (hw _ (List.mem_of_getElem? (i := 51) rfl))) (Or.inl (hw _ (List.mem_of_getElem? (i := 67) rfl))) (by decide) (t := .int) (t' := .int) (by decide) (by decide))))
  have y24 := (y10.other W16 (Or.inr (slot_ne (Or.inl (hw _ (List.mem_of_getElem? (i := 53) rfl))) (Or.inl (hw _ (List.mem_of_getElem? (i := 67) rfl))) (by decide) (t := .int) (t' := .int) (by decide) (by decide))))
  have y25 := ((F_keeping_a1.same W2).other W16 (Or.inr (slot_ne (Or.inl (hw _ (List.mem_of_getElem? (i := 65) rfl))) (Or.inl (hw _ (List.mem_of_getElem? (i := 67) rfl))) (by decide) (t := .boolean) (t' := .int) (by decide) (by decide))))
  have y26 := (y12.other W16 (Or.inr (slot_ne (Or.inl (hw _ (List.mem_of_getElem? (i := 95) rfl))) (Or.inl (hw _ (List.mem_of_getElem? (i := 67) rfl))) (by decide) (t := .boolean) (t' := .int) (by decide) (by decide))))
  have y27 := (y13.other W16 (Or.inr (slot_ne (Or.inl (hw _ (List.mem_of_getElem? (i := 102) rfl))) (Or.inl (hw _ (List.mem_of_getElem? (i := 67) rfl))) (by decide) (t := .boolean) (t' := .int) (by decide) (by decide))))
  have y28 := (y14.other W16 (Or.inr (slot_ne (Or.inl (hw _ (List.mem_of_getElem? (i := 104) rfl))) (Or.inl (hw _ (List.mem_of_getElem? (i := 67) rfl))) (by decide) (t := .int) (t' := .int) (by decide) (by decide))))
  have K16 : Keep h0 h16 [a1] := (K2).wr W16 (Or.inl (List.mem_of_getElem? (i := 0) rfl))
  have Z16 : n0 ≤ h16.size := Nat.le_trans Z2 (Keep.of_wr W16).1
  obtain ⟨fs, hr, hrun, hended, hW, hsame⟩ := X16.leave (v := none) (fun _ => rfl)
  refine ⟨_, _, pre0 _ ?_, hrun, hended, _, _, rfl, ?_, ⟨_, rfl⟩, hW, hsame.mono (by decide) (by decide)⟩
  · show Steps p.tables e below (s₁.setTop (mkF m 0 #[.val (.ref a1)] [])) _
    refine XS.aloadN X0.here hx rfl (hb hby d8_0) rfl rfl ?_
    show Steps p.tables e below (s₁.setTop (mkF m 1 #[.val (.ref a1)] [(.ref a1)])) _
    refine XS.iconst X0.here hx rfl (hb hby d8_1) ?_
    show Steps p.tables e below (s₁.setTop (mkF m 2 #[.val (.ref a1)] [(.int (1 : Int32)), (.ref a1)])) _
    refine st2 _ ?_
    show Steps p.tables e below (T2.setTop (mkF m 5 #[.val (.ref a1)] [])) _
    refine XS.aloadN X2.here hx rfl (hb hby d8_5) rfl rfl ?_
    show Steps p.tables e below (T2.setTop (mkF m 6 #[.val (.ref a1)] [(.ref a1)])) _
    refine XS.aloadN X2.here hx rfl (hb hby d8_6) rfl rfl ?_
    show Steps p.tables e below (T2.setTop (mkF m 7 #[.val (.ref a1)] [(.ref a1), (.ref a1)])) _
    refine st15 _ ?_
    show Steps p.tables e below (T15.setTop (mkF m 10 #[.val (.ref a1)] [(.int w_next_a1), (.ref a1)])) _
    refine st16 _ ?_
    show Steps p.tables e below (T16.setTop (mkF m 13 #[.val (.ref a1)] [])) _
    exact X16.returnOut hx Bd.returns (hb hby d8_13) hr
  · show Q8 Z a1 w_block_a1 w_carriageReturnEnds_a1 w_base_a1 w_limit_a1 w_start_a1 w_end_a1 w_next_a1 w_keeping_a1 w_kept_a1 w_ended_a1 w_afterCarriageReturn_a1 w_number_a1 h0 n0 _ T16.heap _
    rw [e16]
    exact ⟨rfl, N16, (K16), ((E_a1.wr W2).wr W16), y17, y18, y19, y20, y21, y22, y23, y24, y25, (y11.same W16), y26, y27, y28⟩
theorem d13_0 : decode prog_132_method_20_code 0 = .ok (.aload_n 0, 1) := by decide +kernel
theorem d13_1 : decode prog_132_method_20_code 1 = .ok (.getfield 28, 3) := by decide +kernel
theorem d13_4 : decode prog_132_method_20_code 4 = .ok (.ifnonnull 5, 3) := by decide +kernel
theorem d13_7 : decode prog_132_method_20_code 7 = .ok (.iconst 0, 1) := by decide +kernel
theorem d13_8 : decode prog_132_method_20_code 8 = .ok (.ireturn, 1) := by decide +kernel
theorem ef_13 (m : MethodId) (a1 : Addr) : entryFrame m #[(.ref a1)] 3 = mkF m 0 #[.val (.ref a1), .unset, .unset] [] := by first | (simp [entryFrame, mkF, argsToLocals, Value.category]; done) | rfl
def Q13 (Z : State) (a1 : Addr) (h0 : Heap) (n0 : Nat) (v : Option Value) (h : Heap) (L : List Loc) : Prop := v = some (.int (0 : Int32)) ∧ Fr n0 L ∧ h = h0
set_option maxRecDepth 65536 in
set_option maxHeartbeats 40000000 in
theorem rm13 (l : Launch) (Z : State) (a0 : Array Value) (hw : ∀ d ∈ tables_1, d.before a0 Z = true) (ws : List Jvm.Cond) (a1 : Addr) (h0 : Heap) (n0 : Nat) (Z0 : n0 ≤ h0.size) (F_in_a1 : Fld Z h0 a1 "querent/hl7/LineReader" "in" "Ljava/io/InputStream;" .null) :
    MetFree l (⟨"querent/hl7/LineReader", "fill", "()Z"⟩ : MethodName) (head1 (Jvm.Cond.code (⟨"querent/hl7/LineReader", "fill", "()Z"⟩ : MethodName) prog_132_method_20_code 3 (some .boolean) :: ws) ({ frames := 0, cells := 0, slots := 0, locals := 0 } : Room)) (fun a U => a = #[(.ref a1)] ∧ Z.Warmed39 U.vm ∧ U.heap = h0) (fun _ _ _ _ _ => True) (fun _ U o U' => ∃ v L, o = .returned v ∧ Q13 Z a1 h0 n0 v U'.heap L ∧ FrameEnd U o U' L ({ frames := 0, cells := 0, slots := 0, locals := 0 } : Room).cells ({ frames := 0, cells := 0, slots := 0, locals := 0 } : Room).slots) := by
  refine MetFree.of_bodySF (plainFor_of_name pn_3) hisR ?_
  intro p e s m args below meth c s₁ Bd hml0 hP hK
  obtain ⟨rfl, hZ, hh⟩ := hP
  have hx := Bd.exec
  have hby := Bd.bytes
  have hml : c.maxLocals = 3 := hml0
  have hown : s.vm.findClass "querent/hl7/LineReader" = some m.cls := findClass_of_methodNamed Bd.named
  have hnm := (name_of_methodNamed Bd.named Bd.method).1
  have X0 : Stand p l e ({ frames := 0, cells := 0, slots := 0, locals := 0 } : Room) s m #[(.ref a1)] below meth c s₁ [] 0 0 := Stand.of_body Bd
  have e0 : s₁.heap = h0 := by rw [← hh, Bd.state]; rfl
  have N0 := Fr.nil n0
  have pre0 : ∀ t, Steps p.tables e below (s₁.setTop (mkF m 0 #[.val (.ref a1), .unset, .unset] [])) t → Steps p.tables e below (s₁.setTop (entryFrame m #[(.ref a1)] 3)) t := fun t k => castTop (ef_13 m a1) k
  obtain ⟨T2, X2, e2, st2⟩ := getF X0 hx hZ hown (host := "") (Or.inl (hw _ (List.mem_of_getElem? (i := 36) rfl))) Via.refl e0 F_in_a1 (g := (mkF m 1 #[.val (.ref a1), .unset, .unset] [(.ref a1)])) rfl rfl (hb hby d13_1)
  obtain ⟨fs, hr, hrun, hended, hW, hsame⟩ := X2.leave (v := some (.int (0 : Int32))) (fun h => by rw [Bd.returns] at h; cases h)
  refine ⟨_, _, pre0 _ ?_, hrun, hended, _, _, rfl, ?_, ⟨_, rfl⟩, hW, hsame.mono (by decide) (by decide)⟩
  · show Steps p.tables e below (s₁.setTop (mkF m 0 #[.val (.ref a1), .unset, .unset] [])) _
    refine XS.aloadN X0.here hx rfl (hb hby d13_0) rfl rfl ?_
    show Steps p.tables e below (s₁.setTop (mkF m 1 #[.val (.ref a1), .unset, .unset] [(.ref a1)])) _
    refine st2 _ ?_
    show Steps p.tables e below (T2.setTop (mkF m 4 #[.val (.ref a1), .unset, .unset] [.null])) _
    refine XS.ifnonnullNo X2.here hx rfl (hb hby d13_4) rfl ?_
    show Steps p.tables e below (T2.setTop (mkF m 7 #[.val (.ref a1), .unset, .unset] [])) _
    refine XS.iconst X2.here hx rfl (hb hby d13_7) ?_
    show Steps p.tables e below (T2.setTop (mkF m 8 #[.val (.ref a1), .unset, .unset] [(.int (0 : Int32))])) _
    exact retN X2 hx (t := .boolean) Bd.returns (by simp) (hb hby d13_8) hr
  · show Q13 Z a1 h0 n0 _ T2.heap _
    rw [e2]
    exact ⟨rfl, N0, rfl⟩
theorem pd_3 : parseMethodDescriptor "()Z" = some ⟨[], some .boolean⟩ := by decide +kernel
theorem d12_0 : decode prog_132_method_19_code 0 = .ok (.aload_n 0, 1) := by decide +kernel
theorem d12_1 : decode prog_132_method_19_code 1 = .ok (.getfield 68, 3) := by decide +kernel
theorem d12_4 : decode prog_132_method_19_code 4 = .ok (.aload_n 0, 1) := by decide +kernel
theorem d12_5 : decode prog_132_method_19_code 5 = .ok (.getfield 58, 3) := by decide +kernel
theorem d12_8 : decode prog_132_method_19_code 8 = .ok (.if_icmp .ne 12, 3) := by decide +kernel
theorem d12_11 : decode prog_132_method_19_code 11 = .ok (.aload_n 0, 1) := by decide +kernel
theorem d12_12 : decode prog_132_method_19_code 12 = .ok (.invokevirtual 79, 3) := by decide +kernel
theorem d12_15 : decode prog_132_method_19_code 15 = .ok (.ifCond .ne (-15), 3) := by decide +kernel
theorem d12_18 : decode prog_132_method_19_code 18 = .ok (.iconst 0, 1) := by decide +kernel
theorem d12_19 : decode prog_132_method_19_code 19 = .ok (.ireturn, 1) := by decide +kernel
theorem d12_20 : decode prog_132_method_19_code 20 = .ok (.iconst 1, 1) := by decide +kernel
theorem d12_21 : decode prog_132_method_19_code 21 = .ok (.ireturn, 1) := by decide +kernel
theorem ef_12 (m : MethodId) (a1 : Addr) : entryFrame m #[(.ref a1)] 1 = mkF m 0 #[.val (.ref a1)] [] := by first | (simp [entryFrame, mkF, argsToLocals, Value.category]; done) | rfl
def F12 (w_next_a1 : Int32) (w_limit_a1 : Int32) : Int32 := (if w_next_a1 = w_limit_a1 then (0 : Int32) else (1 : Int32))
def Q12 (Z : State) (a1 : Addr) (w_next_a1 : Int32) (w_limit_a1 : Int32) (h0 : Heap) (n0 : Nat) (v : Option Value) (h : Heap) (L : List Loc) : Prop := v = some (.int (F12 w_next_a1 w_limit_a1)) ∧ Fr n0 L ∧ h = h0
set_option maxRecDepth 65536 in
set_option maxHeartbeats 40000000 in
theorem rm12 (l : Launch) (Z : State) (a0 : Array Value) (hw : ∀ d ∈ tables_1, d.before a0 Z = true) (ws : List Jvm.Cond) (a1 : Addr) (w_next_a1 : Int32) (w_limit_a1 : Int32) (h0 : Heap) (n0 : Nat) (Z0 : n0 ≤ h0.size) (F_in_a1 : Fld Z h0 a1 "querent/hl7/LineReader" "in" "Ljava/io/InputStream;" .null) (F_next_a1 : Fld Z h0 a1 "querent/hl7/LineReader" "next" "I" (.int w_next_a1)) (F_limit_a1 : Fld Z h0 a1 "querent/hl7/LineReader" "limit" "I" (.int w_limit_a1)) (E_a1 : Exa Z h0 a1 "querent/hl7/LineReader") :
    MetFree l (⟨"querent/hl7/LineReader", "more", "()Z"⟩ : MethodName) (head1 (Jvm.Cond.code (⟨"querent/hl7/LineReader", "more", "()Z"⟩ : MethodName) prog_132_method_19_code 1 (some .boolean) :: ws) ({ frames := 1, cells := 0, slots := 0, locals := 14 } : Room)) (fun a U => a = #[(.ref a1)] ∧ Z.Warmed39 U.vm ∧ U.heap = h0) (fun _ _ _ _ _ => True) (fun _ U o U' => ∃ v L, o = .returned v ∧ Q12 Z a1 w_next_a1 w_limit_a1 h0 n0 v U'.heap L ∧ FrameEnd U o U' L ({ frames := 1, cells := 0, slots := 0, locals := 14 } : Room).cells ({ frames := 1, cells := 0, slots := 0, locals := 14 } : Room).slots) := by
  refine MetFree.of_bodySF (plainFor_of_name pn_3) hisR ?_
  intro p e s m args below meth c s₁ Bd hml0 hP hK
  obtain ⟨rfl, hZ, hh⟩ := hP
  have hx := Bd.exec
  have hby := Bd.bytes
  have hml : c.maxLocals = 1 := hml0
  have hown : s.vm.findClass "querent/hl7/LineReader" = some m.cls := findClass_of_methodNamed Bd.named
  have hnm := (name_of_methodNamed Bd.named Bd.method).1
  have X0 : Stand p l e ({ frames := 1, cells := 0, slots := 0, locals := 14 } : Room) s m #[(.ref a1)] below meth c s₁ [] 0 0 := Stand.of_body Bd
  have e0 : s₁.heap = h0 := by rw [← hh, Bd.state]; rfl
  have N0 := Fr.nil n0
  have pre0 : ∀ t, Steps p.tables e below (s₁.setTop (mkF m 0 #[.val (.ref a1)] [])) t → Steps p.tables e below (s₁.setTop (entryFrame m #[(.ref a1)] 1)) t := fun t k => castTop (ef_12 m a1) k
  obtain ⟨T2, X2, e2, st2⟩ := getF X0 hx hZ hown (host := "") (Or.inl (hw _ (List.mem_of_getElem? (i := 52) rfl))) Via.refl e0 F_next_a1 (g := (mkF m 1 #[.val (.ref a1)] [(.ref a1)])) rfl rfl (hb hby d12_1)
  obtain ⟨T3, X3, e3, st3⟩ := getF X2 hx hZ hown (host := "") (Or.inl (hw _ (List.mem_of_getElem? (i := 46) rfl))) Via.refl e2 F_limit_a1 (g := (mkF m 5 #[.val (.ref a1)] [(.ref a1), (.int w_next_a1)])) rfl rfl (hb hby d12_5)
  have pre5 : ∀ t, Steps p.tables e below (T3.setTop (mkF m 8 #[.val (.ref a1)] [(.int w_limit_a1), (.int w_next_a1)])) t → Steps p.tables e below (s₁.setTop (entryFrame m #[(.ref a1)] 1)) t := fun t kt => pre0 t (by
    show Steps p.tables e below (s₁.setTop (mkF m 0 #[.val (.ref a1)] [])) _
    refine XS.aloadN X0.here hx rfl (hb hby d12_0) rfl rfl ?_
    show Steps p.tables e below (s₁.setTop (mkF m 1 #[.val (.ref a1)] [(.ref a1)])) _
    refine st2 _ ?_
    show Steps p.tables e below (T2.setTop (mkF m 4 #[.val (.ref a1)] [(.int w_next_a1)])) _
    refine XS.aloadN X2.here hx rfl (hb hby d12_4) rfl rfl ?_
    show Steps p.tables e below (T2.setTop (mkF m 5 #[.val (.ref a1)] [(.ref a1), (.int w_next_a1)])) _
    refine st3 _ ?_
    show Steps p.tables e below (T3.setTop (mkF m 8 #[.val (.ref a1)] [(.int w_limit_a1), (.int w_next_a1)])) _
    exact kt)
  by_cases hc8_4 : w_next_a1 = w_limit_a1
  · obtain ⟨cq6, q6, q6'⟩ := E_a1.cell
    obtain ⟨_, _, ⟨T6, L6, k6, n6⟩, -, X6, ⟨Lc6, hQ6, l6, y6, z6⟩, st6⟩ := X3.privateBack hx (y := (⟨"querent/hl7/LineReader", "fill", "()Z"⟩ : MethodName)) hown (mvT hZ (hw _ (List.mem_of_getElem? (i := 86) rfl))) (mvT hZ (hw _ (List.mem_of_getElem? (i := 87) rfl))) (own_selp (args' := #[]) (w := (⟨"querent/hl7/LineReader", "offset", "()J"⟩ : MethodName)) (mvT hZ (hw _ (List.mem_of_getElem? (i := 57) rfl))) rfl (Cond.privateMethod_at (mvP hZ (hw _ (List.mem_of_getElem? (i := 88) rfl)) (args := #[]))) (mvT hZ (hw _ (List.mem_of_getElem? (i := 87) rfl))) (by decide)) (Cond.privateMethod_at (mvP hZ (hw _ (List.mem_of_getElem? (i := 88) rfl)) (args := #[]))) (mvT hZ (hw _ (List.mem_of_getElem? (i := 89) rfl))) (by decide) (backOf (W := 0) (rm13 l Z a0 hw [] a1 h0 n0 Z0 F_in_a1) hZ (hw _ (List.mem_of_getElem? (i := 89) rfl)) (hw _ (List.mem_of_getElem? (i := 10) rfl)) (by decide) (by decide)) (g := (mkF m 12 #[.val (.ref a1)] [(.ref a1)])) rfl (by rw [hml]; rfl) (Steps.refl _) (a := a1) (by rw [e3]; exact q6) q6' (argsL := []) (rest := []) (lenOf pd_3 rfl) rfl (by show 2 * 0 + _ ≤ _; exact Nat.le_of_eq rfl) (hb hby d12_12) (fun _ _ => ⟨rfl, e3, (by decide : 0 + 0 ≤ _), (by decide : 0 + 0 ≤ _)⟩)
    dsimp only [Pt.U, Pt.locs, Pt.cells, Pt.slots] at X6 l6 y6 z6 st6 hQ6
    subst l6 y6 z6
    obtain ⟨rfl, N6q, e6⟩ := hQ6
    have N6 := Fr.app N0 N6q
    obtain ⟨fs, hr, hrun, hended, hW, hsame⟩ := X6.leave (v := some (.int (0 : Int32))) (fun h => by rw [Bd.returns] at h; cases h)
    refine ⟨_, _, pre5 _ ?_, hrun, hended, _, _, rfl, ?_, ⟨_, rfl⟩, hW, hsame.mono (by decide) (by decide)⟩
    · show Steps p.tables e below (T3.setTop (mkF m 8 #[.val (.ref a1)] [(.int w_limit_a1), (.int w_next_a1)])) _
      refine XS.icmpNo X3.here hx rfl (hb hby d12_8) rfl (teq hc8_4).2 ?_
      show Steps p.tables e below (T3.setTop (mkF m 11 #[.val (.ref a1)] [])) _
      refine XS.aloadN X3.here hx rfl (hb hby d12_11) rfl rfl ?_
      show Steps p.tables e below (T3.setTop (mkF m 12 #[.val (.ref a1)] [(.ref a1)])) _
      refine st6.trans ?_
      show Steps p.tables e below (T6.setTop (mkF m 15 #[.val (.ref a1)] [(.int (0 : Int32))])) _
      refine XS.ifNo X6.here hx rfl (hb hby d12_15) rfl ((if0 _ _).trans (teq (by decide : (0 : Int32) = (0 : Int32))).2) ?_
      show Steps p.tables e below (T6.setTop (mkF m 18 #[.val (.ref a1)] [])) _
      refine XS.iconst X6.here hx rfl (hb hby d12_18) ?_
      show Steps p.tables e below (T6.setTop (mkF m 19 #[.val (.ref a1)] [(.int (0 : Int32))])) _
      exact retN X6 hx (t := .boolean) Bd.returns (by simp) (hb hby d12_19) hr
    · show Q12 Z a1 w_next_a1 w_limit_a1 h0 n0 _ T6.heap _
      rw [e6]
      have qr : F12 w_next_a1 w_limit_a1 = (0 : Int32) := by unfold F12; rw [if_pos hc8_4]
      exact ⟨(by rw [qr]), N6, rfl⟩
  · obtain ⟨fs, hr, hrun, hended, hW, hsame⟩ := X3.leave (v := some (.int (1 : Int32))) (fun h => by rw [Bd.returns] at h; cases h)
    refine ⟨_, _, pre5 _ ?_, hrun, hended, _, _, rfl, ?_, ⟨_, rfl⟩, hW, hsame.mono (by decide) (by decide)⟩
    · show Steps p.tables e below (T3.setTop (mkF m 8 #[.val (.ref a1)] [(.int w_limit_a1), (.int w_next_a1)])) _
      refine XS.icmpYes X3.here hx rfl (pc0 := 8) (pc' := 20) rfl (hb hby d12_8) rfl (feq hc8_4).2 (by decide) (by decide) ?_
      show Steps p.tables e below (T3.setTop (mkF m 20 #[.val (.ref a1)] [])) _
      refine XS.iconst X3.here hx rfl (hb hby d12_20) ?_
      show Steps p.tables e below (T3.setTop (mkF m 21 #[.val (.ref a1)] [(.int (1 : Int32))])) _
      exact retN X3 hx (t := .boolean) Bd.returns (by simp) (hb hby d12_21) hr
    · show Q12 Z a1 w_next_a1 w_limit_a1 h0 n0 _ T3.heap _
      rw [e3]
      have qr : F12 w_next_a1 w_limit_a1 = (1 : Int32) := by unfold F12; rw [if_neg hc8_4]
      exact ⟨(by rw [qr]), N0, rfl⟩
theorem own_z0 : (0 : Int32).toInt = 0 := rfl
theorem own_z1 : (1 : Int32).toInt = 1 := rfl
theorem own_z6 : (6 : Int32).toInt = 6 := rfl
theorem own_mz (a b : Int32) : (F12 a b = (0 : Int32)) = (a = b) := by
  unfold F12; by_cases h : a = b
  · simp [h]
  · simp [h]
theorem own_lt6 {i lim : Int32} (h : i < lim) (h6 : ¬ ((6 : Int32) < lim)) : i < (6 : Int32) := by (try clear pre0); (try simp only [own_mz] at h); (try simp only [Int32.lt_iff_toInt_lt, ← Int32.toInt_inj, own_z0, own_z1, own_z6] at h); (try simp only [own_mz] at h6); (try simp only [Int32.lt_iff_toInt_lt, ← Int32.toInt_inj, own_z0, own_z1, own_z6] at h6); (try simp only [Int32.lt_iff_toInt_lt, ← Int32.toInt_inj, own_z0, own_z1, own_z6] at ⊢); omega
theorem own_next {i lim : Int32} (h0 : ¬ (i < (0 : Int32))) (h : i < lim) (h6 : ¬ ((6 : Int32) < lim)) : ¬ (i + (1 : Int32) < (0 : Int32)) ∧ ¬ (lim < i + (1 : Int32)) ∧ (i + (1 : Int32)).toInt = i.toInt + 1 := by
  have q1 := c_iadd i (1 : Int32)
  have q2 := rng32 (i + (1 : Int32))
  simp only [Int32.lt_iff_toInt_lt, own_z0, own_z1, own_z6] at *
  omega
theorem d14_0 : decode prog_132_method_18_code 0 = .ok (.aload_n 0, 1) := by decide +kernel
theorem d14_1 : decode prog_132_method_18_code 1 = .ok (.aload_n 0, 1) := by decide +kernel
theorem d14_2 : decode prog_132_method_18_code 2 = .ok (.getfield 58, 3) := by decide +kernel
theorem d14_5 : decode prog_132_method_18_code 5 = .ok (.putfield 65, 3) := by decide +kernel
theorem d14_8 : decode prog_132_method_18_code 8 = .ok (.aload_n 0, 1) := by decide +kernel
theorem d14_9 : decode prog_132_method_18_code 9 = .ok (.aload_n 0, 1) := by decide +kernel
theorem d14_10 : decode prog_132_method_18_code 10 = .ok (.getfield 58, 3) := by decide +kernel
theorem d14_13 : decode prog_132_method_18_code 13 = .ok (.putfield 68, 3) := by decide +kernel
theorem d14_16 : decode prog_132_method_18_code 16 = .ok (.aload_n 0, 1) := by decide +kernel
theorem d14_17 : decode prog_132_method_18_code 17 = .ok (.iconst 0, 1) := by decide +kernel
theorem d14_18 : decode prog_132_method_18_code 18 = .ok (.putfield 101, 3) := by decide +kernel
theorem d14_21 : decode prog_132_method_18_code 21 = .ok (.return_, 1) := by decide +kernel
theorem ef_14 (m : MethodId) (a1 : Addr) : entryFrame m #[(.ref a1)] 1 = mkF m 0 #[.val (.ref a1)] [] := by first | (simp [entryFrame, mkF, argsToLocals, Value.category]; done) | rfl
def Q14 (Z : State) (a1 : Addr) (w_block_a1 : Addr) (w_carriageReturnEnds_a1 : Int32) (w_base_a1 : Int64) (w_limit_a1 : Int32) (w_start_a1 : Int32) (w_end_a1 : Int32) (w_next_a1 : Int32) (w_keeping_a1 : Int32) (w_kept_a1 : Int32) (w_ended_a1 : Int32) (w_afterCarriageReturn_a1 : Int32) (w_number_a1 : Int32) (h0 : Heap) (n0 : Nat) (v : Option Value) (h : Heap) (L : List Loc) : Prop := v = none ∧ Fr n0 L ∧ Keep h0 h [a1] ∧ Exa Z h a1 "querent/hl7/LineReader" ∧ Fld Z h a1 "querent/hl7/LineReader" "in" "Ljava/io/InputStream;" .null ∧ Fld Z h a1 "querent/hl7/LineReader" "block" "[B" (.ref w_block_a1) ∧ Fld Z h a1 "querent/hl7/LineReader" "carriageReturnEnds" "Z" (.int w_carriageReturnEnds_a1) ∧ Fld Z h a1 "querent/hl7/LineReader" "base" "J" (.long w_base_a1) ∧ Fld Z h a1 "querent/hl7/LineReader" "limit" "I" (.int w_limit_a1) ∧ Fld Z h a1 "querent/hl7/LineReader" "start" "I" (.int w_start_a1) ∧ Fld Z h a1 "querent/hl7/LineReader" "end" "I" (.int w_limit_a1) ∧ Fld Z h a1 "querent/hl7/LineReader" "next" "I" (.int w_limit_a1) ∧ Fld Z h a1 "querent/hl7/LineReader" "keeping" "Z" (.int w_keeping_a1) ∧ Fld Z h a1 "querent/hl7/LineReader" "kept" "I" (.int w_kept_a1) ∧ Fld Z h a1 "querent/hl7/LineReader" "ended" "Z" (.int (0 : Int32)) ∧ Fld Z h a1 "querent/hl7/LineReader" "afterCarriageReturn" "Z" (.int w_afterCarriageReturn_a1) ∧ Fld Z h a1 "querent/hl7/LineReader" "number" "I" (.int w_number_a1)
set_option maxRecDepth 65536 in
set_option maxHeartbeats 40000000 in
theorem rm14 (l : Launch) (Z : State) (a0 : Array Value) (hw : ∀ d ∈ tables_1, d.before a0 Z = true) (ws : List Jvm.Cond) (a1 : Addr) (w_block_a1 : Addr) (w_carriageReturnEnds_a1 : Int32) (w_base_a1 : Int64) (w_limit_a1 : Int32) (w_start_a1 : Int32) (w_end_a1 : Int32) (w_next_a1 : Int32) (w_keeping_a1 : Int32) (w_kept_a1 : Int32) (w_ended_a1 : Int32) (w_afterCarriageReturn_a1 : Int32) (w_number_a1 : Int32) (h0 : Heap) (n0 : Nat) (Z0 : n0 ≤ h0.size) (E_a1 : Exa Z h0 a1 "querent/hl7/LineReader") (F_in_a1 : Fld Z h0 a1 "querent/hl7/LineReader" "in" "Ljava/io/InputStream;" .null) (F_block_a1 : Fld Z h0 a1 "querent/hl7/LineReader" "block" "[B" (.ref w_block_a1)) (F_carriageReturnEnds_a1 : Fld Z h0 a1 "querent/hl7/LineReader" "carriageReturnEnds" "Z" (.int w_carriageReturnEnds_a1)) (F_base_a1 : Fld Z h0 a1 "querent/hl7/LineReader" "base" "J" (.long w_base_a1)) (F_limit_a1 : Fld Z h0 a1 "querent/hl7/LineReader" "limit" "I" (.int w_limit_a1)) (F_start_a1 : Fld Z h0 a1 "querent/hl7/LineReader" "start" "I" (.int w_start_a1)) (F_end_a1 : Fld Z h0 a1 "querent/hl7/LineReader" "end" "I" (.int w_end_a1)) (F_next_a1 : Fld Z h0 a1 "querent/hl7/LineReader" "next" "I" (.int w_next_a1)) (F_keeping_a1 : Fld Z h0 a1 "querent/hl7/LineReader" "keeping" "Z" (.int w_keeping_a1)) (F_kept_a1 : Fld Z h0 a1 "querent/hl7/LineReader" "kept" "I" (.int w_kept_a1)) (F_ended_a1 : Fld Z h0 a1 "querent/hl7/LineReader" "ended" "Z" (.int w_ended_a1)) (F_afterCarriageReturn_a1 : Fld Z h0 a1 "querent/hl7/LineReader" "afterCarriageReturn" "Z" (.int w_afterCarriageReturn_a1)) (F_number_a1 : Fld Z h0 a1 "querent/hl7/LineReader" "number" "I" (.int w_number_a1)) (g_a1 : n0 ≤ a1) :
    MetFree l (⟨"querent/hl7/LineReader", "endText", "()V"⟩ : MethodName) (head1 (Jvm.Cond.code (⟨"querent/hl7/LineReader", "endText", "()V"⟩ : MethodName) prog_132_method_18_code 1 none :: ws) ({ frames := 0, cells := 0, slots := 0, locals := 0 } : Room)) (fun a U => a = #[(.ref a1)] ∧ Z.Warmed39 U.vm ∧ U.heap = h0) (fun _ _ _ _ _ => True) (fun _ U o U' => ∃ v L, o = .returned v ∧ Q14 Z a1 w_block_a1 w_carriageReturnEnds_a1 w_base_a1 w_limit_a1 w_start_a1 w_end_a1 w_next_a1 w_keeping_a1 w_kept_a1 w_ended_a1 w_afterCarriageReturn_a1 w_number_a1 h0 n0 v U'.heap L ∧ FrameEnd U o U' L ({ frames := 0, cells := 0, slots := 0, locals := 0 } : Room).cells ({ frames := 0, cells := 0, slots := 0, locals := 0 } : Room).slots) := by
  refine MetFree.of_bodySF (plainFor_of_name pn_3) hisR ?_
  intro p e s m args below meth c s₁ Bd hml0 hP hK
  obtain ⟨rfl, hZ, hh⟩ := hP
  have hx := Bd.exec
  have hby := Bd.bytes
  have hml : c.maxLocals = 1 := hml0
  have hown : s.vm.findClass "querent/hl7/LineReader" = some m.cls := findClass_of_methodNamed Bd.named
  have hnm := (name_of_methodNamed Bd.named Bd.method).1
  have X0 : Stand p l e ({ frames := 0, cells := 0, slots := 0, locals := 0 } : Room) s m #[(.ref a1)] below meth c s₁ [] 0 0 := Stand.of_body Bd
  have e0 : s₁.heap = h0 := by rw [← hh, Bd.state]; rfl
  have N0 := Fr.nil n0
  have pre0 : ∀ t, Steps p.tables e below (s₁.setTop (mkF m 0 #[.val (.ref a1)] [])) t → Steps p.tables e below (s₁.setTop (entryFrame m #[(.ref a1)] 1)) t := fun t k => castTop (ef_14 m a1) k
  obtain ⟨T2, X2, e2, st2⟩ := getF X0 hx hZ hown (host := "") (Or.inl (hw _ (List.mem_of_getElem? (i := 46) rfl))) Via.refl e0 F_limit_a1 (g := (mkF m 2 #[.val (.ref a1)] [(.ref a1), (.ref a1)])) rfl rfl (hb hby d14_2)
  obtain ⟨T3, h3, X3, e3, W3, st3⟩ := putF X2 hx hZ hown (host := "") (Or.inl (hw _ (List.mem_of_getElem? (i := 50) rfl))) Via.refl e2 F_end_a1 E_a1 (Or.inl (hw _ (List.mem_of_getElem? (i := 51) rfl))) (hw _ (List.mem_of_getElem? (i := 9) rfl)) (ty := .int) (by decide) rfl rfl (g := (mkF m 5 #[.val (.ref a1)] [(.int w_limit_a1), (.ref a1)])) rfl rfl (hb hby d14_5)
  have N3 := Fr.snoc X3 N0 g_a1
  have y4 := (F_in_a1.other W3 (Or.inr (slot_ne (Or.inr (hw _ (List.mem_of_getElem? (i := 37) rfl))) (Or.inl (hw _ (List.mem_of_getElem? (i := 51) rfl))) (by decide) (t := (.object "java/io/InputStream")) (t' := .int) (by decide) (by decide))))
  have y5 := (F_block_a1.other W3 (Or.inr (slot_ne (Or.inl (hw _ (List.mem_of_getElem? (i := 39) rfl))) (Or.inl (hw _ (List.mem_of_getElem? (i := 51) rfl))) (by decide) (t := (.array .byte)) (t' := .int) (by decide) (by decide))))
  have y6 := (F_carriageReturnEnds_a1.other W3 (Or.inr (slot_ne (Or.inr (hw _ (List.mem_of_getElem? (i := 43) rfl))) (Or.inl (hw _ (List.mem_of_getElem? (i := 51) rfl))) (by decide) (t := .boolean) (t' := .int) (by decide) (by decide))))
  have y7 := (F_base_a1.other W3 (Or.inr (slot_ne (Or.inl (hw _ (List.mem_of_getElem? (i := 45) rfl))) (Or.inl (hw _ (List.mem_of_getElem? (i := 51) rfl))) (by decide) (t := .long) (t' := .int) (by decide) (by decide))))
  have y8 := (F_limit_a1.other W3 (Or.inr (slot_ne (Or.inl (hw _ (List.mem_of_getElem? (i := 47) rfl))) (Or.inl (hw _ (List.mem_of_getElem? (i := 51) rfl))) (by decide) (t := .int) (t' := .int) (by decide) (by decide))))
  have y9 := (F_start_a1.other W3 (Or.inr (slot_ne (Or.inl (hw _ (List.mem_of_getElem? (i := 49) rfl))) (Or.inl (hw _ (List.mem_of_getElem? (i := 51) rfl))) (by decide) (t := .int) (t' := .int) (by decide) (by decide))))
  have y10 := (F_next_a1.other W3 (Or.inr (slot_ne (Or.inl (hw _ (List.mem_of_getElem? (i := 53) rfl))) (Or.inl (hw _ (List.mem_of_getElem? (i := 51) rfl))) (by decide) (t := .int) (t' := .int) (by decide) (by decide))))
  have y11 := (F_keeping_a1.other W3 (Or.inr (slot_ne (Or.inl (hw _ (List.mem_of_getElem? (i := 65) rfl))) (Or.inl (hw _ (List.mem_of_getElem? (i := 51) rfl))) (by decide) (t := .boolean) (t' := .int) (by decide) (by decide))))
  have y12 := (F_kept_a1.other W3 (Or.inr (slot_ne (Or.inl (hw _ (List.mem_of_getElem? (i := 67) rfl))) (Or.inl (hw _ (List.mem_of_getElem? (i := 51) rfl))) (by decide) (t := .int) (t' := .int) (by decide) (by decide))))
  have y13 := (F_ended_a1.other W3 (Or.inr (slot_ne (Or.inl (hw _ (List.mem_of_getElem? (i := 95) rfl))) (Or.inl (hw _ (List.mem_of_getElem? (i := 51) rfl))) (by decide) (t := .boolean) (t' := .int) (by decide) (by decide))))
  have y14 := (F_afterCarriageReturn_a1.other W3 (Or.inr (slot_ne (Or.inl (hw _ (List.mem_of_getElem? (i := 102) rfl))) (Or.inl (hw _ (List.mem_of_getElem? (i := 51) rfl))) (by decide) (t := .boolean) (t' := .int) (by decide) (by decide))))
  have y15 := (F_number_a1.other W3 (Or.inr (slot_ne (Or.inl (hw _ (List.mem_of_getElem? (i := 104) rfl))) (Or.inl (hw _ (List.mem_of_getElem? (i := 51) rfl))) (by decide) (t := .int) (t' := .int) (by decide) (by decide))))
  have K3 : Keep h0 h3 [a1] := ((Keep.refl h0 [a1])).wr W3 (Or.inl (List.mem_of_getElem? (i := 0) rfl))
  have Z3 : n0 ≤ h3.size := Nat.le_trans Z0 (Keep.of_wr W3).1
  obtain ⟨T16, X16, e16, st16⟩ := getF X3 hx hZ hown (host := "") (Or.inl (hw _ (List.mem_of_getElem? (i := 46) rfl))) Via.refl e3 y8 (g := (mkF m 10 #[.val (.ref a1)] [(.ref a1), (.ref a1)])) rfl rfl (hb hby d14_10)
  obtain ⟨T17, h17, X17, e17, W17, st17⟩ := putF X16 hx hZ hown (host := "") (Or.inl (hw _ (List.mem_of_getElem? (i := 52) rfl))) Via.refl e16 y10 (E_a1.wr W3) (Or.inl (hw _ (List.mem_of_getElem? (i := 53) rfl))) (hw _ (List.mem_of_getElem? (i := 9) rfl)) (ty := .int) (by decide) rfl rfl (g := (mkF m 13 #[.val (.ref a1)] [(.int w_limit_a1), (.ref a1)])) rfl rfl (hb hby d14_13)
  have N17 := Fr.snoc X17 N3 g_a1
  have y18 := (y4.other W17 (Or.inr (slot_ne (Or.inr (hw _ (List.mem_of_getElem? (i := 37) rfl))) (Or.inl (hw _ (List.mem_of_getElem? (i := 53) rfl))) (by decide) (t := (.object "java/io/InputStream")) (t' := .int) (by decide) (by decide))))
  have y19 := (y5.other W17 (Or.inr (slot_ne (Or.inl (hw _ (List.mem_of_getElem? (i := 39) rfl))) (Or.inl (hw _ (List.mem_of_getElem? (i := 53) rfl))) (by decide) (t := (.array .byte)) (t' := .int) (by decide) (by decide))))
  have y20 := (y6.other W17 (Or.inr (slot_ne (Or.inr (hw _ (List.mem_of_getElem? (i := 43) rfl))) (Or.inl (hw _ (List.mem_of_getElem? (i := 53) rfl))) (by decide) (t := .boolean) (t' := .int) (by decide) (by decide))))
  have y21 := (y7.other W17 (Or.inr (slot_ne (Or.inl (hw _ (List.mem_of_getElem? (i := 45) rfl))) (Or.inl (hw _ (List.mem_of_getElem? (i := 53) rfl))) (by decide) (t := .long) (t' := .int) (by decide) (by decide))))
  have y22 := (y8.other W17 (Or.inr (slot_ne (Or.inl (hw _ (List.mem_of_getElem? (i := 47) rfl))) (Or.inl (hw _ (List.mem_of_getElem? (i := 53) rfl))) (by decide) (t := .int) (t' := .int) (by decide) (by decide))))
  have y23 := (y9.other W17 (Or.inr (slot_ne (Or.inl (hw _ (List.mem_of_getElem? (i := 49) rfl))) (Or.inl (hw _ (List.mem_of_getElem? (i := 53) rfl))) (by decide) (t := .int) (t' := .int) (by decide) (by decide))))
  have y24 := ((F_end_a1.same W3).other W17 (Or.inr (slot_ne (Or.inl (hw _ (List.mem_of_getElem? (i := 51) rfl))) (Or.inl (hw _ (List.mem_of_getElem? (i := 53) rfl))) (by decide) (t := .int) (t' := .int) (by decide) (by decide))))
  have y25 := (y11.other W17 (Or.inr (slot_ne (Or.inl (hw _ (List.mem_of_getElem? (i := 65) rfl))) (Or.inl (hw _ (List.mem_of_getElem? (i := 53) rfl))) (by decide) (t := .boolean) (t' := .int) (by decide) (by decide))))
  have y26 := (y12.other W17 (Or.inr (slot_ne (Or.inl (hw _ (List.mem_of_getElem? (i := 67) rfl))) (Or.inl (hw _ (List.mem_of_getElem? (i := 53) rfl))) (by decide) (t := .int) (t' := .int) (by decide) (by decide))))
  have y27 := (y13.other W17 (Or.inr (slot_ne (Or.inl (hw _ (List.mem_of_getElem? (i := 95) rfl))) (Or.inl (hw _ (List.mem_of_getElem? (i := 53) rfl))) (by decide) (t := .boolean) (t' := .int) (by decide) (by decide))))
  have y28 := (y14.other W17 (Or.inr (slot_ne (Or.inl (hw _ (List.mem_of_getElem? (i := 102) rfl))) (Or.inl (hw _ (List.mem_of_getElem? (i := 53) rfl))) (by decide) (t := .boolean) (t' := .int) (by decide) (by decide))))
  have y29 := (y15.other W17 (Or.inr (slot_ne (Or.inl (hw _ (List.mem_of_getElem? (i := 104) rfl))) (Or.inl (hw _ (List.mem_of_getElem? (i := 53) rfl))) (by decide) (t := .int) (t' := .int) (by decide) (by decide))))
  have K17 : Keep h0 h17 [a1] := (K3).wr W17 (Or.inl (List.mem_of_getElem? (i := 0) rfl))
  have Z17 : n0 ≤ h17.size := Nat.le_trans Z3 (Keep.of_wr W17).1
  obtain ⟨T30, h30, X30, e30, W30, st30⟩ := putFN X17 hx hZ hown (hw _ (List.mem_of_getElem? (i := 94) rfl)) Via.refl e17 y27 ((E_a1.wr W3).wr W17) (Or.inl (hw _ (List.mem_of_getElem? (i := 95) rfl))) (hw _ (List.mem_of_getElem? (i := 9) rfl)) (ty := .boolean) (v' := (.int (0 : Int32))) (by decide) rfl rfl (g := (mkF m 18 #[.val (.ref a1)] [(.int (0 : Int32)), (.ref a1)])) rfl rfl (hb hby d14_18)
  have N30 := Fr.snoc X30 N17 g_a1
  have y31 := (y18.other W30 (Or.inr (slot_ne (Or.inr (hw _ (List.mem_of_getElem? (i := 37) rfl))) (Or.inl (hw _ (List.mem_of_getElem? (i := 95) rfl))) (by decide) (t := (.object "java/io/InputStream")) (t' := .boolean) (by decide) (by decide))))
  have y32 := (y19.other W30 (Or.inr (slot_ne (Or.inl (hw _ (List.mem_of_getElem? (i := 39) rfl))) (Or.inl (hw _ (List.mem_of_getElem? (i := 95) rfl))) (by decide) (t := (.array .byte)) (t' := .boolean) (by decide) (by decide))))
  have y33 := (y20.other W30 (Or.inr (slot_ne (Or.inr (hw _ (List.mem_of_getElem? (i := 43) rfl))) (Or.inl (hw _ (List.mem_of_getElem? (i := 95) rfl))) (by decide) (t := .boolean) (t' := .boolean) (by decide) (by decide))))
  have y34 := (y21.other W30 (Or.inr (slot_ne (Or.inl (hw _ (List.mem_of_getElem? (i := 45) rfl))) (Or.inl (hw _ (List.mem_of_getElem? (i := 95) rfl))) (by decide) (t := .long) (t' := .boolean) (by decide) (by decide))))
  have y35 := (y22.other W30 (Or.inr (slot_ne (Or.inl (hw _ (List.mem_of_getElem? (i := 47) rfl))) (Or.inl (hw _ (List.mem_of_getElem? (i := 95) rfl))) (by decide) (t := .int) (t' := .boolean) (by decide) (by decide))))
  have y36 := (y23.other W30 (Or.inr (slot_ne (Or.inl (hw _ (List.mem_of_getElem? (i := 49) rfl))) (Or.inl (hw _ (List.mem_of_getElem? (i := 95) rfl))) (by decide) (t := .int) (t' := .boolean) (by decide) (by decide))))
  have y37 := (y24.other W30 (Or.inr (slot_ne (Or.inl (hw _ (List.mem_of_getElem? (i := 51) rfl))) (Or.inl (hw _ (List.mem_of_getElem? (i := 95) rfl))) (by decide) (t := .int) (t' := .boolean) (by decide) (by decide))))
  have y38 := ((y10.same W17).other W30 (Or.inr (slot_ne (Or.inl (hw _ (List.mem_of_getElem? (i := 53) rfl))) (Or.inl (hw _ (List.mem_of_getElem? (i := 95) rfl))) (by decide) (t := .int) (t' := .boolean) (by decide) (by decide))))
  have y39 := (y25.other W30 (Or.inr (slot_ne (Or.inl (hw _ (List.mem_of_getElem? (i := 65) rfl))) (Or.inl (hw _ (List.mem_of_getElem? (i := 95) rfl))) (by decide) (t := .boolean) (t' := .boolean) (by decide) (by decide))))
  have y40 := (y26.other W30 (Or.inr (slot_ne (Or.inl (hw _ (List.mem_of_getElem? (i := 67) rfl))) (Or.inl (hw _ (List.mem_of_getElem? (i := 95) rfl))) (by decide) (t := .int) (t' := .boolean) (by decide) (by decide))))
  have y41 := (y28.other W30 (Or.inr (slot_ne (Or.inl (hw _ (List.mem_of_getElem? (i := 102) rfl))) (Or.inl (hw _ (List.mem_of_getElem? (i := 95) rfl))) (by decide) (t := .boolean) (t' := .boolean) (by decide) (by decide))))
  have y42 := (y29.other W30 (Or.inr (slot_ne (Or.inl (hw _ (List.mem_of_getElem? (i := 104) rfl))) (Or.inl (hw _ (List.mem_of_getElem? (i := 95) rfl))) (by decide) (t := .int) (t' := .boolean) (by decide) (by decide))))
  have K30 : Keep h0 h30 [a1] := (K17).wr W30 (Or.inl (List.mem_of_getElem? (i := 0) rfl))
  have Z30 : n0 ≤ h30.size := Nat.le_trans Z17 (Keep.of_wr W30).1
  obtain ⟨fs, hr, hrun, hended, hW, hsame⟩ := X30.leave (v := none) (fun _ => rfl)
  refine ⟨_, _, pre0 _ ?_, hrun, hended, _, _, rfl, ?_, ⟨_, rfl⟩, hW, hsame.mono (by decide) (by decide)⟩
  · show Steps p.tables e below (s₁.setTop (mkF m 0 #[.val (.ref a1)] [])) _
    refine XS.aloadN X0.here hx rfl (hb hby d14_0) rfl rfl ?_
    show Steps p.tables e below (s₁.setTop (mkF m 1 #[.val (.ref a1)] [(.ref a1)])) _
    refine XS.aloadN X0.here hx rfl (hb hby d14_1) rfl rfl ?_
    show Steps p.tables e below (s₁.setTop (mkF m 2 #[.val (.ref a1)] [(.ref a1), (.ref a1)])) _
    refine st2 _ ?_
    show Steps p.tables e below (T2.setTop (mkF m 5 #[.val (.ref a1)] [(.int w_limit_a1), (.ref a1)])) _
    refine st3 _ ?_
    show Steps p.tables e below (T3.setTop (mkF m 8 #[.val (.ref a1)] [])) _
    refine XS.aloadN X3.here hx rfl (hb hby d14_8) rfl rfl ?_
    show Steps p.tables e below (T3.setTop (mkF m 9 #[.val (.ref a1)] [(.ref a1)])) _
    refine XS.aloadN X3.here hx rfl (hb hby d14_9) rfl rfl ?_
    show Steps p.tables e below (T3.setTop (mkF m 10 #[.val (.ref a1)] [(.ref a1), (.ref a1)])) _
    refine st16 _ ?_
    show Steps p.tables e below (T16.setTop (mkF m 13 #[.val (.ref a1)] [(.int w_limit_a1), (.ref a1)])) _
    refine st17 _ ?_
    show Steps p.tables e below (T17.setTop (mkF m 16 #[.val (.ref a1)] [])) _
    refine XS.aloadN X17.here hx rfl (hb hby d14_16) rfl rfl ?_
    show Steps p.tables e below (T17.setTop (mkF m 17 #[.val (.ref a1)] [(.ref a1)])) _
    refine XS.iconst X17.here hx rfl (hb hby d14_17) ?_
    show Steps p.tables e below (T17.setTop (mkF m 18 #[.val (.ref a1)] [(.int (0 : Int32)), (.ref a1)])) _
    refine st30 _ ?_
    show Steps p.tables e below (T30.setTop (mkF m 21 #[.val (.ref a1)] [])) _
    exact X30.returnOut hx Bd.returns (hb hby d14_21) hr
  · show Q14 Z a1 w_block_a1 w_carriageReturnEnds_a1 w_base_a1 w_limit_a1 w_start_a1 w_end_a1 w_next_a1 w_keeping_a1 w_kept_a1 w_ended_a1 w_afterCarriageReturn_a1 w_number_a1 h0 n0 _ T30.heap _
    rw [e30]
    exact ⟨rfl, N30, (K30), (((E_a1.wr W3).wr W17).wr W30), y31, y32, y33, y34, y35, y36, y37, y38, y39, y40, (y27.same W30), y41, y42⟩
theorem pd_4 : parseMethodDescriptor "()V" = some ⟨[], none⟩ := by decide +kernel
theorem d11_0 : decode prog_132_method_15_code 0 = .ok (.aload_n 0, 1) := by decide +kernel
theorem d11_1 : decode prog_132_method_15_code 1 = .ok (.aload_n 0, 1) := by decide +kernel
theorem d11_2 : decode prog_132_method_15_code 2 = .ok (.getfield 68, 3) := by decide +kernel
theorem d11_5 : decode prog_132_method_15_code 5 = .ok (.putfield 62, 3) := by decide +kernel
theorem d11_8 : decode prog_132_method_15_code 8 = .ok (.aload_n 0, 1) := by decide +kernel
theorem d11_9 : decode prog_132_method_15_code 9 = .ok (.invokevirtual 112, 3) := by decide +kernel
theorem d11_12 : decode prog_132_method_15_code 12 = .ok (.ifCond .ne 9, 3) := by decide +kernel
theorem d11_15 : decode prog_132_method_15_code 15 = .ok (.aload_n 0, 1) := by decide +kernel
theorem d11_16 : decode prog_132_method_15_code 16 = .ok (.invokevirtual 82, 3) := by decide +kernel
theorem d11_19 : decode prog_132_method_15_code 19 = .ok (.iconst 0, 1) := by decide +kernel
theorem d11_20 : decode prog_132_method_15_code 20 = .ok (.ireturn, 1) := by decide +kernel
theorem d11_21 : decode prog_132_method_15_code 21 = .ok (.aload_n 0, 1) := by decide +kernel
theorem d11_22 : decode prog_132_method_15_code 22 = .ok (.getfield 115, 3) := by decide +kernel
theorem d11_25 : decode prog_132_method_15_code 25 = .ok (.ifCond .eq 53, 3) := by decide +kernel
theorem d11_28 : decode prog_132_method_15_code 28 = .ok (.aload_n 0, 1) := by decide +kernel
theorem d11_29 : decode prog_132_method_15_code 29 = .ok (.iconst 0, 1) := by decide +kernel
theorem d11_30 : decode prog_132_method_15_code 30 = .ok (.putfield 115, 3) := by decide +kernel
theorem d11_33 : decode prog_132_method_15_code 33 = .ok (.aload_n 0, 1) := by decide +kernel
theorem d11_34 : decode prog_132_method_15_code 34 = .ok (.getfield 34, 3) := by decide +kernel
theorem d11_37 : decode prog_132_method_15_code 37 = .ok (.aload_n 0, 1) := by decide +kernel
theorem d11_38 : decode prog_132_method_15_code 38 = .ok (.getfield 68, 3) := by decide +kernel
theorem d11_41 : decode prog_132_method_15_code 41 = .ok (.baload, 1) := by decide +kernel
theorem d11_42 : decode prog_132_method_15_code 42 = .ok (.bipush 10, 2) := by decide +kernel
theorem d11_44 : decode prog_132_method_15_code 44 = .ok (.if_icmp .ne 34, 3) := by decide +kernel
theorem d11_47 : decode prog_132_method_15_code 47 = .ok (.aload_n 0, 1) := by decide +kernel
theorem d11_48 : decode prog_132_method_15_code 48 = .ok (.dup, 1) := by decide +kernel
theorem d11_49 : decode prog_132_method_15_code 49 = .ok (.getfield 68, 3) := by decide +kernel
theorem d11_52 : decode prog_132_method_15_code 52 = .ok (.iconst 1, 1) := by decide +kernel
theorem d11_53 : decode prog_132_method_15_code 53 = .ok (.iadd, 1) := by decide +kernel
theorem d11_54 : decode prog_132_method_15_code 54 = .ok (.putfield 68, 3) := by decide +kernel
theorem d11_57 : decode prog_132_method_15_code 57 = .ok (.aload_n 0, 1) := by decide +kernel
theorem d11_58 : decode prog_132_method_15_code 58 = .ok (.aload_n 0, 1) := by decide +kernel
theorem d11_59 : decode prog_132_method_15_code 59 = .ok (.getfield 68, 3) := by decide +kernel
theorem d11_62 : decode prog_132_method_15_code 62 = .ok (.putfield 62, 3) := by decide +kernel
theorem d11_65 : decode prog_132_method_15_code 65 = .ok (.aload_n 0, 1) := by decide +kernel
theorem d11_66 : decode prog_132_method_15_code 66 = .ok (.invokevirtual 112, 3) := by decide +kernel
theorem d11_69 : decode prog_132_method_15_code 69 = .ok (.ifCond .ne 9, 3) := by decide +kernel
theorem d11_72 : decode prog_132_method_15_code 72 = .ok (.aload_n 0, 1) := by decide +kernel
theorem d11_73 : decode prog_132_method_15_code 73 = .ok (.invokevirtual 82, 3) := by decide +kernel
theorem d11_76 : decode prog_132_method_15_code 76 = .ok (.iconst 0, 1) := by decide +kernel
theorem d11_77 : decode prog_132_method_15_code 77 = .ok (.ireturn, 1) := by decide +kernel
theorem d11_78 : decode prog_132_method_15_code 78 = .ok (.aload_n 0, 1) := by decide +kernel
theorem d11_79 : decode prog_132_method_15_code 79 = .ok (.dup, 1) := by decide +kernel
theorem d11_80 : decode prog_132_method_15_code 80 = .ok (.getfield 104, 3) := by decide +kernel
theorem d11_83 : decode prog_132_method_15_code 83 = .ok (.iconst 1, 1) := by decide +kernel
theorem d11_84 : decode prog_132_method_15_code 84 = .ok (.iadd, 1) := by decide +kernel
theorem d11_85 : decode prog_132_method_15_code 85 = .ok (.putfield 104, 3) := by decide +kernel
theorem d11_88 : decode prog_132_method_15_code 88 = .ok (.iconst 1, 1) := by decide +kernel
theorem d11_89 : decode prog_132_method_15_code 89 = .ok (.ireturn, 1) := by decide +kernel
theorem ef_11 (m : MethodId) (a1 : Addr) : entryFrame m #[(.ref a1)] 1 = mkF m 0 #[.val (.ref a1)] [] := by first | (simp [entryFrame, mkF, argsToLocals, Value.category]; done) | rfl
def Q11 (Z : State) (a1 : Addr) (w_block_a1 : Addr) (w_carriageReturnEnds_a1 : Int32) (w_base_a1 : Int64) (w_limit_a1 : Int32) (w_start_a1 : Int32) (w_end_a1 : Int32) (w_next_a1 : Int32) (w_keeping_a1 : Int32) (w_kept_a1 : Int32) (w_ended_a1 : Int32) (w_afterCarriageReturn_a1 : Int32) (w_number_a1 : Int32) (k_w_block_a1 : ClassId) (vl_w_block_a1 : List Int32) (h0 : Heap) (n0 : Nat) (v : Option Value) (h : Heap) (L : List Loc) : Prop := ∃ xr : Int32, ∃ xs : Int32, ∃ xe : Int32, ∃ xn : Int32, ∃ xd : Int32, ∃ xa : Int32, ∃ xu : Int32, v = some (.int xr) ∧ Fr n0 L ∧ Keep h0 h [a1] ∧ Exa Z h a1 "querent/hl7/LineReader" ∧ Fld Z h a1 "querent/hl7/LineReader" "in" "Ljava/io/InputStream;" .null ∧ Fld Z h a1 "querent/hl7/LineReader" "block" "[B" (.ref w_block_a1) ∧ Fld Z h a1 "querent/hl7/LineReader" "carriageReturnEnds" "Z" (.int w_carriageReturnEnds_a1) ∧ Fld Z h a1 "querent/hl7/LineReader" "base" "J" (.long w_base_a1) ∧ Fld Z h a1 "querent/hl7/LineReader" "limit" "I" (.int w_limit_a1) ∧ Fld Z h a1 "querent/hl7/LineReader" "start" "I" (.int xs) ∧ Fld Z h a1 "querent/hl7/LineReader" "end" "I" (.int xe) ∧ Fld Z h a1 "querent/hl7/LineReader" "next" "I" (.int xn) ∧ Fld Z h a1 "querent/hl7/LineReader" "keeping" "Z" (.int w_keeping_a1) ∧ Fld Z h a1 "querent/hl7/LineReader" "kept" "I" (.int w_kept_a1) ∧ Fld Z h a1 "querent/hl7/LineReader" "ended" "Z" (.int xd) ∧ Fld Z h a1 "querent/hl7/LineReader" "afterCarriageReturn" "Z" (.int xa) ∧ Fld Z h a1 "querent/hl7/LineReader" "number" "I" (.int xu) ∧ (xs = w_next_a1 ∨ (xs = (w_next_a1 + (1 : Int32)) ∧ (own_at vl_w_block_a1 w_next_a1) = (10 : Int32) ∧ w_next_a1 < w_limit_a1)) ∧ (¬ (xn < (0 : Int32))) ∧ (¬ (w_limit_a1 < xn)) ∧ (¬ (xr = (0 : Int32)) → (xs = xn ∧ xn < w_limit_a1))
set_option maxRecDepth 65536 in
set_option maxHeartbeats 40000000 in
theorem rm11 (l : Launch) (Z : State) (a0 : Array Value) (hw : ∀ d ∈ tables_1, d.before a0 Z = true) (ws : List Jvm.Cond) (a1 : Addr) (w_block_a1 : Addr) (w_carriageReturnEnds_a1 : Int32) (w_base_a1 : Int64) (w_limit_a1 : Int32) (w_start_a1 : Int32) (w_end_a1 : Int32) (w_next_a1 : Int32) (w_keeping_a1 : Int32) (w_kept_a1 : Int32) (w_ended_a1 : Int32) (w_afterCarriageReturn_a1 : Int32) (w_number_a1 : Int32) (k_w_block_a1 : ClassId) (vl_w_block_a1 : List Int32) (h0 : Heap) (n0 : Nat) (Z0 : n0 ≤ h0.size) (E_a1 : Exa Z h0 a1 "querent/hl7/LineReader") (F_in_a1 : Fld Z h0 a1 "querent/hl7/LineReader" "in" "Ljava/io/InputStream;" .null) (F_block_a1 : Fld Z h0 a1 "querent/hl7/LineReader" "block" "[B" (.ref w_block_a1)) (F_carriageReturnEnds_a1 : Fld Z h0 a1 "querent/hl7/LineReader" "carriageReturnEnds" "Z" (.int w_carriageReturnEnds_a1)) (F_base_a1 : Fld Z h0 a1 "querent/hl7/LineReader" "base" "J" (.long w_base_a1)) (F_limit_a1 : Fld Z h0 a1 "querent/hl7/LineReader" "limit" "I" (.int w_limit_a1)) (F_start_a1 : Fld Z h0 a1 "querent/hl7/LineReader" "start" "I" (.int w_start_a1)) (F_end_a1 : Fld Z h0 a1 "querent/hl7/LineReader" "end" "I" (.int w_end_a1)) (F_next_a1 : Fld Z h0 a1 "querent/hl7/LineReader" "next" "I" (.int w_next_a1)) (F_keeping_a1 : Fld Z h0 a1 "querent/hl7/LineReader" "keeping" "Z" (.int w_keeping_a1)) (F_kept_a1 : Fld Z h0 a1 "querent/hl7/LineReader" "kept" "I" (.int w_kept_a1)) (F_ended_a1 : Fld Z h0 a1 "querent/hl7/LineReader" "ended" "Z" (.int w_ended_a1)) (F_afterCarriageReturn_a1 : Fld Z h0 a1 "querent/hl7/LineReader" "afterCarriageReturn" "Z" (.int w_afterCarriageReturn_a1)) (F_number_a1 : Fld Z h0 a1 "querent/hl7/LineReader" "number" "I" (.int w_number_a1)) (V_w_block_a1 : Arv Z h0 w_block_a1 k_w_block_a1 .byte (6 : Int32) (vl_w_block_a1.map Value.int) (.int (0 : Int32))) (hq0_15 : ¬ (w_next_a1 < (0 : Int32))) (hq0_16 : ¬ (w_limit_a1 < w_next_a1)) (hq0_17 : ¬ ((6 : Int32) < w_limit_a1)) (g_a1 : n0 ≤ a1) (ne_w_block_a1_a1 : w_block_a1 ≠ a1) :
    MetFree l (⟨"querent/hl7/LineReader", "startLine", "()Z"⟩ : MethodName) (head1 (Jvm.Cond.code (⟨"querent/hl7/LineReader", "startLine", "()Z"⟩ : MethodName) prog_132_method_15_code 1 (some .boolean) :: ws) ({ frames := 2, cells := 0, slots := 0, locals := 26 } : Room)) (fun a U => a = #[(.ref a1)] ∧ Z.Warmed39 U.vm ∧ U.heap = h0) (fun _ _ _ _ _ => True) (fun _ U o U' => ∃ v L, o = .returned v ∧ Q11 Z a1 w_block_a1 w_carriageReturnEnds_a1 w_base_a1 w_limit_a1 w_start_a1 w_end_a1 w_next_a1 w_keeping_a1 w_kept_a1 w_ended_a1 w_afterCarriageReturn_a1 w_number_a1 k_w_block_a1 vl_w_block_a1 h0 n0 v U'.heap L ∧ FrameEnd U o U' L ({ frames := 2, cells := 0, slots := 0, locals := 26 } : Room).cells ({ frames := 2, cells := 0, slots := 0, locals := 26 } : Room).slots) := by
  refine MetFree.of_bodySF (plainFor_of_name pn_3) hisR ?_
  intro p e s m args below meth c s₁ Bd hml0 hP hK
  obtain ⟨rfl, hZ, hh⟩ := hP
  have hx := Bd.exec
  have hby := Bd.bytes
  have hml : c.maxLocals = 1 := hml0
  have hown : s.vm.findClass "querent/hl7/LineReader" = some m.cls := findClass_of_methodNamed Bd.named
  have hnm := (name_of_methodNamed Bd.named Bd.method).1
  have X0 : Stand p l e ({ frames := 2, cells := 0, slots := 0, locals := 26 } : Room) s m #[(.ref a1)] below meth c s₁ [] 0 0 := Stand.of_body Bd
  have e0 : s₁.heap = h0 := by rw [← hh, Bd.state]; rfl
  have N0 := Fr.nil n0
  have pre0 : ∀ t, Steps p.tables e below (s₁.setTop (mkF m 0 #[.val (.ref a1)] [])) t → Steps p.tables e below (s₁.setTop (entryFrame m #[(.ref a1)] 1)) t := fun t k => castTop (ef_11 m a1) k
  obtain ⟨T2, X2, e2, st2⟩ := getF X0 hx hZ hown (host := "") (Or.inl (hw _ (List.mem_of_getElem? (i := 52) rfl))) Via.refl e0 F_next_a1 (g := (mkF m 2 #[.val (.ref a1)] [(.ref a1), (.ref a1)])) rfl rfl (hb hby d11_2)
  obtain ⟨T3, h3, X3, e3, W3, st3⟩ := putF X2 hx hZ hown (host := "") (Or.inl (hw _ (List.mem_of_getElem? (i := 48) rfl))) Via.refl e2 F_start_a1 E_a1 (Or.inl (hw _ (List.mem_of_getElem? (i := 49) rfl))) (hw _ (List.mem_of_getElem? (i := 9) rfl)) (ty := .int) (by decide) rfl rfl (g := (mkF m 5 #[.val (.ref a1)] [(.int w_next_a1), (.ref a1)])) rfl rfl (hb hby d11_5)
  have N3 := Fr.snoc X3 N0 g_a1
  have y4 := (F_in_a1.other W3 (Or.inr (slot_ne (Or.inr (hw _ (List.mem_of_getElem? (i := 37) rfl))) (Or.inl (hw _ (List.mem_of_getElem? (i := 49) rfl))) (by decide) (t := (.object "java/io/InputStream")) (t' := .int) (by decide) (by decide))))
  have y5 := (F_block_a1.other W3 (Or.inr (slot_ne (Or.inl (hw _ (List.mem_of_getElem? (i := 39) rfl))) (Or.inl (hw _ (List.mem_of_getElem? (i := 49) rfl))) (by decide) (t := (.array .byte)) (t' := .int) (by decide) (by decide))))
  have y6 := (F_carriageReturnEnds_a1.other W3 (Or.inr (slot_ne (Or.inr (hw _ (List.mem_of_getElem? (i := 43) rfl))) (Or.inl (hw _ (List.mem_of_getElem? (i := 49) rfl))) (by decide) (t := .boolean) (t' := .int) (by decide) (by decide))))
  have y7 := (F_base_a1.other W3 (Or.inr (slot_ne (Or.inl (hw _ (List.mem_of_getElem? (i := 45) rfl))) (Or.inl (hw _ (List.mem_of_getElem? (i := 49) rfl))) (by decide) (t := .long) (t' := .int) (by decide) (by decide))))
  have y8 := (F_limit_a1.other W3 (Or.inr (slot_ne (Or.inl (hw _ (List.mem_of_getElem? (i := 47) rfl))) (Or.inl (hw _ (List.mem_of_getElem? (i := 49) rfl))) (by decide) (t := .int) (t' := .int) (by decide) (by decide))))
  have y9 := (F_end_a1.other W3 (Or.inr (slot_ne (Or.inl (hw _ (List.mem_of_getElem? (i := 51) rfl))) (Or.inl (hw _ (List.mem_of_getElem? (i := 49) rfl))) (by decide) (t := .int) (t' := .int) (by decide) (by decide))))
  have y10 := (F_next_a1.other W3 (Or.inr (slot_ne (Or.inl (hw _ (List.mem_of_getElem? (i := 53) rfl))) (Or.inl (hw _ (List.mem_of_getElem? (i := 49) rfl))) (by decide) (t := .int) (t' := .int) (by decide) (by decide))))
  have y11 := (F_keeping_a1.other W3 (Or.inr (slot_ne (Or.inl (hw _ (List.mem_of_getElem? (i := 65) rfl))) (Or.inl (hw _ (List.mem_of_getElem? (i := 49) rfl))) (by decide) (t := .boolean) (t' := .int) (by decide) (by decide))))
  have y12 := (F_kept_a1.other W3 (Or.inr (slot_ne (Or.inl (hw _ (List.mem_of_getElem? (i := 67) rfl))) (Or.inl (hw _ (List.mem_of_getElem? (i := 49) rfl))) (by decide) (t := .int) (t' := .int) (by decide) (by decide))))
  have y13 := (F_ended_a1.other W3 (Or.inr (slot_ne (Or.inl (hw _ (List.mem_of_getElem? (i := 95) rfl))) (Or.inl (hw _ (List.mem_of_getElem? (i := 49) rfl))) (by decide) (t := .boolean) (t' := .int) (by decide) (by decide))))
  have y14 := (F_afterCarriageReturn_a1.other W3 (Or.inr (slot_ne (Or.inl (hw _ (List.mem_of_getElem? (i := 102) rfl))) (Or.inl (hw _ (List.mem_of_getElem? (i := 49) rfl))) (by decide) (t := .boolean) (t' := .int) (by decide) (by decide))))
  have y15 := (F_number_a1.other W3 (Or.inr (slot_ne (Or.inl (hw _ (List.mem_of_getElem? (i := 104) rfl))) (Or.inl (hw _ (List.mem_of_getElem? (i := 49) rfl))) (by decide) (t := .int) (t' := .int) (by decide) (by decide))))
  have K3 : Keep h0 h3 [a1] := ((Keep.refl h0 [a1])).wr W3 (Or.inl (List.mem_of_getElem? (i := 0) rfl))
  have Z3 : n0 ≤ h3.size := Nat.le_trans Z0 (Keep.of_wr W3).1
  obtain ⟨cq16, q16, q16'⟩ := (E_a1.wr W3).cell
  obtain ⟨_, _, ⟨T16, L16, k16, n16⟩, -, X16, ⟨Lc16, hQ16, l16, y16, z16⟩, st16⟩ := X3.privateBack hx (y := (⟨"querent/hl7/LineReader", "more", "()Z"⟩ : MethodName)) hown (mvT hZ (hw _ (List.mem_of_getElem? (i := 82) rfl))) (mvT hZ (hw _ (List.mem_of_getElem? (i := 83) rfl))) (own_selp (args' := #[]) (w := (⟨"querent/hl7/LineReader", "offset", "()J"⟩ : MethodName)) (mvT hZ (hw _ (List.mem_of_getElem? (i := 57) rfl))) rfl (Cond.privateMethod_at (mvP hZ (hw _ (List.mem_of_getElem? (i := 84) rfl)) (args := #[]))) (mvT hZ (hw _ (List.mem_of_getElem? (i := 83) rfl))) (by decide)) (Cond.privateMethod_at (mvP hZ (hw _ (List.mem_of_getElem? (i := 84) rfl)) (args := #[]))) (mvT hZ (hw _ (List.mem_of_getElem? (i := 85) rfl))) (by decide) (backOf (W := 0) (rm12 l Z a0 hw [] a1 w_next_a1 w_limit_a1 h3 n0 Z3 y4 y10 y8 (E_a1.wr W3)) hZ (hw _ (List.mem_of_getElem? (i := 85) rfl)) (hw _ (List.mem_of_getElem? (i := 10) rfl)) (by decide) (by decide)) (g := (mkF m 9 #[.val (.ref a1)] [(.ref a1)])) rfl (by rw [hml]; rfl) (Steps.refl _) (a := a1) (by rw [e3]; exact q16) q16' (argsL := []) (rest := []) (lenOf pd_3 rfl) rfl (by show 2 * 0 + _ ≤ _; exact Nat.le_of_eq rfl) (hb hby d11_9) (fun _ _ => ⟨rfl, e3, (by decide : 0 + 0 ≤ _), (by decide : 0 + 0 ≤ _)⟩)
  dsimp only [Pt.U, Pt.locs, Pt.cells, Pt.slots] at X16 l16 y16 z16 st16 hQ16
  subst l16 y16 z16
  obtain ⟨rfl, N16q, e16⟩ := hQ16
  have N16 := Fr.app N3 N16q
  have pre18 : ∀ t, Steps p.tables e below (T16.setTop (mkF m 12 #[.val (.ref a1)] [(.int (F12 w_next_a1 w_limit_a1))])) t → Steps p.tables e below (s₁.setTop (entryFrame m #[(.ref a1)] 1)) t := fun t kt => pre0 t (by
    show Steps p.tables e below (s₁.setTop (mkF m 0 #[.val (.ref a1)] [])) _
    refine XS.aloadN X0.here hx rfl (hb hby d11_0) rfl rfl ?_
    show Steps p.tables e below (s₁.setTop (mkF m 1 #[.val (.ref a1)] [(.ref a1)])) _
    refine XS.aloadN X0.here hx rfl (hb hby d11_1) rfl rfl ?_
    show Steps p.tables e below (s₁.setTop (mkF m 2 #[.val (.ref a1)] [(.ref a1), (.ref a1)])) _
    refine st2 _ ?_
    show Steps p.tables e below (T2.setTop (mkF m 5 #[.val (.ref a1)] [(.int w_next_a1), (.ref a1)])) _
    refine st3 _ ?_
    show Steps p.tables e below (T3.setTop (mkF m 8 #[.val (.ref a1)] [])) _
    refine XS.aloadN X3.here hx rfl (hb hby d11_8) rfl rfl ?_
    show Steps p.tables e below (T3.setTop (mkF m 9 #[.val (.ref a1)] [(.ref a1)])) _
    refine st16.trans ?_
    show Steps p.tables e below (T16.setTop (mkF m 12 #[.val (.ref a1)] [(.int (F12 w_next_a1 w_limit_a1))])) _
    exact kt)
  by_cases hc12_17 : (F12 w_next_a1 w_limit_a1) = (0 : Int32)
  · obtain ⟨cq19, q19, q19'⟩ := (E_a1.wr W3).cell
    obtain ⟨_, _, ⟨T19, L19, k19, n19⟩, -, X19, ⟨Lc19, hQ19, l19, y19, z19⟩, st19⟩ := X16.privateBack hx (y := (⟨"querent/hl7/LineReader", "endText", "()V"⟩ : MethodName)) hown (mvT hZ (hw _ (List.mem_of_getElem? (i := 90) rfl))) (mvT hZ (hw _ (List.mem_of_getElem? (i := 91) rfl))) (own_selp (args' := #[]) (w := (⟨"querent/hl7/LineReader", "offset", "()J"⟩ : MethodName)) (mvT hZ (hw _ (List.mem_of_getElem? (i := 57) rfl))) rfl (Cond.privateMethod_at (mvP hZ (hw _ (List.mem_of_getElem? (i := 92) rfl)) (args := #[]))) (mvT hZ (hw _ (List.mem_of_getElem? (i := 91) rfl))) (by decide)) (Cond.privateMethod_at (mvP hZ (hw _ (List.mem_of_getElem? (i := 92) rfl)) (args := #[]))) (mvT hZ (hw _ (List.mem_of_getElem? (i := 93) rfl))) (by decide) (backOf (W := 0) (rm14 l Z a0 hw [] a1 w_block_a1 w_carriageReturnEnds_a1 w_base_a1 w_limit_a1 w_next_a1 w_end_a1 w_next_a1 w_keeping_a1 w_kept_a1 w_ended_a1 w_afterCarriageReturn_a1 w_number_a1 h3 n0 Z3 (E_a1.wr W3) y4 y5 y6 y7 y8 (F_start_a1.same W3) y9 y10 y11 y12 y13 y14 y15 g_a1) hZ (hw _ (List.mem_of_getElem? (i := 93) rfl)) (hw _ (List.mem_of_getElem? (i := 10) rfl)) (by decide) (by decide)) (g := (mkF m 16 #[.val (.ref a1)] [(.ref a1)])) rfl (by rw [hml]; rfl) (Steps.refl _) (a := a1) (by rw [e16]; exact q19) q19' (argsL := []) (rest := []) (lenOf pd_4 rfl) rfl (by show 2 * 0 + _ ≤ _; exact Nat.le_of_eq rfl) (hb hby d11_16) (fun _ _ => ⟨rfl, e16, (by decide : 0 + 0 ≤ _), (by decide : 0 + 0 ≤ _)⟩)
    dsimp only [Pt.U, Pt.locs, Pt.cells, Pt.slots] at X19 l19 y19 z19 st19 hQ19
    subst l19 y19 z19
    obtain ⟨rfl, N19q, K19q, f19_0, f19_1, f19_2, f19_3, f19_4, f19_5, f19_6, f19_7, f19_8, f19_9, f19_10, f19_11, f19_12, f19_13⟩ := hQ19
    have y20 := ((V_w_block_a1.other W3 ne_w_block_a1_a1).keep K19q (ninS ne_w_block_a1_a1 nin0))
    have K19 : Keep h0 T19.heap [a1] := (K3).trans K19q (allS (P := fun x => x ∈ [a1] ∨ h0.size ≤ x) (Or.inl (List.mem_of_getElem? (i := 0) rfl)) all0)
    have Z19 : n0 ≤ T19.heap.size := Nat.le_trans Z3 K19q.1
    have N19 := Fr.app N16 N19q
    obtain ⟨fs, hr, hrun, hended, hW, hsame⟩ := X19.leave (v := some (.int (0 : Int32))) (fun h => by rw [Bd.returns] at h; cases h)
    refine ⟨_, _, pre18 _ ?_, hrun, hended, _, _, rfl, ?_, ⟨_, rfl⟩, hW, hsame.mono (by decide) (by decide)⟩
    · show Steps p.tables e below (T16.setTop (mkF m 12 #[.val (.ref a1)] [(.int (F12 w_next_a1 w_limit_a1))])) _
      refine XS.ifNo X16.here hx rfl (hb hby d11_12) rfl ((if0 _ _).trans (teq hc12_17).2) ?_
      show Steps p.tables e below (T16.setTop (mkF m 15 #[.val (.ref a1)] [])) _
      refine XS.aloadN X16.here hx rfl (hb hby d11_15) rfl rfl ?_
      show Steps p.tables e below (T16.setTop (mkF m 16 #[.val (.ref a1)] [(.ref a1)])) _
      refine st19.trans ?_
      show Steps p.tables e below (T19.setTop (mkF m 19 #[.val (.ref a1)] [])) _
      refine XS.iconst X19.here hx rfl (hb hby d11_19) ?_
      show Steps p.tables e below (T19.setTop (mkF m 20 #[.val (.ref a1)] [(.int (0 : Int32))])) _
      exact retN X19 hx (t := .boolean) Bd.returns (by simp) (hb hby d11_20) hr
    · show Q11 Z a1 w_block_a1 w_carriageReturnEnds_a1 w_base_a1 w_limit_a1 w_start_a1 w_end_a1 w_next_a1 w_keeping_a1 w_kept_a1 w_ended_a1 w_afterCarriageReturn_a1 w_number_a1 k_w_block_a1 vl_w_block_a1 h0 n0 _ T19.heap _
      exact ⟨(0 : Int32), w_next_a1, w_limit_a1, w_limit_a1, (0 : Int32), w_afterCarriageReturn_a1, w_number_a1, rfl, N19, (K19), f19_0, f19_1, f19_2, f19_3, f19_4, f19_5, f19_6, f19_7, f19_8, f19_9, f19_10, f19_11, f19_12, f19_13, (Or.inl rfl), (by (try clear pre0); have z1 := c_iadd w_next_a1 (1 : Int32); have z2 := rng32 (w_next_a1 + (1 : Int32)); (try simp only [own_mz] at hc12_17); (try simp only [Int32.lt_iff_toInt_lt, ← Int32.toInt_inj, own_z0, own_z1, own_z6] at hc12_17); (try simp only [own_mz] at hq0_15); (try simp only [Int32.lt_iff_toInt_lt, ← Int32.toInt_inj, own_z0, own_z1, own_z6] at hq0_15); (try simp only [own_mz] at hq0_16); (try simp only [Int32.lt_iff_toInt_lt, ← Int32.toInt_inj, own_z0, own_z1, own_z6] at hq0_16); (try simp only [own_mz] at hq0_17); (try simp only [Int32.lt_iff_toInt_lt, ← Int32.toInt_inj, own_z0, own_z1, own_z6] at hq0_17); (try simp only [own_mz] at z1); (try simp only [Int32.lt_iff_toInt_lt, ← Int32.toInt_inj, own_z0, own_z1, own_z6] at z1); (try simp only [own_mz] at z2); (try simp only [Int32.lt_iff_toInt_lt, ← Int32.toInt_inj, own_z0, own_z1, own_z6] at z2); (try simp only [Int32.lt_iff_toInt_lt, ← Int32.toInt_inj, own_z0, own_z1, own_z6] at ⊢); omega), (by (try clear pre0); have z1 := c_iadd w_next_a1 (1 : Int32); have z2 := rng32 (w_next_a1 + (1 : Int32)); (try simp only [own_mz] at hc12_17); (try simp only [Int32.lt_iff_toInt_lt, ← Int32.toInt_inj, own_z0, own_z1, own_z6] at hc12_17); (try simp only [own_mz] at hq0_15); (try simp only [Int32.lt_iff_toInt_lt, ← Int32.toInt_inj, own_z0, own_z1, own_z6] at hq0_15); (try simp only [own_mz] at hq0_16); (try simp only [Int32.lt_iff_toInt_lt, ← Int32.toInt_inj, own_z0, own_z1, own_z6] at hq0_16); (try simp only [own_mz] at hq0_17); (try simp only [Int32.lt_iff_toInt_lt, ← Int32.toInt_inj, own_z0, own_z1, own_z6] at hq0_17); (try simp only [own_mz] at z1); (try simp only [Int32.lt_iff_toInt_lt, ← Int32.toInt_inj, own_z0, own_z1, own_z6] at z1); (try simp only [own_mz] at z2); (try simp only [Int32.lt_iff_toInt_lt, ← Int32.toInt_inj, own_z0, own_z1, own_z6] at z2); (try simp only [Int32.lt_iff_toInt_lt, ← Int32.toInt_inj, own_z0, own_z1, own_z6] at ⊢); omega), (fun q => absurd rfl q)⟩
  · obtain ⟨T21, X21, e21, st21⟩ := getF X16 hx hZ hown (host := "") (Or.inl (hw _ (List.mem_of_getElem? (i := 101) rfl))) Via.refl e16 y14 (g := (mkF m 22 #[.val (.ref a1)] [(.ref a1)])) rfl rfl (hb hby d11_22)
    have pre23 : ∀ t, Steps p.tables e below (T21.setTop (mkF m 25 #[.val (.ref a1)] [(.int w_afterCarriageReturn_a1)])) t → Steps p.tables e below (s₁.setTop (entryFrame m #[(.ref a1)] 1)) t := fun t kt => pre18 t (by
      show Steps p.tables e below (T16.setTop (mkF m 12 #[.val (.ref a1)] [(.int (F12 w_next_a1 w_limit_a1))])) _
      refine XS.ifYes X16.here hx rfl (pc0 := 12) (pc' := 21) rfl (hb hby d11_12) rfl ((if0 _ _).trans (feq hc12_17).2) (by decide) (by decide) ?_
      show Steps p.tables e below (T16.setTop (mkF m 21 #[.val (.ref a1)] [])) _
      refine XS.aloadN X16.here hx rfl (hb hby d11_21) rfl rfl ?_
      show Steps p.tables e below (T16.setTop (mkF m 22 #[.val (.ref a1)] [(.ref a1)])) _
      refine st21 _ ?_
      show Steps p.tables e below (T21.setTop (mkF m 25 #[.val (.ref a1)] [(.int w_afterCarriageReturn_a1)])) _
      exact kt)
    by_cases hc25_22 : w_afterCarriageReturn_a1 = (0 : Int32)
    · obtain ⟨T24, X24, e24, st24⟩ := getF X21 hx hZ hown (host := "") (Or.inl (hw _ (List.mem_of_getElem? (i := 103) rfl))) Via.refl e21 y15 (g := (mkF m 80 #[.val (.ref a1)] [(.ref a1), (.ref a1)])) rfl rfl (hb hby d11_80)
      obtain ⟨T25, h25, X25, e25, W25, st25⟩ := putF X24 hx hZ hown (host := "") (Or.inl (hw _ (List.mem_of_getElem? (i := 103) rfl))) Via.refl e24 y15 (E_a1.wr W3) (Or.inl (hw _ (List.mem_of_getElem? (i := 104) rfl))) (hw _ (List.mem_of_getElem? (i := 9) rfl)) (ty := .int) (by decide) rfl rfl (g := (mkF m 85 #[.val (.ref a1)] [(.int (w_number_a1 + (1 : Int32))), (.ref a1)])) rfl rfl (hb hby d11_85)
      have N25 := Fr.snoc X25 N16 g_a1
      have y26 := (y4.other W25 (Or.inr (slot_ne (Or.inr (hw _ (List.mem_of_getElem? (i := 37) rfl))) (Or.inl (hw _ (List.mem_of_getElem? (i := 104) rfl))) (by decide) (t := (.object "java/io/InputStream")) (t' := .int) (by decide) (by decide))))
      have y27 := (y5.other W25 (Or.inr (slot_ne (Or.inl (hw _ (List.mem_of_getElem? (i := 39) rfl))) (Or.inl (hw _ (List.mem_of_getElem? (i := 104) rfl))) (by decide) (t := (.array .byte)) (t' := .int) (by decide) (by decide))))
      have y28 := (y6.other W25 (Or.inr (slot_ne (Or.inr (hw _ (List.mem_of_getElem? (i := 43) rfl))) (Or.inl (hw _ (List.mem_of_getElem? (i := 104) rfl))) (by decide) (t := .boolean) (t' := .int) (by decide) (by decide))))
      have y29 := (y7.other W25 (Or.inr (slot_ne (Or.inl (hw _ (List.mem_of_getElem? (i := 45) rfl))) (Or.inl (hw _ (List.mem_of_getElem? (i := 104) rfl))) (by decide) (t := .long) (t' := .int) (by decide) (by decide))))
      have y30 := (y8.other W25 (Or.inr (slot_ne (Or.inl (hw _ (List.mem_of_getElem? (i := 47) rfl))) (Or.inl (hw _ (List.mem_of_getElem? (i := 104) rfl))) (by decide) (t := .int) (t' := .int) (by decide) (by decide))))
      have y31 := ((F_start_a1.same W3).other W25 (Or.inr (slot_ne (Or.inl (hw _ (List.mem_of_getElem? (i := 49) rfl))) (Or.inl (hw _ (List.mem_of_getElem? (i := 104) rfl))) (by decide) (t := .int) (t' := .int) (by decide) (by decide))))
      have y32 := (y9.other W25 (Or.inr (slot_ne (Or.inl (hw _ (List.mem_of_getElem? (i := 51) rfl))) (Or.inl (hw _ (List.mem_of_getElem? (i := 104) rfl))) (by decide) (t := .int) (t' := .int) (by decide) (by decide))))
      have y33 := (y10.other W25 (Or.inr (slot_ne (Or.inl (hw _ (List.mem_of_getElem? (i := 53) rfl))) (Or.inl (hw _ (List.mem_of_getElem? (i := 104) rfl))) (by decide) (t := .int) (t' := .int) (by decide) (by decide))))
      have y34 := (y11.other W25 (Or.inr (slot_ne (Or.inl (hw _ (List.mem_of_getElem? (i := 65) rfl))) (Or.inl (hw _ (List.mem_of_getElem? (i := 104) rfl))) (by decide) (t := .boolean) (t' := .int) (by decide) (by decide))))
      have y35 := (y12.other W25 (Or.inr (slot_ne (Or.inl (hw _ (List.mem_of_getElem? (i := 67) rfl))) (Or.inl (hw _ (List.mem_of_getElem? (i := 104) rfl))) (by decide) (t := .int) (t' := .int) (by decide) (by decide))))
      have y36 := (y13.other W25 (Or.inr (slot_ne (Or.inl (hw _ (List.mem_of_getElem? (i := 95) rfl))) (Or.inl (hw _ (List.mem_of_getElem? (i := 104) rfl))) (by decide) (t := .boolean) (t' := .int) (by decide) (by decide))))
      have y37 := (y14.other W25 (Or.inr (slot_ne (Or.inl (hw _ (List.mem_of_getElem? (i := 102) rfl))) (Or.inl (hw _ (List.mem_of_getElem? (i := 104) rfl))) (by decide) (t := .boolean) (t' := .int) (by decide) (by decide))))
      have y38 := ((V_w_block_a1.other W3 ne_w_block_a1_a1).other W25 ne_w_block_a1_a1)
      have K25 : Keep h0 h25 [a1] := (K3).wr W25 (Or.inl (List.mem_of_getElem? (i := 0) rfl))
      have Z25 : n0 ≤ h25.size := Nat.le_trans Z3 (Keep.of_wr W25).1
      obtain ⟨fs, hr, hrun, hended, hW, hsame⟩ := X25.leave (v := some (.int (1 : Int32))) (fun h => by rw [Bd.returns] at h; cases h)
      refine ⟨_, _, pre23 _ ?_, hrun, hended, _, _, rfl, ?_, ⟨_, rfl⟩, hW, hsame.mono (by decide) (by decide)⟩
      · show Steps p.tables e below (T21.setTop (mkF m 25 #[.val (.ref a1)] [(.int w_afterCarriageReturn_a1)])) _
        refine XS.ifYes X21.here hx rfl (pc0 := 25) (pc' := 78) rfl (hb hby d11_25) rfl ((if0 _ _).trans (teq hc25_22).1) (by decide) (by decide) ?_
        show Steps p.tables e below (T21.setTop (mkF m 78 #[.val (.ref a1)] [])) _
        refine XS.aloadN X21.here hx rfl (hb hby d11_78) rfl rfl ?_
        show Steps p.tables e below (T21.setTop (mkF m 79 #[.val (.ref a1)] [(.ref a1)])) _
        refine XS.dup X21.here hx rfl (hb hby d11_79) rfl rfl ?_
        show Steps p.tables e below (T21.setTop (mkF m 80 #[.val (.ref a1)] [(.ref a1), (.ref a1)])) _
        refine st24 _ ?_
        show Steps p.tables e below (T24.setTop (mkF m 83 #[.val (.ref a1)] [(.int w_number_a1), (.ref a1)])) _
        refine XS.iconst X24.here hx rfl (hb hby d11_83) ?_
        show Steps p.tables e below (T24.setTop (mkF m 84 #[.val (.ref a1)] [(.int (1 : Int32)), (.int w_number_a1), (.ref a1)])) _
        refine XS.iadd X24.here hx rfl (hb hby d11_84) rfl ?_
        show Steps p.tables e below (T24.setTop (mkF m 85 #[.val (.ref a1)] [(.int (w_number_a1 + (1 : Int32))), (.ref a1)])) _
        refine st25 _ ?_
        show Steps p.tables e below (T25.setTop (mkF m 88 #[.val (.ref a1)] [])) _
        refine XS.iconst X25.here hx rfl (hb hby d11_88) ?_
        show Steps p.tables e below (T25.setTop (mkF m 89 #[.val (.ref a1)] [(.int (1 : Int32))])) _
        exact retN X25 hx (t := .boolean) Bd.returns (by simp) (hb hby d11_89) hr
      · show Q11 Z a1 w_block_a1 w_carriageReturnEnds_a1 w_base_a1 w_limit_a1 w_start_a1 w_end_a1 w_next_a1 w_keeping_a1 w_kept_a1 w_ended_a1 w_afterCarriageReturn_a1 w_number_a1 k_w_block_a1 vl_w_block_a1 h0 n0 _ T25.heap _
        rw [e25]
        exact ⟨(1 : Int32), w_next_a1, w_end_a1, w_next_a1, w_ended_a1, w_afterCarriageReturn_a1, (w_number_a1 + (1 : Int32)), rfl, N25, (K25), ((E_a1.wr W3).wr W25), y26, y27, y28, y29, y30, y31, y32, y33, y34, y35, y36, y37, (y15.same W25), (Or.inl rfl), (by (try clear pre0); have z1 := c_iadd w_next_a1 (1 : Int32); have z2 := rng32 (w_next_a1 + (1 : Int32)); (try simp only [own_mz] at hc12_17); (try simp only [Int32.lt_iff_toInt_lt, ← Int32.toInt_inj, own_z0, own_z1, own_z6] at hc12_17); (try simp only [own_mz] at hc25_22); (try simp only [Int32.lt_iff_toInt_lt, ← Int32.toInt_inj, own_z0, own_z1, own_z6] at hc25_22); (try simp only [own_mz] at hq0_15); (try simp only [Int32.lt_iff_toInt_lt, ← Int32.toInt_inj, own_z0, own_z1, own_z6] at hq0_15); (try simp only [own_mz] at hq0_16); (try simp only [Int32.lt_iff_toInt_lt, ← Int32.toInt_inj, own_z0, own_z1, own_z6] at hq0_16); (try simp only [own_mz] at hq0_17); (try simp only [Int32.lt_iff_toInt_lt, ← Int32.toInt_inj, own_z0, own_z1, own_z6] at hq0_17); (try simp only [own_mz] at z1); (try simp only [Int32.lt_iff_toInt_lt, ← Int32.toInt_inj, own_z0, own_z1, own_z6] at z1); (try simp only [own_mz] at z2); (try simp only [Int32.lt_iff_toInt_lt, ← Int32.toInt_inj, own_z0, own_z1, own_z6] at z2); (try simp only [Int32.lt_iff_toInt_lt, ← Int32.toInt_inj, own_z0, own_z1, own_z6] at ⊢); omega), (by (try clear pre0); have z1 := c_iadd w_next_a1 (1 : Int32); have z2 := rng32 (w_next_a1 + (1 : Int32)); (try simp only [own_mz] at hc12_17); (try simp only [Int32.lt_iff_toInt_lt, ← Int32.toInt_inj, own_z0, own_z1, own_z6] at hc12_17); (try simp only [own_mz] at hc25_22); (try simp only [Int32.lt_iff_toInt_lt, ← Int32.toInt_inj, own_z0, own_z1, own_z6] at hc25_22); (try simp only [own_mz] at hq0_15); (try simp only [Int32.lt_iff_toInt_lt, ← Int32.toInt_inj, own_z0, own_z1, own_z6] at hq0_15); (try simp only [own_mz] at hq0_16); (try simp only [Int32.lt_iff_toInt_lt, ← Int32.toInt_inj, own_z0, own_z1, own_z6] at hq0_16); (try simp only [own_mz] at hq0_17); (try simp only [Int32.lt_iff_toInt_lt, ← Int32.toInt_inj, own_z0, own_z1, own_z6] at hq0_17); (try simp only [own_mz] at z1); (try simp only [Int32.lt_iff_toInt_lt, ← Int32.toInt_inj, own_z0, own_z1, own_z6] at z1); (try simp only [own_mz] at z2); (try simp only [Int32.lt_iff_toInt_lt, ← Int32.toInt_inj, own_z0, own_z1, own_z6] at z2); (try simp only [Int32.lt_iff_toInt_lt, ← Int32.toInt_inj, own_z0, own_z1, own_z6] at ⊢); omega), (fun _ => ⟨rfl, by (try clear pre0); have z1 := c_iadd w_next_a1 (1 : Int32); have z2 := rng32 (w_next_a1 + (1 : Int32)); (try simp only [own_mz] at hc12_17); (try simp only [Int32.lt_iff_toInt_lt, ← Int32.toInt_inj, own_z0, own_z1, own_z6] at hc12_17); (try simp only [own_mz] at hc25_22); (try simp only [Int32.lt_iff_toInt_lt, ← Int32.toInt_inj, own_z0, own_z1, own_z6] at hc25_22); (try simp only [own_mz] at hq0_15); (try simp only [Int32.lt_iff_toInt_lt, ← Int32.toInt_inj, own_z0, own_z1, own_z6] at hq0_15); (try simp only [own_mz] at hq0_16); (try simp only [Int32.lt_iff_toInt_lt, ← Int32.toInt_inj, own_z0, own_z1, own_z6] at hq0_16); (try simp only [own_mz] at hq0_17); (try simp only [Int32.lt_iff_toInt_lt, ← Int32.toInt_inj, own_z0, own_z1, own_z6] at hq0_17); (try simp only [own_mz] at z1); (try simp only [Int32.lt_iff_toInt_lt, ← Int32.toInt_inj, own_z0, own_z1, own_z6] at z1); (try simp only [own_mz] at z2); (try simp only [Int32.lt_iff_toInt_lt, ← Int32.toInt_inj, own_z0, own_z1, own_z6] at z2); (try simp only [Int32.lt_iff_toInt_lt, ← Int32.toInt_inj, own_z0, own_z1, own_z6] at ⊢); omega⟩)⟩
    · obtain ⟨T39, h39, X39, e39, W39, st39⟩ := putFN X21 hx hZ hown (hw _ (List.mem_of_getElem? (i := 101) rfl)) Via.refl e21 y14 (E_a1.wr W3) (Or.inl (hw _ (List.mem_of_getElem? (i := 102) rfl))) (hw _ (List.mem_of_getElem? (i := 9) rfl)) (ty := .boolean) (v' := (.int (0 : Int32))) (by decide) rfl rfl (g := (mkF m 30 #[.val (.ref a1)] [(.int (0 : Int32)), (.ref a1)])) rfl rfl (hb hby d11_30)
      have N39 := Fr.snoc X39 N16 g_a1
      have y40 := (y4.other W39 (Or.inr (slot_ne (Or.inr (hw _ (List.mem_of_getElem? (i := 37) rfl))) (Or.inl (hw _ (List.mem_of_getElem? (i := 102) rfl))) (by decide) (t := (.object "java/io/InputStream")) (t' := .boolean) (by decide) (by decide))))
      have y41 := (y5.other W39 (Or.inr (slot_ne (Or.inl (hw _ (List.mem_of_getElem? (i := 39) rfl))) (Or.inl (hw _ (List.mem_of_getElem? (i := 102) rfl))) (by decide) (t := (.array .byte)) (t' := .boolean) (by decide) (by decide))))
      have y42 := (y6.other W39 (Or.inr (slot_ne (Or.inr (hw _ (List.mem_of_getElem? (i := 43) rfl))) (Or.inl (hw _ (List.mem_of_getElem? (i := 102) rfl))) (by decide) (t := .boolean) (t' := .boolean) (by decide) (by decide))))
      have y43 := (y7.other W39 (Or.inr (slot_ne (Or.inl (hw _ (List.mem_of_getElem? (i := 45) rfl))) (Or.inl (hw _ (List.mem_of_getElem? (i := 102) rfl))) (by decide) (t := .long) (t' := .boolean) (by decide) (by decide))))
      have y44 := (y8.other W39 (Or.inr (slot_ne (Or.inl (hw _ (List.mem_of_getElem? (i := 47) rfl))) (Or.inl (hw _ (List.mem_of_getElem? (i := 102) rfl))) (by decide) (t := .int) (t' := .boolean) (by decide) (by decide))))
      have y45 := ((F_start_a1.same W3).other W39 (Or.inr (slot_ne (Or.inl (hw _ (List.mem_of_getElem? (i := 49) rfl))) (Or.inl (hw _ (List.mem_of_getElem? (i := 102) rfl))) (by decide) (t := .int) (t' := .boolean) (by decide) (by decide))))
      have y46 := (y9.other W39 (Or.inr (slot_ne (Or.inl (hw _ (List.mem_of_getElem? (i := 51) rfl))) (Or.inl (hw _ (List.mem_of_getElem? (i := 102) rfl))) (by decide) (t := .int) (t' := .boolean) (by decide) (by decide))))
      have y47 := (y10.other W39 (Or.inr (slot_ne (Or.inl (hw _ (List.mem_of_getElem? (i := 53) rfl))) (Or.inl (hw _ (List.mem_of_getElem? (i := 102) rfl))) (by decide) (t := .int) (t' := .boolean) (by decide) (by decide))))
      have y48 := (y11.other W39 (Or.inr (slot_ne (Or.inl (hw _ (List.mem_of_getElem? (i := 65) rfl))) (Or.inl (hw _ (List.mem_of_getElem? (i := 102) rfl))) (by decide) (t := .boolean) (t' := .boolean) (by decide) (by decide))))
      have y49 := (y12.other W39 (Or.inr (slot_ne (Or.inl (hw _ (List.mem_of_getElem? (i := 67) rfl))) (Or.inl (hw _ (List.mem_of_getElem? (i := 102) rfl))) (by decide) (t := .int) (t' := .boolean) (by decide) (by decide))))
      have y50 := (y13.other W39 (Or.inr (slot_ne (Or.inl (hw _ (List.mem_of_getElem? (i := 95) rfl))) (Or.inl (hw _ (List.mem_of_getElem? (i := 102) rfl))) (by decide) (t := .boolean) (t' := .boolean) (by decide) (by decide))))
      have y51 := (y15.other W39 (Or.inr (slot_ne (Or.inl (hw _ (List.mem_of_getElem? (i := 104) rfl))) (Or.inl (hw _ (List.mem_of_getElem? (i := 102) rfl))) (by decide) (t := .int) (t' := .boolean) (by decide) (by decide))))
      have y52 := ((V_w_block_a1.other W3 ne_w_block_a1_a1).other W39 ne_w_block_a1_a1)
      have K39 : Keep h0 h39 [a1] := (K3).wr W39 (Or.inl (List.mem_of_getElem? (i := 0) rfl))
      have Z39 : n0 ≤ h39.size := Nat.le_trans Z3 (Keep.of_wr W39).1
      obtain ⟨T53, X53, e53, st53⟩ := getF X39 hx hZ hown (host := "") (Or.inl (hw _ (List.mem_of_getElem? (i := 38) rfl))) Via.refl e39 y41 (g := (mkF m 34 #[.val (.ref a1)] [(.ref a1)])) rfl rfl (hb hby d11_34)
      obtain ⟨T54, X54, e54, st54⟩ := getF X53 hx hZ hown (host := "") (Or.inl (hw _ (List.mem_of_getElem? (i := 52) rfl))) Via.refl e53 y47 (g := (mkF m 38 #[.val (.ref a1)] [(.ref a1), (.ref w_block_a1)])) rfl rfl (hb hby d11_38)
      obtain ⟨cl55, Ar55, qq55, S55, NN55, HH55, GG55⟩ := id y52
      have hin55 : ¬ (w_next_a1 < 0 ∨ cl55.slots.size ≤ (w_next_a1).toNatClampNeg) := inb_of S55 ⟨hq0_15, (show w_next_a1 < (6 : Int32) from by exact own_lt6 (by (try clear pre0); (try simp only [own_mz] at hc12_17); (try simp only [Int32.lt_iff_toInt_lt, ← Int32.toInt_inj, own_z0, own_z1, own_z6] at hc12_17); (try simp only [own_mz] at hc25_22); (try simp only [Int32.lt_iff_toInt_lt, ← Int32.toInt_inj, own_z0, own_z1, own_z6] at hc25_22); (try simp only [own_mz] at hq0_15); (try simp only [Int32.lt_iff_toInt_lt, ← Int32.toInt_inj, own_z0, own_z1, own_z6] at hq0_15); (try simp only [own_mz] at hq0_16); (try simp only [Int32.lt_iff_toInt_lt, ← Int32.toInt_inj, own_z0, own_z1, own_z6] at hq0_16); (try simp only [Int32.lt_iff_toInt_lt, ← Int32.toInt_inj, own_z0, own_z1, own_z6] at ⊢); omega) hq0_17)⟩
      have hat55 : cl55.slots[(w_next_a1).toNatClampNeg]? = some (.int (own_at vl_w_block_a1 w_next_a1)) := Has.at HH55 hin55 (own_atv vl_w_block_a1 w_next_a1)
      have pre57 : ∀ t, Steps p.tables e below (T54.setTop (mkF m 44 #[.val (.ref a1)] [(.int (10 : Int32)), (.int (own_at vl_w_block_a1 w_next_a1))])) t → Steps p.tables e below (s₁.setTop (entryFrame m #[(.ref a1)] 1)) t := fun t kt => pre23 t (by
        show Steps p.tables e below (T21.setTop (mkF m 25 #[.val (.ref a1)] [(.int w_afterCarriageReturn_a1)])) _
        refine XS.ifNo X21.here hx rfl (hb hby d11_25) rfl ((if0 _ _).trans (feq hc25_22).1) ?_
        show Steps p.tables e below (T21.setTop (mkF m 28 #[.val (.ref a1)] [])) _
        refine XS.aloadN X21.here hx rfl (hb hby d11_28) rfl rfl ?_
        show Steps p.tables e below (T21.setTop (mkF m 29 #[.val (.ref a1)] [(.ref a1)])) _
        refine XS.iconst X21.here hx rfl (hb hby d11_29) ?_
        show Steps p.tables e below (T21.setTop (mkF m 30 #[.val (.ref a1)] [(.int (0 : Int32)), (.ref a1)])) _
        refine st39 _ ?_
        show Steps p.tables e below (T39.setTop (mkF m 33 #[.val (.ref a1)] [])) _
        refine XS.aloadN X39.here hx rfl (hb hby d11_33) rfl rfl ?_
        show Steps p.tables e below (T39.setTop (mkF m 34 #[.val (.ref a1)] [(.ref a1)])) _
        refine st53 _ ?_
        show Steps p.tables e below (T53.setTop (mkF m 37 #[.val (.ref a1)] [(.ref w_block_a1)])) _
        refine XS.aloadN X53.here hx rfl (hb hby d11_37) rfl rfl ?_
        show Steps p.tables e below (T53.setTop (mkF m 38 #[.val (.ref a1)] [(.ref a1), (.ref w_block_a1)])) _
        refine st54 _ ?_
        show Steps p.tables e below (T54.setTop (mkF m 41 #[.val (.ref a1)] [(.int w_next_a1), (.ref w_block_a1)])) _
        refine X54.baloadBytes hx (j := w_next_a1) (v := (.int (own_at vl_w_block_a1 w_next_a1))) (by rw [e54]; exact Ar55.1) (State.isArrayOf_alike hZ.alike Ar55.2.1) Ar55.2.2 hin55 hat55 (g := (mkF m 41 #[.val (.ref a1)] [(.int w_next_a1), (.ref w_block_a1)])) rfl rfl (hb hby d11_41) _ ?_
        show Steps p.tables e below (T54.setTop (mkF m 42 #[.val (.ref a1)] [(.int (own_at vl_w_block_a1 w_next_a1))])) _
        refine XS.bipush X54.here hx rfl (hb hby d11_42) ?_
        show Steps p.tables e below (T54.setTop (mkF m 44 #[.val (.ref a1)] [(.int (10 : Int32)), (.int (own_at vl_w_block_a1 w_next_a1))])) _
        exact kt)
      by_cases hc44_56 : (own_at vl_w_block_a1 w_next_a1) = (10 : Int32)
      · obtain ⟨T58, X58, e58, st58⟩ := getF X54 hx hZ hown (host := "") (Or.inl (hw _ (List.mem_of_getElem? (i := 52) rfl))) Via.refl e54 y47 (g := (mkF m 49 #[.val (.ref a1)] [(.ref a1), (.ref a1)])) rfl rfl (hb hby d11_49)
        obtain ⟨T59, h59, X59, e59, W59, st59⟩ := putF X58 hx hZ hown (host := "") (Or.inl (hw _ (List.mem_of_getElem? (i := 52) rfl))) Via.refl e58 y47 ((E_a1.wr W3).wr W39) (Or.inl (hw _ (List.mem_of_getElem? (i := 53) rfl))) (hw _ (List.mem_of_getElem? (i := 9) rfl)) (ty := .int) (by decide) rfl rfl (g := (mkF m 54 #[.val (.ref a1)] [(.int (w_next_a1 + (1 : Int32))), (.ref a1)])) rfl rfl (hb hby d11_54)
        have N59 := Fr.snoc X59 N39 g_a1
        have y60 := (y40.other W59 (Or.inr (slot_ne (Or.inr (hw _ (List.mem_of_getElem? (i := 37) rfl))) (Or.inl (hw _ (List.mem_of_getElem? (i := 53) rfl))) (by decide) (t := (.object "java/io/InputStream")) (t' := .int) (by decide) (by decide))))
        have y61 := (y41.other W59 (Or.inr (slot_ne (Or.inl (hw _ (List.mem_of_getElem? (i := 39) rfl))) (Or.inl (hw _ (List.mem_of_getElem? (i := 53) rfl))) (by decide) (t := (.array .byte)) (t' := .int) (by decide) (by decide))))
        have y62 := (y42.other W59 (Or.inr (slot_ne (Or.inr (hw _ (List.mem_of_getElem? (i := 43) rfl))) (Or.inl (hw _ (List.mem_of_getElem? (i := 53) rfl))) (by decide) (t := .boolean) (t' := .int) (by decide) (by decide))))
        have y63 := (y43.other W59 (Or.inr (slot_ne (Or.inl (hw _ (List.mem_of_getElem? (i := 45) rfl))) (Or.inl (hw _ (List.mem_of_getElem? (i := 53) rfl))) (by decide) (t := .long) (t' := .int) (by decide) (by decide))))
        have y64 := (y44.other W59 (Or.inr (slot_ne (Or.inl (hw _ (List.mem_of_getElem? (i := 47) rfl))) (Or.inl (hw _ (List.mem_of_getElem? (i := 53) rfl))) (by decide) (t := .int) (t' := .int) (by decide) (by decide))))
        have y65 := (y45.other W59 (Or.inr (slot_ne (Or.inl (hw _ (List.mem_of_getElem? (i := 49) rfl))) (Or.inl (hw _ (List.mem_of_getElem? (i := 53) rfl))) (by decide) (t := .int) (t' := .int) (by decide) (by decide))))
        have y66 := (y46.other W59 (Or.inr (slot_ne (Or.inl (hw _ (List.mem_of_getElem? (i := 51) rfl))) (Or.inl (hw _ (List.mem_of_getElem? (i := 53) rfl))) (by decide) (t := .int) (t' := .int) (by decide) (by decide))))
        have y67 := (y48.other W59 (Or.inr (slot_ne (Or.inl (hw _ (List.mem_of_getElem? (i := 65) rfl))) (Or.inl (hw _ (List.mem_of_getElem? (i := 53) rfl))) (by decide) (t := .boolean) (t' := .int) (by decide) (by decide))))
        have y68 := (y49.other W59 (Or.inr (slot_ne (Or.inl (hw _ (List.mem_of_getElem? (i := 67) rfl))) (Or.inl (hw _ (List.mem_of_getElem? (i := 53) rfl))) (by decide) (t := .int) (t' := .int) (by decide) (by decide))))
        have y69 := (y50.other W59 (Or.inr (slot_ne (Or.inl (hw _ (List.mem_of_getElem? (i := 95) rfl))) (Or.inl (hw _ (List.mem_of_getElem? (i := 53) rfl))) (by decide) (t := .boolean) (t' := .int) (by decide) (by decide))))
        have y70 := ((y14.same W39).other W59 (Or.inr (slot_ne (Or.inl (hw _ (List.mem_of_getElem? (i := 102) rfl))) (Or.inl (hw _ (List.mem_of_getElem? (i := 53) rfl))) (by decide) (t := .boolean) (t' := .int) (by decide) (by decide))))
        have y71 := (y51.other W59 (Or.inr (slot_ne (Or.inl (hw _ (List.mem_of_getElem? (i := 104) rfl))) (Or.inl (hw _ (List.mem_of_getElem? (i := 53) rfl))) (by decide) (t := .int) (t' := .int) (by decide) (by decide))))
        have K59 : Keep h0 h59 [a1] := (K39).wr W59 (Or.inl (List.mem_of_getElem? (i := 0) rfl))
        have Z59 : n0 ≤ h59.size := Nat.le_trans Z39 (Keep.of_wr W59).1
        obtain ⟨T72, X72, e72, st72⟩ := getF X59 hx hZ hown (host := "") (Or.inl (hw _ (List.mem_of_getElem? (i := 52) rfl))) Via.refl e59 (y47.same W59) (g := (mkF m 59 #[.val (.ref a1)] [(.ref a1), (.ref a1)])) rfl rfl (hb hby d11_59)
        obtain ⟨T73, h73, X73, e73, W73, st73⟩ := putF X72 hx hZ hown (host := "") (Or.inl (hw _ (List.mem_of_getElem? (i := 48) rfl))) Via.refl e72 y65 (((E_a1.wr W3).wr W39).wr W59) (Or.inl (hw _ (List.mem_of_getElem? (i := 49) rfl))) (hw _ (List.mem_of_getElem? (i := 9) rfl)) (ty := .int) (by decide) rfl rfl (g := (mkF m 62 #[.val (.ref a1)] [(.int (w_next_a1 + (1 : Int32))), (.ref a1)])) rfl rfl (hb hby d11_62)
        have N73 := Fr.snoc X73 N59 g_a1
        have y74 := (y60.other W73 (Or.inr (slot_ne (Or.inr (hw _ (List.mem_of_getElem? (i := 37) rfl))) (Or.inl (hw _ (List.mem_of_getElem? (i := 49) rfl))) (by decide) (t := (.object "java/io/InputStream")) (t' := .int) (by decide) (by decide))))
        have y75 := (y61.other W73 (Or.inr (slot_ne (Or.inl (hw _ (List.mem_of_getElem? (i := 39) rfl))) (Or.inl (hw _ (List.mem_of_getElem? (i := 49) rfl))) (by decide) (t := (.array .byte)) (t' := .int) (by decide) (by decide))))
        have y76 := (y62.other W73 (Or.inr (slot_ne (Or.inr (hw _ (List.mem_of_getElem? (i := 43) rfl))) (Or.inl (hw _ (List.mem_of_getElem? (i := 49) rfl))) (by decide) (t := .boolean) (t' := .int) (by decide) (by decide))))
        have y77 := (y63.other W73 (Or.inr (slot_ne (Or.inl (hw _ (List.mem_of_getElem? (i := 45) rfl))) (Or.inl (hw _ (List.mem_of_getElem? (i := 49) rfl))) (by decide) (t := .long) (t' := .int) (by decide) (by decide))))
        have y78 := (y64.other W73 (Or.inr (slot_ne (Or.inl (hw _ (List.mem_of_getElem? (i := 47) rfl))) (Or.inl (hw _ (List.mem_of_getElem? (i := 49) rfl))) (by decide) (t := .int) (t' := .int) (by decide) (by decide))))
        have y79 := (y66.other W73 (Or.inr (slot_ne (Or.inl (hw _ (List.mem_of_getElem? (i := 51) rfl))) (Or.inl (hw _ (List.mem_of_getElem? (i := 49) rfl))) (by decide) (t := .int) (t' := .int) (by decide) (by decide))))
        have y80 := ((y47.same W59).other W73 (Or.inr (slot_ne (Or.inl (hw _ (List.mem_of_getElem? (i := 53) rfl))) (Or.inl (hw _ (List.mem_of_getElem? (i := 49) rfl))) (by decide) (t := .int) (t' := .int) (by decide) (by decide))))
        have y81 := (y67.other W73 (Or.inr (slot_ne (Or.inl (hw _ (List.mem_of_getElem? (i := 65) rfl))) (Or.inl (hw _ (List.mem_of_getElem? (i := 49) rfl))) (by decide) (t := .boolean) (t' := .int) (by decide) (by decide))))
        have y82 := (y68.other W73 (Or.inr (slot_ne (Or.inl (hw _ (List.mem_of_getElem? (i := 67) rfl))) (Or.inl (hw _ (List.mem_of_getElem? (i := 49) rfl))) (by decide) (t := .int) (t' := .int) (by decide) (by decide))))
        have y83 := (y69.other W73 (Or.inr (slot_ne (Or.inl (hw _ (List.mem_of_getElem? (i := 95) rfl))) (Or.inl (hw _ (List.mem_of_getElem? (i := 49) rfl))) (by decide) (t := .boolean) (t' := .int) (by decide) (by decide))))
        have y84 := (y70.other W73 (Or.inr (slot_ne (Or.inl (hw _ (List.mem_of_getElem? (i := 102) rfl))) (Or.inl (hw _ (List.mem_of_getElem? (i := 49) rfl))) (by decide) (t := .boolean) (t' := .int) (by decide) (by decide))))
        have y85 := (y71.other W73 (Or.inr (slot_ne (Or.inl (hw _ (List.mem_of_getElem? (i := 104) rfl))) (Or.inl (hw _ (List.mem_of_getElem? (i := 49) rfl))) (by decide) (t := .int) (t' := .int) (by decide) (by decide))))
        have y86 := ((y52.other W59 ne_w_block_a1_a1).other W73 ne_w_block_a1_a1)
        have K73 : Keep h0 h73 [a1] := (K59).wr W73 (Or.inl (List.mem_of_getElem? (i := 0) rfl))
        have Z73 : n0 ≤ h73.size := Nat.le_trans Z59 (Keep.of_wr W73).1
        obtain ⟨cq87, q87, q87'⟩ := ((((E_a1.wr W3).wr W39).wr W59).wr W73).cell
        obtain ⟨_, _, ⟨T87, L87, k87, n87⟩, -, X87, ⟨Lc87, hQ87, l87, y87, z87⟩, st87⟩ := X73.privateBack hx (y := (⟨"querent/hl7/LineReader", "more", "()Z"⟩ : MethodName)) hown (mvT hZ (hw _ (List.mem_of_getElem? (i := 82) rfl))) (mvT hZ (hw _ (List.mem_of_getElem? (i := 83) rfl))) (own_selp (args' := #[]) (w := (⟨"querent/hl7/LineReader", "offset", "()J"⟩ : MethodName)) (mvT hZ (hw _ (List.mem_of_getElem? (i := 57) rfl))) rfl (Cond.privateMethod_at (mvP hZ (hw _ (List.mem_of_getElem? (i := 84) rfl)) (args := #[]))) (mvT hZ (hw _ (List.mem_of_getElem? (i := 83) rfl))) (by decide)) (Cond.privateMethod_at (mvP hZ (hw _ (List.mem_of_getElem? (i := 84) rfl)) (args := #[]))) (mvT hZ (hw _ (List.mem_of_getElem? (i := 85) rfl))) (by decide) (backOf (W := 0) (rm12 l Z a0 hw [] a1 (w_next_a1 + (1 : Int32)) w_limit_a1 h73 n0 Z73 y74 y80 y78 ((((E_a1.wr W3).wr W39).wr W59).wr W73)) hZ (hw _ (List.mem_of_getElem? (i := 85) rfl)) (hw _ (List.mem_of_getElem? (i := 10) rfl)) (by decide) (by decide)) (g := (mkF m 66 #[.val (.ref a1)] [(.ref a1)])) rfl (by rw [hml]; rfl) (Steps.refl _) (a := a1) (by rw [e73]; exact q87) q87' (argsL := []) (rest := []) (lenOf pd_3 rfl) rfl (by show 2 * 0 + _ ≤ _; exact Nat.le_of_eq rfl) (hb hby d11_66) (fun _ _ => ⟨rfl, e73, (by decide : 0 + 0 ≤ _), (by decide : 0 + 0 ≤ _)⟩)
        dsimp only [Pt.U, Pt.locs, Pt.cells, Pt.slots] at X87 l87 y87 z87 st87 hQ87
        subst l87 y87 z87
        obtain ⟨rfl, N87q, e87⟩ := hQ87
        have N87 := Fr.app N73 N87q
        have pre89 : ∀ t, Steps p.tables e below (T87.setTop (mkF m 69 #[.val (.ref a1)] [(.int (F12 (w_next_a1 + (1 : Int32)) w_limit_a1))])) t → Steps p.tables e below (s₁.setTop (entryFrame m #[(.ref a1)] 1)) t := fun t kt => pre57 t (by
          show Steps p.tables e below (T54.setTop (mkF m 44 #[.val (.ref a1)] [(.int (10 : Int32)), (.int (own_at vl_w_block_a1 w_next_a1))])) _
          refine XS.icmpNo X54.here hx rfl (hb hby d11_44) rfl (teq hc44_56).2 ?_
          show Steps p.tables e below (T54.setTop (mkF m 47 #[.val (.ref a1)] [])) _
          refine XS.aloadN X54.here hx rfl (hb hby d11_47) rfl rfl ?_
          show Steps p.tables e below (T54.setTop (mkF m 48 #[.val (.ref a1)] [(.ref a1)])) _
          refine XS.dup X54.here hx rfl (hb hby d11_48) rfl rfl ?_
          show Steps p.tables e below (T54.setTop (mkF m 49 #[.val (.ref a1)] [(.ref a1), (.ref a1)])) _
          refine st58 _ ?_
          show Steps p.tables e below (T58.setTop (mkF m 52 #[.val (.ref a1)] [(.int w_next_a1), (.ref a1)])) _
          refine XS.iconst X58.here hx rfl (hb hby d11_52) ?_
          show Steps p.tables e below (T58.setTop (mkF m 53 #[.val (.ref a1)] [(.int (1 : Int32)), (.int w_next_a1), (.ref a1)])) _
          refine XS.iadd X58.here hx rfl (hb hby d11_53) rfl ?_
          show Steps p.tables e below (T58.setTop (mkF m 54 #[.val (.ref a1)] [(.int (w_next_a1 + (1 : Int32))), (.ref a1)])) _
          refine st59 _ ?_
          show Steps p.tables e below (T59.setTop (mkF m 57 #[.val (.ref a1)] [])) _
          refine XS.aloadN X59.here hx rfl (hb hby d11_57) rfl rfl ?_
          show Steps p.tables e below (T59.setTop (mkF m 58 #[.val (.ref a1)] [(.ref a1)])) _
          refine XS.aloadN X59.here hx rfl (hb hby d11_58) rfl rfl ?_
          show Steps p.tables e below (T59.setTop (mkF m 59 #[.val (.ref a1)] [(.ref a1), (.ref a1)])) _
          refine st72 _ ?_
          show Steps p.tables e below (T72.setTop (mkF m 62 #[.val (.ref a1)] [(.int (w_next_a1 + (1 : Int32))), (.ref a1)])) _
          refine st73 _ ?_
          show Steps p.tables e below (T73.setTop (mkF m 65 #[.val (.ref a1)] [])) _
          refine XS.aloadN X73.here hx rfl (hb hby d11_65) rfl rfl ?_
          show Steps p.tables e below (T73.setTop (mkF m 66 #[.val (.ref a1)] [(.ref a1)])) _
          refine st87.trans ?_
          show Steps p.tables e below (T87.setTop (mkF m 69 #[.val (.ref a1)] [(.int (F12 (w_next_a1 + (1 : Int32)) w_limit_a1))])) _
          exact kt)
        by_cases hc69_88 : (F12 (w_next_a1 + (1 : Int32)) w_limit_a1) = (0 : Int32)
        · obtain ⟨cq90, q90, q90'⟩ := ((((E_a1.wr W3).wr W39).wr W59).wr W73).cell
          obtain ⟨_, _, ⟨T90, L90, k90, n90⟩, -, X90, ⟨Lc90, hQ90, l90, y90, z90⟩, st90⟩ := X87.privateBack hx (y := (⟨"querent/hl7/LineReader", "endText", "()V"⟩ : MethodName)) hown (mvT hZ (hw _ (List.mem_of_getElem? (i := 90) rfl))) (mvT hZ (hw _ (List.mem_of_getElem? (i := 91) rfl))) (own_selp (args' := #[]) (w := (⟨"querent/hl7/LineReader", "offset", "()J"⟩ : MethodName)) (mvT hZ (hw _ (List.mem_of_getElem? (i := 57) rfl))) rfl (Cond.privateMethod_at (mvP hZ (hw _ (List.mem_of_getElem? (i := 92) rfl)) (args := #[]))) (mvT hZ (hw _ (List.mem_of_getElem? (i := 91) rfl))) (by decide)) (Cond.privateMethod_at (mvP hZ (hw _ (List.mem_of_getElem? (i := 92) rfl)) (args := #[]))) (mvT hZ (hw _ (List.mem_of_getElem? (i := 93) rfl))) (by decide) (backOf (W := 0) (rm14 l Z a0 hw [] a1 w_block_a1 w_carriageReturnEnds_a1 w_base_a1 w_limit_a1 (w_next_a1 + (1 : Int32)) w_end_a1 (w_next_a1 + (1 : Int32)) w_keeping_a1 w_kept_a1 w_ended_a1 (0 : Int32) w_number_a1 h73 n0 Z73 ((((E_a1.wr W3).wr W39).wr W59).wr W73) y74 y75 y76 y77 y78 (y65.same W73) y79 y80 y81 y82 y83 y84 y85 g_a1) hZ (hw _ (List.mem_of_getElem? (i := 93) rfl)) (hw _ (List.mem_of_getElem? (i := 10) rfl)) (by decide) (by decide)) (g := (mkF m 73 #[.val (.ref a1)] [(.ref a1)])) rfl (by rw [hml]; rfl) (Steps.refl _) (a := a1) (by rw [e87]; exact q90) q90' (argsL := []) (rest := []) (lenOf pd_4 rfl) rfl (by show 2 * 0 + _ ≤ _; exact Nat.le_of_eq rfl) (hb hby d11_73) (fun _ _ => ⟨rfl, e87, (by decide : 0 + 0 ≤ _), (by decide : 0 + 0 ≤ _)⟩)
          dsimp only [Pt.U, Pt.locs, Pt.cells, Pt.slots] at X90 l90 y90 z90 st90 hQ90
          subst l90 y90 z90
          obtain ⟨rfl, N90q, K90q, f90_0, f90_1, f90_2, f90_3, f90_4, f90_5, f90_6, f90_7, f90_8, f90_9, f90_10, f90_11, f90_12, f90_13⟩ := hQ90
          have y91 := (((((E_a1.wr W3).wr W39).wr W59).wr W73).keep K90q)
          have y92 := (y86.keep K90q (ninS ne_w_block_a1_a1 nin0))
          have K90 : Keep h0 T90.heap [a1] := (K73).trans K90q (allS (P := fun x => x ∈ [a1] ∨ h0.size ≤ x) (Or.inl (List.mem_of_getElem? (i := 0) rfl)) all0)
          have Z90 : n0 ≤ T90.heap.size := Nat.le_trans Z73 K90q.1
          have N90 := Fr.app N87 N90q
          obtain ⟨fs, hr, hrun, hended, hW, hsame⟩ := X90.leave (v := some (.int (0 : Int32))) (fun h => by rw [Bd.returns] at h; cases h)
          refine ⟨_, _, pre89 _ ?_, hrun, hended, _, _, rfl, ?_, ⟨_, rfl⟩, hW, hsame.mono (by decide) (by decide)⟩
          · show Steps p.tables e below (T87.setTop (mkF m 69 #[.val (.ref a1)] [(.int (F12 (w_next_a1 + (1 : Int32)) w_limit_a1))])) _
            refine XS.ifNo X87.here hx rfl (hb hby d11_69) rfl ((if0 _ _).trans (teq hc69_88).2) ?_
            show Steps p.tables e below (T87.setTop (mkF m 72 #[.val (.ref a1)] [])) _
            refine XS.aloadN X87.here hx rfl (hb hby d11_72) rfl rfl ?_
            show Steps p.tables e below (T87.setTop (mkF m 73 #[.val (.ref a1)] [(.ref a1)])) _
            refine st90.trans ?_
            show Steps p.tables e below (T90.setTop (mkF m 76 #[.val (.ref a1)] [])) _
            refine XS.iconst X90.here hx rfl (hb hby d11_76) ?_
            show Steps p.tables e below (T90.setTop (mkF m 77 #[.val (.ref a1)] [(.int (0 : Int32))])) _
            exact retN X90 hx (t := .boolean) Bd.returns (by simp) (hb hby d11_77) hr
          · show Q11 Z a1 w_block_a1 w_carriageReturnEnds_a1 w_base_a1 w_limit_a1 w_start_a1 w_end_a1 w_next_a1 w_keeping_a1 w_kept_a1 w_ended_a1 w_afterCarriageReturn_a1 w_number_a1 k_w_block_a1 vl_w_block_a1 h0 n0 _ T90.heap _
            exact ⟨(0 : Int32), (w_next_a1 + (1 : Int32)), w_limit_a1, w_limit_a1, (0 : Int32), (0 : Int32), w_number_a1, rfl, N90, (K90), f90_0, f90_1, f90_2, f90_3, f90_4, f90_5, f90_6, f90_7, f90_8, f90_9, f90_10, f90_11, f90_12, f90_13, (Or.inr ⟨rfl, hc44_56, by (try clear pre0); (try simp only [own_mz] at hc12_17); (try simp only [Int32.lt_iff_toInt_lt, ← Int32.toInt_inj, own_z0, own_z1, own_z6] at hc12_17); (try simp only [own_mz] at hc25_22); (try simp only [Int32.lt_iff_toInt_lt, ← Int32.toInt_inj, own_z0, own_z1, own_z6] at hc25_22); (try simp only [own_mz] at hc44_56); (try simp only [Int32.lt_iff_toInt_lt, ← Int32.toInt_inj, own_z0, own_z1, own_z6] at hc44_56); (try simp only [own_mz] at hc69_88); (try simp only [Int32.lt_iff_toInt_lt, ← Int32.toInt_inj, own_z0, own_z1, own_z6] at hc69_88); (try simp only [own_mz] at hq0_15); (try simp only [Int32.lt_iff_toInt_lt, ← Int32.toInt_inj, own_z0, own_z1, own_z6] at hq0_15); (try simp only [own_mz] at hq0_16); (try simp only [Int32.lt_iff_toInt_lt, ← Int32.toInt_inj, own_z0, own_z1, own_z6] at hq0_16); (try simp only [own_mz] at hq0_17); (try simp only [Int32.lt_iff_toInt_lt, ← Int32.toInt_inj, own_z0, own_z1, own_z6] at hq0_17); (try simp only [Int32.lt_iff_toInt_lt, ← Int32.toInt_inj, own_z0, own_z1, own_z6] at ⊢); omega⟩), (by (try clear pre0); have z1 := c_iadd w_next_a1 (1 : Int32); have z2 := rng32 (w_next_a1 + (1 : Int32)); (try simp only [own_mz] at hc12_17); (try simp only [Int32.lt_iff_toInt_lt, ← Int32.toInt_inj, own_z0, own_z1, own_z6] at hc12_17); (try simp only [own_mz] at hc25_22); (try simp only [Int32.lt_iff_toInt_lt, ← Int32.toInt_inj, own_z0, own_z1, own_z6] at hc25_22); (try simp only [own_mz] at hc44_56); (try simp only [Int32.lt_iff_toInt_lt, ← Int32.toInt_inj, own_z0, own_z1, own_z6] at hc44_56); (try simp only [own_mz] at hc69_88); (try simp only [Int32.lt_iff_toInt_lt, ← Int32.toInt_inj, own_z0, own_z1, own_z6] at hc69_88); (try simp only [own_mz] at hq0_15); (try simp only [Int32.lt_iff_toInt_lt, ← Int32.toInt_inj, own_z0, own_z1, own_z6] at hq0_15); (try simp only [own_mz] at hq0_16); (try simp only [Int32.lt_iff_toInt_lt, ← Int32.toInt_inj, own_z0, own_z1, own_z6] at hq0_16); (try simp only [own_mz] at hq0_17); (try simp only [Int32.lt_iff_toInt_lt, ← Int32.toInt_inj, own_z0, own_z1, own_z6] at hq0_17); (try simp only [own_mz] at z1); (try simp only [Int32.lt_iff_toInt_lt, ← Int32.toInt_inj, own_z0, own_z1, own_z6] at z1); (try simp only [own_mz] at z2); (try simp only [Int32.lt_iff_toInt_lt, ← Int32.toInt_inj, own_z0, own_z1, own_z6] at z2); (try simp only [Int32.lt_iff_toInt_lt, ← Int32.toInt_inj, own_z0, own_z1, own_z6] at ⊢); omega), (by (try clear pre0); have z1 := c_iadd w_next_a1 (1 : Int32); have z2 := rng32 (w_next_a1 + (1 : Int32)); (try simp only [own_mz] at hc12_17); (try simp only [Int32.lt_iff_toInt_lt, ← Int32.toInt_inj, own_z0, own_z1, own_z6] at hc12_17); (try simp only [own_mz] at hc25_22); (try simp only [Int32.lt_iff_toInt_lt, ← Int32.toInt_inj, own_z0, own_z1, own_z6] at hc25_22); (try simp only [own_mz] at hc44_56); (try simp only [Int32.lt_iff_toInt_lt, ← Int32.toInt_inj, own_z0, own_z1, own_z6] at hc44_56); (try simp only [own_mz] at hc69_88); (try simp only [Int32.lt_iff_toInt_lt, ← Int32.toInt_inj, own_z0, own_z1, own_z6] at hc69_88); (try simp only [own_mz] at hq0_15); (try simp only [Int32.lt_iff_toInt_lt, ← Int32.toInt_inj, own_z0, own_z1, own_z6] at hq0_15); (try simp only [own_mz] at hq0_16); (try simp only [Int32.lt_iff_toInt_lt, ← Int32.toInt_inj, own_z0, own_z1, own_z6] at hq0_16); (try simp only [own_mz] at hq0_17); (try simp only [Int32.lt_iff_toInt_lt, ← Int32.toInt_inj, own_z0, own_z1, own_z6] at hq0_17); (try simp only [own_mz] at z1); (try simp only [Int32.lt_iff_toInt_lt, ← Int32.toInt_inj, own_z0, own_z1, own_z6] at z1); (try simp only [own_mz] at z2); (try simp only [Int32.lt_iff_toInt_lt, ← Int32.toInt_inj, own_z0, own_z1, own_z6] at z2); (try simp only [Int32.lt_iff_toInt_lt, ← Int32.toInt_inj, own_z0, own_z1, own_z6] at ⊢); omega), (fun q => absurd rfl q)⟩
        · obtain ⟨T93, X93, e93, st93⟩ := getF X87 hx hZ hown (host := "") (Or.inl (hw _ (List.mem_of_getElem? (i := 103) rfl))) Via.refl e87 y85 (g := (mkF m 80 #[.val (.ref a1)] [(.ref a1), (.ref a1)])) rfl rfl (hb hby d11_80)
          obtain ⟨T94, h94, X94, e94, W94, st94⟩ := putF X93 hx hZ hown (host := "") (Or.inl (hw _ (List.mem_of_getElem? (i := 103) rfl))) Via.refl e93 y85 ((((E_a1.wr W3).wr W39).wr W59).wr W73) (Or.inl (hw _ (List.mem_of_getElem? (i := 104) rfl))) (hw _ (List.mem_of_getElem? (i := 9) rfl)) (ty := .int) (by decide) rfl rfl (g := (mkF m 85 #[.val (.ref a1)] [(.int (w_number_a1 + (1 : Int32))), (.ref a1)])) rfl rfl (hb hby d11_85)
          have N94 := Fr.snoc X94 N87 g_a1
          have y95 := (((((E_a1.wr W3).wr W39).wr W59).wr W73).wr W94)
          have y96 := (y74.other W94 (Or.inr (slot_ne (Or.inr (hw _ (List.mem_of_getElem? (i := 37) rfl))) (Or.inl (hw _ (List.mem_of_getElem? (i := 104) rfl))) (by decide) (t := (.object "java/io/InputStream")) (t' := .int) (by decide) (by decide))))
          have y97 := (y75.other W94 (Or.inr (slot_ne (Or.inl (hw _ (List.mem_of_getElem? (i := 39) rfl))) (Or.inl (hw _ (List.mem_of_getElem? (i := 104) rfl))) (by decide) (t := (.array .byte)) (t' := .int) (by decide) (by decide))))
          have y98 := (y76.other W94 (Or.inr (slot_ne (Or.inr (hw _ (List.mem_of_getElem? (i := 43) rfl))) (Or.inl (hw _ (List.mem_of_getElem? (i := 104) rfl))) (by decide) (t := .boolean) (t' := .int) (by decide) (by decide))))
          have y99 := (y77.other W94 (Or.inr (slot_ne (Or.inl (hw _ (List.mem_of_getElem? (i := 45) rfl))) (Or.inl (hw _ (List.mem_of_getElem? (i := 104) rfl))) (by decide) (t := .long) (t' := .int) (by decide) (by decide))))
          have y100 := (y78.other W94 (Or.inr (slot_ne (Or.inl (hw _ (List.mem_of_getElem? (i := 47) rfl))) (Or.inl (hw _ (List.mem_of_getElem? (i := 104) rfl))) (by decide) (t := .int) (t' := .int) (by decide) (by decide))))
          have y101 := ((y65.same W73).other W94 (Or.inr (slot_ne (Or.inl (hw _ (List.mem_of_getElem? (i := 49) rfl))) (Or.inl (hw _ (List.mem_of_getElem? (i := 104) rfl))) (by decide) (t := .int) (t' := .int) (by decide) (by decide))))
          have y102 := (y79.other W94 (Or.inr (slot_ne (Or.inl (hw _ (List.mem_of_getElem? (i := 51) rfl))) (Or.inl (hw _ (List.mem_of_getElem? (i := 104) rfl))) (by decide) (t := .int) (t' := .int) (by decide) (by decide))))
          have y103 := (y80.other W94 (Or.inr (slot_ne (Or.inl (hw _ (List.mem_of_getElem? (i := 53) rfl))) (Or.inl (hw _ (List.mem_of_getElem? (i := 104) rfl))) (by decide) (t := .int) (t' := .int) (by decide) (by decide))))
          have y104 := (y81.other W94 (Or.inr (slot_ne (Or.inl (hw _ (List.mem_of_getElem? (i := 65) rfl))) (Or.inl (hw _ (List.mem_of_getElem? (i := 104) rfl))) (by decide) (t := .boolean) (t' := .int) (by decide) (by decide))))
          have y105 := (y82.other W94 (Or.inr (slot_ne (Or.inl (hw _ (List.mem_of_getElem? (i := 67) rfl))) (Or.inl (hw _ (List.mem_of_getElem? (i := 104) rfl))) (by decide) (t := .int) (t' := .int) (by decide) (by decide))))
          have y106 := (y83.other W94 (Or.inr (slot_ne (Or.inl (hw _ (List.mem_of_getElem? (i := 95) rfl))) (Or.inl (hw _ (List.mem_of_getElem? (i := 104) rfl))) (by decide) (t := .boolean) (t' := .int) (by decide) (by decide))))
          have y107 := (y84.other W94 (Or.inr (slot_ne (Or.inl (hw _ (List.mem_of_getElem? (i := 102) rfl))) (Or.inl (hw _ (List.mem_of_getElem? (i := 104) rfl))) (by decide) (t := .boolean) (t' := .int) (by decide) (by decide))))
          have K94 : Keep h0 h94 [a1] := (K73).wr W94 (Or.inl (List.mem_of_getElem? (i := 0) rfl))
          have Z94 : n0 ≤ h94.size := Nat.le_trans Z73 (Keep.of_wr W94).1
          obtain ⟨fs, hr, hrun, hended, hW, hsame⟩ := X94.leave (v := some (.int (1 : Int32))) (fun h => by rw [Bd.returns] at h; cases h)
          refine ⟨_, _, pre89 _ ?_, hrun, hended, _, _, rfl, ?_, ⟨_, rfl⟩, hW, hsame.mono (by decide) (by decide)⟩
          · show Steps p.tables e below (T87.setTop (mkF m 69 #[.val (.ref a1)] [(.int (F12 (w_next_a1 + (1 : Int32)) w_limit_a1))])) _
            refine XS.ifYes X87.here hx rfl (pc0 := 69) (pc' := 78) rfl (hb hby d11_69) rfl ((if0 _ _).trans (feq hc69_88).2) (by decide) (by decide) ?_
            show Steps p.tables e below (T87.setTop (mkF m 78 #[.val (.ref a1)] [])) _
            refine XS.aloadN X87.here hx rfl (hb hby d11_78) rfl rfl ?_
            show Steps p.tables e below (T87.setTop (mkF m 79 #[.val (.ref a1)] [(.ref a1)])) _
            refine XS.dup X87.here hx rfl (hb hby d11_79) rfl rfl ?_
            show Steps p.tables e below (T87.setTop (mkF m 80 #[.val (.ref a1)] [(.ref a1), (.ref a1)])) _
            refine st93 _ ?_
            show Steps p.tables e below (T93.setTop (mkF m 83 #[.val (.ref a1)] [(.int w_number_a1), (.ref a1)])) _
            refine XS.iconst X93.here hx rfl (hb hby d11_83) ?_
            show Steps p.tables e below (T93.setTop (mkF m 84 #[.val (.ref a1)] [(.int (1 : Int32)), (.int w_number_a1), (.ref a1)])) _
            refine XS.iadd X93.here hx rfl (hb hby d11_84) rfl ?_
            show Steps p.tables e below (T93.setTop (mkF m 85 #[.val (.ref a1)] [(.int (w_number_a1 + (1 : Int32))), (.ref a1)])) _
            refine st94 _ ?_
            show Steps p.tables e below (T94.setTop (mkF m 88 #[.val (.ref a1)] [])) _
            refine XS.iconst X94.here hx rfl (hb hby d11_88) ?_
            show Steps p.tables e below (T94.setTop (mkF m 89 #[.val (.ref a1)] [(.int (1 : Int32))])) _
            exact retN X94 hx (t := .boolean) Bd.returns (by simp) (hb hby d11_89) hr
          · show Q11 Z a1 w_block_a1 w_carriageReturnEnds_a1 w_base_a1 w_limit_a1 w_start_a1 w_end_a1 w_next_a1 w_keeping_a1 w_kept_a1 w_ended_a1 w_afterCarriageReturn_a1 w_number_a1 k_w_block_a1 vl_w_block_a1 h0 n0 _ T94.heap _
            rw [e94]
            exact ⟨(1 : Int32), (w_next_a1 + (1 : Int32)), w_end_a1, (w_next_a1 + (1 : Int32)), w_ended_a1, (0 : Int32), (w_number_a1 + (1 : Int32)), rfl, N94, (K94), y95, y96, y97, y98, y99, y100, y101, y102, y103, y104, y105, y106, y107, (y85.same W94), (Or.inr ⟨rfl, hc44_56, by (try clear pre0); (try simp only [own_mz] at hc12_17); (try simp only [Int32.lt_iff_toInt_lt, ← Int32.toInt_inj, own_z0, own_z1, own_z6] at hc12_17); (try simp only [own_mz] at hc25_22); (try simp only [Int32.lt_iff_toInt_lt, ← Int32.toInt_inj, own_z0, own_z1, own_z6] at hc25_22); (try simp only [own_mz] at hc44_56); (try simp only [Int32.lt_iff_toInt_lt, ← Int32.toInt_inj, own_z0, own_z1, own_z6] at hc44_56); (try simp only [own_mz] at hc69_88); (try simp only [Int32.lt_iff_toInt_lt, ← Int32.toInt_inj, own_z0, own_z1, own_z6] at hc69_88); (try simp only [own_mz] at hq0_15); (try simp only [Int32.lt_iff_toInt_lt, ← Int32.toInt_inj, own_z0, own_z1, own_z6] at hq0_15); (try simp only [own_mz] at hq0_16); (try simp only [Int32.lt_iff_toInt_lt, ← Int32.toInt_inj, own_z0, own_z1, own_z6] at hq0_16); (try simp only [own_mz] at hq0_17); (try simp only [Int32.lt_iff_toInt_lt, ← Int32.toInt_inj, own_z0, own_z1, own_z6] at hq0_17); (try simp only [Int32.lt_iff_toInt_lt, ← Int32.toInt_inj, own_z0, own_z1, own_z6] at ⊢); omega⟩), (by (try clear pre0); have z1 := c_iadd w_next_a1 (1 : Int32); have z2 := rng32 (w_next_a1 + (1 : Int32)); (try simp only [own_mz] at hc12_17); (try simp only [Int32.lt_iff_toInt_lt, ← Int32.toInt_inj, own_z0, own_z1, own_z6] at hc12_17); (try simp only [own_mz] at hc25_22); (try simp only [Int32.lt_iff_toInt_lt, ← Int32.toInt_inj, own_z0, own_z1, own_z6] at hc25_22); (try simp only [own_mz] at hc44_56); (try simp only [Int32.lt_iff_toInt_lt, ← Int32.toInt_inj, own_z0, own_z1, own_z6] at hc44_56); (try simp only [own_mz] at hc69_88); (try simp only [Int32.lt_iff_toInt_lt, ← Int32.toInt_inj, own_z0, own_z1, own_z6] at hc69_88); (try simp only [own_mz] at hq0_15); (try simp only [Int32.lt_iff_toInt_lt, ← Int32.toInt_inj, own_z0, own_z1, own_z6] at hq0_15); (try simp only [own_mz] at hq0_16); (try simp only [Int32.lt_iff_toInt_lt, ← Int32.toInt_inj, own_z0, own_z1, own_z6] at hq0_16); (try simp only [own_mz] at hq0_17); (try simp only [Int32.lt_iff_toInt_lt, ← Int32.toInt_inj, own_z0, own_z1, own_z6] at hq0_17); (try simp only [own_mz] at z1); (try simp only [Int32.lt_iff_toInt_lt, ← Int32.toInt_inj, own_z0, own_z1, own_z6] at z1); (try simp only [own_mz] at z2); (try simp only [Int32.lt_iff_toInt_lt, ← Int32.toInt_inj, own_z0, own_z1, own_z6] at z2); (try simp only [Int32.lt_iff_toInt_lt, ← Int32.toInt_inj, own_z0, own_z1, own_z6] at ⊢); omega), (by (try clear pre0); have z1 := c_iadd w_next_a1 (1 : Int32); have z2 := rng32 (w_next_a1 + (1 : Int32)); (try simp only [own_mz] at hc12_17); (try simp only [Int32.lt_iff_toInt_lt, ← Int32.toInt_inj, own_z0, own_z1, own_z6] at hc12_17); (try simp only [own_mz] at hc25_22); (try simp only [Int32.lt_iff_toInt_lt, ← Int32.toInt_inj, own_z0, own_z1, own_z6] at hc25_22); (try simp only [own_mz] at hc44_56); (try simp only [Int32.lt_iff_toInt_lt, ← Int32.toInt_inj, own_z0, own_z1, own_z6] at hc44_56); (try simp only [own_mz] at hc69_88); (try simp only [Int32.lt_iff_toInt_lt, ← Int32.toInt_inj, own_z0, own_z1, own_z6] at hc69_88); (try simp only [own_mz] at hq0_15); (try simp only [Int32.lt_iff_toInt_lt, ← Int32.toInt_inj, own_z0, own_z1, own_z6] at hq0_15); (try simp only [own_mz] at hq0_16); (try simp only [Int32.lt_iff_toInt_lt, ← Int32.toInt_inj, own_z0, own_z1, own_z6] at hq0_16); (try simp only [own_mz] at hq0_17); (try simp only [Int32.lt_iff_toInt_lt, ← Int32.toInt_inj, own_z0, own_z1, own_z6] at hq0_17); (try simp only [own_mz] at z1); (try simp only [Int32.lt_iff_toInt_lt, ← Int32.toInt_inj, own_z0, own_z1, own_z6] at z1); (try simp only [own_mz] at z2); (try simp only [Int32.lt_iff_toInt_lt, ← Int32.toInt_inj, own_z0, own_z1, own_z6] at z2); (try simp only [Int32.lt_iff_toInt_lt, ← Int32.toInt_inj, own_z0, own_z1, own_z6] at ⊢); omega), (fun _ => ⟨rfl, by (try clear pre0); have z1 := c_iadd w_next_a1 (1 : Int32); have z2 := rng32 (w_next_a1 + (1 : Int32)); (try simp only [own_mz] at hc12_17); (try simp only [Int32.lt_iff_toInt_lt, ← Int32.toInt_inj, own_z0, own_z1, own_z6] at hc12_17); (try simp only [own_mz] at hc25_22); (try simp only [Int32.lt_iff_toInt_lt, ← Int32.toInt_inj, own_z0, own_z1, own_z6] at hc25_22); (try simp only [own_mz] at hc44_56); (try simp only [Int32.lt_iff_toInt_lt, ← Int32.toInt_inj, own_z0, own_z1, own_z6] at hc44_56); (try simp only [own_mz] at hc69_88); (try simp only [Int32.lt_iff_toInt_lt, ← Int32.toInt_inj, own_z0, own_z1, own_z6] at hc69_88); (try simp only [own_mz] at hq0_15); (try simp only [Int32.lt_iff_toInt_lt, ← Int32.toInt_inj, own_z0, own_z1, own_z6] at hq0_15); (try simp only [own_mz] at hq0_16); (try simp only [Int32.lt_iff_toInt_lt, ← Int32.toInt_inj, own_z0, own_z1, own_z6] at hq0_16); (try simp only [own_mz] at hq0_17); (try simp only [Int32.lt_iff_toInt_lt, ← Int32.toInt_inj, own_z0, own_z1, own_z6] at hq0_17); (try simp only [own_mz] at z1); (try simp only [Int32.lt_iff_toInt_lt, ← Int32.toInt_inj, own_z0, own_z1, own_z6] at z1); (try simp only [own_mz] at z2); (try simp only [Int32.lt_iff_toInt_lt, ← Int32.toInt_inj, own_z0, own_z1, own_z6] at z2); (try simp only [Int32.lt_iff_toInt_lt, ← Int32.toInt_inj, own_z0, own_z1, own_z6] at ⊢); omega⟩)⟩
      · obtain ⟨T108, X108, e108, st108⟩ := getF X54 hx hZ hown (host := "") (Or.inl (hw _ (List.mem_of_getElem? (i := 103) rfl))) Via.refl e54 y51 (g := (mkF m 80 #[.val (.ref a1)] [(.ref a1), (.ref a1)])) rfl rfl (hb hby d11_80)
        obtain ⟨T109, h109, X109, e109, W109, st109⟩ := putF X108 hx hZ hown (host := "") (Or.inl (hw _ (List.mem_of_getElem? (i := 103) rfl))) Via.refl e108 y51 ((E_a1.wr W3).wr W39) (Or.inl (hw _ (List.mem_of_getElem? (i := 104) rfl))) (hw _ (List.mem_of_getElem? (i := 9) rfl)) (ty := .int) (by decide) rfl rfl (g := (mkF m 85 #[.val (.ref a1)] [(.int (w_number_a1 + (1 : Int32))), (.ref a1)])) rfl rfl (hb hby d11_85)
        have N109 := Fr.snoc X109 N39 g_a1
        have y110 := (y40.other W109 (Or.inr (slot_ne (Or.inr (hw _ (List.mem_of_getElem? (i := 37) rfl))) (Or.inl (hw _ (List.mem_of_getElem? (i := 104) rfl))) (by decide) (t := (.object "java/io/InputStream")) (t' := .int) (by decide) (by decide))))
        have y111 := (y41.other W109 (Or.inr (slot_ne (Or.inl (hw _ (List.mem_of_getElem? (i := 39) rfl))) (Or.inl (hw _ (List.mem_of_getElem? (i := 104) rfl))) (by decide) (t := (.array .byte)) (t' := .int) (by decide) (by decide))))
        have y112 := (y42.other W109 (Or.inr (slot_ne (Or.inr (hw _ (List.mem_of_getElem? (i := 43) rfl))) (Or.inl (hw _ (List.mem_of_getElem? (i := 104) rfl))) (by decide) (t := .boolean) (t' := .int) (by decide) (by decide))))
        have y113 := (y43.other W109 (Or.inr (slot_ne (Or.inl (hw _ (List.mem_of_getElem? (i := 45) rfl))) (Or.inl (hw _ (List.mem_of_getElem? (i := 104) rfl))) (by decide) (t := .long) (t' := .int) (by decide) (by decide))))
        have y114 := (y44.other W109 (Or.inr (slot_ne (Or.inl (hw _ (List.mem_of_getElem? (i := 47) rfl))) (Or.inl (hw _ (List.mem_of_getElem? (i := 104) rfl))) (by decide) (t := .int) (t' := .int) (by decide) (by decide))))
        have y115 := (y45.other W109 (Or.inr (slot_ne (Or.inl (hw _ (List.mem_of_getElem? (i := 49) rfl))) (Or.inl (hw _ (List.mem_of_getElem? (i := 104) rfl))) (by decide) (t := .int) (t' := .int) (by decide) (by decide))))
        have y116 := (y46.other W109 (Or.inr (slot_ne (Or.inl (hw _ (List.mem_of_getElem? (i := 51) rfl))) (Or.inl (hw _ (List.mem_of_getElem? (i := 104) rfl))) (by decide) (t := .int) (t' := .int) (by decide) (by decide))))
        have y117 := (y47.other W109 (Or.inr (slot_ne (Or.inl (hw _ (List.mem_of_getElem? (i := 53) rfl))) (Or.inl (hw _ (List.mem_of_getElem? (i := 104) rfl))) (by decide) (t := .int) (t' := .int) (by decide) (by decide))))
        have y118 := (y48.other W109 (Or.inr (slot_ne (Or.inl (hw _ (List.mem_of_getElem? (i := 65) rfl))) (Or.inl (hw _ (List.mem_of_getElem? (i := 104) rfl))) (by decide) (t := .boolean) (t' := .int) (by decide) (by decide))))
        have y119 := (y49.other W109 (Or.inr (slot_ne (Or.inl (hw _ (List.mem_of_getElem? (i := 67) rfl))) (Or.inl (hw _ (List.mem_of_getElem? (i := 104) rfl))) (by decide) (t := .int) (t' := .int) (by decide) (by decide))))
        have y120 := (y50.other W109 (Or.inr (slot_ne (Or.inl (hw _ (List.mem_of_getElem? (i := 95) rfl))) (Or.inl (hw _ (List.mem_of_getElem? (i := 104) rfl))) (by decide) (t := .boolean) (t' := .int) (by decide) (by decide))))
        have y121 := ((y14.same W39).other W109 (Or.inr (slot_ne (Or.inl (hw _ (List.mem_of_getElem? (i := 102) rfl))) (Or.inl (hw _ (List.mem_of_getElem? (i := 104) rfl))) (by decide) (t := .boolean) (t' := .int) (by decide) (by decide))))
        have K109 : Keep h0 h109 [a1] := (K39).wr W109 (Or.inl (List.mem_of_getElem? (i := 0) rfl))
        have Z109 : n0 ≤ h109.size := Nat.le_trans Z39 (Keep.of_wr W109).1
        obtain ⟨fs, hr, hrun, hended, hW, hsame⟩ := X109.leave (v := some (.int (1 : Int32))) (fun h => by rw [Bd.returns] at h; cases h)
        refine ⟨_, _, pre57 _ ?_, hrun, hended, _, _, rfl, ?_, ⟨_, rfl⟩, hW, hsame.mono (by decide) (by decide)⟩
        · show Steps p.tables e below (T54.setTop (mkF m 44 #[.val (.ref a1)] [(.int (10 : Int32)), (.int (own_at vl_w_block_a1 w_next_a1))])) _
          refine XS.icmpYes X54.here hx rfl (pc0 := 44) (pc' := 78) rfl (hb hby d11_44) rfl (feq hc44_56).2 (by decide) (by decide) ?_
          show Steps p.tables e below (T54.setTop (mkF m 78 #[.val (.ref a1)] [])) _
          refine XS.aloadN X54.here hx rfl (hb hby d11_78) rfl rfl ?_
          show Steps p.tables e below (T54.setTop (mkF m 79 #[.val (.ref a1)] [(.ref a1)])) _
          refine XS.dup X54.here hx rfl (hb hby d11_79) rfl rfl ?_
          show Steps p.tables e below (T54.setTop (mkF m 80 #[.val (.ref a1)] [(.ref a1), (.ref a1)])) _
          refine st108 _ ?_
          show Steps p.tables e below (T108.setTop (mkF m 83 #[.val (.ref a1)] [(.int w_number_a1), (.ref a1)])) _
          refine XS.iconst X108.here hx rfl (hb hby d11_83) ?_
          show Steps p.tables e below (T108.setTop (mkF m 84 #[.val (.ref a1)] [(.int (1 : Int32)), (.int w_number_a1), (.ref a1)])) _
          refine XS.iadd X108.here hx rfl (hb hby d11_84) rfl ?_
          show Steps p.tables e below (T108.setTop (mkF m 85 #[.val (.ref a1)] [(.int (w_number_a1 + (1 : Int32))), (.ref a1)])) _
          refine st109 _ ?_
          show Steps p.tables e below (T109.setTop (mkF m 88 #[.val (.ref a1)] [])) _
          refine XS.iconst X109.here hx rfl (hb hby d11_88) ?_
          show Steps p.tables e below (T109.setTop (mkF m 89 #[.val (.ref a1)] [(.int (1 : Int32))])) _
          exact retN X109 hx (t := .boolean) Bd.returns (by simp) (hb hby d11_89) hr
        · show Q11 Z a1 w_block_a1 w_carriageReturnEnds_a1 w_base_a1 w_limit_a1 w_start_a1 w_end_a1 w_next_a1 w_keeping_a1 w_kept_a1 w_ended_a1 w_afterCarriageReturn_a1 w_number_a1 k_w_block_a1 vl_w_block_a1 h0 n0 _ T109.heap _
          rw [e109]
          exact ⟨(1 : Int32), w_next_a1, w_end_a1, w_next_a1, w_ended_a1, (0 : Int32), (w_number_a1 + (1 : Int32)), rfl, N109, (K109), (((E_a1.wr W3).wr W39).wr W109), y110, y111, y112, y113, y114, y115, y116, y117, y118, y119, y120, y121, (y51.same W109), (Or.inl rfl), (by (try clear pre0); have z1 := c_iadd w_next_a1 (1 : Int32); have z2 := rng32 (w_next_a1 + (1 : Int32)); (try simp only [own_mz] at hc12_17); (try simp only [Int32.lt_iff_toInt_lt, ← Int32.toInt_inj, own_z0, own_z1, own_z6] at hc12_17); (try simp only [own_mz] at hc25_22); (try simp only [Int32.lt_iff_toInt_lt, ← Int32.toInt_inj, own_z0, own_z1, own_z6] at hc25_22); (try simp only [own_mz] at hc44_56); (try simp only [Int32.lt_iff_toInt_lt, ← Int32.toInt_inj, own_z0, own_z1, own_z6] at hc44_56); (try simp only [own_mz] at hq0_15); (try simp only [Int32.lt_iff_toInt_lt, ← Int32.toInt_inj, own_z0, own_z1, own_z6] at hq0_15); (try simp only [own_mz] at hq0_16); (try simp only [Int32.lt_iff_toInt_lt, ← Int32.toInt_inj, own_z0, own_z1, own_z6] at hq0_16); (try simp only [own_mz] at hq0_17); (try simp only [Int32.lt_iff_toInt_lt, ← Int32.toInt_inj, own_z0, own_z1, own_z6] at hq0_17); (try simp only [own_mz] at z1); (try simp only [Int32.lt_iff_toInt_lt, ← Int32.toInt_inj, own_z0, own_z1, own_z6] at z1); (try simp only [own_mz] at z2); (try simp only [Int32.lt_iff_toInt_lt, ← Int32.toInt_inj, own_z0, own_z1, own_z6] at z2); (try simp only [Int32.lt_iff_toInt_lt, ← Int32.toInt_inj, own_z0, own_z1, own_z6] at ⊢); omega), (by (try clear pre0); have z1 := c_iadd w_next_a1 (1 : Int32); have z2 := rng32 (w_next_a1 + (1 : Int32)); (try simp only [own_mz] at hc12_17); (try simp only [Int32.lt_iff_toInt_lt, ← Int32.toInt_inj, own_z0, own_z1, own_z6] at hc12_17); (try simp only [own_mz] at hc25_22); (try simp only [Int32.lt_iff_toInt_lt, ← Int32.toInt_inj, own_z0, own_z1, own_z6] at hc25_22); (try simp only [own_mz] at hc44_56); (try simp only [Int32.lt_iff_toInt_lt, ← Int32.toInt_inj, own_z0, own_z1, own_z6] at hc44_56); (try simp only [own_mz] at hq0_15); (try simp only [Int32.lt_iff_toInt_lt, ← Int32.toInt_inj, own_z0, own_z1, own_z6] at hq0_15); (try simp only [own_mz] at hq0_16); (try simp only [Int32.lt_iff_toInt_lt, ← Int32.toInt_inj, own_z0, own_z1, own_z6] at hq0_16); (try simp only [own_mz] at hq0_17); (try simp only [Int32.lt_iff_toInt_lt, ← Int32.toInt_inj, own_z0, own_z1, own_z6] at hq0_17); (try simp only [own_mz] at z1); (try simp only [Int32.lt_iff_toInt_lt, ← Int32.toInt_inj, own_z0, own_z1, own_z6] at z1); (try simp only [own_mz] at z2); (try simp only [Int32.lt_iff_toInt_lt, ← Int32.toInt_inj, own_z0, own_z1, own_z6] at z2); (try simp only [Int32.lt_iff_toInt_lt, ← Int32.toInt_inj, own_z0, own_z1, own_z6] at ⊢); omega), (fun _ => ⟨rfl, by (try clear pre0); have z1 := c_iadd w_next_a1 (1 : Int32); have z2 := rng32 (w_next_a1 + (1 : Int32)); (try simp only [own_mz] at hc12_17); (try simp only [Int32.lt_iff_toInt_lt, ← Int32.toInt_inj, own_z0, own_z1, own_z6] at hc12_17); (try simp only [own_mz] at hc25_22); (try simp only [Int32.lt_iff_toInt_lt, ← Int32.toInt_inj, own_z0, own_z1, own_z6] at hc25_22); (try simp only [own_mz] at hc44_56); (try simp only [Int32.lt_iff_toInt_lt, ← Int32.toInt_inj, own_z0, own_z1, own_z6] at hc44_56); (try simp only [own_mz] at hq0_15); (try simp only [Int32.lt_iff_toInt_lt, ← Int32.toInt_inj, own_z0, own_z1, own_z6] at hq0_15); (try simp only [own_mz] at hq0_16); (try simp only [Int32.lt_iff_toInt_lt, ← Int32.toInt_inj, own_z0, own_z1, own_z6] at hq0_16); (try simp only [own_mz] at hq0_17); (try simp only [Int32.lt_iff_toInt_lt, ← Int32.toInt_inj, own_z0, own_z1, own_z6] at hq0_17); (try simp only [own_mz] at z1); (try simp only [Int32.lt_iff_toInt_lt, ← Int32.toInt_inj, own_z0, own_z1, own_z6] at z1); (try simp only [own_mz] at z2); (try simp only [Int32.lt_iff_toInt_lt, ← Int32.toInt_inj, own_z0, own_z1, own_z6] at z2); (try simp only [Int32.lt_iff_toInt_lt, ← Int32.toInt_inj, own_z0, own_z1, own_z6] at ⊢); omega⟩)⟩
theorem d16_9 : decode prog_132_method_16_code 9 = .ok (.iload_n 2, 1) := by decide +kernel
theorem d16_10 : decode prog_132_method_16_code 10 = .ok (.aload_n 0, 1) := by decide +kernel
theorem d16_11 : decode prog_132_method_16_code 11 = .ok (.getfield 58, 3) := by decide +kernel
theorem d16_14 : decode prog_132_method_16_code 14 = .ok (.if_icmp .ge 56, 3) := by decide +kernel
theorem d16_17 : decode prog_132_method_16_code 17 = .ok (.aload_n 0, 1) := by decide +kernel
theorem d16_18 : decode prog_132_method_16_code 18 = .ok (.getfield 34, 3) := by decide +kernel
theorem d16_21 : decode prog_132_method_16_code 21 = .ok (.iload_n 2, 1) := by decide +kernel
theorem d16_22 : decode prog_132_method_16_code 22 = .ok (.baload, 1) := by decide +kernel
theorem d16_23 : decode prog_132_method_16_code 23 = .ok (.bipush 13, 2) := by decide +kernel
theorem d16_25 : decode prog_132_method_16_code 25 = .ok (.if_icmp .eq 45, 3) := by decide +kernel
theorem d16_28 : decode prog_132_method_16_code 28 = .ok (.aload_n 0, 1) := by decide +kernel
theorem d16_29 : decode prog_132_method_16_code 29 = .ok (.getfield 34, 3) := by decide +kernel
theorem d16_32 : decode prog_132_method_16_code 32 = .ok (.iload_n 2, 1) := by decide +kernel
theorem d16_33 : decode prog_132_method_16_code 33 = .ok (.baload, 1) := by decide +kernel
theorem d16_34 : decode prog_132_method_16_code 34 = .ok (.bipush 10, 2) := by decide +kernel
theorem d16_36 : decode prog_132_method_16_code 36 = .ok (.if_icmp .eq 34, 3) := by decide +kernel
theorem d16_39 : decode prog_132_method_16_code 39 = .ok (.iinc 2 1, 3) := by decide +kernel
theorem d16_42 : decode prog_132_method_16_code 42 = .ok (.goto (-33), 3) := by decide +kernel
set_option maxRecDepth 65536 in
set_option maxHeartbeats 40000000 in
theorem lp9 {p : Program} {l : Launch} {e : Env} {R : Room} {s : State} {m : MethodId} {args : Array Value} {below : List Frame} {meth : Method} {c : Code} {locs : List Loc} {cells slots : Nat} {Z : State} {a0 : Array Value} {h0 : Heap} (a1 : Addr) (p2 lim : Int32) (blk : Addr) (kb : ClassId) (vl : List Int32)
    (hx : p.tables.exec = Jvm.exec) (hZ : Z.Warmed39 s.vm) (hw : ∀ d ∈ tables_1, d.before a0 Z = true) (hby : c.code = prog_132_method_16_code) (hown : s.vm.findClass "querent/hl7/LineReader" = some m.cls)
    (FL : Fld Z h0 a1 "querent/hl7/LineReader" "limit" "I" (.int lim)) (FB : Fld Z h0 a1 "querent/hl7/LineReader" "block" "[B" (.ref blk)) (VB : Arv Z h0 blk kb .byte (6 : Int32) (vl.map Value.int) (.int (0 : Int32))) (h6 : ¬ ((6 : Int32) < lim)) :
    ∀ (k : Nat) (i2 : Int32) (T0 : State), Stand p l e R s m args below meth c T0 locs cells slots → T0.heap = h0 → ¬ (i2 < (0 : Int32)) → ¬ (lim < i2) → lim.toInt - i2.toInt = k →
      ∃ (j : Int32) (T' : State), Stand p l e R s m args below meth c T' locs cells slots ∧ T'.heap = h0 ∧ ¬ (j < i2) ∧ ¬ (lim < j) ∧
        ∀ target, Steps p.tables e below (T'.setTop (mkF m 70 #[.val (.ref a1), .val (.int p2), .val (.int j)] [])) target → Steps p.tables e below (T0.setTop (mkF m 9 #[.val (.ref a1), .val (.int p2), .val (.int i2)] [])) target := by
  intro k
  induction k using Nat.strongRecOn with | ind k ih => ?_
  intro i2 T0 X0 e0 hi0 hi1 hk
  have pre0 : ∀ t, Steps p.tables e below (T0.setTop (mkF m 9 #[.val (.ref a1), .val (.int p2), .val (.int i2)] [])) t → Steps p.tables e below (T0.setTop (mkF m 9 #[.val (.ref a1), .val (.int p2), .val (.int i2)] [])) t := fun t kt => kt
  obtain ⟨T1, X1, e1, st1⟩ := getF X0 hx hZ hown (host := "") (Or.inl (hw _ (List.mem_of_getElem? (i := 46) rfl))) Via.refl e0 FL (g := (mkF m 11 #[.val (.ref a1), .val (.int p2), .val (.int i2)] [(.ref a1), (.int i2)])) rfl rfl (hb hby d16_11)
  have pre3 : ∀ t, Steps p.tables e below (T1.setTop (mkF m 14 #[.val (.ref a1), .val (.int p2), .val (.int i2)] [(.int lim), (.int i2)])) t → Steps p.tables e below (T0.setTop (mkF m 9 #[.val (.ref a1), .val (.int p2), .val (.int i2)] [])) t := fun t kt => pre0 t (by
    show Steps p.tables e below (T0.setTop (mkF m 9 #[.val (.ref a1), .val (.int p2), .val (.int i2)] [])) _
    refine XS.iloadN X0.here hx rfl (hb hby d16_9) rfl ?_
    show Steps p.tables e below (T0.setTop (mkF m 10 #[.val (.ref a1), .val (.int p2), .val (.int i2)] [(.int i2)])) _
    refine XS.aloadN X0.here hx rfl (hb hby d16_10) rfl rfl ?_
    show Steps p.tables e below (T0.setTop (mkF m 11 #[.val (.ref a1), .val (.int p2), .val (.int i2)] [(.ref a1), (.int i2)])) _
    refine st1 _ ?_
    show Steps p.tables e below (T1.setTop (mkF m 14 #[.val (.ref a1), .val (.int p2), .val (.int i2)] [(.int lim), (.int i2)])) _
    exact kt)
  by_cases hc14_2 : i2 < lim
  · obtain ⟨T4, X4, e4, st4⟩ := getF X1 hx hZ hown (host := "") (Or.inl (hw _ (List.mem_of_getElem? (i := 38) rfl))) Via.refl e1 FB (g := (mkF m 18 #[.val (.ref a1), .val (.int p2), .val (.int i2)] [(.ref a1)])) rfl rfl (hb hby d16_18)
    obtain ⟨cl5, Ar5, qq5, S5, NN5, HH5, GG5⟩ := id VB
    have hin5 : ¬ (i2 < 0 ∨ cl5.slots.size ≤ (i2).toNatClampNeg) := inb_of S5 ⟨hi0, (show i2 < (6 : Int32) from own_lt6 hc14_2 h6)⟩
    have hat5 : cl5.slots[(i2).toNatClampNeg]? = some (.int (own_at vl i2)) := Has.at HH5 hin5 (own_atv vl i2)
    have pre7 : ∀ t, Steps p.tables e below (T4.setTop (mkF m 25 #[.val (.ref a1), .val (.int p2), .val (.int i2)] [(.int (13 : Int32)), (.int (own_at vl i2))])) t → Steps p.tables e below (T0.setTop (mkF m 9 #[.val (.ref a1), .val (.int p2), .val (.int i2)] [])) t := fun t kt => pre3 t (by
      show Steps p.tables e below (T1.setTop (mkF m 14 #[.val (.ref a1), .val (.int p2), .val (.int i2)] [(.int lim), (.int i2)])) _
      refine XS.icmpNo X1.here hx rfl (hb hby d16_14) rfl (tlt hc14_2).2.1 ?_
      show Steps p.tables e below (T1.setTop (mkF m 17 #[.val (.ref a1), .val (.int p2), .val (.int i2)] [])) _
      refine XS.aloadN X1.here hx rfl (hb hby d16_17) rfl rfl ?_
      show Steps p.tables e below (T1.setTop (mkF m 18 #[.val (.ref a1), .val (.int p2), .val (.int i2)] [(.ref a1)])) _
      refine st4 _ ?_
      show Steps p.tables e below (T4.setTop (mkF m 21 #[.val (.ref a1), .val (.int p2), .val (.int i2)] [(.ref blk)])) _
      refine XS.iloadN X4.here hx rfl (hb hby d16_21) rfl ?_
      show Steps p.tables e below (T4.setTop (mkF m 22 #[.val (.ref a1), .val (.int p2), .val (.int i2)] [(.int i2), (.ref blk)])) _
      refine X4.baloadBytes hx (j := i2) (v := (.int (own_at vl i2))) (by rw [e4]; exact Ar5.1) (State.isArrayOf_alike hZ.alike Ar5.2.1) Ar5.2.2 hin5 hat5 (g := (mkF m 22 #[.val (.ref a1), .val (.int p2), .val (.int i2)] [(.int i2), (.ref blk)])) rfl rfl (hb hby d16_22) _ ?_
      show Steps p.tables e below (T4.setTop (mkF m 23 #[.val (.ref a1), .val (.int p2), .val (.int i2)] [(.int (own_at vl i2))])) _
      refine XS.bipush X4.here hx rfl (hb hby d16_23) ?_
      show Steps p.tables e below (T4.setTop (mkF m 25 #[.val (.ref a1), .val (.int p2), .val (.int i2)] [(.int (13 : Int32)), (.int (own_at vl i2))])) _
      exact kt)
    by_cases hc25_6 : (own_at vl i2) = (13 : Int32)
    · have pre8 : ∀ t, Steps p.tables e below (T4.setTop (mkF m 70 #[.val (.ref a1), .val (.int p2), .val (.int i2)] [])) t → Steps p.tables e below (T0.setTop (mkF m 9 #[.val (.ref a1), .val (.int p2), .val (.int i2)] [])) t := fun t kt => pre7 t (by
        show Steps p.tables e below (T4.setTop (mkF m 25 #[.val (.ref a1), .val (.int p2), .val (.int i2)] [(.int (13 : Int32)), (.int (own_at vl i2))])) _
        refine XS.icmpYes X4.here hx rfl (pc0 := 25) (pc' := 70) rfl (hb hby d16_25) rfl (teq hc25_6).1 (by decide) (by decide) ?_
        show Steps p.tables e below (T4.setTop (mkF m 70 #[.val (.ref a1), .val (.int p2), .val (.int i2)] [])) _
        exact kt)
      exact ⟨i2, T4, X4, e4, (by (try clear pre0); (try simp only [Int32.lt_iff_toInt_lt, ← Int32.toInt_inj, own_z0, own_z1, own_z6] at ⊢); omega), hi1, pre8⟩
    · obtain ⟨T9, X9, e9, st9⟩ := getF X4 hx hZ hown (host := "") (Or.inl (hw _ (List.mem_of_getElem? (i := 38) rfl))) Via.refl e4 FB (g := (mkF m 29 #[.val (.ref a1), .val (.int p2), .val (.int i2)] [(.ref a1)])) rfl rfl (hb hby d16_29)
      obtain ⟨cl10, Ar10, qq10, S10, NN10, HH10, GG10⟩ := id VB
      have hin10 : ¬ (i2 < 0 ∨ cl10.slots.size ≤ (i2).toNatClampNeg) := inb_of S10 ⟨hi0, (show i2 < (6 : Int32) from own_lt6 hc14_2 h6)⟩
      have hat10 : cl10.slots[(i2).toNatClampNeg]? = some (.int (own_at vl i2)) := Has.at HH10 hin10 (own_atv vl i2)
      have pre12 : ∀ t, Steps p.tables e below (T9.setTop (mkF m 36 #[.val (.ref a1), .val (.int p2), .val (.int i2)] [(.int (10 : Int32)), (.int (own_at vl i2))])) t → Steps p.tables e below (T0.setTop (mkF m 9 #[.val (.ref a1), .val (.int p2), .val (.int i2)] [])) t := fun t kt => pre7 t (by
        show Steps p.tables e below (T4.setTop (mkF m 25 #[.val (.ref a1), .val (.int p2), .val (.int i2)] [(.int (13 : Int32)), (.int (own_at vl i2))])) _
        refine XS.icmpNo X4.here hx rfl (hb hby d16_25) rfl (feq hc25_6).1 ?_
        show Steps p.tables e below (T4.setTop (mkF m 28 #[.val (.ref a1), .val (.int p2), .val (.int i2)] [])) _
        refine XS.aloadN X4.here hx rfl (hb hby d16_28) rfl rfl ?_
        show Steps p.tables e below (T4.setTop (mkF m 29 #[.val (.ref a1), .val (.int p2), .val (.int i2)] [(.ref a1)])) _
        refine st9 _ ?_
        show Steps p.tables e below (T9.setTop (mkF m 32 #[.val (.ref a1), .val (.int p2), .val (.int i2)] [(.ref blk)])) _
        refine XS.iloadN X9.here hx rfl (hb hby d16_32) rfl ?_
        show Steps p.tables e below (T9.setTop (mkF m 33 #[.val (.ref a1), .val (.int p2), .val (.int i2)] [(.int i2), (.ref blk)])) _
        refine X9.baloadBytes hx (j := i2) (v := (.int (own_at vl i2))) (by rw [e9]; exact Ar10.1) (State.isArrayOf_alike hZ.alike Ar10.2.1) Ar10.2.2 hin10 hat10 (g := (mkF m 33 #[.val (.ref a1), .val (.int p2), .val (.int i2)] [(.int i2), (.ref blk)])) rfl rfl (hb hby d16_33) _ ?_
        show Steps p.tables e below (T9.setTop (mkF m 34 #[.val (.ref a1), .val (.int p2), .val (.int i2)] [(.int (own_at vl i2))])) _
        refine XS.bipush X9.here hx rfl (hb hby d16_34) ?_
        show Steps p.tables e below (T9.setTop (mkF m 36 #[.val (.ref a1), .val (.int p2), .val (.int i2)] [(.int (10 : Int32)), (.int (own_at vl i2))])) _
        exact kt)
      by_cases hc36_11 : (own_at vl i2) = (10 : Int32)
      · have pre13 : ∀ t, Steps p.tables e below (T9.setTop (mkF m 70 #[.val (.ref a1), .val (.int p2), .val (.int i2)] [])) t → Steps p.tables e below (T0.setTop (mkF m 9 #[.val (.ref a1), .val (.int p2), .val (.int i2)] [])) t := fun t kt => pre12 t (by
          show Steps p.tables e below (T9.setTop (mkF m 36 #[.val (.ref a1), .val (.int p2), .val (.int i2)] [(.int (10 : Int32)), (.int (own_at vl i2))])) _
          refine XS.icmpYes X9.here hx rfl (pc0 := 36) (pc' := 70) rfl (hb hby d16_36) rfl (teq hc36_11).1 (by decide) (by decide) ?_
          show Steps p.tables e below (T9.setTop (mkF m 70 #[.val (.ref a1), .val (.int p2), .val (.int i2)] [])) _
          exact kt)
        exact ⟨i2, T9, X9, e9, (by (try clear pre0); (try simp only [Int32.lt_iff_toInt_lt, ← Int32.toInt_inj, own_z0, own_z1, own_z6] at ⊢); omega), hi1, pre13⟩
      · have pre14 : ∀ t, Steps p.tables e below (T9.setTop (mkF m 9 #[.val (.ref a1), .val (.int p2), .val (.int (i2 + (1 : Int32)))] [])) t → Steps p.tables e below (T0.setTop (mkF m 9 #[.val (.ref a1), .val (.int p2), .val (.int i2)] [])) t := fun t kt => pre12 t (by
          show Steps p.tables e below (T9.setTop (mkF m 36 #[.val (.ref a1), .val (.int p2), .val (.int i2)] [(.int (10 : Int32)), (.int (own_at vl i2))])) _
          refine XS.icmpNo X9.here hx rfl (hb hby d16_36) rfl (feq hc36_11).1 ?_
          show Steps p.tables e below (T9.setTop (mkF m 39 #[.val (.ref a1), .val (.int p2), .val (.int i2)] [])) _
          refine XS.iinc X9.here hx rfl (hb hby d16_39) rfl (l' := #[.val (.ref a1), .val (.int p2), .val (.int (i2 + (1 : Int32)))]) rfl ?_
          show Steps p.tables e below (T9.setTop (mkF m 42 #[.val (.ref a1), .val (.int p2), .val (.int (i2 + (1 : Int32)))] [])) _
          refine XS.goto X9.here hx rfl (pc0 := 42) (pc' := 9) rfl (hb hby d16_42) (by decide) (by decide) ?_
          show Steps p.tables e below (T9.setTop (mkF m 9 #[.val (.ref a1), .val (.int p2), .val (.int (i2 + (1 : Int32)))] [])) _
          exact kt)
        have hn := own_next hi0 hc14_2 h6
        have hl' := hc14_2; simp only [Int32.lt_iff_toInt_lt] at hl'
        obtain ⟨j, T', X', e', q1, q2, st'⟩ := ih (k - 1) (by omega) (i2 + (1 : Int32)) T9 X9 e9 hn.1 hn.2.1 (by rw [hn.2.2]; omega)
        refine ⟨j, T', X', e', ?_, q2, fun t kt => pre14 t (st' t kt)⟩
        have h3 := hn.2.2; simp only [Int32.lt_iff_toInt_lt] at q1 ⊢; omega
  · have pre15 : ∀ t, Steps p.tables e below (T1.setTop (mkF m 70 #[.val (.ref a1), .val (.int p2), .val (.int i2)] [])) t → Steps p.tables e below (T0.setTop (mkF m 9 #[.val (.ref a1), .val (.int p2), .val (.int i2)] [])) t := fun t kt => pre3 t (by
      show Steps p.tables e below (T1.setTop (mkF m 14 #[.val (.ref a1), .val (.int p2), .val (.int i2)] [(.int lim), (.int i2)])) _
      refine XS.icmpYes X1.here hx rfl (pc0 := 14) (pc' := 70) rfl (hb hby d16_14) rfl (flt hc14_2).2.1 (by decide) (by decide) ?_
      show Steps p.tables e below (T1.setTop (mkF m 70 #[.val (.ref a1), .val (.int p2), .val (.int i2)] [])) _
      exact kt)
    exact ⟨i2, T1, X1, e1, (by (try clear pre0); (try simp only [Int32.lt_iff_toInt_lt, ← Int32.toInt_inj, own_z0, own_z1, own_z6] at ⊢); omega), hi1, pre15⟩
theorem d16_45 : decode prog_132_method_16_code 45 = .ok (.iload_n 2, 1) := by decide +kernel
theorem d16_46 : decode prog_132_method_16_code 46 = .ok (.aload_n 0, 1) := by decide +kernel
theorem d16_47 : decode prog_132_method_16_code 47 = .ok (.getfield 58, 3) := by decide +kernel
theorem d16_50 : decode prog_132_method_16_code 50 = .ok (.if_icmp .ge 20, 3) := by decide +kernel
theorem d16_53 : decode prog_132_method_16_code 53 = .ok (.aload_n 0, 1) := by decide +kernel
theorem d16_54 : decode prog_132_method_16_code 54 = .ok (.getfield 34, 3) := by decide +kernel
theorem d16_57 : decode prog_132_method_16_code 57 = .ok (.iload_n 2, 1) := by decide +kernel
theorem d16_58 : decode prog_132_method_16_code 58 = .ok (.baload, 1) := by decide +kernel
theorem d16_59 : decode prog_132_method_16_code 59 = .ok (.bipush 10, 2) := by decide +kernel
theorem d16_61 : decode prog_132_method_16_code 61 = .ok (.if_icmp .eq 9, 3) := by decide +kernel
theorem d16_64 : decode prog_132_method_16_code 64 = .ok (.iinc 2 1, 3) := by decide +kernel
theorem d16_67 : decode prog_132_method_16_code 67 = .ok (.goto (-22), 3) := by decide +kernel
set_option maxRecDepth 65536 in
set_option maxHeartbeats 40000000 in
theorem lp45 {p : Program} {l : Launch} {e : Env} {R : Room} {s : State} {m : MethodId} {args : Array Value} {below : List Frame} {meth : Method} {c : Code} {locs : List Loc} {cells slots : Nat} {Z : State} {a0 : Array Value} {h0 : Heap} (a1 : Addr) (p2 lim : Int32) (blk : Addr) (kb : ClassId) (vl : List Int32)
    (hx : p.tables.exec = Jvm.exec) (hZ : Z.Warmed39 s.vm) (hw : ∀ d ∈ tables_1, d.before a0 Z = true) (hby : c.code = prog_132_method_16_code) (hown : s.vm.findClass "querent/hl7/LineReader" = some m.cls)
    (FL : Fld Z h0 a1 "querent/hl7/LineReader" "limit" "I" (.int lim)) (FB : Fld Z h0 a1 "querent/hl7/LineReader" "block" "[B" (.ref blk)) (VB : Arv Z h0 blk kb .byte (6 : Int32) (vl.map Value.int) (.int (0 : Int32))) (h6 : ¬ ((6 : Int32) < lim)) :
    ∀ (k : Nat) (i2 : Int32) (T0 : State), Stand p l e R s m args below meth c T0 locs cells slots → T0.heap = h0 → ¬ (i2 < (0 : Int32)) → ¬ (lim < i2) → lim.toInt - i2.toInt = k →
      ∃ (j : Int32) (T' : State), Stand p l e R s m args below meth c T' locs cells slots ∧ T'.heap = h0 ∧ ¬ (j < i2) ∧ ¬ (lim < j) ∧
        ∀ target, Steps p.tables e below (T'.setTop (mkF m 70 #[.val (.ref a1), .val (.int p2), .val (.int j)] [])) target → Steps p.tables e below (T0.setTop (mkF m 45 #[.val (.ref a1), .val (.int p2), .val (.int i2)] [])) target := by
  intro k
  induction k using Nat.strongRecOn with | ind k ih => ?_
  intro i2 T0 X0 e0 hi0 hi1 hk
  have pre0 : ∀ t, Steps p.tables e below (T0.setTop (mkF m 45 #[.val (.ref a1), .val (.int p2), .val (.int i2)] [])) t → Steps p.tables e below (T0.setTop (mkF m 45 #[.val (.ref a1), .val (.int p2), .val (.int i2)] [])) t := fun t kt => kt
  obtain ⟨T1, X1, e1, st1⟩ := getF X0 hx hZ hown (host := "") (Or.inl (hw _ (List.mem_of_getElem? (i := 46) rfl))) Via.refl e0 FL (g := (mkF m 47 #[.val (.ref a1), .val (.int p2), .val (.int i2)] [(.ref a1), (.int i2)])) rfl rfl (hb hby d16_47)
  have pre3 : ∀ t, Steps p.tables e below (T1.setTop (mkF m 50 #[.val (.ref a1), .val (.int p2), .val (.int i2)] [(.int lim), (.int i2)])) t → Steps p.tables e below (T0.setTop (mkF m 45 #[.val (.ref a1), .val (.int p2), .val (.int i2)] [])) t := fun t kt => pre0 t (by
    show Steps p.tables e below (T0.setTop (mkF m 45 #[.val (.ref a1), .val (.int p2), .val (.int i2)] [])) _
    refine XS.iloadN X0.here hx rfl (hb hby d16_45) rfl ?_
    show Steps p.tables e below (T0.setTop (mkF m 46 #[.val (.ref a1), .val (.int p2), .val (.int i2)] [(.int i2)])) _
    refine XS.aloadN X0.here hx rfl (hb hby d16_46) rfl rfl ?_
    show Steps p.tables e below (T0.setTop (mkF m 47 #[.val (.ref a1), .val (.int p2), .val (.int i2)] [(.ref a1), (.int i2)])) _
    refine st1 _ ?_
    show Steps p.tables e below (T1.setTop (mkF m 50 #[.val (.ref a1), .val (.int p2), .val (.int i2)] [(.int lim), (.int i2)])) _
    exact kt)
  by_cases hc50_2 : i2 < lim
  · obtain ⟨T4, X4, e4, st4⟩ := getF X1 hx hZ hown (host := "") (Or.inl (hw _ (List.mem_of_getElem? (i := 38) rfl))) Via.refl e1 FB (g := (mkF m 54 #[.val (.ref a1), .val (.int p2), .val (.int i2)] [(.ref a1)])) rfl rfl (hb hby d16_54)
    obtain ⟨cl5, Ar5, qq5, S5, NN5, HH5, GG5⟩ := id VB
    have hin5 : ¬ (i2 < 0 ∨ cl5.slots.size ≤ (i2).toNatClampNeg) := inb_of S5 ⟨hi0, (show i2 < (6 : Int32) from own_lt6 hc50_2 h6)⟩
    have hat5 : cl5.slots[(i2).toNatClampNeg]? = some (.int (own_at vl i2)) := Has.at HH5 hin5 (own_atv vl i2)
    have pre7 : ∀ t, Steps p.tables e below (T4.setTop (mkF m 61 #[.val (.ref a1), .val (.int p2), .val (.int i2)] [(.int (10 : Int32)), (.int (own_at vl i2))])) t → Steps p.tables e below (T0.setTop (mkF m 45 #[.val (.ref a1), .val (.int p2), .val (.int i2)] [])) t := fun t kt => pre3 t (by
      show Steps p.tables e below (T1.setTop (mkF m 50 #[.val (.ref a1), .val (.int p2), .val (.int i2)] [(.int lim), (.int i2)])) _
      refine XS.icmpNo X1.here hx rfl (hb hby d16_50) rfl (tlt hc50_2).2.1 ?_
      show Steps p.tables e below (T1.setTop (mkF m 53 #[.val (.ref a1), .val (.int p2), .val (.int i2)] [])) _
      refine XS.aloadN X1.here hx rfl (hb hby d16_53) rfl rfl ?_
      show Steps p.tables e below (T1.setTop (mkF m 54 #[.val (.ref a1), .val (.int p2), .val (.int i2)] [(.ref a1)])) _
      refine st4 _ ?_
      show Steps p.tables e below (T4.setTop (mkF m 57 #[.val (.ref a1), .val (.int p2), .val (.int i2)] [(.ref blk)])) _
      refine XS.iloadN X4.here hx rfl (hb hby d16_57) rfl ?_
      show Steps p.tables e below (T4.setTop (mkF m 58 #[.val (.ref a1), .val (.int p2), .val (.int i2)] [(.int i2), (.ref blk)])) _
      refine X4.baloadBytes hx (j := i2) (v := (.int (own_at vl i2))) (by rw [e4]; exact Ar5.1) (State.isArrayOf_alike hZ.alike Ar5.2.1) Ar5.2.2 hin5 hat5 (g := (mkF m 58 #[.val (.ref a1), .val (.int p2), .val (.int i2)] [(.int i2), (.ref blk)])) rfl rfl (hb hby d16_58) _ ?_
      show Steps p.tables e below (T4.setTop (mkF m 59 #[.val (.ref a1), .val (.int p2), .val (.int i2)] [(.int (own_at vl i2))])) _
      refine XS.bipush X4.here hx rfl (hb hby d16_59) ?_
      show Steps p.tables e below (T4.setTop (mkF m 61 #[.val (.ref a1), .val (.int p2), .val (.int i2)] [(.int (10 : Int32)), (.int (own_at vl i2))])) _
      exact kt)
    by_cases hc61_6 : (own_at vl i2) = (10 : Int32)
    · have pre8 : ∀ t, Steps p.tables e below (T4.setTop (mkF m 70 #[.val (.ref a1), .val (.int p2), .val (.int i2)] [])) t → Steps p.tables e below (T0.setTop (mkF m 45 #[.val (.ref a1), .val (.int p2), .val (.int i2)] [])) t := fun t kt => pre7 t (by
        show Steps p.tables e below (T4.setTop (mkF m 61 #[.val (.ref a1), .val (.int p2), .val (.int i2)] [(.int (10 : Int32)), (.int (own_at vl i2))])) _
        refine XS.icmpYes X4.here hx rfl (pc0 := 61) (pc' := 70) rfl (hb hby d16_61) rfl (teq hc61_6).1 (by decide) (by decide) ?_
        show Steps p.tables e below (T4.setTop (mkF m 70 #[.val (.ref a1), .val (.int p2), .val (.int i2)] [])) _
        exact kt)
      exact ⟨i2, T4, X4, e4, (by (try clear pre0); (try simp only [Int32.lt_iff_toInt_lt, ← Int32.toInt_inj, own_z0, own_z1, own_z6] at ⊢); omega), hi1, pre8⟩
    · have pre9 : ∀ t, Steps p.tables e below (T4.setTop (mkF m 45 #[.val (.ref a1), .val (.int p2), .val (.int (i2 + (1 : Int32)))] [])) t → Steps p.tables e below (T0.setTop (mkF m 45 #[.val (.ref a1), .val (.int p2), .val (.int i2)] [])) t := fun t kt => pre7 t (by
        show Steps p.tables e below (T4.setTop (mkF m 61 #[.val (.ref a1), .val (.int p2), .val (.int i2)] [(.int (10 : Int32)), (.int (own_at vl i2))])) _
        refine XS.icmpNo X4.here hx rfl (hb hby d16_61) rfl (feq hc61_6).1 ?_
        show Steps p.tables e below (T4.setTop (mkF m 64 #[.val (.ref a1), .val (.int p2), .val (.int i2)] [])) _
        refine XS.iinc X4.here hx rfl (hb hby d16_64) rfl (l' := #[.val (.ref a1), .val (.int p2), .val (.int (i2 + (1 : Int32)))]) rfl ?_
        show Steps p.tables e below (T4.setTop (mkF m 67 #[.val (.ref a1), .val (.int p2), .val (.int (i2 + (1 : Int32)))] [])) _
        refine XS.goto X4.here hx rfl (pc0 := 67) (pc' := 45) rfl (hb hby d16_67) (by decide) (by decide) ?_
        show Steps p.tables e below (T4.setTop (mkF m 45 #[.val (.ref a1), .val (.int p2), .val (.int (i2 + (1 : Int32)))] [])) _
        exact kt)
      have hn := own_next hi0 hc50_2 h6
      have hl' := hc50_2; simp only [Int32.lt_iff_toInt_lt] at hl'
      obtain ⟨j, T', X', e', q1, q2, st'⟩ := ih (k - 1) (by omega) (i2 + (1 : Int32)) T4 X4 e4 hn.1 hn.2.1 (by rw [hn.2.2]; omega)
      refine ⟨j, T', X', e', ?_, q2, fun t kt => pre9 t (st' t kt)⟩
      have h3 := hn.2.2; simp only [Int32.lt_iff_toInt_lt] at q1 ⊢; omega
  · have pre10 : ∀ t, Steps p.tables e below (T1.setTop (mkF m 70 #[.val (.ref a1), .val (.int p2), .val (.int i2)] [])) t → Steps p.tables e below (T0.setTop (mkF m 45 #[.val (.ref a1), .val (.int p2), .val (.int i2)] [])) t := fun t kt => pre3 t (by
      show Steps p.tables e below (T1.setTop (mkF m 50 #[.val (.ref a1), .val (.int p2), .val (.int i2)] [(.int lim), (.int i2)])) _
      refine XS.icmpYes X1.here hx rfl (pc0 := 50) (pc' := 70) rfl (hb hby d16_50) rfl (flt hc50_2).2.1 (by decide) (by decide) ?_
      show Steps p.tables e below (T1.setTop (mkF m 70 #[.val (.ref a1), .val (.int p2), .val (.int i2)] [])) _
      exact kt)
    exact ⟨i2, T1, X1, e1, (by (try clear pre0); (try simp only [Int32.lt_iff_toInt_lt, ← Int32.toInt_inj, own_z0, own_z1, own_z6] at ⊢); omega), hi1, pre10⟩
theorem d16_0 : decode prog_132_method_16_code 0 = .ok (.iload_n 1, 1) := by decide +kernel
theorem d16_1 : decode prog_132_method_16_code 1 = .ok (.istore_n 2, 1) := by decide +kernel
theorem d16_2 : decode prog_132_method_16_code 2 = .ok (.aload_n 0, 1) := by decide +kernel
theorem d16_3 : decode prog_132_method_16_code 3 = .ok (.getfield 44, 3) := by decide +kernel
theorem d16_6 : decode prog_132_method_16_code 6 = .ok (.ifCond .eq 39, 3) := by decide +kernel
theorem d16_70 : decode prog_132_method_16_code 70 = .ok (.iload_n 2, 1) := by decide +kernel
theorem d16_71 : decode prog_132_method_16_code 71 = .ok (.ireturn, 1) := by decide +kernel
theorem ef_16 (m : MethodId) (a1 : Addr) (p2 : Int32) : entryFrame m #[(.ref a1), (.int p2)] 3 = mkF m 0 #[.val (.ref a1), .val (.int p2), .unset] [] := by first | (simp [entryFrame, mkF, argsToLocals, Value.category]; done) | rfl
def Q16 (Z : State) (a1 : Addr) (p2 : Int32) (w_carriageReturnEnds_a1 : Int32) (w_limit_a1 : Int32) (w_block_a1 : Addr) (k_w_block_a1 : ClassId) (vl_w_block_a1 : List Int32) (h0 : Heap) (n0 : Nat) (v : Option Value) (h : Heap) (L : List Loc) : Prop := ∃ xj : Int32, v = some (.int xj) ∧ Fr n0 L ∧ h = h0 ∧ (¬ (xj < p2)) ∧ (¬ (w_limit_a1 < xj))
set_option maxRecDepth 65536 in
set_option maxHeartbeats 40000000 in
theorem rm16 (l : Launch) (Z : State) (a0 : Array Value) (hw : ∀ d ∈ tables_1, d.before a0 Z = true) (ws : List Jvm.Cond) (a1 : Addr) (p2 : Int32) (w_carriageReturnEnds_a1 : Int32) (w_limit_a1 : Int32) (w_block_a1 : Addr) (k_w_block_a1 : ClassId) (vl_w_block_a1 : List Int32) (h0 : Heap) (n0 : Nat) (Z0 : n0 ≤ h0.size) (F_carriageReturnEnds_a1 : Fld Z h0 a1 "querent/hl7/LineReader" "carriageReturnEnds" "Z" (.int w_carriageReturnEnds_a1)) (F_limit_a1 : Fld Z h0 a1 "querent/hl7/LineReader" "limit" "I" (.int w_limit_a1)) (F_block_a1 : Fld Z h0 a1 "querent/hl7/LineReader" "block" "[B" (.ref w_block_a1)) (V_w_block_a1 : Arv Z h0 w_block_a1 k_w_block_a1 .byte (6 : Int32) (vl_w_block_a1.map Value.int) (.int (0 : Int32))) (hq45_4 : ¬ (p2 < (0 : Int32))) (hq45_5 : ¬ (w_limit_a1 < p2)) (hq45_6 : ¬ ((6 : Int32) < w_limit_a1)) :
    MetFree l (⟨"querent/hl7/LineReader", "lineEnd", "(I)I"⟩ : MethodName) (head1 (Jvm.Cond.code (⟨"querent/hl7/LineReader", "lineEnd", "(I)I"⟩ : MethodName) prog_132_method_16_code 3 (some .int) :: ws) ({ frames := 0, cells := 0, slots := 0, locals := 0 } : Room)) (fun a U => a = #[(.ref a1), (.int p2)] ∧ Z.Warmed39 U.vm ∧ U.heap = h0) (fun _ _ _ _ _ => True) (fun _ U o U' => ∃ v L, o = .returned v ∧ Q16 Z a1 p2 w_carriageReturnEnds_a1 w_limit_a1 w_block_a1 k_w_block_a1 vl_w_block_a1 h0 n0 v U'.heap L ∧ FrameEnd U o U' L ({ frames := 0, cells := 0, slots := 0, locals := 0 } : Room).cells ({ frames := 0, cells := 0, slots := 0, locals := 0 } : Room).slots) := by
  refine MetFree.of_bodySF (plainFor_of_name pn_3) hisR ?_
  intro p e s m args below meth c s₁ Bd hml0 hP hK
  obtain ⟨rfl, hZ, hh⟩ := hP
  have hx := Bd.exec
  have hby := Bd.bytes
  have hml : c.maxLocals = 3 := hml0
  have hown : s.vm.findClass "querent/hl7/LineReader" = some m.cls := findClass_of_methodNamed Bd.named
  have hnm := (name_of_methodNamed Bd.named Bd.method).1
  have X0 : Stand p l e ({ frames := 0, cells := 0, slots := 0, locals := 0 } : Room) s m #[(.ref a1), (.int p2)] below meth c s₁ [] 0 0 := Stand.of_body Bd
  have e0 : s₁.heap = h0 := by rw [← hh, Bd.state]; rfl
  have N0 := Fr.nil n0
  have pre0 : ∀ t, Steps p.tables e below (s₁.setTop (mkF m 0 #[.val (.ref a1), .val (.int p2), .unset] [])) t → Steps p.tables e below (s₁.setTop (entryFrame m #[(.ref a1), (.int p2)] 3)) t := fun t k => castTop (ef_16 m a1 p2) k
  obtain ⟨T3, X3, e3, st3⟩ := getF X0 hx hZ hown (host := "") (Or.inl (hw _ (List.mem_of_getElem? (i := 42) rfl))) Via.refl e0 F_carriageReturnEnds_a1 (g := (mkF m 3 #[.val (.ref a1), .val (.int p2), .val (.int p2)] [(.ref a1)])) rfl rfl (hb hby d16_3)
  have pre5 : ∀ t, Steps p.tables e below (T3.setTop (mkF m 6 #[.val (.ref a1), .val (.int p2), .val (.int p2)] [(.int w_carriageReturnEnds_a1)])) t → Steps p.tables e below (s₁.setTop (entryFrame m #[(.ref a1), (.int p2)] 3)) t := fun t kt => pre0 t (by
    show Steps p.tables e below (s₁.setTop (mkF m 0 #[.val (.ref a1), .val (.int p2), .unset] [])) _
    refine XS.iloadN X0.here hx rfl (hb hby d16_0) rfl ?_
    show Steps p.tables e below (s₁.setTop (mkF m 1 #[.val (.ref a1), .val (.int p2), .unset] [(.int p2)])) _
    refine XS.istoreN X0.here hx rfl (hb hby d16_1) rfl (l' := #[.val (.ref a1), .val (.int p2), .val (.int p2)]) rfl ?_
    show Steps p.tables e below (s₁.setTop (mkF m 2 #[.val (.ref a1), .val (.int p2), .val (.int p2)] [])) _
    refine XS.aloadN X0.here hx rfl (hb hby d16_2) rfl rfl ?_
    show Steps p.tables e below (s₁.setTop (mkF m 3 #[.val (.ref a1), .val (.int p2), .val (.int p2)] [(.ref a1)])) _
    refine st3 _ ?_
    show Steps p.tables e below (T3.setTop (mkF m 6 #[.val (.ref a1), .val (.int p2), .val (.int p2)] [(.int w_carriageReturnEnds_a1)])) _
    exact kt)
  by_cases hc6_4 : w_carriageReturnEnds_a1 = (0 : Int32)
  · have pre7 : ∀ t, Steps p.tables e below (T3.setTop (mkF m 45 #[.val (.ref a1), .val (.int p2), .val (.int p2)] [])) t → Steps p.tables e below (s₁.setTop (entryFrame m #[(.ref a1), (.int p2)] 3)) t := fun t kt => pre5 t (by
      show Steps p.tables e below (T3.setTop (mkF m 6 #[.val (.ref a1), .val (.int p2), .val (.int p2)] [(.int w_carriageReturnEnds_a1)])) _
      refine XS.ifYes X3.here hx rfl (pc0 := 6) (pc' := 45) rfl (hb hby d16_6) rfl ((if0 _ _).trans (teq hc6_4).1) (by decide) (by decide) ?_
      show Steps p.tables e below (T3.setTop (mkF m 45 #[.val (.ref a1), .val (.int p2), .val (.int p2)] [])) _
      exact kt)
    have hk6 : ∃ k : Nat, w_limit_a1.toInt - p2.toInt = k := ⟨(w_limit_a1.toInt - p2.toInt).toNat, by have hh := hq45_5; simp only [Int32.lt_iff_toInt_lt] at hh; omega⟩
    obtain ⟨kk6, hk6⟩ := hk6
    obtain ⟨j6, T6, X6, e6, q6a, q6b, st6⟩ := lp45 a1 p2 w_limit_a1 w_block_a1 k_w_block_a1 vl_w_block_a1 hx hZ hw hby hown F_limit_a1 F_block_a1 V_w_block_a1 hq45_6 kk6 p2 T3 X3 e3 hq45_4 hq45_5 hk6
    have pre8 : ∀ t, Steps p.tables e below (T6.setTop (mkF m 70 #[.val (.ref a1), .val (.int p2), .val (.int j6)] [])) t → Steps p.tables e below (s₁.setTop (entryFrame m #[(.ref a1), (.int p2)] 3)) t := fun t kt => pre7 t (st6 t kt)
    obtain ⟨fs, hr, hrun, hended, hW, hsame⟩ := X6.leave (v := some (.int j6)) (fun h => by rw [Bd.returns] at h; cases h)
    refine ⟨_, _, pre8 _ ?_, hrun, hended, _, _, rfl, ?_, ⟨_, rfl⟩, hW, hsame.mono (by decide) (by decide)⟩
    · show Steps p.tables e below (T6.setTop (mkF m 70 #[.val (.ref a1), .val (.int p2), .val (.int j6)] [])) _
      refine XS.iloadN X6.here hx rfl (hb hby d16_70) rfl ?_
      show Steps p.tables e below (T6.setTop (mkF m 71 #[.val (.ref a1), .val (.int p2), .val (.int j6)] [(.int j6)])) _
      exact retI X6 hx Bd.returns (hb hby d16_71) hr
    · show Q16 Z a1 p2 w_carriageReturnEnds_a1 w_limit_a1 w_block_a1 k_w_block_a1 vl_w_block_a1 h0 n0 _ T6.heap _
      rw [e6]
      exact ⟨j6, rfl, N0, rfl, (q6a), (q6b)⟩
  · have pre10 : ∀ t, Steps p.tables e below (T3.setTop (mkF m 9 #[.val (.ref a1), .val (.int p2), .val (.int p2)] [])) t → Steps p.tables e below (s₁.setTop (entryFrame m #[(.ref a1), (.int p2)] 3)) t := fun t kt => pre5 t (by
      show Steps p.tables e below (T3.setTop (mkF m 6 #[.val (.ref a1), .val (.int p2), .val (.int p2)] [(.int w_carriageReturnEnds_a1)])) _
      refine XS.ifNo X3.here hx rfl (hb hby d16_6) rfl ((if0 _ _).trans (feq hc6_4).1) ?_
      show Steps p.tables e below (T3.setTop (mkF m 9 #[.val (.ref a1), .val (.int p2), .val (.int p2)] [])) _
      exact kt)
    have hk9 : ∃ k : Nat, w_limit_a1.toInt - p2.toInt = k := ⟨(w_limit_a1.toInt - p2.toInt).toNat, by have hh := hq45_5; simp only [Int32.lt_iff_toInt_lt] at hh; omega⟩
    obtain ⟨kk9, hk9⟩ := hk9
    obtain ⟨j9, T9, X9, e9, q9a, q9b, st9⟩ := lp9 a1 p2 w_limit_a1 w_block_a1 k_w_block_a1 vl_w_block_a1 hx hZ hw hby hown F_limit_a1 F_block_a1 V_w_block_a1 hq45_6 kk9 p2 T3 X3 e3 hq45_4 hq45_5 hk9
    have pre11 : ∀ t, Steps p.tables e below (T9.setTop (mkF m 70 #[.val (.ref a1), .val (.int p2), .val (.int j9)] [])) t → Steps p.tables e below (s₁.setTop (entryFrame m #[(.ref a1), (.int p2)] 3)) t := fun t kt => pre10 t (st9 t kt)
    obtain ⟨fs, hr, hrun, hended, hW, hsame⟩ := X9.leave (v := some (.int j9)) (fun h => by rw [Bd.returns] at h; cases h)
    refine ⟨_, _, pre11 _ ?_, hrun, hended, _, _, rfl, ?_, ⟨_, rfl⟩, hW, hsame.mono (by decide) (by decide)⟩
    · show Steps p.tables e below (T9.setTop (mkF m 70 #[.val (.ref a1), .val (.int p2), .val (.int j9)] [])) _
      refine XS.iloadN X9.here hx rfl (hb hby d16_70) rfl ?_
      show Steps p.tables e below (T9.setTop (mkF m 71 #[.val (.ref a1), .val (.int p2), .val (.int j9)] [(.int j9)])) _
      exact retI X9 hx Bd.returns (hb hby d16_71) hr
    · show Q16 Z a1 p2 w_carriageReturnEnds_a1 w_limit_a1 w_block_a1 k_w_block_a1 vl_w_block_a1 h0 n0 _ T9.heap _
      rw [e9]
      exact ⟨j9, rfl, N0, rfl, (q9a), (q9b)⟩
theorem d17_0 : decode prog_132_method_17_code 0 = .ok (.aload_n 0, 1) := by decide +kernel
theorem d17_1 : decode prog_132_method_17_code 1 = .ok (.iload_n 1, 1) := by decide +kernel
theorem d17_2 : decode prog_132_method_17_code 2 = .ok (.putfield 65, 3) := by decide +kernel
theorem d17_5 : decode prog_132_method_17_code 5 = .ok (.aload_n 0, 1) := by decide +kernel
theorem d17_6 : decode prog_132_method_17_code 6 = .ok (.iload_n 1, 1) := by decide +kernel
theorem d17_7 : decode prog_132_method_17_code 7 = .ok (.iconst 1, 1) := by decide +kernel
theorem d17_8 : decode prog_132_method_17_code 8 = .ok (.iadd, 1) := by decide +kernel
theorem d17_9 : decode prog_132_method_17_code 9 = .ok (.putfield 68, 3) := by decide +kernel
theorem d17_12 : decode prog_132_method_17_code 12 = .ok (.aload_n 0, 1) := by decide +kernel
theorem d17_13 : decode prog_132_method_17_code 13 = .ok (.iconst 1, 1) := by decide +kernel
theorem d17_14 : decode prog_132_method_17_code 14 = .ok (.putfield 101, 3) := by decide +kernel
theorem d17_17 : decode prog_132_method_17_code 17 = .ok (.aload_n 0, 1) := by decide +kernel
theorem d17_18 : decode prog_132_method_17_code 18 = .ok (.aload_n 0, 1) := by decide +kernel
theorem d17_19 : decode prog_132_method_17_code 19 = .ok (.getfield 34, 3) := by decide +kernel
theorem d17_22 : decode prog_132_method_17_code 22 = .ok (.iload_n 1, 1) := by decide +kernel
theorem d17_23 : decode prog_132_method_17_code 23 = .ok (.baload, 1) := by decide +kernel
theorem d17_24 : decode prog_132_method_17_code 24 = .ok (.bipush 13, 2) := by decide +kernel
theorem d17_26 : decode prog_132_method_17_code 26 = .ok (.if_icmp .ne 7, 3) := by decide +kernel
theorem d17_29 : decode prog_132_method_17_code 29 = .ok (.iconst 1, 1) := by decide +kernel
theorem d17_30 : decode prog_132_method_17_code 30 = .ok (.goto 4, 3) := by decide +kernel
theorem d17_33 : decode prog_132_method_17_code 33 = .ok (.iconst 0, 1) := by decide +kernel
theorem d17_34 : decode prog_132_method_17_code 34 = .ok (.putfield 115, 3) := by decide +kernel
theorem d17_37 : decode prog_132_method_17_code 37 = .ok (.return_, 1) := by decide +kernel
theorem ef_17 (m : MethodId) (a1 : Addr) (p2 : Int32) : entryFrame m #[(.ref a1), (.int p2)] 2 = mkF m 0 #[.val (.ref a1), .val (.int p2)] [] := by first | (simp [entryFrame, mkF, argsToLocals, Value.category]; done) | rfl
def F17_afterCarriageReturn_a1 (p2 : Int32) (vl_w_block_a1 : List Int32) : Int32 := (if (own_at vl_w_block_a1 p2) = (13 : Int32) then (1 : Int32) else (0 : Int32))
def Q17 (Z : State) (a1 : Addr) (p2 : Int32) (w_block_a1 : Addr) (w_carriageReturnEnds_a1 : Int32) (w_base_a1 : Int64) (w_limit_a1 : Int32) (w_start_a1 : Int32) (w_end_a1 : Int32) (w_next_a1 : Int32) (w_keeping_a1 : Int32) (w_kept_a1 : Int32) (w_ended_a1 : Int32) (w_afterCarriageReturn_a1 : Int32) (w_number_a1 : Int32) (k_w_block_a1 : ClassId) (vl_w_block_a1 : List Int32) (h0 : Heap) (n0 : Nat) (v : Option Value) (h : Heap) (L : List Loc) : Prop := v = none ∧ Fr n0 L ∧ Keep h0 h [a1] ∧ Exa Z h a1 "querent/hl7/LineReader" ∧ Fld Z h a1 "querent/hl7/LineReader" "in" "Ljava/io/InputStream;" .null ∧ Fld Z h a1 "querent/hl7/LineReader" "block" "[B" (.ref w_block_a1) ∧ Fld Z h a1 "querent/hl7/LineReader" "carriageReturnEnds" "Z" (.int w_carriageReturnEnds_a1) ∧ Fld Z h a1 "querent/hl7/LineReader" "base" "J" (.long w_base_a1) ∧ Fld Z h a1 "querent/hl7/LineReader" "limit" "I" (.int w_limit_a1) ∧ Fld Z h a1 "querent/hl7/LineReader" "start" "I" (.int w_start_a1) ∧ Fld Z h a1 "querent/hl7/LineReader" "end" "I" (.int p2) ∧ Fld Z h a1 "querent/hl7/LineReader" "next" "I" (.int (p2 + (1 : Int32))) ∧ Fld Z h a1 "querent/hl7/LineReader" "keeping" "Z" (.int w_keeping_a1) ∧ Fld Z h a1 "querent/hl7/LineReader" "kept" "I" (.int w_kept_a1) ∧ Fld Z h a1 "querent/hl7/LineReader" "ended" "Z" (.int (1 : Int32)) ∧ Fld Z h a1 "querent/hl7/LineReader" "afterCarriageReturn" "Z" (.int (F17_afterCarriageReturn_a1 p2 vl_w_block_a1)) ∧ Fld Z h a1 "querent/hl7/LineReader" "number" "I" (.int w_number_a1)
set_option maxRecDepth 65536 in
set_option maxHeartbeats 40000000 in
theorem rm17 (l : Launch) (Z : State) (a0 : Array Value) (hw : ∀ d ∈ tables_1, d.before a0 Z = true) (ws : List Jvm.Cond) (a1 : Addr) (p2 : Int32) (w_block_a1 : Addr) (w_carriageReturnEnds_a1 : Int32) (w_base_a1 : Int64) (w_limit_a1 : Int32) (w_start_a1 : Int32) (w_end_a1 : Int32) (w_next_a1 : Int32) (w_keeping_a1 : Int32) (w_kept_a1 : Int32) (w_ended_a1 : Int32) (w_afterCarriageReturn_a1 : Int32) (w_number_a1 : Int32) (k_w_block_a1 : ClassId) (vl_w_block_a1 : List Int32) (h0 : Heap) (n0 : Nat) (Z0 : n0 ≤ h0.size) (E_a1 : Exa Z h0 a1 "querent/hl7/LineReader") (F_in_a1 : Fld Z h0 a1 "querent/hl7/LineReader" "in" "Ljava/io/InputStream;" .null) (F_block_a1 : Fld Z h0 a1 "querent/hl7/LineReader" "block" "[B" (.ref w_block_a1)) (F_carriageReturnEnds_a1 : Fld Z h0 a1 "querent/hl7/LineReader" "carriageReturnEnds" "Z" (.int w_carriageReturnEnds_a1)) (F_base_a1 : Fld Z h0 a1 "querent/hl7/LineReader" "base" "J" (.long w_base_a1)) (F_limit_a1 : Fld Z h0 a1 "querent/hl7/LineReader" "limit" "I" (.int w_limit_a1)) (F_start_a1 : Fld Z h0 a1 "querent/hl7/LineReader" "start" "I" (.int w_start_a1)) (F_end_a1 : Fld Z h0 a1 "querent/hl7/LineReader" "end" "I" (.int w_end_a1)) (F_next_a1 : Fld Z h0 a1 "querent/hl7/LineReader" "next" "I" (.int w_next_a1)) (F_keeping_a1 : Fld Z h0 a1 "querent/hl7/LineReader" "keeping" "Z" (.int w_keeping_a1)) (F_kept_a1 : Fld Z h0 a1 "querent/hl7/LineReader" "kept" "I" (.int w_kept_a1)) (F_ended_a1 : Fld Z h0 a1 "querent/hl7/LineReader" "ended" "Z" (.int w_ended_a1)) (F_afterCarriageReturn_a1 : Fld Z h0 a1 "querent/hl7/LineReader" "afterCarriageReturn" "Z" (.int w_afterCarriageReturn_a1)) (F_number_a1 : Fld Z h0 a1 "querent/hl7/LineReader" "number" "I" (.int w_number_a1)) (V_w_block_a1 : Arv Z h0 w_block_a1 k_w_block_a1 .byte (6 : Int32) (vl_w_block_a1.map Value.int) (.int (0 : Int32))) (g_a1 : n0 ≤ a1) (ne_w_block_a1_a1 : w_block_a1 ≠ a1) (hq23_17 : ¬ (p2 < (0 : Int32))) (hq23_18 : p2 < (6 : Int32)) :
    MetFree l (⟨"querent/hl7/LineReader", "endLine", "(I)V"⟩ : MethodName) (head1 (Jvm.Cond.code (⟨"querent/hl7/LineReader", "endLine", "(I)V"⟩ : MethodName) prog_132_method_17_code 2 none :: ws) ({ frames := 0, cells := 0, slots := 0, locals := 0 } : Room)) (fun a U => a = #[(.ref a1), (.int p2)] ∧ Z.Warmed39 U.vm ∧ U.heap = h0) (fun _ _ _ _ _ => True) (fun _ U o U' => ∃ v L, o = .returned v ∧ Q17 Z a1 p2 w_block_a1 w_carriageReturnEnds_a1 w_base_a1 w_limit_a1 w_start_a1 w_end_a1 w_next_a1 w_keeping_a1 w_kept_a1 w_ended_a1 w_afterCarriageReturn_a1 w_number_a1 k_w_block_a1 vl_w_block_a1 h0 n0 v U'.heap L ∧ FrameEnd U o U' L ({ frames := 0, cells := 0, slots := 0, locals := 0 } : Room).cells ({ frames := 0, cells := 0, slots := 0, locals := 0 } : Room).slots) := by
  refine MetFree.of_bodySF (plainFor_of_name pn_3) hisR ?_
  intro p e s m args below meth c s₁ Bd hml0 hP hK
  obtain ⟨rfl, hZ, hh⟩ := hP
  have hx := Bd.exec
  have hby := Bd.bytes
  have hml : c.maxLocals = 2 := hml0
  have hown : s.vm.findClass "querent/hl7/LineReader" = some m.cls := findClass_of_methodNamed Bd.named
  have hnm := (name_of_methodNamed Bd.named Bd.method).1
  have X0 : Stand p l e ({ frames := 0, cells := 0, slots := 0, locals := 0 } : Room) s m #[(.ref a1), (.int p2)] below meth c s₁ [] 0 0 := Stand.of_body Bd
  have e0 : s₁.heap = h0 := by rw [← hh, Bd.state]; rfl
  have N0 := Fr.nil n0
  have pre0 : ∀ t, Steps p.tables e below (s₁.setTop (mkF m 0 #[.val (.ref a1), .val (.int p2)] [])) t → Steps p.tables e below (s₁.setTop (entryFrame m #[(.ref a1), (.int p2)] 2)) t := fun t k => castTop (ef_17 m a1 p2) k
  obtain ⟨T3, h3, X3, e3, W3, st3⟩ := putF X0 hx hZ hown (host := "") (Or.inl (hw _ (List.mem_of_getElem? (i := 50) rfl))) Via.refl e0 F_end_a1 E_a1 (Or.inl (hw _ (List.mem_of_getElem? (i := 51) rfl))) (hw _ (List.mem_of_getElem? (i := 9) rfl)) (ty := .int) (by decide) rfl rfl (g := (mkF m 2 #[.val (.ref a1), .val (.int p2)] [(.int p2), (.ref a1)])) rfl rfl (hb hby d17_2)
  have N3 := Fr.snoc X3 N0 g_a1
  have y4 := (F_in_a1.other W3 (Or.inr (slot_ne (Or.inr (hw _ (List.mem_of_getElem? (i := 37) rfl))) (Or.inl (hw _ (List.mem_of_getElem? (i := 51) rfl))) (by decide) (t := (.object "java/io/InputStream")) (t' := .int) (by decide) (by decide))))
  have y5 := (F_block_a1.other W3 (Or.inr (slot_ne (Or.inl (hw _ (List.mem_of_getElem? (i := 39) rfl))) (Or.inl (hw _ (List.mem_of_getElem? (i := 51) rfl))) (by decide) (t := (.array .byte)) (t' := .int) (by decide) (by decide))))
  have y6 := (F_carriageReturnEnds_a1.other W3 (Or.inr (slot_ne (Or.inr (hw _ (List.mem_of_getElem? (i := 43) rfl))) (Or.inl (hw _ (List.mem_of_getElem? (i := 51) rfl))) (by decide) (t := .boolean) (t' := .int) (by decide) (by decide))))
  have y7 := (F_base_a1.other W3 (Or.inr (slot_ne (Or.inl (hw _ (List.mem_of_getElem? (i := 45) rfl))) (Or.inl (hw _ (List.mem_of_getElem? (i := 51) rfl))) (by decide) (t := .long) (t' := .int) (by decide) (by decide))))
  have y8 := (F_limit_a1.other W3 (Or.inr (slot_ne (Or.inl (hw _ (List.mem_of_getElem? (i := 47) rfl))) (Or.inl (hw _ (List.mem_of_getElem? (i := 51) rfl))) (by decide) (t := .int) (t' := .int) (by decide) (by decide))))
  have y9 := (F_start_a1.other W3 (Or.inr (slot_ne (Or.inl (hw _ (List.mem_of_getElem? (i := 49) rfl))) (Or.inl (hw _ (List.mem_of_getElem? (i := 51) rfl))) (by decide) (t := .int) (t' := .int) (by decide) (by decide))))
  have y10 := (F_next_a1.other W3 (Or.inr (slot_ne (Or.inl (hw _ (List.mem_of_getElem? (i := 53) rfl))) (Or.inl (hw _ (List.mem_of_getElem? (i := 51) rfl))) (by decide) (t := .int) (t' := .int) (by decide) (by decide))))
  have y11 := (F_keeping_a1.other W3 (Or.inr (slot_ne (Or.inl (hw _ (List.mem_of_getElem? (i := 65) rfl))) (Or.inl (hw _ (List.mem_of_getElem? (i := 51) rfl))) (by decide) (t := .boolean) (t' := .int) (by decide) (by decide))))
  have y12 := (F_kept_a1.other W3 (Or.inr (slot_ne (Or.inl (hw _ (List.mem_of_getElem? (i := 67) rfl))) (Or.inl (hw _ (List.mem_of_getElem? (i := 51) rfl))) (by decide) (t := .int) (t' := .int) (by decide) (by decide))))
  have y13 := (F_ended_a1.other W3 (Or.inr (slot_ne (Or.inl (hw _ (List.mem_of_getElem? (i := 95) rfl))) (Or.inl (hw _ (List.mem_of_getElem? (i := 51) rfl))) (by decide) (t := .boolean) (t' := .int) (by decide) (by decide))))
  have y14 := (F_afterCarriageReturn_a1.other W3 (Or.inr (slot_ne (Or.inl (hw _ (List.mem_of_getElem? (i := 102) rfl))) (Or.inl (hw _ (List.mem_of_getElem? (i := 51) rfl))) (by decide) (t := .boolean) (t' := .int) (by decide) (by decide))))
  have y15 := (F_number_a1.other W3 (Or.inr (slot_ne (Or.inl (hw _ (List.mem_of_getElem? (i := 104) rfl))) (Or.inl (hw _ (List.mem_of_getElem? (i := 51) rfl))) (by decide) (t := .int) (t' := .int) (by decide) (by decide))))
  have K3 : Keep h0 h3 [a1] := ((Keep.refl h0 [a1])).wr W3 (Or.inl (List.mem_of_getElem? (i := 0) rfl))
  have Z3 : n0 ≤ h3.size := Nat.le_trans Z0 (Keep.of_wr W3).1
  obtain ⟨T16, h16, X16, e16, W16, st16⟩ := putF X3 hx hZ hown (host := "") (Or.inl (hw _ (List.mem_of_getElem? (i := 52) rfl))) Via.refl e3 y10 (E_a1.wr W3) (Or.inl (hw _ (List.mem_of_getElem? (i := 53) rfl))) (hw _ (List.mem_of_getElem? (i := 9) rfl)) (ty := .int) (by decide) rfl rfl (g := (mkF m 9 #[.val (.ref a1), .val (.int p2)] [(.int (p2 + (1 : Int32))), (.ref a1)])) rfl rfl (hb hby d17_9)
  have N16 := Fr.snoc X16 N3 g_a1
  have y17 := (y4.other W16 (Or.inr (slot_ne (Or.inr (hw _ (List.mem_of_getElem? (i := 37) rfl))) (Or.inl (hw _ (List.mem_of_getElem? (i := 53) rfl))) (by decide) (t := (.object "java/io/InputStream")) (t' := .int) (by decide) (by decide))))
  have y18 := (y5.other W16 (Or.inr (slot_ne (Or.inl (hw _ (List.mem_of_getElem? (i := 39) rfl))) (Or.inl (hw _ (List.mem_of_getElem? (i := 53) rfl))) (by decide) (t := (.array .byte)) (t' := .int) (by decide) (by decide))))
  have y19 := (y6.other W16 (Or.inr (slot_ne (Or.inr (hw _ (List.mem_of_getElem? (i := 43) rfl))) (Or.inl (hw _ (List.mem_of_getElem? (i := 53) rfl))) (by decide) (t := .boolean) (t' := .int) (by decide) (by decide))))
  have y20 := (y7.other W16 (Or.inr (slot_ne (Or.inl (hw _ (List.mem_of_getElem? (i := 45) rfl))) (Or.inl (hw _ (List.mem_of_getElem? (i := 53) rfl))) (by decide) (t := .long) (t' := .int) (by decide) (by decide))))
  have y21 := (y8.other W16 (Or.inr (slot_ne (Or.inl (hw _ (List.mem_of_getElem? (i := 47) rfl))) (Or.inl (hw _ (List.mem_of_getElem? (i := 53) rfl))) (by decide) (t := .int) (t' := .int) (by decide) (by decide))))
  have y22 := (y9.other W16 (Or.inr (slot_ne (Or.inl (hw _ (List.mem_of_getElem? (i := 49) rfl))) (Or.inl (hw _ (List.mem_of_getElem? (i := 53) rfl))) (by decide) (t := .int) (t' := .int) (by decide) (by decide))))
  have y23 := ((F_end_a1.same W3).other W16 (Or.inr (slot_ne (Or.inl (hw _ (List.mem_of_getElem? (i := 51) rfl))) (Or.inl (hw _ (List.mem_of_getElem? (i := 53) rfl))) (by decide) (t := .int) (t' := .int) (by decide) (by decide))))
  have y24 := (y11.other W16 (Or.inr (slot_ne (Or.inl (hw _ (List.mem_of_getElem? (i := 65) rfl))) (Or.inl (hw _ (List.mem_of_getElem? (i := 53) rfl))) (by decide) (t := .boolean) (t' := .int) (by decide) (by decide))))
  have y25 := (y12.other W16 (Or.inr (slot_ne (Or.inl (hw _ (List.mem_of_getElem? (i := 67) rfl))) (Or.inl (hw _ (List.mem_of_getElem? (i := 53) rfl))) (by decide) (t := .int) (t' := .int) (by decide) (by decide))))
  have y26 := (y13.other W16 (Or.inr (slot_ne (Or.inl (hw _ (List.mem_of_getElem? (i := 95) rfl))) (Or.inl (hw _ (List.mem_of_getElem? (i := 53) rfl))) (by decide) (t := .boolean) (t' := .int) (by decide) (by decide))))
  have y27 := (y14.other W16 (Or.inr (slot_ne (Or.inl (hw _ (List.mem_of_getElem? (i := 102) rfl))) (Or.inl (hw _ (List.mem_of_getElem? (i := 53) rfl))) (by decide) (t := .boolean) (t' := .int) (by decide) (by decide))))
  have y28 := (y15.other W16 (Or.inr (slot_ne (Or.inl (hw _ (List.mem_of_getElem? (i := 104) rfl))) (Or.inl (hw _ (List.mem_of_getElem? (i := 53) rfl))) (by decide) (t := .int) (t' := .int) (by decide) (by decide))))
  have y29 := ((V_w_block_a1.other W3 ne_w_block_a1_a1).other W16 ne_w_block_a1_a1)
  have K16 : Keep h0 h16 [a1] := (K3).wr W16 (Or.inl (List.mem_of_getElem? (i := 0) rfl))
  have Z16 : n0 ≤ h16.size := Nat.le_trans Z3 (Keep.of_wr W16).1
  obtain ⟨T30, h30, X30, e30, W30, st30⟩ := putFN X16 hx hZ hown (hw _ (List.mem_of_getElem? (i := 94) rfl)) Via.refl e16 y26 ((E_a1.wr W3).wr W16) (Or.inl (hw _ (List.mem_of_getElem? (i := 95) rfl))) (hw _ (List.mem_of_getElem? (i := 9) rfl)) (ty := .boolean) (v' := (.int (1 : Int32))) (by decide) rfl rfl (g := (mkF m 14 #[.val (.ref a1), .val (.int p2)] [(.int (1 : Int32)), (.ref a1)])) rfl rfl (hb hby d17_14)
  have N30 := Fr.snoc X30 N16 g_a1
  have y31 := (y17.other W30 (Or.inr (slot_ne (Or.inr (hw _ (List.mem_of_getElem? (i := 37) rfl))) (Or.inl (hw _ (List.mem_of_getElem? (i := 95) rfl))) (by decide) (t := (.object "java/io/InputStream")) (t' := .boolean) (by decide) (by decide))))
  have y32 := (y18.other W30 (Or.inr (slot_ne (Or.inl (hw _ (List.mem_of_getElem? (i := 39) rfl))) (Or.inl (hw _ (List.mem_of_getElem? (i := 95) rfl))) (by decide) (t := (.array .byte)) (t' := .boolean) (by decide) (by decide))))
  have y33 := (y19.other W30 (Or.inr (slot_ne (Or.inr (hw _ (List.mem_of_getElem? (i := 43) rfl))) (Or.inl (hw _ (List.mem_of_getElem? (i := 95) rfl))) (by decide) (t := .boolean) (t' := .boolean) (by decide) (by decide))))
  have y34 := (y20.other W30 (Or.inr (slot_ne (Or.inl (hw _ (List.mem_of_getElem? (i := 45) rfl))) (Or.inl (hw _ (List.mem_of_getElem? (i := 95) rfl))) (by decide) (t := .long) (t' := .boolean) (by decide) (by decide))))
  have y35 := (y21.other W30 (Or.inr (slot_ne (Or.inl (hw _ (List.mem_of_getElem? (i := 47) rfl))) (Or.inl (hw _ (List.mem_of_getElem? (i := 95) rfl))) (by decide) (t := .int) (t' := .boolean) (by decide) (by decide))))
  have y36 := (y22.other W30 (Or.inr (slot_ne (Or.inl (hw _ (List.mem_of_getElem? (i := 49) rfl))) (Or.inl (hw _ (List.mem_of_getElem? (i := 95) rfl))) (by decide) (t := .int) (t' := .boolean) (by decide) (by decide))))
  have y37 := (y23.other W30 (Or.inr (slot_ne (Or.inl (hw _ (List.mem_of_getElem? (i := 51) rfl))) (Or.inl (hw _ (List.mem_of_getElem? (i := 95) rfl))) (by decide) (t := .int) (t' := .boolean) (by decide) (by decide))))
  have y38 := ((y10.same W16).other W30 (Or.inr (slot_ne (Or.inl (hw _ (List.mem_of_getElem? (i := 53) rfl))) (Or.inl (hw _ (List.mem_of_getElem? (i := 95) rfl))) (by decide) (t := .int) (t' := .boolean) (by decide) (by decide))))
  have y39 := (y24.other W30 (Or.inr (slot_ne (Or.inl (hw _ (List.mem_of_getElem? (i := 65) rfl))) (Or.inl (hw _ (List.mem_of_getElem? (i := 95) rfl))) (by decide) (t := .boolean) (t' := .boolean) (by decide) (by decide))))
  have y40 := (y25.other W30 (Or.inr (slot_ne (Or.inl (hw _ (List.mem_of_getElem? (i := 67) rfl))) (Or.inl (hw _ (List.mem_of_getElem? (i := 95) rfl))) (by decide) (t := .int) (t' := .boolean) (by decide) (by decide))))
  have y41 := (y27.other W30 (Or.inr (slot_ne (Or.inl (hw _ (List.mem_of_getElem? (i := 102) rfl))) (Or.inl (hw _ (List.mem_of_getElem? (i := 95) rfl))) (by decide) (t := .boolean) (t' := .boolean) (by decide) (by decide))))
  have y42 := (y28.other W30 (Or.inr (slot_ne (Or.inl (hw _ (List.mem_of_getElem? (i := 104) rfl))) (Or.inl (hw _ (List.mem_of_getElem? (i := 95) rfl))) (by decide) (t := .int) (t' := .boolean) (by decide) (by decide))))
  have K30 : Keep h0 h30 [a1] := (K16).wr W30 (Or.inl (List.mem_of_getElem? (i := 0) rfl))
  have Z30 : n0 ≤ h30.size := Nat.le_trans Z16 (Keep.of_wr W30).1
  obtain ⟨T43, X43, e43, st43⟩ := getF X30 hx hZ hown (host := "") (Or.inl (hw _ (List.mem_of_getElem? (i := 38) rfl))) Via.refl e30 y32 (g := (mkF m 19 #[.val (.ref a1), .val (.int p2)] [(.ref a1), (.ref a1)])) rfl rfl (hb hby d17_19)
  obtain ⟨cl44, Ar44, qq44, S44, NN44, HH44, GG44⟩ := id (y29.other W30 ne_w_block_a1_a1)
  have hin44 : ¬ (p2 < 0 ∨ cl44.slots.size ≤ (p2).toNatClampNeg) := inb_of S44 ⟨hq23_17, hq23_18⟩
  have hat44 : cl44.slots[(p2).toNatClampNeg]? = some (.int (own_at vl_w_block_a1 p2)) := Has.at HH44 hin44 (own_atv vl_w_block_a1 p2)
  have pre46 : ∀ t, Steps p.tables e below (T43.setTop (mkF m 26 #[.val (.ref a1), .val (.int p2)] [(.int (13 : Int32)), (.int (own_at vl_w_block_a1 p2)), (.ref a1)])) t → Steps p.tables e below (s₁.setTop (entryFrame m #[(.ref a1), (.int p2)] 2)) t := fun t kt => pre0 t (by
    show Steps p.tables e below (s₁.setTop (mkF m 0 #[.val (.ref a1), .val (.int p2)] [])) _
    refine XS.aloadN X0.here hx rfl (hb hby d17_0) rfl rfl ?_
    show Steps p.tables e below (s₁.setTop (mkF m 1 #[.val (.ref a1), .val (.int p2)] [(.ref a1)])) _
    refine XS.iloadN X0.here hx rfl (hb hby d17_1) rfl ?_
    show Steps p.tables e below (s₁.setTop (mkF m 2 #[.val (.ref a1), .val (.int p2)] [(.int p2), (.ref a1)])) _
    refine st3 _ ?_
    show Steps p.tables e below (T3.setTop (mkF m 5 #[.val (.ref a1), .val (.int p2)] [])) _
    refine XS.aloadN X3.here hx rfl (hb hby d17_5) rfl rfl ?_
    show Steps p.tables e below (T3.setTop (mkF m 6 #[.val (.ref a1), .val (.int p2)] [(.ref a1)])) _
    refine XS.iloadN X3.here hx rfl (hb hby d17_6) rfl ?_
    show Steps p.tables e below (T3.setTop (mkF m 7 #[.val (.ref a1), .val (.int p2)] [(.int p2), (.ref a1)])) _
    refine XS.iconst X3.here hx rfl (hb hby d17_7) ?_
    show Steps p.tables e below (T3.setTop (mkF m 8 #[.val (.ref a1), .val (.int p2)] [(.int (1 : Int32)), (.int p2), (.ref a1)])) _
    refine XS.iadd X3.here hx rfl (hb hby d17_8) rfl ?_
    show Steps p.tables e below (T3.setTop (mkF m 9 #[.val (.ref a1), .val (.int p2)] [(.int (p2 + (1 : Int32))), (.ref a1)])) _
    refine st16 _ ?_
    show Steps p.tables e below (T16.setTop (mkF m 12 #[.val (.ref a1), .val (.int p2)] [])) _
    refine XS.aloadN X16.here hx rfl (hb hby d17_12) rfl rfl ?_
    show Steps p.tables e below (T16.setTop (mkF m 13 #[.val (.ref a1), .val (.int p2)] [(.ref a1)])) _
    refine XS.iconst X16.here hx rfl (hb hby d17_13) ?_
    show Steps p.tables e below (T16.setTop (mkF m 14 #[.val (.ref a1), .val (.int p2)] [(.int (1 : Int32)), (.ref a1)])) _
    refine st30 _ ?_
    show Steps p.tables e below (T30.setTop (mkF m 17 #[.val (.ref a1), .val (.int p2)] [])) _
    refine XS.aloadN X30.here hx rfl (hb hby d17_17) rfl rfl ?_
    show Steps p.tables e below (T30.setTop (mkF m 18 #[.val (.ref a1), .val (.int p2)] [(.ref a1)])) _
    refine XS.aloadN X30.here hx rfl (hb hby d17_18) rfl rfl ?_
    show Steps p.tables e below (T30.setTop (mkF m 19 #[.val (.ref a1), .val (.int p2)] [(.ref a1), (.ref a1)])) _
    refine st43 _ ?_
    show Steps p.tables e below (T43.setTop (mkF m 22 #[.val (.ref a1), .val (.int p2)] [(.ref w_block_a1), (.ref a1)])) _
    refine XS.iloadN X43.here hx rfl (hb hby d17_22) rfl ?_
    show Steps p.tables e below (T43.setTop (mkF m 23 #[.val (.ref a1), .val (.int p2)] [(.int p2), (.ref w_block_a1), (.ref a1)])) _
    refine X43.baloadBytes hx (j := p2) (v := (.int (own_at vl_w_block_a1 p2))) (by rw [e43]; exact Ar44.1) (State.isArrayOf_alike hZ.alike Ar44.2.1) Ar44.2.2 hin44 hat44 (g := (mkF m 23 #[.val (.ref a1), .val (.int p2)] [(.int p2), (.ref w_block_a1), (.ref a1)])) rfl rfl (hb hby d17_23) _ ?_
    show Steps p.tables e below (T43.setTop (mkF m 24 #[.val (.ref a1), .val (.int p2)] [(.int (own_at vl_w_block_a1 p2)), (.ref a1)])) _
    refine XS.bipush X43.here hx rfl (hb hby d17_24) ?_
    show Steps p.tables e below (T43.setTop (mkF m 26 #[.val (.ref a1), .val (.int p2)] [(.int (13 : Int32)), (.int (own_at vl_w_block_a1 p2)), (.ref a1)])) _
    exact kt)
  by_cases hc26_45 : (own_at vl_w_block_a1 p2) = (13 : Int32)
  · obtain ⟨T47, h47, X47, e47, W47, st47⟩ := putFN X43 hx hZ hown (hw _ (List.mem_of_getElem? (i := 101) rfl)) Via.refl e43 y41 (((E_a1.wr W3).wr W16).wr W30) (Or.inl (hw _ (List.mem_of_getElem? (i := 102) rfl))) (hw _ (List.mem_of_getElem? (i := 9) rfl)) (ty := .boolean) (v' := (.int (1 : Int32))) (by decide) rfl rfl (g := (mkF m 34 #[.val (.ref a1), .val (.int p2)] [(.int (1 : Int32)), (.ref a1)])) rfl rfl (hb hby d17_34)
    have N47 := Fr.snoc X47 N30 g_a1
    have y48 := (y31.other W47 (Or.inr (slot_ne (Or.inr (hw _ (List.mem_of_getElem? (i := 37) rfl))) (Or.inl (hw _ (List.mem_of_getElem? (i := 102) rfl))) (by decide) (t := (.object "java/io/InputStream")) (t' := .boolean) (by decide) (by decide))))
    have y49 := (y32.other W47 (Or.inr (slot_ne (Or.inl (hw _ (List.mem_of_getElem? (i := 39) rfl))) (Or.inl (hw _ (List.mem_of_getElem? (i := 102) rfl))) (by decide) (t := (.array .byte)) (t' := .boolean) (by decide) (by decide))))
    have y50 := (y33.other W47 (Or.inr (slot_ne (Or.inr (hw _ (List.mem_of_getElem? (i := 43) rfl))) (Or.inl (hw _ (List.mem_of_getElem? (i := 102) rfl))) (by decide) (t := .boolean) (t' := .boolean) (by decide) (by decide))))
    have y51 := (y34.other W47 (Or.inr (slot_ne (Or.inl (hw _ (List.mem_of_getElem? (i := 45) rfl))) (Or.inl (hw _ (List.mem_of_getElem? (i := 102) rfl))) (by decide) (t := .long) (t' := .boolean) (by decide) (by decide))))
    have y52 := (y35.other W47 (Or.inr (slot_ne (Or.inl (hw _ (List.mem_of_getElem? (i := 47) rfl))) (Or.inl (hw _ (List.mem_of_getElem? (i := 102) rfl))) (by decide) (t := .int) (t' := .boolean) (by decide) (by decide))))
    have y53 := (y36.other W47 (Or.inr (slot_ne (Or.inl (hw _ (List.mem_of_getElem? (i := 49) rfl))) (Or.inl (hw _ (List.mem_of_getElem? (i := 102) rfl))) (by decide) (t := .int) (t' := .boolean) (by decide) (by decide))))
    have y54 := (y37.other W47 (Or.inr (slot_ne (Or.inl (hw _ (List.mem_of_getElem? (i := 51) rfl))) (Or.inl (hw _ (List.mem_of_getElem? (i := 102) rfl))) (by decide) (t := .int) (t' := .boolean) (by decide) (by decide))))
    have y55 := (y38.other W47 (Or.inr (slot_ne (Or.inl (hw _ (List.mem_of_getElem? (i := 53) rfl))) (Or.inl (hw _ (List.mem_of_getElem? (i := 102) rfl))) (by decide) (t := .int) (t' := .boolean) (by decide) (by decide))))
    have y56 := (y39.other W47 (Or.inr (slot_ne (Or.inl (hw _ (List.mem_of_getElem? (i := 65) rfl))) (Or.inl (hw _ (List.mem_of_getElem? (i := 102) rfl))) (by decide) (t := .boolean) (t' := .boolean) (by decide) (by decide))))
    have y57 := (y40.other W47 (Or.inr (slot_ne (Or.inl (hw _ (List.mem_of_getElem? (i := 67) rfl))) (Or.inl (hw _ (List.mem_of_getElem? (i := 102) rfl))) (by decide) (t := .int) (t' := .boolean) (by decide) (by decide))))
    have y58 := ((y26.same W30).other W47 (Or.inr (slot_ne (Or.inl (hw _ (List.mem_of_getElem? (i := 95) rfl))) (Or.inl (hw _ (List.mem_of_getElem? (i := 102) rfl))) (by decide) (t := .boolean) (t' := .boolean) (by decide) (by decide))))
    have y59 := (y42.other W47 (Or.inr (slot_ne (Or.inl (hw _ (List.mem_of_getElem? (i := 104) rfl))) (Or.inl (hw _ (List.mem_of_getElem? (i := 102) rfl))) (by decide) (t := .int) (t' := .boolean) (by decide) (by decide))))
    have y60 := ((y29.other W30 ne_w_block_a1_a1).other W47 ne_w_block_a1_a1)
    have K47 : Keep h0 h47 [a1] := (K30).wr W47 (Or.inl (List.mem_of_getElem? (i := 0) rfl))
    have Z47 : n0 ≤ h47.size := Nat.le_trans Z30 (Keep.of_wr W47).1
    obtain ⟨fs, hr, hrun, hended, hW, hsame⟩ := X47.leave (v := none) (fun _ => rfl)
    refine ⟨_, _, pre46 _ ?_, hrun, hended, _, _, rfl, ?_, ⟨_, rfl⟩, hW, hsame.mono (by decide) (by decide)⟩
    · show Steps p.tables e below (T43.setTop (mkF m 26 #[.val (.ref a1), .val (.int p2)] [(.int (13 : Int32)), (.int (own_at vl_w_block_a1 p2)), (.ref a1)])) _
      refine XS.icmpNo X43.here hx rfl (hb hby d17_26) rfl (teq hc26_45).2 ?_
      show Steps p.tables e below (T43.setTop (mkF m 29 #[.val (.ref a1), .val (.int p2)] [(.ref a1)])) _
      refine XS.iconst X43.here hx rfl (hb hby d17_29) ?_
      show Steps p.tables e below (T43.setTop (mkF m 30 #[.val (.ref a1), .val (.int p2)] [(.int (1 : Int32)), (.ref a1)])) _
      refine XS.goto X43.here hx rfl (pc0 := 30) (pc' := 34) rfl (hb hby d17_30) (by decide) (by decide) ?_
      show Steps p.tables e below (T43.setTop (mkF m 34 #[.val (.ref a1), .val (.int p2)] [(.int (1 : Int32)), (.ref a1)])) _
      refine st47 _ ?_
      show Steps p.tables e below (T47.setTop (mkF m 37 #[.val (.ref a1), .val (.int p2)] [])) _
      exact X47.returnOut hx Bd.returns (hb hby d17_37) hr
    · show Q17 Z a1 p2 w_block_a1 w_carriageReturnEnds_a1 w_base_a1 w_limit_a1 w_start_a1 w_end_a1 w_next_a1 w_keeping_a1 w_kept_a1 w_ended_a1 w_afterCarriageReturn_a1 w_number_a1 k_w_block_a1 vl_w_block_a1 h0 n0 _ T47.heap _
      rw [e47]
      exact ⟨rfl, N47, (K47), ((((E_a1.wr W3).wr W16).wr W30).wr W47), y48, y49, y50, y51, y52, y53, y54, y55, y56, y57, y58, (by have qf : F17_afterCarriageReturn_a1 p2 vl_w_block_a1 = (1 : Int32) := (by unfold F17_afterCarriageReturn_a1; rw [if_pos hc26_45]); rw [qf]; exact (y41.same W47)), y59⟩
  · obtain ⟨T61, h61, X61, e61, W61, st61⟩ := putFN X43 hx hZ hown (hw _ (List.mem_of_getElem? (i := 101) rfl)) Via.refl e43 y41 (((E_a1.wr W3).wr W16).wr W30) (Or.inl (hw _ (List.mem_of_getElem? (i := 102) rfl))) (hw _ (List.mem_of_getElem? (i := 9) rfl)) (ty := .boolean) (v' := (.int (0 : Int32))) (by decide) rfl rfl (g := (mkF m 34 #[.val (.ref a1), .val (.int p2)] [(.int (0 : Int32)), (.ref a1)])) rfl rfl (hb hby d17_34)
    have N61 := Fr.snoc X61 N30 g_a1
    have y62 := (y31.other W61 (Or.inr (slot_ne (Or.inr (hw _ (List.mem_of_getElem? (i := 37) rfl))) (Or.inl (hw _ (List.mem_of_getElem? (i := 102) rfl))) (by decide) (t := (.object "java/io/InputStream")) (t' := .boolean) (by decide) (by decide))))
    have y63 := (y32.other W61 (Or.inr (slot_ne (Or.inl (hw _ (List.mem_of_getElem? (i := 39) rfl))) (Or.inl (hw _ (List.mem_of_getElem? (i := 102) rfl))) (by decide) (t := (.array .byte)) (t' := .boolean) (by decide) (by decide))))
    have y64 := (y33.other W61 (Or.inr (slot_ne (Or.inr (hw _ (List.mem_of_getElem? (i := 43) rfl))) (Or.inl (hw _ (List.mem_of_getElem? (i := 102) rfl))) (by decide) (t := .boolean) (t' := .boolean) (by decide) (by decide))))
    have y65 := (y34.other W61 (Or.inr (slot_ne (Or.inl (hw _ (List.mem_of_getElem? (i := 45) rfl))) (Or.inl (hw _ (List.mem_of_getElem? (i := 102) rfl))) (by decide) (t := .long) (t' := .boolean) (by decide) (by decide))))
    have y66 := (y35.other W61 (Or.inr (slot_ne (Or.inl (hw _ (List.mem_of_getElem? (i := 47) rfl))) (Or.inl (hw _ (List.mem_of_getElem? (i := 102) rfl))) (by decide) (t := .int) (t' := .boolean) (by decide) (by decide))))
    have y67 := (y36.other W61 (Or.inr (slot_ne (Or.inl (hw _ (List.mem_of_getElem? (i := 49) rfl))) (Or.inl (hw _ (List.mem_of_getElem? (i := 102) rfl))) (by decide) (t := .int) (t' := .boolean) (by decide) (by decide))))
    have y68 := (y37.other W61 (Or.inr (slot_ne (Or.inl (hw _ (List.mem_of_getElem? (i := 51) rfl))) (Or.inl (hw _ (List.mem_of_getElem? (i := 102) rfl))) (by decide) (t := .int) (t' := .boolean) (by decide) (by decide))))
    have y69 := (y38.other W61 (Or.inr (slot_ne (Or.inl (hw _ (List.mem_of_getElem? (i := 53) rfl))) (Or.inl (hw _ (List.mem_of_getElem? (i := 102) rfl))) (by decide) (t := .int) (t' := .boolean) (by decide) (by decide))))
    have y70 := (y39.other W61 (Or.inr (slot_ne (Or.inl (hw _ (List.mem_of_getElem? (i := 65) rfl))) (Or.inl (hw _ (List.mem_of_getElem? (i := 102) rfl))) (by decide) (t := .boolean) (t' := .boolean) (by decide) (by decide))))
    have y71 := (y40.other W61 (Or.inr (slot_ne (Or.inl (hw _ (List.mem_of_getElem? (i := 67) rfl))) (Or.inl (hw _ (List.mem_of_getElem? (i := 102) rfl))) (by decide) (t := .int) (t' := .boolean) (by decide) (by decide))))
    have y72 := ((y26.same W30).other W61 (Or.inr (slot_ne (Or.inl (hw _ (List.mem_of_getElem? (i := 95) rfl))) (Or.inl (hw _ (List.mem_of_getElem? (i := 102) rfl))) (by decide) (t := .boolean) (t' := .boolean) (by decide) (by decide))))
    have y73 := (y42.other W61 (Or.inr (slot_ne (Or.inl (hw _ (List.mem_of_getElem? (i := 104) rfl))) (Or.inl (hw _ (List.mem_of_getElem? (i := 102) rfl))) (by decide) (t := .int) (t' := .boolean) (by decide) (by decide))))
    have y74 := ((y29.other W30 ne_w_block_a1_a1).other W61 ne_w_block_a1_a1)
    have K61 : Keep h0 h61 [a1] := (K30).wr W61 (Or.inl (List.mem_of_getElem? (i := 0) rfl))
    have Z61 : n0 ≤ h61.size := Nat.le_trans Z30 (Keep.of_wr W61).1
    obtain ⟨fs, hr, hrun, hended, hW, hsame⟩ := X61.leave (v := none) (fun _ => rfl)
    refine ⟨_, _, pre46 _ ?_, hrun, hended, _, _, rfl, ?_, ⟨_, rfl⟩, hW, hsame.mono (by decide) (by decide)⟩
    · show Steps p.tables e below (T43.setTop (mkF m 26 #[.val (.ref a1), .val (.int p2)] [(.int (13 : Int32)), (.int (own_at vl_w_block_a1 p2)), (.ref a1)])) _
      refine XS.icmpYes X43.here hx rfl (pc0 := 26) (pc' := 33) rfl (hb hby d17_26) rfl (feq hc26_45).2 (by decide) (by decide) ?_
      show Steps p.tables e below (T43.setTop (mkF m 33 #[.val (.ref a1), .val (.int p2)] [(.ref a1)])) _
      refine XS.iconst X43.here hx rfl (hb hby d17_33) ?_
      show Steps p.tables e below (T43.setTop (mkF m 34 #[.val (.ref a1), .val (.int p2)] [(.int (0 : Int32)), (.ref a1)])) _
      refine st61 _ ?_
      show Steps p.tables e below (T61.setTop (mkF m 37 #[.val (.ref a1), .val (.int p2)] [])) _
      exact X61.returnOut hx Bd.returns (hb hby d17_37) hr
    · show Q17 Z a1 p2 w_block_a1 w_carriageReturnEnds_a1 w_base_a1 w_limit_a1 w_start_a1 w_end_a1 w_next_a1 w_keeping_a1 w_kept_a1 w_ended_a1 w_afterCarriageReturn_a1 w_number_a1 k_w_block_a1 vl_w_block_a1 h0 n0 _ T61.heap _
      rw [e61]
      exact ⟨rfl, N61, (K61), ((((E_a1.wr W3).wr W16).wr W30).wr W61), y62, y63, y64, y65, y66, y67, y68, y69, y70, y71, y72, (by have qf : F17_afterCarriageReturn_a1 p2 vl_w_block_a1 = (0 : Int32) := (by unfold F17_afterCarriageReturn_a1; rw [if_neg hc26_45]); rw [qf]; exact (y41.same W61)), y73⟩
theorem pd_5 : parseMethodDescriptor "(I)I" = some ⟨[.int], some .int⟩ := by decide +kernel
theorem pd_6 : parseMethodDescriptor "(I)V" = some ⟨[.int], none⟩ := by decide +kernel
theorem d10_0 : decode prog_132_method_3_code 0 = .ok (.aload_n 0, 1) := by decide +kernel
theorem d10_1 : decode prog_132_method_3_code 1 = .ok (.invokevirtual 71, 3) := by decide +kernel
theorem d10_4 : decode prog_132_method_3_code 4 = .ok (.ifCond .ne 5, 3) := by decide +kernel
theorem d10_7 : decode prog_132_method_3_code 7 = .ok (.iconst 0, 1) := by decide +kernel
theorem d10_8 : decode prog_132_method_3_code 8 = .ok (.ireturn, 1) := by decide +kernel
theorem d10_9 : decode prog_132_method_3_code 9 = .ok (.aload_n 0, 1) := by decide +kernel
theorem d10_10 : decode prog_132_method_3_code 10 = .ok (.aload_n 0, 1) := by decide +kernel
theorem d10_11 : decode prog_132_method_3_code 11 = .ok (.getfield 62, 3) := by decide +kernel
theorem d10_14 : decode prog_132_method_3_code 14 = .ok (.invokevirtual 75, 3) := by decide +kernel
theorem d10_17 : decode prog_132_method_3_code 17 = .ok (.istore_n 1, 1) := by decide +kernel
theorem d10_18 : decode prog_132_method_3_code 18 = .ok (.iload_n 1, 1) := by decide +kernel
theorem d10_19 : decode prog_132_method_3_code 19 = .ok (.aload_n 0, 1) := by decide +kernel
theorem d10_20 : decode prog_132_method_3_code 20 = .ok (.getfield 58, 3) := by decide +kernel
theorem d10_23 : decode prog_132_method_3_code 23 = .ok (.if_icmp .ne 37, 3) := by decide +kernel
theorem d10_26 : decode prog_132_method_3_code 26 = .ok (.iload_n 1, 1) := by decide +kernel
theorem d10_27 : decode prog_132_method_3_code 27 = .ok (.aload_n 0, 1) := by decide +kernel
theorem d10_28 : decode prog_132_method_3_code 28 = .ok (.getfield 62, 3) := by decide +kernel
theorem d10_31 : decode prog_132_method_3_code 31 = .ok (.isub, 1) := by decide +kernel
theorem d10_32 : decode prog_132_method_3_code 32 = .ok (.istore_n 2, 1) := by decide +kernel
theorem d10_33 : decode prog_132_method_3_code 33 = .ok (.aload_n 0, 1) := by decide +kernel
theorem d10_34 : decode prog_132_method_3_code 34 = .ok (.invokevirtual 79, 3) := by decide +kernel
theorem d10_37 : decode prog_132_method_3_code 37 = .ok (.ifCond .ne 9, 3) := by decide +kernel
theorem d10_40 : decode prog_132_method_3_code 40 = .ok (.aload_n 0, 1) := by decide +kernel
theorem d10_41 : decode prog_132_method_3_code 41 = .ok (.invokevirtual 82, 3) := by decide +kernel
theorem d10_44 : decode prog_132_method_3_code 44 = .ok (.iconst 1, 1) := by decide +kernel
theorem d10_45 : decode prog_132_method_3_code 45 = .ok (.ireturn, 1) := by decide +kernel
theorem d10_60 : decode prog_132_method_3_code 60 = .ok (.aload_n 0, 1) := by decide +kernel
theorem d10_61 : decode prog_132_method_3_code 61 = .ok (.iload_n 1, 1) := by decide +kernel
theorem d10_62 : decode prog_132_method_3_code 62 = .ok (.invokevirtual 85, 3) := by decide +kernel
theorem d10_65 : decode prog_132_method_3_code 65 = .ok (.iconst 1, 1) := by decide +kernel
theorem d10_66 : decode prog_132_method_3_code 66 = .ok (.ireturn, 1) := by decide +kernel
theorem ef_10 (m : MethodId) (a1 : Addr) : entryFrame m #[(.ref a1)] 3 = mkF m 0 #[.val (.ref a1), .unset, .unset] [] := by first | (simp [entryFrame, mkF, argsToLocals, Value.category]; done) | rfl
def Q10 (Z : State) (a1 : Addr) (w_block_a1 : Addr) (w_carriageReturnEnds_a1 : Int32) (w_base_a1 : Int64) (w_limit_a1 : Int32) (w_start_a1 : Int32) (w_end_a1 : Int32) (w_next_a1 : Int32) (w_keeping_a1 : Int32) (w_kept_a1 : Int32) (w_ended_a1 : Int32) (w_afterCarriageReturn_a1 : Int32) (w_number_a1 : Int32) (k_w_block_a1 : ClassId) (vl_w_block_a1 : List Int32) (h0 : Heap) (n0 : Nat) (v : Option Value) (h : Heap) (L : List Loc) : Prop := ∃ xr : Int32, ∃ xs : Int32, ∃ xe : Int32, ∃ xn : Int32, ∃ xd : Int32, ∃ xa : Int32, ∃ xu : Int32, v = some (.int xr) ∧ Fr n0 L ∧ Keep h0 h [a1] ∧ Exa Z h a1 "querent/hl7/LineReader" ∧ Fld Z h a1 "querent/hl7/LineReader" "in" "Ljava/io/InputStream;" .null ∧ Fld Z h a1 "querent/hl7/LineReader" "block" "[B" (.ref w_block_a1) ∧ Fld Z h a1 "querent/hl7/LineReader" "carriageReturnEnds" "Z" (.int w_carriageReturnEnds_a1) ∧ Fld Z h a1 "querent/hl7/LineReader" "base" "J" (.long w_base_a1) ∧ Fld Z h a1 "querent/hl7/LineReader" "limit" "I" (.int w_limit_a1) ∧ Fld Z h a1 "querent/hl7/LineReader" "start" "I" (.int xs) ∧ Fld Z h a1 "querent/hl7/LineReader" "end" "I" (.int xe) ∧ Fld Z h a1 "querent/hl7/LineReader" "next" "I" (.int xn) ∧ Fld Z h a1 "querent/hl7/LineReader" "keeping" "Z" (.int w_keeping_a1) ∧ Fld Z h a1 "querent/hl7/LineReader" "kept" "I" (.int w_kept_a1) ∧ Fld Z h a1 "querent/hl7/LineReader" "ended" "Z" (.int xd) ∧ Fld Z h a1 "querent/hl7/LineReader" "afterCarriageReturn" "Z" (.int xa) ∧ Fld Z h a1 "querent/hl7/LineReader" "number" "I" (.int xu) ∧ (xs = w_next_a1 ∨ (xs = (w_next_a1 + (1 : Int32)) ∧ (own_at vl_w_block_a1 w_next_a1) = (10 : Int32) ∧ w_next_a1 < w_limit_a1)) ∧ (¬ (xn < (0 : Int32))) ∧ (¬ (w_limit_a1 < xn))
set_option maxRecDepth 65536 in
set_option maxHeartbeats 40000000 in
theorem rm10 (l : Launch) (Z : State) (a0 : Array Value) (hw : ∀ d ∈ tables_1, d.before a0 Z = true) (ws : List Jvm.Cond) (a1 : Addr) (w_block_a1 : Addr) (w_carriageReturnEnds_a1 : Int32) (w_base_a1 : Int64) (w_limit_a1 : Int32) (w_start_a1 : Int32) (w_end_a1 : Int32) (w_next_a1 : Int32) (w_keeping_a1 : Int32) (w_kept_a1 : Int32) (w_ended_a1 : Int32) (w_afterCarriageReturn_a1 : Int32) (w_number_a1 : Int32) (k_w_block_a1 : ClassId) (vl_w_block_a1 : List Int32) (h0 : Heap) (n0 : Nat) (Z0 : n0 ≤ h0.size) (E_a1 : Exa Z h0 a1 "querent/hl7/LineReader") (F_in_a1 : Fld Z h0 a1 "querent/hl7/LineReader" "in" "Ljava/io/InputStream;" .null) (F_block_a1 : Fld Z h0 a1 "querent/hl7/LineReader" "block" "[B" (.ref w_block_a1)) (F_carriageReturnEnds_a1 : Fld Z h0 a1 "querent/hl7/LineReader" "carriageReturnEnds" "Z" (.int w_carriageReturnEnds_a1)) (F_base_a1 : Fld Z h0 a1 "querent/hl7/LineReader" "base" "J" (.long w_base_a1)) (F_limit_a1 : Fld Z h0 a1 "querent/hl7/LineReader" "limit" "I" (.int w_limit_a1)) (F_start_a1 : Fld Z h0 a1 "querent/hl7/LineReader" "start" "I" (.int w_start_a1)) (F_end_a1 : Fld Z h0 a1 "querent/hl7/LineReader" "end" "I" (.int w_end_a1)) (F_next_a1 : Fld Z h0 a1 "querent/hl7/LineReader" "next" "I" (.int w_next_a1)) (F_keeping_a1 : Fld Z h0 a1 "querent/hl7/LineReader" "keeping" "Z" (.int w_keeping_a1)) (F_kept_a1 : Fld Z h0 a1 "querent/hl7/LineReader" "kept" "I" (.int w_kept_a1)) (F_ended_a1 : Fld Z h0 a1 "querent/hl7/LineReader" "ended" "Z" (.int w_ended_a1)) (F_afterCarriageReturn_a1 : Fld Z h0 a1 "querent/hl7/LineReader" "afterCarriageReturn" "Z" (.int w_afterCarriageReturn_a1)) (F_number_a1 : Fld Z h0 a1 "querent/hl7/LineReader" "number" "I" (.int w_number_a1)) (V_w_block_a1 : Arv Z h0 w_block_a1 k_w_block_a1 .byte (6 : Int32) (vl_w_block_a1.map Value.int) (.int (0 : Int32))) (hq0_15 : ¬ (w_next_a1 < (0 : Int32))) (hq0_16 : ¬ (w_limit_a1 < w_next_a1)) (hq0_17 : ¬ ((6 : Int32) < w_limit_a1)) (g_a1 : n0 ≤ a1) (ne_w_block_a1_a1 : w_block_a1 ≠ a1) :
    MetFree l (⟨"querent/hl7/LineReader", "next", "()Z"⟩ : MethodName) (head1 (Jvm.Cond.code (⟨"querent/hl7/LineReader", "next", "()Z"⟩ : MethodName) prog_132_method_3_code 3 (some .boolean) :: ws) ({ frames := 3, cells := 0, slots := 0, locals := 38 } : Room)) (fun a U => a = #[(.ref a1)] ∧ Z.Warmed39 U.vm ∧ U.heap = h0) (fun _ _ _ _ _ => True) (fun _ U o U' => ∃ v L, o = .returned v ∧ Q10 Z a1 w_block_a1 w_carriageReturnEnds_a1 w_base_a1 w_limit_a1 w_start_a1 w_end_a1 w_next_a1 w_keeping_a1 w_kept_a1 w_ended_a1 w_afterCarriageReturn_a1 w_number_a1 k_w_block_a1 vl_w_block_a1 h0 n0 v U'.heap L ∧ FrameEnd U o U' L ({ frames := 3, cells := 0, slots := 0, locals := 38 } : Room).cells ({ frames := 3, cells := 0, slots := 0, locals := 38 } : Room).slots) := by
  refine MetFree.of_bodySF (plainFor_of_name pn_3) hisR ?_
  intro p e s m args below meth c s₁ Bd hml0 hP hK
  obtain ⟨rfl, hZ, hh⟩ := hP
  have hx := Bd.exec
  have hby := Bd.bytes
  have hml : c.maxLocals = 3 := hml0
  have hown : s.vm.findClass "querent/hl7/LineReader" = some m.cls := findClass_of_methodNamed Bd.named
  have hnm := (name_of_methodNamed Bd.named Bd.method).1
  have X0 : Stand p l e ({ frames := 3, cells := 0, slots := 0, locals := 38 } : Room) s m #[(.ref a1)] below meth c s₁ [] 0 0 := Stand.of_body Bd
  have e0 : s₁.heap = h0 := by rw [← hh, Bd.state]; rfl
  have N0 := Fr.nil n0
  have pre0 : ∀ t, Steps p.tables e below (s₁.setTop (mkF m 0 #[.val (.ref a1), .unset, .unset] [])) t → Steps p.tables e below (s₁.setTop (entryFrame m #[(.ref a1)] 3)) t := fun t k => castTop (ef_10 m a1) k
  obtain ⟨cq2, q2, q2'⟩ := E_a1.cell
  obtain ⟨_, _, ⟨T2, L2, k2, n2⟩, -, X2, ⟨Lc2, hQ2, l2, y2, z2⟩, st2⟩ := X0.privateBack hx (y := (⟨"querent/hl7/LineReader", "startLine", "()Z"⟩ : MethodName)) hown (mvT hZ (hw _ (List.mem_of_getElem? (i := 78) rfl))) (mvT hZ (hw _ (List.mem_of_getElem? (i := 79) rfl))) (own_selp (args' := #[]) (w := (⟨"querent/hl7/LineReader", "offset", "()J"⟩ : MethodName)) (mvT hZ (hw _ (List.mem_of_getElem? (i := 57) rfl))) rfl (Cond.privateMethod_at (mvP hZ (hw _ (List.mem_of_getElem? (i := 80) rfl)) (args := #[]))) (mvT hZ (hw _ (List.mem_of_getElem? (i := 79) rfl))) (by decide)) (Cond.privateMethod_at (mvP hZ (hw _ (List.mem_of_getElem? (i := 80) rfl)) (args := #[]))) (mvT hZ (hw _ (List.mem_of_getElem? (i := 81) rfl))) (by decide) (backOf (W := 0) (rm11 l Z a0 hw [] a1 w_block_a1 w_carriageReturnEnds_a1 w_base_a1 w_limit_a1 w_start_a1 w_end_a1 w_next_a1 w_keeping_a1 w_kept_a1 w_ended_a1 w_afterCarriageReturn_a1 w_number_a1 k_w_block_a1 vl_w_block_a1 h0 n0 Z0 E_a1 F_in_a1 F_block_a1 F_carriageReturnEnds_a1 F_base_a1 F_limit_a1 F_start_a1 F_end_a1 F_next_a1 F_keeping_a1 F_kept_a1 F_ended_a1 F_afterCarriageReturn_a1 F_number_a1 V_w_block_a1 hq0_15 hq0_16 hq0_17 g_a1 ne_w_block_a1_a1) hZ (hw _ (List.mem_of_getElem? (i := 81) rfl)) (hw _ (List.mem_of_getElem? (i := 10) rfl)) (by decide) (by decide)) (g := (mkF m 1 #[.val (.ref a1), .unset, .unset] [(.ref a1)])) rfl (by rw [hml]; rfl) (Steps.refl _) (a := a1) (by rw [e0]; exact q2) q2' (argsL := []) (rest := []) (lenOf pd_3 rfl) rfl (by show 2 * 0 + _ ≤ _; exact Nat.le_of_eq rfl) (hb hby d10_1) (fun _ _ => ⟨rfl, e0, (by decide : 0 + 0 ≤ _), (by decide : 0 + 0 ≤ _)⟩)
  dsimp only [Pt.U, Pt.locs, Pt.cells, Pt.slots] at X2 l2 y2 z2 st2 hQ2
  subst l2 y2 z2
  obtain ⟨x2_0, x2_1, x2_2, x2_3, x2_4, x2_5, x2_6, rfl, N2q, K2q, f2_0, f2_1, f2_2, f2_3, f2_4, f2_5, f2_6, f2_7, f2_8, f2_9, f2_10, f2_11, f2_12, f2_13, p2_0, p2_1, p2_2, p2_3⟩ := hQ2
  have y3 := (V_w_block_a1.keep K2q (ninS ne_w_block_a1_a1 nin0))
  have K2 : Keep h0 T2.heap [a1] := ((Keep.refl h0 [a1])).trans K2q (allS (P := fun x => x ∈ [a1] ∨ h0.size ≤ x) (Or.inl (List.mem_of_getElem? (i := 0) rfl)) all0)
  have Z2 : n0 ≤ T2.heap.size := Nat.le_trans Z0 K2q.1
  have N2 := Fr.app N0 N2q
  have pre5 : ∀ t, Steps p.tables e below (T2.setTop (mkF m 4 #[.val (.ref a1), .unset, .unset] [(.int x2_0)])) t → Steps p.tables e below (s₁.setTop (entryFrame m #[(.ref a1)] 3)) t := fun t kt => pre0 t (by
    show Steps p.tables e below (s₁.setTop (mkF m 0 #[.val (.ref a1), .unset, .unset] [])) _
    refine XS.aloadN X0.here hx rfl (hb hby d10_0) rfl rfl ?_
    show Steps p.tables e below (s₁.setTop (mkF m 1 #[.val (.ref a1), .unset, .unset] [(.ref a1)])) _
    refine st2.trans ?_
    show Steps p.tables e below (T2.setTop (mkF m 4 #[.val (.ref a1), .unset, .unset] [(.int x2_0)])) _
    exact kt)
  by_cases hc4_4 : x2_0 = (0 : Int32)
  · obtain ⟨fs, hr, hrun, hended, hW, hsame⟩ := X2.leave (v := some (.int (0 : Int32))) (fun h => by rw [Bd.returns] at h; cases h)
    refine ⟨_, _, pre5 _ ?_, hrun, hended, _, _, rfl, ?_, ⟨_, rfl⟩, hW, hsame.mono (by decide) (by decide)⟩
    · show Steps p.tables e below (T2.setTop (mkF m 4 #[.val (.ref a1), .unset, .unset] [(.int x2_0)])) _
      refine XS.ifNo X2.here hx rfl (hb hby d10_4) rfl ((if0 _ _).trans (teq hc4_4).2) ?_
      show Steps p.tables e below (T2.setTop (mkF m 7 #[.val (.ref a1), .unset, .unset] [])) _
      refine XS.iconst X2.here hx rfl (hb hby d10_7) ?_
      show Steps p.tables e below (T2.setTop (mkF m 8 #[.val (.ref a1), .unset, .unset] [(.int (0 : Int32))])) _
      exact retN X2 hx (t := .boolean) Bd.returns (by simp) (hb hby d10_8) hr
    · show Q10 Z a1 w_block_a1 w_carriageReturnEnds_a1 w_base_a1 w_limit_a1 w_start_a1 w_end_a1 w_next_a1 w_keeping_a1 w_kept_a1 w_ended_a1 w_afterCarriageReturn_a1 w_number_a1 k_w_block_a1 vl_w_block_a1 h0 n0 _ T2.heap _
      exact ⟨(0 : Int32), x2_1, x2_2, x2_3, x2_4, x2_5, x2_6, rfl, N2, (K2), f2_0, f2_1, f2_2, f2_3, f2_4, f2_5, f2_6, f2_7, f2_8, f2_9, f2_10, f2_11, f2_12, f2_13, (p2_0), (by (try clear pre0); (try simp only [own_mz] at hc4_4); (try simp only [Int32.lt_iff_toInt_lt, ← Int32.toInt_inj, own_z0, own_z1, own_z6] at hc4_4); (try simp only [own_mz] at p2_1); (try simp only [Int32.lt_iff_toInt_lt, ← Int32.toInt_inj, own_z0, own_z1, own_z6] at p2_1); (try simp only [own_mz] at p2_2); (try simp only [Int32.lt_iff_toInt_lt, ← Int32.toInt_inj, own_z0, own_z1, own_z6] at p2_2); (try simp only [own_mz] at hq0_15); (try simp only [Int32.lt_iff_toInt_lt, ← Int32.toInt_inj, own_z0, own_z1, own_z6] at hq0_15); (try simp only [own_mz] at hq0_16); (try simp only [Int32.lt_iff_toInt_lt, ← Int32.toInt_inj, own_z0, own_z1, own_z6] at hq0_16); (try simp only [own_mz] at hq0_17); (try simp only [Int32.lt_iff_toInt_lt, ← Int32.toInt_inj, own_z0, own_z1, own_z6] at hq0_17); (try simp only [Int32.lt_iff_toInt_lt, ← Int32.toInt_inj, own_z0, own_z1, own_z6] at ⊢); omega), (by (try clear pre0); (try simp only [own_mz] at hc4_4); (try simp only [Int32.lt_iff_toInt_lt, ← Int32.toInt_inj, own_z0, own_z1, own_z6] at hc4_4); (try simp only [own_mz] at p2_1); (try simp only [Int32.lt_iff_toInt_lt, ← Int32.toInt_inj, own_z0, own_z1, own_z6] at p2_1); (try simp only [own_mz] at p2_2); (try simp only [Int32.lt_iff_toInt_lt, ← Int32.toInt_inj, own_z0, own_z1, own_z6] at p2_2); (try simp only [own_mz] at hq0_15); (try simp only [Int32.lt_iff_toInt_lt, ← Int32.toInt_inj, own_z0, own_z1, own_z6] at hq0_15); (try simp only [own_mz] at hq0_16); (try simp only [Int32.lt_iff_toInt_lt, ← Int32.toInt_inj, own_z0, own_z1, own_z6] at hq0_16); (try simp only [own_mz] at hq0_17); (try simp only [Int32.lt_iff_toInt_lt, ← Int32.toInt_inj, own_z0, own_z1, own_z6] at hq0_17); (try simp only [Int32.lt_iff_toInt_lt, ← Int32.toInt_inj, own_z0, own_z1, own_z6] at ⊢); omega)⟩
  · obtain ⟨T6, X6, e6, st6⟩ := getF X2 hx hZ hown (host := "") (Or.inl (hw _ (List.mem_of_getElem? (i := 48) rfl))) Via.refl rfl f2_6 (g := (mkF m 11 #[.val (.ref a1), .unset, .unset] [(.ref a1), (.ref a1)])) rfl rfl (hb hby d10_11)
    obtain ⟨cq7, q7, q7'⟩ := f2_0.cell
    obtain ⟨_, _, ⟨T7, L7, k7, n7⟩, -, X7, ⟨Lc7, hQ7, l7, y7, z7⟩, st7⟩ := X6.privateBack hx (y := (⟨"querent/hl7/LineReader", "lineEnd", "(I)I"⟩ : MethodName)) hown (mvT hZ (hw _ (List.mem_of_getElem? (i := 105) rfl))) (mvT hZ (hw _ (List.mem_of_getElem? (i := 106) rfl))) (own_selp (args' := #[]) (w := (⟨"querent/hl7/LineReader", "offset", "()J"⟩ : MethodName)) (mvT hZ (hw _ (List.mem_of_getElem? (i := 57) rfl))) rfl (Cond.privateMethod_at (mvP hZ (hw _ (List.mem_of_getElem? (i := 107) rfl)) (args := #[]))) (mvT hZ (hw _ (List.mem_of_getElem? (i := 106) rfl))) (by decide)) (Cond.privateMethod_at (mvP hZ (hw _ (List.mem_of_getElem? (i := 107) rfl)) (args := #[]))) (mvT hZ (hw _ (List.mem_of_getElem? (i := 108) rfl))) (by decide) (backOf (W := 0) (rm16 l Z a0 hw [] a1 x2_1 w_carriageReturnEnds_a1 w_limit_a1 w_block_a1 k_w_block_a1 vl_w_block_a1 T2.heap n0 Z2 f2_3 f2_5 f2_2 y3 (show ¬ (x2_1 < (0 : Int32)) from by have w := p2_3 hc4_4; (try clear pre0); (try simp only [own_mz] at w); (try simp only [Int32.lt_iff_toInt_lt, ← Int32.toInt_inj, own_z0, own_z1, own_z6] at w); (try simp only [own_mz] at p2_1); (try simp only [Int32.lt_iff_toInt_lt, ← Int32.toInt_inj, own_z0, own_z1, own_z6] at p2_1); (try simp only [Int32.lt_iff_toInt_lt, ← Int32.toInt_inj, own_z0, own_z1, own_z6] at ⊢); omega) (show ¬ (w_limit_a1 < x2_1) from by have w := p2_3 hc4_4; (try clear pre0); (try simp only [own_mz] at w); (try simp only [Int32.lt_iff_toInt_lt, ← Int32.toInt_inj, own_z0, own_z1, own_z6] at w); (try simp only [own_mz] at p2_1); (try simp only [Int32.lt_iff_toInt_lt, ← Int32.toInt_inj, own_z0, own_z1, own_z6] at p2_1); (try simp only [Int32.lt_iff_toInt_lt, ← Int32.toInt_inj, own_z0, own_z1, own_z6] at ⊢); omega) hq0_17) hZ (hw _ (List.mem_of_getElem? (i := 108) rfl)) (hw _ (List.mem_of_getElem? (i := 10) rfl)) (by decide) (by decide)) (g := (mkF m 14 #[.val (.ref a1), .unset, .unset] [(.int x2_1), (.ref a1)])) rfl (by rw [hml]; rfl) (Steps.refl _) (a := a1) (by rw [e6]; exact q7) q7' (argsL := [(.int x2_1)]) (rest := []) (lenOf pd_5 rfl) rfl (by show 2 * 0 + _ ≤ _; exact Nat.le_of_eq rfl) (hb hby d10_14) (fun _ _ => ⟨rfl, e6, (by decide : 0 + 0 ≤ _), (by decide : 0 + 0 ≤ _)⟩)
    dsimp only [Pt.U, Pt.locs, Pt.cells, Pt.slots] at X7 l7 y7 z7 st7 hQ7
    subst l7 y7 z7
    obtain ⟨x7_0, rfl, N7q, e7, p7_0, p7_1⟩ := hQ7
    have N7 := Fr.app N2 N7q
    obtain ⟨T8, X8, e8, st8⟩ := getF X7 hx hZ hown (host := "") (Or.inl (hw _ (List.mem_of_getElem? (i := 46) rfl))) Via.refl e7 f2_5 (g := (mkF m 20 #[.val (.ref a1), .val (.int x7_0), .unset] [(.ref a1), (.int x7_0)])) rfl rfl (hb hby d10_20)
    have pre10 : ∀ t, Steps p.tables e below (T8.setTop (mkF m 23 #[.val (.ref a1), .val (.int x7_0), .unset] [(.int w_limit_a1), (.int x7_0)])) t → Steps p.tables e below (s₁.setTop (entryFrame m #[(.ref a1)] 3)) t := fun t kt => pre5 t (by
      show Steps p.tables e below (T2.setTop (mkF m 4 #[.val (.ref a1), .unset, .unset] [(.int x2_0)])) _
      refine XS.ifYes X2.here hx rfl (pc0 := 4) (pc' := 9) rfl (hb hby d10_4) rfl ((if0 _ _).trans (feq hc4_4).2) (by decide) (by decide) ?_
      show Steps p.tables e below (T2.setTop (mkF m 9 #[.val (.ref a1), .unset, .unset] [])) _
      refine XS.aloadN X2.here hx rfl (hb hby d10_9) rfl rfl ?_
      show Steps p.tables e below (T2.setTop (mkF m 10 #[.val (.ref a1), .unset, .unset] [(.ref a1)])) _
      refine XS.aloadN X2.here hx rfl (hb hby d10_10) rfl rfl ?_
      show Steps p.tables e below (T2.setTop (mkF m 11 #[.val (.ref a1), .unset, .unset] [(.ref a1), (.ref a1)])) _
      refine st6 _ ?_
      show Steps p.tables e below (T6.setTop (mkF m 14 #[.val (.ref a1), .unset, .unset] [(.int x2_1), (.ref a1)])) _
      refine st7.trans ?_
      show Steps p.tables e below (T7.setTop (mkF m 17 #[.val (.ref a1), .unset, .unset] [(.int x7_0)])) _
      refine XS.istoreN X7.here hx rfl (hb hby d10_17) rfl (l' := #[.val (.ref a1), .val (.int x7_0), .unset]) rfl ?_
      show Steps p.tables e below (T7.setTop (mkF m 18 #[.val (.ref a1), .val (.int x7_0), .unset] [])) _
      refine XS.iloadN X7.here hx rfl (hb hby d10_18) rfl ?_
      show Steps p.tables e below (T7.setTop (mkF m 19 #[.val (.ref a1), .val (.int x7_0), .unset] [(.int x7_0)])) _
      refine XS.aloadN X7.here hx rfl (hb hby d10_19) rfl rfl ?_
      show Steps p.tables e below (T7.setTop (mkF m 20 #[.val (.ref a1), .val (.int x7_0), .unset] [(.ref a1), (.int x7_0)])) _
      refine st8 _ ?_
      show Steps p.tables e below (T8.setTop (mkF m 23 #[.val (.ref a1), .val (.int x7_0), .unset] [(.int w_limit_a1), (.int x7_0)])) _
      exact kt)
    by_cases hc23_9 : x7_0 = w_limit_a1
    · obtain ⟨T11, X11, e11, st11⟩ := getF X8 hx hZ hown (host := "") (Or.inl (hw _ (List.mem_of_getElem? (i := 48) rfl))) Via.refl e8 f2_6 (g := (mkF m 28 #[.val (.ref a1), .val (.int x7_0), .unset] [(.ref a1), (.int x7_0)])) rfl rfl (hb hby d10_28)
      obtain ⟨cq12, q12, q12'⟩ := f2_0.cell
      obtain ⟨_, _, ⟨T12, L12, k12, n12⟩, -, X12, ⟨Lc12, hQ12, l12, y12, z12⟩, st12⟩ := X11.privateBack hx (y := (⟨"querent/hl7/LineReader", "fill", "()Z"⟩ : MethodName)) hown (mvT hZ (hw _ (List.mem_of_getElem? (i := 86) rfl))) (mvT hZ (hw _ (List.mem_of_getElem? (i := 87) rfl))) (own_selp (args' := #[]) (w := (⟨"querent/hl7/LineReader", "offset", "()J"⟩ : MethodName)) (mvT hZ (hw _ (List.mem_of_getElem? (i := 57) rfl))) rfl (Cond.privateMethod_at (mvP hZ (hw _ (List.mem_of_getElem? (i := 88) rfl)) (args := #[]))) (mvT hZ (hw _ (List.mem_of_getElem? (i := 87) rfl))) (by decide)) (Cond.privateMethod_at (mvP hZ (hw _ (List.mem_of_getElem? (i := 88) rfl)) (args := #[]))) (mvT hZ (hw _ (List.mem_of_getElem? (i := 89) rfl))) (by decide) (backOf (W := 0) (rm13 l Z a0 hw [] a1 T2.heap n0 Z2 f2_1) hZ (hw _ (List.mem_of_getElem? (i := 89) rfl)) (hw _ (List.mem_of_getElem? (i := 10) rfl)) (by decide) (by decide)) (g := (mkF m 34 #[.val (.ref a1), .val (.int x7_0), .val (.int (x7_0 - x2_1))] [(.ref a1)])) rfl (by rw [hml]; rfl) (Steps.refl _) (a := a1) (by rw [e11]; exact q12) q12' (argsL := []) (rest := []) (lenOf pd_3 rfl) rfl (by show 2 * 0 + _ ≤ _; exact Nat.le_of_eq rfl) (hb hby d10_34) (fun _ _ => ⟨rfl, e11, (by decide : 0 + 0 ≤ _), (by decide : 0 + 0 ≤ _)⟩)
      dsimp only [Pt.U, Pt.locs, Pt.cells, Pt.slots] at X12 l12 y12 z12 st12 hQ12
      subst l12 y12 z12
      obtain ⟨rfl, N12q, e12⟩ := hQ12
      have N12 := Fr.app N7 N12q
      obtain ⟨cq13, q13, q13'⟩ := f2_0.cell
      obtain ⟨_, _, ⟨T13, L13, k13, n13⟩, -, X13, ⟨Lc13, hQ13, l13, y13, z13⟩, st13⟩ := X12.privateBack hx (y := (⟨"querent/hl7/LineReader", "endText", "()V"⟩ : MethodName)) hown (mvT hZ (hw _ (List.mem_of_getElem? (i := 90) rfl))) (mvT hZ (hw _ (List.mem_of_getElem? (i := 91) rfl))) (own_selp (args' := #[]) (w := (⟨"querent/hl7/LineReader", "offset", "()J"⟩ : MethodName)) (mvT hZ (hw _ (List.mem_of_getElem? (i := 57) rfl))) rfl (Cond.privateMethod_at (mvP hZ (hw _ (List.mem_of_getElem? (i := 92) rfl)) (args := #[]))) (mvT hZ (hw _ (List.mem_of_getElem? (i := 91) rfl))) (by decide)) (Cond.privateMethod_at (mvP hZ (hw _ (List.mem_of_getElem? (i := 92) rfl)) (args := #[]))) (mvT hZ (hw _ (List.mem_of_getElem? (i := 93) rfl))) (by decide) (backOf (W := 0) (rm14 l Z a0 hw [] a1 w_block_a1 w_carriageReturnEnds_a1 w_base_a1 w_limit_a1 x2_1 x2_2 x2_3 w_keeping_a1 w_kept_a1 x2_4 x2_5 x2_6 T2.heap n0 Z2 f2_0 f2_1 f2_2 f2_3 f2_4 f2_5 f2_6 f2_7 f2_8 f2_9 f2_10 f2_11 f2_12 f2_13 g_a1) hZ (hw _ (List.mem_of_getElem? (i := 93) rfl)) (hw _ (List.mem_of_getElem? (i := 10) rfl)) (by decide) (by decide)) (g := (mkF m 41 #[.val (.ref a1), .val (.int x7_0), .val (.int (x7_0 - x2_1))] [(.ref a1)])) rfl (by rw [hml]; rfl) (Steps.refl _) (a := a1) (by rw [e12]; exact q13) q13' (argsL := []) (rest := []) (lenOf pd_4 rfl) rfl (by show 2 * 0 + _ ≤ _; exact Nat.le_of_eq rfl) (hb hby d10_41) (fun _ _ => ⟨rfl, e12, (by decide : 0 + 0 ≤ _), (by decide : 0 + 0 ≤ _)⟩)
      dsimp only [Pt.U, Pt.locs, Pt.cells, Pt.slots] at X13 l13 y13 z13 st13 hQ13
      subst l13 y13 z13
      obtain ⟨rfl, N13q, K13q, f13_0, f13_1, f13_2, f13_3, f13_4, f13_5, f13_6, f13_7, f13_8, f13_9, f13_10, f13_11, f13_12, f13_13⟩ := hQ13
      have y14 := (y3.keep K13q (ninS ne_w_block_a1_a1 nin0))
      have K13 : Keep h0 T13.heap [a1] := (K2).trans K13q (allS (P := fun x => x ∈ [a1] ∨ h0.size ≤ x) (Or.inl (List.mem_of_getElem? (i := 0) rfl)) all0)
      have Z13 : n0 ≤ T13.heap.size := Nat.le_trans Z2 K13q.1
      have N13 := Fr.app N12 N13q
      obtain ⟨fs, hr, hrun, hended, hW, hsame⟩ := X13.leave (v := some (.int (1 : Int32))) (fun h => by rw [Bd.returns] at h; cases h)
      refine ⟨_, _, pre10 _ ?_, hrun, hended, _, _, rfl, ?_, ⟨_, rfl⟩, hW, hsame.mono (by decide) (by decide)⟩
      · show Steps p.tables e below (T8.setTop (mkF m 23 #[.val (.ref a1), .val (.int x7_0), .unset] [(.int w_limit_a1), (.int x7_0)])) _
        refine XS.icmpNo X8.here hx rfl (hb hby d10_23) rfl (teq hc23_9).2 ?_
        show Steps p.tables e below (T8.setTop (mkF m 26 #[.val (.ref a1), .val (.int x7_0), .unset] [])) _
        refine XS.iloadN X8.here hx rfl (hb hby d10_26) rfl ?_
        show Steps p.tables e below (T8.setTop (mkF m 27 #[.val (.ref a1), .val (.int x7_0), .unset] [(.int x7_0)])) _
        refine XS.aloadN X8.here hx rfl (hb hby d10_27) rfl rfl ?_
        show Steps p.tables e below (T8.setTop (mkF m 28 #[.val (.ref a1), .val (.int x7_0), .unset] [(.ref a1), (.int x7_0)])) _
        refine st11 _ ?_
        show Steps p.tables e below (T11.setTop (mkF m 31 #[.val (.ref a1), .val (.int x7_0), .unset] [(.int x2_1), (.int x7_0)])) _
        refine XS.isub X11.here hx rfl (hb hby d10_31) rfl ?_
        show Steps p.tables e below (T11.setTop (mkF m 32 #[.val (.ref a1), .val (.int x7_0), .unset] [(.int (x7_0 - x2_1))])) _
        refine XS.istoreN X11.here hx rfl (hb hby d10_32) rfl (l' := #[.val (.ref a1), .val (.int x7_0), .val (.int (x7_0 - x2_1))]) rfl ?_
        show Steps p.tables e below (T11.setTop (mkF m 33 #[.val (.ref a1), .val (.int x7_0), .val (.int (x7_0 - x2_1))] [])) _
        refine XS.aloadN X11.here hx rfl (hb hby d10_33) rfl rfl ?_
        show Steps p.tables e below (T11.setTop (mkF m 34 #[.val (.ref a1), .val (.int x7_0), .val (.int (x7_0 - x2_1))] [(.ref a1)])) _
        refine st12.trans ?_
        show Steps p.tables e below (T12.setTop (mkF m 37 #[.val (.ref a1), .val (.int x7_0), .val (.int (x7_0 - x2_1))] [(.int (0 : Int32))])) _
        refine XS.ifNo X12.here hx rfl (hb hby d10_37) rfl ((if0 _ _).trans (teq (by decide : (0 : Int32) = (0 : Int32))).2) ?_
        show Steps p.tables e below (T12.setTop (mkF m 40 #[.val (.ref a1), .val (.int x7_0), .val (.int (x7_0 - x2_1))] [])) _
        refine XS.aloadN X12.here hx rfl (hb hby d10_40) rfl rfl ?_
        show Steps p.tables e below (T12.setTop (mkF m 41 #[.val (.ref a1), .val (.int x7_0), .val (.int (x7_0 - x2_1))] [(.ref a1)])) _
        refine st13.trans ?_
        show Steps p.tables e below (T13.setTop (mkF m 44 #[.val (.ref a1), .val (.int x7_0), .val (.int (x7_0 - x2_1))] [])) _
        refine XS.iconst X13.here hx rfl (hb hby d10_44) ?_
        show Steps p.tables e below (T13.setTop (mkF m 45 #[.val (.ref a1), .val (.int x7_0), .val (.int (x7_0 - x2_1))] [(.int (1 : Int32))])) _
        exact retN X13 hx (t := .boolean) Bd.returns (by simp) (hb hby d10_45) hr
      · show Q10 Z a1 w_block_a1 w_carriageReturnEnds_a1 w_base_a1 w_limit_a1 w_start_a1 w_end_a1 w_next_a1 w_keeping_a1 w_kept_a1 w_ended_a1 w_afterCarriageReturn_a1 w_number_a1 k_w_block_a1 vl_w_block_a1 h0 n0 _ T13.heap _
        exact ⟨(1 : Int32), x2_1, w_limit_a1, w_limit_a1, (0 : Int32), x2_5, x2_6, rfl, N13, (K13), f13_0, f13_1, f13_2, f13_3, f13_4, f13_5, f13_6, f13_7, f13_8, f13_9, f13_10, f13_11, f13_12, f13_13, (p2_0), (by have w := p2_3 hc4_4; (try clear pre0); (try simp only [own_mz] at w); (try simp only [Int32.lt_iff_toInt_lt, ← Int32.toInt_inj, own_z0, own_z1, own_z6] at w); (try simp only [own_mz] at hc4_4); (try simp only [Int32.lt_iff_toInt_lt, ← Int32.toInt_inj, own_z0, own_z1, own_z6] at hc4_4); (try simp only [own_mz] at hc23_9); (try simp only [Int32.lt_iff_toInt_lt, ← Int32.toInt_inj, own_z0, own_z1, own_z6] at hc23_9); (try simp only [own_mz] at p2_1); (try simp only [Int32.lt_iff_toInt_lt, ← Int32.toInt_inj, own_z0, own_z1, own_z6] at p2_1); (try simp only [own_mz] at p2_2); (try simp only [Int32.lt_iff_toInt_lt, ← Int32.toInt_inj, own_z0, own_z1, own_z6] at p2_2); (try simp only [own_mz] at p7_0); (try simp only [Int32.lt_iff_toInt_lt, ← Int32.toInt_inj, own_z0, own_z1, own_z6] at p7_0); (try simp only [own_mz] at p7_1); (try simp only [Int32.lt_iff_toInt_lt, ← Int32.toInt_inj, own_z0, own_z1, own_z6] at p7_1); (try simp only [own_mz] at hq0_15); (try simp only [Int32.lt_iff_toInt_lt, ← Int32.toInt_inj, own_z0, own_z1, own_z6] at hq0_15); (try simp only [own_mz] at hq0_16); (try simp only [Int32.lt_iff_toInt_lt, ← Int32.toInt_inj, own_z0, own_z1, own_z6] at hq0_16); (try simp only [own_mz] at hq0_17); (try simp only [Int32.lt_iff_toInt_lt, ← Int32.toInt_inj, own_z0, own_z1, own_z6] at hq0_17); (try simp only [Int32.lt_iff_toInt_lt, ← Int32.toInt_inj, own_z0, own_z1, own_z6] at ⊢); omega), (by have w := p2_3 hc4_4; (try clear pre0); (try simp only [own_mz] at w); (try simp only [Int32.lt_iff_toInt_lt, ← Int32.toInt_inj, own_z0, own_z1, own_z6] at w); (try simp only [own_mz] at hc4_4); (try simp only [Int32.lt_iff_toInt_lt, ← Int32.toInt_inj, own_z0, own_z1, own_z6] at hc4_4); (try simp only [own_mz] at hc23_9); (try simp only [Int32.lt_iff_toInt_lt, ← Int32.toInt_inj, own_z0, own_z1, own_z6] at hc23_9); (try simp only [own_mz] at p2_1); (try simp only [Int32.lt_iff_toInt_lt, ← Int32.toInt_inj, own_z0, own_z1, own_z6] at p2_1); (try simp only [own_mz] at p2_2); (try simp only [Int32.lt_iff_toInt_lt, ← Int32.toInt_inj, own_z0, own_z1, own_z6] at p2_2); (try simp only [own_mz] at p7_0); (try simp only [Int32.lt_iff_toInt_lt, ← Int32.toInt_inj, own_z0, own_z1, own_z6] at p7_0); (try simp only [own_mz] at p7_1); (try simp only [Int32.lt_iff_toInt_lt, ← Int32.toInt_inj, own_z0, own_z1, own_z6] at p7_1); (try simp only [own_mz] at hq0_15); (try simp only [Int32.lt_iff_toInt_lt, ← Int32.toInt_inj, own_z0, own_z1, own_z6] at hq0_15); (try simp only [own_mz] at hq0_16); (try simp only [Int32.lt_iff_toInt_lt, ← Int32.toInt_inj, own_z0, own_z1, own_z6] at hq0_16); (try simp only [own_mz] at hq0_17); (try simp only [Int32.lt_iff_toInt_lt, ← Int32.toInt_inj, own_z0, own_z1, own_z6] at hq0_17); (try simp only [Int32.lt_iff_toInt_lt, ← Int32.toInt_inj, own_z0, own_z1, own_z6] at ⊢); omega)⟩
    · obtain ⟨cq15, q15, q15'⟩ := f2_0.cell
      obtain ⟨_, _, ⟨T15, L15, k15, n15⟩, -, X15, ⟨Lc15, hQ15, l15, y15, z15⟩, st15⟩ := X8.privateBack hx (y := (⟨"querent/hl7/LineReader", "endLine", "(I)V"⟩ : MethodName)) hown (mvT hZ (hw _ (List.mem_of_getElem? (i := 110) rfl))) (mvT hZ (hw _ (List.mem_of_getElem? (i := 111) rfl))) (own_selp (args' := #[]) (w := (⟨"querent/hl7/LineReader", "offset", "()J"⟩ : MethodName)) (mvT hZ (hw _ (List.mem_of_getElem? (i := 57) rfl))) rfl (Cond.privateMethod_at (mvP hZ (hw _ (List.mem_of_getElem? (i := 112) rfl)) (args := #[]))) (mvT hZ (hw _ (List.mem_of_getElem? (i := 111) rfl))) (by decide)) (Cond.privateMethod_at (mvP hZ (hw _ (List.mem_of_getElem? (i := 112) rfl)) (args := #[]))) (mvT hZ (hw _ (List.mem_of_getElem? (i := 113) rfl))) (by decide) (backOf (W := 0) (rm17 l Z a0 hw [] a1 x7_0 w_block_a1 w_carriageReturnEnds_a1 w_base_a1 w_limit_a1 x2_1 x2_2 x2_3 w_keeping_a1 w_kept_a1 x2_4 x2_5 x2_6 k_w_block_a1 vl_w_block_a1 T2.heap n0 Z2 f2_0 f2_1 f2_2 f2_3 f2_4 f2_5 f2_6 f2_7 f2_8 f2_9 f2_10 f2_11 f2_12 f2_13 y3 g_a1 ne_w_block_a1_a1 (show ¬ (x7_0 < (0 : Int32)) from by have w := p2_3 hc4_4; (try clear pre0); (try simp only [own_mz] at w); (try simp only [Int32.lt_iff_toInt_lt, ← Int32.toInt_inj, own_z0, own_z1, own_z6] at w); (try simp only [own_mz] at hc4_4); (try simp only [Int32.lt_iff_toInt_lt, ← Int32.toInt_inj, own_z0, own_z1, own_z6] at hc4_4); (try simp only [own_mz] at hc23_9); (try simp only [Int32.lt_iff_toInt_lt, ← Int32.toInt_inj, own_z0, own_z1, own_z6] at hc23_9); (try simp only [own_mz] at p2_1); (try simp only [Int32.lt_iff_toInt_lt, ← Int32.toInt_inj, own_z0, own_z1, own_z6] at p2_1); (try simp only [own_mz] at p2_2); (try simp only [Int32.lt_iff_toInt_lt, ← Int32.toInt_inj, own_z0, own_z1, own_z6] at p2_2); (try simp only [own_mz] at p7_0); (try simp only [Int32.lt_iff_toInt_lt, ← Int32.toInt_inj, own_z0, own_z1, own_z6] at p7_0); (try simp only [own_mz] at p7_1); (try simp only [Int32.lt_iff_toInt_lt, ← Int32.toInt_inj, own_z0, own_z1, own_z6] at p7_1); (try simp only [own_mz] at hq0_15); (try simp only [Int32.lt_iff_toInt_lt, ← Int32.toInt_inj, own_z0, own_z1, own_z6] at hq0_15); (try simp only [own_mz] at hq0_16); (try simp only [Int32.lt_iff_toInt_lt, ← Int32.toInt_inj, own_z0, own_z1, own_z6] at hq0_16); (try simp only [own_mz] at hq0_17); (try simp only [Int32.lt_iff_toInt_lt, ← Int32.toInt_inj, own_z0, own_z1, own_z6] at hq0_17); (try simp only [Int32.lt_iff_toInt_lt, ← Int32.toInt_inj, own_z0, own_z1, own_z6] at ⊢); omega) (show x7_0 < (6 : Int32) from by have w := p2_3 hc4_4; (try clear pre0); (try simp only [own_mz] at w); (try simp only [Int32.lt_iff_toInt_lt, ← Int32.toInt_inj, own_z0, own_z1, own_z6] at w); (try simp only [own_mz] at hc4_4); (try simp only [Int32.lt_iff_toInt_lt, ← Int32.toInt_inj, own_z0, own_z1, own_z6] at hc4_4); (try simp only [own_mz] at hc23_9); (try simp only [Int32.lt_iff_toInt_lt, ← Int32.toInt_inj, own_z0, own_z1, own_z6] at hc23_9); (try simp only [own_mz] at p2_1); (try simp only [Int32.lt_iff_toInt_lt, ← Int32.toInt_inj, own_z0, own_z1, own_z6] at p2_1); (try simp only [own_mz] at p2_2); (try simp only [Int32.lt_iff_toInt_lt, ← Int32.toInt_inj, own_z0, own_z1, own_z6] at p2_2); (try simp only [own_mz] at p7_0); (try simp only [Int32.lt_iff_toInt_lt, ← Int32.toInt_inj, own_z0, own_z1, own_z6] at p7_0); (try simp only [own_mz] at p7_1); (try simp only [Int32.lt_iff_toInt_lt, ← Int32.toInt_inj, own_z0, own_z1, own_z6] at p7_1); (try simp only [own_mz] at hq0_15); (try simp only [Int32.lt_iff_toInt_lt, ← Int32.toInt_inj, own_z0, own_z1, own_z6] at hq0_15); (try simp only [own_mz] at hq0_16); (try simp only [Int32.lt_iff_toInt_lt, ← Int32.toInt_inj, own_z0, own_z1, own_z6] at hq0_16); (try simp only [own_mz] at hq0_17); (try simp only [Int32.lt_iff_toInt_lt, ← Int32.toInt_inj, own_z0, own_z1, own_z6] at hq0_17); (try simp only [Int32.lt_iff_toInt_lt, ← Int32.toInt_inj, own_z0, own_z1, own_z6] at ⊢); omega)) hZ (hw _ (List.mem_of_getElem? (i := 113) rfl)) (hw _ (List.mem_of_getElem? (i := 10) rfl)) (by decide) (by decide)) (g := (mkF m 62 #[.val (.ref a1), .val (.int x7_0), .unset] [(.int x7_0), (.ref a1)])) rfl (by rw [hml]; rfl) (Steps.refl _) (a := a1) (by rw [e8]; exact q15) q15' (argsL := [(.int x7_0)]) (rest := []) (lenOf pd_6 rfl) rfl (by show 2 * 0 + _ ≤ _; exact Nat.le_of_eq rfl) (hb hby d10_62) (fun _ _ => ⟨rfl, e8, (by decide : 0 + 0 ≤ _), (by decide : 0 + 0 ≤ _)⟩)
      dsimp only [Pt.U, Pt.locs, Pt.cells, Pt.slots] at X15 l15 y15 z15 st15 hQ15
      subst l15 y15 z15
      obtain ⟨rfl, N15q, K15q, f15_0, f15_1, f15_2, f15_3, f15_4, f15_5, f15_6, f15_7, f15_8, f15_9, f15_10, f15_11, f15_12, f15_13⟩ := hQ15
      have y16 := (y3.keep K15q (ninS ne_w_block_a1_a1 nin0))
      have K15 : Keep h0 T15.heap [a1] := (K2).trans K15q (allS (P := fun x => x ∈ [a1] ∨ h0.size ≤ x) (Or.inl (List.mem_of_getElem? (i := 0) rfl)) all0)
      have Z15 : n0 ≤ T15.heap.size := Nat.le_trans Z2 K15q.1
      have N15 := Fr.app N7 N15q
      obtain ⟨fs, hr, hrun, hended, hW, hsame⟩ := X15.leave (v := some (.int (1 : Int32))) (fun h => by rw [Bd.returns] at h; cases h)
      refine ⟨_, _, pre10 _ ?_, hrun, hended, _, _, rfl, ?_, ⟨_, rfl⟩, hW, hsame.mono (by decide) (by decide)⟩
      · show Steps p.tables e below (T8.setTop (mkF m 23 #[.val (.ref a1), .val (.int x7_0), .unset] [(.int w_limit_a1), (.int x7_0)])) _
        refine XS.icmpYes X8.here hx rfl (pc0 := 23) (pc' := 60) rfl (hb hby d10_23) rfl (feq hc23_9).2 (by decide) (by decide) ?_
        show Steps p.tables e below (T8.setTop (mkF m 60 #[.val (.ref a1), .val (.int x7_0), .unset] [])) _
        refine XS.aloadN X8.here hx rfl (hb hby d10_60) rfl rfl ?_
        show Steps p.tables e below (T8.setTop (mkF m 61 #[.val (.ref a1), .val (.int x7_0), .unset] [(.ref a1)])) _
        refine XS.iloadN X8.here hx rfl (hb hby d10_61) rfl ?_
        show Steps p.tables e below (T8.setTop (mkF m 62 #[.val (.ref a1), .val (.int x7_0), .unset] [(.int x7_0), (.ref a1)])) _
        refine st15.trans ?_
        show Steps p.tables e below (T15.setTop (mkF m 65 #[.val (.ref a1), .val (.int x7_0), .unset] [])) _
        refine XS.iconst X15.here hx rfl (hb hby d10_65) ?_
        show Steps p.tables e below (T15.setTop (mkF m 66 #[.val (.ref a1), .val (.int x7_0), .unset] [(.int (1 : Int32))])) _
        exact retN X15 hx (t := .boolean) Bd.returns (by simp) (hb hby d10_66) hr
      · show Q10 Z a1 w_block_a1 w_carriageReturnEnds_a1 w_base_a1 w_limit_a1 w_start_a1 w_end_a1 w_next_a1 w_keeping_a1 w_kept_a1 w_ended_a1 w_afterCarriageReturn_a1 w_number_a1 k_w_block_a1 vl_w_block_a1 h0 n0 _ T15.heap _
        exact ⟨(1 : Int32), x2_1, x7_0, (x7_0 + (1 : Int32)), (1 : Int32), (F17_afterCarriageReturn_a1 x7_0 vl_w_block_a1), x2_6, rfl, N15, (K15), f15_0, f15_1, f15_2, f15_3, f15_4, f15_5, f15_6, f15_7, f15_8, f15_9, f15_10, f15_11, f15_12, f15_13, (p2_0), (by have w := p2_3 hc4_4; (try clear pre0); have z1 := c_iadd x7_0 (1 : Int32); have z2 := rng32 (x7_0 + (1 : Int32)); (try simp only [own_mz] at w); (try simp only [Int32.lt_iff_toInt_lt, ← Int32.toInt_inj, own_z0, own_z1, own_z6] at w); (try simp only [own_mz] at hc4_4); (try simp only [Int32.lt_iff_toInt_lt, ← Int32.toInt_inj, own_z0, own_z1, own_z6] at hc4_4); (try simp only [own_mz] at hc23_9); (try simp only [Int32.lt_iff_toInt_lt, ← Int32.toInt_inj, own_z0, own_z1, own_z6] at hc23_9); (try simp only [own_mz] at p2_1); (try simp only [Int32.lt_iff_toInt_lt, ← Int32.toInt_inj, own_z0, own_z1, own_z6] at p2_1); (try simp only [own_mz] at p2_2); (try simp only [Int32.lt_iff_toInt_lt, ← Int32.toInt_inj, own_z0, own_z1, own_z6] at p2_2); (try simp only [own_mz] at p7_0); (try simp only [Int32.lt_iff_toInt_lt, ← Int32.toInt_inj, own_z0, own_z1, own_z6] at p7_0); (try simp only [own_mz] at p7_1); (try simp only [Int32.lt_iff_toInt_lt, ← Int32.toInt_inj, own_z0, own_z1, own_z6] at p7_1); (try simp only [own_mz] at hq0_15); (try simp only [Int32.lt_iff_toInt_lt, ← Int32.toInt_inj, own_z0, own_z1, own_z6] at hq0_15); (try simp only [own_mz] at hq0_16); (try simp only [Int32.lt_iff_toInt_lt, ← Int32.toInt_inj, own_z0, own_z1, own_z6] at hq0_16); (try simp only [own_mz] at hq0_17); (try simp only [Int32.lt_iff_toInt_lt, ← Int32.toInt_inj, own_z0, own_z1, own_z6] at hq0_17); (try simp only [own_mz] at z1); (try simp only [Int32.lt_iff_toInt_lt, ← Int32.toInt_inj, own_z0, own_z1, own_z6] at z1); (try simp only [own_mz] at z2); (try simp only [Int32.lt_iff_toInt_lt, ← Int32.toInt_inj, own_z0, own_z1, own_z6] at z2); (try simp only [Int32.lt_iff_toInt_lt, ← Int32.toInt_inj, own_z0, own_z1, own_z6] at ⊢); omega), (by have w := p2_3 hc4_4; (try clear pre0); have z1 := c_iadd x7_0 (1 : Int32); have z2 := rng32 (x7_0 + (1 : Int32)); (try simp only [own_mz] at w); (try simp only [Int32.lt_iff_toInt_lt, ← Int32.toInt_inj, own_z0, own_z1, own_z6] at w); (try simp only [own_mz] at hc4_4); (try simp only [Int32.lt_iff_toInt_lt, ← Int32.toInt_inj, own_z0, own_z1, own_z6] at hc4_4); (try simp only [own_mz] at hc23_9); (try simp only [Int32.lt_iff_toInt_lt, ← Int32.toInt_inj, own_z0, own_z1, own_z6] at hc23_9); (try simp only [own_mz] at p2_1); (try simp only [Int32.lt_iff_toInt_lt, ← Int32.toInt_inj, own_z0, own_z1, own_z6] at p2_1); (try simp only [own_mz] at p2_2); (try simp only [Int32.lt_iff_toInt_lt, ← Int32.toInt_inj, own_z0, own_z1, own_z6] at p2_2); (try simp only [own_mz] at p7_0); (try simp only [Int32.lt_iff_toInt_lt, ← Int32.toInt_inj, own_z0, own_z1, own_z6] at p7_0); (try simp only [own_mz] at p7_1); (try simp only [Int32.lt_iff_toInt_lt, ← Int32.toInt_inj, own_z0, own_z1, own_z6] at p7_1); (try simp only [own_mz] at hq0_15); (try simp only [Int32.lt_iff_toInt_lt, ← Int32.toInt_inj, own_z0, own_z1, own_z6] at hq0_15); (try simp only [own_mz] at hq0_16); (try simp only [Int32.lt_iff_toInt_lt, ← Int32.toInt_inj, own_z0, own_z1, own_z6] at hq0_16); (try simp only [own_mz] at hq0_17); (try simp only [Int32.lt_iff_toInt_lt, ← Int32.toInt_inj, own_z0, own_z1, own_z6] at hq0_17); (try simp only [own_mz] at z1); (try simp only [Int32.lt_iff_toInt_lt, ← Int32.toInt_inj, own_z0, own_z1, own_z6] at z1); (try simp only [own_mz] at z2); (try simp only [Int32.lt_iff_toInt_lt, ← Int32.toInt_inj, own_z0, own_z1, own_z6] at z2); (try simp only [Int32.lt_iff_toInt_lt, ← Int32.toInt_inj, own_z0, own_z1, own_z6] at ⊢); omega)⟩
theorem pd_7 : parseMethodDescriptor "(I)B" = some ⟨[.int], some .byte⟩ := by decide +kernel
theorem pd_8 : parseMethodDescriptor "([BIILquerent/hl7/LineReader$Ends;)V" = some ⟨[(.array .byte), .int, .int, (.object "querent/hl7/LineReader$Ends")], none⟩ := by decide +kernel
theorem pd_9 : parseMethodDescriptor "()J" = some ⟨[], some .long⟩ := by decide +kernel
theorem pd_10 : parseMethodDescriptor "()I" = some ⟨[], some .int⟩ := by decide +kernel
theorem pd_11 : parseMethodDescriptor "()[B" = some ⟨[], some (.array .byte)⟩ := by decide +kernel
theorem ef_0 (m : MethodId) (p1 : Int32) (p2 : Int32) : entryFrame m #[(.int p1), (.int p2)] maxLocals = mkF m 0 #[.val (.int p1), .val (.int p2), .unset, .unset, .unset, .unset, .unset, .unset, .unset, .unset, .unset, .unset] [] := by first | (simp [entryFrame, mkF, argsToLocals, Value.category, maxLocals]; done) | rfl
def own_from (p2 : Int32) : Int32 := ((p2 &&& (7 : Int32)) % (7 : Int32))
def own_to (p2 : Int32) : Int32 := ((own_from p2) + ((((p2.toUInt32 >>> ((3 : Int32) &&& 31).toUInt32).toInt32) &&& (7 : Int32)) % ((7 : Int32) - (own_from p2))))
def own_rd (p2 : Int32) : Int32 := (((p2.toUInt32 >>> ((7 : Int32) &&& 31).toUInt32).toInt32) &&& (3 : Int32))
theorem own_fr (x : Int32) : 0 ≤ (own_from x).toInt ∧ (own_from x).toInt < 7 := by
  have e : (x &&& (7 : Int32)).toInt = x.toInt % 2 ^ 3 := Jvm.Kit.i32_mask x 7 (k := 3) (by decide) (by decide)
  unfold own_from
  rw [Int32.toInt_mod, e]
  have : (7 : Int32).toInt = 7 := rfl
  rw [this, Int.tmod_eq_emod_of_nonneg (by omega)]; omega
theorem own_sv (x : Int32) : ((7 : Int32) - (own_from x)).toInt = 7 - (own_from x).toInt := by
  have h := own_fr x
  exact Jvm.Kit.i32_sub (by have : (7 : Int32).toInt = 7 := rfl; omega) (by have : (7 : Int32).toInt = 7 := rfl; omega)
theorem own_nz (x : Int32) : ¬ (((7 : Int32) - (own_from x)) = (0 : Int32)) := fun q => by
  have h := own_fr x; have e := own_sv x
  rw [q] at e; have : (0 : Int32).toInt = 0 := rfl; omega
theorem own_ft (x : Int32) : ¬ ((own_from x) < (0 : Int32)) ∧ ¬ ((own_to x) < (own_from x)) ∧ ¬ ((6 : Int32) < (own_to x)) := by
  have h := own_fr x; have e := own_sv x
  have m : ∀ y : Int32, (y &&& (7 : Int32)).toInt = y.toInt % 2 ^ 3 := fun y => Jvm.Kit.i32_mask y 7 (k := 3) (by decide) (by decide)
  have r : ((((x.toUInt32 >>> ((3 : Int32) &&& 31).toUInt32).toInt32) &&& (7 : Int32)) % ((7 : Int32) - (own_from x))).toInt = ((((x.toUInt32 >>> ((3 : Int32) &&& 31).toUInt32).toInt32)).toInt % 2 ^ 3) % (7 - (own_from x).toInt) := by
    rw [Int32.toInt_mod, m, e]; exact Int.tmod_eq_emod_of_nonneg (by omega)
  have r1 := Int.emod_nonneg ((((x.toUInt32 >>> ((3 : Int32) &&& 31).toUInt32).toInt32)).toInt % 2 ^ 3) (show 7 - (own_from x).toInt ≠ 0 by omega)
  have r2 := Int.emod_lt_of_pos ((((x.toUInt32 >>> ((3 : Int32) &&& 31).toUInt32).toInt32)).toInt % 2 ^ 3) (show 0 < 7 - (own_from x).toInt by omega)
  have t : (own_to x).toInt = (own_from x).toInt + ((((x.toUInt32 >>> ((3 : Int32) &&& 31).toUInt32).toInt32) &&& (7 : Int32)) % ((7 : Int32) - (own_from x))).toInt := by
    unfold own_to
    exact Jvm.Kit.i32_add (by omega) (by omega)
  rw [r] at t
  simp only [Int32.lt_iff_toInt_lt, own_z0, own_z6]
  omega
theorem own_r1 {r : Int32} (h : ¬ ((0 : Int32) < r)) : ¬ ((1 : Int32) < r) := by
  simp only [Int32.lt_iff_toInt_lt, own_z0, own_z1] at *; omega
theorem own_r2 {r : Int32} (h : ¬ ((1 : Int32) < r)) : ¬ ((2 : Int32) < r) := by
  have : (2 : Int32).toInt = 2 := rfl
  simp only [Int32.lt_iff_toInt_lt, own_z1, this] at *; omega
theorem own_dj {xs nx v lim : Int32} (h : xs = nx ∨ (xs = (nx + (1 : Int32)) ∧ v = (10 : Int32) ∧ nx < lim)) (q : ¬ (xs = nx)) : xs = (nx + (1 : Int32)) ∧ v = (10 : Int32) ∧ nx < lim := h.resolve_left q
theorem own_off (x : Int32) {nx : Int32} (h0 : ¬ (nx < (0 : Int32))) (h1 : ¬ ((own_to x) < nx)) : (nx.toInt64) = ((((-(own_from x)).toInt64) + (nx.toInt64)) + ((own_from x).toInt64)) := by
  have h := own_fr x; have f := own_ft x
  have q1 := c_ineg (own_from x); have q2 := rng32 (-(own_from x)); have q3 := rng32 nx
  have a1 := c_ladd ((-(own_from x)).toInt64) (nx.toInt64); have a2 := rng64 (((-(own_from x)).toInt64) + (nx.toInt64))
  have b1 := c_ladd (((-(own_from x)).toInt64) + (nx.toInt64)) ((own_from x).toInt64); have b2 := rng64 ((((-(own_from x)).toInt64) + (nx.toInt64)) + ((own_from x).toInt64))
  simp only [c_i2l] at a1 a2 b1 b2
  simp only [Int32.lt_iff_toInt_lt, own_z0, own_z6] at h0 h1 f
  apply Int64.toInt_inj.mp
  rw [c_i2l]; omega
def Q0 (Z : State) (p1 : Int32) (p2 : Int32) (st_LINE_FEED : Addr) (st_CARRIAGE_RETURN_OR_LINE_FEED : Addr) (h0 : Heap) (n0 : Nat) (v : Option Value) (h : Heap) (L : List Loc) : Prop := v = some (.int (1 : Int32)) ∧ Fr n0 L
set_option maxRecDepth 65536 in
set_option maxHeartbeats 40000000 in
theorem rm0 (l : Launch) (Z : State) (a0 : Array Value) (hw : ∀ d ∈ tables_1, d.before a0 Z = true) (ws : List Jvm.Cond) (p1 : Int32) (p2 : Int32) (st_LINE_FEED : Addr) (st_CARRIAGE_RETURN_OR_LINE_FEED : Addr) (h0 : Heap) (n0 : Nat) (Z0 : n0 ≤ h0.size) (S_LINE_FEED : Sta Z h0 "querent/hl7/LineReader$Ends" "LINE_FEED" "Lquerent/hl7/LineReader$Ends;" (.ref st_LINE_FEED)) (S_CARRIAGE_RETURN_OR_LINE_FEED : Sta Z h0 "querent/hl7/LineReader$Ends" "CARRIAGE_RETURN_OR_LINE_FEED" "Lquerent/hl7/LineReader$Ends;" (.ref st_CARRIAGE_RETURN_OR_LINE_FEED)) :
    MetFree l x (head1 (Jvm.Cond.code x code maxLocals ret :: ws) room_1) (fun a U => a = #[(.int p1), (.int p2)] ∧ Z.Warmed39 U.vm ∧ U.heap = h0) (fun _ _ _ _ _ => True) (fun _ U o U' => ∃ v L, o = .returned v ∧ Q0 Z p1 p2 st_LINE_FEED st_CARRIAGE_RETURN_OR_LINE_FEED h0 n0 v U'.heap L ∧ ReturnedEndW U o U' L room_1.cells room_1.slots) := by
  refine MetFree.of_bodySF (plainFor_of_name pn_0) hisR ?_
  intro p e s m args below meth c s₁ Bd hml0 hP hK
  obtain ⟨rfl, hZ, hh⟩ := hP
  have hx := Bd.exec
  have hby := Bd.bytes
  have hml : c.maxLocals = 12 := hml0
  have hown : s.vm.findClass "querent/hl7/LineReaderKeepFromNextPinLaw" = some m.cls := findClass_of_methodNamed Bd.named
  have hnm := (name_of_methodNamed Bd.named Bd.method).1
  have X0 : Stand p l e room_1 s m #[(.int p1), (.int p2)] below meth c s₁ [] 0 0 := Stand.of_body Bd
  have e0 : s₁.heap = h0 := by rw [← hh, Bd.state]; rfl
  have N0 := Fr.nil n0
  have pre0 : ∀ t, Steps p.tables e below (s₁.setTop (mkF m 0 #[.val (.int p1), .val (.int p2), .unset, .unset, .unset, .unset, .unset, .unset, .unset, .unset, .unset, .unset] [])) t → Steps p.tables e below (s₁.setTop (entryFrame m #[(.int p1), (.int p2)] maxLocals)) t := fun t k => castTop (ef_0 m p1 p2) k
  obtain ⟨T3, h3, k3, X3, e3, E3, A3, st3⟩ := newP X0 hx hZ (hw _ (List.mem_of_getElem? (i := 0) rfl)) e0 (g := (mkF m 2 #[.val (.int p1), .val (.int p2), .unset, .unset, .unset, .unset, .unset, .unset, .unset, .unset, .unset, .unset] [(.int (6 : Int32))])) rfl (hb hby at_2) rfl (by decide) (cap := 6) (by decide) (by decide) (by decide) (by decide)
  obtain ⟨b3, g3⟩ : ∃ z, z = h0.size := ⟨_, rfl⟩
  rw [← g3] at A3 st3
  have g_b3 : n0 ≤ b3 := Nat.le_trans Z0 (Nat.le_of_eq g3.symm)
  have sz_b3 : h0.size ≤ b3 := Nat.le_trans ((Keep.refl h0 [])).1 (Nat.le_of_eq g3.symm)
  have K3 : Keep h0 h3 [] := ((Keep.refl h0 [])).ext E3
  have Z3 : n0 ≤ h3.size := Nat.le_trans Z0 E3.1
  have V_b3 : Arv Z h3 b3 k3 .byte (6 : Int32) [(.int (0 : Int32)), (.int (0 : Int32)), (.int (0 : Int32)), (.int (0 : Int32)), (.int (0 : Int32)), (.int (0 : Int32))] (.int (0 : Int32)) := (Arv.new A3 (by decide)).pad (pad_rep [] (.int (0 : Int32)) 6)
  obtain ⟨_, _, ⟨T4, L4, k4, n4⟩, -, X4, ⟨Lc4, hQ4, l4, y4, z4⟩, st4⟩ := Jvm.LawKit.callS X3 hx (y := (⟨"querent/hl7/LineReaderKeepFromNextPinLaw", "pick", "(I)B"⟩ : MethodName)) hown (mvT hZ (hw _ (List.mem_of_getElem? (i := 1) rfl))) (mvT hZ (hw _ (List.mem_of_getElem? (i := 2) rfl))) (mvT hZ (hw _ (List.mem_of_getElem? (i := 3) rfl))) (mvT hZ (hw _ (List.mem_of_getElem? (i := 4) rfl))) (by decide) (backOf (W := 2) (rm1 l Z a0 hw [] p1 h3 n0 Z3 ) hZ (hw _ (List.mem_of_getElem? (i := 4) rfl)) (hw _ (List.mem_of_getElem? (i := 3) rfl)) (by decide) (by decide)) (g := (mkF m 8 #[.val (.int p1), .val (.int p2), .val (.ref b3), .unset, .unset, .unset, .unset, .unset, .unset, .unset, .unset, .unset] [(.int p1), (.int (0 : Int32)), (.ref b3)])) rfl (by rw [hml]; rfl) (argsL := [(.int p1)]) (rest := [(.int (0 : Int32)), (.ref b3)]) (lenOf pd_7 rfl) rfl (by show 2 * 0 + _ ≤ _; exact Nat.le_of_eq rfl) (hb hby at_8) (fun _ _ => ⟨rfl, e3, (by decide : 1 + 0 ≤ _), (by decide : 6 + 0 ≤ _)⟩)
  dsimp only [Pt.U, Pt.locs, Pt.cells, Pt.slots] at X4 l4 y4 z4 st4 hQ4
  subst l4 y4 z4
  obtain ⟨rfl, N4q, e4⟩ := hQ4
  have N4 := Fr.app N0 N4q
  obtain ⟨cl5, Ar5, qq5, S5, NN5, HH5, GG5⟩ := id V_b3
  have hin5 : ¬ ((0 : Int32) < 0 ∨ cl5.slots.size ≤ ((0 : Int32)).toNatClampNeg) := inb_of S5 ⟨by decide, by decide⟩
  obtain ⟨T5, h5, X5, e5, W5, st5⟩ := stB X4 hx hZ e4 Ar5 (j := (0 : Int32)) hin5 (g := (mkF m 11 #[.val (.int p1), .val (.int p2), .val (.ref b3), .unset, .unset, .unset, .unset, .unset, .unset, .unset, .unset, .unset] [(.int (F1 p1)), (.int (0 : Int32)), (.ref b3)])) rfl rfl (hb hby at_11)
  have Va5 := Arv.set Ar5 qq5 S5 NN5 HH5 GG5 (v := (.int ((F1 p1).toInt8.toInt32))) (fits_nar_byte _) W5 0 rfl (Nat.le_of_ble_eq_true rfl)
  have Vb5 : Arv Z h5 b3 k3 .byte (6 : Int32) [(.int ((F1 p1).toInt8.toInt32)), (.int (0 : Int32)), (.int (0 : Int32)), (.int (0 : Int32)), (.int (0 : Int32)), (.int (0 : Int32))] (.int (0 : Int32)) := Va5
  have N5 := Fr.snoc X5 N4 g_b3
  have y6 := ((S_CARRIAGE_RETURN_OR_LINE_FEED.ext E3).wr W5)
  have K5 : Keep h0 h5 [] := (K3).wr W5 (Or.inr sz_b3)
  have Z5 : n0 ≤ h5.size := Nat.le_trans Z3 (Keep.of_wr W5).1
  obtain ⟨_, _, ⟨T7, L7, k7, n7⟩, -, X7, ⟨Lc7, hQ7, l7, y7, z7⟩, st7⟩ := Jvm.LawKit.callS X5 hx (y := (⟨"querent/hl7/LineReaderKeepFromNextPinLaw", "pick", "(I)B"⟩ : MethodName)) hown (mvT hZ (hw _ (List.mem_of_getElem? (i := 1) rfl))) (mvT hZ (hw _ (List.mem_of_getElem? (i := 2) rfl))) (mvT hZ (hw _ (List.mem_of_getElem? (i := 3) rfl))) (mvT hZ (hw _ (List.mem_of_getElem? (i := 4) rfl))) (by decide) (backOf (W := 2) (rm1 l Z a0 hw [] ((p1.toUInt32 >>> ((2 : Int32) &&& 31).toUInt32).toInt32) h5 n0 Z5 ) hZ (hw _ (List.mem_of_getElem? (i := 4) rfl)) (hw _ (List.mem_of_getElem? (i := 3) rfl)) (by decide) (by decide)) (g := (mkF m 17 #[.val (.int p1), .val (.int p2), .val (.ref b3), .unset, .unset, .unset, .unset, .unset, .unset, .unset, .unset, .unset] [(.int ((p1.toUInt32 >>> ((2 : Int32) &&& 31).toUInt32).toInt32)), (.int (1 : Int32)), (.ref b3)])) rfl (by rw [hml]; rfl) (argsL := [(.int ((p1.toUInt32 >>> ((2 : Int32) &&& 31).toUInt32).toInt32))]) (rest := [(.int (1 : Int32)), (.ref b3)]) (lenOf pd_7 rfl) rfl (by show 2 * 0 + _ ≤ _; exact Nat.le_of_eq rfl) (hb hby at_17) (fun _ _ => ⟨rfl, e5, (by decide : 1 + 0 ≤ _), (by decide : 6 + 0 ≤ _)⟩)
  dsimp only [Pt.U, Pt.locs, Pt.cells, Pt.slots] at X7 l7 y7 z7 st7 hQ7
  subst l7 y7 z7
  obtain ⟨rfl, N7q, e7⟩ := hQ7
  have N7 := Fr.app N5 N7q
  obtain ⟨cl8, Ar8, qq8, S8, NN8, HH8, GG8⟩ := id Vb5
  have hin8 : ¬ ((1 : Int32) < 0 ∨ cl8.slots.size ≤ ((1 : Int32)).toNatClampNeg) := inb_of S8 ⟨by decide, by decide⟩
  obtain ⟨T8, h8, X8, e8, W8, st8⟩ := stB X7 hx hZ e7 Ar8 (j := (1 : Int32)) hin8 (g := (mkF m 20 #[.val (.int p1), .val (.int p2), .val (.ref b3), .unset, .unset, .unset, .unset, .unset, .unset, .unset, .unset, .unset] [(.int (F1 ((p1.toUInt32 >>> ((2 : Int32) &&& 31).toUInt32).toInt32))), (.int (1 : Int32)), (.ref b3)])) rfl rfl (hb hby at_20)
  have Va8 := Arv.set Ar8 qq8 S8 NN8 HH8 GG8 (v := (.int ((F1 ((p1.toUInt32 >>> ((2 : Int32) &&& 31).toUInt32).toInt32)).toInt8.toInt32))) (fits_nar_byte _) W8 1 rfl (Nat.le_of_ble_eq_true rfl)
  have Vb8 : Arv Z h8 b3 k3 .byte (6 : Int32) [(.int ((F1 p1).toInt8.toInt32)), (.int ((F1 ((p1.toUInt32 >>> ((2 : Int32) &&& 31).toUInt32).toInt32)).toInt8.toInt32)), (.int (0 : Int32)), (.int (0 : Int32)), (.int (0 : Int32)), (.int (0 : Int32))] (.int (0 : Int32)) := Va8
  have N8 := Fr.snoc X8 N7 g_b3
  have K8 : Keep h0 h8 [] := (K5).wr W8 (Or.inr sz_b3)
  have Z8 : n0 ≤ h8.size := Nat.le_trans Z5 (Keep.of_wr W8).1
  obtain ⟨_, _, ⟨T9, L9, k9, n9⟩, -, X9, ⟨Lc9, hQ9, l9, y9, z9⟩, st9⟩ := Jvm.LawKit.callS X8 hx (y := (⟨"querent/hl7/LineReaderKeepFromNextPinLaw", "pick", "(I)B"⟩ : MethodName)) hown (mvT hZ (hw _ (List.mem_of_getElem? (i := 1) rfl))) (mvT hZ (hw _ (List.mem_of_getElem? (i := 2) rfl))) (mvT hZ (hw _ (List.mem_of_getElem? (i := 3) rfl))) (mvT hZ (hw _ (List.mem_of_getElem? (i := 4) rfl))) (by decide) (backOf (W := 2) (rm1 l Z a0 hw [] ((p1.toUInt32 >>> ((4 : Int32) &&& 31).toUInt32).toInt32) h8 n0 Z8 ) hZ (hw _ (List.mem_of_getElem? (i := 4) rfl)) (hw _ (List.mem_of_getElem? (i := 3) rfl)) (by decide) (by decide)) (g := (mkF m 26 #[.val (.int p1), .val (.int p2), .val (.ref b3), .unset, .unset, .unset, .unset, .unset, .unset, .unset, .unset, .unset] [(.int ((p1.toUInt32 >>> ((4 : Int32) &&& 31).toUInt32).toInt32)), (.int (2 : Int32)), (.ref b3)])) rfl (by rw [hml]; rfl) (argsL := [(.int ((p1.toUInt32 >>> ((4 : Int32) &&& 31).toUInt32).toInt32))]) (rest := [(.int (2 : Int32)), (.ref b3)]) (lenOf pd_7 rfl) rfl (by show 2 * 0 + _ ≤ _; exact Nat.le_of_eq rfl) (hb hby at_26) (fun _ _ => ⟨rfl, e8, (by decide : 1 + 0 ≤ _), (by decide : 6 + 0 ≤ _)⟩)
  dsimp only [Pt.U, Pt.locs, Pt.cells, Pt.slots] at X9 l9 y9 z9 st9 hQ9
  subst l9 y9 z9
  obtain ⟨rfl, N9q, e9⟩ := hQ9
  have N9 := Fr.app N8 N9q
  obtain ⟨cl10, Ar10, qq10, S10, NN10, HH10, GG10⟩ := id Vb8
  have hin10 : ¬ ((2 : Int32) < 0 ∨ cl10.slots.size ≤ ((2 : Int32)).toNatClampNeg) := inb_of S10 ⟨by decide, by decide⟩
  obtain ⟨T10, h10, X10, e10, W10, st10⟩ := stB X9 hx hZ e9 Ar10 (j := (2 : Int32)) hin10 (g := (mkF m 29 #[.val (.int p1), .val (.int p2), .val (.ref b3), .unset, .unset, .unset, .unset, .unset, .unset, .unset, .unset, .unset] [(.int (F1 ((p1.toUInt32 >>> ((4 : Int32) &&& 31).toUInt32).toInt32))), (.int (2 : Int32)), (.ref b3)])) rfl rfl (hb hby at_29)
  have Va10 := Arv.set Ar10 qq10 S10 NN10 HH10 GG10 (v := (.int ((F1 ((p1.toUInt32 >>> ((4 : Int32) &&& 31).toUInt32).toInt32)).toInt8.toInt32))) (fits_nar_byte _) W10 2 rfl (Nat.le_of_ble_eq_true rfl)
  have Vb10 : Arv Z h10 b3 k3 .byte (6 : Int32) [(.int ((F1 p1).toInt8.toInt32)), (.int ((F1 ((p1.toUInt32 >>> ((2 : Int32) &&& 31).toUInt32).toInt32)).toInt8.toInt32)), (.int ((F1 ((p1.toUInt32 >>> ((4 : Int32) &&& 31).toUInt32).toInt32)).toInt8.toInt32)), (.int (0 : Int32)), (.int (0 : Int32)), (.int (0 : Int32))] (.int (0 : Int32)) := Va10
  have N10 := Fr.snoc X10 N9 g_b3
  have y11 := ((((S_LINE_FEED.ext E3).wr W5).wr W8).wr W10)
  have K10 : Keep h0 h10 [] := (K8).wr W10 (Or.inr sz_b3)
  have Z10 : n0 ≤ h10.size := Nat.le_trans Z8 (Keep.of_wr W10).1
  obtain ⟨_, _, ⟨T12, L12, k12, n12⟩, -, X12, ⟨Lc12, hQ12, l12, y12, z12⟩, st12⟩ := Jvm.LawKit.callS X10 hx (y := (⟨"querent/hl7/LineReaderKeepFromNextPinLaw", "pick", "(I)B"⟩ : MethodName)) hown (mvT hZ (hw _ (List.mem_of_getElem? (i := 1) rfl))) (mvT hZ (hw _ (List.mem_of_getElem? (i := 2) rfl))) (mvT hZ (hw _ (List.mem_of_getElem? (i := 3) rfl))) (mvT hZ (hw _ (List.mem_of_getElem? (i := 4) rfl))) (by decide) (backOf (W := 2) (rm1 l Z a0 hw [] ((p1.toUInt32 >>> ((6 : Int32) &&& 31).toUInt32).toInt32) h10 n0 Z10 ) hZ (hw _ (List.mem_of_getElem? (i := 4) rfl)) (hw _ (List.mem_of_getElem? (i := 3) rfl)) (by decide) (by decide)) (g := (mkF m 36 #[.val (.int p1), .val (.int p2), .val (.ref b3), .unset, .unset, .unset, .unset, .unset, .unset, .unset, .unset, .unset] [(.int ((p1.toUInt32 >>> ((6 : Int32) &&& 31).toUInt32).toInt32)), (.int (3 : Int32)), (.ref b3)])) rfl (by rw [hml]; rfl) (argsL := [(.int ((p1.toUInt32 >>> ((6 : Int32) &&& 31).toUInt32).toInt32))]) (rest := [(.int (3 : Int32)), (.ref b3)]) (lenOf pd_7 rfl) rfl (by show 2 * 0 + _ ≤ _; exact Nat.le_of_eq rfl) (hb hby at_36) (fun _ _ => ⟨rfl, e10, (by decide : 1 + 0 ≤ _), (by decide : 6 + 0 ≤ _)⟩)
  dsimp only [Pt.U, Pt.locs, Pt.cells, Pt.slots] at X12 l12 y12 z12 st12 hQ12
  subst l12 y12 z12
  obtain ⟨rfl, N12q, e12⟩ := hQ12
  have N12 := Fr.app N10 N12q
  obtain ⟨cl13, Ar13, qq13, S13, NN13, HH13, GG13⟩ := id Vb10
  have hin13 : ¬ ((3 : Int32) < 0 ∨ cl13.slots.size ≤ ((3 : Int32)).toNatClampNeg) := inb_of S13 ⟨by decide, by decide⟩
  obtain ⟨T13, h13, X13, e13, W13, st13⟩ := stB X12 hx hZ e12 Ar13 (j := (3 : Int32)) hin13 (g := (mkF m 39 #[.val (.int p1), .val (.int p2), .val (.ref b3), .unset, .unset, .unset, .unset, .unset, .unset, .unset, .unset, .unset] [(.int (F1 ((p1.toUInt32 >>> ((6 : Int32) &&& 31).toUInt32).toInt32))), (.int (3 : Int32)), (.ref b3)])) rfl rfl (hb hby at_39)
  have Va13 := Arv.set Ar13 qq13 S13 NN13 HH13 GG13 (v := (.int ((F1 ((p1.toUInt32 >>> ((6 : Int32) &&& 31).toUInt32).toInt32)).toInt8.toInt32))) (fits_nar_byte _) W13 3 rfl (Nat.le_of_ble_eq_true rfl)
  have Vb13 : Arv Z h13 b3 k3 .byte (6 : Int32) [(.int ((F1 p1).toInt8.toInt32)), (.int ((F1 ((p1.toUInt32 >>> ((2 : Int32) &&& 31).toUInt32).toInt32)).toInt8.toInt32)), (.int ((F1 ((p1.toUInt32 >>> ((4 : Int32) &&& 31).toUInt32).toInt32)).toInt8.toInt32)), (.int ((F1 ((p1.toUInt32 >>> ((6 : Int32) &&& 31).toUInt32).toInt32)).toInt8.toInt32)), (.int (0 : Int32)), (.int (0 : Int32))] (.int (0 : Int32)) := Va13
  have N13 := Fr.snoc X13 N12 g_b3
  have K13 : Keep h0 h13 [] := (K10).wr W13 (Or.inr sz_b3)
  have Z13 : n0 ≤ h13.size := Nat.le_trans Z10 (Keep.of_wr W13).1
  obtain ⟨_, _, ⟨T14, L14, k14, n14⟩, -, X14, ⟨Lc14, hQ14, l14, y14, z14⟩, st14⟩ := Jvm.LawKit.callS X13 hx (y := (⟨"querent/hl7/LineReaderKeepFromNextPinLaw", "pick", "(I)B"⟩ : MethodName)) hown (mvT hZ (hw _ (List.mem_of_getElem? (i := 1) rfl))) (mvT hZ (hw _ (List.mem_of_getElem? (i := 2) rfl))) (mvT hZ (hw _ (List.mem_of_getElem? (i := 3) rfl))) (mvT hZ (hw _ (List.mem_of_getElem? (i := 4) rfl))) (by decide) (backOf (W := 2) (rm1 l Z a0 hw [] ((p1.toUInt32 >>> ((8 : Int32) &&& 31).toUInt32).toInt32) h13 n0 Z13 ) hZ (hw _ (List.mem_of_getElem? (i := 4) rfl)) (hw _ (List.mem_of_getElem? (i := 3) rfl)) (by decide) (by decide)) (g := (mkF m 46 #[.val (.int p1), .val (.int p2), .val (.ref b3), .unset, .unset, .unset, .unset, .unset, .unset, .unset, .unset, .unset] [(.int ((p1.toUInt32 >>> ((8 : Int32) &&& 31).toUInt32).toInt32)), (.int (4 : Int32)), (.ref b3)])) rfl (by rw [hml]; rfl) (argsL := [(.int ((p1.toUInt32 >>> ((8 : Int32) &&& 31).toUInt32).toInt32))]) (rest := [(.int (4 : Int32)), (.ref b3)]) (lenOf pd_7 rfl) rfl (by show 2 * 0 + _ ≤ _; exact Nat.le_of_eq rfl) (hb hby at_46) (fun _ _ => ⟨rfl, e13, (by decide : 1 + 0 ≤ _), (by decide : 6 + 0 ≤ _)⟩)
  dsimp only [Pt.U, Pt.locs, Pt.cells, Pt.slots] at X14 l14 y14 z14 st14 hQ14
  subst l14 y14 z14
  obtain ⟨rfl, N14q, e14⟩ := hQ14
  have N14 := Fr.app N13 N14q
  obtain ⟨cl15, Ar15, qq15, S15, NN15, HH15, GG15⟩ := id Vb13
  have hin15 : ¬ ((4 : Int32) < 0 ∨ cl15.slots.size ≤ ((4 : Int32)).toNatClampNeg) := inb_of S15 ⟨by decide, by decide⟩
  obtain ⟨T15, h15, X15, e15, W15, st15⟩ := stB X14 hx hZ e14 Ar15 (j := (4 : Int32)) hin15 (g := (mkF m 49 #[.val (.int p1), .val (.int p2), .val (.ref b3), .unset, .unset, .unset, .unset, .unset, .unset, .unset, .unset, .unset] [(.int (F1 ((p1.toUInt32 >>> ((8 : Int32) &&& 31).toUInt32).toInt32))), (.int (4 : Int32)), (.ref b3)])) rfl rfl (hb hby at_49)
  have Va15 := Arv.set Ar15 qq15 S15 NN15 HH15 GG15 (v := (.int ((F1 ((p1.toUInt32 >>> ((8 : Int32) &&& 31).toUInt32).toInt32)).toInt8.toInt32))) (fits_nar_byte _) W15 4 rfl (Nat.le_of_ble_eq_true rfl)
  have Vb15 : Arv Z h15 b3 k3 .byte (6 : Int32) [(.int ((F1 p1).toInt8.toInt32)), (.int ((F1 ((p1.toUInt32 >>> ((2 : Int32) &&& 31).toUInt32).toInt32)).toInt8.toInt32)), (.int ((F1 ((p1.toUInt32 >>> ((4 : Int32) &&& 31).toUInt32).toInt32)).toInt8.toInt32)), (.int ((F1 ((p1.toUInt32 >>> ((6 : Int32) &&& 31).toUInt32).toInt32)).toInt8.toInt32)), (.int ((F1 ((p1.toUInt32 >>> ((8 : Int32) &&& 31).toUInt32).toInt32)).toInt8.toInt32)), (.int (0 : Int32))] (.int (0 : Int32)) := Va15
  have N15 := Fr.snoc X15 N14 g_b3
  have K15 : Keep h0 h15 [] := (K13).wr W15 (Or.inr sz_b3)
  have Z15 : n0 ≤ h15.size := Nat.le_trans Z13 (Keep.of_wr W15).1
  obtain ⟨_, _, ⟨T16, L16, k16, n16⟩, -, X16, ⟨Lc16, hQ16, l16, y16, z16⟩, st16⟩ := Jvm.LawKit.callS X15 hx (y := (⟨"querent/hl7/LineReaderKeepFromNextPinLaw", "pick", "(I)B"⟩ : MethodName)) hown (mvT hZ (hw _ (List.mem_of_getElem? (i := 1) rfl))) (mvT hZ (hw _ (List.mem_of_getElem? (i := 2) rfl))) (mvT hZ (hw _ (List.mem_of_getElem? (i := 3) rfl))) (mvT hZ (hw _ (List.mem_of_getElem? (i := 4) rfl))) (by decide) (backOf (W := 2) (rm1 l Z a0 hw [] ((p1.toUInt32 >>> ((10 : Int32) &&& 31).toUInt32).toInt32) h15 n0 Z15 ) hZ (hw _ (List.mem_of_getElem? (i := 4) rfl)) (hw _ (List.mem_of_getElem? (i := 3) rfl)) (by decide) (by decide)) (g := (mkF m 56 #[.val (.int p1), .val (.int p2), .val (.ref b3), .unset, .unset, .unset, .unset, .unset, .unset, .unset, .unset, .unset] [(.int ((p1.toUInt32 >>> ((10 : Int32) &&& 31).toUInt32).toInt32)), (.int (5 : Int32)), (.ref b3)])) rfl (by rw [hml]; rfl) (argsL := [(.int ((p1.toUInt32 >>> ((10 : Int32) &&& 31).toUInt32).toInt32))]) (rest := [(.int (5 : Int32)), (.ref b3)]) (lenOf pd_7 rfl) rfl (by show 2 * 0 + _ ≤ _; exact Nat.le_of_eq rfl) (hb hby at_56) (fun _ _ => ⟨rfl, e15, (by decide : 1 + 0 ≤ _), (by decide : 6 + 0 ≤ _)⟩)
  dsimp only [Pt.U, Pt.locs, Pt.cells, Pt.slots] at X16 l16 y16 z16 st16 hQ16
  subst l16 y16 z16
  obtain ⟨rfl, N16q, e16⟩ := hQ16
  have N16 := Fr.app N15 N16q
  obtain ⟨cl17, Ar17, qq17, S17, NN17, HH17, GG17⟩ := id Vb15
  have hin17 : ¬ ((5 : Int32) < 0 ∨ cl17.slots.size ≤ ((5 : Int32)).toNatClampNeg) := inb_of S17 ⟨by decide, by decide⟩
  obtain ⟨T17, h17, X17, e17, W17, st17⟩ := stB X16 hx hZ e16 Ar17 (j := (5 : Int32)) hin17 (g := (mkF m 59 #[.val (.int p1), .val (.int p2), .val (.ref b3), .unset, .unset, .unset, .unset, .unset, .unset, .unset, .unset, .unset] [(.int (F1 ((p1.toUInt32 >>> ((10 : Int32) &&& 31).toUInt32).toInt32))), (.int (5 : Int32)), (.ref b3)])) rfl rfl (hb hby at_59)
  have Va17 := Arv.set Ar17 qq17 S17 NN17 HH17 GG17 (v := (.int ((F1 ((p1.toUInt32 >>> ((10 : Int32) &&& 31).toUInt32).toInt32)).toInt8.toInt32))) (fits_nar_byte _) W17 5 rfl (Nat.le_of_ble_eq_true rfl)
  have Vb17 : Arv Z h17 b3 k3 .byte (6 : Int32) [(.int ((F1 p1).toInt8.toInt32)), (.int ((F1 ((p1.toUInt32 >>> ((2 : Int32) &&& 31).toUInt32).toInt32)).toInt8.toInt32)), (.int ((F1 ((p1.toUInt32 >>> ((4 : Int32) &&& 31).toUInt32).toInt32)).toInt8.toInt32)), (.int ((F1 ((p1.toUInt32 >>> ((6 : Int32) &&& 31).toUInt32).toInt32)).toInt8.toInt32)), (.int ((F1 ((p1.toUInt32 >>> ((8 : Int32) &&& 31).toUInt32).toInt32)).toInt8.toInt32)), (.int ((F1 ((p1.toUInt32 >>> ((10 : Int32) &&& 31).toUInt32).toInt32)).toInt8.toInt32))] (.int (0 : Int32)) := Va17
  have N17 := Fr.snoc X17 N16 g_b3
  have y18 := (((((y6.wr W8).wr W10).wr W13).wr W15).wr W17)
  have K17 : Keep h0 h17 [] := (K15).wr W17 (Or.inr sz_b3)
  have Z17 : n0 ≤ h17.size := Nat.le_trans Z15 (Keep.of_wr W17).1
  obtain ⟨vl, hvl⟩ : ∃ z : List Int32, z = [((F1 p1).toInt8.toInt32), ((F1 ((p1.toUInt32 >>> ((2 : Int32) &&& 31).toUInt32).toInt32)).toInt8.toInt32), ((F1 ((p1.toUInt32 >>> ((4 : Int32) &&& 31).toUInt32).toInt32)).toInt8.toInt32), ((F1 ((p1.toUInt32 >>> ((6 : Int32) &&& 31).toUInt32).toInt32)).toInt8.toInt32), ((F1 ((p1.toUInt32 >>> ((8 : Int32) &&& 31).toUInt32).toInt32)).toInt8.toInt32), ((F1 ((p1.toUInt32 >>> ((10 : Int32) &&& 31).toUInt32).toInt32)).toInt8.toInt32)] := ⟨_, rfl⟩
  have Vl : Arv Z h17 b3 k3 .byte (6 : Int32) (vl.map Value.int) (.int (0 : Int32)) := by rw [hvl]; exact Vb17
  have pre21 : ∀ t, Steps p.tables e below (T17.setTop (mkF m 89 #[.val (.int p1), .val (.int p2), .val (.ref b3), .val (.int (own_from p2)), .val (.int (own_to p2)), .unset, .unset, .unset, .unset, .unset, .unset, .unset] [(.int (((p2.toUInt32 >>> ((6 : Int32) &&& 31).toUInt32).toInt32) &&& (1 : Int32)))])) t → Steps p.tables e below (s₁.setTop (entryFrame m #[(.int p1), (.int p2)] maxLocals)) t := fun t kt => pre0 t (by
    show Steps p.tables e below (s₁.setTop (mkF m 0 #[.val (.int p1), .val (.int p2), .unset, .unset, .unset, .unset, .unset, .unset, .unset, .unset, .unset, .unset] [])) _
    refine XS.bipush X0.here hx rfl (hb hby at_0) ?_
    show Steps p.tables e below (s₁.setTop (mkF m 2 #[.val (.int p1), .val (.int p2), .unset, .unset, .unset, .unset, .unset, .unset, .unset, .unset, .unset, .unset] [(.int (6 : Int32))])) _
    refine st3 _ ?_
    show Steps p.tables e below (T3.setTop (mkF m 4 #[.val (.int p1), .val (.int p2), .unset, .unset, .unset, .unset, .unset, .unset, .unset, .unset, .unset, .unset] [(.ref b3)])) _
    refine XS.astoreN X3.here hx rfl (hb hby at_4) rfl rfl (l' := #[.val (.int p1), .val (.int p2), .val (.ref b3), .unset, .unset, .unset, .unset, .unset, .unset, .unset, .unset, .unset]) rfl ?_
    show Steps p.tables e below (T3.setTop (mkF m 5 #[.val (.int p1), .val (.int p2), .val (.ref b3), .unset, .unset, .unset, .unset, .unset, .unset, .unset, .unset, .unset] [])) _
    refine XS.aloadN X3.here hx rfl (hb hby at_5) rfl rfl ?_
    show Steps p.tables e below (T3.setTop (mkF m 6 #[.val (.int p1), .val (.int p2), .val (.ref b3), .unset, .unset, .unset, .unset, .unset, .unset, .unset, .unset, .unset] [(.ref b3)])) _
    refine XS.iconst X3.here hx rfl (hb hby at_6) ?_
    show Steps p.tables e below (T3.setTop (mkF m 7 #[.val (.int p1), .val (.int p2), .val (.ref b3), .unset, .unset, .unset, .unset, .unset, .unset, .unset, .unset, .unset] [(.int (0 : Int32)), (.ref b3)])) _
    refine XS.iloadN X3.here hx rfl (hb hby at_7) rfl ?_
    show Steps p.tables e below (T3.setTop (mkF m 8 #[.val (.int p1), .val (.int p2), .val (.ref b3), .unset, .unset, .unset, .unset, .unset, .unset, .unset, .unset, .unset] [(.int p1), (.int (0 : Int32)), (.ref b3)])) _
    refine st4 _ ?_
    show Steps p.tables e below (T4.setTop (mkF m 11 #[.val (.int p1), .val (.int p2), .val (.ref b3), .unset, .unset, .unset, .unset, .unset, .unset, .unset, .unset, .unset] [(.int (F1 p1)), (.int (0 : Int32)), (.ref b3)])) _
    refine st5 _ ?_
    show Steps p.tables e below (T5.setTop (mkF m 12 #[.val (.int p1), .val (.int p2), .val (.ref b3), .unset, .unset, .unset, .unset, .unset, .unset, .unset, .unset, .unset] [])) _
    refine XS.aloadN X5.here hx rfl (hb hby at_12) rfl rfl ?_
    show Steps p.tables e below (T5.setTop (mkF m 13 #[.val (.int p1), .val (.int p2), .val (.ref b3), .unset, .unset, .unset, .unset, .unset, .unset, .unset, .unset, .unset] [(.ref b3)])) _
    refine XS.iconst X5.here hx rfl (hb hby at_13) ?_
    show Steps p.tables e below (T5.setTop (mkF m 14 #[.val (.int p1), .val (.int p2), .val (.ref b3), .unset, .unset, .unset, .unset, .unset, .unset, .unset, .unset, .unset] [(.int (1 : Int32)), (.ref b3)])) _
    refine XS.iloadN X5.here hx rfl (hb hby at_14) rfl ?_
    show Steps p.tables e below (T5.setTop (mkF m 15 #[.val (.int p1), .val (.int p2), .val (.ref b3), .unset, .unset, .unset, .unset, .unset, .unset, .unset, .unset, .unset] [(.int p1), (.int (1 : Int32)), (.ref b3)])) _
    refine XS.iconst X5.here hx rfl (hb hby at_15) ?_
    show Steps p.tables e below (T5.setTop (mkF m 16 #[.val (.int p1), .val (.int p2), .val (.ref b3), .unset, .unset, .unset, .unset, .unset, .unset, .unset, .unset, .unset] [(.int (2 : Int32)), (.int p1), (.int (1 : Int32)), (.ref b3)])) _
    refine XS.iushr X5.here hx rfl (hb hby at_16) rfl ?_
    show Steps p.tables e below (T5.setTop (mkF m 17 #[.val (.int p1), .val (.int p2), .val (.ref b3), .unset, .unset, .unset, .unset, .unset, .unset, .unset, .unset, .unset] [(.int ((p1.toUInt32 >>> ((2 : Int32) &&& 31).toUInt32).toInt32)), (.int (1 : Int32)), (.ref b3)])) _
    refine st7 _ ?_
    show Steps p.tables e below (T7.setTop (mkF m 20 #[.val (.int p1), .val (.int p2), .val (.ref b3), .unset, .unset, .unset, .unset, .unset, .unset, .unset, .unset, .unset] [(.int (F1 ((p1.toUInt32 >>> ((2 : Int32) &&& 31).toUInt32).toInt32))), (.int (1 : Int32)), (.ref b3)])) _
    refine st8 _ ?_
    show Steps p.tables e below (T8.setTop (mkF m 21 #[.val (.int p1), .val (.int p2), .val (.ref b3), .unset, .unset, .unset, .unset, .unset, .unset, .unset, .unset, .unset] [])) _
    refine XS.aloadN X8.here hx rfl (hb hby at_21) rfl rfl ?_
    show Steps p.tables e below (T8.setTop (mkF m 22 #[.val (.int p1), .val (.int p2), .val (.ref b3), .unset, .unset, .unset, .unset, .unset, .unset, .unset, .unset, .unset] [(.ref b3)])) _
    refine XS.iconst X8.here hx rfl (hb hby at_22) ?_
    show Steps p.tables e below (T8.setTop (mkF m 23 #[.val (.int p1), .val (.int p2), .val (.ref b3), .unset, .unset, .unset, .unset, .unset, .unset, .unset, .unset, .unset] [(.int (2 : Int32)), (.ref b3)])) _
    refine XS.iloadN X8.here hx rfl (hb hby at_23) rfl ?_
    show Steps p.tables e below (T8.setTop (mkF m 24 #[.val (.int p1), .val (.int p2), .val (.ref b3), .unset, .unset, .unset, .unset, .unset, .unset, .unset, .unset, .unset] [(.int p1), (.int (2 : Int32)), (.ref b3)])) _
    refine XS.iconst X8.here hx rfl (hb hby at_24) ?_
    show Steps p.tables e below (T8.setTop (mkF m 25 #[.val (.int p1), .val (.int p2), .val (.ref b3), .unset, .unset, .unset, .unset, .unset, .unset, .unset, .unset, .unset] [(.int (4 : Int32)), (.int p1), (.int (2 : Int32)), (.ref b3)])) _
    refine XS.iushr X8.here hx rfl (hb hby at_25) rfl ?_
    show Steps p.tables e below (T8.setTop (mkF m 26 #[.val (.int p1), .val (.int p2), .val (.ref b3), .unset, .unset, .unset, .unset, .unset, .unset, .unset, .unset, .unset] [(.int ((p1.toUInt32 >>> ((4 : Int32) &&& 31).toUInt32).toInt32)), (.int (2 : Int32)), (.ref b3)])) _
    refine st9 _ ?_
    show Steps p.tables e below (T9.setTop (mkF m 29 #[.val (.int p1), .val (.int p2), .val (.ref b3), .unset, .unset, .unset, .unset, .unset, .unset, .unset, .unset, .unset] [(.int (F1 ((p1.toUInt32 >>> ((4 : Int32) &&& 31).toUInt32).toInt32))), (.int (2 : Int32)), (.ref b3)])) _
    refine st10 _ ?_
    show Steps p.tables e below (T10.setTop (mkF m 30 #[.val (.int p1), .val (.int p2), .val (.ref b3), .unset, .unset, .unset, .unset, .unset, .unset, .unset, .unset, .unset] [])) _
    refine XS.aloadN X10.here hx rfl (hb hby at_30) rfl rfl ?_
    show Steps p.tables e below (T10.setTop (mkF m 31 #[.val (.int p1), .val (.int p2), .val (.ref b3), .unset, .unset, .unset, .unset, .unset, .unset, .unset, .unset, .unset] [(.ref b3)])) _
    refine XS.iconst X10.here hx rfl (hb hby at_31) ?_
    show Steps p.tables e below (T10.setTop (mkF m 32 #[.val (.int p1), .val (.int p2), .val (.ref b3), .unset, .unset, .unset, .unset, .unset, .unset, .unset, .unset, .unset] [(.int (3 : Int32)), (.ref b3)])) _
    refine XS.iloadN X10.here hx rfl (hb hby at_32) rfl ?_
    show Steps p.tables e below (T10.setTop (mkF m 33 #[.val (.int p1), .val (.int p2), .val (.ref b3), .unset, .unset, .unset, .unset, .unset, .unset, .unset, .unset, .unset] [(.int p1), (.int (3 : Int32)), (.ref b3)])) _
    refine XS.bipush X10.here hx rfl (hb hby at_33) ?_
    show Steps p.tables e below (T10.setTop (mkF m 35 #[.val (.int p1), .val (.int p2), .val (.ref b3), .unset, .unset, .unset, .unset, .unset, .unset, .unset, .unset, .unset] [(.int (6 : Int32)), (.int p1), (.int (3 : Int32)), (.ref b3)])) _
    refine XS.iushr X10.here hx rfl (hb hby at_35) rfl ?_
    show Steps p.tables e below (T10.setTop (mkF m 36 #[.val (.int p1), .val (.int p2), .val (.ref b3), .unset, .unset, .unset, .unset, .unset, .unset, .unset, .unset, .unset] [(.int ((p1.toUInt32 >>> ((6 : Int32) &&& 31).toUInt32).toInt32)), (.int (3 : Int32)), (.ref b3)])) _
    refine st12 _ ?_
    show Steps p.tables e below (T12.setTop (mkF m 39 #[.val (.int p1), .val (.int p2), .val (.ref b3), .unset, .unset, .unset, .unset, .unset, .unset, .unset, .unset, .unset] [(.int (F1 ((p1.toUInt32 >>> ((6 : Int32) &&& 31).toUInt32).toInt32))), (.int (3 : Int32)), (.ref b3)])) _
    refine st13 _ ?_
    show Steps p.tables e below (T13.setTop (mkF m 40 #[.val (.int p1), .val (.int p2), .val (.ref b3), .unset, .unset, .unset, .unset, .unset, .unset, .unset, .unset, .unset] [])) _
    refine XS.aloadN X13.here hx rfl (hb hby at_40) rfl rfl ?_
    show Steps p.tables e below (T13.setTop (mkF m 41 #[.val (.int p1), .val (.int p2), .val (.ref b3), .unset, .unset, .unset, .unset, .unset, .unset, .unset, .unset, .unset] [(.ref b3)])) _
    refine XS.iconst X13.here hx rfl (hb hby at_41) ?_
    show Steps p.tables e below (T13.setTop (mkF m 42 #[.val (.int p1), .val (.int p2), .val (.ref b3), .unset, .unset, .unset, .unset, .unset, .unset, .unset, .unset, .unset] [(.int (4 : Int32)), (.ref b3)])) _
    refine XS.iloadN X13.here hx rfl (hb hby at_42) rfl ?_
    show Steps p.tables e below (T13.setTop (mkF m 43 #[.val (.int p1), .val (.int p2), .val (.ref b3), .unset, .unset, .unset, .unset, .unset, .unset, .unset, .unset, .unset] [(.int p1), (.int (4 : Int32)), (.ref b3)])) _
    refine XS.bipush X13.here hx rfl (hb hby at_43) ?_
    show Steps p.tables e below (T13.setTop (mkF m 45 #[.val (.int p1), .val (.int p2), .val (.ref b3), .unset, .unset, .unset, .unset, .unset, .unset, .unset, .unset, .unset] [(.int (8 : Int32)), (.int p1), (.int (4 : Int32)), (.ref b3)])) _
    refine XS.iushr X13.here hx rfl (hb hby at_45) rfl ?_
    show Steps p.tables e below (T13.setTop (mkF m 46 #[.val (.int p1), .val (.int p2), .val (.ref b3), .unset, .unset, .unset, .unset, .unset, .unset, .unset, .unset, .unset] [(.int ((p1.toUInt32 >>> ((8 : Int32) &&& 31).toUInt32).toInt32)), (.int (4 : Int32)), (.ref b3)])) _
    refine st14 _ ?_
    show Steps p.tables e below (T14.setTop (mkF m 49 #[.val (.int p1), .val (.int p2), .val (.ref b3), .unset, .unset, .unset, .unset, .unset, .unset, .unset, .unset, .unset] [(.int (F1 ((p1.toUInt32 >>> ((8 : Int32) &&& 31).toUInt32).toInt32))), (.int (4 : Int32)), (.ref b3)])) _
    refine st15 _ ?_
    show Steps p.tables e below (T15.setTop (mkF m 50 #[.val (.int p1), .val (.int p2), .val (.ref b3), .unset, .unset, .unset, .unset, .unset, .unset, .unset, .unset, .unset] [])) _
    refine XS.aloadN X15.here hx rfl (hb hby at_50) rfl rfl ?_
    show Steps p.tables e below (T15.setTop (mkF m 51 #[.val (.int p1), .val (.int p2), .val (.ref b3), .unset, .unset, .unset, .unset, .unset, .unset, .unset, .unset, .unset] [(.ref b3)])) _
    refine XS.iconst X15.here hx rfl (hb hby at_51) ?_
    show Steps p.tables e below (T15.setTop (mkF m 52 #[.val (.int p1), .val (.int p2), .val (.ref b3), .unset, .unset, .unset, .unset, .unset, .unset, .unset, .unset, .unset] [(.int (5 : Int32)), (.ref b3)])) _
    refine XS.iloadN X15.here hx rfl (hb hby at_52) rfl ?_
    show Steps p.tables e below (T15.setTop (mkF m 53 #[.val (.int p1), .val (.int p2), .val (.ref b3), .unset, .unset, .unset, .unset, .unset, .unset, .unset, .unset, .unset] [(.int p1), (.int (5 : Int32)), (.ref b3)])) _
    refine XS.bipush X15.here hx rfl (hb hby at_53) ?_
    show Steps p.tables e below (T15.setTop (mkF m 55 #[.val (.int p1), .val (.int p2), .val (.ref b3), .unset, .unset, .unset, .unset, .unset, .unset, .unset, .unset, .unset] [(.int (10 : Int32)), (.int p1), (.int (5 : Int32)), (.ref b3)])) _
    refine XS.iushr X15.here hx rfl (hb hby at_55) rfl ?_
    show Steps p.tables e below (T15.setTop (mkF m 56 #[.val (.int p1), .val (.int p2), .val (.ref b3), .unset, .unset, .unset, .unset, .unset, .unset, .unset, .unset, .unset] [(.int ((p1.toUInt32 >>> ((10 : Int32) &&& 31).toUInt32).toInt32)), (.int (5 : Int32)), (.ref b3)])) _
    refine st16 _ ?_
    show Steps p.tables e below (T16.setTop (mkF m 59 #[.val (.int p1), .val (.int p2), .val (.ref b3), .unset, .unset, .unset, .unset, .unset, .unset, .unset, .unset, .unset] [(.int (F1 ((p1.toUInt32 >>> ((10 : Int32) &&& 31).toUInt32).toInt32))), (.int (5 : Int32)), (.ref b3)])) _
    refine st17 _ ?_
    show Steps p.tables e below (T17.setTop (mkF m 60 #[.val (.int p1), .val (.int p2), .val (.ref b3), .unset, .unset, .unset, .unset, .unset, .unset, .unset, .unset, .unset] [])) _
    refine XS.iloadN X17.here hx rfl (hb hby at_60) rfl ?_
    show Steps p.tables e below (T17.setTop (mkF m 61 #[.val (.int p1), .val (.int p2), .val (.ref b3), .unset, .unset, .unset, .unset, .unset, .unset, .unset, .unset, .unset] [(.int p2)])) _
    refine XS.bipush X17.here hx rfl (hb hby at_61) ?_
    show Steps p.tables e below (T17.setTop (mkF m 63 #[.val (.int p1), .val (.int p2), .val (.ref b3), .unset, .unset, .unset, .unset, .unset, .unset, .unset, .unset, .unset] [(.int (7 : Int32)), (.int p2)])) _
    refine XS.iand X17.here hx rfl (hb hby at_63) rfl ?_
    show Steps p.tables e below (T17.setTop (mkF m 64 #[.val (.int p1), .val (.int p2), .val (.ref b3), .unset, .unset, .unset, .unset, .unset, .unset, .unset, .unset, .unset] [(.int (p2 &&& (7 : Int32)))])) _
    refine XS.bipush X17.here hx rfl (hb hby at_64) ?_
    show Steps p.tables e below (T17.setTop (mkF m 66 #[.val (.int p1), .val (.int p2), .val (.ref b3), .unset, .unset, .unset, .unset, .unset, .unset, .unset, .unset, .unset] [(.int (7 : Int32)), (.int (p2 &&& (7 : Int32)))])) _
    refine iremM X17 hx rfl (hb hby at_66) rfl (by decide) ?_
    show Steps p.tables e below (T17.setTop (mkF m 67 #[.val (.int p1), .val (.int p2), .val (.ref b3), .unset, .unset, .unset, .unset, .unset, .unset, .unset, .unset, .unset] [(.int ((p2 &&& (7 : Int32)) % (7 : Int32)))])) _
    refine XS.istoreN X17.here hx rfl (hb hby at_67) rfl (l' := #[.val (.int p1), .val (.int p2), .val (.ref b3), .val (.int (own_from p2)), .unset, .unset, .unset, .unset, .unset, .unset, .unset, .unset]) rfl ?_
    show Steps p.tables e below (T17.setTop (mkF m 68 #[.val (.int p1), .val (.int p2), .val (.ref b3), .val (.int (own_from p2)), .unset, .unset, .unset, .unset, .unset, .unset, .unset, .unset] [])) _
    refine XS.iloadN X17.here hx rfl (hb hby at_68) rfl ?_
    show Steps p.tables e below (T17.setTop (mkF m 69 #[.val (.int p1), .val (.int p2), .val (.ref b3), .val (.int (own_from p2)), .unset, .unset, .unset, .unset, .unset, .unset, .unset, .unset] [(.int (own_from p2))])) _
    refine XS.iloadN X17.here hx rfl (hb hby at_69) rfl ?_
    show Steps p.tables e below (T17.setTop (mkF m 70 #[.val (.int p1), .val (.int p2), .val (.ref b3), .val (.int (own_from p2)), .unset, .unset, .unset, .unset, .unset, .unset, .unset, .unset] [(.int p2), (.int (own_from p2))])) _
    refine XS.iconst X17.here hx rfl (hb hby at_70) ?_
    show Steps p.tables e below (T17.setTop (mkF m 71 #[.val (.int p1), .val (.int p2), .val (.ref b3), .val (.int (own_from p2)), .unset, .unset, .unset, .unset, .unset, .unset, .unset, .unset] [(.int (3 : Int32)), (.int p2), (.int (own_from p2))])) _
    refine XS.iushr X17.here hx rfl (hb hby at_71) rfl ?_
    show Steps p.tables e below (T17.setTop (mkF m 72 #[.val (.int p1), .val (.int p2), .val (.ref b3), .val (.int (own_from p2)), .unset, .unset, .unset, .unset, .unset, .unset, .unset, .unset] [(.int ((p2.toUInt32 >>> ((3 : Int32) &&& 31).toUInt32).toInt32)), (.int (own_from p2))])) _
    refine XS.bipush X17.here hx rfl (hb hby at_72) ?_
    show Steps p.tables e below (T17.setTop (mkF m 74 #[.val (.int p1), .val (.int p2), .val (.ref b3), .val (.int (own_from p2)), .unset, .unset, .unset, .unset, .unset, .unset, .unset, .unset] [(.int (7 : Int32)), (.int ((p2.toUInt32 >>> ((3 : Int32) &&& 31).toUInt32).toInt32)), (.int (own_from p2))])) _
    refine XS.iand X17.here hx rfl (hb hby at_74) rfl ?_
    show Steps p.tables e below (T17.setTop (mkF m 75 #[.val (.int p1), .val (.int p2), .val (.ref b3), .val (.int (own_from p2)), .unset, .unset, .unset, .unset, .unset, .unset, .unset, .unset] [(.int (((p2.toUInt32 >>> ((3 : Int32) &&& 31).toUInt32).toInt32) &&& (7 : Int32))), (.int (own_from p2))])) _
    refine XS.bipush X17.here hx rfl (hb hby at_75) ?_
    show Steps p.tables e below (T17.setTop (mkF m 77 #[.val (.int p1), .val (.int p2), .val (.ref b3), .val (.int (own_from p2)), .unset, .unset, .unset, .unset, .unset, .unset, .unset, .unset] [(.int (7 : Int32)), (.int (((p2.toUInt32 >>> ((3 : Int32) &&& 31).toUInt32).toInt32) &&& (7 : Int32))), (.int (own_from p2))])) _
    refine XS.iloadN X17.here hx rfl (hb hby at_77) rfl ?_
    show Steps p.tables e below (T17.setTop (mkF m 78 #[.val (.int p1), .val (.int p2), .val (.ref b3), .val (.int (own_from p2)), .unset, .unset, .unset, .unset, .unset, .unset, .unset, .unset] [(.int (own_from p2)), (.int (7 : Int32)), (.int (((p2.toUInt32 >>> ((3 : Int32) &&& 31).toUInt32).toInt32) &&& (7 : Int32))), (.int (own_from p2))])) _
    refine XS.isub X17.here hx rfl (hb hby at_78) rfl ?_
    show Steps p.tables e below (T17.setTop (mkF m 79 #[.val (.int p1), .val (.int p2), .val (.ref b3), .val (.int (own_from p2)), .unset, .unset, .unset, .unset, .unset, .unset, .unset, .unset] [(.int ((7 : Int32) - (own_from p2))), (.int (((p2.toUInt32 >>> ((3 : Int32) &&& 31).toUInt32).toInt32) &&& (7 : Int32))), (.int (own_from p2))])) _
    refine iremM X17 hx rfl (hb hby at_79) rfl (own_nz p2) ?_
    show Steps p.tables e below (T17.setTop (mkF m 80 #[.val (.int p1), .val (.int p2), .val (.ref b3), .val (.int (own_from p2)), .unset, .unset, .unset, .unset, .unset, .unset, .unset, .unset] [(.int ((((p2.toUInt32 >>> ((3 : Int32) &&& 31).toUInt32).toInt32) &&& (7 : Int32)) % ((7 : Int32) - (own_from p2)))), (.int (own_from p2))])) _
    refine XS.iadd X17.here hx rfl (hb hby at_80) rfl ?_
    show Steps p.tables e below (T17.setTop (mkF m 81 #[.val (.int p1), .val (.int p2), .val (.ref b3), .val (.int (own_from p2)), .unset, .unset, .unset, .unset, .unset, .unset, .unset, .unset] [(.int ((own_from p2) + ((((p2.toUInt32 >>> ((3 : Int32) &&& 31).toUInt32).toInt32) &&& (7 : Int32)) % ((7 : Int32) - (own_from p2)))))])) _
    refine XS.istore X17.here hx rfl (hb hby at_81) rfl (l' := #[.val (.int p1), .val (.int p2), .val (.ref b3), .val (.int (own_from p2)), .val (.int (own_to p2)), .unset, .unset, .unset, .unset, .unset, .unset, .unset]) rfl ?_
    show Steps p.tables e below (T17.setTop (mkF m 83 #[.val (.int p1), .val (.int p2), .val (.ref b3), .val (.int (own_from p2)), .val (.int (own_to p2)), .unset, .unset, .unset, .unset, .unset, .unset, .unset] [])) _
    refine XS.iloadN X17.here hx rfl (hb hby at_83) rfl ?_
    show Steps p.tables e below (T17.setTop (mkF m 84 #[.val (.int p1), .val (.int p2), .val (.ref b3), .val (.int (own_from p2)), .val (.int (own_to p2)), .unset, .unset, .unset, .unset, .unset, .unset, .unset] [(.int p2)])) _
    refine XS.bipush X17.here hx rfl (hb hby at_84) ?_
    show Steps p.tables e below (T17.setTop (mkF m 86 #[.val (.int p1), .val (.int p2), .val (.ref b3), .val (.int (own_from p2)), .val (.int (own_to p2)), .unset, .unset, .unset, .unset, .unset, .unset, .unset] [(.int (6 : Int32)), (.int p2)])) _
    refine XS.iushr X17.here hx rfl (hb hby at_86) rfl ?_
    show Steps p.tables e below (T17.setTop (mkF m 87 #[.val (.int p1), .val (.int p2), .val (.ref b3), .val (.int (own_from p2)), .val (.int (own_to p2)), .unset, .unset, .unset, .unset, .unset, .unset, .unset] [(.int ((p2.toUInt32 >>> ((6 : Int32) &&& 31).toUInt32).toInt32))])) _
    refine XS.iconst X17.here hx rfl (hb hby at_87) ?_
    show Steps p.tables e below (T17.setTop (mkF m 88 #[.val (.int p1), .val (.int p2), .val (.ref b3), .val (.int (own_from p2)), .val (.int (own_to p2)), .unset, .unset, .unset, .unset, .unset, .unset, .unset] [(.int (1 : Int32)), (.int ((p2.toUInt32 >>> ((6 : Int32) &&& 31).toUInt32).toInt32))])) _
    refine XS.iand X17.here hx rfl (hb hby at_88) rfl ?_
    show Steps p.tables e below (T17.setTop (mkF m 89 #[.val (.int p1), .val (.int p2), .val (.ref b3), .val (.int (own_from p2)), .val (.int (own_to p2)), .unset, .unset, .unset, .unset, .unset, .unset, .unset] [(.int (((p2.toUInt32 >>> ((6 : Int32) &&& 31).toUInt32).toInt32) &&& (1 : Int32)))])) _
    exact kt)
  by_cases hc89_20 : (((p2.toUInt32 >>> ((6 : Int32) &&& 31).toUInt32).toInt32) &&& (1 : Int32)) = (0 : Int32)
  · obtain ⟨T22, X22, e22, st22⟩ := getS2 X17 hx hZ hown (host := "") (Or.inl (hw _ (List.mem_of_getElem? (i := 5) rfl))) Via.refl e17 (((y11.wr W13).wr W15).wr W17) (g := (mkF m 92 #[.val (.int p1), .val (.int p2), .val (.ref b3), .val (.int (own_from p2)), .val (.int (own_to p2)), .unset, .unset, .unset, .unset, .unset, .unset, .unset] [])) rfl (hb hby at_92)
    obtain ⟨T23, h23, X23, e23, E23, A23, D23, -, st23⟩ := newO X22 hx hZ hown (hw _ (List.mem_of_getElem? (i := 8) rfl)) (hw _ (List.mem_of_getElem? (i := 9) rfl)) (hw _ (List.mem_of_getElem? (i := 10) rfl)) e22 (g := (mkF m 111 #[.val (.int p1), .val (.int p2), .val (.ref b3), .val (.int (own_from p2)), .val (.int (own_to p2)), .val (.ref st_LINE_FEED), .val (.int (own_rd p2)), .unset, .unset, .unset, .unset, .unset] [])) rfl (hb hby at_111) (by decide) (by decide)
    obtain ⟨b23, g23⟩ : ∃ z, z = h17.size := ⟨_, rfl⟩
    rw [← g23] at A23 D23 st23
    have ne_b3_b23 : b3 ≠ b23 := Nat.ne_of_lt (Nat.lt_of_lt_of_le Vl.lt (Nat.le_of_eq g23.symm))
    have g_b23 : n0 ≤ b23 := Nat.le_trans Z17 (Nat.le_of_eq g23.symm)
    have sz_b23 : h0.size ≤ b23 := Nat.le_trans (K17).1 (Nat.le_of_eq g23.symm)
    have K23 : Keep h0 h23 [] := (K17).ext E23
    have Z23 : n0 ≤ h23.size := Nat.le_trans Z17 E23.1
    have F_in_b23 : Fld Z h23 b23 "querent/hl7/LineReader" "in" "Ljava/io/InputStream;" .null := D23 (Or.inr (hw _ (List.mem_of_getElem? (i := 37) rfl))) (ty := (.object "java/io/InputStream")) (by decide)
    have F_block_b23 : Fld Z h23 b23 "querent/hl7/LineReader" "block" "[B" .null := D23 (Or.inl (hw _ (List.mem_of_getElem? (i := 39) rfl))) (ty := (.array .byte)) (by decide)
    have F_carriageReturnEnds_b23 : Fld Z h23 b23 "querent/hl7/LineReader" "carriageReturnEnds" "Z" (.int (0 : Int32)) := D23 (Or.inr (hw _ (List.mem_of_getElem? (i := 43) rfl))) (ty := .boolean) (by decide)
    have F_base_b23 : Fld Z h23 b23 "querent/hl7/LineReader" "base" "J" (.long (0 : Int64)) := D23 (Or.inl (hw _ (List.mem_of_getElem? (i := 45) rfl))) (ty := .long) (by decide)
    have F_limit_b23 : Fld Z h23 b23 "querent/hl7/LineReader" "limit" "I" (.int (0 : Int32)) := D23 (Or.inl (hw _ (List.mem_of_getElem? (i := 47) rfl))) (ty := .int) (by decide)
    have F_start_b23 : Fld Z h23 b23 "querent/hl7/LineReader" "start" "I" (.int (0 : Int32)) := D23 (Or.inl (hw _ (List.mem_of_getElem? (i := 49) rfl))) (ty := .int) (by decide)
    have F_end_b23 : Fld Z h23 b23 "querent/hl7/LineReader" "end" "I" (.int (0 : Int32)) := D23 (Or.inl (hw _ (List.mem_of_getElem? (i := 51) rfl))) (ty := .int) (by decide)
    have F_next_b23 : Fld Z h23 b23 "querent/hl7/LineReader" "next" "I" (.int (0 : Int32)) := D23 (Or.inl (hw _ (List.mem_of_getElem? (i := 53) rfl))) (ty := .int) (by decide)
    have F_keeping_b23 : Fld Z h23 b23 "querent/hl7/LineReader" "keeping" "Z" (.int (0 : Int32)) := D23 (Or.inl (hw _ (List.mem_of_getElem? (i := 65) rfl))) (ty := .boolean) (by decide)
    have F_kept_b23 : Fld Z h23 b23 "querent/hl7/LineReader" "kept" "I" (.int (0 : Int32)) := D23 (Or.inl (hw _ (List.mem_of_getElem? (i := 67) rfl))) (ty := .int) (by decide)
    have F_ended_b23 : Fld Z h23 b23 "querent/hl7/LineReader" "ended" "Z" (.int (0 : Int32)) := D23 (Or.inl (hw _ (List.mem_of_getElem? (i := 95) rfl))) (ty := .boolean) (by decide)
    have F_afterCarriageReturn_b23 : Fld Z h23 b23 "querent/hl7/LineReader" "afterCarriageReturn" "Z" (.int (0 : Int32)) := D23 (Or.inl (hw _ (List.mem_of_getElem? (i := 102) rfl))) (ty := .boolean) (by decide)
    have F_number_b23 : Fld Z h23 b23 "querent/hl7/LineReader" "number" "I" (.int (0 : Int32)) := D23 (Or.inl (hw _ (List.mem_of_getElem? (i := 104) rfl))) (ty := .int) (by decide)
    obtain ⟨_, _, ⟨T24, L24, k24, n24⟩, -, X24, hS24q, hgr24, ⟨Lc24, hQ24, l24, y24, z24⟩, st24⟩ := X23.specialBackS hx (y := (⟨"querent/hl7/LineReader", "<init>", "([BIILquerent/hl7/LineReader$Ends;)V"⟩ : MethodName)) rfl hown (mvT hZ (hw _ (List.mem_of_getElem? (i := 11) rfl))) (mvT hZ (hw _ (List.mem_of_getElem? (i := 12) rfl))) (mvT hZ (hw _ (List.mem_of_getElem? (i := 13) rfl))) (by decide) (backOfS (W := 1) (rm2 l Z a0 hw [] b23 b3 (own_from p2) (own_to p2) st_LINE_FEED (0 : Int32) (0 : Int64) (0 : Int32) (0 : Int32) (0 : Int32) (0 : Int32) (0 : Int32) (0 : Int32) (0 : Int32) (0 : Int32) (0 : Int32) k3 vl st_CARRIAGE_RETURN_OR_LINE_FEED h23 n0 Z23 A23 F_in_b23 F_block_b23 F_carriageReturnEnds_b23 F_base_b23 F_limit_b23 F_start_b23 F_end_b23 F_next_b23 F_keeping_b23 F_kept_b23 F_ended_b23 F_afterCarriageReturn_b23 F_number_b23 (Vl.ext E23) (y18.ext E23) (show ¬ ((own_from p2) < (0 : Int32)) from (own_ft p2).1) (show ¬ ((own_to p2) < (own_from p2)) from (own_ft p2).2.1) (show ¬ ((6 : Int32) < (own_to p2)) from (own_ft p2).2.2) g_b23 ne_b3_b23) hZ (hw _ (List.mem_of_getElem? (i := 13) rfl)) (hw _ (List.mem_of_getElem? (i := 10) rfl)) (by decide) (by decide)) (g := (mkF m 121 #[.val (.int p1), .val (.int p2), .val (.ref b3), .val (.int (own_from p2)), .val (.int (own_to p2)), .val (.ref st_LINE_FEED), .val (.int (own_rd p2)), .unset, .unset, .unset, .unset, .unset] [(.ref st_LINE_FEED), (.int (own_to p2)), (.int (own_from p2)), (.ref b3), (.ref b23), (.ref b23)])) rfl (by rw [hml]; rfl) (Steps.refl _) (a := b23) (argsL := [(.ref b3), (.int (own_from p2)), (.int (own_to p2)), (.ref st_LINE_FEED)]) (rest := [(.ref b23)]) (lenOf pd_8 rfl) rfl (by show 2 * 0 + _ ≤ _; exact Nat.le_of_eq rfl) (hb hby at_121) (fun _ _ => ⟨rfl, e23, (by decide : 2 + 4 ≤ _), (by decide : 19 + 196 ≤ _)⟩)
    dsimp only [Pt.U, Pt.locs, Pt.cells, Pt.slots] at X24 l24 y24 z24 st24 hQ24 hS24q hgr24
    subst l24 y24 z24
    have X24w := X24
    have hS24 := hS24q
    have hZ24 : Z.Warmed39 (s.setVm T24.vm).vm := State.Warmed39.trans hZ hS24.1
    have hown24 : (s.setVm T24.vm).vm.findClass "querent/hl7/LineReaderKeepFromNextPinLaw" = some m.cls := (hS24.1.alike.findClass _ _).trans hown
    obtain ⟨rfl, N24q, K24q, f24_0, f24_1, f24_2, f24_3, f24_4, f24_5, f24_6, f24_7, f24_8, f24_9, f24_10, f24_11, f24_12, f24_13⟩ := hQ24
    have y25 := (own_StaKeep ((((y11.wr W13).wr W15).wr W17).ext E23) K24q (allS (P := fun x => ∃ D, Exa Z h23 x D) ⟨_, A23⟩ all0))
    have y26 := (own_StaKeep (y18.ext E23) K24q (allS (P := fun x => ∃ D, Exa Z h23 x D) ⟨_, A23⟩ all0))
    have y27 := ((Vl.ext E23).keep K24q (ninS ne_b3_b23 nin0))
    have K24 : Keep h0 T24.heap [] := (K23).trans K24q (allS (P := fun x => x ∈ [] ∨ h0.size ≤ x) (Or.inr sz_b23) all0)
    have Z24 : n0 ≤ T24.heap.size := Nat.le_trans Z23 K24q.1
    have N24 := Fr.app N17 N24q
    have pre29 : ∀ t, Steps p.tables e below (T24.setTop (mkF m 128 #[.val (.int p1), .val (.int p2), .val (.ref b3), .val (.int (own_from p2)), .val (.int (own_to p2)), .val (.ref st_LINE_FEED), .val (.int (own_rd p2)), .val (.ref b23), .unset, .unset, .unset, .unset] [(.int (own_rd p2))])) t → Steps p.tables e below (s₁.setTop (entryFrame m #[(.int p1), (.int p2)] maxLocals)) t := fun t kt => pre21 t (by
      show Steps p.tables e below (T17.setTop (mkF m 89 #[.val (.int p1), .val (.int p2), .val (.ref b3), .val (.int (own_from p2)), .val (.int (own_to p2)), .unset, .unset, .unset, .unset, .unset, .unset, .unset] [(.int (((p2.toUInt32 >>> ((6 : Int32) &&& 31).toUInt32).toInt32) &&& (1 : Int32)))])) _
      refine XS.ifNo X17.here hx rfl (hb hby at_89) rfl ((if0 _ _).trans (teq hc89_20).2) ?_
      show Steps p.tables e below (T17.setTop (mkF m 92 #[.val (.int p1), .val (.int p2), .val (.ref b3), .val (.int (own_from p2)), .val (.int (own_to p2)), .unset, .unset, .unset, .unset, .unset, .unset, .unset] [])) _
      refine st22 _ ?_
      show Steps p.tables e below (T22.setTop (mkF m 95 #[.val (.int p1), .val (.int p2), .val (.ref b3), .val (.int (own_from p2)), .val (.int (own_to p2)), .unset, .unset, .unset, .unset, .unset, .unset, .unset] [(.ref st_LINE_FEED)])) _
      refine XS.goto X22.here hx rfl (pc0 := 95) (pc' := 101) rfl (hb hby at_95) (by decide) (by decide) ?_
      show Steps p.tables e below (T22.setTop (mkF m 101 #[.val (.int p1), .val (.int p2), .val (.ref b3), .val (.int (own_from p2)), .val (.int (own_to p2)), .unset, .unset, .unset, .unset, .unset, .unset, .unset] [(.ref st_LINE_FEED)])) _
      refine XS.astore X22.here hx rfl (hb hby at_101) rfl rfl (l' := #[.val (.int p1), .val (.int p2), .val (.ref b3), .val (.int (own_from p2)), .val (.int (own_to p2)), .val (.ref st_LINE_FEED), .unset, .unset, .unset, .unset, .unset, .unset]) rfl ?_
      show Steps p.tables e below (T22.setTop (mkF m 103 #[.val (.int p1), .val (.int p2), .val (.ref b3), .val (.int (own_from p2)), .val (.int (own_to p2)), .val (.ref st_LINE_FEED), .unset, .unset, .unset, .unset, .unset, .unset] [])) _
      refine XS.iloadN X22.here hx rfl (hb hby at_103) rfl ?_
      show Steps p.tables e below (T22.setTop (mkF m 104 #[.val (.int p1), .val (.int p2), .val (.ref b3), .val (.int (own_from p2)), .val (.int (own_to p2)), .val (.ref st_LINE_FEED), .unset, .unset, .unset, .unset, .unset, .unset] [(.int p2)])) _
      refine XS.bipush X22.here hx rfl (hb hby at_104) ?_
      show Steps p.tables e below (T22.setTop (mkF m 106 #[.val (.int p1), .val (.int p2), .val (.ref b3), .val (.int (own_from p2)), .val (.int (own_to p2)), .val (.ref st_LINE_FEED), .unset, .unset, .unset, .unset, .unset, .unset] [(.int (7 : Int32)), (.int p2)])) _
      refine XS.iushr X22.here hx rfl (hb hby at_106) rfl ?_
      show Steps p.tables e below (T22.setTop (mkF m 107 #[.val (.int p1), .val (.int p2), .val (.ref b3), .val (.int (own_from p2)), .val (.int (own_to p2)), .val (.ref st_LINE_FEED), .unset, .unset, .unset, .unset, .unset, .unset] [(.int ((p2.toUInt32 >>> ((7 : Int32) &&& 31).toUInt32).toInt32))])) _
      refine XS.iconst X22.here hx rfl (hb hby at_107) ?_
      show Steps p.tables e below (T22.setTop (mkF m 108 #[.val (.int p1), .val (.int p2), .val (.ref b3), .val (.int (own_from p2)), .val (.int (own_to p2)), .val (.ref st_LINE_FEED), .unset, .unset, .unset, .unset, .unset, .unset] [(.int (3 : Int32)), (.int ((p2.toUInt32 >>> ((7 : Int32) &&& 31).toUInt32).toInt32))])) _
      refine XS.iand X22.here hx rfl (hb hby at_108) rfl ?_
      show Steps p.tables e below (T22.setTop (mkF m 109 #[.val (.int p1), .val (.int p2), .val (.ref b3), .val (.int (own_from p2)), .val (.int (own_to p2)), .val (.ref st_LINE_FEED), .unset, .unset, .unset, .unset, .unset, .unset] [(.int (((p2.toUInt32 >>> ((7 : Int32) &&& 31).toUInt32).toInt32) &&& (3 : Int32)))])) _
      refine XS.istore X22.here hx rfl (hb hby at_109) rfl (l' := #[.val (.int p1), .val (.int p2), .val (.ref b3), .val (.int (own_from p2)), .val (.int (own_to p2)), .val (.ref st_LINE_FEED), .val (.int (own_rd p2)), .unset, .unset, .unset, .unset, .unset]) rfl ?_
      show Steps p.tables e below (T22.setTop (mkF m 111 #[.val (.int p1), .val (.int p2), .val (.ref b3), .val (.int (own_from p2)), .val (.int (own_to p2)), .val (.ref st_LINE_FEED), .val (.int (own_rd p2)), .unset, .unset, .unset, .unset, .unset] [])) _
      refine st23 _ ?_
      show Steps p.tables e below (T23.setTop (mkF m 114 #[.val (.int p1), .val (.int p2), .val (.ref b3), .val (.int (own_from p2)), .val (.int (own_to p2)), .val (.ref st_LINE_FEED), .val (.int (own_rd p2)), .unset, .unset, .unset, .unset, .unset] [(.ref b23)])) _
      refine XS.dup X23.here hx rfl (hb hby at_114) rfl rfl ?_
      show Steps p.tables e below (T23.setTop (mkF m 115 #[.val (.int p1), .val (.int p2), .val (.ref b3), .val (.int (own_from p2)), .val (.int (own_to p2)), .val (.ref st_LINE_FEED), .val (.int (own_rd p2)), .unset, .unset, .unset, .unset, .unset] [(.ref b23), (.ref b23)])) _
      refine XS.aloadN X23.here hx rfl (hb hby at_115) rfl rfl ?_
      show Steps p.tables e below (T23.setTop (mkF m 116 #[.val (.int p1), .val (.int p2), .val (.ref b3), .val (.int (own_from p2)), .val (.int (own_to p2)), .val (.ref st_LINE_FEED), .val (.int (own_rd p2)), .unset, .unset, .unset, .unset, .unset] [(.ref b3), (.ref b23), (.ref b23)])) _
      refine XS.iloadN X23.here hx rfl (hb hby at_116) rfl ?_
      show Steps p.tables e below (T23.setTop (mkF m 117 #[.val (.int p1), .val (.int p2), .val (.ref b3), .val (.int (own_from p2)), .val (.int (own_to p2)), .val (.ref st_LINE_FEED), .val (.int (own_rd p2)), .unset, .unset, .unset, .unset, .unset] [(.int (own_from p2)), (.ref b3), (.ref b23), (.ref b23)])) _
      refine XS.iload X23.here hx rfl (hb hby at_117) rfl ?_
      show Steps p.tables e below (T23.setTop (mkF m 119 #[.val (.int p1), .val (.int p2), .val (.ref b3), .val (.int (own_from p2)), .val (.int (own_to p2)), .val (.ref st_LINE_FEED), .val (.int (own_rd p2)), .unset, .unset, .unset, .unset, .unset] [(.int (own_to p2)), (.int (own_from p2)), (.ref b3), (.ref b23), (.ref b23)])) _
      refine XS.aload X23.here hx rfl (hb hby at_119) rfl rfl ?_
      show Steps p.tables e below (T23.setTop (mkF m 121 #[.val (.int p1), .val (.int p2), .val (.ref b3), .val (.int (own_from p2)), .val (.int (own_to p2)), .val (.ref st_LINE_FEED), .val (.int (own_rd p2)), .unset, .unset, .unset, .unset, .unset] [(.ref st_LINE_FEED), (.int (own_to p2)), (.int (own_from p2)), (.ref b3), (.ref b23), (.ref b23)])) _
      refine st24.trans ?_
      show Steps p.tables e below (T24.setTop (mkF m 124 #[.val (.int p1), .val (.int p2), .val (.ref b3), .val (.int (own_from p2)), .val (.int (own_to p2)), .val (.ref st_LINE_FEED), .val (.int (own_rd p2)), .unset, .unset, .unset, .unset, .unset] [(.ref b23)])) _
      refine XS.astore X24w.here hx rfl (hb hby at_124) rfl rfl (l' := #[.val (.int p1), .val (.int p2), .val (.ref b3), .val (.int (own_from p2)), .val (.int (own_to p2)), .val (.ref st_LINE_FEED), .val (.int (own_rd p2)), .val (.ref b23), .unset, .unset, .unset, .unset]) rfl ?_
      show Steps p.tables e below (T24.setTop (mkF m 126 #[.val (.int p1), .val (.int p2), .val (.ref b3), .val (.int (own_from p2)), .val (.int (own_to p2)), .val (.ref st_LINE_FEED), .val (.int (own_rd p2)), .val (.ref b23), .unset, .unset, .unset, .unset] [])) _
      refine XS.iload X24w.here hx rfl (hb hby at_126) rfl ?_
      show Steps p.tables e below (T24.setTop (mkF m 128 #[.val (.int p1), .val (.int p2), .val (.ref b3), .val (.int (own_from p2)), .val (.int (own_to p2)), .val (.ref st_LINE_FEED), .val (.int (own_rd p2)), .val (.ref b23), .unset, .unset, .unset, .unset] [(.int (own_rd p2))])) _
      exact kt)
    by_cases hc128_28 : (0 : Int32) < (own_rd p2)
    · obtain ⟨cq30, kq30, q30a, q30b, q30c⟩ := isOf hZ24 rfl f24_0
      obtain ⟨_, _, ⟨T30, L30, k30, n30⟩, -, X30, ⟨Lc30, hQ30, l30, y30, z30⟩, st30⟩ := X24w.virtualBack hx (y := (⟨"querent/hl7/LineReader", "next", "()Z"⟩ : MethodName)) (z := (⟨"querent/hl7/LineReader", "next", "()Z"⟩ : MethodName)) hown24 (mvT hZ24 (hw _ (List.mem_of_getElem? (i := 73) rfl))) (mvT hZ24 (hw _ (List.mem_of_getElem? (i := 74) rfl))) (notFace_of_selects (args := #[]) (mvT hZ24 (hw _ (List.mem_of_getElem? (i := 76) rfl)))) (mvT hZ24 (hw _ (List.mem_of_getElem? (i := 76) rfl))) (mvT hZ24 (hw _ (List.mem_of_getElem? (i := 75) rfl))) (by decide) (backOf (W := 0) (rm10 l Z a0 hw [] b23 b3 (F2_carriageReturnEnds_a1 st_LINE_FEED st_CARRIAGE_RETURN_OR_LINE_FEED) ((-(own_from p2)).toInt64) (own_to p2) (own_from p2) (own_from p2) (own_from p2) (0 : Int32) (0 : Int32) (0 : Int32) (0 : Int32) (0 : Int32) k3 vl T24.heap n0 Z24 f24_0 f24_1 f24_2 f24_3 f24_4 f24_5 f24_6 f24_7 f24_8 f24_9 f24_10 f24_11 f24_12 f24_13 y27 (show ¬ ((own_from p2) < (0 : Int32)) from (own_ft p2).1) (show ¬ ((own_to p2) < (own_from p2)) from (own_ft p2).2.1) (show ¬ ((6 : Int32) < (own_to p2)) from (own_ft p2).2.2) g_b23 ne_b3_b23) hZ24 (hw _ (List.mem_of_getElem? (i := 77) rfl)) (hw _ (List.mem_of_getElem? (i := 10) rfl)) (by decide) (by decide)) q30a q30c (g := (mkF m 133 #[.val (.int p1), .val (.int p2), .val (.ref b3), .val (.int (own_from p2)), .val (.int (own_to p2)), .val (.ref st_LINE_FEED), .val (.int (own_rd p2)), .val (.ref b23), .unset, .unset, .unset, .unset] [(.ref b23)])) rfl (by rw [hml]; rfl) (Steps.refl _) (argsL := []) (rest := []) (lenOf pd_3 rfl) rfl (by show 2 * 0 + _ ≤ _; exact Nat.le_of_eq rfl) (hb hby at_133) (fun _ _ => ⟨rfl, rfl, (by decide : 6 + 0 ≤ _), (by decide : 215 + 0 ≤ _)⟩)
      dsimp only [Pt.U, Pt.locs, Pt.cells, Pt.slots] at X30 l30 y30 z30 st30 hQ30
      subst l30 y30 z30
      obtain ⟨x30_0, x30_1, x30_2, x30_3, x30_4, x30_5, x30_6, rfl, N30q, K30q, f30_0, f30_1, f30_2, f30_3, f30_4, f30_5, f30_6, f30_7, f30_8, f30_9, f30_10, f30_11, f30_12, f30_13, p30_0, p30_1, p30_2⟩ := hQ30
      have K30 : Keep h0 T30.heap [] := (K24).trans K30q (allS (P := fun x => x ∈ [] ∨ h0.size ≤ x) (Or.inr sz_b23) all0)
      have Z30 : n0 ≤ T30.heap.size := Nat.le_trans Z24 K30q.1
      have N30 := Fr.app N24 N30q
      have pre32 : ∀ t, Steps p.tables e below (T30.setTop (mkF m 140 #[.val (.int p1), .val (.int p2), .val (.ref b3), .val (.int (own_from p2)), .val (.int (own_to p2)), .val (.ref st_LINE_FEED), .val (.int (own_rd p2)), .val (.ref b23), .unset, .unset, .unset, .unset] [(.int (1 : Int32)), (.int (own_rd p2))])) t → Steps p.tables e below (s₁.setTop (entryFrame m #[(.int p1), (.int p2)] maxLocals)) t := fun t kt => pre29 t (by
        show Steps p.tables e below (T24.setTop (mkF m 128 #[.val (.int p1), .val (.int p2), .val (.ref b3), .val (.int (own_from p2)), .val (.int (own_to p2)), .val (.ref st_LINE_FEED), .val (.int (own_rd p2)), .val (.ref b23), .unset, .unset, .unset, .unset] [(.int (own_rd p2))])) _
        refine XS.ifNo X24w.here hx rfl (hb hby at_128) rfl ((if0 _ _).trans (tlt hc128_28).2.2.2) ?_
        show Steps p.tables e below (T24.setTop (mkF m 131 #[.val (.int p1), .val (.int p2), .val (.ref b3), .val (.int (own_from p2)), .val (.int (own_to p2)), .val (.ref st_LINE_FEED), .val (.int (own_rd p2)), .val (.ref b23), .unset, .unset, .unset, .unset] [])) _
        refine XS.aload X24w.here hx rfl (hb hby at_131) rfl rfl ?_
        show Steps p.tables e below (T24.setTop (mkF m 133 #[.val (.int p1), .val (.int p2), .val (.ref b3), .val (.int (own_from p2)), .val (.int (own_to p2)), .val (.ref st_LINE_FEED), .val (.int (own_rd p2)), .val (.ref b23), .unset, .unset, .unset, .unset] [(.ref b23)])) _
        refine st30.trans ?_
        show Steps p.tables e below (T30.setTop (mkF m 136 #[.val (.int p1), .val (.int p2), .val (.ref b3), .val (.int (own_from p2)), .val (.int (own_to p2)), .val (.ref st_LINE_FEED), .val (.int (own_rd p2)), .val (.ref b23), .unset, .unset, .unset, .unset] [(.int x30_0)])) _
        refine XS.pop X30.here hx rfl (hb hby at_136) rfl rfl ?_
        show Steps p.tables e below (T30.setTop (mkF m 137 #[.val (.int p1), .val (.int p2), .val (.ref b3), .val (.int (own_from p2)), .val (.int (own_to p2)), .val (.ref st_LINE_FEED), .val (.int (own_rd p2)), .val (.ref b23), .unset, .unset, .unset, .unset] [])) _
        refine XS.iload X30.here hx rfl (hb hby at_137) rfl ?_
        show Steps p.tables e below (T30.setTop (mkF m 139 #[.val (.int p1), .val (.int p2), .val (.ref b3), .val (.int (own_from p2)), .val (.int (own_to p2)), .val (.ref st_LINE_FEED), .val (.int (own_rd p2)), .val (.ref b23), .unset, .unset, .unset, .unset] [(.int (own_rd p2))])) _
        refine XS.iconst X30.here hx rfl (hb hby at_139) ?_
        show Steps p.tables e below (T30.setTop (mkF m 140 #[.val (.int p1), .val (.int p2), .val (.ref b3), .val (.int (own_from p2)), .val (.int (own_to p2)), .val (.ref st_LINE_FEED), .val (.int (own_rd p2)), .val (.ref b23), .unset, .unset, .unset, .unset] [(.int (1 : Int32)), (.int (own_rd p2))])) _
        exact kt)
      by_cases hc140_31 : (1 : Int32) < (own_rd p2)
      · obtain ⟨cq33, kq33, q33a, q33b, q33c⟩ := isOf hZ24 rfl f30_0
        obtain ⟨_, _, ⟨T33, L33, k33, n33⟩, -, X33, ⟨Lc33, hQ33, l33, y33, z33⟩, st33⟩ := X30.virtualBack hx (y := (⟨"querent/hl7/LineReader", "next", "()Z"⟩ : MethodName)) (z := (⟨"querent/hl7/LineReader", "next", "()Z"⟩ : MethodName)) hown24 (mvT hZ24 (hw _ (List.mem_of_getElem? (i := 73) rfl))) (mvT hZ24 (hw _ (List.mem_of_getElem? (i := 74) rfl))) (notFace_of_selects (args := #[]) (mvT hZ24 (hw _ (List.mem_of_getElem? (i := 76) rfl)))) (mvT hZ24 (hw _ (List.mem_of_getElem? (i := 76) rfl))) (mvT hZ24 (hw _ (List.mem_of_getElem? (i := 75) rfl))) (by decide) (backOf (W := 0) (rm10 l Z a0 hw [] b23 b3 (F2_carriageReturnEnds_a1 st_LINE_FEED st_CARRIAGE_RETURN_OR_LINE_FEED) ((-(own_from p2)).toInt64) (own_to p2) x30_1 x30_2 x30_3 (0 : Int32) (0 : Int32) x30_4 x30_5 x30_6 k3 vl T30.heap n0 Z30 f30_0 f30_1 f30_2 f30_3 f30_4 f30_5 f30_6 f30_7 f30_8 f30_9 f30_10 f30_11 f30_12 f30_13 (y27.keep K30q (ninS ne_b3_b23 nin0)) p30_1 p30_2 (show ¬ ((6 : Int32) < (own_to p2)) from (own_ft p2).2.2) g_b23 ne_b3_b23) hZ24 (hw _ (List.mem_of_getElem? (i := 77) rfl)) (hw _ (List.mem_of_getElem? (i := 10) rfl)) (by decide) (by decide)) q33a q33c (g := (mkF m 145 #[.val (.int p1), .val (.int p2), .val (.ref b3), .val (.int (own_from p2)), .val (.int (own_to p2)), .val (.ref st_LINE_FEED), .val (.int (own_rd p2)), .val (.ref b23), .unset, .unset, .unset, .unset] [(.ref b23)])) rfl (by rw [hml]; rfl) (Steps.refl _) (argsL := []) (rest := []) (lenOf pd_3 rfl) rfl (by show 2 * 0 + _ ≤ _; exact Nat.le_of_eq rfl) (hb hby at_145) (fun _ _ => ⟨rfl, rfl, (by decide : 6 + 0 ≤ _), (by decide : 215 + 0 ≤ _)⟩)
        dsimp only [Pt.U, Pt.locs, Pt.cells, Pt.slots] at X33 l33 y33 z33 st33 hQ33
        subst l33 y33 z33
        obtain ⟨x33_0, x33_1, x33_2, x33_3, x33_4, x33_5, x33_6, rfl, N33q, K33q, f33_0, f33_1, f33_2, f33_3, f33_4, f33_5, f33_6, f33_7, f33_8, f33_9, f33_10, f33_11, f33_12, f33_13, p33_0, p33_1, p33_2⟩ := hQ33
        have y34 := ((y27.keep K30q (ninS ne_b3_b23 nin0)).keep K33q (ninS ne_b3_b23 nin0))
        have K33 : Keep h0 T33.heap [] := (K30).trans K33q (allS (P := fun x => x ∈ [] ∨ h0.size ≤ x) (Or.inr sz_b23) all0)
        have Z33 : n0 ≤ T33.heap.size := Nat.le_trans Z30 K33q.1
        have N33 := Fr.app N30 N33q
        have pre36 : ∀ t, Steps p.tables e below (T33.setTop (mkF m 152 #[.val (.int p1), .val (.int p2), .val (.ref b3), .val (.int (own_from p2)), .val (.int (own_to p2)), .val (.ref st_LINE_FEED), .val (.int (own_rd p2)), .val (.ref b23), .unset, .unset, .unset, .unset] [(.int (2 : Int32)), (.int (own_rd p2))])) t → Steps p.tables e below (s₁.setTop (entryFrame m #[(.int p1), (.int p2)] maxLocals)) t := fun t kt => pre32 t (by
          show Steps p.tables e below (T30.setTop (mkF m 140 #[.val (.int p1), .val (.int p2), .val (.ref b3), .val (.int (own_from p2)), .val (.int (own_to p2)), .val (.ref st_LINE_FEED), .val (.int (own_rd p2)), .val (.ref b23), .unset, .unset, .unset, .unset] [(.int (1 : Int32)), (.int (own_rd p2))])) _
          refine XS.icmpNo X30.here hx rfl (hb hby at_140) rfl (tlt hc140_31).2.2.2 ?_
          show Steps p.tables e below (T30.setTop (mkF m 143 #[.val (.int p1), .val (.int p2), .val (.ref b3), .val (.int (own_from p2)), .val (.int (own_to p2)), .val (.ref st_LINE_FEED), .val (.int (own_rd p2)), .val (.ref b23), .unset, .unset, .unset, .unset] [])) _
          refine XS.aload X30.here hx rfl (hb hby at_143) rfl rfl ?_
          show Steps p.tables e below (T30.setTop (mkF m 145 #[.val (.int p1), .val (.int p2), .val (.ref b3), .val (.int (own_from p2)), .val (.int (own_to p2)), .val (.ref st_LINE_FEED), .val (.int (own_rd p2)), .val (.ref b23), .unset, .unset, .unset, .unset] [(.ref b23)])) _
          refine st33.trans ?_
          show Steps p.tables e below (T33.setTop (mkF m 148 #[.val (.int p1), .val (.int p2), .val (.ref b3), .val (.int (own_from p2)), .val (.int (own_to p2)), .val (.ref st_LINE_FEED), .val (.int (own_rd p2)), .val (.ref b23), .unset, .unset, .unset, .unset] [(.int x33_0)])) _
          refine XS.pop X33.here hx rfl (hb hby at_148) rfl rfl ?_
          show Steps p.tables e below (T33.setTop (mkF m 149 #[.val (.int p1), .val (.int p2), .val (.ref b3), .val (.int (own_from p2)), .val (.int (own_to p2)), .val (.ref st_LINE_FEED), .val (.int (own_rd p2)), .val (.ref b23), .unset, .unset, .unset, .unset] [])) _
          refine XS.iload X33.here hx rfl (hb hby at_149) rfl ?_
          show Steps p.tables e below (T33.setTop (mkF m 151 #[.val (.int p1), .val (.int p2), .val (.ref b3), .val (.int (own_from p2)), .val (.int (own_to p2)), .val (.ref st_LINE_FEED), .val (.int (own_rd p2)), .val (.ref b23), .unset, .unset, .unset, .unset] [(.int (own_rd p2))])) _
          refine XS.iconst X33.here hx rfl (hb hby at_151) ?_
          show Steps p.tables e below (T33.setTop (mkF m 152 #[.val (.int p1), .val (.int p2), .val (.ref b3), .val (.int (own_from p2)), .val (.int (own_to p2)), .val (.ref st_LINE_FEED), .val (.int (own_rd p2)), .val (.ref b23), .unset, .unset, .unset, .unset] [(.int (2 : Int32)), (.int (own_rd p2))])) _
          exact kt)
        by_cases hc152_35 : (2 : Int32) < (own_rd p2)
        · obtain ⟨cq37, kq37, q37a, q37b, q37c⟩ := isOf hZ24 rfl f33_0
          obtain ⟨_, _, ⟨T37, L37, k37, n37⟩, -, X37, ⟨Lc37, hQ37, l37, y37, z37⟩, st37⟩ := X33.virtualBack hx (y := (⟨"querent/hl7/LineReader", "next", "()Z"⟩ : MethodName)) (z := (⟨"querent/hl7/LineReader", "next", "()Z"⟩ : MethodName)) hown24 (mvT hZ24 (hw _ (List.mem_of_getElem? (i := 73) rfl))) (mvT hZ24 (hw _ (List.mem_of_getElem? (i := 74) rfl))) (notFace_of_selects (args := #[]) (mvT hZ24 (hw _ (List.mem_of_getElem? (i := 76) rfl)))) (mvT hZ24 (hw _ (List.mem_of_getElem? (i := 76) rfl))) (mvT hZ24 (hw _ (List.mem_of_getElem? (i := 75) rfl))) (by decide) (backOf (W := 0) (rm10 l Z a0 hw [] b23 b3 (F2_carriageReturnEnds_a1 st_LINE_FEED st_CARRIAGE_RETURN_OR_LINE_FEED) ((-(own_from p2)).toInt64) (own_to p2) x33_1 x33_2 x33_3 (0 : Int32) (0 : Int32) x33_4 x33_5 x33_6 k3 vl T33.heap n0 Z33 f33_0 f33_1 f33_2 f33_3 f33_4 f33_5 f33_6 f33_7 f33_8 f33_9 f33_10 f33_11 f33_12 f33_13 y34 p33_1 p33_2 (show ¬ ((6 : Int32) < (own_to p2)) from (own_ft p2).2.2) g_b23 ne_b3_b23) hZ24 (hw _ (List.mem_of_getElem? (i := 77) rfl)) (hw _ (List.mem_of_getElem? (i := 10) rfl)) (by decide) (by decide)) q37a q37c (g := (mkF m 157 #[.val (.int p1), .val (.int p2), .val (.ref b3), .val (.int (own_from p2)), .val (.int (own_to p2)), .val (.ref st_LINE_FEED), .val (.int (own_rd p2)), .val (.ref b23), .unset, .unset, .unset, .unset] [(.ref b23)])) rfl (by rw [hml]; rfl) (Steps.refl _) (argsL := []) (rest := []) (lenOf pd_3 rfl) rfl (by show 2 * 0 + _ ≤ _; exact Nat.le_of_eq rfl) (hb hby at_157) (fun _ _ => ⟨rfl, rfl, (by decide : 6 + 0 ≤ _), (by decide : 215 + 0 ≤ _)⟩)
          dsimp only [Pt.U, Pt.locs, Pt.cells, Pt.slots] at X37 l37 y37 z37 st37 hQ37
          subst l37 y37 z37
          obtain ⟨x37_0, x37_1, x37_2, x37_3, x37_4, x37_5, x37_6, rfl, N37q, K37q, f37_0, f37_1, f37_2, f37_3, f37_4, f37_5, f37_6, f37_7, f37_8, f37_9, f37_10, f37_11, f37_12, f37_13, p37_0, p37_1, p37_2⟩ := hQ37
          have K37 : Keep h0 T37.heap [] := (K33).trans K37q (allS (P := fun x => x ∈ [] ∨ h0.size ≤ x) (Or.inr sz_b23) all0)
          have Z37 : n0 ≤ T37.heap.size := Nat.le_trans Z33 K37q.1
          have N37 := Fr.app N33 N37q
          obtain ⟨cq38, kq38, q38a, q38b, q38c⟩ := isOf hZ24 rfl f37_0
          obtain ⟨_, _, ⟨T38, L38, k38, n38⟩, -, X38, ⟨Lc38, hQ38, l38, y38, z38⟩, st38⟩ := X37.virtualBack hx (y := (⟨"querent/hl7/LineReader", "offset", "()J"⟩ : MethodName)) (z := (⟨"querent/hl7/LineReader", "offset", "()J"⟩ : MethodName)) hown24 (mvT hZ24 (hw _ (List.mem_of_getElem? (i := 54) rfl))) (mvT hZ24 (hw _ (List.mem_of_getElem? (i := 55) rfl))) (notFace_of_selects (args := #[]) (mvT hZ24 (hw _ (List.mem_of_getElem? (i := 57) rfl)))) (mvT hZ24 (hw _ (List.mem_of_getElem? (i := 57) rfl))) (mvT hZ24 (hw _ (List.mem_of_getElem? (i := 56) rfl))) (by decide) (backOf (W := 0) (rm7 l Z a0 hw [] b23 ((-(own_from p2)).toInt64) x37_3 T37.heap n0 Z37 f37_4 f37_8) hZ24 (hw _ (List.mem_of_getElem? (i := 58) rfl)) (hw _ (List.mem_of_getElem? (i := 10) rfl)) (by decide) (by decide)) q38a q38c (g := (mkF m 163 #[.val (.int p1), .val (.int p2), .val (.ref b3), .val (.int (own_from p2)), .val (.int (own_to p2)), .val (.ref st_LINE_FEED), .val (.int (own_rd p2)), .val (.ref b23), .unset, .unset, .unset, .unset] [(.ref b23)])) rfl (by rw [hml]; rfl) (Steps.refl _) (argsL := []) (rest := []) (lenOf pd_9 rfl) rfl (by show 2 * 0 + _ ≤ _; exact Nat.le_of_eq rfl) (hb hby at_163) (fun _ _ => ⟨rfl, rfl, (by decide : 6 + 0 ≤ _), (by decide : 215 + 0 ≤ _)⟩)
          dsimp only [Pt.U, Pt.locs, Pt.cells, Pt.slots] at X38 l38 y38 z38 st38 hQ38
          subst l38 y38 z38
          obtain ⟨rfl, N38q, e38⟩ := hQ38
          have N38 := Fr.app N37 N38q
          obtain ⟨cq39, kq39, q39a, q39b, q39c⟩ := isOf hZ24 e38 f37_0
          obtain ⟨_, _, ⟨T39, L39, k39, n39⟩, -, X39, ⟨Lc39, hQ39, l39, y39, z39⟩, st39⟩ := X38.virtualBack hx (y := (⟨"querent/hl7/LineReader", "keepFromNext", "()V"⟩ : MethodName)) (z := (⟨"querent/hl7/LineReader", "keepFromNext", "()V"⟩ : MethodName)) hown24 (mvT hZ24 (hw _ (List.mem_of_getElem? (i := 59) rfl))) (mvT hZ24 (hw _ (List.mem_of_getElem? (i := 60) rfl))) (notFace_of_selects (args := #[]) (mvT hZ24 (hw _ (List.mem_of_getElem? (i := 62) rfl)))) (mvT hZ24 (hw _ (List.mem_of_getElem? (i := 62) rfl))) (mvT hZ24 (hw _ (List.mem_of_getElem? (i := 61) rfl))) (by decide) (backOf (W := 0) (rm8 l Z a0 hw [] b23 b3 (F2_carriageReturnEnds_a1 st_LINE_FEED st_CARRIAGE_RETURN_OR_LINE_FEED) ((-(own_from p2)).toInt64) (own_to p2) x37_1 x37_2 x37_3 (0 : Int32) (0 : Int32) x37_4 x37_5 x37_6 T37.heap n0 Z37 f37_0 f37_1 f37_2 f37_3 f37_4 f37_5 f37_6 f37_7 f37_8 f37_9 f37_10 f37_11 f37_12 f37_13 g_b23) hZ24 (hw _ (List.mem_of_getElem? (i := 63) rfl)) (hw _ (List.mem_of_getElem? (i := 10) rfl)) (by decide) (by decide)) q39a q39c (g := (mkF m 170 #[.val (.int p1), .val (.int p2), .val (.ref b3), .val (.int (own_from p2)), .val (.int (own_to p2)), .val (.ref st_LINE_FEED), .val (.int (own_rd p2)), .val (.ref b23), .val (.long (((-(own_from p2)).toInt64) + (x37_3.toInt64))), .second, .unset, .unset] [(.ref b23)])) rfl (by rw [hml]; rfl) (Steps.refl _) (argsL := []) (rest := []) (lenOf pd_4 rfl) rfl (by show 2 * 0 + _ ≤ _; exact Nat.le_of_eq rfl) (hb hby at_170) (fun _ _ => ⟨rfl, e38, (by decide : 6 + 0 ≤ _), (by decide : 215 + 0 ≤ _)⟩)
          dsimp only [Pt.U, Pt.locs, Pt.cells, Pt.slots] at X39 l39 y39 z39 st39 hQ39
          subst l39 y39 z39
          obtain ⟨rfl, N39q, K39q, f39_0, f39_1, f39_2, f39_3, f39_4, f39_5, f39_6, f39_7, f39_8, f39_9, f39_10, f39_11, f39_12, f39_13⟩ := hQ39
          have y40 := ((y34.keep K37q (ninS ne_b3_b23 nin0)).keep K39q (ninS ne_b3_b23 nin0))
          have K39 : Keep h0 T39.heap [] := (K37).trans K39q (allS (P := fun x => x ∈ [] ∨ h0.size ≤ x) (Or.inr sz_b23) all0)
          have Z39 : n0 ≤ T39.heap.size := Nat.le_trans Z37 K39q.1
          have N39 := Fr.app N38 N39q
          obtain ⟨cq41, kq41, q41a, q41b, q41c⟩ := isOf hZ24 rfl f39_0
          obtain ⟨_, _, ⟨T41, L41, k41, n41⟩, -, X41, ⟨Lc41, hQ41, l41, y41, z41⟩, st41⟩ := X39.virtualBack hx (y := (⟨"querent/hl7/LineReader", "kept", "()I"⟩ : MethodName)) (z := (⟨"querent/hl7/LineReader", "kept", "()I"⟩ : MethodName)) hown24 (mvT hZ24 (hw _ (List.mem_of_getElem? (i := 68) rfl))) (mvT hZ24 (hw _ (List.mem_of_getElem? (i := 69) rfl))) (notFace_of_selects (args := #[]) (mvT hZ24 (hw _ (List.mem_of_getElem? (i := 71) rfl)))) (mvT hZ24 (hw _ (List.mem_of_getElem? (i := 71) rfl))) (mvT hZ24 (hw _ (List.mem_of_getElem? (i := 70) rfl))) (by decide) (backOf (W := 0) (rm9 l Z a0 hw [] b23 x37_3 T39.heap n0 Z39 f39_10) hZ24 (hw _ (List.mem_of_getElem? (i := 72) rfl)) (hw _ (List.mem_of_getElem? (i := 10) rfl)) (by decide) (by decide)) q41a q41c (g := (mkF m 175 #[.val (.int p1), .val (.int p2), .val (.ref b3), .val (.int (own_from p2)), .val (.int (own_to p2)), .val (.ref st_LINE_FEED), .val (.int (own_rd p2)), .val (.ref b23), .val (.long (((-(own_from p2)).toInt64) + (x37_3.toInt64))), .second, .unset, .unset] [(.ref b23)])) rfl (by rw [hml]; rfl) (Steps.refl _) (argsL := []) (rest := []) (lenOf pd_10 rfl) rfl (by show 2 * 0 + _ ≤ _; exact Nat.le_of_eq rfl) (hb hby at_175) (fun _ _ => ⟨rfl, rfl, (by decide : 6 + 0 ≤ _), (by decide : 215 + 0 ≤ _)⟩)
          dsimp only [Pt.U, Pt.locs, Pt.cells, Pt.slots] at X41 l41 y41 z41 st41 hQ41
          subst l41 y41 z41
          obtain ⟨rfl, N41q, e41⟩ := hQ41
          have N41 := Fr.app N39 N41q
          have hc189_42 : (x37_3.toInt64) = ((((-(own_from p2)).toInt64) + (x37_3.toInt64)) + ((own_from p2).toInt64)) := own_off p2 p37_1 p37_2
          obtain ⟨cq43, kq43, q43a, q43b, q43c⟩ := isOf hZ24 e41 f39_0
          obtain ⟨_, _, ⟨T43, L43, k43, n43⟩, -, X43, ⟨Lc43, hQ43, l43, y43, z43⟩, st43⟩ := X41.virtualBack hx (y := (⟨"querent/hl7/LineReader", "next", "()Z"⟩ : MethodName)) (z := (⟨"querent/hl7/LineReader", "next", "()Z"⟩ : MethodName)) hown24 (mvT hZ24 (hw _ (List.mem_of_getElem? (i := 73) rfl))) (mvT hZ24 (hw _ (List.mem_of_getElem? (i := 74) rfl))) (notFace_of_selects (args := #[]) (mvT hZ24 (hw _ (List.mem_of_getElem? (i := 76) rfl)))) (mvT hZ24 (hw _ (List.mem_of_getElem? (i := 76) rfl))) (mvT hZ24 (hw _ (List.mem_of_getElem? (i := 75) rfl))) (by decide) (backOf (W := 0) (rm10 l Z a0 hw [] b23 b3 (F2_carriageReturnEnds_a1 st_LINE_FEED st_CARRIAGE_RETURN_OR_LINE_FEED) ((-(own_from p2)).toInt64) (own_to p2) x37_1 x37_2 x37_3 (1 : Int32) x37_3 x37_4 x37_5 x37_6 k3 vl T39.heap n0 Z39 f39_0 f39_1 f39_2 f39_3 f39_4 f39_5 f39_6 f39_7 f39_8 f39_9 f39_10 f39_11 f39_12 f39_13 y40 p37_1 p37_2 (show ¬ ((6 : Int32) < (own_to p2)) from (own_ft p2).2.2) g_b23 ne_b3_b23) hZ24 (hw _ (List.mem_of_getElem? (i := 77) rfl)) (hw _ (List.mem_of_getElem? (i := 10) rfl)) (by decide) (by decide)) q43a q43c (g := (mkF m 196 #[.val (.int p1), .val (.int p2), .val (.ref b3), .val (.int (own_from p2)), .val (.int (own_to p2)), .val (.ref st_LINE_FEED), .val (.int (own_rd p2)), .val (.ref b23), .val (.long (((-(own_from p2)).toInt64) + (x37_3.toInt64))), .second, .val (.int x37_3), .unset] [(.ref b23)])) rfl (by rw [hml]; rfl) (Steps.refl _) (argsL := []) (rest := []) (lenOf pd_3 rfl) rfl (by show 2 * 0 + _ ≤ _; exact Nat.le_of_eq rfl) (hb hby at_196) (fun _ _ => ⟨rfl, e41, (by decide : 6 + 0 ≤ _), (by decide : 215 + 0 ≤ _)⟩)
          dsimp only [Pt.U, Pt.locs, Pt.cells, Pt.slots] at X43 l43 y43 z43 st43 hQ43
          subst l43 y43 z43
          obtain ⟨x43_0, x43_1, x43_2, x43_3, x43_4, x43_5, x43_6, rfl, N43q, K43q, f43_0, f43_1, f43_2, f43_3, f43_4, f43_5, f43_6, f43_7, f43_8, f43_9, f43_10, f43_11, f43_12, f43_13, p43_0, p43_1, p43_2⟩ := hQ43
          have K43 : Keep h0 T43.heap [] := (K39).trans K43q (allS (P := fun x => x ∈ [] ∨ h0.size ≤ x) (Or.inr sz_b23) all0)
          have Z43 : n0 ≤ T43.heap.size := Nat.le_trans Z39 K43q.1
          have N43 := Fr.app N41 N43q
          obtain ⟨cq44, kq44, q44a, q44b, q44c⟩ := isOf hZ24 rfl f43_0
          obtain ⟨_, _, ⟨T44, L44, k44, n44⟩, -, X44, ⟨Lc44, hQ44, l44, y44, z44⟩, st44⟩ := X43.virtualBack hx (y := (⟨"querent/hl7/LineReader", "start", "()I"⟩ : MethodName)) (z := (⟨"querent/hl7/LineReader", "start", "()I"⟩ : MethodName)) hown24 (mvT hZ24 (hw _ (List.mem_of_getElem? (i := 96) rfl))) (mvT hZ24 (hw _ (List.mem_of_getElem? (i := 97) rfl))) (notFace_of_selects (args := #[]) (mvT hZ24 (hw _ (List.mem_of_getElem? (i := 99) rfl)))) (mvT hZ24 (hw _ (List.mem_of_getElem? (i := 99) rfl))) (mvT hZ24 (hw _ (List.mem_of_getElem? (i := 98) rfl))) (by decide) (backOf (W := 0) (rm15 l Z a0 hw [] b23 x43_1 T43.heap n0 Z43 f43_6) hZ24 (hw _ (List.mem_of_getElem? (i := 100) rfl)) (hw _ (List.mem_of_getElem? (i := 10) rfl)) (by decide) (by decide)) q44a q44c (g := (mkF m 202 #[.val (.int p1), .val (.int p2), .val (.ref b3), .val (.int (own_from p2)), .val (.int (own_to p2)), .val (.ref st_LINE_FEED), .val (.int (own_rd p2)), .val (.ref b23), .val (.long (((-(own_from p2)).toInt64) + (x37_3.toInt64))), .second, .val (.int x37_3), .unset] [(.ref b23)])) rfl (by rw [hml]; rfl) (Steps.refl _) (argsL := []) (rest := []) (lenOf pd_10 rfl) rfl (by show 2 * 0 + _ ≤ _; exact Nat.le_of_eq rfl) (hb hby at_202) (fun _ _ => ⟨rfl, rfl, (by decide : 6 + 0 ≤ _), (by decide : 215 + 0 ≤ _)⟩)
          dsimp only [Pt.U, Pt.locs, Pt.cells, Pt.slots] at X44 l44 y44 z44 st44 hQ44
          subst l44 y44 z44
          obtain ⟨rfl, N44q, e44⟩ := hQ44
          have N44 := Fr.app N43 N44q
          have pre46 : ∀ t, Steps p.tables e below (T44.setTop (mkF m 211 #[.val (.int p1), .val (.int p2), .val (.ref b3), .val (.int (own_from p2)), .val (.int (own_to p2)), .val (.ref st_LINE_FEED), .val (.int (own_rd p2)), .val (.ref b23), .val (.long (((-(own_from p2)).toInt64) + (x37_3.toInt64))), .second, .val (.int x37_3), .val (.int x43_1)] [(.int x37_3), (.int x43_1)])) t → Steps p.tables e below (s₁.setTop (entryFrame m #[(.int p1), (.int p2)] maxLocals)) t := fun t kt => pre36 t (by
            show Steps p.tables e below (T33.setTop (mkF m 152 #[.val (.int p1), .val (.int p2), .val (.ref b3), .val (.int (own_from p2)), .val (.int (own_to p2)), .val (.ref st_LINE_FEED), .val (.int (own_rd p2)), .val (.ref b23), .unset, .unset, .unset, .unset] [(.int (2 : Int32)), (.int (own_rd p2))])) _
            refine XS.icmpNo X33.here hx rfl (hb hby at_152) rfl (tlt hc152_35).2.2.2 ?_
            show Steps p.tables e below (T33.setTop (mkF m 155 #[.val (.int p1), .val (.int p2), .val (.ref b3), .val (.int (own_from p2)), .val (.int (own_to p2)), .val (.ref st_LINE_FEED), .val (.int (own_rd p2)), .val (.ref b23), .unset, .unset, .unset, .unset] [])) _
            refine XS.aload X33.here hx rfl (hb hby at_155) rfl rfl ?_
            show Steps p.tables e below (T33.setTop (mkF m 157 #[.val (.int p1), .val (.int p2), .val (.ref b3), .val (.int (own_from p2)), .val (.int (own_to p2)), .val (.ref st_LINE_FEED), .val (.int (own_rd p2)), .val (.ref b23), .unset, .unset, .unset, .unset] [(.ref b23)])) _
            refine st37.trans ?_
            show Steps p.tables e below (T37.setTop (mkF m 160 #[.val (.int p1), .val (.int p2), .val (.ref b3), .val (.int (own_from p2)), .val (.int (own_to p2)), .val (.ref st_LINE_FEED), .val (.int (own_rd p2)), .val (.ref b23), .unset, .unset, .unset, .unset] [(.int x37_0)])) _
            refine XS.pop X37.here hx rfl (hb hby at_160) rfl rfl ?_
            show Steps p.tables e below (T37.setTop (mkF m 161 #[.val (.int p1), .val (.int p2), .val (.ref b3), .val (.int (own_from p2)), .val (.int (own_to p2)), .val (.ref st_LINE_FEED), .val (.int (own_rd p2)), .val (.ref b23), .unset, .unset, .unset, .unset] [])) _
            refine XS.aload X37.here hx rfl (hb hby at_161) rfl rfl ?_
            show Steps p.tables e below (T37.setTop (mkF m 163 #[.val (.int p1), .val (.int p2), .val (.ref b3), .val (.int (own_from p2)), .val (.int (own_to p2)), .val (.ref st_LINE_FEED), .val (.int (own_rd p2)), .val (.ref b23), .unset, .unset, .unset, .unset] [(.ref b23)])) _
            refine st38.trans ?_
            show Steps p.tables e below (T38.setTop (mkF m 166 #[.val (.int p1), .val (.int p2), .val (.ref b3), .val (.int (own_from p2)), .val (.int (own_to p2)), .val (.ref st_LINE_FEED), .val (.int (own_rd p2)), .val (.ref b23), .unset, .unset, .unset, .unset] [(.long (((-(own_from p2)).toInt64) + (x37_3.toInt64)))])) _
            refine XS.lstore X38.here hx rfl (hb hby at_166) rfl (l' := #[.val (.int p1), .val (.int p2), .val (.ref b3), .val (.int (own_from p2)), .val (.int (own_to p2)), .val (.ref st_LINE_FEED), .val (.int (own_rd p2)), .val (.ref b23), .val (.long (((-(own_from p2)).toInt64) + (x37_3.toInt64))), .second, .unset, .unset]) rfl ?_
            show Steps p.tables e below (T38.setTop (mkF m 168 #[.val (.int p1), .val (.int p2), .val (.ref b3), .val (.int (own_from p2)), .val (.int (own_to p2)), .val (.ref st_LINE_FEED), .val (.int (own_rd p2)), .val (.ref b23), .val (.long (((-(own_from p2)).toInt64) + (x37_3.toInt64))), .second, .unset, .unset] [])) _
            refine XS.aload X38.here hx rfl (hb hby at_168) rfl rfl ?_
            show Steps p.tables e below (T38.setTop (mkF m 170 #[.val (.int p1), .val (.int p2), .val (.ref b3), .val (.int (own_from p2)), .val (.int (own_to p2)), .val (.ref st_LINE_FEED), .val (.int (own_rd p2)), .val (.ref b23), .val (.long (((-(own_from p2)).toInt64) + (x37_3.toInt64))), .second, .unset, .unset] [(.ref b23)])) _
            refine st39.trans ?_
            show Steps p.tables e below (T39.setTop (mkF m 173 #[.val (.int p1), .val (.int p2), .val (.ref b3), .val (.int (own_from p2)), .val (.int (own_to p2)), .val (.ref st_LINE_FEED), .val (.int (own_rd p2)), .val (.ref b23), .val (.long (((-(own_from p2)).toInt64) + (x37_3.toInt64))), .second, .unset, .unset] [])) _
            refine XS.aload X39.here hx rfl (hb hby at_173) rfl rfl ?_
            show Steps p.tables e below (T39.setTop (mkF m 175 #[.val (.int p1), .val (.int p2), .val (.ref b3), .val (.int (own_from p2)), .val (.int (own_to p2)), .val (.ref st_LINE_FEED), .val (.int (own_rd p2)), .val (.ref b23), .val (.long (((-(own_from p2)).toInt64) + (x37_3.toInt64))), .second, .unset, .unset] [(.ref b23)])) _
            refine st41.trans ?_
            show Steps p.tables e below (T41.setTop (mkF m 178 #[.val (.int p1), .val (.int p2), .val (.ref b3), .val (.int (own_from p2)), .val (.int (own_to p2)), .val (.ref st_LINE_FEED), .val (.int (own_rd p2)), .val (.ref b23), .val (.long (((-(own_from p2)).toInt64) + (x37_3.toInt64))), .second, .unset, .unset] [(.int x37_3)])) _
            refine XS.istore X41.here hx rfl (hb hby at_178) rfl (l' := #[.val (.int p1), .val (.int p2), .val (.ref b3), .val (.int (own_from p2)), .val (.int (own_to p2)), .val (.ref st_LINE_FEED), .val (.int (own_rd p2)), .val (.ref b23), .val (.long (((-(own_from p2)).toInt64) + (x37_3.toInt64))), .second, .val (.int x37_3), .unset]) rfl ?_
            show Steps p.tables e below (T41.setTop (mkF m 180 #[.val (.int p1), .val (.int p2), .val (.ref b3), .val (.int (own_from p2)), .val (.int (own_to p2)), .val (.ref st_LINE_FEED), .val (.int (own_rd p2)), .val (.ref b23), .val (.long (((-(own_from p2)).toInt64) + (x37_3.toInt64))), .second, .val (.int x37_3), .unset] [])) _
            refine XS.iload X41.here hx rfl (hb hby at_180) rfl ?_
            show Steps p.tables e below (T41.setTop (mkF m 182 #[.val (.int p1), .val (.int p2), .val (.ref b3), .val (.int (own_from p2)), .val (.int (own_to p2)), .val (.ref st_LINE_FEED), .val (.int (own_rd p2)), .val (.ref b23), .val (.long (((-(own_from p2)).toInt64) + (x37_3.toInt64))), .second, .val (.int x37_3), .unset] [(.int x37_3)])) _
            refine XS.i2l X41.here hx rfl (hb hby at_182) rfl ?_
            show Steps p.tables e below (T41.setTop (mkF m 183 #[.val (.int p1), .val (.int p2), .val (.ref b3), .val (.int (own_from p2)), .val (.int (own_to p2)), .val (.ref st_LINE_FEED), .val (.int (own_rd p2)), .val (.ref b23), .val (.long (((-(own_from p2)).toInt64) + (x37_3.toInt64))), .second, .val (.int x37_3), .unset] [(.long (x37_3.toInt64))])) _
            refine XS.lload X41.here hx rfl (hb hby at_183) rfl ?_
            show Steps p.tables e below (T41.setTop (mkF m 185 #[.val (.int p1), .val (.int p2), .val (.ref b3), .val (.int (own_from p2)), .val (.int (own_to p2)), .val (.ref st_LINE_FEED), .val (.int (own_rd p2)), .val (.ref b23), .val (.long (((-(own_from p2)).toInt64) + (x37_3.toInt64))), .second, .val (.int x37_3), .unset] [(.long (((-(own_from p2)).toInt64) + (x37_3.toInt64))), (.long (x37_3.toInt64))])) _
            refine XS.iloadN X41.here hx rfl (hb hby at_185) rfl ?_
            show Steps p.tables e below (T41.setTop (mkF m 186 #[.val (.int p1), .val (.int p2), .val (.ref b3), .val (.int (own_from p2)), .val (.int (own_to p2)), .val (.ref st_LINE_FEED), .val (.int (own_rd p2)), .val (.ref b23), .val (.long (((-(own_from p2)).toInt64) + (x37_3.toInt64))), .second, .val (.int x37_3), .unset] [(.int (own_from p2)), (.long (((-(own_from p2)).toInt64) + (x37_3.toInt64))), (.long (x37_3.toInt64))])) _
            refine XS.i2l X41.here hx rfl (hb hby at_186) rfl ?_
            show Steps p.tables e below (T41.setTop (mkF m 187 #[.val (.int p1), .val (.int p2), .val (.ref b3), .val (.int (own_from p2)), .val (.int (own_to p2)), .val (.ref st_LINE_FEED), .val (.int (own_rd p2)), .val (.ref b23), .val (.long (((-(own_from p2)).toInt64) + (x37_3.toInt64))), .second, .val (.int x37_3), .unset] [(.long ((own_from p2).toInt64)), (.long (((-(own_from p2)).toInt64) + (x37_3.toInt64))), (.long (x37_3.toInt64))])) _
            refine XS.ladd X41.here hx rfl (hb hby at_187) rfl ?_
            show Steps p.tables e below (T41.setTop (mkF m 188 #[.val (.int p1), .val (.int p2), .val (.ref b3), .val (.int (own_from p2)), .val (.int (own_to p2)), .val (.ref st_LINE_FEED), .val (.int (own_rd p2)), .val (.ref b23), .val (.long (((-(own_from p2)).toInt64) + (x37_3.toInt64))), .second, .val (.int x37_3), .unset] [(.long ((((-(own_from p2)).toInt64) + (x37_3.toInt64)) + ((own_from p2).toInt64))), (.long (x37_3.toInt64))])) _
            refine XS.lcmp X41.here hx rfl (hb hby at_188) rfl ?_
            show Steps p.tables e below (T41.setTop (mkF m 189 #[.val (.int p1), .val (.int p2), .val (.ref b3), .val (.int (own_from p2)), .val (.int (own_to p2)), .val (.ref st_LINE_FEED), .val (.int (own_rd p2)), .val (.ref b23), .val (.long (((-(own_from p2)).toInt64) + (x37_3.toInt64))), .second, .val (.int x37_3), .unset] [(.int (lcmpW (x37_3.toInt64) ((((-(own_from p2)).toInt64) + (x37_3.toInt64)) + ((own_from p2).toInt64))))])) _
            refine XS.ifYes X41.here hx rfl (pc0 := 189) (pc' := 194) rfl (hb hby at_189) rfl ((if0 _ _).trans (teq ((lw_eq (x37_3.toInt64) ((((-(own_from p2)).toInt64) + (x37_3.toInt64)) + ((own_from p2).toInt64))).mpr hc189_42)).1) (by decide) (by decide) ?_
            show Steps p.tables e below (T41.setTop (mkF m 194 #[.val (.int p1), .val (.int p2), .val (.ref b3), .val (.int (own_from p2)), .val (.int (own_to p2)), .val (.ref st_LINE_FEED), .val (.int (own_rd p2)), .val (.ref b23), .val (.long (((-(own_from p2)).toInt64) + (x37_3.toInt64))), .second, .val (.int x37_3), .unset] [])) _
            refine XS.aload X41.here hx rfl (hb hby at_194) rfl rfl ?_
            show Steps p.tables e below (T41.setTop (mkF m 196 #[.val (.int p1), .val (.int p2), .val (.ref b3), .val (.int (own_from p2)), .val (.int (own_to p2)), .val (.ref st_LINE_FEED), .val (.int (own_rd p2)), .val (.ref b23), .val (.long (((-(own_from p2)).toInt64) + (x37_3.toInt64))), .second, .val (.int x37_3), .unset] [(.ref b23)])) _
            refine st43.trans ?_
            show Steps p.tables e below (T43.setTop (mkF m 199 #[.val (.int p1), .val (.int p2), .val (.ref b3), .val (.int (own_from p2)), .val (.int (own_to p2)), .val (.ref st_LINE_FEED), .val (.int (own_rd p2)), .val (.ref b23), .val (.long (((-(own_from p2)).toInt64) + (x37_3.toInt64))), .second, .val (.int x37_3), .unset] [(.int x43_0)])) _
            refine XS.pop X43.here hx rfl (hb hby at_199) rfl rfl ?_
            show Steps p.tables e below (T43.setTop (mkF m 200 #[.val (.int p1), .val (.int p2), .val (.ref b3), .val (.int (own_from p2)), .val (.int (own_to p2)), .val (.ref st_LINE_FEED), .val (.int (own_rd p2)), .val (.ref b23), .val (.long (((-(own_from p2)).toInt64) + (x37_3.toInt64))), .second, .val (.int x37_3), .unset] [])) _
            refine XS.aload X43.here hx rfl (hb hby at_200) rfl rfl ?_
            show Steps p.tables e below (T43.setTop (mkF m 202 #[.val (.int p1), .val (.int p2), .val (.ref b3), .val (.int (own_from p2)), .val (.int (own_to p2)), .val (.ref st_LINE_FEED), .val (.int (own_rd p2)), .val (.ref b23), .val (.long (((-(own_from p2)).toInt64) + (x37_3.toInt64))), .second, .val (.int x37_3), .unset] [(.ref b23)])) _
            refine st44.trans ?_
            show Steps p.tables e below (T44.setTop (mkF m 205 #[.val (.int p1), .val (.int p2), .val (.ref b3), .val (.int (own_from p2)), .val (.int (own_to p2)), .val (.ref st_LINE_FEED), .val (.int (own_rd p2)), .val (.ref b23), .val (.long (((-(own_from p2)).toInt64) + (x37_3.toInt64))), .second, .val (.int x37_3), .unset] [(.int x43_1)])) _
            refine XS.istore X44.here hx rfl (hb hby at_205) rfl (l' := #[.val (.int p1), .val (.int p2), .val (.ref b3), .val (.int (own_from p2)), .val (.int (own_to p2)), .val (.ref st_LINE_FEED), .val (.int (own_rd p2)), .val (.ref b23), .val (.long (((-(own_from p2)).toInt64) + (x37_3.toInt64))), .second, .val (.int x37_3), .val (.int x43_1)]) rfl ?_
            show Steps p.tables e below (T44.setTop (mkF m 207 #[.val (.int p1), .val (.int p2), .val (.ref b3), .val (.int (own_from p2)), .val (.int (own_to p2)), .val (.ref st_LINE_FEED), .val (.int (own_rd p2)), .val (.ref b23), .val (.long (((-(own_from p2)).toInt64) + (x37_3.toInt64))), .second, .val (.int x37_3), .val (.int x43_1)] [])) _
            refine XS.iload X44.here hx rfl (hb hby at_207) rfl ?_
            show Steps p.tables e below (T44.setTop (mkF m 209 #[.val (.int p1), .val (.int p2), .val (.ref b3), .val (.int (own_from p2)), .val (.int (own_to p2)), .val (.ref st_LINE_FEED), .val (.int (own_rd p2)), .val (.ref b23), .val (.long (((-(own_from p2)).toInt64) + (x37_3.toInt64))), .second, .val (.int x37_3), .val (.int x43_1)] [(.int x43_1)])) _
            refine XS.iload X44.here hx rfl (hb hby at_209) rfl ?_
            show Steps p.tables e below (T44.setTop (mkF m 211 #[.val (.int p1), .val (.int p2), .val (.ref b3), .val (.int (own_from p2)), .val (.int (own_to p2)), .val (.ref st_LINE_FEED), .val (.int (own_rd p2)), .val (.ref b23), .val (.long (((-(own_from p2)).toInt64) + (x37_3.toInt64))), .second, .val (.int x37_3), .val (.int x43_1)] [(.int x37_3), (.int x43_1)])) _
            exact kt)
          by_cases hc211_45 : x43_1 = x37_3
          · obtain ⟨fs, hr, hrun, hended, hEW⟩ := X44.leaveW hS24 (by rw [e44]; exact (Nat.le_trans (Nat.le_trans (Nat.le_trans (Nat.le_trans (Nat.le_trans (Nat.le_refl _) K30q.1) K33q.1) K37q.1) K39q.1) K43q.1)) (v := some (.int (1 : Int32))) (fun h => by rw [Bd.returns] at h; cases h)
            refine ⟨_, _, pre46 _ ?_, hrun, hended, _, _, rfl, ?_, ⟨_, rfl⟩, hEW.2.1, hEW.2.2.1, hEW.2.2.2.mono (by decide) (by decide)⟩
            · show Steps p.tables e below (T44.setTop (mkF m 211 #[.val (.int p1), .val (.int p2), .val (.ref b3), .val (.int (own_from p2)), .val (.int (own_to p2)), .val (.ref st_LINE_FEED), .val (.int (own_rd p2)), .val (.ref b23), .val (.long (((-(own_from p2)).toInt64) + (x37_3.toInt64))), .second, .val (.int x37_3), .val (.int x43_1)] [(.int x37_3), (.int x43_1)])) _
              refine XS.icmpNo X44.here hx rfl (hb hby at_211) rfl (teq hc211_45).2 ?_
              show Steps p.tables e below (T44.setTop (mkF m 214 #[.val (.int p1), .val (.int p2), .val (.ref b3), .val (.int (own_from p2)), .val (.int (own_to p2)), .val (.ref st_LINE_FEED), .val (.int (own_rd p2)), .val (.ref b23), .val (.long (((-(own_from p2)).toInt64) + (x37_3.toInt64))), .second, .val (.int x37_3), .val (.int x43_1)] [])) _
              refine XS.iconst X44.here hx rfl (hb hby at_214) ?_
              show Steps p.tables e below (T44.setTop (mkF m 215 #[.val (.int p1), .val (.int p2), .val (.ref b3), .val (.int (own_from p2)), .val (.int (own_to p2)), .val (.ref st_LINE_FEED), .val (.int (own_rd p2)), .val (.ref b23), .val (.long (((-(own_from p2)).toInt64) + (x37_3.toInt64))), .second, .val (.int x37_3), .val (.int x43_1)] [(.int (1 : Int32))])) _
              exact retN X44 hx (t := .boolean) Bd.returns (by simp) (hb hby at_215) hr
            · show Q0 Z p1 p2 st_LINE_FEED st_CARRIAGE_RETURN_OR_LINE_FEED h0 n0 _ T44.heap _
              rw [e44]
              exact ⟨rfl, N44⟩
          · have hc222_47 : x43_1 = (x37_3 + (1 : Int32)) := (own_dj p43_0 hc211_45).1
            obtain ⟨cq48, kq48, q48a, q48b, q48c⟩ := isOf hZ24 e44 f43_0
            obtain ⟨_, _, ⟨T48, L48, k48, n48⟩, -, X48, ⟨Lc48, hQ48, l48, y48, z48⟩, st48⟩ := X44.virtualBack hx (y := (⟨"querent/hl7/LineReader", "bytes", "()[B"⟩ : MethodName)) (z := (⟨"querent/hl7/LineReader", "bytes", "()[B"⟩ : MethodName)) hown24 (mvT hZ24 (hw _ (List.mem_of_getElem? (i := 114) rfl))) (mvT hZ24 (hw _ (List.mem_of_getElem? (i := 115) rfl))) (notFace_of_selects (args := #[]) (mvT hZ24 (hw _ (List.mem_of_getElem? (i := 117) rfl)))) (mvT hZ24 (hw _ (List.mem_of_getElem? (i := 117) rfl))) (mvT hZ24 (hw _ (List.mem_of_getElem? (i := 116) rfl))) (by decide) (backOf (W := 0) (rm18 l Z a0 hw [] b23 b3 T43.heap n0 Z43 f43_2) hZ24 (hw _ (List.mem_of_getElem? (i := 118) rfl)) (hw _ (List.mem_of_getElem? (i := 10) rfl)) (by decide) (by decide)) q48a q48c (g := (mkF m 227 #[.val (.int p1), .val (.int p2), .val (.ref b3), .val (.int (own_from p2)), .val (.int (own_to p2)), .val (.ref st_LINE_FEED), .val (.int (own_rd p2)), .val (.ref b23), .val (.long (((-(own_from p2)).toInt64) + (x37_3.toInt64))), .second, .val (.int x37_3), .val (.int x43_1)] [(.ref b23)])) rfl (by rw [hml]; rfl) (Steps.refl _) (argsL := []) (rest := []) (lenOf pd_11 rfl) rfl (by show 2 * 0 + _ ≤ _; exact Nat.le_of_eq rfl) (hb hby at_227) (fun _ _ => ⟨rfl, e44, (by decide : 6 + 0 ≤ _), (by decide : 215 + 0 ≤ _)⟩)
            dsimp only [Pt.U, Pt.locs, Pt.cells, Pt.slots] at X48 l48 y48 z48 st48 hQ48
            subst l48 y48 z48
            obtain ⟨rfl, N48q, e48⟩ := hQ48
            have N48 := Fr.app N44 N48q
            obtain ⟨cl49, Ar49, qq49, S49, NN49, HH49, GG49⟩ := id (y40.keep K43q (ninS ne_b3_b23 nin0))
            have hin49 : ¬ (x37_3 < 0 ∨ cl49.slots.size ≤ (x37_3).toNatClampNeg) := inb_of S49 ⟨p37_1, (show x37_3 < (6 : Int32) from own_lt6 (own_dj p43_0 hc211_45).2.2 (own_ft p2).2.2)⟩
            have hat49 : cl49.slots[(x37_3).toNatClampNeg]? = some (.int (own_at vl x37_3)) := Has.at HH49 hin49 (own_atv vl x37_3)
            have hc235_50 : (own_at vl x37_3) = (10 : Int32) := (own_dj p43_0 hc211_45).2.1
            obtain ⟨fs, hr, hrun, hended, hEW⟩ := X48.leaveW hS24 (by rw [e48]; exact (Nat.le_trans (Nat.le_trans (Nat.le_trans (Nat.le_trans (Nat.le_trans (Nat.le_refl _) K30q.1) K33q.1) K37q.1) K39q.1) K43q.1)) (v := some (.int (1 : Int32))) (fun h => by rw [Bd.returns] at h; cases h)
            refine ⟨_, _, pre46 _ ?_, hrun, hended, _, _, rfl, ?_, ⟨_, rfl⟩, hEW.2.1, hEW.2.2.1, hEW.2.2.2.mono (by decide) (by decide)⟩
            · show Steps p.tables e below (T44.setTop (mkF m 211 #[.val (.int p1), .val (.int p2), .val (.ref b3), .val (.int (own_from p2)), .val (.int (own_to p2)), .val (.ref st_LINE_FEED), .val (.int (own_rd p2)), .val (.ref b23), .val (.long (((-(own_from p2)).toInt64) + (x37_3.toInt64))), .second, .val (.int x37_3), .val (.int x43_1)] [(.int x37_3), (.int x43_1)])) _
              refine XS.icmpYes X44.here hx rfl (pc0 := 211) (pc' := 216) rfl (hb hby at_211) rfl (feq hc211_45).2 (by decide) (by decide) ?_
              show Steps p.tables e below (T44.setTop (mkF m 216 #[.val (.int p1), .val (.int p2), .val (.ref b3), .val (.int (own_from p2)), .val (.int (own_to p2)), .val (.ref st_LINE_FEED), .val (.int (own_rd p2)), .val (.ref b23), .val (.long (((-(own_from p2)).toInt64) + (x37_3.toInt64))), .second, .val (.int x37_3), .val (.int x43_1)] [])) _
              refine XS.iload X44.here hx rfl (hb hby at_216) rfl ?_
              show Steps p.tables e below (T44.setTop (mkF m 218 #[.val (.int p1), .val (.int p2), .val (.ref b3), .val (.int (own_from p2)), .val (.int (own_to p2)), .val (.ref st_LINE_FEED), .val (.int (own_rd p2)), .val (.ref b23), .val (.long (((-(own_from p2)).toInt64) + (x37_3.toInt64))), .second, .val (.int x37_3), .val (.int x43_1)] [(.int x43_1)])) _
              refine XS.iload X44.here hx rfl (hb hby at_218) rfl ?_
              show Steps p.tables e below (T44.setTop (mkF m 220 #[.val (.int p1), .val (.int p2), .val (.ref b3), .val (.int (own_from p2)), .val (.int (own_to p2)), .val (.ref st_LINE_FEED), .val (.int (own_rd p2)), .val (.ref b23), .val (.long (((-(own_from p2)).toInt64) + (x37_3.toInt64))), .second, .val (.int x37_3), .val (.int x43_1)] [(.int x37_3), (.int x43_1)])) _
              refine XS.iconst X44.here hx rfl (hb hby at_220) ?_
              show Steps p.tables e below (T44.setTop (mkF m 221 #[.val (.int p1), .val (.int p2), .val (.ref b3), .val (.int (own_from p2)), .val (.int (own_to p2)), .val (.ref st_LINE_FEED), .val (.int (own_rd p2)), .val (.ref b23), .val (.long (((-(own_from p2)).toInt64) + (x37_3.toInt64))), .second, .val (.int x37_3), .val (.int x43_1)] [(.int (1 : Int32)), (.int x37_3), (.int x43_1)])) _
              refine XS.iadd X44.here hx rfl (hb hby at_221) rfl ?_
              show Steps p.tables e below (T44.setTop (mkF m 222 #[.val (.int p1), .val (.int p2), .val (.ref b3), .val (.int (own_from p2)), .val (.int (own_to p2)), .val (.ref st_LINE_FEED), .val (.int (own_rd p2)), .val (.ref b23), .val (.long (((-(own_from p2)).toInt64) + (x37_3.toInt64))), .second, .val (.int x37_3), .val (.int x43_1)] [(.int (x37_3 + (1 : Int32))), (.int x43_1)])) _
              refine XS.icmpNo X44.here hx rfl (hb hby at_222) rfl (teq hc222_47).2 ?_
              show Steps p.tables e below (T44.setTop (mkF m 225 #[.val (.int p1), .val (.int p2), .val (.ref b3), .val (.int (own_from p2)), .val (.int (own_to p2)), .val (.ref st_LINE_FEED), .val (.int (own_rd p2)), .val (.ref b23), .val (.long (((-(own_from p2)).toInt64) + (x37_3.toInt64))), .second, .val (.int x37_3), .val (.int x43_1)] [])) _
              refine XS.aload X44.here hx rfl (hb hby at_225) rfl rfl ?_
              show Steps p.tables e below (T44.setTop (mkF m 227 #[.val (.int p1), .val (.int p2), .val (.ref b3), .val (.int (own_from p2)), .val (.int (own_to p2)), .val (.ref st_LINE_FEED), .val (.int (own_rd p2)), .val (.ref b23), .val (.long (((-(own_from p2)).toInt64) + (x37_3.toInt64))), .second, .val (.int x37_3), .val (.int x43_1)] [(.ref b23)])) _
              refine st48.trans ?_
              show Steps p.tables e below (T48.setTop (mkF m 230 #[.val (.int p1), .val (.int p2), .val (.ref b3), .val (.int (own_from p2)), .val (.int (own_to p2)), .val (.ref st_LINE_FEED), .val (.int (own_rd p2)), .val (.ref b23), .val (.long (((-(own_from p2)).toInt64) + (x37_3.toInt64))), .second, .val (.int x37_3), .val (.int x43_1)] [(.ref b3)])) _
              refine XS.iload X48.here hx rfl (hb hby at_230) rfl ?_
              show Steps p.tables e below (T48.setTop (mkF m 232 #[.val (.int p1), .val (.int p2), .val (.ref b3), .val (.int (own_from p2)), .val (.int (own_to p2)), .val (.ref st_LINE_FEED), .val (.int (own_rd p2)), .val (.ref b23), .val (.long (((-(own_from p2)).toInt64) + (x37_3.toInt64))), .second, .val (.int x37_3), .val (.int x43_1)] [(.int x37_3), (.ref b3)])) _
              refine X48.baloadBytes hx (j := x37_3) (v := (.int (own_at vl x37_3))) (by rw [e48]; exact Ar49.1) (State.isArrayOf_alike hZ24.alike Ar49.2.1) Ar49.2.2 hin49 hat49 (g := (mkF m 232 #[.val (.int p1), .val (.int p2), .val (.ref b3), .val (.int (own_from p2)), .val (.int (own_to p2)), .val (.ref st_LINE_FEED), .val (.int (own_rd p2)), .val (.ref b23), .val (.long (((-(own_from p2)).toInt64) + (x37_3.toInt64))), .second, .val (.int x37_3), .val (.int x43_1)] [(.int x37_3), (.ref b3)])) rfl rfl (hb hby at_232) _ ?_
              show Steps p.tables e below (T48.setTop (mkF m 233 #[.val (.int p1), .val (.int p2), .val (.ref b3), .val (.int (own_from p2)), .val (.int (own_to p2)), .val (.ref st_LINE_FEED), .val (.int (own_rd p2)), .val (.ref b23), .val (.long (((-(own_from p2)).toInt64) + (x37_3.toInt64))), .second, .val (.int x37_3), .val (.int x43_1)] [(.int (own_at vl x37_3))])) _
              refine XS.bipush X48.here hx rfl (hb hby at_233) ?_
              show Steps p.tables e below (T48.setTop (mkF m 235 #[.val (.int p1), .val (.int p2), .val (.ref b3), .val (.int (own_from p2)), .val (.int (own_to p2)), .val (.ref st_LINE_FEED), .val (.int (own_rd p2)), .val (.ref b23), .val (.long (((-(own_from p2)).toInt64) + (x37_3.toInt64))), .second, .val (.int x37_3), .val (.int x43_1)] [(.int (10 : Int32)), (.int (own_at vl x37_3))])) _
              refine XS.icmpNo X48.here hx rfl (hb hby at_235) rfl (teq hc235_50).2 ?_
              show Steps p.tables e below (T48.setTop (mkF m 238 #[.val (.int p1), .val (.int p2), .val (.ref b3), .val (.int (own_from p2)), .val (.int (own_to p2)), .val (.ref st_LINE_FEED), .val (.int (own_rd p2)), .val (.ref b23), .val (.long (((-(own_from p2)).toInt64) + (x37_3.toInt64))), .second, .val (.int x37_3), .val (.int x43_1)] [])) _
              refine XS.iconst X48.here hx rfl (hb hby at_238) ?_
              show Steps p.tables e below (T48.setTop (mkF m 239 #[.val (.int p1), .val (.int p2), .val (.ref b3), .val (.int (own_from p2)), .val (.int (own_to p2)), .val (.ref st_LINE_FEED), .val (.int (own_rd p2)), .val (.ref b23), .val (.long (((-(own_from p2)).toInt64) + (x37_3.toInt64))), .second, .val (.int x37_3), .val (.int x43_1)] [(.int (1 : Int32))])) _
              refine XS.goto X48.here hx rfl (pc0 := 239) (pc' := 243) rfl (hb hby at_239) (by decide) (by decide) ?_
              show Steps p.tables e below (T48.setTop (mkF m 243 #[.val (.int p1), .val (.int p2), .val (.ref b3), .val (.int (own_from p2)), .val (.int (own_to p2)), .val (.ref st_LINE_FEED), .val (.int (own_rd p2)), .val (.ref b23), .val (.long (((-(own_from p2)).toInt64) + (x37_3.toInt64))), .second, .val (.int x37_3), .val (.int x43_1)] [(.int (1 : Int32))])) _
              exact retN X48 hx (t := .boolean) Bd.returns (by simp) (hb hby at_243) hr
            · show Q0 Z p1 p2 st_LINE_FEED st_CARRIAGE_RETURN_OR_LINE_FEED h0 n0 _ T48.heap _
              rw [e48]
              exact ⟨rfl, N48⟩
        · obtain ⟨cq51, kq51, q51a, q51b, q51c⟩ := isOf hZ24 rfl f33_0
          obtain ⟨_, _, ⟨T51, L51, k51, n51⟩, -, X51, ⟨Lc51, hQ51, l51, y51, z51⟩, st51⟩ := X33.virtualBack hx (y := (⟨"querent/hl7/LineReader", "offset", "()J"⟩ : MethodName)) (z := (⟨"querent/hl7/LineReader", "offset", "()J"⟩ : MethodName)) hown24 (mvT hZ24 (hw _ (List.mem_of_getElem? (i := 54) rfl))) (mvT hZ24 (hw _ (List.mem_of_getElem? (i := 55) rfl))) (notFace_of_selects (args := #[]) (mvT hZ24 (hw _ (List.mem_of_getElem? (i := 57) rfl)))) (mvT hZ24 (hw _ (List.mem_of_getElem? (i := 57) rfl))) (mvT hZ24 (hw _ (List.mem_of_getElem? (i := 56) rfl))) (by decide) (backOf (W := 0) (rm7 l Z a0 hw [] b23 ((-(own_from p2)).toInt64) x33_3 T33.heap n0 Z33 f33_4 f33_8) hZ24 (hw _ (List.mem_of_getElem? (i := 58) rfl)) (hw _ (List.mem_of_getElem? (i := 10) rfl)) (by decide) (by decide)) q51a q51c (g := (mkF m 163 #[.val (.int p1), .val (.int p2), .val (.ref b3), .val (.int (own_from p2)), .val (.int (own_to p2)), .val (.ref st_LINE_FEED), .val (.int (own_rd p2)), .val (.ref b23), .unset, .unset, .unset, .unset] [(.ref b23)])) rfl (by rw [hml]; rfl) (Steps.refl _) (argsL := []) (rest := []) (lenOf pd_9 rfl) rfl (by show 2 * 0 + _ ≤ _; exact Nat.le_of_eq rfl) (hb hby at_163) (fun _ _ => ⟨rfl, rfl, (by decide : 6 + 0 ≤ _), (by decide : 215 + 0 ≤ _)⟩)
          dsimp only [Pt.U, Pt.locs, Pt.cells, Pt.slots] at X51 l51 y51 z51 st51 hQ51
          subst l51 y51 z51
          obtain ⟨rfl, N51q, e51⟩ := hQ51
          have N51 := Fr.app N33 N51q
          obtain ⟨cq52, kq52, q52a, q52b, q52c⟩ := isOf hZ24 e51 f33_0
          obtain ⟨_, _, ⟨T52, L52, k52, n52⟩, -, X52, ⟨Lc52, hQ52, l52, y52, z52⟩, st52⟩ := X51.virtualBack hx (y := (⟨"querent/hl7/LineReader", "keepFromNext", "()V"⟩ : MethodName)) (z := (⟨"querent/hl7/LineReader", "keepFromNext", "()V"⟩ : MethodName)) hown24 (mvT hZ24 (hw _ (List.mem_of_getElem? (i := 59) rfl))) (mvT hZ24 (hw _ (List.mem_of_getElem? (i := 60) rfl))) (notFace_of_selects (args := #[]) (mvT hZ24 (hw _ (List.mem_of_getElem? (i := 62) rfl)))) (mvT hZ24 (hw _ (List.mem_of_getElem? (i := 62) rfl))) (mvT hZ24 (hw _ (List.mem_of_getElem? (i := 61) rfl))) (by decide) (backOf (W := 0) (rm8 l Z a0 hw [] b23 b3 (F2_carriageReturnEnds_a1 st_LINE_FEED st_CARRIAGE_RETURN_OR_LINE_FEED) ((-(own_from p2)).toInt64) (own_to p2) x33_1 x33_2 x33_3 (0 : Int32) (0 : Int32) x33_4 x33_5 x33_6 T33.heap n0 Z33 f33_0 f33_1 f33_2 f33_3 f33_4 f33_5 f33_6 f33_7 f33_8 f33_9 f33_10 f33_11 f33_12 f33_13 g_b23) hZ24 (hw _ (List.mem_of_getElem? (i := 63) rfl)) (hw _ (List.mem_of_getElem? (i := 10) rfl)) (by decide) (by decide)) q52a q52c (g := (mkF m 170 #[.val (.int p1), .val (.int p2), .val (.ref b3), .val (.int (own_from p2)), .val (.int (own_to p2)), .val (.ref st_LINE_FEED), .val (.int (own_rd p2)), .val (.ref b23), .val (.long (((-(own_from p2)).toInt64) + (x33_3.toInt64))), .second, .unset, .unset] [(.ref b23)])) rfl (by rw [hml]; rfl) (Steps.refl _) (argsL := []) (rest := []) (lenOf pd_4 rfl) rfl (by show 2 * 0 + _ ≤ _; exact Nat.le_of_eq rfl) (hb hby at_170) (fun _ _ => ⟨rfl, e51, (by decide : 6 + 0 ≤ _), (by decide : 215 + 0 ≤ _)⟩)
          dsimp only [Pt.U, Pt.locs, Pt.cells, Pt.slots] at X52 l52 y52 z52 st52 hQ52
          subst l52 y52 z52
          obtain ⟨rfl, N52q, K52q, f52_0, f52_1, f52_2, f52_3, f52_4, f52_5, f52_6, f52_7, f52_8, f52_9, f52_10, f52_11, f52_12, f52_13⟩ := hQ52
          have K52 : Keep h0 T52.heap [] := (K33).trans K52q (allS (P := fun x => x ∈ [] ∨ h0.size ≤ x) (Or.inr sz_b23) all0)
          have Z52 : n0 ≤ T52.heap.size := Nat.le_trans Z33 K52q.1
          have N52 := Fr.app N51 N52q
          obtain ⟨cq53, kq53, q53a, q53b, q53c⟩ := isOf hZ24 rfl f52_0
          obtain ⟨_, _, ⟨T53, L53, k53, n53⟩, -, X53, ⟨Lc53, hQ53, l53, y53, z53⟩, st53⟩ := X52.virtualBack hx (y := (⟨"querent/hl7/LineReader", "kept", "()I"⟩ : MethodName)) (z := (⟨"querent/hl7/LineReader", "kept", "()I"⟩ : MethodName)) hown24 (mvT hZ24 (hw _ (List.mem_of_getElem? (i := 68) rfl))) (mvT hZ24 (hw _ (List.mem_of_getElem? (i := 69) rfl))) (notFace_of_selects (args := #[]) (mvT hZ24 (hw _ (List.mem_of_getElem? (i := 71) rfl)))) (mvT hZ24 (hw _ (List.mem_of_getElem? (i := 71) rfl))) (mvT hZ24 (hw _ (List.mem_of_getElem? (i := 70) rfl))) (by decide) (backOf (W := 0) (rm9 l Z a0 hw [] b23 x33_3 T52.heap n0 Z52 f52_10) hZ24 (hw _ (List.mem_of_getElem? (i := 72) rfl)) (hw _ (List.mem_of_getElem? (i := 10) rfl)) (by decide) (by decide)) q53a q53c (g := (mkF m 175 #[.val (.int p1), .val (.int p2), .val (.ref b3), .val (.int (own_from p2)), .val (.int (own_to p2)), .val (.ref st_LINE_FEED), .val (.int (own_rd p2)), .val (.ref b23), .val (.long (((-(own_from p2)).toInt64) + (x33_3.toInt64))), .second, .unset, .unset] [(.ref b23)])) rfl (by rw [hml]; rfl) (Steps.refl _) (argsL := []) (rest := []) (lenOf pd_10 rfl) rfl (by show 2 * 0 + _ ≤ _; exact Nat.le_of_eq rfl) (hb hby at_175) (fun _ _ => ⟨rfl, rfl, (by decide : 6 + 0 ≤ _), (by decide : 215 + 0 ≤ _)⟩)
          dsimp only [Pt.U, Pt.locs, Pt.cells, Pt.slots] at X53 l53 y53 z53 st53 hQ53
          subst l53 y53 z53
          obtain ⟨rfl, N53q, e53⟩ := hQ53
          have N53 := Fr.app N52 N53q
          have hc189_54 : (x33_3.toInt64) = ((((-(own_from p2)).toInt64) + (x33_3.toInt64)) + ((own_from p2).toInt64)) := own_off p2 p33_1 p33_2
          obtain ⟨cq55, kq55, q55a, q55b, q55c⟩ := isOf hZ24 e53 f52_0
          obtain ⟨_, _, ⟨T55, L55, k55, n55⟩, -, X55, ⟨Lc55, hQ55, l55, y55, z55⟩, st55⟩ := X53.virtualBack hx (y := (⟨"querent/hl7/LineReader", "next", "()Z"⟩ : MethodName)) (z := (⟨"querent/hl7/LineReader", "next", "()Z"⟩ : MethodName)) hown24 (mvT hZ24 (hw _ (List.mem_of_getElem? (i := 73) rfl))) (mvT hZ24 (hw _ (List.mem_of_getElem? (i := 74) rfl))) (notFace_of_selects (args := #[]) (mvT hZ24 (hw _ (List.mem_of_getElem? (i := 76) rfl)))) (mvT hZ24 (hw _ (List.mem_of_getElem? (i := 76) rfl))) (mvT hZ24 (hw _ (List.mem_of_getElem? (i := 75) rfl))) (by decide) (backOf (W := 0) (rm10 l Z a0 hw [] b23 b3 (F2_carriageReturnEnds_a1 st_LINE_FEED st_CARRIAGE_RETURN_OR_LINE_FEED) ((-(own_from p2)).toInt64) (own_to p2) x33_1 x33_2 x33_3 (1 : Int32) x33_3 x33_4 x33_5 x33_6 k3 vl T52.heap n0 Z52 f52_0 f52_1 f52_2 f52_3 f52_4 f52_5 f52_6 f52_7 f52_8 f52_9 f52_10 f52_11 f52_12 f52_13 (y34.keep K52q (ninS ne_b3_b23 nin0)) p33_1 p33_2 (show ¬ ((6 : Int32) < (own_to p2)) from (own_ft p2).2.2) g_b23 ne_b3_b23) hZ24 (hw _ (List.mem_of_getElem? (i := 77) rfl)) (hw _ (List.mem_of_getElem? (i := 10) rfl)) (by decide) (by decide)) q55a q55c (g := (mkF m 196 #[.val (.int p1), .val (.int p2), .val (.ref b3), .val (.int (own_from p2)), .val (.int (own_to p2)), .val (.ref st_LINE_FEED), .val (.int (own_rd p2)), .val (.ref b23), .val (.long (((-(own_from p2)).toInt64) + (x33_3.toInt64))), .second, .val (.int x33_3), .unset] [(.ref b23)])) rfl (by rw [hml]; rfl) (Steps.refl _) (argsL := []) (rest := []) (lenOf pd_3 rfl) rfl (by show 2 * 0 + _ ≤ _; exact Nat.le_of_eq rfl) (hb hby at_196) (fun _ _ => ⟨rfl, e53, (by decide : 6 + 0 ≤ _), (by decide : 215 + 0 ≤ _)⟩)
          dsimp only [Pt.U, Pt.locs, Pt.cells, Pt.slots] at X55 l55 y55 z55 st55 hQ55
          subst l55 y55 z55
          obtain ⟨x55_0, x55_1, x55_2, x55_3, x55_4, x55_5, x55_6, rfl, N55q, K55q, f55_0, f55_1, f55_2, f55_3, f55_4, f55_5, f55_6, f55_7, f55_8, f55_9, f55_10, f55_11, f55_12, f55_13, p55_0, p55_1, p55_2⟩ := hQ55
          have y56 := ((y34.keep K52q (ninS ne_b3_b23 nin0)).keep K55q (ninS ne_b3_b23 nin0))
          have K55 : Keep h0 T55.heap [] := (K52).trans K55q (allS (P := fun x => x ∈ [] ∨ h0.size ≤ x) (Or.inr sz_b23) all0)
          have Z55 : n0 ≤ T55.heap.size := Nat.le_trans Z52 K55q.1
          have N55 := Fr.app N53 N55q
          obtain ⟨cq57, kq57, q57a, q57b, q57c⟩ := isOf hZ24 rfl f55_0
          obtain ⟨_, _, ⟨T57, L57, k57, n57⟩, -, X57, ⟨Lc57, hQ57, l57, y57, z57⟩, st57⟩ := X55.virtualBack hx (y := (⟨"querent/hl7/LineReader", "start", "()I"⟩ : MethodName)) (z := (⟨"querent/hl7/LineReader", "start", "()I"⟩ : MethodName)) hown24 (mvT hZ24 (hw _ (List.mem_of_getElem? (i := 96) rfl))) (mvT hZ24 (hw _ (List.mem_of_getElem? (i := 97) rfl))) (notFace_of_selects (args := #[]) (mvT hZ24 (hw _ (List.mem_of_getElem? (i := 99) rfl)))) (mvT hZ24 (hw _ (List.mem_of_getElem? (i := 99) rfl))) (mvT hZ24 (hw _ (List.mem_of_getElem? (i := 98) rfl))) (by decide) (backOf (W := 0) (rm15 l Z a0 hw [] b23 x55_1 T55.heap n0 Z55 f55_6) hZ24 (hw _ (List.mem_of_getElem? (i := 100) rfl)) (hw _ (List.mem_of_getElem? (i := 10) rfl)) (by decide) (by decide)) q57a q57c (g := (mkF m 202 #[.val (.int p1), .val (.int p2), .val (.ref b3), .val (.int (own_from p2)), .val (.int (own_to p2)), .val (.ref st_LINE_FEED), .val (.int (own_rd p2)), .val (.ref b23), .val (.long (((-(own_from p2)).toInt64) + (x33_3.toInt64))), .second, .val (.int x33_3), .unset] [(.ref b23)])) rfl (by rw [hml]; rfl) (Steps.refl _) (argsL := []) (rest := []) (lenOf pd_10 rfl) rfl (by show 2 * 0 + _ ≤ _; exact Nat.le_of_eq rfl) (hb hby at_202) (fun _ _ => ⟨rfl, rfl, (by decide : 6 + 0 ≤ _), (by decide : 215 + 0 ≤ _)⟩)
          dsimp only [Pt.U, Pt.locs, Pt.cells, Pt.slots] at X57 l57 y57 z57 st57 hQ57
          subst l57 y57 z57
          obtain ⟨rfl, N57q, e57⟩ := hQ57
          have N57 := Fr.app N55 N57q
          have pre59 : ∀ t, Steps p.tables e below (T57.setTop (mkF m 211 #[.val (.int p1), .val (.int p2), .val (.ref b3), .val (.int (own_from p2)), .val (.int (own_to p2)), .val (.ref st_LINE_FEED), .val (.int (own_rd p2)), .val (.ref b23), .val (.long (((-(own_from p2)).toInt64) + (x33_3.toInt64))), .second, .val (.int x33_3), .val (.int x55_1)] [(.int x33_3), (.int x55_1)])) t → Steps p.tables e below (s₁.setTop (entryFrame m #[(.int p1), (.int p2)] maxLocals)) t := fun t kt => pre36 t (by
            show Steps p.tables e below (T33.setTop (mkF m 152 #[.val (.int p1), .val (.int p2), .val (.ref b3), .val (.int (own_from p2)), .val (.int (own_to p2)), .val (.ref st_LINE_FEED), .val (.int (own_rd p2)), .val (.ref b23), .unset, .unset, .unset, .unset] [(.int (2 : Int32)), (.int (own_rd p2))])) _
            refine XS.icmpYes X33.here hx rfl (pc0 := 152) (pc' := 161) rfl (hb hby at_152) rfl (flt hc152_35).2.2.2 (by decide) (by decide) ?_
            show Steps p.tables e below (T33.setTop (mkF m 161 #[.val (.int p1), .val (.int p2), .val (.ref b3), .val (.int (own_from p2)), .val (.int (own_to p2)), .val (.ref st_LINE_FEED), .val (.int (own_rd p2)), .val (.ref b23), .unset, .unset, .unset, .unset] [])) _
            refine XS.aload X33.here hx rfl (hb hby at_161) rfl rfl ?_
            show Steps p.tables e below (T33.setTop (mkF m 163 #[.val (.int p1), .val (.int p2), .val (.ref b3), .val (.int (own_from p2)), .val (.int (own_to p2)), .val (.ref st_LINE_FEED), .val (.int (own_rd p2)), .val (.ref b23), .unset, .unset, .unset, .unset] [(.ref b23)])) _
            refine st51.trans ?_
            show Steps p.tables e below (T51.setTop (mkF m 166 #[.val (.int p1), .val (.int p2), .val (.ref b3), .val (.int (own_from p2)), .val (.int (own_to p2)), .val (.ref st_LINE_FEED), .val (.int (own_rd p2)), .val (.ref b23), .unset, .unset, .unset, .unset] [(.long (((-(own_from p2)).toInt64) + (x33_3.toInt64)))])) _
            refine XS.lstore X51.here hx rfl (hb hby at_166) rfl (l' := #[.val (.int p1), .val (.int p2), .val (.ref b3), .val (.int (own_from p2)), .val (.int (own_to p2)), .val (.ref st_LINE_FEED), .val (.int (own_rd p2)), .val (.ref b23), .val (.long (((-(own_from p2)).toInt64) + (x33_3.toInt64))), .second, .unset, .unset]) rfl ?_
            show Steps p.tables e below (T51.setTop (mkF m 168 #[.val (.int p1), .val (.int p2), .val (.ref b3), .val (.int (own_from p2)), .val (.int (own_to p2)), .val (.ref st_LINE_FEED), .val (.int (own_rd p2)), .val (.ref b23), .val (.long (((-(own_from p2)).toInt64) + (x33_3.toInt64))), .second, .unset, .unset] [])) _
            refine XS.aload X51.here hx rfl (hb hby at_168) rfl rfl ?_
            show Steps p.tables e below (T51.setTop (mkF m 170 #[.val (.int p1), .val (.int p2), .val (.ref b3), .val (.int (own_from p2)), .val (.int (own_to p2)), .val (.ref st_LINE_FEED), .val (.int (own_rd p2)), .val (.ref b23), .val (.long (((-(own_from p2)).toInt64) + (x33_3.toInt64))), .second, .unset, .unset] [(.ref b23)])) _
            refine st52.trans ?_
            show Steps p.tables e below (T52.setTop (mkF m 173 #[.val (.int p1), .val (.int p2), .val (.ref b3), .val (.int (own_from p2)), .val (.int (own_to p2)), .val (.ref st_LINE_FEED), .val (.int (own_rd p2)), .val (.ref b23), .val (.long (((-(own_from p2)).toInt64) + (x33_3.toInt64))), .second, .unset, .unset] [])) _
            refine XS.aload X52.here hx rfl (hb hby at_173) rfl rfl ?_
            show Steps p.tables e below (T52.setTop (mkF m 175 #[.val (.int p1), .val (.int p2), .val (.ref b3), .val (.int (own_from p2)), .val (.int (own_to p2)), .val (.ref st_LINE_FEED), .val (.int (own_rd p2)), .val (.ref b23), .val (.long (((-(own_from p2)).toInt64) + (x33_3.toInt64))), .second, .unset, .unset] [(.ref b23)])) _
            refine st53.trans ?_
            show Steps p.tables e below (T53.setTop (mkF m 178 #[.val (.int p1), .val (.int p2), .val (.ref b3), .val (.int (own_from p2)), .val (.int (own_to p2)), .val (.ref st_LINE_FEED), .val (.int (own_rd p2)), .val (.ref b23), .val (.long (((-(own_from p2)).toInt64) + (x33_3.toInt64))), .second, .unset, .unset] [(.int x33_3)])) _
            refine XS.istore X53.here hx rfl (hb hby at_178) rfl (l' := #[.val (.int p1), .val (.int p2), .val (.ref b3), .val (.int (own_from p2)), .val (.int (own_to p2)), .val (.ref st_LINE_FEED), .val (.int (own_rd p2)), .val (.ref b23), .val (.long (((-(own_from p2)).toInt64) + (x33_3.toInt64))), .second, .val (.int x33_3), .unset]) rfl ?_
            show Steps p.tables e below (T53.setTop (mkF m 180 #[.val (.int p1), .val (.int p2), .val (.ref b3), .val (.int (own_from p2)), .val (.int (own_to p2)), .val (.ref st_LINE_FEED), .val (.int (own_rd p2)), .val (.ref b23), .val (.long (((-(own_from p2)).toInt64) + (x33_3.toInt64))), .second, .val (.int x33_3), .unset] [])) _
            refine XS.iload X53.here hx rfl (hb hby at_180) rfl ?_
            show Steps p.tables e below (T53.setTop (mkF m 182 #[.val (.int p1), .val (.int p2), .val (.ref b3), .val (.int (own_from p2)), .val (.int (own_to p2)), .val (.ref st_LINE_FEED), .val (.int (own_rd p2)), .val (.ref b23), .val (.long (((-(own_from p2)).toInt64) + (x33_3.toInt64))), .second, .val (.int x33_3), .unset] [(.int x33_3)])) _
            refine XS.i2l X53.here hx rfl (hb hby at_182) rfl ?_
            show Steps p.tables e below (T53.setTop (mkF m 183 #[.val (.int p1), .val (.int p2), .val (.ref b3), .val (.int (own_from p2)), .val (.int (own_to p2)), .val (.ref st_LINE_FEED), .val (.int (own_rd p2)), .val (.ref b23), .val (.long (((-(own_from p2)).toInt64) + (x33_3.toInt64))), .second, .val (.int x33_3), .unset] [(.long (x33_3.toInt64))])) _
            refine XS.lload X53.here hx rfl (hb hby at_183) rfl ?_
            show Steps p.tables e below (T53.setTop (mkF m 185 #[.val (.int p1), .val (.int p2), .val (.ref b3), .val (.int (own_from p2)), .val (.int (own_to p2)), .val (.ref st_LINE_FEED), .val (.int (own_rd p2)), .val (.ref b23), .val (.long (((-(own_from p2)).toInt64) + (x33_3.toInt64))), .second, .val (.int x33_3), .unset] [(.long (((-(own_from p2)).toInt64) + (x33_3.toInt64))), (.long (x33_3.toInt64))])) _
            refine XS.iloadN X53.here hx rfl (hb hby at_185) rfl ?_
            show Steps p.tables e below (T53.setTop (mkF m 186 #[.val (.int p1), .val (.int p2), .val (.ref b3), .val (.int (own_from p2)), .val (.int (own_to p2)), .val (.ref st_LINE_FEED), .val (.int (own_rd p2)), .val (.ref b23), .val (.long (((-(own_from p2)).toInt64) + (x33_3.toInt64))), .second, .val (.int x33_3), .unset] [(.int (own_from p2)), (.long (((-(own_from p2)).toInt64) + (x33_3.toInt64))), (.long (x33_3.toInt64))])) _
            refine XS.i2l X53.here hx rfl (hb hby at_186) rfl ?_
            show Steps p.tables e below (T53.setTop (mkF m 187 #[.val (.int p1), .val (.int p2), .val (.ref b3), .val (.int (own_from p2)), .val (.int (own_to p2)), .val (.ref st_LINE_FEED), .val (.int (own_rd p2)), .val (.ref b23), .val (.long (((-(own_from p2)).toInt64) + (x33_3.toInt64))), .second, .val (.int x33_3), .unset] [(.long ((own_from p2).toInt64)), (.long (((-(own_from p2)).toInt64) + (x33_3.toInt64))), (.long (x33_3.toInt64))])) _
            refine XS.ladd X53.here hx rfl (hb hby at_187) rfl ?_
            show Steps p.tables e below (T53.setTop (mkF m 188 #[.val (.int p1), .val (.int p2), .val (.ref b3), .val (.int (own_from p2)), .val (.int (own_to p2)), .val (.ref st_LINE_FEED), .val (.int (own_rd p2)), .val (.ref b23), .val (.long (((-(own_from p2)).toInt64) + (x33_3.toInt64))), .second, .val (.int x33_3), .unset] [(.long ((((-(own_from p2)).toInt64) + (x33_3.toInt64)) + ((own_from p2).toInt64))), (.long (x33_3.toInt64))])) _
            refine XS.lcmp X53.here hx rfl (hb hby at_188) rfl ?_
            show Steps p.tables e below (T53.setTop (mkF m 189 #[.val (.int p1), .val (.int p2), .val (.ref b3), .val (.int (own_from p2)), .val (.int (own_to p2)), .val (.ref st_LINE_FEED), .val (.int (own_rd p2)), .val (.ref b23), .val (.long (((-(own_from p2)).toInt64) + (x33_3.toInt64))), .second, .val (.int x33_3), .unset] [(.int (lcmpW (x33_3.toInt64) ((((-(own_from p2)).toInt64) + (x33_3.toInt64)) + ((own_from p2).toInt64))))])) _
            refine XS.ifYes X53.here hx rfl (pc0 := 189) (pc' := 194) rfl (hb hby at_189) rfl ((if0 _ _).trans (teq ((lw_eq (x33_3.toInt64) ((((-(own_from p2)).toInt64) + (x33_3.toInt64)) + ((own_from p2).toInt64))).mpr hc189_54)).1) (by decide) (by decide) ?_
            show Steps p.tables e below (T53.setTop (mkF m 194 #[.val (.int p1), .val (.int p2), .val (.ref b3), .val (.int (own_from p2)), .val (.int (own_to p2)), .val (.ref st_LINE_FEED), .val (.int (own_rd p2)), .val (.ref b23), .val (.long (((-(own_from p2)).toInt64) + (x33_3.toInt64))), .second, .val (.int x33_3), .unset] [])) _
            refine XS.aload X53.here hx rfl (hb hby at_194) rfl rfl ?_
            show Steps p.tables e below (T53.setTop (mkF m 196 #[.val (.int p1), .val (.int p2), .val (.ref b3), .val (.int (own_from p2)), .val (.int (own_to p2)), .val (.ref st_LINE_FEED), .val (.int (own_rd p2)), .val (.ref b23), .val (.long (((-(own_from p2)).toInt64) + (x33_3.toInt64))), .second, .val (.int x33_3), .unset] [(.ref b23)])) _
            refine st55.trans ?_
            show Steps p.tables e below (T55.setTop (mkF m 199 #[.val (.int p1), .val (.int p2), .val (.ref b3), .val (.int (own_from p2)), .val (.int (own_to p2)), .val (.ref st_LINE_FEED), .val (.int (own_rd p2)), .val (.ref b23), .val (.long (((-(own_from p2)).toInt64) + (x33_3.toInt64))), .second, .val (.int x33_3), .unset] [(.int x55_0)])) _
            refine XS.pop X55.here hx rfl (hb hby at_199) rfl rfl ?_
            show Steps p.tables e below (T55.setTop (mkF m 200 #[.val (.int p1), .val (.int p2), .val (.ref b3), .val (.int (own_from p2)), .val (.int (own_to p2)), .val (.ref st_LINE_FEED), .val (.int (own_rd p2)), .val (.ref b23), .val (.long (((-(own_from p2)).toInt64) + (x33_3.toInt64))), .second, .val (.int x33_3), .unset] [])) _
            refine XS.aload X55.here hx rfl (hb hby at_200) rfl rfl ?_
            show Steps p.tables e below (T55.setTop (mkF m 202 #[.val (.int p1), .val (.int p2), .val (.ref b3), .val (.int (own_from p2)), .val (.int (own_to p2)), .val (.ref st_LINE_FEED), .val (.int (own_rd p2)), .val (.ref b23), .val (.long (((-(own_from p2)).toInt64) + (x33_3.toInt64))), .second, .val (.int x33_3), .unset] [(.ref b23)])) _
            refine st57.trans ?_
            show Steps p.tables e below (T57.setTop (mkF m 205 #[.val (.int p1), .val (.int p2), .val (.ref b3), .val (.int (own_from p2)), .val (.int (own_to p2)), .val (.ref st_LINE_FEED), .val (.int (own_rd p2)), .val (.ref b23), .val (.long (((-(own_from p2)).toInt64) + (x33_3.toInt64))), .second, .val (.int x33_3), .unset] [(.int x55_1)])) _
            refine XS.istore X57.here hx rfl (hb hby at_205) rfl (l' := #[.val (.int p1), .val (.int p2), .val (.ref b3), .val (.int (own_from p2)), .val (.int (own_to p2)), .val (.ref st_LINE_FEED), .val (.int (own_rd p2)), .val (.ref b23), .val (.long (((-(own_from p2)).toInt64) + (x33_3.toInt64))), .second, .val (.int x33_3), .val (.int x55_1)]) rfl ?_
            show Steps p.tables e below (T57.setTop (mkF m 207 #[.val (.int p1), .val (.int p2), .val (.ref b3), .val (.int (own_from p2)), .val (.int (own_to p2)), .val (.ref st_LINE_FEED), .val (.int (own_rd p2)), .val (.ref b23), .val (.long (((-(own_from p2)).toInt64) + (x33_3.toInt64))), .second, .val (.int x33_3), .val (.int x55_1)] [])) _
            refine XS.iload X57.here hx rfl (hb hby at_207) rfl ?_
            show Steps p.tables e below (T57.setTop (mkF m 209 #[.val (.int p1), .val (.int p2), .val (.ref b3), .val (.int (own_from p2)), .val (.int (own_to p2)), .val (.ref st_LINE_FEED), .val (.int (own_rd p2)), .val (.ref b23), .val (.long (((-(own_from p2)).toInt64) + (x33_3.toInt64))), .second, .val (.int x33_3), .val (.int x55_1)] [(.int x55_1)])) _
            refine XS.iload X57.here hx rfl (hb hby at_209) rfl ?_
            show Steps p.tables e below (T57.setTop (mkF m 211 #[.val (.int p1), .val (.int p2), .val (.ref b3), .val (.int (own_from p2)), .val (.int (own_to p2)), .val (.ref st_LINE_FEED), .val (.int (own_rd p2)), .val (.ref b23), .val (.long (((-(own_from p2)).toInt64) + (x33_3.toInt64))), .second, .val (.int x33_3), .val (.int x55_1)] [(.int x33_3), (.int x55_1)])) _
            exact kt)
          by_cases hc211_58 : x55_1 = x33_3
          · obtain ⟨fs, hr, hrun, hended, hEW⟩ := X57.leaveW hS24 (by rw [e57]; exact (Nat.le_trans (Nat.le_trans (Nat.le_trans (Nat.le_trans (Nat.le_refl _) K30q.1) K33q.1) K52q.1) K55q.1)) (v := some (.int (1 : Int32))) (fun h => by rw [Bd.returns] at h; cases h)
            refine ⟨_, _, pre59 _ ?_, hrun, hended, _, _, rfl, ?_, ⟨_, rfl⟩, hEW.2.1, hEW.2.2.1, hEW.2.2.2.mono (by decide) (by decide)⟩
            · show Steps p.tables e below (T57.setTop (mkF m 211 #[.val (.int p1), .val (.int p2), .val (.ref b3), .val (.int (own_from p2)), .val (.int (own_to p2)), .val (.ref st_LINE_FEED), .val (.int (own_rd p2)), .val (.ref b23), .val (.long (((-(own_from p2)).toInt64) + (x33_3.toInt64))), .second, .val (.int x33_3), .val (.int x55_1)] [(.int x33_3), (.int x55_1)])) _
              refine XS.icmpNo X57.here hx rfl (hb hby at_211) rfl (teq hc211_58).2 ?_
              show Steps p.tables e below (T57.setTop (mkF m 214 #[.val (.int p1), .val (.int p2), .val (.ref b3), .val (.int (own_from p2)), .val (.int (own_to p2)), .val (.ref st_LINE_FEED), .val (.int (own_rd p2)), .val (.ref b23), .val (.long (((-(own_from p2)).toInt64) + (x33_3.toInt64))), .second, .val (.int x33_3), .val (.int x55_1)] [])) _
              refine XS.iconst X57.here hx rfl (hb hby at_214) ?_
              show Steps p.tables e below (T57.setTop (mkF m 215 #[.val (.int p1), .val (.int p2), .val (.ref b3), .val (.int (own_from p2)), .val (.int (own_to p2)), .val (.ref st_LINE_FEED), .val (.int (own_rd p2)), .val (.ref b23), .val (.long (((-(own_from p2)).toInt64) + (x33_3.toInt64))), .second, .val (.int x33_3), .val (.int x55_1)] [(.int (1 : Int32))])) _
              exact retN X57 hx (t := .boolean) Bd.returns (by simp) (hb hby at_215) hr
            · show Q0 Z p1 p2 st_LINE_FEED st_CARRIAGE_RETURN_OR_LINE_FEED h0 n0 _ T57.heap _
              rw [e57]
              exact ⟨rfl, N57⟩
          · have hc222_60 : x55_1 = (x33_3 + (1 : Int32)) := (own_dj p55_0 hc211_58).1
            obtain ⟨cq61, kq61, q61a, q61b, q61c⟩ := isOf hZ24 e57 f55_0
            obtain ⟨_, _, ⟨T61, L61, k61, n61⟩, -, X61, ⟨Lc61, hQ61, l61, y61, z61⟩, st61⟩ := X57.virtualBack hx (y := (⟨"querent/hl7/LineReader", "bytes", "()[B"⟩ : MethodName)) (z := (⟨"querent/hl7/LineReader", "bytes", "()[B"⟩ : MethodName)) hown24 (mvT hZ24 (hw _ (List.mem_of_getElem? (i := 114) rfl))) (mvT hZ24 (hw _ (List.mem_of_getElem? (i := 115) rfl))) (notFace_of_selects (args := #[]) (mvT hZ24 (hw _ (List.mem_of_getElem? (i := 117) rfl)))) (mvT hZ24 (hw _ (List.mem_of_getElem? (i := 117) rfl))) (mvT hZ24 (hw _ (List.mem_of_getElem? (i := 116) rfl))) (by decide) (backOf (W := 0) (rm18 l Z a0 hw [] b23 b3 T55.heap n0 Z55 f55_2) hZ24 (hw _ (List.mem_of_getElem? (i := 118) rfl)) (hw _ (List.mem_of_getElem? (i := 10) rfl)) (by decide) (by decide)) q61a q61c (g := (mkF m 227 #[.val (.int p1), .val (.int p2), .val (.ref b3), .val (.int (own_from p2)), .val (.int (own_to p2)), .val (.ref st_LINE_FEED), .val (.int (own_rd p2)), .val (.ref b23), .val (.long (((-(own_from p2)).toInt64) + (x33_3.toInt64))), .second, .val (.int x33_3), .val (.int x55_1)] [(.ref b23)])) rfl (by rw [hml]; rfl) (Steps.refl _) (argsL := []) (rest := []) (lenOf pd_11 rfl) rfl (by show 2 * 0 + _ ≤ _; exact Nat.le_of_eq rfl) (hb hby at_227) (fun _ _ => ⟨rfl, e57, (by decide : 6 + 0 ≤ _), (by decide : 215 + 0 ≤ _)⟩)
            dsimp only [Pt.U, Pt.locs, Pt.cells, Pt.slots] at X61 l61 y61 z61 st61 hQ61
            subst l61 y61 z61
            obtain ⟨rfl, N61q, e61⟩ := hQ61
            have N61 := Fr.app N57 N61q
            obtain ⟨cl62, Ar62, qq62, S62, NN62, HH62, GG62⟩ := id y56
            have hin62 : ¬ (x33_3 < 0 ∨ cl62.slots.size ≤ (x33_3).toNatClampNeg) := inb_of S62 ⟨p33_1, (show x33_3 < (6 : Int32) from own_lt6 (own_dj p55_0 hc211_58).2.2 (own_ft p2).2.2)⟩
            have hat62 : cl62.slots[(x33_3).toNatClampNeg]? = some (.int (own_at vl x33_3)) := Has.at HH62 hin62 (own_atv vl x33_3)
            have hc235_63 : (own_at vl x33_3) = (10 : Int32) := (own_dj p55_0 hc211_58).2.1
            obtain ⟨fs, hr, hrun, hended, hEW⟩ := X61.leaveW hS24 (by rw [e61]; exact (Nat.le_trans (Nat.le_trans (Nat.le_trans (Nat.le_trans (Nat.le_refl _) K30q.1) K33q.1) K52q.1) K55q.1)) (v := some (.int (1 : Int32))) (fun h => by rw [Bd.returns] at h; cases h)
            refine ⟨_, _, pre59 _ ?_, hrun, hended, _, _, rfl, ?_, ⟨_, rfl⟩, hEW.2.1, hEW.2.2.1, hEW.2.2.2.mono (by decide) (by decide)⟩
            · show Steps p.tables e below (T57.setTop (mkF m 211 #[.val (.int p1), .val (.int p2), .val (.ref b3), .val (.int (own_from p2)), .val (.int (own_to p2)), .val (.ref st_LINE_FEED), .val (.int (own_rd p2)), .val (.ref b23), .val (.long (((-(own_from p2)).toInt64) + (x33_3.toInt64))), .second, .val (.int x33_3), .val (.int x55_1)] [(.int x33_3), (.int x55_1)])) _
              refine XS.icmpYes X57.here hx rfl (pc0 := 211) (pc' := 216) rfl (hb hby at_211) rfl (feq hc211_58).2 (by decide) (by decide) ?_
              show Steps p.tables e below (T57.setTop (mkF m 216 #[.val (.int p1), .val (.int p2), .val (.ref b3), .val (.int (own_from p2)), .val (.int (own_to p2)), .val (.ref st_LINE_FEED), .val (.int (own_rd p2)), .val (.ref b23), .val (.long (((-(own_from p2)).toInt64) + (x33_3.toInt64))), .second, .val (.int x33_3), .val (.int x55_1)] [])) _
              refine XS.iload X57.here hx rfl (hb hby at_216) rfl ?_
              show Steps p.tables e below (T57.setTop (mkF m 218 #[.val (.int p1), .val (.int p2), .val (.ref b3), .val (.int (own_from p2)), .val (.int (own_to p2)), .val (.ref st_LINE_FEED), .val (.int (own_rd p2)), .val (.ref b23), .val (.long (((-(own_from p2)).toInt64) + (x33_3.toInt64))), .second, .val (.int x33_3), .val (.int x55_1)] [(.int x55_1)])) _
              refine XS.iload X57.here hx rfl (hb hby at_218) rfl ?_
              show Steps p.tables e below (T57.setTop (mkF m 220 #[.val (.int p1), .val (.int p2), .val (.ref b3), .val (.int (own_from p2)), .val (.int (own_to p2)), .val (.ref st_LINE_FEED), .val (.int (own_rd p2)), .val (.ref b23), .val (.long (((-(own_from p2)).toInt64) + (x33_3.toInt64))), .second, .val (.int x33_3), .val (.int x55_1)] [(.int x33_3), (.int x55_1)])) _
              refine XS.iconst X57.here hx rfl (hb hby at_220) ?_
              show Steps p.tables e below (T57.setTop (mkF m 221 #[.val (.int p1), .val (.int p2), .val (.ref b3), .val (.int (own_from p2)), .val (.int (own_to p2)), .val (.ref st_LINE_FEED), .val (.int (own_rd p2)), .val (.ref b23), .val (.long (((-(own_from p2)).toInt64) + (x33_3.toInt64))), .second, .val (.int x33_3), .val (.int x55_1)] [(.int (1 : Int32)), (.int x33_3), (.int x55_1)])) _
              refine XS.iadd X57.here hx rfl (hb hby at_221) rfl ?_
              show Steps p.tables e below (T57.setTop (mkF m 222 #[.val (.int p1), .val (.int p2), .val (.ref b3), .val (.int (own_from p2)), .val (.int (own_to p2)), .val (.ref st_LINE_FEED), .val (.int (own_rd p2)), .val (.ref b23), .val (.long (((-(own_from p2)).toInt64) + (x33_3.toInt64))), .second, .val (.int x33_3), .val (.int x55_1)] [(.int (x33_3 + (1 : Int32))), (.int x55_1)])) _
              refine XS.icmpNo X57.here hx rfl (hb hby at_222) rfl (teq hc222_60).2 ?_
              show Steps p.tables e below (T57.setTop (mkF m 225 #[.val (.int p1), .val (.int p2), .val (.ref b3), .val (.int (own_from p2)), .val (.int (own_to p2)), .val (.ref st_LINE_FEED), .val (.int (own_rd p2)), .val (.ref b23), .val (.long (((-(own_from p2)).toInt64) + (x33_3.toInt64))), .second, .val (.int x33_3), .val (.int x55_1)] [])) _
              refine XS.aload X57.here hx rfl (hb hby at_225) rfl rfl ?_
              show Steps p.tables e below (T57.setTop (mkF m 227 #[.val (.int p1), .val (.int p2), .val (.ref b3), .val (.int (own_from p2)), .val (.int (own_to p2)), .val (.ref st_LINE_FEED), .val (.int (own_rd p2)), .val (.ref b23), .val (.long (((-(own_from p2)).toInt64) + (x33_3.toInt64))), .second, .val (.int x33_3), .val (.int x55_1)] [(.ref b23)])) _
              refine st61.trans ?_
              show Steps p.tables e below (T61.setTop (mkF m 230 #[.val (.int p1), .val (.int p2), .val (.ref b3), .val (.int (own_from p2)), .val (.int (own_to p2)), .val (.ref st_LINE_FEED), .val (.int (own_rd p2)), .val (.ref b23), .val (.long (((-(own_from p2)).toInt64) + (x33_3.toInt64))), .second, .val (.int x33_3), .val (.int x55_1)] [(.ref b3)])) _
              refine XS.iload X61.here hx rfl (hb hby at_230) rfl ?_
              show Steps p.tables e below (T61.setTop (mkF m 232 #[.val (.int p1), .val (.int p2), .val (.ref b3), .val (.int (own_from p2)), .val (.int (own_to p2)), .val (.ref st_LINE_FEED), .val (.int (own_rd p2)), .val (.ref b23), .val (.long (((-(own_from p2)).toInt64) + (x33_3.toInt64))), .second, .val (.int x33_3), .val (.int x55_1)] [(.int x33_3), (.ref b3)])) _
              refine X61.baloadBytes hx (j := x33_3) (v := (.int (own_at vl x33_3))) (by rw [e61]; exact Ar62.1) (State.isArrayOf_alike hZ24.alike Ar62.2.1) Ar62.2.2 hin62 hat62 (g := (mkF m 232 #[.val (.int p1), .val (.int p2), .val (.ref b3), .val (.int (own_from p2)), .val (.int (own_to p2)), .val (.ref st_LINE_FEED), .val (.int (own_rd p2)), .val (.ref b23), .val (.long (((-(own_from p2)).toInt64) + (x33_3.toInt64))), .second, .val (.int x33_3), .val (.int x55_1)] [(.int x33_3), (.ref b3)])) rfl rfl (hb hby at_232) _ ?_
              show Steps p.tables e below (T61.setTop (mkF m 233 #[.val (.int p1), .val (.int p2), .val (.ref b3), .val (.int (own_from p2)), .val (.int (own_to p2)), .val (.ref st_LINE_FEED), .val (.int (own_rd p2)), .val (.ref b23), .val (.long (((-(own_from p2)).toInt64) + (x33_3.toInt64))), .second, .val (.int x33_3), .val (.int x55_1)] [(.int (own_at vl x33_3))])) _
              refine XS.bipush X61.here hx rfl (hb hby at_233) ?_
              show Steps p.tables e below (T61.setTop (mkF m 235 #[.val (.int p1), .val (.int p2), .val (.ref b3), .val (.int (own_from p2)), .val (.int (own_to p2)), .val (.ref st_LINE_FEED), .val (.int (own_rd p2)), .val (.ref b23), .val (.long (((-(own_from p2)).toInt64) + (x33_3.toInt64))), .second, .val (.int x33_3), .val (.int x55_1)] [(.int (10 : Int32)), (.int (own_at vl x33_3))])) _
              refine XS.icmpNo X61.here hx rfl (hb hby at_235) rfl (teq hc235_63).2 ?_
              show Steps p.tables e below (T61.setTop (mkF m 238 #[.val (.int p1), .val (.int p2), .val (.ref b3), .val (.int (own_from p2)), .val (.int (own_to p2)), .val (.ref st_LINE_FEED), .val (.int (own_rd p2)), .val (.ref b23), .val (.long (((-(own_from p2)).toInt64) + (x33_3.toInt64))), .second, .val (.int x33_3), .val (.int x55_1)] [])) _
              refine XS.iconst X61.here hx rfl (hb hby at_238) ?_
              show Steps p.tables e below (T61.setTop (mkF m 239 #[.val (.int p1), .val (.int p2), .val (.ref b3), .val (.int (own_from p2)), .val (.int (own_to p2)), .val (.ref st_LINE_FEED), .val (.int (own_rd p2)), .val (.ref b23), .val (.long (((-(own_from p2)).toInt64) + (x33_3.toInt64))), .second, .val (.int x33_3), .val (.int x55_1)] [(.int (1 : Int32))])) _
              refine XS.goto X61.here hx rfl (pc0 := 239) (pc' := 243) rfl (hb hby at_239) (by decide) (by decide) ?_
              show Steps p.tables e below (T61.setTop (mkF m 243 #[.val (.int p1), .val (.int p2), .val (.ref b3), .val (.int (own_from p2)), .val (.int (own_to p2)), .val (.ref st_LINE_FEED), .val (.int (own_rd p2)), .val (.ref b23), .val (.long (((-(own_from p2)).toInt64) + (x33_3.toInt64))), .second, .val (.int x33_3), .val (.int x55_1)] [(.int (1 : Int32))])) _
              exact retN X61 hx (t := .boolean) Bd.returns (by simp) (hb hby at_243) hr
            · show Q0 Z p1 p2 st_LINE_FEED st_CARRIAGE_RETURN_OR_LINE_FEED h0 n0 _ T61.heap _
              rw [e61]
              exact ⟨rfl, N61⟩
      · have hc152_64 : ¬ ((2 : Int32) < (own_rd p2)) := own_r2 hc140_31
        obtain ⟨cq65, kq65, q65a, q65b, q65c⟩ := isOf hZ24 rfl f30_0
        obtain ⟨_, _, ⟨T65, L65, k65, n65⟩, -, X65, ⟨Lc65, hQ65, l65, y65, z65⟩, st65⟩ := X30.virtualBack hx (y := (⟨"querent/hl7/LineReader", "offset", "()J"⟩ : MethodName)) (z := (⟨"querent/hl7/LineReader", "offset", "()J"⟩ : MethodName)) hown24 (mvT hZ24 (hw _ (List.mem_of_getElem? (i := 54) rfl))) (mvT hZ24 (hw _ (List.mem_of_getElem? (i := 55) rfl))) (notFace_of_selects (args := #[]) (mvT hZ24 (hw _ (List.mem_of_getElem? (i := 57) rfl)))) (mvT hZ24 (hw _ (List.mem_of_getElem? (i := 57) rfl))) (mvT hZ24 (hw _ (List.mem_of_getElem? (i := 56) rfl))) (by decide) (backOf (W := 0) (rm7 l Z a0 hw [] b23 ((-(own_from p2)).toInt64) x30_3 T30.heap n0 Z30 f30_4 f30_8) hZ24 (hw _ (List.mem_of_getElem? (i := 58) rfl)) (hw _ (List.mem_of_getElem? (i := 10) rfl)) (by decide) (by decide)) q65a q65c (g := (mkF m 163 #[.val (.int p1), .val (.int p2), .val (.ref b3), .val (.int (own_from p2)), .val (.int (own_to p2)), .val (.ref st_LINE_FEED), .val (.int (own_rd p2)), .val (.ref b23), .unset, .unset, .unset, .unset] [(.ref b23)])) rfl (by rw [hml]; rfl) (Steps.refl _) (argsL := []) (rest := []) (lenOf pd_9 rfl) rfl (by show 2 * 0 + _ ≤ _; exact Nat.le_of_eq rfl) (hb hby at_163) (fun _ _ => ⟨rfl, rfl, (by decide : 6 + 0 ≤ _), (by decide : 215 + 0 ≤ _)⟩)
        dsimp only [Pt.U, Pt.locs, Pt.cells, Pt.slots] at X65 l65 y65 z65 st65 hQ65
        subst l65 y65 z65
        obtain ⟨rfl, N65q, e65⟩ := hQ65
        have N65 := Fr.app N30 N65q
        obtain ⟨cq66, kq66, q66a, q66b, q66c⟩ := isOf hZ24 e65 f30_0
        obtain ⟨_, _, ⟨T66, L66, k66, n66⟩, -, X66, ⟨Lc66, hQ66, l66, y66, z66⟩, st66⟩ := X65.virtualBack hx (y := (⟨"querent/hl7/LineReader", "keepFromNext", "()V"⟩ : MethodName)) (z := (⟨"querent/hl7/LineReader", "keepFromNext", "()V"⟩ : MethodName)) hown24 (mvT hZ24 (hw _ (List.mem_of_getElem? (i := 59) rfl))) (mvT hZ24 (hw _ (List.mem_of_getElem? (i := 60) rfl))) (notFace_of_selects (args := #[]) (mvT hZ24 (hw _ (List.mem_of_getElem? (i := 62) rfl)))) (mvT hZ24 (hw _ (List.mem_of_getElem? (i := 62) rfl))) (mvT hZ24 (hw _ (List.mem_of_getElem? (i := 61) rfl))) (by decide) (backOf (W := 0) (rm8 l Z a0 hw [] b23 b3 (F2_carriageReturnEnds_a1 st_LINE_FEED st_CARRIAGE_RETURN_OR_LINE_FEED) ((-(own_from p2)).toInt64) (own_to p2) x30_1 x30_2 x30_3 (0 : Int32) (0 : Int32) x30_4 x30_5 x30_6 T30.heap n0 Z30 f30_0 f30_1 f30_2 f30_3 f30_4 f30_5 f30_6 f30_7 f30_8 f30_9 f30_10 f30_11 f30_12 f30_13 g_b23) hZ24 (hw _ (List.mem_of_getElem? (i := 63) rfl)) (hw _ (List.mem_of_getElem? (i := 10) rfl)) (by decide) (by decide)) q66a q66c (g := (mkF m 170 #[.val (.int p1), .val (.int p2), .val (.ref b3), .val (.int (own_from p2)), .val (.int (own_to p2)), .val (.ref st_LINE_FEED), .val (.int (own_rd p2)), .val (.ref b23), .val (.long (((-(own_from p2)).toInt64) + (x30_3.toInt64))), .second, .unset, .unset] [(.ref b23)])) rfl (by rw [hml]; rfl) (Steps.refl _) (argsL := []) (rest := []) (lenOf pd_4 rfl) rfl (by show 2 * 0 + _ ≤ _; exact Nat.le_of_eq rfl) (hb hby at_170) (fun _ _ => ⟨rfl, e65, (by decide : 6 + 0 ≤ _), (by decide : 215 + 0 ≤ _)⟩)
        dsimp only [Pt.U, Pt.locs, Pt.cells, Pt.slots] at X66 l66 y66 z66 st66 hQ66
        subst l66 y66 z66
        obtain ⟨rfl, N66q, K66q, f66_0, f66_1, f66_2, f66_3, f66_4, f66_5, f66_6, f66_7, f66_8, f66_9, f66_10, f66_11, f66_12, f66_13⟩ := hQ66
        have y67 := ((y27.keep K30q (ninS ne_b3_b23 nin0)).keep K66q (ninS ne_b3_b23 nin0))
        have K66 : Keep h0 T66.heap [] := (K30).trans K66q (allS (P := fun x => x ∈ [] ∨ h0.size ≤ x) (Or.inr sz_b23) all0)
        have Z66 : n0 ≤ T66.heap.size := Nat.le_trans Z30 K66q.1
        have N66 := Fr.app N65 N66q
        obtain ⟨cq68, kq68, q68a, q68b, q68c⟩ := isOf hZ24 rfl f66_0
        obtain ⟨_, _, ⟨T68, L68, k68, n68⟩, -, X68, ⟨Lc68, hQ68, l68, y68, z68⟩, st68⟩ := X66.virtualBack hx (y := (⟨"querent/hl7/LineReader", "kept", "()I"⟩ : MethodName)) (z := (⟨"querent/hl7/LineReader", "kept", "()I"⟩ : MethodName)) hown24 (mvT hZ24 (hw _ (List.mem_of_getElem? (i := 68) rfl))) (mvT hZ24 (hw _ (List.mem_of_getElem? (i := 69) rfl))) (notFace_of_selects (args := #[]) (mvT hZ24 (hw _ (List.mem_of_getElem? (i := 71) rfl)))) (mvT hZ24 (hw _ (List.mem_of_getElem? (i := 71) rfl))) (mvT hZ24 (hw _ (List.mem_of_getElem? (i := 70) rfl))) (by decide) (backOf (W := 0) (rm9 l Z a0 hw [] b23 x30_3 T66.heap n0 Z66 f66_10) hZ24 (hw _ (List.mem_of_getElem? (i := 72) rfl)) (hw _ (List.mem_of_getElem? (i := 10) rfl)) (by decide) (by decide)) q68a q68c (g := (mkF m 175 #[.val (.int p1), .val (.int p2), .val (.ref b3), .val (.int (own_from p2)), .val (.int (own_to p2)), .val (.ref st_LINE_FEED), .val (.int (own_rd p2)), .val (.ref b23), .val (.long (((-(own_from p2)).toInt64) + (x30_3.toInt64))), .second, .unset, .unset] [(.ref b23)])) rfl (by rw [hml]; rfl) (Steps.refl _) (argsL := []) (rest := []) (lenOf pd_10 rfl) rfl (by show 2 * 0 + _ ≤ _; exact Nat.le_of_eq rfl) (hb hby at_175) (fun _ _ => ⟨rfl, rfl, (by decide : 6 + 0 ≤ _), (by decide : 215 + 0 ≤ _)⟩)
        dsimp only [Pt.U, Pt.locs, Pt.cells, Pt.slots] at X68 l68 y68 z68 st68 hQ68
        subst l68 y68 z68
        obtain ⟨rfl, N68q, e68⟩ := hQ68
        have N68 := Fr.app N66 N68q
        have hc189_69 : (x30_3.toInt64) = ((((-(own_from p2)).toInt64) + (x30_3.toInt64)) + ((own_from p2).toInt64)) := own_off p2 p30_1 p30_2
        obtain ⟨cq70, kq70, q70a, q70b, q70c⟩ := isOf hZ24 e68 f66_0
        obtain ⟨_, _, ⟨T70, L70, k70, n70⟩, -, X70, ⟨Lc70, hQ70, l70, y70, z70⟩, st70⟩ := X68.virtualBack hx (y := (⟨"querent/hl7/LineReader", "next", "()Z"⟩ : MethodName)) (z := (⟨"querent/hl7/LineReader", "next", "()Z"⟩ : MethodName)) hown24 (mvT hZ24 (hw _ (List.mem_of_getElem? (i := 73) rfl))) (mvT hZ24 (hw _ (List.mem_of_getElem? (i := 74) rfl))) (notFace_of_selects (args := #[]) (mvT hZ24 (hw _ (List.mem_of_getElem? (i := 76) rfl)))) (mvT hZ24 (hw _ (List.mem_of_getElem? (i := 76) rfl))) (mvT hZ24 (hw _ (List.mem_of_getElem? (i := 75) rfl))) (by decide) (backOf (W := 0) (rm10 l Z a0 hw [] b23 b3 (F2_carriageReturnEnds_a1 st_LINE_FEED st_CARRIAGE_RETURN_OR_LINE_FEED) ((-(own_from p2)).toInt64) (own_to p2) x30_1 x30_2 x30_3 (1 : Int32) x30_3 x30_4 x30_5 x30_6 k3 vl T66.heap n0 Z66 f66_0 f66_1 f66_2 f66_3 f66_4 f66_5 f66_6 f66_7 f66_8 f66_9 f66_10 f66_11 f66_12 f66_13 y67 p30_1 p30_2 (show ¬ ((6 : Int32) < (own_to p2)) from (own_ft p2).2.2) g_b23 ne_b3_b23) hZ24 (hw _ (List.mem_of_getElem? (i := 77) rfl)) (hw _ (List.mem_of_getElem? (i := 10) rfl)) (by decide) (by decide)) q70a q70c (g := (mkF m 196 #[.val (.int p1), .val (.int p2), .val (.ref b3), .val (.int (own_from p2)), .val (.int (own_to p2)), .val (.ref st_LINE_FEED), .val (.int (own_rd p2)), .val (.ref b23), .val (.long (((-(own_from p2)).toInt64) + (x30_3.toInt64))), .second, .val (.int x30_3), .unset] [(.ref b23)])) rfl (by rw [hml]; rfl) (Steps.refl _) (argsL := []) (rest := []) (lenOf pd_3 rfl) rfl (by show 2 * 0 + _ ≤ _; exact Nat.le_of_eq rfl) (hb hby at_196) (fun _ _ => ⟨rfl, e68, (by decide : 6 + 0 ≤ _), (by decide : 215 + 0 ≤ _)⟩)
        dsimp only [Pt.U, Pt.locs, Pt.cells, Pt.slots] at X70 l70 y70 z70 st70 hQ70
        subst l70 y70 z70
        obtain ⟨x70_0, x70_1, x70_2, x70_3, x70_4, x70_5, x70_6, rfl, N70q, K70q, f70_0, f70_1, f70_2, f70_3, f70_4, f70_5, f70_6, f70_7, f70_8, f70_9, f70_10, f70_11, f70_12, f70_13, p70_0, p70_1, p70_2⟩ := hQ70
        have K70 : Keep h0 T70.heap [] := (K66).trans K70q (allS (P := fun x => x ∈ [] ∨ h0.size ≤ x) (Or.inr sz_b23) all0)
        have Z70 : n0 ≤ T70.heap.size := Nat.le_trans Z66 K70q.1
        have N70 := Fr.app N68 N70q
        obtain ⟨cq71, kq71, q71a, q71b, q71c⟩ := isOf hZ24 rfl f70_0
        obtain ⟨_, _, ⟨T71, L71, k71, n71⟩, -, X71, ⟨Lc71, hQ71, l71, y71, z71⟩, st71⟩ := X70.virtualBack hx (y := (⟨"querent/hl7/LineReader", "start", "()I"⟩ : MethodName)) (z := (⟨"querent/hl7/LineReader", "start", "()I"⟩ : MethodName)) hown24 (mvT hZ24 (hw _ (List.mem_of_getElem? (i := 96) rfl))) (mvT hZ24 (hw _ (List.mem_of_getElem? (i := 97) rfl))) (notFace_of_selects (args := #[]) (mvT hZ24 (hw _ (List.mem_of_getElem? (i := 99) rfl)))) (mvT hZ24 (hw _ (List.mem_of_getElem? (i := 99) rfl))) (mvT hZ24 (hw _ (List.mem_of_getElem? (i := 98) rfl))) (by decide) (backOf (W := 0) (rm15 l Z a0 hw [] b23 x70_1 T70.heap n0 Z70 f70_6) hZ24 (hw _ (List.mem_of_getElem? (i := 100) rfl)) (hw _ (List.mem_of_getElem? (i := 10) rfl)) (by decide) (by decide)) q71a q71c (g := (mkF m 202 #[.val (.int p1), .val (.int p2), .val (.ref b3), .val (.int (own_from p2)), .val (.int (own_to p2)), .val (.ref st_LINE_FEED), .val (.int (own_rd p2)), .val (.ref b23), .val (.long (((-(own_from p2)).toInt64) + (x30_3.toInt64))), .second, .val (.int x30_3), .unset] [(.ref b23)])) rfl (by rw [hml]; rfl) (Steps.refl _) (argsL := []) (rest := []) (lenOf pd_10 rfl) rfl (by show 2 * 0 + _ ≤ _; exact Nat.le_of_eq rfl) (hb hby at_202) (fun _ _ => ⟨rfl, rfl, (by decide : 6 + 0 ≤ _), (by decide : 215 + 0 ≤ _)⟩)
        dsimp only [Pt.U, Pt.locs, Pt.cells, Pt.slots] at X71 l71 y71 z71 st71 hQ71
        subst l71 y71 z71
        obtain ⟨rfl, N71q, e71⟩ := hQ71
        have N71 := Fr.app N70 N71q
        have pre73 : ∀ t, Steps p.tables e below (T71.setTop (mkF m 211 #[.val (.int p1), .val (.int p2), .val (.ref b3), .val (.int (own_from p2)), .val (.int (own_to p2)), .val (.ref st_LINE_FEED), .val (.int (own_rd p2)), .val (.ref b23), .val (.long (((-(own_from p2)).toInt64) + (x30_3.toInt64))), .second, .val (.int x30_3), .val (.int x70_1)] [(.int x30_3), (.int x70_1)])) t → Steps p.tables e below (s₁.setTop (entryFrame m #[(.int p1), (.int p2)] maxLocals)) t := fun t kt => pre32 t (by
          show Steps p.tables e below (T30.setTop (mkF m 140 #[.val (.int p1), .val (.int p2), .val (.ref b3), .val (.int (own_from p2)), .val (.int (own_to p2)), .val (.ref st_LINE_FEED), .val (.int (own_rd p2)), .val (.ref b23), .unset, .unset, .unset, .unset] [(.int (1 : Int32)), (.int (own_rd p2))])) _
          refine XS.icmpYes X30.here hx rfl (pc0 := 140) (pc' := 149) rfl (hb hby at_140) rfl (flt hc140_31).2.2.2 (by decide) (by decide) ?_
          show Steps p.tables e below (T30.setTop (mkF m 149 #[.val (.int p1), .val (.int p2), .val (.ref b3), .val (.int (own_from p2)), .val (.int (own_to p2)), .val (.ref st_LINE_FEED), .val (.int (own_rd p2)), .val (.ref b23), .unset, .unset, .unset, .unset] [])) _
          refine XS.iload X30.here hx rfl (hb hby at_149) rfl ?_
          show Steps p.tables e below (T30.setTop (mkF m 151 #[.val (.int p1), .val (.int p2), .val (.ref b3), .val (.int (own_from p2)), .val (.int (own_to p2)), .val (.ref st_LINE_FEED), .val (.int (own_rd p2)), .val (.ref b23), .unset, .unset, .unset, .unset] [(.int (own_rd p2))])) _
          refine XS.iconst X30.here hx rfl (hb hby at_151) ?_
          show Steps p.tables e below (T30.setTop (mkF m 152 #[.val (.int p1), .val (.int p2), .val (.ref b3), .val (.int (own_from p2)), .val (.int (own_to p2)), .val (.ref st_LINE_FEED), .val (.int (own_rd p2)), .val (.ref b23), .unset, .unset, .unset, .unset] [(.int (2 : Int32)), (.int (own_rd p2))])) _
          refine XS.icmpYes X30.here hx rfl (pc0 := 152) (pc' := 161) rfl (hb hby at_152) rfl (flt hc152_64).2.2.2 (by decide) (by decide) ?_
          show Steps p.tables e below (T30.setTop (mkF m 161 #[.val (.int p1), .val (.int p2), .val (.ref b3), .val (.int (own_from p2)), .val (.int (own_to p2)), .val (.ref st_LINE_FEED), .val (.int (own_rd p2)), .val (.ref b23), .unset, .unset, .unset, .unset] [])) _
          refine XS.aload X30.here hx rfl (hb hby at_161) rfl rfl ?_
          show Steps p.tables e below (T30.setTop (mkF m 163 #[.val (.int p1), .val (.int p2), .val (.ref b3), .val (.int (own_from p2)), .val (.int (own_to p2)), .val (.ref st_LINE_FEED), .val (.int (own_rd p2)), .val (.ref b23), .unset, .unset, .unset, .unset] [(.ref b23)])) _
          refine st65.trans ?_
          show Steps p.tables e below (T65.setTop (mkF m 166 #[.val (.int p1), .val (.int p2), .val (.ref b3), .val (.int (own_from p2)), .val (.int (own_to p2)), .val (.ref st_LINE_FEED), .val (.int (own_rd p2)), .val (.ref b23), .unset, .unset, .unset, .unset] [(.long (((-(own_from p2)).toInt64) + (x30_3.toInt64)))])) _
          refine XS.lstore X65.here hx rfl (hb hby at_166) rfl (l' := #[.val (.int p1), .val (.int p2), .val (.ref b3), .val (.int (own_from p2)), .val (.int (own_to p2)), .val (.ref st_LINE_FEED), .val (.int (own_rd p2)), .val (.ref b23), .val (.long (((-(own_from p2)).toInt64) + (x30_3.toInt64))), .second, .unset, .unset]) rfl ?_
          show Steps p.tables e below (T65.setTop (mkF m 168 #[.val (.int p1), .val (.int p2), .val (.ref b3), .val (.int (own_from p2)), .val (.int (own_to p2)), .val (.ref st_LINE_FEED), .val (.int (own_rd p2)), .val (.ref b23), .val (.long (((-(own_from p2)).toInt64) + (x30_3.toInt64))), .second, .unset, .unset] [])) _
          refine XS.aload X65.here hx rfl (hb hby at_168) rfl rfl ?_
          show Steps p.tables e below (T65.setTop (mkF m 170 #[.val (.int p1), .val (.int p2), .val (.ref b3), .val (.int (own_from p2)), .val (.int (own_to p2)), .val (.ref st_LINE_FEED), .val (.int (own_rd p2)), .val (.ref b23), .val (.long (((-(own_from p2)).toInt64) + (x30_3.toInt64))), .second, .unset, .unset] [(.ref b23)])) _
          refine st66.trans ?_
          show Steps p.tables e below (T66.setTop (mkF m 173 #[.val (.int p1), .val (.int p2), .val (.ref b3), .val (.int (own_from p2)), .val (.int (own_to p2)), .val (.ref st_LINE_FEED), .val (.int (own_rd p2)), .val (.ref b23), .val (.long (((-(own_from p2)).toInt64) + (x30_3.toInt64))), .second, .unset, .unset] [])) _
          refine XS.aload X66.here hx rfl (hb hby at_173) rfl rfl ?_
          show Steps p.tables e below (T66.setTop (mkF m 175 #[.val (.int p1), .val (.int p2), .val (.ref b3), .val (.int (own_from p2)), .val (.int (own_to p2)), .val (.ref st_LINE_FEED), .val (.int (own_rd p2)), .val (.ref b23), .val (.long (((-(own_from p2)).toInt64) + (x30_3.toInt64))), .second, .unset, .unset] [(.ref b23)])) _
          refine st68.trans ?_
          show Steps p.tables e below (T68.setTop (mkF m 178 #[.val (.int p1), .val (.int p2), .val (.ref b3), .val (.int (own_from p2)), .val (.int (own_to p2)), .val (.ref st_LINE_FEED), .val (.int (own_rd p2)), .val (.ref b23), .val (.long (((-(own_from p2)).toInt64) + (x30_3.toInt64))), .second, .unset, .unset] [(.int x30_3)])) _
          refine XS.istore X68.here hx rfl (hb hby at_178) rfl (l' := #[.val (.int p1), .val (.int p2), .val (.ref b3), .val (.int (own_from p2)), .val (.int (own_to p2)), .val (.ref st_LINE_FEED), .val (.int (own_rd p2)), .val (.ref b23), .val (.long (((-(own_from p2)).toInt64) + (x30_3.toInt64))), .second, .val (.int x30_3), .unset]) rfl ?_
          show Steps p.tables e below (T68.setTop (mkF m 180 #[.val (.int p1), .val (.int p2), .val (.ref b3), .val (.int (own_from p2)), .val (.int (own_to p2)), .val (.ref st_LINE_FEED), .val (.int (own_rd p2)), .val (.ref b23), .val (.long (((-(own_from p2)).toInt64) + (x30_3.toInt64))), .second, .val (.int x30_3), .unset] [])) _
          refine XS.iload X68.here hx rfl (hb hby at_180) rfl ?_
          show Steps p.tables e below (T68.setTop (mkF m 182 #[.val (.int p1), .val (.int p2), .val (.ref b3), .val (.int (own_from p2)), .val (.int (own_to p2)), .val (.ref st_LINE_FEED), .val (.int (own_rd p2)), .val (.ref b23), .val (.long (((-(own_from p2)).toInt64) + (x30_3.toInt64))), .second, .val (.int x30_3), .unset] [(.int x30_3)])) _
          refine XS.i2l X68.here hx rfl (hb hby at_182) rfl ?_
          show Steps p.tables e below (T68.setTop (mkF m 183 #[.val (.int p1), .val (.int p2), .val (.ref b3), .val (.int (own_from p2)), .val (.int (own_to p2)), .val (.ref st_LINE_FEED), .val (.int (own_rd p2)), .val (.ref b23), .val (.long (((-(own_from p2)).toInt64) + (x30_3.toInt64))), .second, .val (.int x30_3), .unset] [(.long (x30_3.toInt64))])) _
          refine XS.lload X68.here hx rfl (hb hby at_183) rfl ?_
          show Steps p.tables e below (T68.setTop (mkF m 185 #[.val (.int p1), .val (.int p2), .val (.ref b3), .val (.int (own_from p2)), .val (.int (own_to p2)), .val (.ref st_LINE_FEED), .val (.int (own_rd p2)), .val (.ref b23), .val (.long (((-(own_from p2)).toInt64) + (x30_3.toInt64))), .second, .val (.int x30_3), .unset] [(.long (((-(own_from p2)).toInt64) + (x30_3.toInt64))), (.long (x30_3.toInt64))])) _
          refine XS.iloadN X68.here hx rfl (hb hby at_185) rfl ?_
          show Steps p.tables e below (T68.setTop (mkF m 186 #[.val (.int p1), .val (.int p2), .val (.ref b3), .val (.int (own_from p2)), .val (.int (own_to p2)), .val (.ref st_LINE_FEED), .val (.int (own_rd p2)), .val (.ref b23), .val (.long (((-(own_from p2)).toInt64) + (x30_3.toInt64))), .second, .val (.int x30_3), .unset] [(.int (own_from p2)), (.long (((-(own_from p2)).toInt64) + (x30_3.toInt64))), (.long (x30_3.toInt64))])) _
          refine XS.i2l X68.here hx rfl (hb hby at_186) rfl ?_
          show Steps p.tables e below (T68.setTop (mkF m 187 #[.val (.int p1), .val (.int p2), .val (.ref b3), .val (.int (own_from p2)), .val (.int (own_to p2)), .val (.ref st_LINE_FEED), .val (.int (own_rd p2)), .val (.ref b23), .val (.long (((-(own_from p2)).toInt64) + (x30_3.toInt64))), .second, .val (.int x30_3), .unset] [(.long ((own_from p2).toInt64)), (.long (((-(own_from p2)).toInt64) + (x30_3.toInt64))), (.long (x30_3.toInt64))])) _
          refine XS.ladd X68.here hx rfl (hb hby at_187) rfl ?_
          show Steps p.tables e below (T68.setTop (mkF m 188 #[.val (.int p1), .val (.int p2), .val (.ref b3), .val (.int (own_from p2)), .val (.int (own_to p2)), .val (.ref st_LINE_FEED), .val (.int (own_rd p2)), .val (.ref b23), .val (.long (((-(own_from p2)).toInt64) + (x30_3.toInt64))), .second, .val (.int x30_3), .unset] [(.long ((((-(own_from p2)).toInt64) + (x30_3.toInt64)) + ((own_from p2).toInt64))), (.long (x30_3.toInt64))])) _
          refine XS.lcmp X68.here hx rfl (hb hby at_188) rfl ?_
          show Steps p.tables e below (T68.setTop (mkF m 189 #[.val (.int p1), .val (.int p2), .val (.ref b3), .val (.int (own_from p2)), .val (.int (own_to p2)), .val (.ref st_LINE_FEED), .val (.int (own_rd p2)), .val (.ref b23), .val (.long (((-(own_from p2)).toInt64) + (x30_3.toInt64))), .second, .val (.int x30_3), .unset] [(.int (lcmpW (x30_3.toInt64) ((((-(own_from p2)).toInt64) + (x30_3.toInt64)) + ((own_from p2).toInt64))))])) _
          refine XS.ifYes X68.here hx rfl (pc0 := 189) (pc' := 194) rfl (hb hby at_189) rfl ((if0 _ _).trans (teq ((lw_eq (x30_3.toInt64) ((((-(own_from p2)).toInt64) + (x30_3.toInt64)) + ((own_from p2).toInt64))).mpr hc189_69)).1) (by decide) (by decide) ?_
          show Steps p.tables e below (T68.setTop (mkF m 194 #[.val (.int p1), .val (.int p2), .val (.ref b3), .val (.int (own_from p2)), .val (.int (own_to p2)), .val (.ref st_LINE_FEED), .val (.int (own_rd p2)), .val (.ref b23), .val (.long (((-(own_from p2)).toInt64) + (x30_3.toInt64))), .second, .val (.int x30_3), .unset] [])) _
          refine XS.aload X68.here hx rfl (hb hby at_194) rfl rfl ?_
          show Steps p.tables e below (T68.setTop (mkF m 196 #[.val (.int p1), .val (.int p2), .val (.ref b3), .val (.int (own_from p2)), .val (.int (own_to p2)), .val (.ref st_LINE_FEED), .val (.int (own_rd p2)), .val (.ref b23), .val (.long (((-(own_from p2)).toInt64) + (x30_3.toInt64))), .second, .val (.int x30_3), .unset] [(.ref b23)])) _
          refine st70.trans ?_
          show Steps p.tables e below (T70.setTop (mkF m 199 #[.val (.int p1), .val (.int p2), .val (.ref b3), .val (.int (own_from p2)), .val (.int (own_to p2)), .val (.ref st_LINE_FEED), .val (.int (own_rd p2)), .val (.ref b23), .val (.long (((-(own_from p2)).toInt64) + (x30_3.toInt64))), .second, .val (.int x30_3), .unset] [(.int x70_0)])) _
          refine XS.pop X70.here hx rfl (hb hby at_199) rfl rfl ?_
          show Steps p.tables e below (T70.setTop (mkF m 200 #[.val (.int p1), .val (.int p2), .val (.ref b3), .val (.int (own_from p2)), .val (.int (own_to p2)), .val (.ref st_LINE_FEED), .val (.int (own_rd p2)), .val (.ref b23), .val (.long (((-(own_from p2)).toInt64) + (x30_3.toInt64))), .second, .val (.int x30_3), .unset] [])) _
          refine XS.aload X70.here hx rfl (hb hby at_200) rfl rfl ?_
          show Steps p.tables e below (T70.setTop (mkF m 202 #[.val (.int p1), .val (.int p2), .val (.ref b3), .val (.int (own_from p2)), .val (.int (own_to p2)), .val (.ref st_LINE_FEED), .val (.int (own_rd p2)), .val (.ref b23), .val (.long (((-(own_from p2)).toInt64) + (x30_3.toInt64))), .second, .val (.int x30_3), .unset] [(.ref b23)])) _
          refine st71.trans ?_
          show Steps p.tables e below (T71.setTop (mkF m 205 #[.val (.int p1), .val (.int p2), .val (.ref b3), .val (.int (own_from p2)), .val (.int (own_to p2)), .val (.ref st_LINE_FEED), .val (.int (own_rd p2)), .val (.ref b23), .val (.long (((-(own_from p2)).toInt64) + (x30_3.toInt64))), .second, .val (.int x30_3), .unset] [(.int x70_1)])) _
          refine XS.istore X71.here hx rfl (hb hby at_205) rfl (l' := #[.val (.int p1), .val (.int p2), .val (.ref b3), .val (.int (own_from p2)), .val (.int (own_to p2)), .val (.ref st_LINE_FEED), .val (.int (own_rd p2)), .val (.ref b23), .val (.long (((-(own_from p2)).toInt64) + (x30_3.toInt64))), .second, .val (.int x30_3), .val (.int x70_1)]) rfl ?_
          show Steps p.tables e below (T71.setTop (mkF m 207 #[.val (.int p1), .val (.int p2), .val (.ref b3), .val (.int (own_from p2)), .val (.int (own_to p2)), .val (.ref st_LINE_FEED), .val (.int (own_rd p2)), .val (.ref b23), .val (.long (((-(own_from p2)).toInt64) + (x30_3.toInt64))), .second, .val (.int x30_3), .val (.int x70_1)] [])) _
          refine XS.iload X71.here hx rfl (hb hby at_207) rfl ?_
          show Steps p.tables e below (T71.setTop (mkF m 209 #[.val (.int p1), .val (.int p2), .val (.ref b3), .val (.int (own_from p2)), .val (.int (own_to p2)), .val (.ref st_LINE_FEED), .val (.int (own_rd p2)), .val (.ref b23), .val (.long (((-(own_from p2)).toInt64) + (x30_3.toInt64))), .second, .val (.int x30_3), .val (.int x70_1)] [(.int x70_1)])) _
          refine XS.iload X71.here hx rfl (hb hby at_209) rfl ?_
          show Steps p.tables e below (T71.setTop (mkF m 211 #[.val (.int p1), .val (.int p2), .val (.ref b3), .val (.int (own_from p2)), .val (.int (own_to p2)), .val (.ref st_LINE_FEED), .val (.int (own_rd p2)), .val (.ref b23), .val (.long (((-(own_from p2)).toInt64) + (x30_3.toInt64))), .second, .val (.int x30_3), .val (.int x70_1)] [(.int x30_3), (.int x70_1)])) _
          exact kt)
        by_cases hc211_72 : x70_1 = x30_3
        · obtain ⟨fs, hr, hrun, hended, hEW⟩ := X71.leaveW hS24 (by rw [e71]; exact (Nat.le_trans (Nat.le_trans (Nat.le_trans (Nat.le_refl _) K30q.1) K66q.1) K70q.1)) (v := some (.int (1 : Int32))) (fun h => by rw [Bd.returns] at h; cases h)
          refine ⟨_, _, pre73 _ ?_, hrun, hended, _, _, rfl, ?_, ⟨_, rfl⟩, hEW.2.1, hEW.2.2.1, hEW.2.2.2.mono (by decide) (by decide)⟩
          · show Steps p.tables e below (T71.setTop (mkF m 211 #[.val (.int p1), .val (.int p2), .val (.ref b3), .val (.int (own_from p2)), .val (.int (own_to p2)), .val (.ref st_LINE_FEED), .val (.int (own_rd p2)), .val (.ref b23), .val (.long (((-(own_from p2)).toInt64) + (x30_3.toInt64))), .second, .val (.int x30_3), .val (.int x70_1)] [(.int x30_3), (.int x70_1)])) _
            refine XS.icmpNo X71.here hx rfl (hb hby at_211) rfl (teq hc211_72).2 ?_
            show Steps p.tables e below (T71.setTop (mkF m 214 #[.val (.int p1), .val (.int p2), .val (.ref b3), .val (.int (own_from p2)), .val (.int (own_to p2)), .val (.ref st_LINE_FEED), .val (.int (own_rd p2)), .val (.ref b23), .val (.long (((-(own_from p2)).toInt64) + (x30_3.toInt64))), .second, .val (.int x30_3), .val (.int x70_1)] [])) _
            refine XS.iconst X71.here hx rfl (hb hby at_214) ?_
            show Steps p.tables e below (T71.setTop (mkF m 215 #[.val (.int p1), .val (.int p2), .val (.ref b3), .val (.int (own_from p2)), .val (.int (own_to p2)), .val (.ref st_LINE_FEED), .val (.int (own_rd p2)), .val (.ref b23), .val (.long (((-(own_from p2)).toInt64) + (x30_3.toInt64))), .second, .val (.int x30_3), .val (.int x70_1)] [(.int (1 : Int32))])) _
            exact retN X71 hx (t := .boolean) Bd.returns (by simp) (hb hby at_215) hr
          · show Q0 Z p1 p2 st_LINE_FEED st_CARRIAGE_RETURN_OR_LINE_FEED h0 n0 _ T71.heap _
            rw [e71]
            exact ⟨rfl, N71⟩
        · have hc222_74 : x70_1 = (x30_3 + (1 : Int32)) := (own_dj p70_0 hc211_72).1
          obtain ⟨cq75, kq75, q75a, q75b, q75c⟩ := isOf hZ24 e71 f70_0
          obtain ⟨_, _, ⟨T75, L75, k75, n75⟩, -, X75, ⟨Lc75, hQ75, l75, y75, z75⟩, st75⟩ := X71.virtualBack hx (y := (⟨"querent/hl7/LineReader", "bytes", "()[B"⟩ : MethodName)) (z := (⟨"querent/hl7/LineReader", "bytes", "()[B"⟩ : MethodName)) hown24 (mvT hZ24 (hw _ (List.mem_of_getElem? (i := 114) rfl))) (mvT hZ24 (hw _ (List.mem_of_getElem? (i := 115) rfl))) (notFace_of_selects (args := #[]) (mvT hZ24 (hw _ (List.mem_of_getElem? (i := 117) rfl)))) (mvT hZ24 (hw _ (List.mem_of_getElem? (i := 117) rfl))) (mvT hZ24 (hw _ (List.mem_of_getElem? (i := 116) rfl))) (by decide) (backOf (W := 0) (rm18 l Z a0 hw [] b23 b3 T70.heap n0 Z70 f70_2) hZ24 (hw _ (List.mem_of_getElem? (i := 118) rfl)) (hw _ (List.mem_of_getElem? (i := 10) rfl)) (by decide) (by decide)) q75a q75c (g := (mkF m 227 #[.val (.int p1), .val (.int p2), .val (.ref b3), .val (.int (own_from p2)), .val (.int (own_to p2)), .val (.ref st_LINE_FEED), .val (.int (own_rd p2)), .val (.ref b23), .val (.long (((-(own_from p2)).toInt64) + (x30_3.toInt64))), .second, .val (.int x30_3), .val (.int x70_1)] [(.ref b23)])) rfl (by rw [hml]; rfl) (Steps.refl _) (argsL := []) (rest := []) (lenOf pd_11 rfl) rfl (by show 2 * 0 + _ ≤ _; exact Nat.le_of_eq rfl) (hb hby at_227) (fun _ _ => ⟨rfl, e71, (by decide : 6 + 0 ≤ _), (by decide : 215 + 0 ≤ _)⟩)
          dsimp only [Pt.U, Pt.locs, Pt.cells, Pt.slots] at X75 l75 y75 z75 st75 hQ75
          subst l75 y75 z75
          obtain ⟨rfl, N75q, e75⟩ := hQ75
          have N75 := Fr.app N71 N75q
          obtain ⟨cl76, Ar76, qq76, S76, NN76, HH76, GG76⟩ := id (y67.keep K70q (ninS ne_b3_b23 nin0))
          have hin76 : ¬ (x30_3 < 0 ∨ cl76.slots.size ≤ (x30_3).toNatClampNeg) := inb_of S76 ⟨p30_1, (show x30_3 < (6 : Int32) from own_lt6 (own_dj p70_0 hc211_72).2.2 (own_ft p2).2.2)⟩
          have hat76 : cl76.slots[(x30_3).toNatClampNeg]? = some (.int (own_at vl x30_3)) := Has.at HH76 hin76 (own_atv vl x30_3)
          have hc235_77 : (own_at vl x30_3) = (10 : Int32) := (own_dj p70_0 hc211_72).2.1
          obtain ⟨fs, hr, hrun, hended, hEW⟩ := X75.leaveW hS24 (by rw [e75]; exact (Nat.le_trans (Nat.le_trans (Nat.le_trans (Nat.le_refl _) K30q.1) K66q.1) K70q.1)) (v := some (.int (1 : Int32))) (fun h => by rw [Bd.returns] at h; cases h)
          refine ⟨_, _, pre73 _ ?_, hrun, hended, _, _, rfl, ?_, ⟨_, rfl⟩, hEW.2.1, hEW.2.2.1, hEW.2.2.2.mono (by decide) (by decide)⟩
          · show Steps p.tables e below (T71.setTop (mkF m 211 #[.val (.int p1), .val (.int p2), .val (.ref b3), .val (.int (own_from p2)), .val (.int (own_to p2)), .val (.ref st_LINE_FEED), .val (.int (own_rd p2)), .val (.ref b23), .val (.long (((-(own_from p2)).toInt64) + (x30_3.toInt64))), .second, .val (.int x30_3), .val (.int x70_1)] [(.int x30_3), (.int x70_1)])) _
            refine XS.icmpYes X71.here hx rfl (pc0 := 211) (pc' := 216) rfl (hb hby at_211) rfl (feq hc211_72).2 (by decide) (by decide) ?_
            show Steps p.tables e below (T71.setTop (mkF m 216 #[.val (.int p1), .val (.int p2), .val (.ref b3), .val (.int (own_from p2)), .val (.int (own_to p2)), .val (.ref st_LINE_FEED), .val (.int (own_rd p2)), .val (.ref b23), .val (.long (((-(own_from p2)).toInt64) + (x30_3.toInt64))), .second, .val (.int x30_3), .val (.int x70_1)] [])) _
            refine XS.iload X71.here hx rfl (hb hby at_216) rfl ?_
            show Steps p.tables e below (T71.setTop (mkF m 218 #[.val (.int p1), .val (.int p2), .val (.ref b3), .val (.int (own_from p2)), .val (.int (own_to p2)), .val (.ref st_LINE_FEED), .val (.int (own_rd p2)), .val (.ref b23), .val (.long (((-(own_from p2)).toInt64) + (x30_3.toInt64))), .second, .val (.int x30_3), .val (.int x70_1)] [(.int x70_1)])) _
            refine XS.iload X71.here hx rfl (hb hby at_218) rfl ?_
            show Steps p.tables e below (T71.setTop (mkF m 220 #[.val (.int p1), .val (.int p2), .val (.ref b3), .val (.int (own_from p2)), .val (.int (own_to p2)), .val (.ref st_LINE_FEED), .val (.int (own_rd p2)), .val (.ref b23), .val (.long (((-(own_from p2)).toInt64) + (x30_3.toInt64))), .second, .val (.int x30_3), .val (.int x70_1)] [(.int x30_3), (.int x70_1)])) _
            refine XS.iconst X71.here hx rfl (hb hby at_220) ?_
            show Steps p.tables e below (T71.setTop (mkF m 221 #[.val (.int p1), .val (.int p2), .val (.ref b3), .val (.int (own_from p2)), .val (.int (own_to p2)), .val (.ref st_LINE_FEED), .val (.int (own_rd p2)), .val (.ref b23), .val (.long (((-(own_from p2)).toInt64) + (x30_3.toInt64))), .second, .val (.int x30_3), .val (.int x70_1)] [(.int (1 : Int32)), (.int x30_3), (.int x70_1)])) _
            refine XS.iadd X71.here hx rfl (hb hby at_221) rfl ?_
            show Steps p.tables e below (T71.setTop (mkF m 222 #[.val (.int p1), .val (.int p2), .val (.ref b3), .val (.int (own_from p2)), .val (.int (own_to p2)), .val (.ref st_LINE_FEED), .val (.int (own_rd p2)), .val (.ref b23), .val (.long (((-(own_from p2)).toInt64) + (x30_3.toInt64))), .second, .val (.int x30_3), .val (.int x70_1)] [(.int (x30_3 + (1 : Int32))), (.int x70_1)])) _
            refine XS.icmpNo X71.here hx rfl (hb hby at_222) rfl (teq hc222_74).2 ?_
            show Steps p.tables e below (T71.setTop (mkF m 225 #[.val (.int p1), .val (.int p2), .val (.ref b3), .val (.int (own_from p2)), .val (.int (own_to p2)), .val (.ref st_LINE_FEED), .val (.int (own_rd p2)), .val (.ref b23), .val (.long (((-(own_from p2)).toInt64) + (x30_3.toInt64))), .second, .val (.int x30_3), .val (.int x70_1)] [])) _
            refine XS.aload X71.here hx rfl (hb hby at_225) rfl rfl ?_
            show Steps p.tables e below (T71.setTop (mkF m 227 #[.val (.int p1), .val (.int p2), .val (.ref b3), .val (.int (own_from p2)), .val (.int (own_to p2)), .val (.ref st_LINE_FEED), .val (.int (own_rd p2)), .val (.ref b23), .val (.long (((-(own_from p2)).toInt64) + (x30_3.toInt64))), .second, .val (.int x30_3), .val (.int x70_1)] [(.ref b23)])) _
            refine st75.trans ?_
            show Steps p.tables e below (T75.setTop (mkF m 230 #[.val (.int p1), .val (.int p2), .val (.ref b3), .val (.int (own_from p2)), .val (.int (own_to p2)), .val (.ref st_LINE_FEED), .val (.int (own_rd p2)), .val (.ref b23), .val (.long (((-(own_from p2)).toInt64) + (x30_3.toInt64))), .second, .val (.int x30_3), .val (.int x70_1)] [(.ref b3)])) _
            refine XS.iload X75.here hx rfl (hb hby at_230) rfl ?_
            show Steps p.tables e below (T75.setTop (mkF m 232 #[.val (.int p1), .val (.int p2), .val (.ref b3), .val (.int (own_from p2)), .val (.int (own_to p2)), .val (.ref st_LINE_FEED), .val (.int (own_rd p2)), .val (.ref b23), .val (.long (((-(own_from p2)).toInt64) + (x30_3.toInt64))), .second, .val (.int x30_3), .val (.int x70_1)] [(.int x30_3), (.ref b3)])) _
            refine X75.baloadBytes hx (j := x30_3) (v := (.int (own_at vl x30_3))) (by rw [e75]; exact Ar76.1) (State.isArrayOf_alike hZ24.alike Ar76.2.1) Ar76.2.2 hin76 hat76 (g := (mkF m 232 #[.val (.int p1), .val (.int p2), .val (.ref b3), .val (.int (own_from p2)), .val (.int (own_to p2)), .val (.ref st_LINE_FEED), .val (.int (own_rd p2)), .val (.ref b23), .val (.long (((-(own_from p2)).toInt64) + (x30_3.toInt64))), .second, .val (.int x30_3), .val (.int x70_1)] [(.int x30_3), (.ref b3)])) rfl rfl (hb hby at_232) _ ?_
            show Steps p.tables e below (T75.setTop (mkF m 233 #[.val (.int p1), .val (.int p2), .val (.ref b3), .val (.int (own_from p2)), .val (.int (own_to p2)), .val (.ref st_LINE_FEED), .val (.int (own_rd p2)), .val (.ref b23), .val (.long (((-(own_from p2)).toInt64) + (x30_3.toInt64))), .second, .val (.int x30_3), .val (.int x70_1)] [(.int (own_at vl x30_3))])) _
            refine XS.bipush X75.here hx rfl (hb hby at_233) ?_
            show Steps p.tables e below (T75.setTop (mkF m 235 #[.val (.int p1), .val (.int p2), .val (.ref b3), .val (.int (own_from p2)), .val (.int (own_to p2)), .val (.ref st_LINE_FEED), .val (.int (own_rd p2)), .val (.ref b23), .val (.long (((-(own_from p2)).toInt64) + (x30_3.toInt64))), .second, .val (.int x30_3), .val (.int x70_1)] [(.int (10 : Int32)), (.int (own_at vl x30_3))])) _
            refine XS.icmpNo X75.here hx rfl (hb hby at_235) rfl (teq hc235_77).2 ?_
            show Steps p.tables e below (T75.setTop (mkF m 238 #[.val (.int p1), .val (.int p2), .val (.ref b3), .val (.int (own_from p2)), .val (.int (own_to p2)), .val (.ref st_LINE_FEED), .val (.int (own_rd p2)), .val (.ref b23), .val (.long (((-(own_from p2)).toInt64) + (x30_3.toInt64))), .second, .val (.int x30_3), .val (.int x70_1)] [])) _
            refine XS.iconst X75.here hx rfl (hb hby at_238) ?_
            show Steps p.tables e below (T75.setTop (mkF m 239 #[.val (.int p1), .val (.int p2), .val (.ref b3), .val (.int (own_from p2)), .val (.int (own_to p2)), .val (.ref st_LINE_FEED), .val (.int (own_rd p2)), .val (.ref b23), .val (.long (((-(own_from p2)).toInt64) + (x30_3.toInt64))), .second, .val (.int x30_3), .val (.int x70_1)] [(.int (1 : Int32))])) _
            refine XS.goto X75.here hx rfl (pc0 := 239) (pc' := 243) rfl (hb hby at_239) (by decide) (by decide) ?_
            show Steps p.tables e below (T75.setTop (mkF m 243 #[.val (.int p1), .val (.int p2), .val (.ref b3), .val (.int (own_from p2)), .val (.int (own_to p2)), .val (.ref st_LINE_FEED), .val (.int (own_rd p2)), .val (.ref b23), .val (.long (((-(own_from p2)).toInt64) + (x30_3.toInt64))), .second, .val (.int x30_3), .val (.int x70_1)] [(.int (1 : Int32))])) _
            exact retN X75 hx (t := .boolean) Bd.returns (by simp) (hb hby at_243) hr
          · show Q0 Z p1 p2 st_LINE_FEED st_CARRIAGE_RETURN_OR_LINE_FEED h0 n0 _ T75.heap _
            rw [e75]
            exact ⟨rfl, N75⟩
    · have hc140_78 : ¬ ((1 : Int32) < (own_rd p2)) := own_r1 hc128_28
      have hc152_79 : ¬ ((2 : Int32) < (own_rd p2)) := own_r2 hc140_78
      obtain ⟨cq80, kq80, q80a, q80b, q80c⟩ := isOf hZ24 rfl f24_0
      obtain ⟨_, _, ⟨T80, L80, k80, n80⟩, -, X80, ⟨Lc80, hQ80, l80, y80, z80⟩, st80⟩ := X24w.virtualBack hx (y := (⟨"querent/hl7/LineReader", "offset", "()J"⟩ : MethodName)) (z := (⟨"querent/hl7/LineReader", "offset", "()J"⟩ : MethodName)) hown24 (mvT hZ24 (hw _ (List.mem_of_getElem? (i := 54) rfl))) (mvT hZ24 (hw _ (List.mem_of_getElem? (i := 55) rfl))) (notFace_of_selects (args := #[]) (mvT hZ24 (hw _ (List.mem_of_getElem? (i := 57) rfl)))) (mvT hZ24 (hw _ (List.mem_of_getElem? (i := 57) rfl))) (mvT hZ24 (hw _ (List.mem_of_getElem? (i := 56) rfl))) (by decide) (backOf (W := 0) (rm7 l Z a0 hw [] b23 ((-(own_from p2)).toInt64) (own_from p2) T24.heap n0 Z24 f24_4 f24_8) hZ24 (hw _ (List.mem_of_getElem? (i := 58) rfl)) (hw _ (List.mem_of_getElem? (i := 10) rfl)) (by decide) (by decide)) q80a q80c (g := (mkF m 163 #[.val (.int p1), .val (.int p2), .val (.ref b3), .val (.int (own_from p2)), .val (.int (own_to p2)), .val (.ref st_LINE_FEED), .val (.int (own_rd p2)), .val (.ref b23), .unset, .unset, .unset, .unset] [(.ref b23)])) rfl (by rw [hml]; rfl) (Steps.refl _) (argsL := []) (rest := []) (lenOf pd_9 rfl) rfl (by show 2 * 0 + _ ≤ _; exact Nat.le_of_eq rfl) (hb hby at_163) (fun _ _ => ⟨rfl, rfl, (by decide : 6 + 0 ≤ _), (by decide : 215 + 0 ≤ _)⟩)
      dsimp only [Pt.U, Pt.locs, Pt.cells, Pt.slots] at X80 l80 y80 z80 st80 hQ80
      subst l80 y80 z80
      obtain ⟨rfl, N80q, e80⟩ := hQ80
      have N80 := Fr.app N24 N80q
      obtain ⟨cq81, kq81, q81a, q81b, q81c⟩ := isOf hZ24 e80 f24_0
      obtain ⟨_, _, ⟨T81, L81, k81, n81⟩, -, X81, ⟨Lc81, hQ81, l81, y81, z81⟩, st81⟩ := X80.virtualBack hx (y := (⟨"querent/hl7/LineReader", "keepFromNext", "()V"⟩ : MethodName)) (z := (⟨"querent/hl7/LineReader", "keepFromNext", "()V"⟩ : MethodName)) hown24 (mvT hZ24 (hw _ (List.mem_of_getElem? (i := 59) rfl))) (mvT hZ24 (hw _ (List.mem_of_getElem? (i := 60) rfl))) (notFace_of_selects (args := #[]) (mvT hZ24 (hw _ (List.mem_of_getElem? (i := 62) rfl)))) (mvT hZ24 (hw _ (List.mem_of_getElem? (i := 62) rfl))) (mvT hZ24 (hw _ (List.mem_of_getElem? (i := 61) rfl))) (by decide) (backOf (W := 0) (rm8 l Z a0 hw [] b23 b3 (F2_carriageReturnEnds_a1 st_LINE_FEED st_CARRIAGE_RETURN_OR_LINE_FEED) ((-(own_from p2)).toInt64) (own_to p2) (own_from p2) (own_from p2) (own_from p2) (0 : Int32) (0 : Int32) (0 : Int32) (0 : Int32) (0 : Int32) T24.heap n0 Z24 f24_0 f24_1 f24_2 f24_3 f24_4 f24_5 f24_6 f24_7 f24_8 f24_9 f24_10 f24_11 f24_12 f24_13 g_b23) hZ24 (hw _ (List.mem_of_getElem? (i := 63) rfl)) (hw _ (List.mem_of_getElem? (i := 10) rfl)) (by decide) (by decide)) q81a q81c (g := (mkF m 170 #[.val (.int p1), .val (.int p2), .val (.ref b3), .val (.int (own_from p2)), .val (.int (own_to p2)), .val (.ref st_LINE_FEED), .val (.int (own_rd p2)), .val (.ref b23), .val (.long (((-(own_from p2)).toInt64) + ((own_from p2).toInt64))), .second, .unset, .unset] [(.ref b23)])) rfl (by rw [hml]; rfl) (Steps.refl _) (argsL := []) (rest := []) (lenOf pd_4 rfl) rfl (by show 2 * 0 + _ ≤ _; exact Nat.le_of_eq rfl) (hb hby at_170) (fun _ _ => ⟨rfl, e80, (by decide : 6 + 0 ≤ _), (by decide : 215 + 0 ≤ _)⟩)
      dsimp only [Pt.U, Pt.locs, Pt.cells, Pt.slots] at X81 l81 y81 z81 st81 hQ81
      subst l81 y81 z81
      obtain ⟨rfl, N81q, K81q, f81_0, f81_1, f81_2, f81_3, f81_4, f81_5, f81_6, f81_7, f81_8, f81_9, f81_10, f81_11, f81_12, f81_13⟩ := hQ81
      have K81 : Keep h0 T81.heap [] := (K24).trans K81q (allS (P := fun x => x ∈ [] ∨ h0.size ≤ x) (Or.inr sz_b23) all0)
      have Z81 : n0 ≤ T81.heap.size := Nat.le_trans Z24 K81q.1
      have N81 := Fr.app N80 N81q
      obtain ⟨cq82, kq82, q82a, q82b, q82c⟩ := isOf hZ24 rfl f81_0
      obtain ⟨_, _, ⟨T82, L82, k82, n82⟩, -, X82, ⟨Lc82, hQ82, l82, y82, z82⟩, st82⟩ := X81.virtualBack hx (y := (⟨"querent/hl7/LineReader", "kept", "()I"⟩ : MethodName)) (z := (⟨"querent/hl7/LineReader", "kept", "()I"⟩ : MethodName)) hown24 (mvT hZ24 (hw _ (List.mem_of_getElem? (i := 68) rfl))) (mvT hZ24 (hw _ (List.mem_of_getElem? (i := 69) rfl))) (notFace_of_selects (args := #[]) (mvT hZ24 (hw _ (List.mem_of_getElem? (i := 71) rfl)))) (mvT hZ24 (hw _ (List.mem_of_getElem? (i := 71) rfl))) (mvT hZ24 (hw _ (List.mem_of_getElem? (i := 70) rfl))) (by decide) (backOf (W := 0) (rm9 l Z a0 hw [] b23 (own_from p2) T81.heap n0 Z81 f81_10) hZ24 (hw _ (List.mem_of_getElem? (i := 72) rfl)) (hw _ (List.mem_of_getElem? (i := 10) rfl)) (by decide) (by decide)) q82a q82c (g := (mkF m 175 #[.val (.int p1), .val (.int p2), .val (.ref b3), .val (.int (own_from p2)), .val (.int (own_to p2)), .val (.ref st_LINE_FEED), .val (.int (own_rd p2)), .val (.ref b23), .val (.long (((-(own_from p2)).toInt64) + ((own_from p2).toInt64))), .second, .unset, .unset] [(.ref b23)])) rfl (by rw [hml]; rfl) (Steps.refl _) (argsL := []) (rest := []) (lenOf pd_10 rfl) rfl (by show 2 * 0 + _ ≤ _; exact Nat.le_of_eq rfl) (hb hby at_175) (fun _ _ => ⟨rfl, rfl, (by decide : 6 + 0 ≤ _), (by decide : 215 + 0 ≤ _)⟩)
      dsimp only [Pt.U, Pt.locs, Pt.cells, Pt.slots] at X82 l82 y82 z82 st82 hQ82
      subst l82 y82 z82
      obtain ⟨rfl, N82q, e82⟩ := hQ82
      have N82 := Fr.app N81 N82q
      have hc189_83 : ((own_from p2).toInt64) = ((((-(own_from p2)).toInt64) + ((own_from p2).toInt64)) + ((own_from p2).toInt64)) := own_off p2 (own_ft p2).1 (own_ft p2).2.1
      obtain ⟨cq84, kq84, q84a, q84b, q84c⟩ := isOf hZ24 e82 f81_0
      obtain ⟨_, _, ⟨T84, L84, k84, n84⟩, -, X84, ⟨Lc84, hQ84, l84, y84, z84⟩, st84⟩ := X82.virtualBack hx (y := (⟨"querent/hl7/LineReader", "next", "()Z"⟩ : MethodName)) (z := (⟨"querent/hl7/LineReader", "next", "()Z"⟩ : MethodName)) hown24 (mvT hZ24 (hw _ (List.mem_of_getElem? (i := 73) rfl))) (mvT hZ24 (hw _ (List.mem_of_getElem? (i := 74) rfl))) (notFace_of_selects (args := #[]) (mvT hZ24 (hw _ (List.mem_of_getElem? (i := 76) rfl)))) (mvT hZ24 (hw _ (List.mem_of_getElem? (i := 76) rfl))) (mvT hZ24 (hw _ (List.mem_of_getElem? (i := 75) rfl))) (by decide) (backOf (W := 0) (rm10 l Z a0 hw [] b23 b3 (F2_carriageReturnEnds_a1 st_LINE_FEED st_CARRIAGE_RETURN_OR_LINE_FEED) ((-(own_from p2)).toInt64) (own_to p2) (own_from p2) (own_from p2) (own_from p2) (1 : Int32) (own_from p2) (0 : Int32) (0 : Int32) (0 : Int32) k3 vl T81.heap n0 Z81 f81_0 f81_1 f81_2 f81_3 f81_4 f81_5 f81_6 f81_7 f81_8 f81_9 f81_10 f81_11 f81_12 f81_13 (y27.keep K81q (ninS ne_b3_b23 nin0)) (show ¬ ((own_from p2) < (0 : Int32)) from (own_ft p2).1) (show ¬ ((own_to p2) < (own_from p2)) from (own_ft p2).2.1) (show ¬ ((6 : Int32) < (own_to p2)) from (own_ft p2).2.2) g_b23 ne_b3_b23) hZ24 (hw _ (List.mem_of_getElem? (i := 77) rfl)) (hw _ (List.mem_of_getElem? (i := 10) rfl)) (by decide) (by decide)) q84a q84c (g := (mkF m 196 #[.val (.int p1), .val (.int p2), .val (.ref b3), .val (.int (own_from p2)), .val (.int (own_to p2)), .val (.ref st_LINE_FEED), .val (.int (own_rd p2)), .val (.ref b23), .val (.long (((-(own_from p2)).toInt64) + ((own_from p2).toInt64))), .second, .val (.int (own_from p2)), .unset] [(.ref b23)])) rfl (by rw [hml]; rfl) (Steps.refl _) (argsL := []) (rest := []) (lenOf pd_3 rfl) rfl (by show 2 * 0 + _ ≤ _; exact Nat.le_of_eq rfl) (hb hby at_196) (fun _ _ => ⟨rfl, e82, (by decide : 6 + 0 ≤ _), (by decide : 215 + 0 ≤ _)⟩)
      dsimp only [Pt.U, Pt.locs, Pt.cells, Pt.slots] at X84 l84 y84 z84 st84 hQ84
      subst l84 y84 z84
      obtain ⟨x84_0, x84_1, x84_2, x84_3, x84_4, x84_5, x84_6, rfl, N84q, K84q, f84_0, f84_1, f84_2, f84_3, f84_4, f84_5, f84_6, f84_7, f84_8, f84_9, f84_10, f84_11, f84_12, f84_13, p84_0, p84_1, p84_2⟩ := hQ84
      have y85 := ((y27.keep K81q (ninS ne_b3_b23 nin0)).keep K84q (ninS ne_b3_b23 nin0))
      have K84 : Keep h0 T84.heap [] := (K81).trans K84q (allS (P := fun x => x ∈ [] ∨ h0.size ≤ x) (Or.inr sz_b23) all0)
      have Z84 : n0 ≤ T84.heap.size := Nat.le_trans Z81 K84q.1
      have N84 := Fr.app N82 N84q
      obtain ⟨cq86, kq86, q86a, q86b, q86c⟩ := isOf hZ24 rfl f84_0
      obtain ⟨_, _, ⟨T86, L86, k86, n86⟩, -, X86, ⟨Lc86, hQ86, l86, y86, z86⟩, st86⟩ := X84.virtualBack hx (y := (⟨"querent/hl7/LineReader", "start", "()I"⟩ : MethodName)) (z := (⟨"querent/hl7/LineReader", "start", "()I"⟩ : MethodName)) hown24 (mvT hZ24 (hw _ (List.mem_of_getElem? (i := 96) rfl))) (mvT hZ24 (hw _ (List.mem_of_getElem? (i := 97) rfl))) (notFace_of_selects (args := #[]) (mvT hZ24 (hw _ (List.mem_of_getElem? (i := 99) rfl)))) (mvT hZ24 (hw _ (List.mem_of_getElem? (i := 99) rfl))) (mvT hZ24 (hw _ (List.mem_of_getElem? (i := 98) rfl))) (by decide) (backOf (W := 0) (rm15 l Z a0 hw [] b23 x84_1 T84.heap n0 Z84 f84_6) hZ24 (hw _ (List.mem_of_getElem? (i := 100) rfl)) (hw _ (List.mem_of_getElem? (i := 10) rfl)) (by decide) (by decide)) q86a q86c (g := (mkF m 202 #[.val (.int p1), .val (.int p2), .val (.ref b3), .val (.int (own_from p2)), .val (.int (own_to p2)), .val (.ref st_LINE_FEED), .val (.int (own_rd p2)), .val (.ref b23), .val (.long (((-(own_from p2)).toInt64) + ((own_from p2).toInt64))), .second, .val (.int (own_from p2)), .unset] [(.ref b23)])) rfl (by rw [hml]; rfl) (Steps.refl _) (argsL := []) (rest := []) (lenOf pd_10 rfl) rfl (by show 2 * 0 + _ ≤ _; exact Nat.le_of_eq rfl) (hb hby at_202) (fun _ _ => ⟨rfl, rfl, (by decide : 6 + 0 ≤ _), (by decide : 215 + 0 ≤ _)⟩)
      dsimp only [Pt.U, Pt.locs, Pt.cells, Pt.slots] at X86 l86 y86 z86 st86 hQ86
      subst l86 y86 z86
      obtain ⟨rfl, N86q, e86⟩ := hQ86
      have N86 := Fr.app N84 N86q
      have pre88 : ∀ t, Steps p.tables e below (T86.setTop (mkF m 211 #[.val (.int p1), .val (.int p2), .val (.ref b3), .val (.int (own_from p2)), .val (.int (own_to p2)), .val (.ref st_LINE_FEED), .val (.int (own_rd p2)), .val (.ref b23), .val (.long (((-(own_from p2)).toInt64) + ((own_from p2).toInt64))), .second, .val (.int (own_from p2)), .val (.int x84_1)] [(.int (own_from p2)), (.int x84_1)])) t → Steps p.tables e below (s₁.setTop (entryFrame m #[(.int p1), (.int p2)] maxLocals)) t := fun t kt => pre29 t (by
        show Steps p.tables e below (T24.setTop (mkF m 128 #[.val (.int p1), .val (.int p2), .val (.ref b3), .val (.int (own_from p2)), .val (.int (own_to p2)), .val (.ref st_LINE_FEED), .val (.int (own_rd p2)), .val (.ref b23), .unset, .unset, .unset, .unset] [(.int (own_rd p2))])) _
        refine XS.ifYes X24w.here hx rfl (pc0 := 128) (pc' := 137) rfl (hb hby at_128) rfl ((if0 _ _).trans (flt hc128_28).2.2.2) (by decide) (by decide) ?_
        show Steps p.tables e below (T24.setTop (mkF m 137 #[.val (.int p1), .val (.int p2), .val (.ref b3), .val (.int (own_from p2)), .val (.int (own_to p2)), .val (.ref st_LINE_FEED), .val (.int (own_rd p2)), .val (.ref b23), .unset, .unset, .unset, .unset] [])) _
        refine XS.iload X24w.here hx rfl (hb hby at_137) rfl ?_
        show Steps p.tables e below (T24.setTop (mkF m 139 #[.val (.int p1), .val (.int p2), .val (.ref b3), .val (.int (own_from p2)), .val (.int (own_to p2)), .val (.ref st_LINE_FEED), .val (.int (own_rd p2)), .val (.ref b23), .unset, .unset, .unset, .unset] [(.int (own_rd p2))])) _
        refine XS.iconst X24w.here hx rfl (hb hby at_139) ?_
        show Steps p.tables e below (T24.setTop (mkF m 140 #[.val (.int p1), .val (.int p2), .val (.ref b3), .val (.int (own_from p2)), .val (.int (own_to p2)), .val (.ref st_LINE_FEED), .val (.int (own_rd p2)), .val (.ref b23), .unset, .unset, .unset, .unset] [(.int (1 : Int32)), (.int (own_rd p2))])) _
        refine XS.icmpYes X24w.here hx rfl (pc0 := 140) (pc' := 149) rfl (hb hby at_140) rfl (flt hc140_78).2.2.2 (by decide) (by decide) ?_
        show Steps p.tables e below (T24.setTop (mkF m 149 #[.val (.int p1), .val (.int p2), .val (.ref b3), .val (.int (own_from p2)), .val (.int (own_to p2)), .val (.ref st_LINE_FEED), .val (.int (own_rd p2)), .val (.ref b23), .unset, .unset, .unset, .unset] [])) _
        refine XS.iload X24w.here hx rfl (hb hby at_149) rfl ?_
        show Steps p.tables e below (T24.setTop (mkF m 151 #[.val (.int p1), .val (.int p2), .val (.ref b3), .val (.int (own_from p2)), .val (.int (own_to p2)), .val (.ref st_LINE_FEED), .val (.int (own_rd p2)), .val (.ref b23), .unset, .unset, .unset, .unset] [(.int (own_rd p2))])) _
        refine XS.iconst X24w.here hx rfl (hb hby at_151) ?_
        show Steps p.tables e below (T24.setTop (mkF m 152 #[.val (.int p1), .val (.int p2), .val (.ref b3), .val (.int (own_from p2)), .val (.int (own_to p2)), .val (.ref st_LINE_FEED), .val (.int (own_rd p2)), .val (.ref b23), .unset, .unset, .unset, .unset] [(.int (2 : Int32)), (.int (own_rd p2))])) _
        refine XS.icmpYes X24w.here hx rfl (pc0 := 152) (pc' := 161) rfl (hb hby at_152) rfl (flt hc152_79).2.2.2 (by decide) (by decide) ?_
        show Steps p.tables e below (T24.setTop (mkF m 161 #[.val (.int p1), .val (.int p2), .val (.ref b3), .val (.int (own_from p2)), .val (.int (own_to p2)), .val (.ref st_LINE_FEED), .val (.int (own_rd p2)), .val (.ref b23), .unset, .unset, .unset, .unset] [])) _
        refine XS.aload X24w.here hx rfl (hb hby at_161) rfl rfl ?_
        show Steps p.tables e below (T24.setTop (mkF m 163 #[.val (.int p1), .val (.int p2), .val (.ref b3), .val (.int (own_from p2)), .val (.int (own_to p2)), .val (.ref st_LINE_FEED), .val (.int (own_rd p2)), .val (.ref b23), .unset, .unset, .unset, .unset] [(.ref b23)])) _
        refine st80.trans ?_
        show Steps p.tables e below (T80.setTop (mkF m 166 #[.val (.int p1), .val (.int p2), .val (.ref b3), .val (.int (own_from p2)), .val (.int (own_to p2)), .val (.ref st_LINE_FEED), .val (.int (own_rd p2)), .val (.ref b23), .unset, .unset, .unset, .unset] [(.long (((-(own_from p2)).toInt64) + ((own_from p2).toInt64)))])) _
        refine XS.lstore X80.here hx rfl (hb hby at_166) rfl (l' := #[.val (.int p1), .val (.int p2), .val (.ref b3), .val (.int (own_from p2)), .val (.int (own_to p2)), .val (.ref st_LINE_FEED), .val (.int (own_rd p2)), .val (.ref b23), .val (.long (((-(own_from p2)).toInt64) + ((own_from p2).toInt64))), .second, .unset, .unset]) rfl ?_
        show Steps p.tables e below (T80.setTop (mkF m 168 #[.val (.int p1), .val (.int p2), .val (.ref b3), .val (.int (own_from p2)), .val (.int (own_to p2)), .val (.ref st_LINE_FEED), .val (.int (own_rd p2)), .val (.ref b23), .val (.long (((-(own_from p2)).toInt64) + ((own_from p2).toInt64))), .second, .unset, .unset] [])) _
        refine XS.aload X80.here hx rfl (hb hby at_168) rfl rfl ?_
        show Steps p.tables e below (T80.setTop (mkF m 170 #[.val (.int p1), .val (.int p2), .val (.ref b3), .val (.int (own_from p2)), .val (.int (own_to p2)), .val (.ref st_LINE_FEED), .val (.int (own_rd p2)), .val (.ref b23), .val (.long (((-(own_from p2)).toInt64) + ((own_from p2).toInt64))), .second, .unset, .unset] [(.ref b23)])) _
        refine st81.trans ?_
        show Steps p.tables e below (T81.setTop (mkF m 173 #[.val (.int p1), .val (.int p2), .val (.ref b3), .val (.int (own_from p2)), .val (.int (own_to p2)), .val (.ref st_LINE_FEED), .val (.int (own_rd p2)), .val (.ref b23), .val (.long (((-(own_from p2)).toInt64) + ((own_from p2).toInt64))), .second, .unset, .unset] [])) _
        refine XS.aload X81.here hx rfl (hb hby at_173) rfl rfl ?_
        show Steps p.tables e below (T81.setTop (mkF m 175 #[.val (.int p1), .val (.int p2), .val (.ref b3), .val (.int (own_from p2)), .val (.int (own_to p2)), .val (.ref st_LINE_FEED), .val (.int (own_rd p2)), .val (.ref b23), .val (.long (((-(own_from p2)).toInt64) + ((own_from p2).toInt64))), .second, .unset, .unset] [(.ref b23)])) _
        refine st82.trans ?_
        show Steps p.tables e below (T82.setTop (mkF m 178 #[.val (.int p1), .val (.int p2), .val (.ref b3), .val (.int (own_from p2)), .val (.int (own_to p2)), .val (.ref st_LINE_FEED), .val (.int (own_rd p2)), .val (.ref b23), .val (.long (((-(own_from p2)).toInt64) + ((own_from p2).toInt64))), .second, .unset, .unset] [(.int (own_from p2))])) _
        refine XS.istore X82.here hx rfl (hb hby at_178) rfl (l' := #[.val (.int p1), .val (.int p2), .val (.ref b3), .val (.int (own_from p2)), .val (.int (own_to p2)), .val (.ref st_LINE_FEED), .val (.int (own_rd p2)), .val (.ref b23), .val (.long (((-(own_from p2)).toInt64) + ((own_from p2).toInt64))), .second, .val (.int (own_from p2)), .unset]) rfl ?_
        show Steps p.tables e below (T82.setTop (mkF m 180 #[.val (.int p1), .val (.int p2), .val (.ref b3), .val (.int (own_from p2)), .val (.int (own_to p2)), .val (.ref st_LINE_FEED), .val (.int (own_rd p2)), .val (.ref b23), .val (.long (((-(own_from p2)).toInt64) + ((own_from p2).toInt64))), .second, .val (.int (own_from p2)), .unset] [])) _
        refine XS.iload X82.here hx rfl (hb hby at_180) rfl ?_
        show Steps p.tables e below (T82.setTop (mkF m 182 #[.val (.int p1), .val (.int p2), .val (.ref b3), .val (.int (own_from p2)), .val (.int (own_to p2)), .val (.ref st_LINE_FEED), .val (.int (own_rd p2)), .val (.ref b23), .val (.long (((-(own_from p2)).toInt64) + ((own_from p2).toInt64))), .second, .val (.int (own_from p2)), .unset] [(.int (own_from p2))])) _
        refine XS.i2l X82.here hx rfl (hb hby at_182) rfl ?_
        show Steps p.tables e below (T82.setTop (mkF m 183 #[.val (.int p1), .val (.int p2), .val (.ref b3), .val (.int (own_from p2)), .val (.int (own_to p2)), .val (.ref st_LINE_FEED), .val (.int (own_rd p2)), .val (.ref b23), .val (.long (((-(own_from p2)).toInt64) + ((own_from p2).toInt64))), .second, .val (.int (own_from p2)), .unset] [(.long ((own_from p2).toInt64))])) _
        refine XS.lload X82.here hx rfl (hb hby at_183) rfl ?_
        show Steps p.tables e below (T82.setTop (mkF m 185 #[.val (.int p1), .val (.int p2), .val (.ref b3), .val (.int (own_from p2)), .val (.int (own_to p2)), .val (.ref st_LINE_FEED), .val (.int (own_rd p2)), .val (.ref b23), .val (.long (((-(own_from p2)).toInt64) + ((own_from p2).toInt64))), .second, .val (.int (own_from p2)), .unset] [(.long (((-(own_from p2)).toInt64) + ((own_from p2).toInt64))), (.long ((own_from p2).toInt64))])) _
        refine XS.iloadN X82.here hx rfl (hb hby at_185) rfl ?_
        show Steps p.tables e below (T82.setTop (mkF m 186 #[.val (.int p1), .val (.int p2), .val (.ref b3), .val (.int (own_from p2)), .val (.int (own_to p2)), .val (.ref st_LINE_FEED), .val (.int (own_rd p2)), .val (.ref b23), .val (.long (((-(own_from p2)).toInt64) + ((own_from p2).toInt64))), .second, .val (.int (own_from p2)), .unset] [(.int (own_from p2)), (.long (((-(own_from p2)).toInt64) + ((own_from p2).toInt64))), (.long ((own_from p2).toInt64))])) _
        refine XS.i2l X82.here hx rfl (hb hby at_186) rfl ?_
        show Steps p.tables e below (T82.setTop (mkF m 187 #[.val (.int p1), .val (.int p2), .val (.ref b3), .val (.int (own_from p2)), .val (.int (own_to p2)), .val (.ref st_LINE_FEED), .val (.int (own_rd p2)), .val (.ref b23), .val (.long (((-(own_from p2)).toInt64) + ((own_from p2).toInt64))), .second, .val (.int (own_from p2)), .unset] [(.long ((own_from p2).toInt64)), (.long (((-(own_from p2)).toInt64) + ((own_from p2).toInt64))), (.long ((own_from p2).toInt64))])) _
        refine XS.ladd X82.here hx rfl (hb hby at_187) rfl ?_
        show Steps p.tables e below (T82.setTop (mkF m 188 #[.val (.int p1), .val (.int p2), .val (.ref b3), .val (.int (own_from p2)), .val (.int (own_to p2)), .val (.ref st_LINE_FEED), .val (.int (own_rd p2)), .val (.ref b23), .val (.long (((-(own_from p2)).toInt64) + ((own_from p2).toInt64))), .second, .val (.int (own_from p2)), .unset] [(.long ((((-(own_from p2)).toInt64) + ((own_from p2).toInt64)) + ((own_from p2).toInt64))), (.long ((own_from p2).toInt64))])) _
        refine XS.lcmp X82.here hx rfl (hb hby at_188) rfl ?_
        show Steps p.tables e below (T82.setTop (mkF m 189 #[.val (.int p1), .val (.int p2), .val (.ref b3), .val (.int (own_from p2)), .val (.int (own_to p2)), .val (.ref st_LINE_FEED), .val (.int (own_rd p2)), .val (.ref b23), .val (.long (((-(own_from p2)).toInt64) + ((own_from p2).toInt64))), .second, .val (.int (own_from p2)), .unset] [(.int (lcmpW ((own_from p2).toInt64) ((((-(own_from p2)).toInt64) + ((own_from p2).toInt64)) + ((own_from p2).toInt64))))])) _
        refine XS.ifYes X82.here hx rfl (pc0 := 189) (pc' := 194) rfl (hb hby at_189) rfl ((if0 _ _).trans (teq ((lw_eq ((own_from p2).toInt64) ((((-(own_from p2)).toInt64) + ((own_from p2).toInt64)) + ((own_from p2).toInt64))).mpr hc189_83)).1) (by decide) (by decide) ?_
        show Steps p.tables e below (T82.setTop (mkF m 194 #[.val (.int p1), .val (.int p2), .val (.ref b3), .val (.int (own_from p2)), .val (.int (own_to p2)), .val (.ref st_LINE_FEED), .val (.int (own_rd p2)), .val (.ref b23), .val (.long (((-(own_from p2)).toInt64) + ((own_from p2).toInt64))), .second, .val (.int (own_from p2)), .unset] [])) _
        refine XS.aload X82.here hx rfl (hb hby at_194) rfl rfl ?_
        show Steps p.tables e below (T82.setTop (mkF m 196 #[.val (.int p1), .val (.int p2), .val (.ref b3), .val (.int (own_from p2)), .val (.int (own_to p2)), .val (.ref st_LINE_FEED), .val (.int (own_rd p2)), .val (.ref b23), .val (.long (((-(own_from p2)).toInt64) + ((own_from p2).toInt64))), .second, .val (.int (own_from p2)), .unset] [(.ref b23)])) _
        refine st84.trans ?_
        show Steps p.tables e below (T84.setTop (mkF m 199 #[.val (.int p1), .val (.int p2), .val (.ref b3), .val (.int (own_from p2)), .val (.int (own_to p2)), .val (.ref st_LINE_FEED), .val (.int (own_rd p2)), .val (.ref b23), .val (.long (((-(own_from p2)).toInt64) + ((own_from p2).toInt64))), .second, .val (.int (own_from p2)), .unset] [(.int x84_0)])) _
        refine XS.pop X84.here hx rfl (hb hby at_199) rfl rfl ?_
        show Steps p.tables e below (T84.setTop (mkF m 200 #[.val (.int p1), .val (.int p2), .val (.ref b3), .val (.int (own_from p2)), .val (.int (own_to p2)), .val (.ref st_LINE_FEED), .val (.int (own_rd p2)), .val (.ref b23), .val (.long (((-(own_from p2)).toInt64) + ((own_from p2).toInt64))), .second, .val (.int (own_from p2)), .unset] [])) _
        refine XS.aload X84.here hx rfl (hb hby at_200) rfl rfl ?_
        show Steps p.tables e below (T84.setTop (mkF m 202 #[.val (.int p1), .val (.int p2), .val (.ref b3), .val (.int (own_from p2)), .val (.int (own_to p2)), .val (.ref st_LINE_FEED), .val (.int (own_rd p2)), .val (.ref b23), .val (.long (((-(own_from p2)).toInt64) + ((own_from p2).toInt64))), .second, .val (.int (own_from p2)), .unset] [(.ref b23)])) _
        refine st86.trans ?_
        show Steps p.tables e below (T86.setTop (mkF m 205 #[.val (.int p1), .val (.int p2), .val (.ref b3), .val (.int (own_from p2)), .val (.int (own_to p2)), .val (.ref st_LINE_FEED), .val (.int (own_rd p2)), .val (.ref b23), .val (.long (((-(own_from p2)).toInt64) + ((own_from p2).toInt64))), .second, .val (.int (own_from p2)), .unset] [(.int x84_1)])) _
        refine XS.istore X86.here hx rfl (hb hby at_205) rfl (l' := #[.val (.int p1), .val (.int p2), .val (.ref b3), .val (.int (own_from p2)), .val (.int (own_to p2)), .val (.ref st_LINE_FEED), .val (.int (own_rd p2)), .val (.ref b23), .val (.long (((-(own_from p2)).toInt64) + ((own_from p2).toInt64))), .second, .val (.int (own_from p2)), .val (.int x84_1)]) rfl ?_
        show Steps p.tables e below (T86.setTop (mkF m 207 #[.val (.int p1), .val (.int p2), .val (.ref b3), .val (.int (own_from p2)), .val (.int (own_to p2)), .val (.ref st_LINE_FEED), .val (.int (own_rd p2)), .val (.ref b23), .val (.long (((-(own_from p2)).toInt64) + ((own_from p2).toInt64))), .second, .val (.int (own_from p2)), .val (.int x84_1)] [])) _
        refine XS.iload X86.here hx rfl (hb hby at_207) rfl ?_
        show Steps p.tables e below (T86.setTop (mkF m 209 #[.val (.int p1), .val (.int p2), .val (.ref b3), .val (.int (own_from p2)), .val (.int (own_to p2)), .val (.ref st_LINE_FEED), .val (.int (own_rd p2)), .val (.ref b23), .val (.long (((-(own_from p2)).toInt64) + ((own_from p2).toInt64))), .second, .val (.int (own_from p2)), .val (.int x84_1)] [(.int x84_1)])) _
        refine XS.iload X86.here hx rfl (hb hby at_209) rfl ?_
        show Steps p.tables e below (T86.setTop (mkF m 211 #[.val (.int p1), .val (.int p2), .val (.ref b3), .val (.int (own_from p2)), .val (.int (own_to p2)), .val (.ref st_LINE_FEED), .val (.int (own_rd p2)), .val (.ref b23), .val (.long (((-(own_from p2)).toInt64) + ((own_from p2).toInt64))), .second, .val (.int (own_from p2)), .val (.int x84_1)] [(.int (own_from p2)), (.int x84_1)])) _
        exact kt)
      by_cases hc211_87 : x84_1 = (own_from p2)
      · obtain ⟨fs, hr, hrun, hended, hEW⟩ := X86.leaveW hS24 (by rw [e86]; exact (Nat.le_trans (Nat.le_trans (Nat.le_refl _) K81q.1) K84q.1)) (v := some (.int (1 : Int32))) (fun h => by rw [Bd.returns] at h; cases h)
        refine ⟨_, _, pre88 _ ?_, hrun, hended, _, _, rfl, ?_, ⟨_, rfl⟩, hEW.2.1, hEW.2.2.1, hEW.2.2.2.mono (by decide) (by decide)⟩
        · show Steps p.tables e below (T86.setTop (mkF m 211 #[.val (.int p1), .val (.int p2), .val (.ref b3), .val (.int (own_from p2)), .val (.int (own_to p2)), .val (.ref st_LINE_FEED), .val (.int (own_rd p2)), .val (.ref b23), .val (.long (((-(own_from p2)).toInt64) + ((own_from p2).toInt64))), .second, .val (.int (own_from p2)), .val (.int x84_1)] [(.int (own_from p2)), (.int x84_1)])) _
          refine XS.icmpNo X86.here hx rfl (hb hby at_211) rfl (teq hc211_87).2 ?_
          show Steps p.tables e below (T86.setTop (mkF m 214 #[.val (.int p1), .val (.int p2), .val (.ref b3), .val (.int (own_from p2)), .val (.int (own_to p2)), .val (.ref st_LINE_FEED), .val (.int (own_rd p2)), .val (.ref b23), .val (.long (((-(own_from p2)).toInt64) + ((own_from p2).toInt64))), .second, .val (.int (own_from p2)), .val (.int x84_1)] [])) _
          refine XS.iconst X86.here hx rfl (hb hby at_214) ?_
          show Steps p.tables e below (T86.setTop (mkF m 215 #[.val (.int p1), .val (.int p2), .val (.ref b3), .val (.int (own_from p2)), .val (.int (own_to p2)), .val (.ref st_LINE_FEED), .val (.int (own_rd p2)), .val (.ref b23), .val (.long (((-(own_from p2)).toInt64) + ((own_from p2).toInt64))), .second, .val (.int (own_from p2)), .val (.int x84_1)] [(.int (1 : Int32))])) _
          exact retN X86 hx (t := .boolean) Bd.returns (by simp) (hb hby at_215) hr
        · show Q0 Z p1 p2 st_LINE_FEED st_CARRIAGE_RETURN_OR_LINE_FEED h0 n0 _ T86.heap _
          rw [e86]
          exact ⟨rfl, N86⟩
      · have hc222_89 : x84_1 = ((own_from p2) + (1 : Int32)) := (own_dj p84_0 hc211_87).1
        obtain ⟨cq90, kq90, q90a, q90b, q90c⟩ := isOf hZ24 e86 f84_0
        obtain ⟨_, _, ⟨T90, L90, k90, n90⟩, -, X90, ⟨Lc90, hQ90, l90, y90, z90⟩, st90⟩ := X86.virtualBack hx (y := (⟨"querent/hl7/LineReader", "bytes", "()[B"⟩ : MethodName)) (z := (⟨"querent/hl7/LineReader", "bytes", "()[B"⟩ : MethodName)) hown24 (mvT hZ24 (hw _ (List.mem_of_getElem? (i := 114) rfl))) (mvT hZ24 (hw _ (List.mem_of_getElem? (i := 115) rfl))) (notFace_of_selects (args := #[]) (mvT hZ24 (hw _ (List.mem_of_getElem? (i := 117) rfl)))) (mvT hZ24 (hw _ (List.mem_of_getElem? (i := 117) rfl))) (mvT hZ24 (hw _ (List.mem_of_getElem? (i := 116) rfl))) (by decide) (backOf (W := 0) (rm18 l Z a0 hw [] b23 b3 T84.heap n0 Z84 f84_2) hZ24 (hw _ (List.mem_of_getElem? (i := 118) rfl)) (hw _ (List.mem_of_getElem? (i := 10) rfl)) (by decide) (by decide)) q90a q90c (g := (mkF m 227 #[.val (.int p1), .val (.int p2), .val (.ref b3), .val (.int (own_from p2)), .val (.int (own_to p2)), .val (.ref st_LINE_FEED), .val (.int (own_rd p2)), .val (.ref b23), .val (.long (((-(own_from p2)).toInt64) + ((own_from p2).toInt64))), .second, .val (.int (own_from p2)), .val (.int x84_1)] [(.ref b23)])) rfl (by rw [hml]; rfl) (Steps.refl _) (argsL := []) (rest := []) (lenOf pd_11 rfl) rfl (by show 2 * 0 + _ ≤ _; exact Nat.le_of_eq rfl) (hb hby at_227) (fun _ _ => ⟨rfl, e86, (by decide : 6 + 0 ≤ _), (by decide : 215 + 0 ≤ _)⟩)
        dsimp only [Pt.U, Pt.locs, Pt.cells, Pt.slots] at X90 l90 y90 z90 st90 hQ90
        subst l90 y90 z90
        obtain ⟨rfl, N90q, e90⟩ := hQ90
        have N90 := Fr.app N86 N90q
        obtain ⟨cl91, Ar91, qq91, S91, NN91, HH91, GG91⟩ := id y85
        have hin91 : ¬ ((own_from p2) < 0 ∨ cl91.slots.size ≤ ((own_from p2)).toNatClampNeg) := inb_of S91 ⟨(show ¬ ((own_from p2) < (0 : Int32)) from (own_ft p2).1), (show (own_from p2) < (6 : Int32) from own_lt6 (own_dj p84_0 hc211_87).2.2 (own_ft p2).2.2)⟩
        have hat91 : cl91.slots[((own_from p2)).toNatClampNeg]? = some (.int (own_at vl (own_from p2))) := Has.at HH91 hin91 (own_atv vl (own_from p2))
        have hc235_92 : (own_at vl (own_from p2)) = (10 : Int32) := (own_dj p84_0 hc211_87).2.1
        obtain ⟨fs, hr, hrun, hended, hEW⟩ := X90.leaveW hS24 (by rw [e90]; exact (Nat.le_trans (Nat.le_trans (Nat.le_refl _) K81q.1) K84q.1)) (v := some (.int (1 : Int32))) (fun h => by rw [Bd.returns] at h; cases h)
        refine ⟨_, _, pre88 _ ?_, hrun, hended, _, _, rfl, ?_, ⟨_, rfl⟩, hEW.2.1, hEW.2.2.1, hEW.2.2.2.mono (by decide) (by decide)⟩
        · show Steps p.tables e below (T86.setTop (mkF m 211 #[.val (.int p1), .val (.int p2), .val (.ref b3), .val (.int (own_from p2)), .val (.int (own_to p2)), .val (.ref st_LINE_FEED), .val (.int (own_rd p2)), .val (.ref b23), .val (.long (((-(own_from p2)).toInt64) + ((own_from p2).toInt64))), .second, .val (.int (own_from p2)), .val (.int x84_1)] [(.int (own_from p2)), (.int x84_1)])) _
          refine XS.icmpYes X86.here hx rfl (pc0 := 211) (pc' := 216) rfl (hb hby at_211) rfl (feq hc211_87).2 (by decide) (by decide) ?_
          show Steps p.tables e below (T86.setTop (mkF m 216 #[.val (.int p1), .val (.int p2), .val (.ref b3), .val (.int (own_from p2)), .val (.int (own_to p2)), .val (.ref st_LINE_FEED), .val (.int (own_rd p2)), .val (.ref b23), .val (.long (((-(own_from p2)).toInt64) + ((own_from p2).toInt64))), .second, .val (.int (own_from p2)), .val (.int x84_1)] [])) _
          refine XS.iload X86.here hx rfl (hb hby at_216) rfl ?_
          show Steps p.tables e below (T86.setTop (mkF m 218 #[.val (.int p1), .val (.int p2), .val (.ref b3), .val (.int (own_from p2)), .val (.int (own_to p2)), .val (.ref st_LINE_FEED), .val (.int (own_rd p2)), .val (.ref b23), .val (.long (((-(own_from p2)).toInt64) + ((own_from p2).toInt64))), .second, .val (.int (own_from p2)), .val (.int x84_1)] [(.int x84_1)])) _
          refine XS.iload X86.here hx rfl (hb hby at_218) rfl ?_
          show Steps p.tables e below (T86.setTop (mkF m 220 #[.val (.int p1), .val (.int p2), .val (.ref b3), .val (.int (own_from p2)), .val (.int (own_to p2)), .val (.ref st_LINE_FEED), .val (.int (own_rd p2)), .val (.ref b23), .val (.long (((-(own_from p2)).toInt64) + ((own_from p2).toInt64))), .second, .val (.int (own_from p2)), .val (.int x84_1)] [(.int (own_from p2)), (.int x84_1)])) _
          refine XS.iconst X86.here hx rfl (hb hby at_220) ?_
          show Steps p.tables e below (T86.setTop (mkF m 221 #[.val (.int p1), .val (.int p2), .val (.ref b3), .val (.int (own_from p2)), .val (.int (own_to p2)), .val (.ref st_LINE_FEED), .val (.int (own_rd p2)), .val (.ref b23), .val (.long (((-(own_from p2)).toInt64) + ((own_from p2).toInt64))), .second, .val (.int (own_from p2)), .val (.int x84_1)] [(.int (1 : Int32)), (.int (own_from p2)), (.int x84_1)])) _
          refine XS.iadd X86.here hx rfl (hb hby at_221) rfl ?_
          show Steps p.tables e below (T86.setTop (mkF m 222 #[.val (.int p1), .val (.int p2), .val (.ref b3), .val (.int (own_from p2)), .val (.int (own_to p2)), .val (.ref st_LINE_FEED), .val (.int (own_rd p2)), .val (.ref b23), .val (.long (((-(own_from p2)).toInt64) + ((own_from p2).toInt64))), .second, .val (.int (own_from p2)), .val (.int x84_1)] [(.int ((own_from p2) + (1 : Int32))), (.int x84_1)])) _
          refine XS.icmpNo X86.here hx rfl (hb hby at_222) rfl (teq hc222_89).2 ?_
          show Steps p.tables e below (T86.setTop (mkF m 225 #[.val (.int p1), .val (.int p2), .val (.ref b3), .val (.int (own_from p2)), .val (.int (own_to p2)), .val (.ref st_LINE_FEED), .val (.int (own_rd p2)), .val (.ref b23), .val (.long (((-(own_from p2)).toInt64) + ((own_from p2).toInt64))), .second, .val (.int (own_from p2)), .val (.int x84_1)] [])) _
          refine XS.aload X86.here hx rfl (hb hby at_225) rfl rfl ?_
          show Steps p.tables e below (T86.setTop (mkF m 227 #[.val (.int p1), .val (.int p2), .val (.ref b3), .val (.int (own_from p2)), .val (.int (own_to p2)), .val (.ref st_LINE_FEED), .val (.int (own_rd p2)), .val (.ref b23), .val (.long (((-(own_from p2)).toInt64) + ((own_from p2).toInt64))), .second, .val (.int (own_from p2)), .val (.int x84_1)] [(.ref b23)])) _
          refine st90.trans ?_
          show Steps p.tables e below (T90.setTop (mkF m 230 #[.val (.int p1), .val (.int p2), .val (.ref b3), .val (.int (own_from p2)), .val (.int (own_to p2)), .val (.ref st_LINE_FEED), .val (.int (own_rd p2)), .val (.ref b23), .val (.long (((-(own_from p2)).toInt64) + ((own_from p2).toInt64))), .second, .val (.int (own_from p2)), .val (.int x84_1)] [(.ref b3)])) _
          refine XS.iload X90.here hx rfl (hb hby at_230) rfl ?_
          show Steps p.tables e below (T90.setTop (mkF m 232 #[.val (.int p1), .val (.int p2), .val (.ref b3), .val (.int (own_from p2)), .val (.int (own_to p2)), .val (.ref st_LINE_FEED), .val (.int (own_rd p2)), .val (.ref b23), .val (.long (((-(own_from p2)).toInt64) + ((own_from p2).toInt64))), .second, .val (.int (own_from p2)), .val (.int x84_1)] [(.int (own_from p2)), (.ref b3)])) _
          refine X90.baloadBytes hx (j := (own_from p2)) (v := (.int (own_at vl (own_from p2)))) (by rw [e90]; exact Ar91.1) (State.isArrayOf_alike hZ24.alike Ar91.2.1) Ar91.2.2 hin91 hat91 (g := (mkF m 232 #[.val (.int p1), .val (.int p2), .val (.ref b3), .val (.int (own_from p2)), .val (.int (own_to p2)), .val (.ref st_LINE_FEED), .val (.int (own_rd p2)), .val (.ref b23), .val (.long (((-(own_from p2)).toInt64) + ((own_from p2).toInt64))), .second, .val (.int (own_from p2)), .val (.int x84_1)] [(.int (own_from p2)), (.ref b3)])) rfl rfl (hb hby at_232) _ ?_
          show Steps p.tables e below (T90.setTop (mkF m 233 #[.val (.int p1), .val (.int p2), .val (.ref b3), .val (.int (own_from p2)), .val (.int (own_to p2)), .val (.ref st_LINE_FEED), .val (.int (own_rd p2)), .val (.ref b23), .val (.long (((-(own_from p2)).toInt64) + ((own_from p2).toInt64))), .second, .val (.int (own_from p2)), .val (.int x84_1)] [(.int (own_at vl (own_from p2)))])) _
          refine XS.bipush X90.here hx rfl (hb hby at_233) ?_
          show Steps p.tables e below (T90.setTop (mkF m 235 #[.val (.int p1), .val (.int p2), .val (.ref b3), .val (.int (own_from p2)), .val (.int (own_to p2)), .val (.ref st_LINE_FEED), .val (.int (own_rd p2)), .val (.ref b23), .val (.long (((-(own_from p2)).toInt64) + ((own_from p2).toInt64))), .second, .val (.int (own_from p2)), .val (.int x84_1)] [(.int (10 : Int32)), (.int (own_at vl (own_from p2)))])) _
          refine XS.icmpNo X90.here hx rfl (hb hby at_235) rfl (teq hc235_92).2 ?_
          show Steps p.tables e below (T90.setTop (mkF m 238 #[.val (.int p1), .val (.int p2), .val (.ref b3), .val (.int (own_from p2)), .val (.int (own_to p2)), .val (.ref st_LINE_FEED), .val (.int (own_rd p2)), .val (.ref b23), .val (.long (((-(own_from p2)).toInt64) + ((own_from p2).toInt64))), .second, .val (.int (own_from p2)), .val (.int x84_1)] [])) _
          refine XS.iconst X90.here hx rfl (hb hby at_238) ?_
          show Steps p.tables e below (T90.setTop (mkF m 239 #[.val (.int p1), .val (.int p2), .val (.ref b3), .val (.int (own_from p2)), .val (.int (own_to p2)), .val (.ref st_LINE_FEED), .val (.int (own_rd p2)), .val (.ref b23), .val (.long (((-(own_from p2)).toInt64) + ((own_from p2).toInt64))), .second, .val (.int (own_from p2)), .val (.int x84_1)] [(.int (1 : Int32))])) _
          refine XS.goto X90.here hx rfl (pc0 := 239) (pc' := 243) rfl (hb hby at_239) (by decide) (by decide) ?_
          show Steps p.tables e below (T90.setTop (mkF m 243 #[.val (.int p1), .val (.int p2), .val (.ref b3), .val (.int (own_from p2)), .val (.int (own_to p2)), .val (.ref st_LINE_FEED), .val (.int (own_rd p2)), .val (.ref b23), .val (.long (((-(own_from p2)).toInt64) + ((own_from p2).toInt64))), .second, .val (.int (own_from p2)), .val (.int x84_1)] [(.int (1 : Int32))])) _
          exact retN X90 hx (t := .boolean) Bd.returns (by simp) (hb hby at_243) hr
        · show Q0 Z p1 p2 st_LINE_FEED st_CARRIAGE_RETURN_OR_LINE_FEED h0 n0 _ T90.heap _
          rw [e90]
          exact ⟨rfl, N90⟩
  · obtain ⟨T93, X93, e93, st93⟩ := getS2 X17 hx hZ hown (host := "") (Or.inl (hw _ (List.mem_of_getElem? (i := 109) rfl))) Via.refl e17 y18 (g := (mkF m 98 #[.val (.int p1), .val (.int p2), .val (.ref b3), .val (.int (own_from p2)), .val (.int (own_to p2)), .unset, .unset, .unset, .unset, .unset, .unset, .unset] [])) rfl (hb hby at_98)
    obtain ⟨T94, h94, X94, e94, E94, A94, D94, -, st94⟩ := newO X93 hx hZ hown (hw _ (List.mem_of_getElem? (i := 8) rfl)) (hw _ (List.mem_of_getElem? (i := 9) rfl)) (hw _ (List.mem_of_getElem? (i := 10) rfl)) e93 (g := (mkF m 111 #[.val (.int p1), .val (.int p2), .val (.ref b3), .val (.int (own_from p2)), .val (.int (own_to p2)), .val (.ref st_CARRIAGE_RETURN_OR_LINE_FEED), .val (.int (own_rd p2)), .unset, .unset, .unset, .unset, .unset] [])) rfl (hb hby at_111) (by decide) (by decide)
    obtain ⟨b94, g94⟩ : ∃ z, z = h17.size := ⟨_, rfl⟩
    rw [← g94] at A94 D94 st94
    have ne_b3_b94 : b3 ≠ b94 := Nat.ne_of_lt (Nat.lt_of_lt_of_le Vl.lt (Nat.le_of_eq g94.symm))
    have g_b94 : n0 ≤ b94 := Nat.le_trans Z17 (Nat.le_of_eq g94.symm)
    have sz_b94 : h0.size ≤ b94 := Nat.le_trans (K17).1 (Nat.le_of_eq g94.symm)
    have K94 : Keep h0 h94 [] := (K17).ext E94
    have Z94 : n0 ≤ h94.size := Nat.le_trans Z17 E94.1
    have F_in_b94 : Fld Z h94 b94 "querent/hl7/LineReader" "in" "Ljava/io/InputStream;" .null := D94 (Or.inr (hw _ (List.mem_of_getElem? (i := 37) rfl))) (ty := (.object "java/io/InputStream")) (by decide)
    have F_block_b94 : Fld Z h94 b94 "querent/hl7/LineReader" "block" "[B" .null := D94 (Or.inl (hw _ (List.mem_of_getElem? (i := 39) rfl))) (ty := (.array .byte)) (by decide)
    have F_carriageReturnEnds_b94 : Fld Z h94 b94 "querent/hl7/LineReader" "carriageReturnEnds" "Z" (.int (0 : Int32)) := D94 (Or.inr (hw _ (List.mem_of_getElem? (i := 43) rfl))) (ty := .boolean) (by decide)
    have F_base_b94 : Fld Z h94 b94 "querent/hl7/LineReader" "base" "J" (.long (0 : Int64)) := D94 (Or.inl (hw _ (List.mem_of_getElem? (i := 45) rfl))) (ty := .long) (by decide)
    have F_limit_b94 : Fld Z h94 b94 "querent/hl7/LineReader" "limit" "I" (.int (0 : Int32)) := D94 (Or.inl (hw _ (List.mem_of_getElem? (i := 47) rfl))) (ty := .int) (by decide)
    have F_start_b94 : Fld Z h94 b94 "querent/hl7/LineReader" "start" "I" (.int (0 : Int32)) := D94 (Or.inl (hw _ (List.mem_of_getElem? (i := 49) rfl))) (ty := .int) (by decide)
    have F_end_b94 : Fld Z h94 b94 "querent/hl7/LineReader" "end" "I" (.int (0 : Int32)) := D94 (Or.inl (hw _ (List.mem_of_getElem? (i := 51) rfl))) (ty := .int) (by decide)
    have F_next_b94 : Fld Z h94 b94 "querent/hl7/LineReader" "next" "I" (.int (0 : Int32)) := D94 (Or.inl (hw _ (List.mem_of_getElem? (i := 53) rfl))) (ty := .int) (by decide)
    have F_keeping_b94 : Fld Z h94 b94 "querent/hl7/LineReader" "keeping" "Z" (.int (0 : Int32)) := D94 (Or.inl (hw _ (List.mem_of_getElem? (i := 65) rfl))) (ty := .boolean) (by decide)
    have F_kept_b94 : Fld Z h94 b94 "querent/hl7/LineReader" "kept" "I" (.int (0 : Int32)) := D94 (Or.inl (hw _ (List.mem_of_getElem? (i := 67) rfl))) (ty := .int) (by decide)
    have F_ended_b94 : Fld Z h94 b94 "querent/hl7/LineReader" "ended" "Z" (.int (0 : Int32)) := D94 (Or.inl (hw _ (List.mem_of_getElem? (i := 95) rfl))) (ty := .boolean) (by decide)
    have F_afterCarriageReturn_b94 : Fld Z h94 b94 "querent/hl7/LineReader" "afterCarriageReturn" "Z" (.int (0 : Int32)) := D94 (Or.inl (hw _ (List.mem_of_getElem? (i := 102) rfl))) (ty := .boolean) (by decide)
    have F_number_b94 : Fld Z h94 b94 "querent/hl7/LineReader" "number" "I" (.int (0 : Int32)) := D94 (Or.inl (hw _ (List.mem_of_getElem? (i := 104) rfl))) (ty := .int) (by decide)
    obtain ⟨_, _, ⟨T95, L95, k95, n95⟩, -, X95, hS95q, hgr95, ⟨Lc95, hQ95, l95, y95, z95⟩, st95⟩ := X94.specialBackS hx (y := (⟨"querent/hl7/LineReader", "<init>", "([BIILquerent/hl7/LineReader$Ends;)V"⟩ : MethodName)) rfl hown (mvT hZ (hw _ (List.mem_of_getElem? (i := 11) rfl))) (mvT hZ (hw _ (List.mem_of_getElem? (i := 12) rfl))) (mvT hZ (hw _ (List.mem_of_getElem? (i := 13) rfl))) (by decide) (backOfS (W := 1) (rm2 l Z a0 hw [] b94 b3 (own_from p2) (own_to p2) st_CARRIAGE_RETURN_OR_LINE_FEED (0 : Int32) (0 : Int64) (0 : Int32) (0 : Int32) (0 : Int32) (0 : Int32) (0 : Int32) (0 : Int32) (0 : Int32) (0 : Int32) (0 : Int32) k3 vl st_CARRIAGE_RETURN_OR_LINE_FEED h94 n0 Z94 A94 F_in_b94 F_block_b94 F_carriageReturnEnds_b94 F_base_b94 F_limit_b94 F_start_b94 F_end_b94 F_next_b94 F_keeping_b94 F_kept_b94 F_ended_b94 F_afterCarriageReturn_b94 F_number_b94 (Vl.ext E94) (y18.ext E94) (show ¬ ((own_from p2) < (0 : Int32)) from (own_ft p2).1) (show ¬ ((own_to p2) < (own_from p2)) from (own_ft p2).2.1) (show ¬ ((6 : Int32) < (own_to p2)) from (own_ft p2).2.2) g_b94 ne_b3_b94) hZ (hw _ (List.mem_of_getElem? (i := 13) rfl)) (hw _ (List.mem_of_getElem? (i := 10) rfl)) (by decide) (by decide)) (g := (mkF m 121 #[.val (.int p1), .val (.int p2), .val (.ref b3), .val (.int (own_from p2)), .val (.int (own_to p2)), .val (.ref st_CARRIAGE_RETURN_OR_LINE_FEED), .val (.int (own_rd p2)), .unset, .unset, .unset, .unset, .unset] [(.ref st_CARRIAGE_RETURN_OR_LINE_FEED), (.int (own_to p2)), (.int (own_from p2)), (.ref b3), (.ref b94), (.ref b94)])) rfl (by rw [hml]; rfl) (Steps.refl _) (a := b94) (argsL := [(.ref b3), (.int (own_from p2)), (.int (own_to p2)), (.ref st_CARRIAGE_RETURN_OR_LINE_FEED)]) (rest := [(.ref b94)]) (lenOf pd_8 rfl) rfl (by show 2 * 0 + _ ≤ _; exact Nat.le_of_eq rfl) (hb hby at_121) (fun _ _ => ⟨rfl, e94, (by decide : 2 + 4 ≤ _), (by decide : 19 + 196 ≤ _)⟩)
    dsimp only [Pt.U, Pt.locs, Pt.cells, Pt.slots] at X95 l95 y95 z95 st95 hQ95 hS95q hgr95
    subst l95 y95 z95
    have X95w := X95
    have hS95 := hS95q
    have hZ95 : Z.Warmed39 (s.setVm T95.vm).vm := State.Warmed39.trans hZ hS95.1
    have hown95 : (s.setVm T95.vm).vm.findClass "querent/hl7/LineReaderKeepFromNextPinLaw" = some m.cls := (hS95.1.alike.findClass _ _).trans hown
    obtain ⟨rfl, N95q, K95q, f95_0, f95_1, f95_2, f95_3, f95_4, f95_5, f95_6, f95_7, f95_8, f95_9, f95_10, f95_11, f95_12, f95_13⟩ := hQ95
    have y96 := (own_StaKeep ((((y11.wr W13).wr W15).wr W17).ext E94) K95q (allS (P := fun x => ∃ D, Exa Z h94 x D) ⟨_, A94⟩ all0))
    have y97 := (own_StaKeep (y18.ext E94) K95q (allS (P := fun x => ∃ D, Exa Z h94 x D) ⟨_, A94⟩ all0))
    have y98 := ((Vl.ext E94).keep K95q (ninS ne_b3_b94 nin0))
    have K95 : Keep h0 T95.heap [] := (K94).trans K95q (allS (P := fun x => x ∈ [] ∨ h0.size ≤ x) (Or.inr sz_b94) all0)
    have Z95 : n0 ≤ T95.heap.size := Nat.le_trans Z94 K95q.1
    have N95 := Fr.app N17 N95q
    have pre100 : ∀ t, Steps p.tables e below (T95.setTop (mkF m 128 #[.val (.int p1), .val (.int p2), .val (.ref b3), .val (.int (own_from p2)), .val (.int (own_to p2)), .val (.ref st_CARRIAGE_RETURN_OR_LINE_FEED), .val (.int (own_rd p2)), .val (.ref b94), .unset, .unset, .unset, .unset] [(.int (own_rd p2))])) t → Steps p.tables e below (s₁.setTop (entryFrame m #[(.int p1), (.int p2)] maxLocals)) t := fun t kt => pre21 t (by
      show Steps p.tables e below (T17.setTop (mkF m 89 #[.val (.int p1), .val (.int p2), .val (.ref b3), .val (.int (own_from p2)), .val (.int (own_to p2)), .unset, .unset, .unset, .unset, .unset, .unset, .unset] [(.int (((p2.toUInt32 >>> ((6 : Int32) &&& 31).toUInt32).toInt32) &&& (1 : Int32)))])) _
      refine XS.ifYes X17.here hx rfl (pc0 := 89) (pc' := 98) rfl (hb hby at_89) rfl ((if0 _ _).trans (feq hc89_20).2) (by decide) (by decide) ?_
      show Steps p.tables e below (T17.setTop (mkF m 98 #[.val (.int p1), .val (.int p2), .val (.ref b3), .val (.int (own_from p2)), .val (.int (own_to p2)), .unset, .unset, .unset, .unset, .unset, .unset, .unset] [])) _
      refine st93 _ ?_
      show Steps p.tables e below (T93.setTop (mkF m 101 #[.val (.int p1), .val (.int p2), .val (.ref b3), .val (.int (own_from p2)), .val (.int (own_to p2)), .unset, .unset, .unset, .unset, .unset, .unset, .unset] [(.ref st_CARRIAGE_RETURN_OR_LINE_FEED)])) _
      refine XS.astore X93.here hx rfl (hb hby at_101) rfl rfl (l' := #[.val (.int p1), .val (.int p2), .val (.ref b3), .val (.int (own_from p2)), .val (.int (own_to p2)), .val (.ref st_CARRIAGE_RETURN_OR_LINE_FEED), .unset, .unset, .unset, .unset, .unset, .unset]) rfl ?_
      show Steps p.tables e below (T93.setTop (mkF m 103 #[.val (.int p1), .val (.int p2), .val (.ref b3), .val (.int (own_from p2)), .val (.int (own_to p2)), .val (.ref st_CARRIAGE_RETURN_OR_LINE_FEED), .unset, .unset, .unset, .unset, .unset, .unset] [])) _
      refine XS.iloadN X93.here hx rfl (hb hby at_103) rfl ?_
      show Steps p.tables e below (T93.setTop (mkF m 104 #[.val (.int p1), .val (.int p2), .val (.ref b3), .val (.int (own_from p2)), .val (.int (own_to p2)), .val (.ref st_CARRIAGE_RETURN_OR_LINE_FEED), .unset, .unset, .unset, .unset, .unset, .unset] [(.int p2)])) _
      refine XS.bipush X93.here hx rfl (hb hby at_104) ?_
      show Steps p.tables e below (T93.setTop (mkF m 106 #[.val (.int p1), .val (.int p2), .val (.ref b3), .val (.int (own_from p2)), .val (.int (own_to p2)), .val (.ref st_CARRIAGE_RETURN_OR_LINE_FEED), .unset, .unset, .unset, .unset, .unset, .unset] [(.int (7 : Int32)), (.int p2)])) _
      refine XS.iushr X93.here hx rfl (hb hby at_106) rfl ?_
      show Steps p.tables e below (T93.setTop (mkF m 107 #[.val (.int p1), .val (.int p2), .val (.ref b3), .val (.int (own_from p2)), .val (.int (own_to p2)), .val (.ref st_CARRIAGE_RETURN_OR_LINE_FEED), .unset, .unset, .unset, .unset, .unset, .unset] [(.int ((p2.toUInt32 >>> ((7 : Int32) &&& 31).toUInt32).toInt32))])) _
      refine XS.iconst X93.here hx rfl (hb hby at_107) ?_
      show Steps p.tables e below (T93.setTop (mkF m 108 #[.val (.int p1), .val (.int p2), .val (.ref b3), .val (.int (own_from p2)), .val (.int (own_to p2)), .val (.ref st_CARRIAGE_RETURN_OR_LINE_FEED), .unset, .unset, .unset, .unset, .unset, .unset] [(.int (3 : Int32)), (.int ((p2.toUInt32 >>> ((7 : Int32) &&& 31).toUInt32).toInt32))])) _
      refine XS.iand X93.here hx rfl (hb hby at_108) rfl ?_
      show Steps p.tables e below (T93.setTop (mkF m 109 #[.val (.int p1), .val (.int p2), .val (.ref b3), .val (.int (own_from p2)), .val (.int (own_to p2)), .val (.ref st_CARRIAGE_RETURN_OR_LINE_FEED), .unset, .unset, .unset, .unset, .unset, .unset] [(.int (((p2.toUInt32 >>> ((7 : Int32) &&& 31).toUInt32).toInt32) &&& (3 : Int32)))])) _
      refine XS.istore X93.here hx rfl (hb hby at_109) rfl (l' := #[.val (.int p1), .val (.int p2), .val (.ref b3), .val (.int (own_from p2)), .val (.int (own_to p2)), .val (.ref st_CARRIAGE_RETURN_OR_LINE_FEED), .val (.int (own_rd p2)), .unset, .unset, .unset, .unset, .unset]) rfl ?_
      show Steps p.tables e below (T93.setTop (mkF m 111 #[.val (.int p1), .val (.int p2), .val (.ref b3), .val (.int (own_from p2)), .val (.int (own_to p2)), .val (.ref st_CARRIAGE_RETURN_OR_LINE_FEED), .val (.int (own_rd p2)), .unset, .unset, .unset, .unset, .unset] [])) _
      refine st94 _ ?_
      show Steps p.tables e below (T94.setTop (mkF m 114 #[.val (.int p1), .val (.int p2), .val (.ref b3), .val (.int (own_from p2)), .val (.int (own_to p2)), .val (.ref st_CARRIAGE_RETURN_OR_LINE_FEED), .val (.int (own_rd p2)), .unset, .unset, .unset, .unset, .unset] [(.ref b94)])) _
      refine XS.dup X94.here hx rfl (hb hby at_114) rfl rfl ?_
      show Steps p.tables e below (T94.setTop (mkF m 115 #[.val (.int p1), .val (.int p2), .val (.ref b3), .val (.int (own_from p2)), .val (.int (own_to p2)), .val (.ref st_CARRIAGE_RETURN_OR_LINE_FEED), .val (.int (own_rd p2)), .unset, .unset, .unset, .unset, .unset] [(.ref b94), (.ref b94)])) _
      refine XS.aloadN X94.here hx rfl (hb hby at_115) rfl rfl ?_
      show Steps p.tables e below (T94.setTop (mkF m 116 #[.val (.int p1), .val (.int p2), .val (.ref b3), .val (.int (own_from p2)), .val (.int (own_to p2)), .val (.ref st_CARRIAGE_RETURN_OR_LINE_FEED), .val (.int (own_rd p2)), .unset, .unset, .unset, .unset, .unset] [(.ref b3), (.ref b94), (.ref b94)])) _
      refine XS.iloadN X94.here hx rfl (hb hby at_116) rfl ?_
      show Steps p.tables e below (T94.setTop (mkF m 117 #[.val (.int p1), .val (.int p2), .val (.ref b3), .val (.int (own_from p2)), .val (.int (own_to p2)), .val (.ref st_CARRIAGE_RETURN_OR_LINE_FEED), .val (.int (own_rd p2)), .unset, .unset, .unset, .unset, .unset] [(.int (own_from p2)), (.ref b3), (.ref b94), (.ref b94)])) _
      refine XS.iload X94.here hx rfl (hb hby at_117) rfl ?_
      show Steps p.tables e below (T94.setTop (mkF m 119 #[.val (.int p1), .val (.int p2), .val (.ref b3), .val (.int (own_from p2)), .val (.int (own_to p2)), .val (.ref st_CARRIAGE_RETURN_OR_LINE_FEED), .val (.int (own_rd p2)), .unset, .unset, .unset, .unset, .unset] [(.int (own_to p2)), (.int (own_from p2)), (.ref b3), (.ref b94), (.ref b94)])) _
      refine XS.aload X94.here hx rfl (hb hby at_119) rfl rfl ?_
      show Steps p.tables e below (T94.setTop (mkF m 121 #[.val (.int p1), .val (.int p2), .val (.ref b3), .val (.int (own_from p2)), .val (.int (own_to p2)), .val (.ref st_CARRIAGE_RETURN_OR_LINE_FEED), .val (.int (own_rd p2)), .unset, .unset, .unset, .unset, .unset] [(.ref st_CARRIAGE_RETURN_OR_LINE_FEED), (.int (own_to p2)), (.int (own_from p2)), (.ref b3), (.ref b94), (.ref b94)])) _
      refine st95.trans ?_
      show Steps p.tables e below (T95.setTop (mkF m 124 #[.val (.int p1), .val (.int p2), .val (.ref b3), .val (.int (own_from p2)), .val (.int (own_to p2)), .val (.ref st_CARRIAGE_RETURN_OR_LINE_FEED), .val (.int (own_rd p2)), .unset, .unset, .unset, .unset, .unset] [(.ref b94)])) _
      refine XS.astore X95w.here hx rfl (hb hby at_124) rfl rfl (l' := #[.val (.int p1), .val (.int p2), .val (.ref b3), .val (.int (own_from p2)), .val (.int (own_to p2)), .val (.ref st_CARRIAGE_RETURN_OR_LINE_FEED), .val (.int (own_rd p2)), .val (.ref b94), .unset, .unset, .unset, .unset]) rfl ?_
      show Steps p.tables e below (T95.setTop (mkF m 126 #[.val (.int p1), .val (.int p2), .val (.ref b3), .val (.int (own_from p2)), .val (.int (own_to p2)), .val (.ref st_CARRIAGE_RETURN_OR_LINE_FEED), .val (.int (own_rd p2)), .val (.ref b94), .unset, .unset, .unset, .unset] [])) _
      refine XS.iload X95w.here hx rfl (hb hby at_126) rfl ?_
      show Steps p.tables e below (T95.setTop (mkF m 128 #[.val (.int p1), .val (.int p2), .val (.ref b3), .val (.int (own_from p2)), .val (.int (own_to p2)), .val (.ref st_CARRIAGE_RETURN_OR_LINE_FEED), .val (.int (own_rd p2)), .val (.ref b94), .unset, .unset, .unset, .unset] [(.int (own_rd p2))])) _
      exact kt)
    by_cases hc128_99 : (0 : Int32) < (own_rd p2)
    · obtain ⟨cq101, kq101, q101a, q101b, q101c⟩ := isOf hZ95 rfl f95_0
      obtain ⟨_, _, ⟨T101, L101, k101, n101⟩, -, X101, ⟨Lc101, hQ101, l101, y101, z101⟩, st101⟩ := X95w.virtualBack hx (y := (⟨"querent/hl7/LineReader", "next", "()Z"⟩ : MethodName)) (z := (⟨"querent/hl7/LineReader", "next", "()Z"⟩ : MethodName)) hown95 (mvT hZ95 (hw _ (List.mem_of_getElem? (i := 73) rfl))) (mvT hZ95 (hw _ (List.mem_of_getElem? (i := 74) rfl))) (notFace_of_selects (args := #[]) (mvT hZ95 (hw _ (List.mem_of_getElem? (i := 76) rfl)))) (mvT hZ95 (hw _ (List.mem_of_getElem? (i := 76) rfl))) (mvT hZ95 (hw _ (List.mem_of_getElem? (i := 75) rfl))) (by decide) (backOf (W := 0) (rm10 l Z a0 hw [] b94 b3 (F2_carriageReturnEnds_a1 st_CARRIAGE_RETURN_OR_LINE_FEED st_CARRIAGE_RETURN_OR_LINE_FEED) ((-(own_from p2)).toInt64) (own_to p2) (own_from p2) (own_from p2) (own_from p2) (0 : Int32) (0 : Int32) (0 : Int32) (0 : Int32) (0 : Int32) k3 vl T95.heap n0 Z95 f95_0 f95_1 f95_2 f95_3 f95_4 f95_5 f95_6 f95_7 f95_8 f95_9 f95_10 f95_11 f95_12 f95_13 y98 (show ¬ ((own_from p2) < (0 : Int32)) from (own_ft p2).1) (show ¬ ((own_to p2) < (own_from p2)) from (own_ft p2).2.1) (show ¬ ((6 : Int32) < (own_to p2)) from (own_ft p2).2.2) g_b94 ne_b3_b94) hZ95 (hw _ (List.mem_of_getElem? (i := 77) rfl)) (hw _ (List.mem_of_getElem? (i := 10) rfl)) (by decide) (by decide)) q101a q101c (g := (mkF m 133 #[.val (.int p1), .val (.int p2), .val (.ref b3), .val (.int (own_from p2)), .val (.int (own_to p2)), .val (.ref st_CARRIAGE_RETURN_OR_LINE_FEED), .val (.int (own_rd p2)), .val (.ref b94), .unset, .unset, .unset, .unset] [(.ref b94)])) rfl (by rw [hml]; rfl) (Steps.refl _) (argsL := []) (rest := []) (lenOf pd_3 rfl) rfl (by show 2 * 0 + _ ≤ _; exact Nat.le_of_eq rfl) (hb hby at_133) (fun _ _ => ⟨rfl, rfl, (by decide : 6 + 0 ≤ _), (by decide : 215 + 0 ≤ _)⟩)
      dsimp only [Pt.U, Pt.locs, Pt.cells, Pt.slots] at X101 l101 y101 z101 st101 hQ101
      subst l101 y101 z101
      obtain ⟨x101_0, x101_1, x101_2, x101_3, x101_4, x101_5, x101_6, rfl, N101q, K101q, f101_0, f101_1, f101_2, f101_3, f101_4, f101_5, f101_6, f101_7, f101_8, f101_9, f101_10, f101_11, f101_12, f101_13, p101_0, p101_1, p101_2⟩ := hQ101
      have K101 : Keep h0 T101.heap [] := (K95).trans K101q (allS (P := fun x => x ∈ [] ∨ h0.size ≤ x) (Or.inr sz_b94) all0)
      have Z101 : n0 ≤ T101.heap.size := Nat.le_trans Z95 K101q.1
      have N101 := Fr.app N95 N101q
      have pre103 : ∀ t, Steps p.tables e below (T101.setTop (mkF m 140 #[.val (.int p1), .val (.int p2), .val (.ref b3), .val (.int (own_from p2)), .val (.int (own_to p2)), .val (.ref st_CARRIAGE_RETURN_OR_LINE_FEED), .val (.int (own_rd p2)), .val (.ref b94), .unset, .unset, .unset, .unset] [(.int (1 : Int32)), (.int (own_rd p2))])) t → Steps p.tables e below (s₁.setTop (entryFrame m #[(.int p1), (.int p2)] maxLocals)) t := fun t kt => pre100 t (by
        show Steps p.tables e below (T95.setTop (mkF m 128 #[.val (.int p1), .val (.int p2), .val (.ref b3), .val (.int (own_from p2)), .val (.int (own_to p2)), .val (.ref st_CARRIAGE_RETURN_OR_LINE_FEED), .val (.int (own_rd p2)), .val (.ref b94), .unset, .unset, .unset, .unset] [(.int (own_rd p2))])) _
        refine XS.ifNo X95w.here hx rfl (hb hby at_128) rfl ((if0 _ _).trans (tlt hc128_99).2.2.2) ?_
        show Steps p.tables e below (T95.setTop (mkF m 131 #[.val (.int p1), .val (.int p2), .val (.ref b3), .val (.int (own_from p2)), .val (.int (own_to p2)), .val (.ref st_CARRIAGE_RETURN_OR_LINE_FEED), .val (.int (own_rd p2)), .val (.ref b94), .unset, .unset, .unset, .unset] [])) _
        refine XS.aload X95w.here hx rfl (hb hby at_131) rfl rfl ?_
        show Steps p.tables e below (T95.setTop (mkF m 133 #[.val (.int p1), .val (.int p2), .val (.ref b3), .val (.int (own_from p2)), .val (.int (own_to p2)), .val (.ref st_CARRIAGE_RETURN_OR_LINE_FEED), .val (.int (own_rd p2)), .val (.ref b94), .unset, .unset, .unset, .unset] [(.ref b94)])) _
        refine st101.trans ?_
        show Steps p.tables e below (T101.setTop (mkF m 136 #[.val (.int p1), .val (.int p2), .val (.ref b3), .val (.int (own_from p2)), .val (.int (own_to p2)), .val (.ref st_CARRIAGE_RETURN_OR_LINE_FEED), .val (.int (own_rd p2)), .val (.ref b94), .unset, .unset, .unset, .unset] [(.int x101_0)])) _
        refine XS.pop X101.here hx rfl (hb hby at_136) rfl rfl ?_
        show Steps p.tables e below (T101.setTop (mkF m 137 #[.val (.int p1), .val (.int p2), .val (.ref b3), .val (.int (own_from p2)), .val (.int (own_to p2)), .val (.ref st_CARRIAGE_RETURN_OR_LINE_FEED), .val (.int (own_rd p2)), .val (.ref b94), .unset, .unset, .unset, .unset] [])) _
        refine XS.iload X101.here hx rfl (hb hby at_137) rfl ?_
        show Steps p.tables e below (T101.setTop (mkF m 139 #[.val (.int p1), .val (.int p2), .val (.ref b3), .val (.int (own_from p2)), .val (.int (own_to p2)), .val (.ref st_CARRIAGE_RETURN_OR_LINE_FEED), .val (.int (own_rd p2)), .val (.ref b94), .unset, .unset, .unset, .unset] [(.int (own_rd p2))])) _
        refine XS.iconst X101.here hx rfl (hb hby at_139) ?_
        show Steps p.tables e below (T101.setTop (mkF m 140 #[.val (.int p1), .val (.int p2), .val (.ref b3), .val (.int (own_from p2)), .val (.int (own_to p2)), .val (.ref st_CARRIAGE_RETURN_OR_LINE_FEED), .val (.int (own_rd p2)), .val (.ref b94), .unset, .unset, .unset, .unset] [(.int (1 : Int32)), (.int (own_rd p2))])) _
        exact kt)
      by_cases hc140_102 : (1 : Int32) < (own_rd p2)
      · obtain ⟨cq104, kq104, q104a, q104b, q104c⟩ := isOf hZ95 rfl f101_0
        obtain ⟨_, _, ⟨T104, L104, k104, n104⟩, -, X104, ⟨Lc104, hQ104, l104, y104, z104⟩, st104⟩ := X101.virtualBack hx (y := (⟨"querent/hl7/LineReader", "next", "()Z"⟩ : MethodName)) (z := (⟨"querent/hl7/LineReader", "next", "()Z"⟩ : MethodName)) hown95 (mvT hZ95 (hw _ (List.mem_of_getElem? (i := 73) rfl))) (mvT hZ95 (hw _ (List.mem_of_getElem? (i := 74) rfl))) (notFace_of_selects (args := #[]) (mvT hZ95 (hw _ (List.mem_of_getElem? (i := 76) rfl)))) (mvT hZ95 (hw _ (List.mem_of_getElem? (i := 76) rfl))) (mvT hZ95 (hw _ (List.mem_of_getElem? (i := 75) rfl))) (by decide) (backOf (W := 0) (rm10 l Z a0 hw [] b94 b3 (F2_carriageReturnEnds_a1 st_CARRIAGE_RETURN_OR_LINE_FEED st_CARRIAGE_RETURN_OR_LINE_FEED) ((-(own_from p2)).toInt64) (own_to p2) x101_1 x101_2 x101_3 (0 : Int32) (0 : Int32) x101_4 x101_5 x101_6 k3 vl T101.heap n0 Z101 f101_0 f101_1 f101_2 f101_3 f101_4 f101_5 f101_6 f101_7 f101_8 f101_9 f101_10 f101_11 f101_12 f101_13 (y98.keep K101q (ninS ne_b3_b94 nin0)) p101_1 p101_2 (show ¬ ((6 : Int32) < (own_to p2)) from (own_ft p2).2.2) g_b94 ne_b3_b94) hZ95 (hw _ (List.mem_of_getElem? (i := 77) rfl)) (hw _ (List.mem_of_getElem? (i := 10) rfl)) (by decide) (by decide)) q104a q104c (g := (mkF m 145 #[.val (.int p1), .val (.int p2), .val (.ref b3), .val (.int (own_from p2)), .val (.int (own_to p2)), .val (.ref st_CARRIAGE_RETURN_OR_LINE_FEED), .val (.int (own_rd p2)), .val (.ref b94), .unset, .unset, .unset, .unset] [(.ref b94)])) rfl (by rw [hml]; rfl) (Steps.refl _) (argsL := []) (rest := []) (lenOf pd_3 rfl) rfl (by show 2 * 0 + _ ≤ _; exact Nat.le_of_eq rfl) (hb hby at_145) (fun _ _ => ⟨rfl, rfl, (by decide : 6 + 0 ≤ _), (by decide : 215 + 0 ≤ _)⟩)
        dsimp only [Pt.U, Pt.locs, Pt.cells, Pt.slots] at X104 l104 y104 z104 st104 hQ104
        subst l104 y104 z104
        obtain ⟨x104_0, x104_1, x104_2, x104_3, x104_4, x104_5, x104_6, rfl, N104q, K104q, f104_0, f104_1, f104_2, f104_3, f104_4, f104_5, f104_6, f104_7, f104_8, f104_9, f104_10, f104_11, f104_12, f104_13, p104_0, p104_1, p104_2⟩ := hQ104
        have y105 := ((y98.keep K101q (ninS ne_b3_b94 nin0)).keep K104q (ninS ne_b3_b94 nin0))
        have K104 : Keep h0 T104.heap [] := (K101).trans K104q (allS (P := fun x => x ∈ [] ∨ h0.size ≤ x) (Or.inr sz_b94) all0)
        have Z104 : n0 ≤ T104.heap.size := Nat.le_trans Z101 K104q.1
        have N104 := Fr.app N101 N104q
        have pre107 : ∀ t, Steps p.tables e below (T104.setTop (mkF m 152 #[.val (.int p1), .val (.int p2), .val (.ref b3), .val (.int (own_from p2)), .val (.int (own_to p2)), .val (.ref st_CARRIAGE_RETURN_OR_LINE_FEED), .val (.int (own_rd p2)), .val (.ref b94), .unset, .unset, .unset, .unset] [(.int (2 : Int32)), (.int (own_rd p2))])) t → Steps p.tables e below (s₁.setTop (entryFrame m #[(.int p1), (.int p2)] maxLocals)) t := fun t kt => pre103 t (by
          show Steps p.tables e below (T101.setTop (mkF m 140 #[.val (.int p1), .val (.int p2), .val (.ref b3), .val (.int (own_from p2)), .val (.int (own_to p2)), .val (.ref st_CARRIAGE_RETURN_OR_LINE_FEED), .val (.int (own_rd p2)), .val (.ref b94), .unset, .unset, .unset, .unset] [(.int (1 : Int32)), (.int (own_rd p2))])) _
          refine XS.icmpNo X101.here hx rfl (hb hby at_140) rfl (tlt hc140_102).2.2.2 ?_
          show Steps p.tables e below (T101.setTop (mkF m 143 #[.val (.int p1), .val (.int p2), .val (.ref b3), .val (.int (own_from p2)), .val (.int (own_to p2)), .val (.ref st_CARRIAGE_RETURN_OR_LINE_FEED), .val (.int (own_rd p2)), .val (.ref b94), .unset, .unset, .unset, .unset] [])) _
          refine XS.aload X101.here hx rfl (hb hby at_143) rfl rfl ?_
          show Steps p.tables e below (T101.setTop (mkF m 145 #[.val (.int p1), .val (.int p2), .val (.ref b3), .val (.int (own_from p2)), .val (.int (own_to p2)), .val (.ref st_CARRIAGE_RETURN_OR_LINE_FEED), .val (.int (own_rd p2)), .val (.ref b94), .unset, .unset, .unset, .unset] [(.ref b94)])) _
          refine st104.trans ?_
          show Steps p.tables e below (T104.setTop (mkF m 148 #[.val (.int p1), .val (.int p2), .val (.ref b3), .val (.int (own_from p2)), .val (.int (own_to p2)), .val (.ref st_CARRIAGE_RETURN_OR_LINE_FEED), .val (.int (own_rd p2)), .val (.ref b94), .unset, .unset, .unset, .unset] [(.int x104_0)])) _
          refine XS.pop X104.here hx rfl (hb hby at_148) rfl rfl ?_
          show Steps p.tables e below (T104.setTop (mkF m 149 #[.val (.int p1), .val (.int p2), .val (.ref b3), .val (.int (own_from p2)), .val (.int (own_to p2)), .val (.ref st_CARRIAGE_RETURN_OR_LINE_FEED), .val (.int (own_rd p2)), .val (.ref b94), .unset, .unset, .unset, .unset] [])) _
          refine XS.iload X104.here hx rfl (hb hby at_149) rfl ?_
          show Steps p.tables e below (T104.setTop (mkF m 151 #[.val (.int p1), .val (.int p2), .val (.ref b3), .val (.int (own_from p2)), .val (.int (own_to p2)), .val (.ref st_CARRIAGE_RETURN_OR_LINE_FEED), .val (.int (own_rd p2)), .val (.ref b94), .unset, .unset, .unset, .unset] [(.int (own_rd p2))])) _
          refine XS.iconst X104.here hx rfl (hb hby at_151) ?_
          show Steps p.tables e below (T104.setTop (mkF m 152 #[.val (.int p1), .val (.int p2), .val (.ref b3), .val (.int (own_from p2)), .val (.int (own_to p2)), .val (.ref st_CARRIAGE_RETURN_OR_LINE_FEED), .val (.int (own_rd p2)), .val (.ref b94), .unset, .unset, .unset, .unset] [(.int (2 : Int32)), (.int (own_rd p2))])) _
          exact kt)
        by_cases hc152_106 : (2 : Int32) < (own_rd p2)
        · obtain ⟨cq108, kq108, q108a, q108b, q108c⟩ := isOf hZ95 rfl f104_0
          obtain ⟨_, _, ⟨T108, L108, k108, n108⟩, -, X108, ⟨Lc108, hQ108, l108, y108, z108⟩, st108⟩ := X104.virtualBack hx (y := (⟨"querent/hl7/LineReader", "next", "()Z"⟩ : MethodName)) (z := (⟨"querent/hl7/LineReader", "next", "()Z"⟩ : MethodName)) hown95 (mvT hZ95 (hw _ (List.mem_of_getElem? (i := 73) rfl))) (mvT hZ95 (hw _ (List.mem_of_getElem? (i := 74) rfl))) (notFace_of_selects (args := #[]) (mvT hZ95 (hw _ (List.mem_of_getElem? (i := 76) rfl)))) (mvT hZ95 (hw _ (List.mem_of_getElem? (i := 76) rfl))) (mvT hZ95 (hw _ (List.mem_of_getElem? (i := 75) rfl))) (by decide) (backOf (W := 0) (rm10 l Z a0 hw [] b94 b3 (F2_carriageReturnEnds_a1 st_CARRIAGE_RETURN_OR_LINE_FEED st_CARRIAGE_RETURN_OR_LINE_FEED) ((-(own_from p2)).toInt64) (own_to p2) x104_1 x104_2 x104_3 (0 : Int32) (0 : Int32) x104_4 x104_5 x104_6 k3 vl T104.heap n0 Z104 f104_0 f104_1 f104_2 f104_3 f104_4 f104_5 f104_6 f104_7 f104_8 f104_9 f104_10 f104_11 f104_12 f104_13 y105 p104_1 p104_2 (show ¬ ((6 : Int32) < (own_to p2)) from (own_ft p2).2.2) g_b94 ne_b3_b94) hZ95 (hw _ (List.mem_of_getElem? (i := 77) rfl)) (hw _ (List.mem_of_getElem? (i := 10) rfl)) (by decide) (by decide)) q108a q108c (g := (mkF m 157 #[.val (.int p1), .val (.int p2), .val (.ref b3), .val (.int (own_from p2)), .val (.int (own_to p2)), .val (.ref st_CARRIAGE_RETURN_OR_LINE_FEED), .val (.int (own_rd p2)), .val (.ref b94), .unset, .unset, .unset, .unset] [(.ref b94)])) rfl (by rw [hml]; rfl) (Steps.refl _) (argsL := []) (rest := []) (lenOf pd_3 rfl) rfl (by show 2 * 0 + _ ≤ _; exact Nat.le_of_eq rfl) (hb hby at_157) (fun _ _ => ⟨rfl, rfl, (by decide : 6 + 0 ≤ _), (by decide : 215 + 0 ≤ _)⟩)
          dsimp only [Pt.U, Pt.locs, Pt.cells, Pt.slots] at X108 l108 y108 z108 st108 hQ108
          subst l108 y108 z108
          obtain ⟨x108_0, x108_1, x108_2, x108_3, x108_4, x108_5, x108_6, rfl, N108q, K108q, f108_0, f108_1, f108_2, f108_3, f108_4, f108_5, f108_6, f108_7, f108_8, f108_9, f108_10, f108_11, f108_12, f108_13, p108_0, p108_1, p108_2⟩ := hQ108
          have K108 : Keep h0 T108.heap [] := (K104).trans K108q (allS (P := fun x => x ∈ [] ∨ h0.size ≤ x) (Or.inr sz_b94) all0)
          have Z108 : n0 ≤ T108.heap.size := Nat.le_trans Z104 K108q.1
          have N108 := Fr.app N104 N108q
          obtain ⟨cq109, kq109, q109a, q109b, q109c⟩ := isOf hZ95 rfl f108_0
          obtain ⟨_, _, ⟨T109, L109, k109, n109⟩, -, X109, ⟨Lc109, hQ109, l109, y109, z109⟩, st109⟩ := X108.virtualBack hx (y := (⟨"querent/hl7/LineReader", "offset", "()J"⟩ : MethodName)) (z := (⟨"querent/hl7/LineReader", "offset", "()J"⟩ : MethodName)) hown95 (mvT hZ95 (hw _ (List.mem_of_getElem? (i := 54) rfl))) (mvT hZ95 (hw _ (List.mem_of_getElem? (i := 55) rfl))) (notFace_of_selects (args := #[]) (mvT hZ95 (hw _ (List.mem_of_getElem? (i := 57) rfl)))) (mvT hZ95 (hw _ (List.mem_of_getElem? (i := 57) rfl))) (mvT hZ95 (hw _ (List.mem_of_getElem? (i := 56) rfl))) (by decide) (backOf (W := 0) (rm7 l Z a0 hw [] b94 ((-(own_from p2)).toInt64) x108_3 T108.heap n0 Z108 f108_4 f108_8) hZ95 (hw _ (List.mem_of_getElem? (i := 58) rfl)) (hw _ (List.mem_of_getElem? (i := 10) rfl)) (by decide) (by decide)) q109a q109c (g := (mkF m 163 #[.val (.int p1), .val (.int p2), .val (.ref b3), .val (.int (own_from p2)), .val (.int (own_to p2)), .val (.ref st_CARRIAGE_RETURN_OR_LINE_FEED), .val (.int (own_rd p2)), .val (.ref b94), .unset, .unset, .unset, .unset] [(.ref b94)])) rfl (by rw [hml]; rfl) (Steps.refl _) (argsL := []) (rest := []) (lenOf pd_9 rfl) rfl (by show 2 * 0 + _ ≤ _; exact Nat.le_of_eq rfl) (hb hby at_163) (fun _ _ => ⟨rfl, rfl, (by decide : 6 + 0 ≤ _), (by decide : 215 + 0 ≤ _)⟩)
          dsimp only [Pt.U, Pt.locs, Pt.cells, Pt.slots] at X109 l109 y109 z109 st109 hQ109
          subst l109 y109 z109
          obtain ⟨rfl, N109q, e109⟩ := hQ109
          have N109 := Fr.app N108 N109q
          obtain ⟨cq110, kq110, q110a, q110b, q110c⟩ := isOf hZ95 e109 f108_0
          obtain ⟨_, _, ⟨T110, L110, k110, n110⟩, -, X110, ⟨Lc110, hQ110, l110, y110, z110⟩, st110⟩ := X109.virtualBack hx (y := (⟨"querent/hl7/LineReader", "keepFromNext", "()V"⟩ : MethodName)) (z := (⟨"querent/hl7/LineReader", "keepFromNext", "()V"⟩ : MethodName)) hown95 (mvT hZ95 (hw _ (List.mem_of_getElem? (i := 59) rfl))) (mvT hZ95 (hw _ (List.mem_of_getElem? (i := 60) rfl))) (notFace_of_selects (args := #[]) (mvT hZ95 (hw _ (List.mem_of_getElem? (i := 62) rfl)))) (mvT hZ95 (hw _ (List.mem_of_getElem? (i := 62) rfl))) (mvT hZ95 (hw _ (List.mem_of_getElem? (i := 61) rfl))) (by decide) (backOf (W := 0) (rm8 l Z a0 hw [] b94 b3 (F2_carriageReturnEnds_a1 st_CARRIAGE_RETURN_OR_LINE_FEED st_CARRIAGE_RETURN_OR_LINE_FEED) ((-(own_from p2)).toInt64) (own_to p2) x108_1 x108_2 x108_3 (0 : Int32) (0 : Int32) x108_4 x108_5 x108_6 T108.heap n0 Z108 f108_0 f108_1 f108_2 f108_3 f108_4 f108_5 f108_6 f108_7 f108_8 f108_9 f108_10 f108_11 f108_12 f108_13 g_b94) hZ95 (hw _ (List.mem_of_getElem? (i := 63) rfl)) (hw _ (List.mem_of_getElem? (i := 10) rfl)) (by decide) (by decide)) q110a q110c (g := (mkF m 170 #[.val (.int p1), .val (.int p2), .val (.ref b3), .val (.int (own_from p2)), .val (.int (own_to p2)), .val (.ref st_CARRIAGE_RETURN_OR_LINE_FEED), .val (.int (own_rd p2)), .val (.ref b94), .val (.long (((-(own_from p2)).toInt64) + (x108_3.toInt64))), .second, .unset, .unset] [(.ref b94)])) rfl (by rw [hml]; rfl) (Steps.refl _) (argsL := []) (rest := []) (lenOf pd_4 rfl) rfl (by show 2 * 0 + _ ≤ _; exact Nat.le_of_eq rfl) (hb hby at_170) (fun _ _ => ⟨rfl, e109, (by decide : 6 + 0 ≤ _), (by decide : 215 + 0 ≤ _)⟩)
          dsimp only [Pt.U, Pt.locs, Pt.cells, Pt.slots] at X110 l110 y110 z110 st110 hQ110
          subst l110 y110 z110
          obtain ⟨rfl, N110q, K110q, f110_0, f110_1, f110_2, f110_3, f110_4, f110_5, f110_6, f110_7, f110_8, f110_9, f110_10, f110_11, f110_12, f110_13⟩ := hQ110
          have y111 := ((y105.keep K108q (ninS ne_b3_b94 nin0)).keep K110q (ninS ne_b3_b94 nin0))
          have K110 : Keep h0 T110.heap [] := (K108).trans K110q (allS (P := fun x => x ∈ [] ∨ h0.size ≤ x) (Or.inr sz_b94) all0)
          have Z110 : n0 ≤ T110.heap.size := Nat.le_trans Z108 K110q.1
          have N110 := Fr.app N109 N110q
          obtain ⟨cq112, kq112, q112a, q112b, q112c⟩ := isOf hZ95 rfl f110_0
          obtain ⟨_, _, ⟨T112, L112, k112, n112⟩, -, X112, ⟨Lc112, hQ112, l112, y112, z112⟩, st112⟩ := X110.virtualBack hx (y := (⟨"querent/hl7/LineReader", "kept", "()I"⟩ : MethodName)) (z := (⟨"querent/hl7/LineReader", "kept", "()I"⟩ : MethodName)) hown95 (mvT hZ95 (hw _ (List.mem_of_getElem? (i := 68) rfl))) (mvT hZ95 (hw _ (List.mem_of_getElem? (i := 69) rfl))) (notFace_of_selects (args := #[]) (mvT hZ95 (hw _ (List.mem_of_getElem? (i := 71) rfl)))) (mvT hZ95 (hw _ (List.mem_of_getElem? (i := 71) rfl))) (mvT hZ95 (hw _ (List.mem_of_getElem? (i := 70) rfl))) (by decide) (backOf (W := 0) (rm9 l Z a0 hw [] b94 x108_3 T110.heap n0 Z110 f110_10) hZ95 (hw _ (List.mem_of_getElem? (i := 72) rfl)) (hw _ (List.mem_of_getElem? (i := 10) rfl)) (by decide) (by decide)) q112a q112c (g := (mkF m 175 #[.val (.int p1), .val (.int p2), .val (.ref b3), .val (.int (own_from p2)), .val (.int (own_to p2)), .val (.ref st_CARRIAGE_RETURN_OR_LINE_FEED), .val (.int (own_rd p2)), .val (.ref b94), .val (.long (((-(own_from p2)).toInt64) + (x108_3.toInt64))), .second, .unset, .unset] [(.ref b94)])) rfl (by rw [hml]; rfl) (Steps.refl _) (argsL := []) (rest := []) (lenOf pd_10 rfl) rfl (by show 2 * 0 + _ ≤ _; exact Nat.le_of_eq rfl) (hb hby at_175) (fun _ _ => ⟨rfl, rfl, (by decide : 6 + 0 ≤ _), (by decide : 215 + 0 ≤ _)⟩)
          dsimp only [Pt.U, Pt.locs, Pt.cells, Pt.slots] at X112 l112 y112 z112 st112 hQ112
          subst l112 y112 z112
          obtain ⟨rfl, N112q, e112⟩ := hQ112
          have N112 := Fr.app N110 N112q
          have hc189_113 : (x108_3.toInt64) = ((((-(own_from p2)).toInt64) + (x108_3.toInt64)) + ((own_from p2).toInt64)) := own_off p2 p108_1 p108_2
          obtain ⟨cq114, kq114, q114a, q114b, q114c⟩ := isOf hZ95 e112 f110_0
          obtain ⟨_, _, ⟨T114, L114, k114, n114⟩, -, X114, ⟨Lc114, hQ114, l114, y114, z114⟩, st114⟩ := X112.virtualBack hx (y := (⟨"querent/hl7/LineReader", "next", "()Z"⟩ : MethodName)) (z := (⟨"querent/hl7/LineReader", "next", "()Z"⟩ : MethodName)) hown95 (mvT hZ95 (hw _ (List.mem_of_getElem? (i := 73) rfl))) (mvT hZ95 (hw _ (List.mem_of_getElem? (i := 74) rfl))) (notFace_of_selects (args := #[]) (mvT hZ95 (hw _ (List.mem_of_getElem? (i := 76) rfl)))) (mvT hZ95 (hw _ (List.mem_of_getElem? (i := 76) rfl))) (mvT hZ95 (hw _ (List.mem_of_getElem? (i := 75) rfl))) (by decide) (backOf (W := 0) (rm10 l Z a0 hw [] b94 b3 (F2_carriageReturnEnds_a1 st_CARRIAGE_RETURN_OR_LINE_FEED st_CARRIAGE_RETURN_OR_LINE_FEED) ((-(own_from p2)).toInt64) (own_to p2) x108_1 x108_2 x108_3 (1 : Int32) x108_3 x108_4 x108_5 x108_6 k3 vl T110.heap n0 Z110 f110_0 f110_1 f110_2 f110_3 f110_4 f110_5 f110_6 f110_7 f110_8 f110_9 f110_10 f110_11 f110_12 f110_13 y111 p108_1 p108_2 (show ¬ ((6 : Int32) < (own_to p2)) from (own_ft p2).2.2) g_b94 ne_b3_b94) hZ95 (hw _ (List.mem_of_getElem? (i := 77) rfl)) (hw _ (List.mem_of_getElem? (i := 10) rfl)) (by decide) (by decide)) q114a q114c (g := (mkF m 196 #[.val (.int p1), .val (.int p2), .val (.ref b3), .val (.int (own_from p2)), .val (.int (own_to p2)), .val (.ref st_CARRIAGE_RETURN_OR_LINE_FEED), .val (.int (own_rd p2)), .val (.ref b94), .val (.long (((-(own_from p2)).toInt64) + (x108_3.toInt64))), .second, .val (.int x108_3), .unset] [(.ref b94)])) rfl (by rw [hml]; rfl) (Steps.refl _) (argsL := []) (rest := []) (lenOf pd_3 rfl) rfl (by show 2 * 0 + _ ≤ _; exact Nat.le_of_eq rfl) (hb hby at_196) (fun _ _ => ⟨rfl, e112, (by decide : 6 + 0 ≤ _), (by decide : 215 + 0 ≤ _)⟩)
          dsimp only [Pt.U, Pt.locs, Pt.cells, Pt.slots] at X114 l114 y114 z114 st114 hQ114
          subst l114 y114 z114
          obtain ⟨x114_0, x114_1, x114_2, x114_3, x114_4, x114_5, x114_6, rfl, N114q, K114q, f114_0, f114_1, f114_2, f114_3, f114_4, f114_5, f114_6, f114_7, f114_8, f114_9, f114_10, f114_11, f114_12, f114_13, p114_0, p114_1, p114_2⟩ := hQ114
          have K114 : Keep h0 T114.heap [] := (K110).trans K114q (allS (P := fun x => x ∈ [] ∨ h0.size ≤ x) (Or.inr sz_b94) all0)
          have Z114 : n0 ≤ T114.heap.size := Nat.le_trans Z110 K114q.1
          have N114 := Fr.app N112 N114q
          obtain ⟨cq115, kq115, q115a, q115b, q115c⟩ := isOf hZ95 rfl f114_0
          obtain ⟨_, _, ⟨T115, L115, k115, n115⟩, -, X115, ⟨Lc115, hQ115, l115, y115, z115⟩, st115⟩ := X114.virtualBack hx (y := (⟨"querent/hl7/LineReader", "start", "()I"⟩ : MethodName)) (z := (⟨"querent/hl7/LineReader", "start", "()I"⟩ : MethodName)) hown95 (mvT hZ95 (hw _ (List.mem_of_getElem? (i := 96) rfl))) (mvT hZ95 (hw _ (List.mem_of_getElem? (i := 97) rfl))) (notFace_of_selects (args := #[]) (mvT hZ95 (hw _ (List.mem_of_getElem? (i := 99) rfl)))) (mvT hZ95 (hw _ (List.mem_of_getElem? (i := 99) rfl))) (mvT hZ95 (hw _ (List.mem_of_getElem? (i := 98) rfl))) (by decide) (backOf (W := 0) (rm15 l Z a0 hw [] b94 x114_1 T114.heap n0 Z114 f114_6) hZ95 (hw _ (List.mem_of_getElem? (i := 100) rfl)) (hw _ (List.mem_of_getElem? (i := 10) rfl)) (by decide) (by decide)) q115a q115c (g := (mkF m 202 #[.val (.int p1), .val (.int p2), .val (.ref b3), .val (.int (own_from p2)), .val (.int (own_to p2)), .val (.ref st_CARRIAGE_RETURN_OR_LINE_FEED), .val (.int (own_rd p2)), .val (.ref b94), .val (.long (((-(own_from p2)).toInt64) + (x108_3.toInt64))), .second, .val (.int x108_3), .unset] [(.ref b94)])) rfl (by rw [hml]; rfl) (Steps.refl _) (argsL := []) (rest := []) (lenOf pd_10 rfl) rfl (by show 2 * 0 + _ ≤ _; exact Nat.le_of_eq rfl) (hb hby at_202) (fun _ _ => ⟨rfl, rfl, (by decide : 6 + 0 ≤ _), (by decide : 215 + 0 ≤ _)⟩)
          dsimp only [Pt.U, Pt.locs, Pt.cells, Pt.slots] at X115 l115 y115 z115 st115 hQ115
          subst l115 y115 z115
          obtain ⟨rfl, N115q, e115⟩ := hQ115
          have N115 := Fr.app N114 N115q
          have pre117 : ∀ t, Steps p.tables e below (T115.setTop (mkF m 211 #[.val (.int p1), .val (.int p2), .val (.ref b3), .val (.int (own_from p2)), .val (.int (own_to p2)), .val (.ref st_CARRIAGE_RETURN_OR_LINE_FEED), .val (.int (own_rd p2)), .val (.ref b94), .val (.long (((-(own_from p2)).toInt64) + (x108_3.toInt64))), .second, .val (.int x108_3), .val (.int x114_1)] [(.int x108_3), (.int x114_1)])) t → Steps p.tables e below (s₁.setTop (entryFrame m #[(.int p1), (.int p2)] maxLocals)) t := fun t kt => pre107 t (by
            show Steps p.tables e below (T104.setTop (mkF m 152 #[.val (.int p1), .val (.int p2), .val (.ref b3), .val (.int (own_from p2)), .val (.int (own_to p2)), .val (.ref st_CARRIAGE_RETURN_OR_LINE_FEED), .val (.int (own_rd p2)), .val (.ref b94), .unset, .unset, .unset, .unset] [(.int (2 : Int32)), (.int (own_rd p2))])) _
            refine XS.icmpNo X104.here hx rfl (hb hby at_152) rfl (tlt hc152_106).2.2.2 ?_
            show Steps p.tables e below (T104.setTop (mkF m 155 #[.val (.int p1), .val (.int p2), .val (.ref b3), .val (.int (own_from p2)), .val (.int (own_to p2)), .val (.ref st_CARRIAGE_RETURN_OR_LINE_FEED), .val (.int (own_rd p2)), .val (.ref b94), .unset, .unset, .unset, .unset] [])) _
            refine XS.aload X104.here hx rfl (hb hby at_155) rfl rfl ?_
            show Steps p.tables e below (T104.setTop (mkF m 157 #[.val (.int p1), .val (.int p2), .val (.ref b3), .val (.int (own_from p2)), .val (.int (own_to p2)), .val (.ref st_CARRIAGE_RETURN_OR_LINE_FEED), .val (.int (own_rd p2)), .val (.ref b94), .unset, .unset, .unset, .unset] [(.ref b94)])) _
            refine st108.trans ?_
            show Steps p.tables e below (T108.setTop (mkF m 160 #[.val (.int p1), .val (.int p2), .val (.ref b3), .val (.int (own_from p2)), .val (.int (own_to p2)), .val (.ref st_CARRIAGE_RETURN_OR_LINE_FEED), .val (.int (own_rd p2)), .val (.ref b94), .unset, .unset, .unset, .unset] [(.int x108_0)])) _
            refine XS.pop X108.here hx rfl (hb hby at_160) rfl rfl ?_
            show Steps p.tables e below (T108.setTop (mkF m 161 #[.val (.int p1), .val (.int p2), .val (.ref b3), .val (.int (own_from p2)), .val (.int (own_to p2)), .val (.ref st_CARRIAGE_RETURN_OR_LINE_FEED), .val (.int (own_rd p2)), .val (.ref b94), .unset, .unset, .unset, .unset] [])) _
            refine XS.aload X108.here hx rfl (hb hby at_161) rfl rfl ?_
            show Steps p.tables e below (T108.setTop (mkF m 163 #[.val (.int p1), .val (.int p2), .val (.ref b3), .val (.int (own_from p2)), .val (.int (own_to p2)), .val (.ref st_CARRIAGE_RETURN_OR_LINE_FEED), .val (.int (own_rd p2)), .val (.ref b94), .unset, .unset, .unset, .unset] [(.ref b94)])) _
            refine st109.trans ?_
            show Steps p.tables e below (T109.setTop (mkF m 166 #[.val (.int p1), .val (.int p2), .val (.ref b3), .val (.int (own_from p2)), .val (.int (own_to p2)), .val (.ref st_CARRIAGE_RETURN_OR_LINE_FEED), .val (.int (own_rd p2)), .val (.ref b94), .unset, .unset, .unset, .unset] [(.long (((-(own_from p2)).toInt64) + (x108_3.toInt64)))])) _
            refine XS.lstore X109.here hx rfl (hb hby at_166) rfl (l' := #[.val (.int p1), .val (.int p2), .val (.ref b3), .val (.int (own_from p2)), .val (.int (own_to p2)), .val (.ref st_CARRIAGE_RETURN_OR_LINE_FEED), .val (.int (own_rd p2)), .val (.ref b94), .val (.long (((-(own_from p2)).toInt64) + (x108_3.toInt64))), .second, .unset, .unset]) rfl ?_
            show Steps p.tables e below (T109.setTop (mkF m 168 #[.val (.int p1), .val (.int p2), .val (.ref b3), .val (.int (own_from p2)), .val (.int (own_to p2)), .val (.ref st_CARRIAGE_RETURN_OR_LINE_FEED), .val (.int (own_rd p2)), .val (.ref b94), .val (.long (((-(own_from p2)).toInt64) + (x108_3.toInt64))), .second, .unset, .unset] [])) _
            refine XS.aload X109.here hx rfl (hb hby at_168) rfl rfl ?_
            show Steps p.tables e below (T109.setTop (mkF m 170 #[.val (.int p1), .val (.int p2), .val (.ref b3), .val (.int (own_from p2)), .val (.int (own_to p2)), .val (.ref st_CARRIAGE_RETURN_OR_LINE_FEED), .val (.int (own_rd p2)), .val (.ref b94), .val (.long (((-(own_from p2)).toInt64) + (x108_3.toInt64))), .second, .unset, .unset] [(.ref b94)])) _
            refine st110.trans ?_
            show Steps p.tables e below (T110.setTop (mkF m 173 #[.val (.int p1), .val (.int p2), .val (.ref b3), .val (.int (own_from p2)), .val (.int (own_to p2)), .val (.ref st_CARRIAGE_RETURN_OR_LINE_FEED), .val (.int (own_rd p2)), .val (.ref b94), .val (.long (((-(own_from p2)).toInt64) + (x108_3.toInt64))), .second, .unset, .unset] [])) _
            refine XS.aload X110.here hx rfl (hb hby at_173) rfl rfl ?_
            show Steps p.tables e below (T110.setTop (mkF m 175 #[.val (.int p1), .val (.int p2), .val (.ref b3), .val (.int (own_from p2)), .val (.int (own_to p2)), .val (.ref st_CARRIAGE_RETURN_OR_LINE_FEED), .val (.int (own_rd p2)), .val (.ref b94), .val (.long (((-(own_from p2)).toInt64) + (x108_3.toInt64))), .second, .unset, .unset] [(.ref b94)])) _
            refine st112.trans ?_
            show Steps p.tables e below (T112.setTop (mkF m 178 #[.val (.int p1), .val (.int p2), .val (.ref b3), .val (.int (own_from p2)), .val (.int (own_to p2)), .val (.ref st_CARRIAGE_RETURN_OR_LINE_FEED), .val (.int (own_rd p2)), .val (.ref b94), .val (.long (((-(own_from p2)).toInt64) + (x108_3.toInt64))), .second, .unset, .unset] [(.int x108_3)])) _
            refine XS.istore X112.here hx rfl (hb hby at_178) rfl (l' := #[.val (.int p1), .val (.int p2), .val (.ref b3), .val (.int (own_from p2)), .val (.int (own_to p2)), .val (.ref st_CARRIAGE_RETURN_OR_LINE_FEED), .val (.int (own_rd p2)), .val (.ref b94), .val (.long (((-(own_from p2)).toInt64) + (x108_3.toInt64))), .second, .val (.int x108_3), .unset]) rfl ?_
            show Steps p.tables e below (T112.setTop (mkF m 180 #[.val (.int p1), .val (.int p2), .val (.ref b3), .val (.int (own_from p2)), .val (.int (own_to p2)), .val (.ref st_CARRIAGE_RETURN_OR_LINE_FEED), .val (.int (own_rd p2)), .val (.ref b94), .val (.long (((-(own_from p2)).toInt64) + (x108_3.toInt64))), .second, .val (.int x108_3), .unset] [])) _
            refine XS.iload X112.here hx rfl (hb hby at_180) rfl ?_
            show Steps p.tables e below (T112.setTop (mkF m 182 #[.val (.int p1), .val (.int p2), .val (.ref b3), .val (.int (own_from p2)), .val (.int (own_to p2)), .val (.ref st_CARRIAGE_RETURN_OR_LINE_FEED), .val (.int (own_rd p2)), .val (.ref b94), .val (.long (((-(own_from p2)).toInt64) + (x108_3.toInt64))), .second, .val (.int x108_3), .unset] [(.int x108_3)])) _
            refine XS.i2l X112.here hx rfl (hb hby at_182) rfl ?_
            show Steps p.tables e below (T112.setTop (mkF m 183 #[.val (.int p1), .val (.int p2), .val (.ref b3), .val (.int (own_from p2)), .val (.int (own_to p2)), .val (.ref st_CARRIAGE_RETURN_OR_LINE_FEED), .val (.int (own_rd p2)), .val (.ref b94), .val (.long (((-(own_from p2)).toInt64) + (x108_3.toInt64))), .second, .val (.int x108_3), .unset] [(.long (x108_3.toInt64))])) _
            refine XS.lload X112.here hx rfl (hb hby at_183) rfl ?_
            show Steps p.tables e below (T112.setTop (mkF m 185 #[.val (.int p1), .val (.int p2), .val (.ref b3), .val (.int (own_from p2)), .val (.int (own_to p2)), .val (.ref st_CARRIAGE_RETURN_OR_LINE_FEED), .val (.int (own_rd p2)), .val (.ref b94), .val (.long (((-(own_from p2)).toInt64) + (x108_3.toInt64))), .second, .val (.int x108_3), .unset] [(.long (((-(own_from p2)).toInt64) + (x108_3.toInt64))), (.long (x108_3.toInt64))])) _
            refine XS.iloadN X112.here hx rfl (hb hby at_185) rfl ?_
            show Steps p.tables e below (T112.setTop (mkF m 186 #[.val (.int p1), .val (.int p2), .val (.ref b3), .val (.int (own_from p2)), .val (.int (own_to p2)), .val (.ref st_CARRIAGE_RETURN_OR_LINE_FEED), .val (.int (own_rd p2)), .val (.ref b94), .val (.long (((-(own_from p2)).toInt64) + (x108_3.toInt64))), .second, .val (.int x108_3), .unset] [(.int (own_from p2)), (.long (((-(own_from p2)).toInt64) + (x108_3.toInt64))), (.long (x108_3.toInt64))])) _
            refine XS.i2l X112.here hx rfl (hb hby at_186) rfl ?_
            show Steps p.tables e below (T112.setTop (mkF m 187 #[.val (.int p1), .val (.int p2), .val (.ref b3), .val (.int (own_from p2)), .val (.int (own_to p2)), .val (.ref st_CARRIAGE_RETURN_OR_LINE_FEED), .val (.int (own_rd p2)), .val (.ref b94), .val (.long (((-(own_from p2)).toInt64) + (x108_3.toInt64))), .second, .val (.int x108_3), .unset] [(.long ((own_from p2).toInt64)), (.long (((-(own_from p2)).toInt64) + (x108_3.toInt64))), (.long (x108_3.toInt64))])) _
            refine XS.ladd X112.here hx rfl (hb hby at_187) rfl ?_
            show Steps p.tables e below (T112.setTop (mkF m 188 #[.val (.int p1), .val (.int p2), .val (.ref b3), .val (.int (own_from p2)), .val (.int (own_to p2)), .val (.ref st_CARRIAGE_RETURN_OR_LINE_FEED), .val (.int (own_rd p2)), .val (.ref b94), .val (.long (((-(own_from p2)).toInt64) + (x108_3.toInt64))), .second, .val (.int x108_3), .unset] [(.long ((((-(own_from p2)).toInt64) + (x108_3.toInt64)) + ((own_from p2).toInt64))), (.long (x108_3.toInt64))])) _
            refine XS.lcmp X112.here hx rfl (hb hby at_188) rfl ?_
            show Steps p.tables e below (T112.setTop (mkF m 189 #[.val (.int p1), .val (.int p2), .val (.ref b3), .val (.int (own_from p2)), .val (.int (own_to p2)), .val (.ref st_CARRIAGE_RETURN_OR_LINE_FEED), .val (.int (own_rd p2)), .val (.ref b94), .val (.long (((-(own_from p2)).toInt64) + (x108_3.toInt64))), .second, .val (.int x108_3), .unset] [(.int (lcmpW (x108_3.toInt64) ((((-(own_from p2)).toInt64) + (x108_3.toInt64)) + ((own_from p2).toInt64))))])) _
            refine XS.ifYes X112.here hx rfl (pc0 := 189) (pc' := 194) rfl (hb hby at_189) rfl ((if0 _ _).trans (teq ((lw_eq (x108_3.toInt64) ((((-(own_from p2)).toInt64) + (x108_3.toInt64)) + ((own_from p2).toInt64))).mpr hc189_113)).1) (by decide) (by decide) ?_
            show Steps p.tables e below (T112.setTop (mkF m 194 #[.val (.int p1), .val (.int p2), .val (.ref b3), .val (.int (own_from p2)), .val (.int (own_to p2)), .val (.ref st_CARRIAGE_RETURN_OR_LINE_FEED), .val (.int (own_rd p2)), .val (.ref b94), .val (.long (((-(own_from p2)).toInt64) + (x108_3.toInt64))), .second, .val (.int x108_3), .unset] [])) _
            refine XS.aload X112.here hx rfl (hb hby at_194) rfl rfl ?_
            show Steps p.tables e below (T112.setTop (mkF m 196 #[.val (.int p1), .val (.int p2), .val (.ref b3), .val (.int (own_from p2)), .val (.int (own_to p2)), .val (.ref st_CARRIAGE_RETURN_OR_LINE_FEED), .val (.int (own_rd p2)), .val (.ref b94), .val (.long (((-(own_from p2)).toInt64) + (x108_3.toInt64))), .second, .val (.int x108_3), .unset] [(.ref b94)])) _
            refine st114.trans ?_
            show Steps p.tables e below (T114.setTop (mkF m 199 #[.val (.int p1), .val (.int p2), .val (.ref b3), .val (.int (own_from p2)), .val (.int (own_to p2)), .val (.ref st_CARRIAGE_RETURN_OR_LINE_FEED), .val (.int (own_rd p2)), .val (.ref b94), .val (.long (((-(own_from p2)).toInt64) + (x108_3.toInt64))), .second, .val (.int x108_3), .unset] [(.int x114_0)])) _
            refine XS.pop X114.here hx rfl (hb hby at_199) rfl rfl ?_
            show Steps p.tables e below (T114.setTop (mkF m 200 #[.val (.int p1), .val (.int p2), .val (.ref b3), .val (.int (own_from p2)), .val (.int (own_to p2)), .val (.ref st_CARRIAGE_RETURN_OR_LINE_FEED), .val (.int (own_rd p2)), .val (.ref b94), .val (.long (((-(own_from p2)).toInt64) + (x108_3.toInt64))), .second, .val (.int x108_3), .unset] [])) _
            refine XS.aload X114.here hx rfl (hb hby at_200) rfl rfl ?_
            show Steps p.tables e below (T114.setTop (mkF m 202 #[.val (.int p1), .val (.int p2), .val (.ref b3), .val (.int (own_from p2)), .val (.int (own_to p2)), .val (.ref st_CARRIAGE_RETURN_OR_LINE_FEED), .val (.int (own_rd p2)), .val (.ref b94), .val (.long (((-(own_from p2)).toInt64) + (x108_3.toInt64))), .second, .val (.int x108_3), .unset] [(.ref b94)])) _
            refine st115.trans ?_
            show Steps p.tables e below (T115.setTop (mkF m 205 #[.val (.int p1), .val (.int p2), .val (.ref b3), .val (.int (own_from p2)), .val (.int (own_to p2)), .val (.ref st_CARRIAGE_RETURN_OR_LINE_FEED), .val (.int (own_rd p2)), .val (.ref b94), .val (.long (((-(own_from p2)).toInt64) + (x108_3.toInt64))), .second, .val (.int x108_3), .unset] [(.int x114_1)])) _
            refine XS.istore X115.here hx rfl (hb hby at_205) rfl (l' := #[.val (.int p1), .val (.int p2), .val (.ref b3), .val (.int (own_from p2)), .val (.int (own_to p2)), .val (.ref st_CARRIAGE_RETURN_OR_LINE_FEED), .val (.int (own_rd p2)), .val (.ref b94), .val (.long (((-(own_from p2)).toInt64) + (x108_3.toInt64))), .second, .val (.int x108_3), .val (.int x114_1)]) rfl ?_
            show Steps p.tables e below (T115.setTop (mkF m 207 #[.val (.int p1), .val (.int p2), .val (.ref b3), .val (.int (own_from p2)), .val (.int (own_to p2)), .val (.ref st_CARRIAGE_RETURN_OR_LINE_FEED), .val (.int (own_rd p2)), .val (.ref b94), .val (.long (((-(own_from p2)).toInt64) + (x108_3.toInt64))), .second, .val (.int x108_3), .val (.int x114_1)] [])) _
            refine XS.iload X115.here hx rfl (hb hby at_207) rfl ?_
            show Steps p.tables e below (T115.setTop (mkF m 209 #[.val (.int p1), .val (.int p2), .val (.ref b3), .val (.int (own_from p2)), .val (.int (own_to p2)), .val (.ref st_CARRIAGE_RETURN_OR_LINE_FEED), .val (.int (own_rd p2)), .val (.ref b94), .val (.long (((-(own_from p2)).toInt64) + (x108_3.toInt64))), .second, .val (.int x108_3), .val (.int x114_1)] [(.int x114_1)])) _
            refine XS.iload X115.here hx rfl (hb hby at_209) rfl ?_
            show Steps p.tables e below (T115.setTop (mkF m 211 #[.val (.int p1), .val (.int p2), .val (.ref b3), .val (.int (own_from p2)), .val (.int (own_to p2)), .val (.ref st_CARRIAGE_RETURN_OR_LINE_FEED), .val (.int (own_rd p2)), .val (.ref b94), .val (.long (((-(own_from p2)).toInt64) + (x108_3.toInt64))), .second, .val (.int x108_3), .val (.int x114_1)] [(.int x108_3), (.int x114_1)])) _
            exact kt)
          by_cases hc211_116 : x114_1 = x108_3
          · obtain ⟨fs, hr, hrun, hended, hEW⟩ := X115.leaveW hS95 (by rw [e115]; exact (Nat.le_trans (Nat.le_trans (Nat.le_trans (Nat.le_trans (Nat.le_trans (Nat.le_refl _) K101q.1) K104q.1) K108q.1) K110q.1) K114q.1)) (v := some (.int (1 : Int32))) (fun h => by rw [Bd.returns] at h; cases h)
            refine ⟨_, _, pre117 _ ?_, hrun, hended, _, _, rfl, ?_, ⟨_, rfl⟩, hEW.2.1, hEW.2.2.1, hEW.2.2.2.mono (by decide) (by decide)⟩
            · show Steps p.tables e below (T115.setTop (mkF m 211 #[.val (.int p1), .val (.int p2), .val (.ref b3), .val (.int (own_from p2)), .val (.int (own_to p2)), .val (.ref st_CARRIAGE_RETURN_OR_LINE_FEED), .val (.int (own_rd p2)), .val (.ref b94), .val (.long (((-(own_from p2)).toInt64) + (x108_3.toInt64))), .second, .val (.int x108_3), .val (.int x114_1)] [(.int x108_3), (.int x114_1)])) _
              refine XS.icmpNo X115.here hx rfl (hb hby at_211) rfl (teq hc211_116).2 ?_
              show Steps p.tables e below (T115.setTop (mkF m 214 #[.val (.int p1), .val (.int p2), .val (.ref b3), .val (.int (own_from p2)), .val (.int (own_to p2)), .val (.ref st_CARRIAGE_RETURN_OR_LINE_FEED), .val (.int (own_rd p2)), .val (.ref b94), .val (.long (((-(own_from p2)).toInt64) + (x108_3.toInt64))), .second, .val (.int x108_3), .val (.int x114_1)] [])) _
              refine XS.iconst X115.here hx rfl (hb hby at_214) ?_
              show Steps p.tables e below (T115.setTop (mkF m 215 #[.val (.int p1), .val (.int p2), .val (.ref b3), .val (.int (own_from p2)), .val (.int (own_to p2)), .val (.ref st_CARRIAGE_RETURN_OR_LINE_FEED), .val (.int (own_rd p2)), .val (.ref b94), .val (.long (((-(own_from p2)).toInt64) + (x108_3.toInt64))), .second, .val (.int x108_3), .val (.int x114_1)] [(.int (1 : Int32))])) _
              exact retN X115 hx (t := .boolean) Bd.returns (by simp) (hb hby at_215) hr
            · show Q0 Z p1 p2 st_LINE_FEED st_CARRIAGE_RETURN_OR_LINE_FEED h0 n0 _ T115.heap _
              rw [e115]
              exact ⟨rfl, N115⟩
          · have hc222_118 : x114_1 = (x108_3 + (1 : Int32)) := (own_dj p114_0 hc211_116).1
            obtain ⟨cq119, kq119, q119a, q119b, q119c⟩ := isOf hZ95 e115 f114_0
            obtain ⟨_, _, ⟨T119, L119, k119, n119⟩, -, X119, ⟨Lc119, hQ119, l119, y119, z119⟩, st119⟩ := X115.virtualBack hx (y := (⟨"querent/hl7/LineReader", "bytes", "()[B"⟩ : MethodName)) (z := (⟨"querent/hl7/LineReader", "bytes", "()[B"⟩ : MethodName)) hown95 (mvT hZ95 (hw _ (List.mem_of_getElem? (i := 114) rfl))) (mvT hZ95 (hw _ (List.mem_of_getElem? (i := 115) rfl))) (notFace_of_selects (args := #[]) (mvT hZ95 (hw _ (List.mem_of_getElem? (i := 117) rfl)))) (mvT hZ95 (hw _ (List.mem_of_getElem? (i := 117) rfl))) (mvT hZ95 (hw _ (List.mem_of_getElem? (i := 116) rfl))) (by decide) (backOf (W := 0) (rm18 l Z a0 hw [] b94 b3 T114.heap n0 Z114 f114_2) hZ95 (hw _ (List.mem_of_getElem? (i := 118) rfl)) (hw _ (List.mem_of_getElem? (i := 10) rfl)) (by decide) (by decide)) q119a q119c (g := (mkF m 227 #[.val (.int p1), .val (.int p2), .val (.ref b3), .val (.int (own_from p2)), .val (.int (own_to p2)), .val (.ref st_CARRIAGE_RETURN_OR_LINE_FEED), .val (.int (own_rd p2)), .val (.ref b94), .val (.long (((-(own_from p2)).toInt64) + (x108_3.toInt64))), .second, .val (.int x108_3), .val (.int x114_1)] [(.ref b94)])) rfl (by rw [hml]; rfl) (Steps.refl _) (argsL := []) (rest := []) (lenOf pd_11 rfl) rfl (by show 2 * 0 + _ ≤ _; exact Nat.le_of_eq rfl) (hb hby at_227) (fun _ _ => ⟨rfl, e115, (by decide : 6 + 0 ≤ _), (by decide : 215 + 0 ≤ _)⟩)
            dsimp only [Pt.U, Pt.locs, Pt.cells, Pt.slots] at X119 l119 y119 z119 st119 hQ119
            subst l119 y119 z119
            obtain ⟨rfl, N119q, e119⟩ := hQ119
            have N119 := Fr.app N115 N119q
            obtain ⟨cl120, Ar120, qq120, S120, NN120, HH120, GG120⟩ := id (y111.keep K114q (ninS ne_b3_b94 nin0))
            have hin120 : ¬ (x108_3 < 0 ∨ cl120.slots.size ≤ (x108_3).toNatClampNeg) := inb_of S120 ⟨p108_1, (show x108_3 < (6 : Int32) from own_lt6 (own_dj p114_0 hc211_116).2.2 (own_ft p2).2.2)⟩
            have hat120 : cl120.slots[(x108_3).toNatClampNeg]? = some (.int (own_at vl x108_3)) := Has.at HH120 hin120 (own_atv vl x108_3)
            have hc235_121 : (own_at vl x108_3) = (10 : Int32) := (own_dj p114_0 hc211_116).2.1
            obtain ⟨fs, hr, hrun, hended, hEW⟩ := X119.leaveW hS95 (by rw [e119]; exact (Nat.le_trans (Nat.le_trans (Nat.le_trans (Nat.le_trans (Nat.le_trans (Nat.le_refl _) K101q.1) K104q.1) K108q.1) K110q.1) K114q.1)) (v := some (.int (1 : Int32))) (fun h => by rw [Bd.returns] at h; cases h)
            refine ⟨_, _, pre117 _ ?_, hrun, hended, _, _, rfl, ?_, ⟨_, rfl⟩, hEW.2.1, hEW.2.2.1, hEW.2.2.2.mono (by decide) (by decide)⟩
            · show Steps p.tables e below (T115.setTop (mkF m 211 #[.val (.int p1), .val (.int p2), .val (.ref b3), .val (.int (own_from p2)), .val (.int (own_to p2)), .val (.ref st_CARRIAGE_RETURN_OR_LINE_FEED), .val (.int (own_rd p2)), .val (.ref b94), .val (.long (((-(own_from p2)).toInt64) + (x108_3.toInt64))), .second, .val (.int x108_3), .val (.int x114_1)] [(.int x108_3), (.int x114_1)])) _
              refine XS.icmpYes X115.here hx rfl (pc0 := 211) (pc' := 216) rfl (hb hby at_211) rfl (feq hc211_116).2 (by decide) (by decide) ?_
              show Steps p.tables e below (T115.setTop (mkF m 216 #[.val (.int p1), .val (.int p2), .val (.ref b3), .val (.int (own_from p2)), .val (.int (own_to p2)), .val (.ref st_CARRIAGE_RETURN_OR_LINE_FEED), .val (.int (own_rd p2)), .val (.ref b94), .val (.long (((-(own_from p2)).toInt64) + (x108_3.toInt64))), .second, .val (.int x108_3), .val (.int x114_1)] [])) _
              refine XS.iload X115.here hx rfl (hb hby at_216) rfl ?_
              show Steps p.tables e below (T115.setTop (mkF m 218 #[.val (.int p1), .val (.int p2), .val (.ref b3), .val (.int (own_from p2)), .val (.int (own_to p2)), .val (.ref st_CARRIAGE_RETURN_OR_LINE_FEED), .val (.int (own_rd p2)), .val (.ref b94), .val (.long (((-(own_from p2)).toInt64) + (x108_3.toInt64))), .second, .val (.int x108_3), .val (.int x114_1)] [(.int x114_1)])) _
              refine XS.iload X115.here hx rfl (hb hby at_218) rfl ?_
              show Steps p.tables e below (T115.setTop (mkF m 220 #[.val (.int p1), .val (.int p2), .val (.ref b3), .val (.int (own_from p2)), .val (.int (own_to p2)), .val (.ref st_CARRIAGE_RETURN_OR_LINE_FEED), .val (.int (own_rd p2)), .val (.ref b94), .val (.long (((-(own_from p2)).toInt64) + (x108_3.toInt64))), .second, .val (.int x108_3), .val (.int x114_1)] [(.int x108_3), (.int x114_1)])) _
              refine XS.iconst X115.here hx rfl (hb hby at_220) ?_
              show Steps p.tables e below (T115.setTop (mkF m 221 #[.val (.int p1), .val (.int p2), .val (.ref b3), .val (.int (own_from p2)), .val (.int (own_to p2)), .val (.ref st_CARRIAGE_RETURN_OR_LINE_FEED), .val (.int (own_rd p2)), .val (.ref b94), .val (.long (((-(own_from p2)).toInt64) + (x108_3.toInt64))), .second, .val (.int x108_3), .val (.int x114_1)] [(.int (1 : Int32)), (.int x108_3), (.int x114_1)])) _
              refine XS.iadd X115.here hx rfl (hb hby at_221) rfl ?_
              show Steps p.tables e below (T115.setTop (mkF m 222 #[.val (.int p1), .val (.int p2), .val (.ref b3), .val (.int (own_from p2)), .val (.int (own_to p2)), .val (.ref st_CARRIAGE_RETURN_OR_LINE_FEED), .val (.int (own_rd p2)), .val (.ref b94), .val (.long (((-(own_from p2)).toInt64) + (x108_3.toInt64))), .second, .val (.int x108_3), .val (.int x114_1)] [(.int (x108_3 + (1 : Int32))), (.int x114_1)])) _
              refine XS.icmpNo X115.here hx rfl (hb hby at_222) rfl (teq hc222_118).2 ?_
              show Steps p.tables e below (T115.setTop (mkF m 225 #[.val (.int p1), .val (.int p2), .val (.ref b3), .val (.int (own_from p2)), .val (.int (own_to p2)), .val (.ref st_CARRIAGE_RETURN_OR_LINE_FEED), .val (.int (own_rd p2)), .val (.ref b94), .val (.long (((-(own_from p2)).toInt64) + (x108_3.toInt64))), .second, .val (.int x108_3), .val (.int x114_1)] [])) _
              refine XS.aload X115.here hx rfl (hb hby at_225) rfl rfl ?_
              show Steps p.tables e below (T115.setTop (mkF m 227 #[.val (.int p1), .val (.int p2), .val (.ref b3), .val (.int (own_from p2)), .val (.int (own_to p2)), .val (.ref st_CARRIAGE_RETURN_OR_LINE_FEED), .val (.int (own_rd p2)), .val (.ref b94), .val (.long (((-(own_from p2)).toInt64) + (x108_3.toInt64))), .second, .val (.int x108_3), .val (.int x114_1)] [(.ref b94)])) _
              refine st119.trans ?_
              show Steps p.tables e below (T119.setTop (mkF m 230 #[.val (.int p1), .val (.int p2), .val (.ref b3), .val (.int (own_from p2)), .val (.int (own_to p2)), .val (.ref st_CARRIAGE_RETURN_OR_LINE_FEED), .val (.int (own_rd p2)), .val (.ref b94), .val (.long (((-(own_from p2)).toInt64) + (x108_3.toInt64))), .second, .val (.int x108_3), .val (.int x114_1)] [(.ref b3)])) _
              refine XS.iload X119.here hx rfl (hb hby at_230) rfl ?_
              show Steps p.tables e below (T119.setTop (mkF m 232 #[.val (.int p1), .val (.int p2), .val (.ref b3), .val (.int (own_from p2)), .val (.int (own_to p2)), .val (.ref st_CARRIAGE_RETURN_OR_LINE_FEED), .val (.int (own_rd p2)), .val (.ref b94), .val (.long (((-(own_from p2)).toInt64) + (x108_3.toInt64))), .second, .val (.int x108_3), .val (.int x114_1)] [(.int x108_3), (.ref b3)])) _
              refine X119.baloadBytes hx (j := x108_3) (v := (.int (own_at vl x108_3))) (by rw [e119]; exact Ar120.1) (State.isArrayOf_alike hZ95.alike Ar120.2.1) Ar120.2.2 hin120 hat120 (g := (mkF m 232 #[.val (.int p1), .val (.int p2), .val (.ref b3), .val (.int (own_from p2)), .val (.int (own_to p2)), .val (.ref st_CARRIAGE_RETURN_OR_LINE_FEED), .val (.int (own_rd p2)), .val (.ref b94), .val (.long (((-(own_from p2)).toInt64) + (x108_3.toInt64))), .second, .val (.int x108_3), .val (.int x114_1)] [(.int x108_3), (.ref b3)])) rfl rfl (hb hby at_232) _ ?_
              show Steps p.tables e below (T119.setTop (mkF m 233 #[.val (.int p1), .val (.int p2), .val (.ref b3), .val (.int (own_from p2)), .val (.int (own_to p2)), .val (.ref st_CARRIAGE_RETURN_OR_LINE_FEED), .val (.int (own_rd p2)), .val (.ref b94), .val (.long (((-(own_from p2)).toInt64) + (x108_3.toInt64))), .second, .val (.int x108_3), .val (.int x114_1)] [(.int (own_at vl x108_3))])) _
              refine XS.bipush X119.here hx rfl (hb hby at_233) ?_
              show Steps p.tables e below (T119.setTop (mkF m 235 #[.val (.int p1), .val (.int p2), .val (.ref b3), .val (.int (own_from p2)), .val (.int (own_to p2)), .val (.ref st_CARRIAGE_RETURN_OR_LINE_FEED), .val (.int (own_rd p2)), .val (.ref b94), .val (.long (((-(own_from p2)).toInt64) + (x108_3.toInt64))), .second, .val (.int x108_3), .val (.int x114_1)] [(.int (10 : Int32)), (.int (own_at vl x108_3))])) _
              refine XS.icmpNo X119.here hx rfl (hb hby at_235) rfl (teq hc235_121).2 ?_
              show Steps p.tables e below (T119.setTop (mkF m 238 #[.val (.int p1), .val (.int p2), .val (.ref b3), .val (.int (own_from p2)), .val (.int (own_to p2)), .val (.ref st_CARRIAGE_RETURN_OR_LINE_FEED), .val (.int (own_rd p2)), .val (.ref b94), .val (.long (((-(own_from p2)).toInt64) + (x108_3.toInt64))), .second, .val (.int x108_3), .val (.int x114_1)] [])) _
              refine XS.iconst X119.here hx rfl (hb hby at_238) ?_
              show Steps p.tables e below (T119.setTop (mkF m 239 #[.val (.int p1), .val (.int p2), .val (.ref b3), .val (.int (own_from p2)), .val (.int (own_to p2)), .val (.ref st_CARRIAGE_RETURN_OR_LINE_FEED), .val (.int (own_rd p2)), .val (.ref b94), .val (.long (((-(own_from p2)).toInt64) + (x108_3.toInt64))), .second, .val (.int x108_3), .val (.int x114_1)] [(.int (1 : Int32))])) _
              refine XS.goto X119.here hx rfl (pc0 := 239) (pc' := 243) rfl (hb hby at_239) (by decide) (by decide) ?_
              show Steps p.tables e below (T119.setTop (mkF m 243 #[.val (.int p1), .val (.int p2), .val (.ref b3), .val (.int (own_from p2)), .val (.int (own_to p2)), .val (.ref st_CARRIAGE_RETURN_OR_LINE_FEED), .val (.int (own_rd p2)), .val (.ref b94), .val (.long (((-(own_from p2)).toInt64) + (x108_3.toInt64))), .second, .val (.int x108_3), .val (.int x114_1)] [(.int (1 : Int32))])) _
              exact retN X119 hx (t := .boolean) Bd.returns (by simp) (hb hby at_243) hr
            · show Q0 Z p1 p2 st_LINE_FEED st_CARRIAGE_RETURN_OR_LINE_FEED h0 n0 _ T119.heap _
              rw [e119]
              exact ⟨rfl, N119⟩
        · obtain ⟨cq122, kq122, q122a, q122b, q122c⟩ := isOf hZ95 rfl f104_0
          obtain ⟨_, _, ⟨T122, L122, k122, n122⟩, -, X122, ⟨Lc122, hQ122, l122, y122, z122⟩, st122⟩ := X104.virtualBack hx (y := (⟨"querent/hl7/LineReader", "offset", "()J"⟩ : MethodName)) (z := (⟨"querent/hl7/LineReader", "offset", "()J"⟩ : MethodName)) hown95 (mvT hZ95 (hw _ (List.mem_of_getElem? (i := 54) rfl))) (mvT hZ95 (hw _ (List.mem_of_getElem? (i := 55) rfl))) (notFace_of_selects (args := #[]) (mvT hZ95 (hw _ (List.mem_of_getElem? (i := 57) rfl)))) (mvT hZ95 (hw _ (List.mem_of_getElem? (i := 57) rfl))) (mvT hZ95 (hw _ (List.mem_of_getElem? (i := 56) rfl))) (by decide) (backOf (W := 0) (rm7 l Z a0 hw [] b94 ((-(own_from p2)).toInt64) x104_3 T104.heap n0 Z104 f104_4 f104_8) hZ95 (hw _ (List.mem_of_getElem? (i := 58) rfl)) (hw _ (List.mem_of_getElem? (i := 10) rfl)) (by decide) (by decide)) q122a q122c (g := (mkF m 163 #[.val (.int p1), .val (.int p2), .val (.ref b3), .val (.int (own_from p2)), .val (.int (own_to p2)), .val (.ref st_CARRIAGE_RETURN_OR_LINE_FEED), .val (.int (own_rd p2)), .val (.ref b94), .unset, .unset, .unset, .unset] [(.ref b94)])) rfl (by rw [hml]; rfl) (Steps.refl _) (argsL := []) (rest := []) (lenOf pd_9 rfl) rfl (by show 2 * 0 + _ ≤ _; exact Nat.le_of_eq rfl) (hb hby at_163) (fun _ _ => ⟨rfl, rfl, (by decide : 6 + 0 ≤ _), (by decide : 215 + 0 ≤ _)⟩)
          dsimp only [Pt.U, Pt.locs, Pt.cells, Pt.slots] at X122 l122 y122 z122 st122 hQ122
          subst l122 y122 z122
          obtain ⟨rfl, N122q, e122⟩ := hQ122
          have N122 := Fr.app N104 N122q
          obtain ⟨cq123, kq123, q123a, q123b, q123c⟩ := isOf hZ95 e122 f104_0
          obtain ⟨_, _, ⟨T123, L123, k123, n123⟩, -, X123, ⟨Lc123, hQ123, l123, y123, z123⟩, st123⟩ := X122.virtualBack hx (y := (⟨"querent/hl7/LineReader", "keepFromNext", "()V"⟩ : MethodName)) (z := (⟨"querent/hl7/LineReader", "keepFromNext", "()V"⟩ : MethodName)) hown95 (mvT hZ95 (hw _ (List.mem_of_getElem? (i := 59) rfl))) (mvT hZ95 (hw _ (List.mem_of_getElem? (i := 60) rfl))) (notFace_of_selects (args := #[]) (mvT hZ95 (hw _ (List.mem_of_getElem? (i := 62) rfl)))) (mvT hZ95 (hw _ (List.mem_of_getElem? (i := 62) rfl))) (mvT hZ95 (hw _ (List.mem_of_getElem? (i := 61) rfl))) (by decide) (backOf (W := 0) (rm8 l Z a0 hw [] b94 b3 (F2_carriageReturnEnds_a1 st_CARRIAGE_RETURN_OR_LINE_FEED st_CARRIAGE_RETURN_OR_LINE_FEED) ((-(own_from p2)).toInt64) (own_to p2) x104_1 x104_2 x104_3 (0 : Int32) (0 : Int32) x104_4 x104_5 x104_6 T104.heap n0 Z104 f104_0 f104_1 f104_2 f104_3 f104_4 f104_5 f104_6 f104_7 f104_8 f104_9 f104_10 f104_11 f104_12 f104_13 g_b94) hZ95 (hw _ (List.mem_of_getElem? (i := 63) rfl)) (hw _ (List.mem_of_getElem? (i := 10) rfl)) (by decide) (by decide)) q123a q123c (g := (mkF m 170 #[.val (.int p1), .val (.int p2), .val (.ref b3), .val (.int (own_from p2)), .val (.int (own_to p2)), .val (.ref st_CARRIAGE_RETURN_OR_LINE_FEED), .val (.int (own_rd p2)), .val (.ref b94), .val (.long (((-(own_from p2)).toInt64) + (x104_3.toInt64))), .second, .unset, .unset] [(.ref b94)])) rfl (by rw [hml]; rfl) (Steps.refl _) (argsL := []) (rest := []) (lenOf pd_4 rfl) rfl (by show 2 * 0 + _ ≤ _; exact Nat.le_of_eq rfl) (hb hby at_170) (fun _ _ => ⟨rfl, e122, (by decide : 6 + 0 ≤ _), (by decide : 215 + 0 ≤ _)⟩)
          dsimp only [Pt.U, Pt.locs, Pt.cells, Pt.slots] at X123 l123 y123 z123 st123 hQ123
          subst l123 y123 z123
          obtain ⟨rfl, N123q, K123q, f123_0, f123_1, f123_2, f123_3, f123_4, f123_5, f123_6, f123_7, f123_8, f123_9, f123_10, f123_11, f123_12, f123_13⟩ := hQ123
          have K123 : Keep h0 T123.heap [] := (K104).trans K123q (allS (P := fun x => x ∈ [] ∨ h0.size ≤ x) (Or.inr sz_b94) all0)
          have Z123 : n0 ≤ T123.heap.size := Nat.le_trans Z104 K123q.1
          have N123 := Fr.app N122 N123q
          obtain ⟨cq124, kq124, q124a, q124b, q124c⟩ := isOf hZ95 rfl f123_0
          obtain ⟨_, _, ⟨T124, L124, k124, n124⟩, -, X124, ⟨Lc124, hQ124, l124, y124, z124⟩, st124⟩ := X123.virtualBack hx (y := (⟨"querent/hl7/LineReader", "kept", "()I"⟩ : MethodName)) (z := (⟨"querent/hl7/LineReader", "kept", "()I"⟩ : MethodName)) hown95 (mvT hZ95 (hw _ (List.mem_of_getElem? (i := 68) rfl))) (mvT hZ95 (hw _ (List.mem_of_getElem? (i := 69) rfl))) (notFace_of_selects (args := #[]) (mvT hZ95 (hw _ (List.mem_of_getElem? (i := 71) rfl)))) (mvT hZ95 (hw _ (List.mem_of_getElem? (i := 71) rfl))) (mvT hZ95 (hw _ (List.mem_of_getElem? (i := 70) rfl))) (by decide) (backOf (W := 0) (rm9 l Z a0 hw [] b94 x104_3 T123.heap n0 Z123 f123_10) hZ95 (hw _ (List.mem_of_getElem? (i := 72) rfl)) (hw _ (List.mem_of_getElem? (i := 10) rfl)) (by decide) (by decide)) q124a q124c (g := (mkF m 175 #[.val (.int p1), .val (.int p2), .val (.ref b3), .val (.int (own_from p2)), .val (.int (own_to p2)), .val (.ref st_CARRIAGE_RETURN_OR_LINE_FEED), .val (.int (own_rd p2)), .val (.ref b94), .val (.long (((-(own_from p2)).toInt64) + (x104_3.toInt64))), .second, .unset, .unset] [(.ref b94)])) rfl (by rw [hml]; rfl) (Steps.refl _) (argsL := []) (rest := []) (lenOf pd_10 rfl) rfl (by show 2 * 0 + _ ≤ _; exact Nat.le_of_eq rfl) (hb hby at_175) (fun _ _ => ⟨rfl, rfl, (by decide : 6 + 0 ≤ _), (by decide : 215 + 0 ≤ _)⟩)
          dsimp only [Pt.U, Pt.locs, Pt.cells, Pt.slots] at X124 l124 y124 z124 st124 hQ124
          subst l124 y124 z124
          obtain ⟨rfl, N124q, e124⟩ := hQ124
          have N124 := Fr.app N123 N124q
          have hc189_125 : (x104_3.toInt64) = ((((-(own_from p2)).toInt64) + (x104_3.toInt64)) + ((own_from p2).toInt64)) := own_off p2 p104_1 p104_2
          obtain ⟨cq126, kq126, q126a, q126b, q126c⟩ := isOf hZ95 e124 f123_0
          obtain ⟨_, _, ⟨T126, L126, k126, n126⟩, -, X126, ⟨Lc126, hQ126, l126, y126, z126⟩, st126⟩ := X124.virtualBack hx (y := (⟨"querent/hl7/LineReader", "next", "()Z"⟩ : MethodName)) (z := (⟨"querent/hl7/LineReader", "next", "()Z"⟩ : MethodName)) hown95 (mvT hZ95 (hw _ (List.mem_of_getElem? (i := 73) rfl))) (mvT hZ95 (hw _ (List.mem_of_getElem? (i := 74) rfl))) (notFace_of_selects (args := #[]) (mvT hZ95 (hw _ (List.mem_of_getElem? (i := 76) rfl)))) (mvT hZ95 (hw _ (List.mem_of_getElem? (i := 76) rfl))) (mvT hZ95 (hw _ (List.mem_of_getElem? (i := 75) rfl))) (by decide) (backOf (W := 0) (rm10 l Z a0 hw [] b94 b3 (F2_carriageReturnEnds_a1 st_CARRIAGE_RETURN_OR_LINE_FEED st_CARRIAGE_RETURN_OR_LINE_FEED) ((-(own_from p2)).toInt64) (own_to p2) x104_1 x104_2 x104_3 (1 : Int32) x104_3 x104_4 x104_5 x104_6 k3 vl T123.heap n0 Z123 f123_0 f123_1 f123_2 f123_3 f123_4 f123_5 f123_6 f123_7 f123_8 f123_9 f123_10 f123_11 f123_12 f123_13 (y105.keep K123q (ninS ne_b3_b94 nin0)) p104_1 p104_2 (show ¬ ((6 : Int32) < (own_to p2)) from (own_ft p2).2.2) g_b94 ne_b3_b94) hZ95 (hw _ (List.mem_of_getElem? (i := 77) rfl)) (hw _ (List.mem_of_getElem? (i := 10) rfl)) (by decide) (by decide)) q126a q126c (g := (mkF m 196 #[.val (.int p1), .val (.int p2), .val (.ref b3), .val (.int (own_from p2)), .val (.int (own_to p2)), .val (.ref st_CARRIAGE_RETURN_OR_LINE_FEED), .val (.int (own_rd p2)), .val (.ref b94), .val (.long (((-(own_from p2)).toInt64) + (x104_3.toInt64))), .second, .val (.int x104_3), .unset] [(.ref b94)])) rfl (by rw [hml]; rfl) (Steps.refl _) (argsL := []) (rest := []) (lenOf pd_3 rfl) rfl (by show 2 * 0 + _ ≤ _; exact Nat.le_of_eq rfl) (hb hby at_196) (fun _ _ => ⟨rfl, e124, (by decide : 6 + 0 ≤ _), (by decide : 215 + 0 ≤ _)⟩)
          dsimp only [Pt.U, Pt.locs, Pt.cells, Pt.slots] at X126 l126 y126 z126 st126 hQ126
          subst l126 y126 z126
          obtain ⟨x126_0, x126_1, x126_2, x126_3, x126_4, x126_5, x126_6, rfl, N126q, K126q, f126_0, f126_1, f126_2, f126_3, f126_4, f126_5, f126_6, f126_7, f126_8, f126_9, f126_10, f126_11, f126_12, f126_13, p126_0, p126_1, p126_2⟩ := hQ126
          have y127 := ((y105.keep K123q (ninS ne_b3_b94 nin0)).keep K126q (ninS ne_b3_b94 nin0))
          have K126 : Keep h0 T126.heap [] := (K123).trans K126q (allS (P := fun x => x ∈ [] ∨ h0.size ≤ x) (Or.inr sz_b94) all0)
          have Z126 : n0 ≤ T126.heap.size := Nat.le_trans Z123 K126q.1
          have N126 := Fr.app N124 N126q
          obtain ⟨cq128, kq128, q128a, q128b, q128c⟩ := isOf hZ95 rfl f126_0
          obtain ⟨_, _, ⟨T128, L128, k128, n128⟩, -, X128, ⟨Lc128, hQ128, l128, y128, z128⟩, st128⟩ := X126.virtualBack hx (y := (⟨"querent/hl7/LineReader", "start", "()I"⟩ : MethodName)) (z := (⟨"querent/hl7/LineReader", "start", "()I"⟩ : MethodName)) hown95 (mvT hZ95 (hw _ (List.mem_of_getElem? (i := 96) rfl))) (mvT hZ95 (hw _ (List.mem_of_getElem? (i := 97) rfl))) (notFace_of_selects (args := #[]) (mvT hZ95 (hw _ (List.mem_of_getElem? (i := 99) rfl)))) (mvT hZ95 (hw _ (List.mem_of_getElem? (i := 99) rfl))) (mvT hZ95 (hw _ (List.mem_of_getElem? (i := 98) rfl))) (by decide) (backOf (W := 0) (rm15 l Z a0 hw [] b94 x126_1 T126.heap n0 Z126 f126_6) hZ95 (hw _ (List.mem_of_getElem? (i := 100) rfl)) (hw _ (List.mem_of_getElem? (i := 10) rfl)) (by decide) (by decide)) q128a q128c (g := (mkF m 202 #[.val (.int p1), .val (.int p2), .val (.ref b3), .val (.int (own_from p2)), .val (.int (own_to p2)), .val (.ref st_CARRIAGE_RETURN_OR_LINE_FEED), .val (.int (own_rd p2)), .val (.ref b94), .val (.long (((-(own_from p2)).toInt64) + (x104_3.toInt64))), .second, .val (.int x104_3), .unset] [(.ref b94)])) rfl (by rw [hml]; rfl) (Steps.refl _) (argsL := []) (rest := []) (lenOf pd_10 rfl) rfl (by show 2 * 0 + _ ≤ _; exact Nat.le_of_eq rfl) (hb hby at_202) (fun _ _ => ⟨rfl, rfl, (by decide : 6 + 0 ≤ _), (by decide : 215 + 0 ≤ _)⟩)
          dsimp only [Pt.U, Pt.locs, Pt.cells, Pt.slots] at X128 l128 y128 z128 st128 hQ128
          subst l128 y128 z128
          obtain ⟨rfl, N128q, e128⟩ := hQ128
          have N128 := Fr.app N126 N128q
          have pre130 : ∀ t, Steps p.tables e below (T128.setTop (mkF m 211 #[.val (.int p1), .val (.int p2), .val (.ref b3), .val (.int (own_from p2)), .val (.int (own_to p2)), .val (.ref st_CARRIAGE_RETURN_OR_LINE_FEED), .val (.int (own_rd p2)), .val (.ref b94), .val (.long (((-(own_from p2)).toInt64) + (x104_3.toInt64))), .second, .val (.int x104_3), .val (.int x126_1)] [(.int x104_3), (.int x126_1)])) t → Steps p.tables e below (s₁.setTop (entryFrame m #[(.int p1), (.int p2)] maxLocals)) t := fun t kt => pre107 t (by
            show Steps p.tables e below (T104.setTop (mkF m 152 #[.val (.int p1), .val (.int p2), .val (.ref b3), .val (.int (own_from p2)), .val (.int (own_to p2)), .val (.ref st_CARRIAGE_RETURN_OR_LINE_FEED), .val (.int (own_rd p2)), .val (.ref b94), .unset, .unset, .unset, .unset] [(.int (2 : Int32)), (.int (own_rd p2))])) _
            refine XS.icmpYes X104.here hx rfl (pc0 := 152) (pc' := 161) rfl (hb hby at_152) rfl (flt hc152_106).2.2.2 (by decide) (by decide) ?_
            show Steps p.tables e below (T104.setTop (mkF m 161 #[.val (.int p1), .val (.int p2), .val (.ref b3), .val (.int (own_from p2)), .val (.int (own_to p2)), .val (.ref st_CARRIAGE_RETURN_OR_LINE_FEED), .val (.int (own_rd p2)), .val (.ref b94), .unset, .unset, .unset, .unset] [])) _
            refine XS.aload X104.here hx rfl (hb hby at_161) rfl rfl ?_
            show Steps p.tables e below (T104.setTop (mkF m 163 #[.val (.int p1), .val (.int p2), .val (.ref b3), .val (.int (own_from p2)), .val (.int (own_to p2)), .val (.ref st_CARRIAGE_RETURN_OR_LINE_FEED), .val (.int (own_rd p2)), .val (.ref b94), .unset, .unset, .unset, .unset] [(.ref b94)])) _
            refine st122.trans ?_
            show Steps p.tables e below (T122.setTop (mkF m 166 #[.val (.int p1), .val (.int p2), .val (.ref b3), .val (.int (own_from p2)), .val (.int (own_to p2)), .val (.ref st_CARRIAGE_RETURN_OR_LINE_FEED), .val (.int (own_rd p2)), .val (.ref b94), .unset, .unset, .unset, .unset] [(.long (((-(own_from p2)).toInt64) + (x104_3.toInt64)))])) _
            refine XS.lstore X122.here hx rfl (hb hby at_166) rfl (l' := #[.val (.int p1), .val (.int p2), .val (.ref b3), .val (.int (own_from p2)), .val (.int (own_to p2)), .val (.ref st_CARRIAGE_RETURN_OR_LINE_FEED), .val (.int (own_rd p2)), .val (.ref b94), .val (.long (((-(own_from p2)).toInt64) + (x104_3.toInt64))), .second, .unset, .unset]) rfl ?_
            show Steps p.tables e below (T122.setTop (mkF m 168 #[.val (.int p1), .val (.int p2), .val (.ref b3), .val (.int (own_from p2)), .val (.int (own_to p2)), .val (.ref st_CARRIAGE_RETURN_OR_LINE_FEED), .val (.int (own_rd p2)), .val (.ref b94), .val (.long (((-(own_from p2)).toInt64) + (x104_3.toInt64))), .second, .unset, .unset] [])) _
            refine XS.aload X122.here hx rfl (hb hby at_168) rfl rfl ?_
            show Steps p.tables e below (T122.setTop (mkF m 170 #[.val (.int p1), .val (.int p2), .val (.ref b3), .val (.int (own_from p2)), .val (.int (own_to p2)), .val (.ref st_CARRIAGE_RETURN_OR_LINE_FEED), .val (.int (own_rd p2)), .val (.ref b94), .val (.long (((-(own_from p2)).toInt64) + (x104_3.toInt64))), .second, .unset, .unset] [(.ref b94)])) _
            refine st123.trans ?_
            show Steps p.tables e below (T123.setTop (mkF m 173 #[.val (.int p1), .val (.int p2), .val (.ref b3), .val (.int (own_from p2)), .val (.int (own_to p2)), .val (.ref st_CARRIAGE_RETURN_OR_LINE_FEED), .val (.int (own_rd p2)), .val (.ref b94), .val (.long (((-(own_from p2)).toInt64) + (x104_3.toInt64))), .second, .unset, .unset] [])) _
            refine XS.aload X123.here hx rfl (hb hby at_173) rfl rfl ?_
            show Steps p.tables e below (T123.setTop (mkF m 175 #[.val (.int p1), .val (.int p2), .val (.ref b3), .val (.int (own_from p2)), .val (.int (own_to p2)), .val (.ref st_CARRIAGE_RETURN_OR_LINE_FEED), .val (.int (own_rd p2)), .val (.ref b94), .val (.long (((-(own_from p2)).toInt64) + (x104_3.toInt64))), .second, .unset, .unset] [(.ref b94)])) _
            refine st124.trans ?_
            show Steps p.tables e below (T124.setTop (mkF m 178 #[.val (.int p1), .val (.int p2), .val (.ref b3), .val (.int (own_from p2)), .val (.int (own_to p2)), .val (.ref st_CARRIAGE_RETURN_OR_LINE_FEED), .val (.int (own_rd p2)), .val (.ref b94), .val (.long (((-(own_from p2)).toInt64) + (x104_3.toInt64))), .second, .unset, .unset] [(.int x104_3)])) _
            refine XS.istore X124.here hx rfl (hb hby at_178) rfl (l' := #[.val (.int p1), .val (.int p2), .val (.ref b3), .val (.int (own_from p2)), .val (.int (own_to p2)), .val (.ref st_CARRIAGE_RETURN_OR_LINE_FEED), .val (.int (own_rd p2)), .val (.ref b94), .val (.long (((-(own_from p2)).toInt64) + (x104_3.toInt64))), .second, .val (.int x104_3), .unset]) rfl ?_
            show Steps p.tables e below (T124.setTop (mkF m 180 #[.val (.int p1), .val (.int p2), .val (.ref b3), .val (.int (own_from p2)), .val (.int (own_to p2)), .val (.ref st_CARRIAGE_RETURN_OR_LINE_FEED), .val (.int (own_rd p2)), .val (.ref b94), .val (.long (((-(own_from p2)).toInt64) + (x104_3.toInt64))), .second, .val (.int x104_3), .unset] [])) _
            refine XS.iload X124.here hx rfl (hb hby at_180) rfl ?_
            show Steps p.tables e below (T124.setTop (mkF m 182 #[.val (.int p1), .val (.int p2), .val (.ref b3), .val (.int (own_from p2)), .val (.int (own_to p2)), .val (.ref st_CARRIAGE_RETURN_OR_LINE_FEED), .val (.int (own_rd p2)), .val (.ref b94), .val (.long (((-(own_from p2)).toInt64) + (x104_3.toInt64))), .second, .val (.int x104_3), .unset] [(.int x104_3)])) _
            refine XS.i2l X124.here hx rfl (hb hby at_182) rfl ?_
            show Steps p.tables e below (T124.setTop (mkF m 183 #[.val (.int p1), .val (.int p2), .val (.ref b3), .val (.int (own_from p2)), .val (.int (own_to p2)), .val (.ref st_CARRIAGE_RETURN_OR_LINE_FEED), .val (.int (own_rd p2)), .val (.ref b94), .val (.long (((-(own_from p2)).toInt64) + (x104_3.toInt64))), .second, .val (.int x104_3), .unset] [(.long (x104_3.toInt64))])) _
            refine XS.lload X124.here hx rfl (hb hby at_183) rfl ?_
            show Steps p.tables e below (T124.setTop (mkF m 185 #[.val (.int p1), .val (.int p2), .val (.ref b3), .val (.int (own_from p2)), .val (.int (own_to p2)), .val (.ref st_CARRIAGE_RETURN_OR_LINE_FEED), .val (.int (own_rd p2)), .val (.ref b94), .val (.long (((-(own_from p2)).toInt64) + (x104_3.toInt64))), .second, .val (.int x104_3), .unset] [(.long (((-(own_from p2)).toInt64) + (x104_3.toInt64))), (.long (x104_3.toInt64))])) _
            refine XS.iloadN X124.here hx rfl (hb hby at_185) rfl ?_
            show Steps p.tables e below (T124.setTop (mkF m 186 #[.val (.int p1), .val (.int p2), .val (.ref b3), .val (.int (own_from p2)), .val (.int (own_to p2)), .val (.ref st_CARRIAGE_RETURN_OR_LINE_FEED), .val (.int (own_rd p2)), .val (.ref b94), .val (.long (((-(own_from p2)).toInt64) + (x104_3.toInt64))), .second, .val (.int x104_3), .unset] [(.int (own_from p2)), (.long (((-(own_from p2)).toInt64) + (x104_3.toInt64))), (.long (x104_3.toInt64))])) _
            refine XS.i2l X124.here hx rfl (hb hby at_186) rfl ?_
            show Steps p.tables e below (T124.setTop (mkF m 187 #[.val (.int p1), .val (.int p2), .val (.ref b3), .val (.int (own_from p2)), .val (.int (own_to p2)), .val (.ref st_CARRIAGE_RETURN_OR_LINE_FEED), .val (.int (own_rd p2)), .val (.ref b94), .val (.long (((-(own_from p2)).toInt64) + (x104_3.toInt64))), .second, .val (.int x104_3), .unset] [(.long ((own_from p2).toInt64)), (.long (((-(own_from p2)).toInt64) + (x104_3.toInt64))), (.long (x104_3.toInt64))])) _
            refine XS.ladd X124.here hx rfl (hb hby at_187) rfl ?_
            show Steps p.tables e below (T124.setTop (mkF m 188 #[.val (.int p1), .val (.int p2), .val (.ref b3), .val (.int (own_from p2)), .val (.int (own_to p2)), .val (.ref st_CARRIAGE_RETURN_OR_LINE_FEED), .val (.int (own_rd p2)), .val (.ref b94), .val (.long (((-(own_from p2)).toInt64) + (x104_3.toInt64))), .second, .val (.int x104_3), .unset] [(.long ((((-(own_from p2)).toInt64) + (x104_3.toInt64)) + ((own_from p2).toInt64))), (.long (x104_3.toInt64))])) _
            refine XS.lcmp X124.here hx rfl (hb hby at_188) rfl ?_
            show Steps p.tables e below (T124.setTop (mkF m 189 #[.val (.int p1), .val (.int p2), .val (.ref b3), .val (.int (own_from p2)), .val (.int (own_to p2)), .val (.ref st_CARRIAGE_RETURN_OR_LINE_FEED), .val (.int (own_rd p2)), .val (.ref b94), .val (.long (((-(own_from p2)).toInt64) + (x104_3.toInt64))), .second, .val (.int x104_3), .unset] [(.int (lcmpW (x104_3.toInt64) ((((-(own_from p2)).toInt64) + (x104_3.toInt64)) + ((own_from p2).toInt64))))])) _
            refine XS.ifYes X124.here hx rfl (pc0 := 189) (pc' := 194) rfl (hb hby at_189) rfl ((if0 _ _).trans (teq ((lw_eq (x104_3.toInt64) ((((-(own_from p2)).toInt64) + (x104_3.toInt64)) + ((own_from p2).toInt64))).mpr hc189_125)).1) (by decide) (by decide) ?_
            show Steps p.tables e below (T124.setTop (mkF m 194 #[.val (.int p1), .val (.int p2), .val (.ref b3), .val (.int (own_from p2)), .val (.int (own_to p2)), .val (.ref st_CARRIAGE_RETURN_OR_LINE_FEED), .val (.int (own_rd p2)), .val (.ref b94), .val (.long (((-(own_from p2)).toInt64) + (x104_3.toInt64))), .second, .val (.int x104_3), .unset] [])) _
            refine XS.aload X124.here hx rfl (hb hby at_194) rfl rfl ?_
            show Steps p.tables e below (T124.setTop (mkF m 196 #[.val (.int p1), .val (.int p2), .val (.ref b3), .val (.int (own_from p2)), .val (.int (own_to p2)), .val (.ref st_CARRIAGE_RETURN_OR_LINE_FEED), .val (.int (own_rd p2)), .val (.ref b94), .val (.long (((-(own_from p2)).toInt64) + (x104_3.toInt64))), .second, .val (.int x104_3), .unset] [(.ref b94)])) _
            refine st126.trans ?_
            show Steps p.tables e below (T126.setTop (mkF m 199 #[.val (.int p1), .val (.int p2), .val (.ref b3), .val (.int (own_from p2)), .val (.int (own_to p2)), .val (.ref st_CARRIAGE_RETURN_OR_LINE_FEED), .val (.int (own_rd p2)), .val (.ref b94), .val (.long (((-(own_from p2)).toInt64) + (x104_3.toInt64))), .second, .val (.int x104_3), .unset] [(.int x126_0)])) _
            refine XS.pop X126.here hx rfl (hb hby at_199) rfl rfl ?_
            show Steps p.tables e below (T126.setTop (mkF m 200 #[.val (.int p1), .val (.int p2), .val (.ref b3), .val (.int (own_from p2)), .val (.int (own_to p2)), .val (.ref st_CARRIAGE_RETURN_OR_LINE_FEED), .val (.int (own_rd p2)), .val (.ref b94), .val (.long (((-(own_from p2)).toInt64) + (x104_3.toInt64))), .second, .val (.int x104_3), .unset] [])) _
            refine XS.aload X126.here hx rfl (hb hby at_200) rfl rfl ?_
            show Steps p.tables e below (T126.setTop (mkF m 202 #[.val (.int p1), .val (.int p2), .val (.ref b3), .val (.int (own_from p2)), .val (.int (own_to p2)), .val (.ref st_CARRIAGE_RETURN_OR_LINE_FEED), .val (.int (own_rd p2)), .val (.ref b94), .val (.long (((-(own_from p2)).toInt64) + (x104_3.toInt64))), .second, .val (.int x104_3), .unset] [(.ref b94)])) _
            refine st128.trans ?_
            show Steps p.tables e below (T128.setTop (mkF m 205 #[.val (.int p1), .val (.int p2), .val (.ref b3), .val (.int (own_from p2)), .val (.int (own_to p2)), .val (.ref st_CARRIAGE_RETURN_OR_LINE_FEED), .val (.int (own_rd p2)), .val (.ref b94), .val (.long (((-(own_from p2)).toInt64) + (x104_3.toInt64))), .second, .val (.int x104_3), .unset] [(.int x126_1)])) _
            refine XS.istore X128.here hx rfl (hb hby at_205) rfl (l' := #[.val (.int p1), .val (.int p2), .val (.ref b3), .val (.int (own_from p2)), .val (.int (own_to p2)), .val (.ref st_CARRIAGE_RETURN_OR_LINE_FEED), .val (.int (own_rd p2)), .val (.ref b94), .val (.long (((-(own_from p2)).toInt64) + (x104_3.toInt64))), .second, .val (.int x104_3), .val (.int x126_1)]) rfl ?_
            show Steps p.tables e below (T128.setTop (mkF m 207 #[.val (.int p1), .val (.int p2), .val (.ref b3), .val (.int (own_from p2)), .val (.int (own_to p2)), .val (.ref st_CARRIAGE_RETURN_OR_LINE_FEED), .val (.int (own_rd p2)), .val (.ref b94), .val (.long (((-(own_from p2)).toInt64) + (x104_3.toInt64))), .second, .val (.int x104_3), .val (.int x126_1)] [])) _
            refine XS.iload X128.here hx rfl (hb hby at_207) rfl ?_
            show Steps p.tables e below (T128.setTop (mkF m 209 #[.val (.int p1), .val (.int p2), .val (.ref b3), .val (.int (own_from p2)), .val (.int (own_to p2)), .val (.ref st_CARRIAGE_RETURN_OR_LINE_FEED), .val (.int (own_rd p2)), .val (.ref b94), .val (.long (((-(own_from p2)).toInt64) + (x104_3.toInt64))), .second, .val (.int x104_3), .val (.int x126_1)] [(.int x126_1)])) _
            refine XS.iload X128.here hx rfl (hb hby at_209) rfl ?_
            show Steps p.tables e below (T128.setTop (mkF m 211 #[.val (.int p1), .val (.int p2), .val (.ref b3), .val (.int (own_from p2)), .val (.int (own_to p2)), .val (.ref st_CARRIAGE_RETURN_OR_LINE_FEED), .val (.int (own_rd p2)), .val (.ref b94), .val (.long (((-(own_from p2)).toInt64) + (x104_3.toInt64))), .second, .val (.int x104_3), .val (.int x126_1)] [(.int x104_3), (.int x126_1)])) _
            exact kt)
          by_cases hc211_129 : x126_1 = x104_3
          · obtain ⟨fs, hr, hrun, hended, hEW⟩ := X128.leaveW hS95 (by rw [e128]; exact (Nat.le_trans (Nat.le_trans (Nat.le_trans (Nat.le_trans (Nat.le_refl _) K101q.1) K104q.1) K123q.1) K126q.1)) (v := some (.int (1 : Int32))) (fun h => by rw [Bd.returns] at h; cases h)
            refine ⟨_, _, pre130 _ ?_, hrun, hended, _, _, rfl, ?_, ⟨_, rfl⟩, hEW.2.1, hEW.2.2.1, hEW.2.2.2.mono (by decide) (by decide)⟩
            · show Steps p.tables e below (T128.setTop (mkF m 211 #[.val (.int p1), .val (.int p2), .val (.ref b3), .val (.int (own_from p2)), .val (.int (own_to p2)), .val (.ref st_CARRIAGE_RETURN_OR_LINE_FEED), .val (.int (own_rd p2)), .val (.ref b94), .val (.long (((-(own_from p2)).toInt64) + (x104_3.toInt64))), .second, .val (.int x104_3), .val (.int x126_1)] [(.int x104_3), (.int x126_1)])) _
              refine XS.icmpNo X128.here hx rfl (hb hby at_211) rfl (teq hc211_129).2 ?_
              show Steps p.tables e below (T128.setTop (mkF m 214 #[.val (.int p1), .val (.int p2), .val (.ref b3), .val (.int (own_from p2)), .val (.int (own_to p2)), .val (.ref st_CARRIAGE_RETURN_OR_LINE_FEED), .val (.int (own_rd p2)), .val (.ref b94), .val (.long (((-(own_from p2)).toInt64) + (x104_3.toInt64))), .second, .val (.int x104_3), .val (.int x126_1)] [])) _
              refine XS.iconst X128.here hx rfl (hb hby at_214) ?_
              show Steps p.tables e below (T128.setTop (mkF m 215 #[.val (.int p1), .val (.int p2), .val (.ref b3), .val (.int (own_from p2)), .val (.int (own_to p2)), .val (.ref st_CARRIAGE_RETURN_OR_LINE_FEED), .val (.int (own_rd p2)), .val (.ref b94), .val (.long (((-(own_from p2)).toInt64) + (x104_3.toInt64))), .second, .val (.int x104_3), .val (.int x126_1)] [(.int (1 : Int32))])) _
              exact retN X128 hx (t := .boolean) Bd.returns (by simp) (hb hby at_215) hr
            · show Q0 Z p1 p2 st_LINE_FEED st_CARRIAGE_RETURN_OR_LINE_FEED h0 n0 _ T128.heap _
              rw [e128]
              exact ⟨rfl, N128⟩
          · have hc222_131 : x126_1 = (x104_3 + (1 : Int32)) := (own_dj p126_0 hc211_129).1
            obtain ⟨cq132, kq132, q132a, q132b, q132c⟩ := isOf hZ95 e128 f126_0
            obtain ⟨_, _, ⟨T132, L132, k132, n132⟩, -, X132, ⟨Lc132, hQ132, l132, y132, z132⟩, st132⟩ := X128.virtualBack hx (y := (⟨"querent/hl7/LineReader", "bytes", "()[B"⟩ : MethodName)) (z := (⟨"querent/hl7/LineReader", "bytes", "()[B"⟩ : MethodName)) hown95 (mvT hZ95 (hw _ (List.mem_of_getElem? (i := 114) rfl))) (mvT hZ95 (hw _ (List.mem_of_getElem? (i := 115) rfl))) (notFace_of_selects (args := #[]) (mvT hZ95 (hw _ (List.mem_of_getElem? (i := 117) rfl)))) (mvT hZ95 (hw _ (List.mem_of_getElem? (i := 117) rfl))) (mvT hZ95 (hw _ (List.mem_of_getElem? (i := 116) rfl))) (by decide) (backOf (W := 0) (rm18 l Z a0 hw [] b94 b3 T126.heap n0 Z126 f126_2) hZ95 (hw _ (List.mem_of_getElem? (i := 118) rfl)) (hw _ (List.mem_of_getElem? (i := 10) rfl)) (by decide) (by decide)) q132a q132c (g := (mkF m 227 #[.val (.int p1), .val (.int p2), .val (.ref b3), .val (.int (own_from p2)), .val (.int (own_to p2)), .val (.ref st_CARRIAGE_RETURN_OR_LINE_FEED), .val (.int (own_rd p2)), .val (.ref b94), .val (.long (((-(own_from p2)).toInt64) + (x104_3.toInt64))), .second, .val (.int x104_3), .val (.int x126_1)] [(.ref b94)])) rfl (by rw [hml]; rfl) (Steps.refl _) (argsL := []) (rest := []) (lenOf pd_11 rfl) rfl (by show 2 * 0 + _ ≤ _; exact Nat.le_of_eq rfl) (hb hby at_227) (fun _ _ => ⟨rfl, e128, (by decide : 6 + 0 ≤ _), (by decide : 215 + 0 ≤ _)⟩)
            dsimp only [Pt.U, Pt.locs, Pt.cells, Pt.slots] at X132 l132 y132 z132 st132 hQ132
            subst l132 y132 z132
            obtain ⟨rfl, N132q, e132⟩ := hQ132
            have N132 := Fr.app N128 N132q
            obtain ⟨cl133, Ar133, qq133, S133, NN133, HH133, GG133⟩ := id y127
            have hin133 : ¬ (x104_3 < 0 ∨ cl133.slots.size ≤ (x104_3).toNatClampNeg) := inb_of S133 ⟨p104_1, (show x104_3 < (6 : Int32) from own_lt6 (own_dj p126_0 hc211_129).2.2 (own_ft p2).2.2)⟩
            have hat133 : cl133.slots[(x104_3).toNatClampNeg]? = some (.int (own_at vl x104_3)) := Has.at HH133 hin133 (own_atv vl x104_3)
            have hc235_134 : (own_at vl x104_3) = (10 : Int32) := (own_dj p126_0 hc211_129).2.1
            obtain ⟨fs, hr, hrun, hended, hEW⟩ := X132.leaveW hS95 (by rw [e132]; exact (Nat.le_trans (Nat.le_trans (Nat.le_trans (Nat.le_trans (Nat.le_refl _) K101q.1) K104q.1) K123q.1) K126q.1)) (v := some (.int (1 : Int32))) (fun h => by rw [Bd.returns] at h; cases h)
            refine ⟨_, _, pre130 _ ?_, hrun, hended, _, _, rfl, ?_, ⟨_, rfl⟩, hEW.2.1, hEW.2.2.1, hEW.2.2.2.mono (by decide) (by decide)⟩
            · show Steps p.tables e below (T128.setTop (mkF m 211 #[.val (.int p1), .val (.int p2), .val (.ref b3), .val (.int (own_from p2)), .val (.int (own_to p2)), .val (.ref st_CARRIAGE_RETURN_OR_LINE_FEED), .val (.int (own_rd p2)), .val (.ref b94), .val (.long (((-(own_from p2)).toInt64) + (x104_3.toInt64))), .second, .val (.int x104_3), .val (.int x126_1)] [(.int x104_3), (.int x126_1)])) _
              refine XS.icmpYes X128.here hx rfl (pc0 := 211) (pc' := 216) rfl (hb hby at_211) rfl (feq hc211_129).2 (by decide) (by decide) ?_
              show Steps p.tables e below (T128.setTop (mkF m 216 #[.val (.int p1), .val (.int p2), .val (.ref b3), .val (.int (own_from p2)), .val (.int (own_to p2)), .val (.ref st_CARRIAGE_RETURN_OR_LINE_FEED), .val (.int (own_rd p2)), .val (.ref b94), .val (.long (((-(own_from p2)).toInt64) + (x104_3.toInt64))), .second, .val (.int x104_3), .val (.int x126_1)] [])) _
              refine XS.iload X128.here hx rfl (hb hby at_216) rfl ?_
              show Steps p.tables e below (T128.setTop (mkF m 218 #[.val (.int p1), .val (.int p2), .val (.ref b3), .val (.int (own_from p2)), .val (.int (own_to p2)), .val (.ref st_CARRIAGE_RETURN_OR_LINE_FEED), .val (.int (own_rd p2)), .val (.ref b94), .val (.long (((-(own_from p2)).toInt64) + (x104_3.toInt64))), .second, .val (.int x104_3), .val (.int x126_1)] [(.int x126_1)])) _
              refine XS.iload X128.here hx rfl (hb hby at_218) rfl ?_
              show Steps p.tables e below (T128.setTop (mkF m 220 #[.val (.int p1), .val (.int p2), .val (.ref b3), .val (.int (own_from p2)), .val (.int (own_to p2)), .val (.ref st_CARRIAGE_RETURN_OR_LINE_FEED), .val (.int (own_rd p2)), .val (.ref b94), .val (.long (((-(own_from p2)).toInt64) + (x104_3.toInt64))), .second, .val (.int x104_3), .val (.int x126_1)] [(.int x104_3), (.int x126_1)])) _
              refine XS.iconst X128.here hx rfl (hb hby at_220) ?_
              show Steps p.tables e below (T128.setTop (mkF m 221 #[.val (.int p1), .val (.int p2), .val (.ref b3), .val (.int (own_from p2)), .val (.int (own_to p2)), .val (.ref st_CARRIAGE_RETURN_OR_LINE_FEED), .val (.int (own_rd p2)), .val (.ref b94), .val (.long (((-(own_from p2)).toInt64) + (x104_3.toInt64))), .second, .val (.int x104_3), .val (.int x126_1)] [(.int (1 : Int32)), (.int x104_3), (.int x126_1)])) _
              refine XS.iadd X128.here hx rfl (hb hby at_221) rfl ?_
              show Steps p.tables e below (T128.setTop (mkF m 222 #[.val (.int p1), .val (.int p2), .val (.ref b3), .val (.int (own_from p2)), .val (.int (own_to p2)), .val (.ref st_CARRIAGE_RETURN_OR_LINE_FEED), .val (.int (own_rd p2)), .val (.ref b94), .val (.long (((-(own_from p2)).toInt64) + (x104_3.toInt64))), .second, .val (.int x104_3), .val (.int x126_1)] [(.int (x104_3 + (1 : Int32))), (.int x126_1)])) _
              refine XS.icmpNo X128.here hx rfl (hb hby at_222) rfl (teq hc222_131).2 ?_
              show Steps p.tables e below (T128.setTop (mkF m 225 #[.val (.int p1), .val (.int p2), .val (.ref b3), .val (.int (own_from p2)), .val (.int (own_to p2)), .val (.ref st_CARRIAGE_RETURN_OR_LINE_FEED), .val (.int (own_rd p2)), .val (.ref b94), .val (.long (((-(own_from p2)).toInt64) + (x104_3.toInt64))), .second, .val (.int x104_3), .val (.int x126_1)] [])) _
              refine XS.aload X128.here hx rfl (hb hby at_225) rfl rfl ?_
              show Steps p.tables e below (T128.setTop (mkF m 227 #[.val (.int p1), .val (.int p2), .val (.ref b3), .val (.int (own_from p2)), .val (.int (own_to p2)), .val (.ref st_CARRIAGE_RETURN_OR_LINE_FEED), .val (.int (own_rd p2)), .val (.ref b94), .val (.long (((-(own_from p2)).toInt64) + (x104_3.toInt64))), .second, .val (.int x104_3), .val (.int x126_1)] [(.ref b94)])) _
              refine st132.trans ?_
              show Steps p.tables e below (T132.setTop (mkF m 230 #[.val (.int p1), .val (.int p2), .val (.ref b3), .val (.int (own_from p2)), .val (.int (own_to p2)), .val (.ref st_CARRIAGE_RETURN_OR_LINE_FEED), .val (.int (own_rd p2)), .val (.ref b94), .val (.long (((-(own_from p2)).toInt64) + (x104_3.toInt64))), .second, .val (.int x104_3), .val (.int x126_1)] [(.ref b3)])) _
              refine XS.iload X132.here hx rfl (hb hby at_230) rfl ?_
              show Steps p.tables e below (T132.setTop (mkF m 232 #[.val (.int p1), .val (.int p2), .val (.ref b3), .val (.int (own_from p2)), .val (.int (own_to p2)), .val (.ref st_CARRIAGE_RETURN_OR_LINE_FEED), .val (.int (own_rd p2)), .val (.ref b94), .val (.long (((-(own_from p2)).toInt64) + (x104_3.toInt64))), .second, .val (.int x104_3), .val (.int x126_1)] [(.int x104_3), (.ref b3)])) _
              refine X132.baloadBytes hx (j := x104_3) (v := (.int (own_at vl x104_3))) (by rw [e132]; exact Ar133.1) (State.isArrayOf_alike hZ95.alike Ar133.2.1) Ar133.2.2 hin133 hat133 (g := (mkF m 232 #[.val (.int p1), .val (.int p2), .val (.ref b3), .val (.int (own_from p2)), .val (.int (own_to p2)), .val (.ref st_CARRIAGE_RETURN_OR_LINE_FEED), .val (.int (own_rd p2)), .val (.ref b94), .val (.long (((-(own_from p2)).toInt64) + (x104_3.toInt64))), .second, .val (.int x104_3), .val (.int x126_1)] [(.int x104_3), (.ref b3)])) rfl rfl (hb hby at_232) _ ?_
              show Steps p.tables e below (T132.setTop (mkF m 233 #[.val (.int p1), .val (.int p2), .val (.ref b3), .val (.int (own_from p2)), .val (.int (own_to p2)), .val (.ref st_CARRIAGE_RETURN_OR_LINE_FEED), .val (.int (own_rd p2)), .val (.ref b94), .val (.long (((-(own_from p2)).toInt64) + (x104_3.toInt64))), .second, .val (.int x104_3), .val (.int x126_1)] [(.int (own_at vl x104_3))])) _
              refine XS.bipush X132.here hx rfl (hb hby at_233) ?_
              show Steps p.tables e below (T132.setTop (mkF m 235 #[.val (.int p1), .val (.int p2), .val (.ref b3), .val (.int (own_from p2)), .val (.int (own_to p2)), .val (.ref st_CARRIAGE_RETURN_OR_LINE_FEED), .val (.int (own_rd p2)), .val (.ref b94), .val (.long (((-(own_from p2)).toInt64) + (x104_3.toInt64))), .second, .val (.int x104_3), .val (.int x126_1)] [(.int (10 : Int32)), (.int (own_at vl x104_3))])) _
              refine XS.icmpNo X132.here hx rfl (hb hby at_235) rfl (teq hc235_134).2 ?_
              show Steps p.tables e below (T132.setTop (mkF m 238 #[.val (.int p1), .val (.int p2), .val (.ref b3), .val (.int (own_from p2)), .val (.int (own_to p2)), .val (.ref st_CARRIAGE_RETURN_OR_LINE_FEED), .val (.int (own_rd p2)), .val (.ref b94), .val (.long (((-(own_from p2)).toInt64) + (x104_3.toInt64))), .second, .val (.int x104_3), .val (.int x126_1)] [])) _
              refine XS.iconst X132.here hx rfl (hb hby at_238) ?_
              show Steps p.tables e below (T132.setTop (mkF m 239 #[.val (.int p1), .val (.int p2), .val (.ref b3), .val (.int (own_from p2)), .val (.int (own_to p2)), .val (.ref st_CARRIAGE_RETURN_OR_LINE_FEED), .val (.int (own_rd p2)), .val (.ref b94), .val (.long (((-(own_from p2)).toInt64) + (x104_3.toInt64))), .second, .val (.int x104_3), .val (.int x126_1)] [(.int (1 : Int32))])) _
              refine XS.goto X132.here hx rfl (pc0 := 239) (pc' := 243) rfl (hb hby at_239) (by decide) (by decide) ?_
              show Steps p.tables e below (T132.setTop (mkF m 243 #[.val (.int p1), .val (.int p2), .val (.ref b3), .val (.int (own_from p2)), .val (.int (own_to p2)), .val (.ref st_CARRIAGE_RETURN_OR_LINE_FEED), .val (.int (own_rd p2)), .val (.ref b94), .val (.long (((-(own_from p2)).toInt64) + (x104_3.toInt64))), .second, .val (.int x104_3), .val (.int x126_1)] [(.int (1 : Int32))])) _
              exact retN X132 hx (t := .boolean) Bd.returns (by simp) (hb hby at_243) hr
            · show Q0 Z p1 p2 st_LINE_FEED st_CARRIAGE_RETURN_OR_LINE_FEED h0 n0 _ T132.heap _
              rw [e132]
              exact ⟨rfl, N132⟩
      · have hc152_135 : ¬ ((2 : Int32) < (own_rd p2)) := own_r2 hc140_102
        obtain ⟨cq136, kq136, q136a, q136b, q136c⟩ := isOf hZ95 rfl f101_0
        obtain ⟨_, _, ⟨T136, L136, k136, n136⟩, -, X136, ⟨Lc136, hQ136, l136, y136, z136⟩, st136⟩ := X101.virtualBack hx (y := (⟨"querent/hl7/LineReader", "offset", "()J"⟩ : MethodName)) (z := (⟨"querent/hl7/LineReader", "offset", "()J"⟩ : MethodName)) hown95 (mvT hZ95 (hw _ (List.mem_of_getElem? (i := 54) rfl))) (mvT hZ95 (hw _ (List.mem_of_getElem? (i := 55) rfl))) (notFace_of_selects (args := #[]) (mvT hZ95 (hw _ (List.mem_of_getElem? (i := 57) rfl)))) (mvT hZ95 (hw _ (List.mem_of_getElem? (i := 57) rfl))) (mvT hZ95 (hw _ (List.mem_of_getElem? (i := 56) rfl))) (by decide) (backOf (W := 0) (rm7 l Z a0 hw [] b94 ((-(own_from p2)).toInt64) x101_3 T101.heap n0 Z101 f101_4 f101_8) hZ95 (hw _ (List.mem_of_getElem? (i := 58) rfl)) (hw _ (List.mem_of_getElem? (i := 10) rfl)) (by decide) (by decide)) q136a q136c (g := (mkF m 163 #[.val (.int p1), .val (.int p2), .val (.ref b3), .val (.int (own_from p2)), .val (.int (own_to p2)), .val (.ref st_CARRIAGE_RETURN_OR_LINE_FEED), .val (.int (own_rd p2)), .val (.ref b94), .unset, .unset, .unset, .unset] [(.ref b94)])) rfl (by rw [hml]; rfl) (Steps.refl _) (argsL := []) (rest := []) (lenOf pd_9 rfl) rfl (by show 2 * 0 + _ ≤ _; exact Nat.le_of_eq rfl) (hb hby at_163) (fun _ _ => ⟨rfl, rfl, (by decide : 6 + 0 ≤ _), (by decide : 215 + 0 ≤ _)⟩)
        dsimp only [Pt.U, Pt.locs, Pt.cells, Pt.slots] at X136 l136 y136 z136 st136 hQ136
        subst l136 y136 z136
        obtain ⟨rfl, N136q, e136⟩ := hQ136
        have N136 := Fr.app N101 N136q
        obtain ⟨cq137, kq137, q137a, q137b, q137c⟩ := isOf hZ95 e136 f101_0
        obtain ⟨_, _, ⟨T137, L137, k137, n137⟩, -, X137, ⟨Lc137, hQ137, l137, y137, z137⟩, st137⟩ := X136.virtualBack hx (y := (⟨"querent/hl7/LineReader", "keepFromNext", "()V"⟩ : MethodName)) (z := (⟨"querent/hl7/LineReader", "keepFromNext", "()V"⟩ : MethodName)) hown95 (mvT hZ95 (hw _ (List.mem_of_getElem? (i := 59) rfl))) (mvT hZ95 (hw _ (List.mem_of_getElem? (i := 60) rfl))) (notFace_of_selects (args := #[]) (mvT hZ95 (hw _ (List.mem_of_getElem? (i := 62) rfl)))) (mvT hZ95 (hw _ (List.mem_of_getElem? (i := 62) rfl))) (mvT hZ95 (hw _ (List.mem_of_getElem? (i := 61) rfl))) (by decide) (backOf (W := 0) (rm8 l Z a0 hw [] b94 b3 (F2_carriageReturnEnds_a1 st_CARRIAGE_RETURN_OR_LINE_FEED st_CARRIAGE_RETURN_OR_LINE_FEED) ((-(own_from p2)).toInt64) (own_to p2) x101_1 x101_2 x101_3 (0 : Int32) (0 : Int32) x101_4 x101_5 x101_6 T101.heap n0 Z101 f101_0 f101_1 f101_2 f101_3 f101_4 f101_5 f101_6 f101_7 f101_8 f101_9 f101_10 f101_11 f101_12 f101_13 g_b94) hZ95 (hw _ (List.mem_of_getElem? (i := 63) rfl)) (hw _ (List.mem_of_getElem? (i := 10) rfl)) (by decide) (by decide)) q137a q137c (g := (mkF m 170 #[.val (.int p1), .val (.int p2), .val (.ref b3), .val (.int (own_from p2)), .val (.int (own_to p2)), .val (.ref st_CARRIAGE_RETURN_OR_LINE_FEED), .val (.int (own_rd p2)), .val (.ref b94), .val (.long (((-(own_from p2)).toInt64) + (x101_3.toInt64))), .second, .unset, .unset] [(.ref b94)])) rfl (by rw [hml]; rfl) (Steps.refl _) (argsL := []) (rest := []) (lenOf pd_4 rfl) rfl (by show 2 * 0 + _ ≤ _; exact Nat.le_of_eq rfl) (hb hby at_170) (fun _ _ => ⟨rfl, e136, (by decide : 6 + 0 ≤ _), (by decide : 215 + 0 ≤ _)⟩)
        dsimp only [Pt.U, Pt.locs, Pt.cells, Pt.slots] at X137 l137 y137 z137 st137 hQ137
        subst l137 y137 z137
        obtain ⟨rfl, N137q, K137q, f137_0, f137_1, f137_2, f137_3, f137_4, f137_5, f137_6, f137_7, f137_8, f137_9, f137_10, f137_11, f137_12, f137_13⟩ := hQ137
        have y138 := ((y98.keep K101q (ninS ne_b3_b94 nin0)).keep K137q (ninS ne_b3_b94 nin0))
        have K137 : Keep h0 T137.heap [] := (K101).trans K137q (allS (P := fun x => x ∈ [] ∨ h0.size ≤ x) (Or.inr sz_b94) all0)
        have Z137 : n0 ≤ T137.heap.size := Nat.le_trans Z101 K137q.1
        have N137 := Fr.app N136 N137q
        obtain ⟨cq139, kq139, q139a, q139b, q139c⟩ := isOf hZ95 rfl f137_0
        obtain ⟨_, _, ⟨T139, L139, k139, n139⟩, -, X139, ⟨Lc139, hQ139, l139, y139, z139⟩, st139⟩ := X137.virtualBack hx (y := (⟨"querent/hl7/LineReader", "kept", "()I"⟩ : MethodName)) (z := (⟨"querent/hl7/LineReader", "kept", "()I"⟩ : MethodName)) hown95 (mvT hZ95 (hw _ (List.mem_of_getElem? (i := 68) rfl))) (mvT hZ95 (hw _ (List.mem_of_getElem? (i := 69) rfl))) (notFace_of_selects (args := #[]) (mvT hZ95 (hw _ (List.mem_of_getElem? (i := 71) rfl)))) (mvT hZ95 (hw _ (List.mem_of_getElem? (i := 71) rfl))) (mvT hZ95 (hw _ (List.mem_of_getElem? (i := 70) rfl))) (by decide) (backOf (W := 0) (rm9 l Z a0 hw [] b94 x101_3 T137.heap n0 Z137 f137_10) hZ95 (hw _ (List.mem_of_getElem? (i := 72) rfl)) (hw _ (List.mem_of_getElem? (i := 10) rfl)) (by decide) (by decide)) q139a q139c (g := (mkF m 175 #[.val (.int p1), .val (.int p2), .val (.ref b3), .val (.int (own_from p2)), .val (.int (own_to p2)), .val (.ref st_CARRIAGE_RETURN_OR_LINE_FEED), .val (.int (own_rd p2)), .val (.ref b94), .val (.long (((-(own_from p2)).toInt64) + (x101_3.toInt64))), .second, .unset, .unset] [(.ref b94)])) rfl (by rw [hml]; rfl) (Steps.refl _) (argsL := []) (rest := []) (lenOf pd_10 rfl) rfl (by show 2 * 0 + _ ≤ _; exact Nat.le_of_eq rfl) (hb hby at_175) (fun _ _ => ⟨rfl, rfl, (by decide : 6 + 0 ≤ _), (by decide : 215 + 0 ≤ _)⟩)
        dsimp only [Pt.U, Pt.locs, Pt.cells, Pt.slots] at X139 l139 y139 z139 st139 hQ139
        subst l139 y139 z139
        obtain ⟨rfl, N139q, e139⟩ := hQ139
        have N139 := Fr.app N137 N139q
        have hc189_140 : (x101_3.toInt64) = ((((-(own_from p2)).toInt64) + (x101_3.toInt64)) + ((own_from p2).toInt64)) := own_off p2 p101_1 p101_2
        obtain ⟨cq141, kq141, q141a, q141b, q141c⟩ := isOf hZ95 e139 f137_0
        obtain ⟨_, _, ⟨T141, L141, k141, n141⟩, -, X141, ⟨Lc141, hQ141, l141, y141, z141⟩, st141⟩ := X139.virtualBack hx (y := (⟨"querent/hl7/LineReader", "next", "()Z"⟩ : MethodName)) (z := (⟨"querent/hl7/LineReader", "next", "()Z"⟩ : MethodName)) hown95 (mvT hZ95 (hw _ (List.mem_of_getElem? (i := 73) rfl))) (mvT hZ95 (hw _ (List.mem_of_getElem? (i := 74) rfl))) (notFace_of_selects (args := #[]) (mvT hZ95 (hw _ (List.mem_of_getElem? (i := 76) rfl)))) (mvT hZ95 (hw _ (List.mem_of_getElem? (i := 76) rfl))) (mvT hZ95 (hw _ (List.mem_of_getElem? (i := 75) rfl))) (by decide) (backOf (W := 0) (rm10 l Z a0 hw [] b94 b3 (F2_carriageReturnEnds_a1 st_CARRIAGE_RETURN_OR_LINE_FEED st_CARRIAGE_RETURN_OR_LINE_FEED) ((-(own_from p2)).toInt64) (own_to p2) x101_1 x101_2 x101_3 (1 : Int32) x101_3 x101_4 x101_5 x101_6 k3 vl T137.heap n0 Z137 f137_0 f137_1 f137_2 f137_3 f137_4 f137_5 f137_6 f137_7 f137_8 f137_9 f137_10 f137_11 f137_12 f137_13 y138 p101_1 p101_2 (show ¬ ((6 : Int32) < (own_to p2)) from (own_ft p2).2.2) g_b94 ne_b3_b94) hZ95 (hw _ (List.mem_of_getElem? (i := 77) rfl)) (hw _ (List.mem_of_getElem? (i := 10) rfl)) (by decide) (by decide)) q141a q141c (g := (mkF m 196 #[.val (.int p1), .val (.int p2), .val (.ref b3), .val (.int (own_from p2)), .val (.int (own_to p2)), .val (.ref st_CARRIAGE_RETURN_OR_LINE_FEED), .val (.int (own_rd p2)), .val (.ref b94), .val (.long (((-(own_from p2)).toInt64) + (x101_3.toInt64))), .second, .val (.int x101_3), .unset] [(.ref b94)])) rfl (by rw [hml]; rfl) (Steps.refl _) (argsL := []) (rest := []) (lenOf pd_3 rfl) rfl (by show 2 * 0 + _ ≤ _; exact Nat.le_of_eq rfl) (hb hby at_196) (fun _ _ => ⟨rfl, e139, (by decide : 6 + 0 ≤ _), (by decide : 215 + 0 ≤ _)⟩)
        dsimp only [Pt.U, Pt.locs, Pt.cells, Pt.slots] at X141 l141 y141 z141 st141 hQ141
        subst l141 y141 z141
        obtain ⟨x141_0, x141_1, x141_2, x141_3, x141_4, x141_5, x141_6, rfl, N141q, K141q, f141_0, f141_1, f141_2, f141_3, f141_4, f141_5, f141_6, f141_7, f141_8, f141_9, f141_10, f141_11, f141_12, f141_13, p141_0, p141_1, p141_2⟩ := hQ141
        have K141 : Keep h0 T141.heap [] := (K137).trans K141q (allS (P := fun x => x ∈ [] ∨ h0.size ≤ x) (Or.inr sz_b94) all0)
        have Z141 : n0 ≤ T141.heap.size := Nat.le_trans Z137 K141q.1
        have N141 := Fr.app N139 N141q
        obtain ⟨cq142, kq142, q142a, q142b, q142c⟩ := isOf hZ95 rfl f141_0
        obtain ⟨_, _, ⟨T142, L142, k142, n142⟩, -, X142, ⟨Lc142, hQ142, l142, y142, z142⟩, st142⟩ := X141.virtualBack hx (y := (⟨"querent/hl7/LineReader", "start", "()I"⟩ : MethodName)) (z := (⟨"querent/hl7/LineReader", "start", "()I"⟩ : MethodName)) hown95 (mvT hZ95 (hw _ (List.mem_of_getElem? (i := 96) rfl))) (mvT hZ95 (hw _ (List.mem_of_getElem? (i := 97) rfl))) (notFace_of_selects (args := #[]) (mvT hZ95 (hw _ (List.mem_of_getElem? (i := 99) rfl)))) (mvT hZ95 (hw _ (List.mem_of_getElem? (i := 99) rfl))) (mvT hZ95 (hw _ (List.mem_of_getElem? (i := 98) rfl))) (by decide) (backOf (W := 0) (rm15 l Z a0 hw [] b94 x141_1 T141.heap n0 Z141 f141_6) hZ95 (hw _ (List.mem_of_getElem? (i := 100) rfl)) (hw _ (List.mem_of_getElem? (i := 10) rfl)) (by decide) (by decide)) q142a q142c (g := (mkF m 202 #[.val (.int p1), .val (.int p2), .val (.ref b3), .val (.int (own_from p2)), .val (.int (own_to p2)), .val (.ref st_CARRIAGE_RETURN_OR_LINE_FEED), .val (.int (own_rd p2)), .val (.ref b94), .val (.long (((-(own_from p2)).toInt64) + (x101_3.toInt64))), .second, .val (.int x101_3), .unset] [(.ref b94)])) rfl (by rw [hml]; rfl) (Steps.refl _) (argsL := []) (rest := []) (lenOf pd_10 rfl) rfl (by show 2 * 0 + _ ≤ _; exact Nat.le_of_eq rfl) (hb hby at_202) (fun _ _ => ⟨rfl, rfl, (by decide : 6 + 0 ≤ _), (by decide : 215 + 0 ≤ _)⟩)
        dsimp only [Pt.U, Pt.locs, Pt.cells, Pt.slots] at X142 l142 y142 z142 st142 hQ142
        subst l142 y142 z142
        obtain ⟨rfl, N142q, e142⟩ := hQ142
        have N142 := Fr.app N141 N142q
        have pre144 : ∀ t, Steps p.tables e below (T142.setTop (mkF m 211 #[.val (.int p1), .val (.int p2), .val (.ref b3), .val (.int (own_from p2)), .val (.int (own_to p2)), .val (.ref st_CARRIAGE_RETURN_OR_LINE_FEED), .val (.int (own_rd p2)), .val (.ref b94), .val (.long (((-(own_from p2)).toInt64) + (x101_3.toInt64))), .second, .val (.int x101_3), .val (.int x141_1)] [(.int x101_3), (.int x141_1)])) t → Steps p.tables e below (s₁.setTop (entryFrame m #[(.int p1), (.int p2)] maxLocals)) t := fun t kt => pre103 t (by
          show Steps p.tables e below (T101.setTop (mkF m 140 #[.val (.int p1), .val (.int p2), .val (.ref b3), .val (.int (own_from p2)), .val (.int (own_to p2)), .val (.ref st_CARRIAGE_RETURN_OR_LINE_FEED), .val (.int (own_rd p2)), .val (.ref b94), .unset, .unset, .unset, .unset] [(.int (1 : Int32)), (.int (own_rd p2))])) _
          refine XS.icmpYes X101.here hx rfl (pc0 := 140) (pc' := 149) rfl (hb hby at_140) rfl (flt hc140_102).2.2.2 (by decide) (by decide) ?_
          show Steps p.tables e below (T101.setTop (mkF m 149 #[.val (.int p1), .val (.int p2), .val (.ref b3), .val (.int (own_from p2)), .val (.int (own_to p2)), .val (.ref st_CARRIAGE_RETURN_OR_LINE_FEED), .val (.int (own_rd p2)), .val (.ref b94), .unset, .unset, .unset, .unset] [])) _
          refine XS.iload X101.here hx rfl (hb hby at_149) rfl ?_
          show Steps p.tables e below (T101.setTop (mkF m 151 #[.val (.int p1), .val (.int p2), .val (.ref b3), .val (.int (own_from p2)), .val (.int (own_to p2)), .val (.ref st_CARRIAGE_RETURN_OR_LINE_FEED), .val (.int (own_rd p2)), .val (.ref b94), .unset, .unset, .unset, .unset] [(.int (own_rd p2))])) _
          refine XS.iconst X101.here hx rfl (hb hby at_151) ?_
          show Steps p.tables e below (T101.setTop (mkF m 152 #[.val (.int p1), .val (.int p2), .val (.ref b3), .val (.int (own_from p2)), .val (.int (own_to p2)), .val (.ref st_CARRIAGE_RETURN_OR_LINE_FEED), .val (.int (own_rd p2)), .val (.ref b94), .unset, .unset, .unset, .unset] [(.int (2 : Int32)), (.int (own_rd p2))])) _
          refine XS.icmpYes X101.here hx rfl (pc0 := 152) (pc' := 161) rfl (hb hby at_152) rfl (flt hc152_135).2.2.2 (by decide) (by decide) ?_
          show Steps p.tables e below (T101.setTop (mkF m 161 #[.val (.int p1), .val (.int p2), .val (.ref b3), .val (.int (own_from p2)), .val (.int (own_to p2)), .val (.ref st_CARRIAGE_RETURN_OR_LINE_FEED), .val (.int (own_rd p2)), .val (.ref b94), .unset, .unset, .unset, .unset] [])) _
          refine XS.aload X101.here hx rfl (hb hby at_161) rfl rfl ?_
          show Steps p.tables e below (T101.setTop (mkF m 163 #[.val (.int p1), .val (.int p2), .val (.ref b3), .val (.int (own_from p2)), .val (.int (own_to p2)), .val (.ref st_CARRIAGE_RETURN_OR_LINE_FEED), .val (.int (own_rd p2)), .val (.ref b94), .unset, .unset, .unset, .unset] [(.ref b94)])) _
          refine st136.trans ?_
          show Steps p.tables e below (T136.setTop (mkF m 166 #[.val (.int p1), .val (.int p2), .val (.ref b3), .val (.int (own_from p2)), .val (.int (own_to p2)), .val (.ref st_CARRIAGE_RETURN_OR_LINE_FEED), .val (.int (own_rd p2)), .val (.ref b94), .unset, .unset, .unset, .unset] [(.long (((-(own_from p2)).toInt64) + (x101_3.toInt64)))])) _
          refine XS.lstore X136.here hx rfl (hb hby at_166) rfl (l' := #[.val (.int p1), .val (.int p2), .val (.ref b3), .val (.int (own_from p2)), .val (.int (own_to p2)), .val (.ref st_CARRIAGE_RETURN_OR_LINE_FEED), .val (.int (own_rd p2)), .val (.ref b94), .val (.long (((-(own_from p2)).toInt64) + (x101_3.toInt64))), .second, .unset, .unset]) rfl ?_
          show Steps p.tables e below (T136.setTop (mkF m 168 #[.val (.int p1), .val (.int p2), .val (.ref b3), .val (.int (own_from p2)), .val (.int (own_to p2)), .val (.ref st_CARRIAGE_RETURN_OR_LINE_FEED), .val (.int (own_rd p2)), .val (.ref b94), .val (.long (((-(own_from p2)).toInt64) + (x101_3.toInt64))), .second, .unset, .unset] [])) _
          refine XS.aload X136.here hx rfl (hb hby at_168) rfl rfl ?_
          show Steps p.tables e below (T136.setTop (mkF m 170 #[.val (.int p1), .val (.int p2), .val (.ref b3), .val (.int (own_from p2)), .val (.int (own_to p2)), .val (.ref st_CARRIAGE_RETURN_OR_LINE_FEED), .val (.int (own_rd p2)), .val (.ref b94), .val (.long (((-(own_from p2)).toInt64) + (x101_3.toInt64))), .second, .unset, .unset] [(.ref b94)])) _
          refine st137.trans ?_
          show Steps p.tables e below (T137.setTop (mkF m 173 #[.val (.int p1), .val (.int p2), .val (.ref b3), .val (.int (own_from p2)), .val (.int (own_to p2)), .val (.ref st_CARRIAGE_RETURN_OR_LINE_FEED), .val (.int (own_rd p2)), .val (.ref b94), .val (.long (((-(own_from p2)).toInt64) + (x101_3.toInt64))), .second, .unset, .unset] [])) _
          refine XS.aload X137.here hx rfl (hb hby at_173) rfl rfl ?_
          show Steps p.tables e below (T137.setTop (mkF m 175 #[.val (.int p1), .val (.int p2), .val (.ref b3), .val (.int (own_from p2)), .val (.int (own_to p2)), .val (.ref st_CARRIAGE_RETURN_OR_LINE_FEED), .val (.int (own_rd p2)), .val (.ref b94), .val (.long (((-(own_from p2)).toInt64) + (x101_3.toInt64))), .second, .unset, .unset] [(.ref b94)])) _
          refine st139.trans ?_
          show Steps p.tables e below (T139.setTop (mkF m 178 #[.val (.int p1), .val (.int p2), .val (.ref b3), .val (.int (own_from p2)), .val (.int (own_to p2)), .val (.ref st_CARRIAGE_RETURN_OR_LINE_FEED), .val (.int (own_rd p2)), .val (.ref b94), .val (.long (((-(own_from p2)).toInt64) + (x101_3.toInt64))), .second, .unset, .unset] [(.int x101_3)])) _
          refine XS.istore X139.here hx rfl (hb hby at_178) rfl (l' := #[.val (.int p1), .val (.int p2), .val (.ref b3), .val (.int (own_from p2)), .val (.int (own_to p2)), .val (.ref st_CARRIAGE_RETURN_OR_LINE_FEED), .val (.int (own_rd p2)), .val (.ref b94), .val (.long (((-(own_from p2)).toInt64) + (x101_3.toInt64))), .second, .val (.int x101_3), .unset]) rfl ?_
          show Steps p.tables e below (T139.setTop (mkF m 180 #[.val (.int p1), .val (.int p2), .val (.ref b3), .val (.int (own_from p2)), .val (.int (own_to p2)), .val (.ref st_CARRIAGE_RETURN_OR_LINE_FEED), .val (.int (own_rd p2)), .val (.ref b94), .val (.long (((-(own_from p2)).toInt64) + (x101_3.toInt64))), .second, .val (.int x101_3), .unset] [])) _
          refine XS.iload X139.here hx rfl (hb hby at_180) rfl ?_
          show Steps p.tables e below (T139.setTop (mkF m 182 #[.val (.int p1), .val (.int p2), .val (.ref b3), .val (.int (own_from p2)), .val (.int (own_to p2)), .val (.ref st_CARRIAGE_RETURN_OR_LINE_FEED), .val (.int (own_rd p2)), .val (.ref b94), .val (.long (((-(own_from p2)).toInt64) + (x101_3.toInt64))), .second, .val (.int x101_3), .unset] [(.int x101_3)])) _
          refine XS.i2l X139.here hx rfl (hb hby at_182) rfl ?_
          show Steps p.tables e below (T139.setTop (mkF m 183 #[.val (.int p1), .val (.int p2), .val (.ref b3), .val (.int (own_from p2)), .val (.int (own_to p2)), .val (.ref st_CARRIAGE_RETURN_OR_LINE_FEED), .val (.int (own_rd p2)), .val (.ref b94), .val (.long (((-(own_from p2)).toInt64) + (x101_3.toInt64))), .second, .val (.int x101_3), .unset] [(.long (x101_3.toInt64))])) _
          refine XS.lload X139.here hx rfl (hb hby at_183) rfl ?_
          show Steps p.tables e below (T139.setTop (mkF m 185 #[.val (.int p1), .val (.int p2), .val (.ref b3), .val (.int (own_from p2)), .val (.int (own_to p2)), .val (.ref st_CARRIAGE_RETURN_OR_LINE_FEED), .val (.int (own_rd p2)), .val (.ref b94), .val (.long (((-(own_from p2)).toInt64) + (x101_3.toInt64))), .second, .val (.int x101_3), .unset] [(.long (((-(own_from p2)).toInt64) + (x101_3.toInt64))), (.long (x101_3.toInt64))])) _
          refine XS.iloadN X139.here hx rfl (hb hby at_185) rfl ?_
          show Steps p.tables e below (T139.setTop (mkF m 186 #[.val (.int p1), .val (.int p2), .val (.ref b3), .val (.int (own_from p2)), .val (.int (own_to p2)), .val (.ref st_CARRIAGE_RETURN_OR_LINE_FEED), .val (.int (own_rd p2)), .val (.ref b94), .val (.long (((-(own_from p2)).toInt64) + (x101_3.toInt64))), .second, .val (.int x101_3), .unset] [(.int (own_from p2)), (.long (((-(own_from p2)).toInt64) + (x101_3.toInt64))), (.long (x101_3.toInt64))])) _
          refine XS.i2l X139.here hx rfl (hb hby at_186) rfl ?_
          show Steps p.tables e below (T139.setTop (mkF m 187 #[.val (.int p1), .val (.int p2), .val (.ref b3), .val (.int (own_from p2)), .val (.int (own_to p2)), .val (.ref st_CARRIAGE_RETURN_OR_LINE_FEED), .val (.int (own_rd p2)), .val (.ref b94), .val (.long (((-(own_from p2)).toInt64) + (x101_3.toInt64))), .second, .val (.int x101_3), .unset] [(.long ((own_from p2).toInt64)), (.long (((-(own_from p2)).toInt64) + (x101_3.toInt64))), (.long (x101_3.toInt64))])) _
          refine XS.ladd X139.here hx rfl (hb hby at_187) rfl ?_
          show Steps p.tables e below (T139.setTop (mkF m 188 #[.val (.int p1), .val (.int p2), .val (.ref b3), .val (.int (own_from p2)), .val (.int (own_to p2)), .val (.ref st_CARRIAGE_RETURN_OR_LINE_FEED), .val (.int (own_rd p2)), .val (.ref b94), .val (.long (((-(own_from p2)).toInt64) + (x101_3.toInt64))), .second, .val (.int x101_3), .unset] [(.long ((((-(own_from p2)).toInt64) + (x101_3.toInt64)) + ((own_from p2).toInt64))), (.long (x101_3.toInt64))])) _
          refine XS.lcmp X139.here hx rfl (hb hby at_188) rfl ?_
          show Steps p.tables e below (T139.setTop (mkF m 189 #[.val (.int p1), .val (.int p2), .val (.ref b3), .val (.int (own_from p2)), .val (.int (own_to p2)), .val (.ref st_CARRIAGE_RETURN_OR_LINE_FEED), .val (.int (own_rd p2)), .val (.ref b94), .val (.long (((-(own_from p2)).toInt64) + (x101_3.toInt64))), .second, .val (.int x101_3), .unset] [(.int (lcmpW (x101_3.toInt64) ((((-(own_from p2)).toInt64) + (x101_3.toInt64)) + ((own_from p2).toInt64))))])) _
          refine XS.ifYes X139.here hx rfl (pc0 := 189) (pc' := 194) rfl (hb hby at_189) rfl ((if0 _ _).trans (teq ((lw_eq (x101_3.toInt64) ((((-(own_from p2)).toInt64) + (x101_3.toInt64)) + ((own_from p2).toInt64))).mpr hc189_140)).1) (by decide) (by decide) ?_
          show Steps p.tables e below (T139.setTop (mkF m 194 #[.val (.int p1), .val (.int p2), .val (.ref b3), .val (.int (own_from p2)), .val (.int (own_to p2)), .val (.ref st_CARRIAGE_RETURN_OR_LINE_FEED), .val (.int (own_rd p2)), .val (.ref b94), .val (.long (((-(own_from p2)).toInt64) + (x101_3.toInt64))), .second, .val (.int x101_3), .unset] [])) _
          refine XS.aload X139.here hx rfl (hb hby at_194) rfl rfl ?_
          show Steps p.tables e below (T139.setTop (mkF m 196 #[.val (.int p1), .val (.int p2), .val (.ref b3), .val (.int (own_from p2)), .val (.int (own_to p2)), .val (.ref st_CARRIAGE_RETURN_OR_LINE_FEED), .val (.int (own_rd p2)), .val (.ref b94), .val (.long (((-(own_from p2)).toInt64) + (x101_3.toInt64))), .second, .val (.int x101_3), .unset] [(.ref b94)])) _
          refine st141.trans ?_
          show Steps p.tables e below (T141.setTop (mkF m 199 #[.val (.int p1), .val (.int p2), .val (.ref b3), .val (.int (own_from p2)), .val (.int (own_to p2)), .val (.ref st_CARRIAGE_RETURN_OR_LINE_FEED), .val (.int (own_rd p2)), .val (.ref b94), .val (.long (((-(own_from p2)).toInt64) + (x101_3.toInt64))), .second, .val (.int x101_3), .unset] [(.int x141_0)])) _
          refine XS.pop X141.here hx rfl (hb hby at_199) rfl rfl ?_
          show Steps p.tables e below (T141.setTop (mkF m 200 #[.val (.int p1), .val (.int p2), .val (.ref b3), .val (.int (own_from p2)), .val (.int (own_to p2)), .val (.ref st_CARRIAGE_RETURN_OR_LINE_FEED), .val (.int (own_rd p2)), .val (.ref b94), .val (.long (((-(own_from p2)).toInt64) + (x101_3.toInt64))), .second, .val (.int x101_3), .unset] [])) _
          refine XS.aload X141.here hx rfl (hb hby at_200) rfl rfl ?_
          show Steps p.tables e below (T141.setTop (mkF m 202 #[.val (.int p1), .val (.int p2), .val (.ref b3), .val (.int (own_from p2)), .val (.int (own_to p2)), .val (.ref st_CARRIAGE_RETURN_OR_LINE_FEED), .val (.int (own_rd p2)), .val (.ref b94), .val (.long (((-(own_from p2)).toInt64) + (x101_3.toInt64))), .second, .val (.int x101_3), .unset] [(.ref b94)])) _
          refine st142.trans ?_
          show Steps p.tables e below (T142.setTop (mkF m 205 #[.val (.int p1), .val (.int p2), .val (.ref b3), .val (.int (own_from p2)), .val (.int (own_to p2)), .val (.ref st_CARRIAGE_RETURN_OR_LINE_FEED), .val (.int (own_rd p2)), .val (.ref b94), .val (.long (((-(own_from p2)).toInt64) + (x101_3.toInt64))), .second, .val (.int x101_3), .unset] [(.int x141_1)])) _
          refine XS.istore X142.here hx rfl (hb hby at_205) rfl (l' := #[.val (.int p1), .val (.int p2), .val (.ref b3), .val (.int (own_from p2)), .val (.int (own_to p2)), .val (.ref st_CARRIAGE_RETURN_OR_LINE_FEED), .val (.int (own_rd p2)), .val (.ref b94), .val (.long (((-(own_from p2)).toInt64) + (x101_3.toInt64))), .second, .val (.int x101_3), .val (.int x141_1)]) rfl ?_
          show Steps p.tables e below (T142.setTop (mkF m 207 #[.val (.int p1), .val (.int p2), .val (.ref b3), .val (.int (own_from p2)), .val (.int (own_to p2)), .val (.ref st_CARRIAGE_RETURN_OR_LINE_FEED), .val (.int (own_rd p2)), .val (.ref b94), .val (.long (((-(own_from p2)).toInt64) + (x101_3.toInt64))), .second, .val (.int x101_3), .val (.int x141_1)] [])) _
          refine XS.iload X142.here hx rfl (hb hby at_207) rfl ?_
          show Steps p.tables e below (T142.setTop (mkF m 209 #[.val (.int p1), .val (.int p2), .val (.ref b3), .val (.int (own_from p2)), .val (.int (own_to p2)), .val (.ref st_CARRIAGE_RETURN_OR_LINE_FEED), .val (.int (own_rd p2)), .val (.ref b94), .val (.long (((-(own_from p2)).toInt64) + (x101_3.toInt64))), .second, .val (.int x101_3), .val (.int x141_1)] [(.int x141_1)])) _
          refine XS.iload X142.here hx rfl (hb hby at_209) rfl ?_
          show Steps p.tables e below (T142.setTop (mkF m 211 #[.val (.int p1), .val (.int p2), .val (.ref b3), .val (.int (own_from p2)), .val (.int (own_to p2)), .val (.ref st_CARRIAGE_RETURN_OR_LINE_FEED), .val (.int (own_rd p2)), .val (.ref b94), .val (.long (((-(own_from p2)).toInt64) + (x101_3.toInt64))), .second, .val (.int x101_3), .val (.int x141_1)] [(.int x101_3), (.int x141_1)])) _
          exact kt)
        by_cases hc211_143 : x141_1 = x101_3
        · obtain ⟨fs, hr, hrun, hended, hEW⟩ := X142.leaveW hS95 (by rw [e142]; exact (Nat.le_trans (Nat.le_trans (Nat.le_trans (Nat.le_refl _) K101q.1) K137q.1) K141q.1)) (v := some (.int (1 : Int32))) (fun h => by rw [Bd.returns] at h; cases h)
          refine ⟨_, _, pre144 _ ?_, hrun, hended, _, _, rfl, ?_, ⟨_, rfl⟩, hEW.2.1, hEW.2.2.1, hEW.2.2.2.mono (by decide) (by decide)⟩
          · show Steps p.tables e below (T142.setTop (mkF m 211 #[.val (.int p1), .val (.int p2), .val (.ref b3), .val (.int (own_from p2)), .val (.int (own_to p2)), .val (.ref st_CARRIAGE_RETURN_OR_LINE_FEED), .val (.int (own_rd p2)), .val (.ref b94), .val (.long (((-(own_from p2)).toInt64) + (x101_3.toInt64))), .second, .val (.int x101_3), .val (.int x141_1)] [(.int x101_3), (.int x141_1)])) _
            refine XS.icmpNo X142.here hx rfl (hb hby at_211) rfl (teq hc211_143).2 ?_
            show Steps p.tables e below (T142.setTop (mkF m 214 #[.val (.int p1), .val (.int p2), .val (.ref b3), .val (.int (own_from p2)), .val (.int (own_to p2)), .val (.ref st_CARRIAGE_RETURN_OR_LINE_FEED), .val (.int (own_rd p2)), .val (.ref b94), .val (.long (((-(own_from p2)).toInt64) + (x101_3.toInt64))), .second, .val (.int x101_3), .val (.int x141_1)] [])) _
            refine XS.iconst X142.here hx rfl (hb hby at_214) ?_
            show Steps p.tables e below (T142.setTop (mkF m 215 #[.val (.int p1), .val (.int p2), .val (.ref b3), .val (.int (own_from p2)), .val (.int (own_to p2)), .val (.ref st_CARRIAGE_RETURN_OR_LINE_FEED), .val (.int (own_rd p2)), .val (.ref b94), .val (.long (((-(own_from p2)).toInt64) + (x101_3.toInt64))), .second, .val (.int x101_3), .val (.int x141_1)] [(.int (1 : Int32))])) _
            exact retN X142 hx (t := .boolean) Bd.returns (by simp) (hb hby at_215) hr
          · show Q0 Z p1 p2 st_LINE_FEED st_CARRIAGE_RETURN_OR_LINE_FEED h0 n0 _ T142.heap _
            rw [e142]
            exact ⟨rfl, N142⟩
        · have hc222_145 : x141_1 = (x101_3 + (1 : Int32)) := (own_dj p141_0 hc211_143).1
          obtain ⟨cq146, kq146, q146a, q146b, q146c⟩ := isOf hZ95 e142 f141_0
          obtain ⟨_, _, ⟨T146, L146, k146, n146⟩, -, X146, ⟨Lc146, hQ146, l146, y146, z146⟩, st146⟩ := X142.virtualBack hx (y := (⟨"querent/hl7/LineReader", "bytes", "()[B"⟩ : MethodName)) (z := (⟨"querent/hl7/LineReader", "bytes", "()[B"⟩ : MethodName)) hown95 (mvT hZ95 (hw _ (List.mem_of_getElem? (i := 114) rfl))) (mvT hZ95 (hw _ (List.mem_of_getElem? (i := 115) rfl))) (notFace_of_selects (args := #[]) (mvT hZ95 (hw _ (List.mem_of_getElem? (i := 117) rfl)))) (mvT hZ95 (hw _ (List.mem_of_getElem? (i := 117) rfl))) (mvT hZ95 (hw _ (List.mem_of_getElem? (i := 116) rfl))) (by decide) (backOf (W := 0) (rm18 l Z a0 hw [] b94 b3 T141.heap n0 Z141 f141_2) hZ95 (hw _ (List.mem_of_getElem? (i := 118) rfl)) (hw _ (List.mem_of_getElem? (i := 10) rfl)) (by decide) (by decide)) q146a q146c (g := (mkF m 227 #[.val (.int p1), .val (.int p2), .val (.ref b3), .val (.int (own_from p2)), .val (.int (own_to p2)), .val (.ref st_CARRIAGE_RETURN_OR_LINE_FEED), .val (.int (own_rd p2)), .val (.ref b94), .val (.long (((-(own_from p2)).toInt64) + (x101_3.toInt64))), .second, .val (.int x101_3), .val (.int x141_1)] [(.ref b94)])) rfl (by rw [hml]; rfl) (Steps.refl _) (argsL := []) (rest := []) (lenOf pd_11 rfl) rfl (by show 2 * 0 + _ ≤ _; exact Nat.le_of_eq rfl) (hb hby at_227) (fun _ _ => ⟨rfl, e142, (by decide : 6 + 0 ≤ _), (by decide : 215 + 0 ≤ _)⟩)
          dsimp only [Pt.U, Pt.locs, Pt.cells, Pt.slots] at X146 l146 y146 z146 st146 hQ146
          subst l146 y146 z146
          obtain ⟨rfl, N146q, e146⟩ := hQ146
          have N146 := Fr.app N142 N146q
          obtain ⟨cl147, Ar147, qq147, S147, NN147, HH147, GG147⟩ := id (y138.keep K141q (ninS ne_b3_b94 nin0))
          have hin147 : ¬ (x101_3 < 0 ∨ cl147.slots.size ≤ (x101_3).toNatClampNeg) := inb_of S147 ⟨p101_1, (show x101_3 < (6 : Int32) from own_lt6 (own_dj p141_0 hc211_143).2.2 (own_ft p2).2.2)⟩
          have hat147 : cl147.slots[(x101_3).toNatClampNeg]? = some (.int (own_at vl x101_3)) := Has.at HH147 hin147 (own_atv vl x101_3)
          have hc235_148 : (own_at vl x101_3) = (10 : Int32) := (own_dj p141_0 hc211_143).2.1
          obtain ⟨fs, hr, hrun, hended, hEW⟩ := X146.leaveW hS95 (by rw [e146]; exact (Nat.le_trans (Nat.le_trans (Nat.le_trans (Nat.le_refl _) K101q.1) K137q.1) K141q.1)) (v := some (.int (1 : Int32))) (fun h => by rw [Bd.returns] at h; cases h)
          refine ⟨_, _, pre144 _ ?_, hrun, hended, _, _, rfl, ?_, ⟨_, rfl⟩, hEW.2.1, hEW.2.2.1, hEW.2.2.2.mono (by decide) (by decide)⟩
          · show Steps p.tables e below (T142.setTop (mkF m 211 #[.val (.int p1), .val (.int p2), .val (.ref b3), .val (.int (own_from p2)), .val (.int (own_to p2)), .val (.ref st_CARRIAGE_RETURN_OR_LINE_FEED), .val (.int (own_rd p2)), .val (.ref b94), .val (.long (((-(own_from p2)).toInt64) + (x101_3.toInt64))), .second, .val (.int x101_3), .val (.int x141_1)] [(.int x101_3), (.int x141_1)])) _
            refine XS.icmpYes X142.here hx rfl (pc0 := 211) (pc' := 216) rfl (hb hby at_211) rfl (feq hc211_143).2 (by decide) (by decide) ?_
            show Steps p.tables e below (T142.setTop (mkF m 216 #[.val (.int p1), .val (.int p2), .val (.ref b3), .val (.int (own_from p2)), .val (.int (own_to p2)), .val (.ref st_CARRIAGE_RETURN_OR_LINE_FEED), .val (.int (own_rd p2)), .val (.ref b94), .val (.long (((-(own_from p2)).toInt64) + (x101_3.toInt64))), .second, .val (.int x101_3), .val (.int x141_1)] [])) _
            refine XS.iload X142.here hx rfl (hb hby at_216) rfl ?_
            show Steps p.tables e below (T142.setTop (mkF m 218 #[.val (.int p1), .val (.int p2), .val (.ref b3), .val (.int (own_from p2)), .val (.int (own_to p2)), .val (.ref st_CARRIAGE_RETURN_OR_LINE_FEED), .val (.int (own_rd p2)), .val (.ref b94), .val (.long (((-(own_from p2)).toInt64) + (x101_3.toInt64))), .second, .val (.int x101_3), .val (.int x141_1)] [(.int x141_1)])) _
            refine XS.iload X142.here hx rfl (hb hby at_218) rfl ?_
            show Steps p.tables e below (T142.setTop (mkF m 220 #[.val (.int p1), .val (.int p2), .val (.ref b3), .val (.int (own_from p2)), .val (.int (own_to p2)), .val (.ref st_CARRIAGE_RETURN_OR_LINE_FEED), .val (.int (own_rd p2)), .val (.ref b94), .val (.long (((-(own_from p2)).toInt64) + (x101_3.toInt64))), .second, .val (.int x101_3), .val (.int x141_1)] [(.int x101_3), (.int x141_1)])) _
            refine XS.iconst X142.here hx rfl (hb hby at_220) ?_
            show Steps p.tables e below (T142.setTop (mkF m 221 #[.val (.int p1), .val (.int p2), .val (.ref b3), .val (.int (own_from p2)), .val (.int (own_to p2)), .val (.ref st_CARRIAGE_RETURN_OR_LINE_FEED), .val (.int (own_rd p2)), .val (.ref b94), .val (.long (((-(own_from p2)).toInt64) + (x101_3.toInt64))), .second, .val (.int x101_3), .val (.int x141_1)] [(.int (1 : Int32)), (.int x101_3), (.int x141_1)])) _
            refine XS.iadd X142.here hx rfl (hb hby at_221) rfl ?_
            show Steps p.tables e below (T142.setTop (mkF m 222 #[.val (.int p1), .val (.int p2), .val (.ref b3), .val (.int (own_from p2)), .val (.int (own_to p2)), .val (.ref st_CARRIAGE_RETURN_OR_LINE_FEED), .val (.int (own_rd p2)), .val (.ref b94), .val (.long (((-(own_from p2)).toInt64) + (x101_3.toInt64))), .second, .val (.int x101_3), .val (.int x141_1)] [(.int (x101_3 + (1 : Int32))), (.int x141_1)])) _
            refine XS.icmpNo X142.here hx rfl (hb hby at_222) rfl (teq hc222_145).2 ?_
            show Steps p.tables e below (T142.setTop (mkF m 225 #[.val (.int p1), .val (.int p2), .val (.ref b3), .val (.int (own_from p2)), .val (.int (own_to p2)), .val (.ref st_CARRIAGE_RETURN_OR_LINE_FEED), .val (.int (own_rd p2)), .val (.ref b94), .val (.long (((-(own_from p2)).toInt64) + (x101_3.toInt64))), .second, .val (.int x101_3), .val (.int x141_1)] [])) _
            refine XS.aload X142.here hx rfl (hb hby at_225) rfl rfl ?_
            show Steps p.tables e below (T142.setTop (mkF m 227 #[.val (.int p1), .val (.int p2), .val (.ref b3), .val (.int (own_from p2)), .val (.int (own_to p2)), .val (.ref st_CARRIAGE_RETURN_OR_LINE_FEED), .val (.int (own_rd p2)), .val (.ref b94), .val (.long (((-(own_from p2)).toInt64) + (x101_3.toInt64))), .second, .val (.int x101_3), .val (.int x141_1)] [(.ref b94)])) _
            refine st146.trans ?_
            show Steps p.tables e below (T146.setTop (mkF m 230 #[.val (.int p1), .val (.int p2), .val (.ref b3), .val (.int (own_from p2)), .val (.int (own_to p2)), .val (.ref st_CARRIAGE_RETURN_OR_LINE_FEED), .val (.int (own_rd p2)), .val (.ref b94), .val (.long (((-(own_from p2)).toInt64) + (x101_3.toInt64))), .second, .val (.int x101_3), .val (.int x141_1)] [(.ref b3)])) _
            refine XS.iload X146.here hx rfl (hb hby at_230) rfl ?_
            show Steps p.tables e below (T146.setTop (mkF m 232 #[.val (.int p1), .val (.int p2), .val (.ref b3), .val (.int (own_from p2)), .val (.int (own_to p2)), .val (.ref st_CARRIAGE_RETURN_OR_LINE_FEED), .val (.int (own_rd p2)), .val (.ref b94), .val (.long (((-(own_from p2)).toInt64) + (x101_3.toInt64))), .second, .val (.int x101_3), .val (.int x141_1)] [(.int x101_3), (.ref b3)])) _
            refine X146.baloadBytes hx (j := x101_3) (v := (.int (own_at vl x101_3))) (by rw [e146]; exact Ar147.1) (State.isArrayOf_alike hZ95.alike Ar147.2.1) Ar147.2.2 hin147 hat147 (g := (mkF m 232 #[.val (.int p1), .val (.int p2), .val (.ref b3), .val (.int (own_from p2)), .val (.int (own_to p2)), .val (.ref st_CARRIAGE_RETURN_OR_LINE_FEED), .val (.int (own_rd p2)), .val (.ref b94), .val (.long (((-(own_from p2)).toInt64) + (x101_3.toInt64))), .second, .val (.int x101_3), .val (.int x141_1)] [(.int x101_3), (.ref b3)])) rfl rfl (hb hby at_232) _ ?_
            show Steps p.tables e below (T146.setTop (mkF m 233 #[.val (.int p1), .val (.int p2), .val (.ref b3), .val (.int (own_from p2)), .val (.int (own_to p2)), .val (.ref st_CARRIAGE_RETURN_OR_LINE_FEED), .val (.int (own_rd p2)), .val (.ref b94), .val (.long (((-(own_from p2)).toInt64) + (x101_3.toInt64))), .second, .val (.int x101_3), .val (.int x141_1)] [(.int (own_at vl x101_3))])) _
            refine XS.bipush X146.here hx rfl (hb hby at_233) ?_
            show Steps p.tables e below (T146.setTop (mkF m 235 #[.val (.int p1), .val (.int p2), .val (.ref b3), .val (.int (own_from p2)), .val (.int (own_to p2)), .val (.ref st_CARRIAGE_RETURN_OR_LINE_FEED), .val (.int (own_rd p2)), .val (.ref b94), .val (.long (((-(own_from p2)).toInt64) + (x101_3.toInt64))), .second, .val (.int x101_3), .val (.int x141_1)] [(.int (10 : Int32)), (.int (own_at vl x101_3))])) _
            refine XS.icmpNo X146.here hx rfl (hb hby at_235) rfl (teq hc235_148).2 ?_
            show Steps p.tables e below (T146.setTop (mkF m 238 #[.val (.int p1), .val (.int p2), .val (.ref b3), .val (.int (own_from p2)), .val (.int (own_to p2)), .val (.ref st_CARRIAGE_RETURN_OR_LINE_FEED), .val (.int (own_rd p2)), .val (.ref b94), .val (.long (((-(own_from p2)).toInt64) + (x101_3.toInt64))), .second, .val (.int x101_3), .val (.int x141_1)] [])) _
            refine XS.iconst X146.here hx rfl (hb hby at_238) ?_
            show Steps p.tables e below (T146.setTop (mkF m 239 #[.val (.int p1), .val (.int p2), .val (.ref b3), .val (.int (own_from p2)), .val (.int (own_to p2)), .val (.ref st_CARRIAGE_RETURN_OR_LINE_FEED), .val (.int (own_rd p2)), .val (.ref b94), .val (.long (((-(own_from p2)).toInt64) + (x101_3.toInt64))), .second, .val (.int x101_3), .val (.int x141_1)] [(.int (1 : Int32))])) _
            refine XS.goto X146.here hx rfl (pc0 := 239) (pc' := 243) rfl (hb hby at_239) (by decide) (by decide) ?_
            show Steps p.tables e below (T146.setTop (mkF m 243 #[.val (.int p1), .val (.int p2), .val (.ref b3), .val (.int (own_from p2)), .val (.int (own_to p2)), .val (.ref st_CARRIAGE_RETURN_OR_LINE_FEED), .val (.int (own_rd p2)), .val (.ref b94), .val (.long (((-(own_from p2)).toInt64) + (x101_3.toInt64))), .second, .val (.int x101_3), .val (.int x141_1)] [(.int (1 : Int32))])) _
            exact retN X146 hx (t := .boolean) Bd.returns (by simp) (hb hby at_243) hr
          · show Q0 Z p1 p2 st_LINE_FEED st_CARRIAGE_RETURN_OR_LINE_FEED h0 n0 _ T146.heap _
            rw [e146]
            exact ⟨rfl, N146⟩
    · have hc140_149 : ¬ ((1 : Int32) < (own_rd p2)) := own_r1 hc128_99
      have hc152_150 : ¬ ((2 : Int32) < (own_rd p2)) := own_r2 hc140_149
      obtain ⟨cq151, kq151, q151a, q151b, q151c⟩ := isOf hZ95 rfl f95_0
      obtain ⟨_, _, ⟨T151, L151, k151, n151⟩, -, X151, ⟨Lc151, hQ151, l151, y151, z151⟩, st151⟩ := X95w.virtualBack hx (y := (⟨"querent/hl7/LineReader", "offset", "()J"⟩ : MethodName)) (z := (⟨"querent/hl7/LineReader", "offset", "()J"⟩ : MethodName)) hown95 (mvT hZ95 (hw _ (List.mem_of_getElem? (i := 54) rfl))) (mvT hZ95 (hw _ (List.mem_of_getElem? (i := 55) rfl))) (notFace_of_selects (args := #[]) (mvT hZ95 (hw _ (List.mem_of_getElem? (i := 57) rfl)))) (mvT hZ95 (hw _ (List.mem_of_getElem? (i := 57) rfl))) (mvT hZ95 (hw _ (List.mem_of_getElem? (i := 56) rfl))) (by decide) (backOf (W := 0) (rm7 l Z a0 hw [] b94 ((-(own_from p2)).toInt64) (own_from p2) T95.heap n0 Z95 f95_4 f95_8) hZ95 (hw _ (List.mem_of_getElem? (i := 58) rfl)) (hw _ (List.mem_of_getElem? (i := 10) rfl)) (by decide) (by decide)) q151a q151c (g := (mkF m 163 #[.val (.int p1), .val (.int p2), .val (.ref b3), .val (.int (own_from p2)), .val (.int (own_to p2)), .val (.ref st_CARRIAGE_RETURN_OR_LINE_FEED), .val (.int (own_rd p2)), .val (.ref b94), .unset, .unset, .unset, .unset] [(.ref b94)])) rfl (by rw [hml]; rfl) (Steps.refl _) (argsL := []) (rest := []) (lenOf pd_9 rfl) rfl (by show 2 * 0 + _ ≤ _; exact Nat.le_of_eq rfl) (hb hby at_163) (fun _ _ => ⟨rfl, rfl, (by decide : 6 + 0 ≤ _), (by decide : 215 + 0 ≤ _)⟩)
      dsimp only [Pt.U, Pt.locs, Pt.cells, Pt.slots] at X151 l151 y151 z151 st151 hQ151
      subst l151 y151 z151
      obtain ⟨rfl, N151q, e151⟩ := hQ151
      have N151 := Fr.app N95 N151q
      obtain ⟨cq152, kq152, q152a, q152b, q152c⟩ := isOf hZ95 e151 f95_0
      obtain ⟨_, _, ⟨T152, L152, k152, n152⟩, -, X152, ⟨Lc152, hQ152, l152, y152, z152⟩, st152⟩ := X151.virtualBack hx (y := (⟨"querent/hl7/LineReader", "keepFromNext", "()V"⟩ : MethodName)) (z := (⟨"querent/hl7/LineReader", "keepFromNext", "()V"⟩ : MethodName)) hown95 (mvT hZ95 (hw _ (List.mem_of_getElem? (i := 59) rfl))) (mvT hZ95 (hw _ (List.mem_of_getElem? (i := 60) rfl))) (notFace_of_selects (args := #[]) (mvT hZ95 (hw _ (List.mem_of_getElem? (i := 62) rfl)))) (mvT hZ95 (hw _ (List.mem_of_getElem? (i := 62) rfl))) (mvT hZ95 (hw _ (List.mem_of_getElem? (i := 61) rfl))) (by decide) (backOf (W := 0) (rm8 l Z a0 hw [] b94 b3 (F2_carriageReturnEnds_a1 st_CARRIAGE_RETURN_OR_LINE_FEED st_CARRIAGE_RETURN_OR_LINE_FEED) ((-(own_from p2)).toInt64) (own_to p2) (own_from p2) (own_from p2) (own_from p2) (0 : Int32) (0 : Int32) (0 : Int32) (0 : Int32) (0 : Int32) T95.heap n0 Z95 f95_0 f95_1 f95_2 f95_3 f95_4 f95_5 f95_6 f95_7 f95_8 f95_9 f95_10 f95_11 f95_12 f95_13 g_b94) hZ95 (hw _ (List.mem_of_getElem? (i := 63) rfl)) (hw _ (List.mem_of_getElem? (i := 10) rfl)) (by decide) (by decide)) q152a q152c (g := (mkF m 170 #[.val (.int p1), .val (.int p2), .val (.ref b3), .val (.int (own_from p2)), .val (.int (own_to p2)), .val (.ref st_CARRIAGE_RETURN_OR_LINE_FEED), .val (.int (own_rd p2)), .val (.ref b94), .val (.long (((-(own_from p2)).toInt64) + ((own_from p2).toInt64))), .second, .unset, .unset] [(.ref b94)])) rfl (by rw [hml]; rfl) (Steps.refl _) (argsL := []) (rest := []) (lenOf pd_4 rfl) rfl (by show 2 * 0 + _ ≤ _; exact Nat.le_of_eq rfl) (hb hby at_170) (fun _ _ => ⟨rfl, e151, (by decide : 6 + 0 ≤ _), (by decide : 215 + 0 ≤ _)⟩)
      dsimp only [Pt.U, Pt.locs, Pt.cells, Pt.slots] at X152 l152 y152 z152 st152 hQ152
      subst l152 y152 z152
      obtain ⟨rfl, N152q, K152q, f152_0, f152_1, f152_2, f152_3, f152_4, f152_5, f152_6, f152_7, f152_8, f152_9, f152_10, f152_11, f152_12, f152_13⟩ := hQ152
      have K152 : Keep h0 T152.heap [] := (K95).trans K152q (allS (P := fun x => x ∈ [] ∨ h0.size ≤ x) (Or.inr sz_b94) all0)
      have Z152 : n0 ≤ T152.heap.size := Nat.le_trans Z95 K152q.1
      have N152 := Fr.app N151 N152q
      obtain ⟨cq153, kq153, q153a, q153b, q153c⟩ := isOf hZ95 rfl f152_0
      obtain ⟨_, _, ⟨T153, L153, k153, n153⟩, -, X153, ⟨Lc153, hQ153, l153, y153, z153⟩, st153⟩ := X152.virtualBack hx (y := (⟨"querent/hl7/LineReader", "kept", "()I"⟩ : MethodName)) (z := (⟨"querent/hl7/LineReader", "kept", "()I"⟩ : MethodName)) hown95 (mvT hZ95 (hw _ (List.mem_of_getElem? (i := 68) rfl))) (mvT hZ95 (hw _ (List.mem_of_getElem? (i := 69) rfl))) (notFace_of_selects (args := #[]) (mvT hZ95 (hw _ (List.mem_of_getElem? (i := 71) rfl)))) (mvT hZ95 (hw _ (List.mem_of_getElem? (i := 71) rfl))) (mvT hZ95 (hw _ (List.mem_of_getElem? (i := 70) rfl))) (by decide) (backOf (W := 0) (rm9 l Z a0 hw [] b94 (own_from p2) T152.heap n0 Z152 f152_10) hZ95 (hw _ (List.mem_of_getElem? (i := 72) rfl)) (hw _ (List.mem_of_getElem? (i := 10) rfl)) (by decide) (by decide)) q153a q153c (g := (mkF m 175 #[.val (.int p1), .val (.int p2), .val (.ref b3), .val (.int (own_from p2)), .val (.int (own_to p2)), .val (.ref st_CARRIAGE_RETURN_OR_LINE_FEED), .val (.int (own_rd p2)), .val (.ref b94), .val (.long (((-(own_from p2)).toInt64) + ((own_from p2).toInt64))), .second, .unset, .unset] [(.ref b94)])) rfl (by rw [hml]; rfl) (Steps.refl _) (argsL := []) (rest := []) (lenOf pd_10 rfl) rfl (by show 2 * 0 + _ ≤ _; exact Nat.le_of_eq rfl) (hb hby at_175) (fun _ _ => ⟨rfl, rfl, (by decide : 6 + 0 ≤ _), (by decide : 215 + 0 ≤ _)⟩)
      dsimp only [Pt.U, Pt.locs, Pt.cells, Pt.slots] at X153 l153 y153 z153 st153 hQ153
      subst l153 y153 z153
      obtain ⟨rfl, N153q, e153⟩ := hQ153
      have N153 := Fr.app N152 N153q
      have hc189_154 : ((own_from p2).toInt64) = ((((-(own_from p2)).toInt64) + ((own_from p2).toInt64)) + ((own_from p2).toInt64)) := own_off p2 (own_ft p2).1 (own_ft p2).2.1
      obtain ⟨cq155, kq155, q155a, q155b, q155c⟩ := isOf hZ95 e153 f152_0
      obtain ⟨_, _, ⟨T155, L155, k155, n155⟩, -, X155, ⟨Lc155, hQ155, l155, y155, z155⟩, st155⟩ := X153.virtualBack hx (y := (⟨"querent/hl7/LineReader", "next", "()Z"⟩ : MethodName)) (z := (⟨"querent/hl7/LineReader", "next", "()Z"⟩ : MethodName)) hown95 (mvT hZ95 (hw _ (List.mem_of_getElem? (i := 73) rfl))) (mvT hZ95 (hw _ (List.mem_of_getElem? (i := 74) rfl))) (notFace_of_selects (args := #[]) (mvT hZ95 (hw _ (List.mem_of_getElem? (i := 76) rfl)))) (mvT hZ95 (hw _ (List.mem_of_getElem? (i := 76) rfl))) (mvT hZ95 (hw _ (List.mem_of_getElem? (i := 75) rfl))) (by decide) (backOf (W := 0) (rm10 l Z a0 hw [] b94 b3 (F2_carriageReturnEnds_a1 st_CARRIAGE_RETURN_OR_LINE_FEED st_CARRIAGE_RETURN_OR_LINE_FEED) ((-(own_from p2)).toInt64) (own_to p2) (own_from p2) (own_from p2) (own_from p2) (1 : Int32) (own_from p2) (0 : Int32) (0 : Int32) (0 : Int32) k3 vl T152.heap n0 Z152 f152_0 f152_1 f152_2 f152_3 f152_4 f152_5 f152_6 f152_7 f152_8 f152_9 f152_10 f152_11 f152_12 f152_13 (y98.keep K152q (ninS ne_b3_b94 nin0)) (show ¬ ((own_from p2) < (0 : Int32)) from (own_ft p2).1) (show ¬ ((own_to p2) < (own_from p2)) from (own_ft p2).2.1) (show ¬ ((6 : Int32) < (own_to p2)) from (own_ft p2).2.2) g_b94 ne_b3_b94) hZ95 (hw _ (List.mem_of_getElem? (i := 77) rfl)) (hw _ (List.mem_of_getElem? (i := 10) rfl)) (by decide) (by decide)) q155a q155c (g := (mkF m 196 #[.val (.int p1), .val (.int p2), .val (.ref b3), .val (.int (own_from p2)), .val (.int (own_to p2)), .val (.ref st_CARRIAGE_RETURN_OR_LINE_FEED), .val (.int (own_rd p2)), .val (.ref b94), .val (.long (((-(own_from p2)).toInt64) + ((own_from p2).toInt64))), .second, .val (.int (own_from p2)), .unset] [(.ref b94)])) rfl (by rw [hml]; rfl) (Steps.refl _) (argsL := []) (rest := []) (lenOf pd_3 rfl) rfl (by show 2 * 0 + _ ≤ _; exact Nat.le_of_eq rfl) (hb hby at_196) (fun _ _ => ⟨rfl, e153, (by decide : 6 + 0 ≤ _), (by decide : 215 + 0 ≤ _)⟩)
      dsimp only [Pt.U, Pt.locs, Pt.cells, Pt.slots] at X155 l155 y155 z155 st155 hQ155
      subst l155 y155 z155
      obtain ⟨x155_0, x155_1, x155_2, x155_3, x155_4, x155_5, x155_6, rfl, N155q, K155q, f155_0, f155_1, f155_2, f155_3, f155_4, f155_5, f155_6, f155_7, f155_8, f155_9, f155_10, f155_11, f155_12, f155_13, p155_0, p155_1, p155_2⟩ := hQ155
      have y156 := ((y98.keep K152q (ninS ne_b3_b94 nin0)).keep K155q (ninS ne_b3_b94 nin0))
      have K155 : Keep h0 T155.heap [] := (K152).trans K155q (allS (P := fun x => x ∈ [] ∨ h0.size ≤ x) (Or.inr sz_b94) all0)
      have Z155 : n0 ≤ T155.heap.size := Nat.le_trans Z152 K155q.1
      have N155 := Fr.app N153 N155q
      obtain ⟨cq157, kq157, q157a, q157b, q157c⟩ := isOf hZ95 rfl f155_0
      obtain ⟨_, _, ⟨T157, L157, k157, n157⟩, -, X157, ⟨Lc157, hQ157, l157, y157, z157⟩, st157⟩ := X155.virtualBack hx (y := (⟨"querent/hl7/LineReader", "start", "()I"⟩ : MethodName)) (z := (⟨"querent/hl7/LineReader", "start", "()I"⟩ : MethodName)) hown95 (mvT hZ95 (hw _ (List.mem_of_getElem? (i := 96) rfl))) (mvT hZ95 (hw _ (List.mem_of_getElem? (i := 97) rfl))) (notFace_of_selects (args := #[]) (mvT hZ95 (hw _ (List.mem_of_getElem? (i := 99) rfl)))) (mvT hZ95 (hw _ (List.mem_of_getElem? (i := 99) rfl))) (mvT hZ95 (hw _ (List.mem_of_getElem? (i := 98) rfl))) (by decide) (backOf (W := 0) (rm15 l Z a0 hw [] b94 x155_1 T155.heap n0 Z155 f155_6) hZ95 (hw _ (List.mem_of_getElem? (i := 100) rfl)) (hw _ (List.mem_of_getElem? (i := 10) rfl)) (by decide) (by decide)) q157a q157c (g := (mkF m 202 #[.val (.int p1), .val (.int p2), .val (.ref b3), .val (.int (own_from p2)), .val (.int (own_to p2)), .val (.ref st_CARRIAGE_RETURN_OR_LINE_FEED), .val (.int (own_rd p2)), .val (.ref b94), .val (.long (((-(own_from p2)).toInt64) + ((own_from p2).toInt64))), .second, .val (.int (own_from p2)), .unset] [(.ref b94)])) rfl (by rw [hml]; rfl) (Steps.refl _) (argsL := []) (rest := []) (lenOf pd_10 rfl) rfl (by show 2 * 0 + _ ≤ _; exact Nat.le_of_eq rfl) (hb hby at_202) (fun _ _ => ⟨rfl, rfl, (by decide : 6 + 0 ≤ _), (by decide : 215 + 0 ≤ _)⟩)
      dsimp only [Pt.U, Pt.locs, Pt.cells, Pt.slots] at X157 l157 y157 z157 st157 hQ157
      subst l157 y157 z157
      obtain ⟨rfl, N157q, e157⟩ := hQ157
      have N157 := Fr.app N155 N157q
      have pre159 : ∀ t, Steps p.tables e below (T157.setTop (mkF m 211 #[.val (.int p1), .val (.int p2), .val (.ref b3), .val (.int (own_from p2)), .val (.int (own_to p2)), .val (.ref st_CARRIAGE_RETURN_OR_LINE_FEED), .val (.int (own_rd p2)), .val (.ref b94), .val (.long (((-(own_from p2)).toInt64) + ((own_from p2).toInt64))), .second, .val (.int (own_from p2)), .val (.int x155_1)] [(.int (own_from p2)), (.int x155_1)])) t → Steps p.tables e below (s₁.setTop (entryFrame m #[(.int p1), (.int p2)] maxLocals)) t := fun t kt => pre100 t (by
        show Steps p.tables e below (T95.setTop (mkF m 128 #[.val (.int p1), .val (.int p2), .val (.ref b3), .val (.int (own_from p2)), .val (.int (own_to p2)), .val (.ref st_CARRIAGE_RETURN_OR_LINE_FEED), .val (.int (own_rd p2)), .val (.ref b94), .unset, .unset, .unset, .unset] [(.int (own_rd p2))])) _
        refine XS.ifYes X95w.here hx rfl (pc0 := 128) (pc' := 137) rfl (hb hby at_128) rfl ((if0 _ _).trans (flt hc128_99).2.2.2) (by decide) (by decide) ?_
        show Steps p.tables e below (T95.setTop (mkF m 137 #[.val (.int p1), .val (.int p2), .val (.ref b3), .val (.int (own_from p2)), .val (.int (own_to p2)), .val (.ref st_CARRIAGE_RETURN_OR_LINE_FEED), .val (.int (own_rd p2)), .val (.ref b94), .unset, .unset, .unset, .unset] [])) _
        refine XS.iload X95w.here hx rfl (hb hby at_137) rfl ?_
        show Steps p.tables e below (T95.setTop (mkF m 139 #[.val (.int p1), .val (.int p2), .val (.ref b3), .val (.int (own_from p2)), .val (.int (own_to p2)), .val (.ref st_CARRIAGE_RETURN_OR_LINE_FEED), .val (.int (own_rd p2)), .val (.ref b94), .unset, .unset, .unset, .unset] [(.int (own_rd p2))])) _
        refine XS.iconst X95w.here hx rfl (hb hby at_139) ?_
        show Steps p.tables e below (T95.setTop (mkF m 140 #[.val (.int p1), .val (.int p2), .val (.ref b3), .val (.int (own_from p2)), .val (.int (own_to p2)), .val (.ref st_CARRIAGE_RETURN_OR_LINE_FEED), .val (.int (own_rd p2)), .val (.ref b94), .unset, .unset, .unset, .unset] [(.int (1 : Int32)), (.int (own_rd p2))])) _
        refine XS.icmpYes X95w.here hx rfl (pc0 := 140) (pc' := 149) rfl (hb hby at_140) rfl (flt hc140_149).2.2.2 (by decide) (by decide) ?_
        show Steps p.tables e below (T95.setTop (mkF m 149 #[.val (.int p1), .val (.int p2), .val (.ref b3), .val (.int (own_from p2)), .val (.int (own_to p2)), .val (.ref st_CARRIAGE_RETURN_OR_LINE_FEED), .val (.int (own_rd p2)), .val (.ref b94), .unset, .unset, .unset, .unset] [])) _
        refine XS.iload X95w.here hx rfl (hb hby at_149) rfl ?_
        show Steps p.tables e below (T95.setTop (mkF m 151 #[.val (.int p1), .val (.int p2), .val (.ref b3), .val (.int (own_from p2)), .val (.int (own_to p2)), .val (.ref st_CARRIAGE_RETURN_OR_LINE_FEED), .val (.int (own_rd p2)), .val (.ref b94), .unset, .unset, .unset, .unset] [(.int (own_rd p2))])) _
        refine XS.iconst X95w.here hx rfl (hb hby at_151) ?_
        show Steps p.tables e below (T95.setTop (mkF m 152 #[.val (.int p1), .val (.int p2), .val (.ref b3), .val (.int (own_from p2)), .val (.int (own_to p2)), .val (.ref st_CARRIAGE_RETURN_OR_LINE_FEED), .val (.int (own_rd p2)), .val (.ref b94), .unset, .unset, .unset, .unset] [(.int (2 : Int32)), (.int (own_rd p2))])) _
        refine XS.icmpYes X95w.here hx rfl (pc0 := 152) (pc' := 161) rfl (hb hby at_152) rfl (flt hc152_150).2.2.2 (by decide) (by decide) ?_
        show Steps p.tables e below (T95.setTop (mkF m 161 #[.val (.int p1), .val (.int p2), .val (.ref b3), .val (.int (own_from p2)), .val (.int (own_to p2)), .val (.ref st_CARRIAGE_RETURN_OR_LINE_FEED), .val (.int (own_rd p2)), .val (.ref b94), .unset, .unset, .unset, .unset] [])) _
        refine XS.aload X95w.here hx rfl (hb hby at_161) rfl rfl ?_
        show Steps p.tables e below (T95.setTop (mkF m 163 #[.val (.int p1), .val (.int p2), .val (.ref b3), .val (.int (own_from p2)), .val (.int (own_to p2)), .val (.ref st_CARRIAGE_RETURN_OR_LINE_FEED), .val (.int (own_rd p2)), .val (.ref b94), .unset, .unset, .unset, .unset] [(.ref b94)])) _
        refine st151.trans ?_
        show Steps p.tables e below (T151.setTop (mkF m 166 #[.val (.int p1), .val (.int p2), .val (.ref b3), .val (.int (own_from p2)), .val (.int (own_to p2)), .val (.ref st_CARRIAGE_RETURN_OR_LINE_FEED), .val (.int (own_rd p2)), .val (.ref b94), .unset, .unset, .unset, .unset] [(.long (((-(own_from p2)).toInt64) + ((own_from p2).toInt64)))])) _
        refine XS.lstore X151.here hx rfl (hb hby at_166) rfl (l' := #[.val (.int p1), .val (.int p2), .val (.ref b3), .val (.int (own_from p2)), .val (.int (own_to p2)), .val (.ref st_CARRIAGE_RETURN_OR_LINE_FEED), .val (.int (own_rd p2)), .val (.ref b94), .val (.long (((-(own_from p2)).toInt64) + ((own_from p2).toInt64))), .second, .unset, .unset]) rfl ?_
        show Steps p.tables e below (T151.setTop (mkF m 168 #[.val (.int p1), .val (.int p2), .val (.ref b3), .val (.int (own_from p2)), .val (.int (own_to p2)), .val (.ref st_CARRIAGE_RETURN_OR_LINE_FEED), .val (.int (own_rd p2)), .val (.ref b94), .val (.long (((-(own_from p2)).toInt64) + ((own_from p2).toInt64))), .second, .unset, .unset] [])) _
        refine XS.aload X151.here hx rfl (hb hby at_168) rfl rfl ?_
        show Steps p.tables e below (T151.setTop (mkF m 170 #[.val (.int p1), .val (.int p2), .val (.ref b3), .val (.int (own_from p2)), .val (.int (own_to p2)), .val (.ref st_CARRIAGE_RETURN_OR_LINE_FEED), .val (.int (own_rd p2)), .val (.ref b94), .val (.long (((-(own_from p2)).toInt64) + ((own_from p2).toInt64))), .second, .unset, .unset] [(.ref b94)])) _
        refine st152.trans ?_
        show Steps p.tables e below (T152.setTop (mkF m 173 #[.val (.int p1), .val (.int p2), .val (.ref b3), .val (.int (own_from p2)), .val (.int (own_to p2)), .val (.ref st_CARRIAGE_RETURN_OR_LINE_FEED), .val (.int (own_rd p2)), .val (.ref b94), .val (.long (((-(own_from p2)).toInt64) + ((own_from p2).toInt64))), .second, .unset, .unset] [])) _
        refine XS.aload X152.here hx rfl (hb hby at_173) rfl rfl ?_
        show Steps p.tables e below (T152.setTop (mkF m 175 #[.val (.int p1), .val (.int p2), .val (.ref b3), .val (.int (own_from p2)), .val (.int (own_to p2)), .val (.ref st_CARRIAGE_RETURN_OR_LINE_FEED), .val (.int (own_rd p2)), .val (.ref b94), .val (.long (((-(own_from p2)).toInt64) + ((own_from p2).toInt64))), .second, .unset, .unset] [(.ref b94)])) _
        refine st153.trans ?_
        show Steps p.tables e below (T153.setTop (mkF m 178 #[.val (.int p1), .val (.int p2), .val (.ref b3), .val (.int (own_from p2)), .val (.int (own_to p2)), .val (.ref st_CARRIAGE_RETURN_OR_LINE_FEED), .val (.int (own_rd p2)), .val (.ref b94), .val (.long (((-(own_from p2)).toInt64) + ((own_from p2).toInt64))), .second, .unset, .unset] [(.int (own_from p2))])) _
        refine XS.istore X153.here hx rfl (hb hby at_178) rfl (l' := #[.val (.int p1), .val (.int p2), .val (.ref b3), .val (.int (own_from p2)), .val (.int (own_to p2)), .val (.ref st_CARRIAGE_RETURN_OR_LINE_FEED), .val (.int (own_rd p2)), .val (.ref b94), .val (.long (((-(own_from p2)).toInt64) + ((own_from p2).toInt64))), .second, .val (.int (own_from p2)), .unset]) rfl ?_
        show Steps p.tables e below (T153.setTop (mkF m 180 #[.val (.int p1), .val (.int p2), .val (.ref b3), .val (.int (own_from p2)), .val (.int (own_to p2)), .val (.ref st_CARRIAGE_RETURN_OR_LINE_FEED), .val (.int (own_rd p2)), .val (.ref b94), .val (.long (((-(own_from p2)).toInt64) + ((own_from p2).toInt64))), .second, .val (.int (own_from p2)), .unset] [])) _
        refine XS.iload X153.here hx rfl (hb hby at_180) rfl ?_
        show Steps p.tables e below (T153.setTop (mkF m 182 #[.val (.int p1), .val (.int p2), .val (.ref b3), .val (.int (own_from p2)), .val (.int (own_to p2)), .val (.ref st_CARRIAGE_RETURN_OR_LINE_FEED), .val (.int (own_rd p2)), .val (.ref b94), .val (.long (((-(own_from p2)).toInt64) + ((own_from p2).toInt64))), .second, .val (.int (own_from p2)), .unset] [(.int (own_from p2))])) _
        refine XS.i2l X153.here hx rfl (hb hby at_182) rfl ?_
        show Steps p.tables e below (T153.setTop (mkF m 183 #[.val (.int p1), .val (.int p2), .val (.ref b3), .val (.int (own_from p2)), .val (.int (own_to p2)), .val (.ref st_CARRIAGE_RETURN_OR_LINE_FEED), .val (.int (own_rd p2)), .val (.ref b94), .val (.long (((-(own_from p2)).toInt64) + ((own_from p2).toInt64))), .second, .val (.int (own_from p2)), .unset] [(.long ((own_from p2).toInt64))])) _
        refine XS.lload X153.here hx rfl (hb hby at_183) rfl ?_
        show Steps p.tables e below (T153.setTop (mkF m 185 #[.val (.int p1), .val (.int p2), .val (.ref b3), .val (.int (own_from p2)), .val (.int (own_to p2)), .val (.ref st_CARRIAGE_RETURN_OR_LINE_FEED), .val (.int (own_rd p2)), .val (.ref b94), .val (.long (((-(own_from p2)).toInt64) + ((own_from p2).toInt64))), .second, .val (.int (own_from p2)), .unset] [(.long (((-(own_from p2)).toInt64) + ((own_from p2).toInt64))), (.long ((own_from p2).toInt64))])) _
        refine XS.iloadN X153.here hx rfl (hb hby at_185) rfl ?_
        show Steps p.tables e below (T153.setTop (mkF m 186 #[.val (.int p1), .val (.int p2), .val (.ref b3), .val (.int (own_from p2)), .val (.int (own_to p2)), .val (.ref st_CARRIAGE_RETURN_OR_LINE_FEED), .val (.int (own_rd p2)), .val (.ref b94), .val (.long (((-(own_from p2)).toInt64) + ((own_from p2).toInt64))), .second, .val (.int (own_from p2)), .unset] [(.int (own_from p2)), (.long (((-(own_from p2)).toInt64) + ((own_from p2).toInt64))), (.long ((own_from p2).toInt64))])) _
        refine XS.i2l X153.here hx rfl (hb hby at_186) rfl ?_
        show Steps p.tables e below (T153.setTop (mkF m 187 #[.val (.int p1), .val (.int p2), .val (.ref b3), .val (.int (own_from p2)), .val (.int (own_to p2)), .val (.ref st_CARRIAGE_RETURN_OR_LINE_FEED), .val (.int (own_rd p2)), .val (.ref b94), .val (.long (((-(own_from p2)).toInt64) + ((own_from p2).toInt64))), .second, .val (.int (own_from p2)), .unset] [(.long ((own_from p2).toInt64)), (.long (((-(own_from p2)).toInt64) + ((own_from p2).toInt64))), (.long ((own_from p2).toInt64))])) _
        refine XS.ladd X153.here hx rfl (hb hby at_187) rfl ?_
        show Steps p.tables e below (T153.setTop (mkF m 188 #[.val (.int p1), .val (.int p2), .val (.ref b3), .val (.int (own_from p2)), .val (.int (own_to p2)), .val (.ref st_CARRIAGE_RETURN_OR_LINE_FEED), .val (.int (own_rd p2)), .val (.ref b94), .val (.long (((-(own_from p2)).toInt64) + ((own_from p2).toInt64))), .second, .val (.int (own_from p2)), .unset] [(.long ((((-(own_from p2)).toInt64) + ((own_from p2).toInt64)) + ((own_from p2).toInt64))), (.long ((own_from p2).toInt64))])) _
        refine XS.lcmp X153.here hx rfl (hb hby at_188) rfl ?_
        show Steps p.tables e below (T153.setTop (mkF m 189 #[.val (.int p1), .val (.int p2), .val (.ref b3), .val (.int (own_from p2)), .val (.int (own_to p2)), .val (.ref st_CARRIAGE_RETURN_OR_LINE_FEED), .val (.int (own_rd p2)), .val (.ref b94), .val (.long (((-(own_from p2)).toInt64) + ((own_from p2).toInt64))), .second, .val (.int (own_from p2)), .unset] [(.int (lcmpW ((own_from p2).toInt64) ((((-(own_from p2)).toInt64) + ((own_from p2).toInt64)) + ((own_from p2).toInt64))))])) _
        refine XS.ifYes X153.here hx rfl (pc0 := 189) (pc' := 194) rfl (hb hby at_189) rfl ((if0 _ _).trans (teq ((lw_eq ((own_from p2).toInt64) ((((-(own_from p2)).toInt64) + ((own_from p2).toInt64)) + ((own_from p2).toInt64))).mpr hc189_154)).1) (by decide) (by decide) ?_
        show Steps p.tables e below (T153.setTop (mkF m 194 #[.val (.int p1), .val (.int p2), .val (.ref b3), .val (.int (own_from p2)), .val (.int (own_to p2)), .val (.ref st_CARRIAGE_RETURN_OR_LINE_FEED), .val (.int (own_rd p2)), .val (.ref b94), .val (.long (((-(own_from p2)).toInt64) + ((own_from p2).toInt64))), .second, .val (.int (own_from p2)), .unset] [])) _
        refine XS.aload X153.here hx rfl (hb hby at_194) rfl rfl ?_
        show Steps p.tables e below (T153.setTop (mkF m 196 #[.val (.int p1), .val (.int p2), .val (.ref b3), .val (.int (own_from p2)), .val (.int (own_to p2)), .val (.ref st_CARRIAGE_RETURN_OR_LINE_FEED), .val (.int (own_rd p2)), .val (.ref b94), .val (.long (((-(own_from p2)).toInt64) + ((own_from p2).toInt64))), .second, .val (.int (own_from p2)), .unset] [(.ref b94)])) _
        refine st155.trans ?_
        show Steps p.tables e below (T155.setTop (mkF m 199 #[.val (.int p1), .val (.int p2), .val (.ref b3), .val (.int (own_from p2)), .val (.int (own_to p2)), .val (.ref st_CARRIAGE_RETURN_OR_LINE_FEED), .val (.int (own_rd p2)), .val (.ref b94), .val (.long (((-(own_from p2)).toInt64) + ((own_from p2).toInt64))), .second, .val (.int (own_from p2)), .unset] [(.int x155_0)])) _
        refine XS.pop X155.here hx rfl (hb hby at_199) rfl rfl ?_
        show Steps p.tables e below (T155.setTop (mkF m 200 #[.val (.int p1), .val (.int p2), .val (.ref b3), .val (.int (own_from p2)), .val (.int (own_to p2)), .val (.ref st_CARRIAGE_RETURN_OR_LINE_FEED), .val (.int (own_rd p2)), .val (.ref b94), .val (.long (((-(own_from p2)).toInt64) + ((own_from p2).toInt64))), .second, .val (.int (own_from p2)), .unset] [])) _
        refine XS.aload X155.here hx rfl (hb hby at_200) rfl rfl ?_
        show Steps p.tables e below (T155.setTop (mkF m 202 #[.val (.int p1), .val (.int p2), .val (.ref b3), .val (.int (own_from p2)), .val (.int (own_to p2)), .val (.ref st_CARRIAGE_RETURN_OR_LINE_FEED), .val (.int (own_rd p2)), .val (.ref b94), .val (.long (((-(own_from p2)).toInt64) + ((own_from p2).toInt64))), .second, .val (.int (own_from p2)), .unset] [(.ref b94)])) _
        refine st157.trans ?_
        show Steps p.tables e below (T157.setTop (mkF m 205 #[.val (.int p1), .val (.int p2), .val (.ref b3), .val (.int (own_from p2)), .val (.int (own_to p2)), .val (.ref st_CARRIAGE_RETURN_OR_LINE_FEED), .val (.int (own_rd p2)), .val (.ref b94), .val (.long (((-(own_from p2)).toInt64) + ((own_from p2).toInt64))), .second, .val (.int (own_from p2)), .unset] [(.int x155_1)])) _
        refine XS.istore X157.here hx rfl (hb hby at_205) rfl (l' := #[.val (.int p1), .val (.int p2), .val (.ref b3), .val (.int (own_from p2)), .val (.int (own_to p2)), .val (.ref st_CARRIAGE_RETURN_OR_LINE_FEED), .val (.int (own_rd p2)), .val (.ref b94), .val (.long (((-(own_from p2)).toInt64) + ((own_from p2).toInt64))), .second, .val (.int (own_from p2)), .val (.int x155_1)]) rfl ?_
        show Steps p.tables e below (T157.setTop (mkF m 207 #[.val (.int p1), .val (.int p2), .val (.ref b3), .val (.int (own_from p2)), .val (.int (own_to p2)), .val (.ref st_CARRIAGE_RETURN_OR_LINE_FEED), .val (.int (own_rd p2)), .val (.ref b94), .val (.long (((-(own_from p2)).toInt64) + ((own_from p2).toInt64))), .second, .val (.int (own_from p2)), .val (.int x155_1)] [])) _
        refine XS.iload X157.here hx rfl (hb hby at_207) rfl ?_
        show Steps p.tables e below (T157.setTop (mkF m 209 #[.val (.int p1), .val (.int p2), .val (.ref b3), .val (.int (own_from p2)), .val (.int (own_to p2)), .val (.ref st_CARRIAGE_RETURN_OR_LINE_FEED), .val (.int (own_rd p2)), .val (.ref b94), .val (.long (((-(own_from p2)).toInt64) + ((own_from p2).toInt64))), .second, .val (.int (own_from p2)), .val (.int x155_1)] [(.int x155_1)])) _
        refine XS.iload X157.here hx rfl (hb hby at_209) rfl ?_
        show Steps p.tables e below (T157.setTop (mkF m 211 #[.val (.int p1), .val (.int p2), .val (.ref b3), .val (.int (own_from p2)), .val (.int (own_to p2)), .val (.ref st_CARRIAGE_RETURN_OR_LINE_FEED), .val (.int (own_rd p2)), .val (.ref b94), .val (.long (((-(own_from p2)).toInt64) + ((own_from p2).toInt64))), .second, .val (.int (own_from p2)), .val (.int x155_1)] [(.int (own_from p2)), (.int x155_1)])) _
        exact kt)
      by_cases hc211_158 : x155_1 = (own_from p2)
      · obtain ⟨fs, hr, hrun, hended, hEW⟩ := X157.leaveW hS95 (by rw [e157]; exact (Nat.le_trans (Nat.le_trans (Nat.le_refl _) K152q.1) K155q.1)) (v := some (.int (1 : Int32))) (fun h => by rw [Bd.returns] at h; cases h)
        refine ⟨_, _, pre159 _ ?_, hrun, hended, _, _, rfl, ?_, ⟨_, rfl⟩, hEW.2.1, hEW.2.2.1, hEW.2.2.2.mono (by decide) (by decide)⟩
        · show Steps p.tables e below (T157.setTop (mkF m 211 #[.val (.int p1), .val (.int p2), .val (.ref b3), .val (.int (own_from p2)), .val (.int (own_to p2)), .val (.ref st_CARRIAGE_RETURN_OR_LINE_FEED), .val (.int (own_rd p2)), .val (.ref b94), .val (.long (((-(own_from p2)).toInt64) + ((own_from p2).toInt64))), .second, .val (.int (own_from p2)), .val (.int x155_1)] [(.int (own_from p2)), (.int x155_1)])) _
          refine XS.icmpNo X157.here hx rfl (hb hby at_211) rfl (teq hc211_158).2 ?_
          show Steps p.tables e below (T157.setTop (mkF m 214 #[.val (.int p1), .val (.int p2), .val (.ref b3), .val (.int (own_from p2)), .val (.int (own_to p2)), .val (.ref st_CARRIAGE_RETURN_OR_LINE_FEED), .val (.int (own_rd p2)), .val (.ref b94), .val (.long (((-(own_from p2)).toInt64) + ((own_from p2).toInt64))), .second, .val (.int (own_from p2)), .val (.int x155_1)] [])) _
          refine XS.iconst X157.here hx rfl (hb hby at_214) ?_
          show Steps p.tables e below (T157.setTop (mkF m 215 #[.val (.int p1), .val (.int p2), .val (.ref b3), .val (.int (own_from p2)), .val (.int (own_to p2)), .val (.ref st_CARRIAGE_RETURN_OR_LINE_FEED), .val (.int (own_rd p2)), .val (.ref b94), .val (.long (((-(own_from p2)).toInt64) + ((own_from p2).toInt64))), .second, .val (.int (own_from p2)), .val (.int x155_1)] [(.int (1 : Int32))])) _
          exact retN X157 hx (t := .boolean) Bd.returns (by simp) (hb hby at_215) hr
        · show Q0 Z p1 p2 st_LINE_FEED st_CARRIAGE_RETURN_OR_LINE_FEED h0 n0 _ T157.heap _
          rw [e157]
          exact ⟨rfl, N157⟩
      · have hc222_160 : x155_1 = ((own_from p2) + (1 : Int32)) := (own_dj p155_0 hc211_158).1
        obtain ⟨cq161, kq161, q161a, q161b, q161c⟩ := isOf hZ95 e157 f155_0
        obtain ⟨_, _, ⟨T161, L161, k161, n161⟩, -, X161, ⟨Lc161, hQ161, l161, y161, z161⟩, st161⟩ := X157.virtualBack hx (y := (⟨"querent/hl7/LineReader", "bytes", "()[B"⟩ : MethodName)) (z := (⟨"querent/hl7/LineReader", "bytes", "()[B"⟩ : MethodName)) hown95 (mvT hZ95 (hw _ (List.mem_of_getElem? (i := 114) rfl))) (mvT hZ95 (hw _ (List.mem_of_getElem? (i := 115) rfl))) (notFace_of_selects (args := #[]) (mvT hZ95 (hw _ (List.mem_of_getElem? (i := 117) rfl)))) (mvT hZ95 (hw _ (List.mem_of_getElem? (i := 117) rfl))) (mvT hZ95 (hw _ (List.mem_of_getElem? (i := 116) rfl))) (by decide) (backOf (W := 0) (rm18 l Z a0 hw [] b94 b3 T155.heap n0 Z155 f155_2) hZ95 (hw _ (List.mem_of_getElem? (i := 118) rfl)) (hw _ (List.mem_of_getElem? (i := 10) rfl)) (by decide) (by decide)) q161a q161c (g := (mkF m 227 #[.val (.int p1), .val (.int p2), .val (.ref b3), .val (.int (own_from p2)), .val (.int (own_to p2)), .val (.ref st_CARRIAGE_RETURN_OR_LINE_FEED), .val (.int (own_rd p2)), .val (.ref b94), .val (.long (((-(own_from p2)).toInt64) + ((own_from p2).toInt64))), .second, .val (.int (own_from p2)), .val (.int x155_1)] [(.ref b94)])) rfl (by rw [hml]; rfl) (Steps.refl _) (argsL := []) (rest := []) (lenOf pd_11 rfl) rfl (by show 2 * 0 + _ ≤ _; exact Nat.le_of_eq rfl) (hb hby at_227) (fun _ _ => ⟨rfl, e157, (by decide : 6 + 0 ≤ _), (by decide : 215 + 0 ≤ _)⟩)
        dsimp only [Pt.U, Pt.locs, Pt.cells, Pt.slots] at X161 l161 y161 z161 st161 hQ161
        subst l161 y161 z161
        obtain ⟨rfl, N161q, e161⟩ := hQ161
        have N161 := Fr.app N157 N161q
        obtain ⟨cl162, Ar162, qq162, S162, NN162, HH162, GG162⟩ := id y156
        have hin162 : ¬ ((own_from p2) < 0 ∨ cl162.slots.size ≤ ((own_from p2)).toNatClampNeg) := inb_of S162 ⟨(show ¬ ((own_from p2) < (0 : Int32)) from (own_ft p2).1), (show (own_from p2) < (6 : Int32) from own_lt6 (own_dj p155_0 hc211_158).2.2 (own_ft p2).2.2)⟩
        have hat162 : cl162.slots[((own_from p2)).toNatClampNeg]? = some (.int (own_at vl (own_from p2))) := Has.at HH162 hin162 (own_atv vl (own_from p2))
        have hc235_163 : (own_at vl (own_from p2)) = (10 : Int32) := (own_dj p155_0 hc211_158).2.1
        obtain ⟨fs, hr, hrun, hended, hEW⟩ := X161.leaveW hS95 (by rw [e161]; exact (Nat.le_trans (Nat.le_trans (Nat.le_refl _) K152q.1) K155q.1)) (v := some (.int (1 : Int32))) (fun h => by rw [Bd.returns] at h; cases h)
        refine ⟨_, _, pre159 _ ?_, hrun, hended, _, _, rfl, ?_, ⟨_, rfl⟩, hEW.2.1, hEW.2.2.1, hEW.2.2.2.mono (by decide) (by decide)⟩
        · show Steps p.tables e below (T157.setTop (mkF m 211 #[.val (.int p1), .val (.int p2), .val (.ref b3), .val (.int (own_from p2)), .val (.int (own_to p2)), .val (.ref st_CARRIAGE_RETURN_OR_LINE_FEED), .val (.int (own_rd p2)), .val (.ref b94), .val (.long (((-(own_from p2)).toInt64) + ((own_from p2).toInt64))), .second, .val (.int (own_from p2)), .val (.int x155_1)] [(.int (own_from p2)), (.int x155_1)])) _
          refine XS.icmpYes X157.here hx rfl (pc0 := 211) (pc' := 216) rfl (hb hby at_211) rfl (feq hc211_158).2 (by decide) (by decide) ?_
          show Steps p.tables e below (T157.setTop (mkF m 216 #[.val (.int p1), .val (.int p2), .val (.ref b3), .val (.int (own_from p2)), .val (.int (own_to p2)), .val (.ref st_CARRIAGE_RETURN_OR_LINE_FEED), .val (.int (own_rd p2)), .val (.ref b94), .val (.long (((-(own_from p2)).toInt64) + ((own_from p2).toInt64))), .second, .val (.int (own_from p2)), .val (.int x155_1)] [])) _
          refine XS.iload X157.here hx rfl (hb hby at_216) rfl ?_
          show Steps p.tables e below (T157.setTop (mkF m 218 #[.val (.int p1), .val (.int p2), .val (.ref b3), .val (.int (own_from p2)), .val (.int (own_to p2)), .val (.ref st_CARRIAGE_RETURN_OR_LINE_FEED), .val (.int (own_rd p2)), .val (.ref b94), .val (.long (((-(own_from p2)).toInt64) + ((own_from p2).toInt64))), .second, .val (.int (own_from p2)), .val (.int x155_1)] [(.int x155_1)])) _
          refine XS.iload X157.here hx rfl (hb hby at_218) rfl ?_
          show Steps p.tables e below (T157.setTop (mkF m 220 #[.val (.int p1), .val (.int p2), .val (.ref b3), .val (.int (own_from p2)), .val (.int (own_to p2)), .val (.ref st_CARRIAGE_RETURN_OR_LINE_FEED), .val (.int (own_rd p2)), .val (.ref b94), .val (.long (((-(own_from p2)).toInt64) + ((own_from p2).toInt64))), .second, .val (.int (own_from p2)), .val (.int x155_1)] [(.int (own_from p2)), (.int x155_1)])) _
          refine XS.iconst X157.here hx rfl (hb hby at_220) ?_
          show Steps p.tables e below (T157.setTop (mkF m 221 #[.val (.int p1), .val (.int p2), .val (.ref b3), .val (.int (own_from p2)), .val (.int (own_to p2)), .val (.ref st_CARRIAGE_RETURN_OR_LINE_FEED), .val (.int (own_rd p2)), .val (.ref b94), .val (.long (((-(own_from p2)).toInt64) + ((own_from p2).toInt64))), .second, .val (.int (own_from p2)), .val (.int x155_1)] [(.int (1 : Int32)), (.int (own_from p2)), (.int x155_1)])) _
          refine XS.iadd X157.here hx rfl (hb hby at_221) rfl ?_
          show Steps p.tables e below (T157.setTop (mkF m 222 #[.val (.int p1), .val (.int p2), .val (.ref b3), .val (.int (own_from p2)), .val (.int (own_to p2)), .val (.ref st_CARRIAGE_RETURN_OR_LINE_FEED), .val (.int (own_rd p2)), .val (.ref b94), .val (.long (((-(own_from p2)).toInt64) + ((own_from p2).toInt64))), .second, .val (.int (own_from p2)), .val (.int x155_1)] [(.int ((own_from p2) + (1 : Int32))), (.int x155_1)])) _
          refine XS.icmpNo X157.here hx rfl (hb hby at_222) rfl (teq hc222_160).2 ?_
          show Steps p.tables e below (T157.setTop (mkF m 225 #[.val (.int p1), .val (.int p2), .val (.ref b3), .val (.int (own_from p2)), .val (.int (own_to p2)), .val (.ref st_CARRIAGE_RETURN_OR_LINE_FEED), .val (.int (own_rd p2)), .val (.ref b94), .val (.long (((-(own_from p2)).toInt64) + ((own_from p2).toInt64))), .second, .val (.int (own_from p2)), .val (.int x155_1)] [])) _
          refine XS.aload X157.here hx rfl (hb hby at_225) rfl rfl ?_
          show Steps p.tables e below (T157.setTop (mkF m 227 #[.val (.int p1), .val (.int p2), .val (.ref b3), .val (.int (own_from p2)), .val (.int (own_to p2)), .val (.ref st_CARRIAGE_RETURN_OR_LINE_FEED), .val (.int (own_rd p2)), .val (.ref b94), .val (.long (((-(own_from p2)).toInt64) + ((own_from p2).toInt64))), .second, .val (.int (own_from p2)), .val (.int x155_1)] [(.ref b94)])) _
          refine st161.trans ?_
          show Steps p.tables e below (T161.setTop (mkF m 230 #[.val (.int p1), .val (.int p2), .val (.ref b3), .val (.int (own_from p2)), .val (.int (own_to p2)), .val (.ref st_CARRIAGE_RETURN_OR_LINE_FEED), .val (.int (own_rd p2)), .val (.ref b94), .val (.long (((-(own_from p2)).toInt64) + ((own_from p2).toInt64))), .second, .val (.int (own_from p2)), .val (.int x155_1)] [(.ref b3)])) _
          refine XS.iload X161.here hx rfl (hb hby at_230) rfl ?_
          show Steps p.tables e below (T161.setTop (mkF m 232 #[.val (.int p1), .val (.int p2), .val (.ref b3), .val (.int (own_from p2)), .val (.int (own_to p2)), .val (.ref st_CARRIAGE_RETURN_OR_LINE_FEED), .val (.int (own_rd p2)), .val (.ref b94), .val (.long (((-(own_from p2)).toInt64) + ((own_from p2).toInt64))), .second, .val (.int (own_from p2)), .val (.int x155_1)] [(.int (own_from p2)), (.ref b3)])) _
          refine X161.baloadBytes hx (j := (own_from p2)) (v := (.int (own_at vl (own_from p2)))) (by rw [e161]; exact Ar162.1) (State.isArrayOf_alike hZ95.alike Ar162.2.1) Ar162.2.2 hin162 hat162 (g := (mkF m 232 #[.val (.int p1), .val (.int p2), .val (.ref b3), .val (.int (own_from p2)), .val (.int (own_to p2)), .val (.ref st_CARRIAGE_RETURN_OR_LINE_FEED), .val (.int (own_rd p2)), .val (.ref b94), .val (.long (((-(own_from p2)).toInt64) + ((own_from p2).toInt64))), .second, .val (.int (own_from p2)), .val (.int x155_1)] [(.int (own_from p2)), (.ref b3)])) rfl rfl (hb hby at_232) _ ?_
          show Steps p.tables e below (T161.setTop (mkF m 233 #[.val (.int p1), .val (.int p2), .val (.ref b3), .val (.int (own_from p2)), .val (.int (own_to p2)), .val (.ref st_CARRIAGE_RETURN_OR_LINE_FEED), .val (.int (own_rd p2)), .val (.ref b94), .val (.long (((-(own_from p2)).toInt64) + ((own_from p2).toInt64))), .second, .val (.int (own_from p2)), .val (.int x155_1)] [(.int (own_at vl (own_from p2)))])) _
          refine XS.bipush X161.here hx rfl (hb hby at_233) ?_
          show Steps p.tables e below (T161.setTop (mkF m 235 #[.val (.int p1), .val (.int p2), .val (.ref b3), .val (.int (own_from p2)), .val (.int (own_to p2)), .val (.ref st_CARRIAGE_RETURN_OR_LINE_FEED), .val (.int (own_rd p2)), .val (.ref b94), .val (.long (((-(own_from p2)).toInt64) + ((own_from p2).toInt64))), .second, .val (.int (own_from p2)), .val (.int x155_1)] [(.int (10 : Int32)), (.int (own_at vl (own_from p2)))])) _
          refine XS.icmpNo X161.here hx rfl (hb hby at_235) rfl (teq hc235_163).2 ?_
          show Steps p.tables e below (T161.setTop (mkF m 238 #[.val (.int p1), .val (.int p2), .val (.ref b3), .val (.int (own_from p2)), .val (.int (own_to p2)), .val (.ref st_CARRIAGE_RETURN_OR_LINE_FEED), .val (.int (own_rd p2)), .val (.ref b94), .val (.long (((-(own_from p2)).toInt64) + ((own_from p2).toInt64))), .second, .val (.int (own_from p2)), .val (.int x155_1)] [])) _
          refine XS.iconst X161.here hx rfl (hb hby at_238) ?_
          show Steps p.tables e below (T161.setTop (mkF m 239 #[.val (.int p1), .val (.int p2), .val (.ref b3), .val (.int (own_from p2)), .val (.int (own_to p2)), .val (.ref st_CARRIAGE_RETURN_OR_LINE_FEED), .val (.int (own_rd p2)), .val (.ref b94), .val (.long (((-(own_from p2)).toInt64) + ((own_from p2).toInt64))), .second, .val (.int (own_from p2)), .val (.int x155_1)] [(.int (1 : Int32))])) _
          refine XS.goto X161.here hx rfl (pc0 := 239) (pc' := 243) rfl (hb hby at_239) (by decide) (by decide) ?_
          show Steps p.tables e below (T161.setTop (mkF m 243 #[.val (.int p1), .val (.int p2), .val (.ref b3), .val (.int (own_from p2)), .val (.int (own_to p2)), .val (.ref st_CARRIAGE_RETURN_OR_LINE_FEED), .val (.int (own_rd p2)), .val (.ref b94), .val (.long (((-(own_from p2)).toInt64) + ((own_from p2).toInt64))), .second, .val (.int (own_from p2)), .val (.int x155_1)] [(.int (1 : Int32))])) _
          exact retN X161 hx (t := .boolean) Bd.returns (by simp) (hb hby at_243) hr
        · show Q0 Z p1 p2 st_LINE_FEED st_CARRIAGE_RETURN_OR_LINE_FEED h0 n0 _ T161.heap _
          rw [e161]
          exact ⟨rfl, N161⟩
set_option maxRecDepth 65536 in
set_option maxHeartbeats 40000000 in
theorem comes_1 {Post : Tables → Env → Array Value → State → Outcome → State → Prop} (hpost : ∀ tb e args s v u, (limb_1_1.after args s (.returned v) u = true ∧ limb_1_2.after args s (.returned v) u = true ∧ True) → ReturnedEndW s (.returned v) u (Jvm.fieldLocs frame_1_writes args s ++ Jvm.arrayLocs frame_1_arrays args s ++ Jvm.staticLocs frame_1_statics s) 16 2176 → Post tb e args s (.returned v) u) :
    ArmFor flags0 classFile x code maxLocals ret World_1 tables_1 room_1 Calls_1 rest_1 Pre_1 Post := by
  intro l hfl _ _ p e ha hc hk s m args below hf hA hF happ hP
  obtain ⟨hcalls, hrest, hpre⟩ := hP
  obtain ⟨-, -, -, hnamed, -, -, -, hat⟩ := (Spec.applies_iff hf).mp happ
  obtain ⟨hg, hn⟩ := and_e (Cond.before_iff.mp (show (Jvm.Cond.and given_1 narrow_1).before args s = true from hpre))
  obtain ⟨hcount, hr0⟩ := and_e hg
  obtain ⟨ga0, hr1⟩ := and_e hr0
  obtain ⟨w0, w1, rfl⟩ : ∃ w0 w1 : Value, args = #[w0, w1] := by
    have hs : args.size = 2 := by simpa [Cond.value, given_1] using hcount
    obtain ⟨L⟩ := args
    match L, hs with
    | [w0, w1], _ => exact ⟨w0, w1, rfl⟩
  have hw := fun d (hd : d ∈ tables_1) => atoms_spec (ws := Jvm.Cond.code x code maxLocals ret :: tables_1) hat d (List.mem_cons_of_mem _ hd)
  obtain ⟨i0, ei0⟩ := is_v ga0
  obtain rfl : w0 = (.int i0) := Option.some.inj ei0
  obtain ⟨i1, ei1⟩ := is_v hr1
  obtain rfl : w1 = (.int i1) := Option.some.inj ei1
  obtain ⟨x_LINE_FEED, r1⟩ := and_e hn
  obtain ⟨x_CARRIAGE_RETURN_OR_LINE_FEED, r2⟩ := and_e r1
  obtain ⟨a_LINE_FEED, e_LINE_FEED⟩ := exa_v x_LINE_FEED
  have S_LINE_FEED := Sta.start e_LINE_FEED (Or.inr ⟨(hw _ (List.mem_of_getElem? (i := 6) rfl)), (hw _ (List.mem_of_getElem? (i := 7) rfl))⟩)
  obtain ⟨a_CARRIAGE_RETURN_OR_LINE_FEED, e_CARRIAGE_RETURN_OR_LINE_FEED⟩ := exa_v x_CARRIAGE_RETURN_OR_LINE_FEED
  have S_CARRIAGE_RETURN_OR_LINE_FEED := Sta.start e_CARRIAGE_RETURN_OR_LINE_FEED (Or.inr ⟨(hw _ (List.mem_of_getElem? (i := 6) rfl)), (hw _ (List.mem_of_getElem? (i := 41) rfl))⟩)
  obtain ⟨n, o, h1, h2, h3, _, L, rfl, ⟨rfl, N⟩, hq⟩ := rm0 l s _ hw tables_1 i0 i1 a_LINE_FEED a_CARRIAGE_RETURN_OR_LINE_FEED s.heap s.heap.size (Nat.le_refl _) S_LINE_FEED S_CARRIAGE_RETURN_OR_LINE_FEED p e ha hc hk s m _ below hf ((Spec.applies_iff_loose hf).mp happ).1 ⟨rfl, State.Warmed39.refl s, rfl⟩ trivial
  refine ⟨n, _, h1, h2, h3, hpost _ _ _ _ _ _ ⟨Cond.after_iff.mpr rfl, Cond.after_iff.mpr (eq_i res_at (Term.int_eval (1)) (rfl)), trivial⟩ ⟨hq.1, hq.2.1, hq.2.2.1, (hq.2.2.2.sift fun y hy => Or.inr (N y hy)).mono (by decide) (by decide)⟩⟩
theorem main_1_1 : Claimed_1_1 := comes_1 fun _ _ _ _ _ _ h hF => ⟨h.1, hF⟩
theorem main_1_2 : Claimed_1_2 := comes_1 fun _ _ _ _ _ _ h hF => ⟨h.2.1, hF⟩
end Jvm.Pilot.@@N@@
namespace Jvm.Pilot.@@N@@
open Jvm Jvm.ClassFile Sem Op Lib Jvm.Free Jvm.Stand Jvm.Pilot.@@N@@.Jvm.D
/-! MADE BY PROGRAM (witnessworld.py) out of the Statement's table words and the real class files: 20 classes; the members and pool entries that the words name. The judged class is class 1, her method 2. -/
namespace start1
open Jvm.ClassFile
def u (s : String) : CpInfo := .utf8 (stringToUtf16 s)
/-- a pool by its gaps: so many unusable entries, then the entry; so many at the end -/
def gap : Nat → List CpInfo → List CpInfo
  | 0, r => r
  | n + 1, r => .unusable :: gap n r
def poolList (es : List (Nat × CpInfo)) (last : Nat) : List CpInfo := es.foldr (fun e r => gap e.1 (e.2 :: r)) (gap last [])
def pool (es : List (Nat × CpInfo)) (last : Nat) : Array CpInfo := ⟨poolList es last⟩
def fileOf (pool : Array CpInfo) (this : Nat) (attrs : Array Attribute := #[]) (ms : Array MethodInfo := #[]) (fl : Nat := 33) (sup : Nat := 0) (ifs : Array Nat := #[]) (fds : Array FieldInfo := #[]) : ClassFile where
  minorVersion := 0
  majorVersion := 65
  constantPool := pool
  accessFlags := fl
  thisClass := this
  superClass := sup
  interfaces := ifs
  fields := fds
  methods := ms
  attributes := attrs
def plain (name : String) (sup : Option ClassId) : Class where
  name := name
  kind := .ordinary
  loader := none
  accessFlags := 33
  super := sup
  interfaces := #[]
  cf := none
  fields := #[]
  methods := #[]
  instanceTypes := #[]
  staticTypes := #[]
  resolved := #[]
  callSites := []
  init := .initialized
  statics := none
  mirror := none

def pool0 : Array CpInfo := pool [(5, u "<init>"), (0, u "()V"), (1, .class_ 10), (1, u "java/lang/Object")] 113

def k0c0 : Code := { maxStack := 0, maxLocals := 1, code := object_method_1_code, exceptionTable := #[], attributes := #[] }
def k0m0 : Method := { name := "<init>", desc := "()V", sig := { parameters := [], returnType := none }, accessFlags := 1, code := some k0c0 }
/-- java/lang/Object -/
def k0 : Class := { plain "java/lang/Object" none with
  accessFlags := 33
  interfaces := #[]
  cf := some (fileOf pool0 8 #[] #[{ accessFlags := 1, nameIndex := 5, descriptorIndex := 6, attributes := #[] }] 33 0 #[] #[])
  fields := #[]
  methods := #[k0m0]
  instanceTypes := #[]
  staticTypes := #[]
  resolved := Array.replicate 124 none
  statics := none }

def pool1 : Array CpInfo := pool [(2, .class_ 4), (1, u "java/lang/Object"), (0, u "<init>"), (0, u "()V"), (0, .methodref 8 9), (0, .class_ 10), (0, .nameAndType 11 12), (0, u "querent/hl7/LineReaderKeepFromNextPinLaw"), (0, u "pick"), (0, u "(I)B"), (0, .fieldref 14 15), (0, .class_ 16), (0, .nameAndType 17 18), (0, u "querent/hl7/LineReader$Ends"), (0, u "LINE_FEED"), (0, u "Lquerent/hl7/LineReader$Ends;"), (0, .fieldref 14 20), (0, .nameAndType 21 18), (0, u "CARRIAGE_RETURN_OR_LINE_FEED"), (0, .class_ 23), (0, u "querent/hl7/LineReader"), (0, .methodref 22 25), (0, .nameAndType 5 26), (0, u "([BIILquerent/hl7/LineReader$Ends;)V"), (0, .methodref 22 28), (0, .nameAndType 29 30), (0, u "next"), (0, u "()Z"), (0, .methodref 22 32), (0, .nameAndType 33 34), (0, u "offset"), (0, u "()J"), (0, .methodref 22 36), (0, .nameAndType 37 6), (0, u "keepFromNext"), (0, .methodref 22 39), (0, .nameAndType 40 41), (0, u "kept"), (0, u "()I"), (0, .methodref 22 43), (0, .nameAndType 44 41), (0, u "start"), (0, .methodref 22 46), (0, .nameAndType 47 48), (0, u "bytes"), (0, u "()[B"), (3, u "law"), (0, u "(II)Z")] 9

def k1m0 : Method := { name := "<init>", desc := "()V", sig := { parameters := [], returnType := none }, accessFlags := 1, code := none }
def k1c1 : Code := { maxStack := 2, maxLocals := 2, code := method_2_code, exceptionTable := #[], attributes := #[] }
def k1m1 : Method := { name := "pick", desc := "(I)B", sig := { parameters := [.int], returnType := some .byte }, accessFlags := 10, code := some k1c1 }
def k1c2 : Code := { maxStack := 6, maxLocals := 12, code := code, exceptionTable := #[], attributes := #[] }
def k1m2 : Method := { name := "law", desc := "(II)Z", sig := { parameters := [.int, .int], returnType := some .boolean }, accessFlags := 9, code := some k1c2 }
/-- querent/hl7/LineReaderKeepFromNextPinLaw -/
def k1 : Class := { plain "querent/hl7/LineReaderKeepFromNextPinLaw" (some 0) with
  accessFlags := 49
  interfaces := #[]
  cf := some (fileOf pool1 8 #[] #[{ accessFlags := 1, nameIndex := 5, descriptorIndex := 6, attributes := #[] }, { accessFlags := 10, nameIndex := 11, descriptorIndex := 12, attributes := #[] }, { accessFlags := 9, nameIndex := 52, descriptorIndex := 53, attributes := #[] }] 49 2 #[] #[])
  fields := #[]
  methods := #[k1m0, k1m1, k1m2]
  instanceTypes := #[]
  staticTypes := #[]
  resolved := Array.replicate 63 none
  statics := none }

def pool2 : Array CpInfo := pool [(1, .class_ 2), (0, u "java/lang/constant/Constable"), (0, .class_ 4), (0, u "java/lang/Object")] 6

/-- java/lang/constant/Constable -/
def k2 : Class := { plain "java/lang/constant/Constable" (some 0) with
  accessFlags := 1537
  interfaces := #[]
  cf := some (fileOf pool2 1 #[] #[] 1537 3 #[] #[])
  fields := #[]
  methods := #[]
  instanceTypes := #[]
  staticTypes := #[]
  resolved := Array.replicate 11 none
  statics := none }

def pool3 : Array CpInfo := pool [(1, .class_ 2), (0, u "java/lang/Comparable"), (0, .class_ 4), (0, u "java/lang/Object")] 7

/-- java/lang/Comparable -/
def k3 : Class := { plain "java/lang/Comparable" (some 0) with
  accessFlags := 1537
  interfaces := #[]
  cf := some (fileOf pool3 1 #[] #[] 1537 3 #[] #[])
  fields := #[]
  methods := #[]
  instanceTypes := #[]
  staticTypes := #[]
  resolved := Array.replicate 12 none
  statics := none }

def pool4 : Array CpInfo := pool [(1, .class_ 2), (0, u "java/io/Serializable"), (0, .class_ 4), (0, u "java/lang/Object")] 2

/-- java/io/Serializable -/
def k4 : Class := { plain "java/io/Serializable" (some 0) with
  accessFlags := 1537
  interfaces := #[]
  cf := some (fileOf pool4 1 #[] #[] 1537 3 #[] #[])
  fields := #[]
  methods := #[]
  instanceTypes := #[]
  staticTypes := #[]
  resolved := Array.replicate 7 none
  statics := none }

def pool5 : Array CpInfo := pool [(2, .class_ 4), (1, u "java/lang/Enum"), (0, u "name"), (0, u "Ljava/lang/String;"), (2, u "ordinal"), (0, u "I"), (1, .class_ 14), (1, u "java/lang/Object"), (4, u "hash"), (86, .class_ 108), (1, u "java/lang/Enum$EnumDesc"), (2, .class_ 112), (0, u "java/lang/constant/Constable"), (0, .class_ 114), (0, u "java/lang/Comparable"), (0, .class_ 116), (0, u "java/io/Serializable")] 87

/-- java/lang/Enum -/
def k5 : Class := { plain "java/lang/Enum" (some 0) with
  accessFlags := 1057
  interfaces := #[2, 3, 4]
  cf := some (fileOf pool5 2 #[.nestMembers #[106]] #[] 1057 12 #[111, 113, 115] #[{ accessFlags := 18, nameIndex := 5, descriptorIndex := 6, attributes := #[] }, { accessFlags := 18, nameIndex := 9, descriptorIndex := 10, attributes := #[] }, { accessFlags := 2, nameIndex := 19, descriptorIndex := 10, attributes := #[] }])
  fields := #[{ name := "name", type := (.object "java/lang/String"), accessFlags := 18, slot := 0, constantValue := 0 }, { name := "ordinal", type := .int, accessFlags := 18, slot := 1, constantValue := 0 }, { name := "hash", type := .int, accessFlags := 2, slot := 2, constantValue := 0 }]
  methods := #[]
  instanceTypes := #[(.object "java/lang/String"), .int, .int]
  staticTypes := #[]
  resolved := Array.replicate 204 none
  statics := none }

def pool6 : Array CpInfo := pool [(1, .class_ 2), (0, u "querent/hl7/LineReader$Ends"), (2, u "LINE_FEED"), (0, u "Lquerent/hl7/LineReader$Ends;"), (2, u "CARRIAGE_RETURN_OR_LINE_FEED"), (2, u "$VALUES"), (0, u "[Lquerent/hl7/LineReader$Ends;"), (6, .class_ 22), (1, u "java/lang/Enum"), (25, .class_ 49), (0, u "querent/hl7/LineReader")] 2

/-- querent/hl7/LineReader$Ends -/
def k6 : Class := { plain "querent/hl7/LineReader$Ends" (some 5) with
  accessFlags := 16433
  interfaces := #[]
  cf := some (fileOf pool6 1 #[.nestHost 48] #[] 16433 20 #[] #[{ accessFlags := 16409, nameIndex := 5, descriptorIndex := 6, attributes := #[] }, { accessFlags := 16409, nameIndex := 9, descriptorIndex := 6, attributes := #[] }, { accessFlags := 4122, nameIndex := 12, descriptorIndex := 13, attributes := #[] }])
  fields := #[{ name := "LINE_FEED", type := (.object "querent/hl7/LineReader$Ends"), accessFlags := 16409, slot := 0, constantValue := 0 }, { name := "CARRIAGE_RETURN_OR_LINE_FEED", type := (.object "querent/hl7/LineReader$Ends"), accessFlags := 16409, slot := 1, constantValue := 0 }, { name := "$VALUES", type := (.array (.object "querent/hl7/LineReader$Ends")), accessFlags := 4122, slot := 2, constantValue := 0 }]
  methods := #[]
  instanceTypes := #[(.object "java/lang/String"), .int, .int]
  staticTypes := #[(.object "querent/hl7/LineReader$Ends"), (.object "querent/hl7/LineReader$Ends"), (.array (.object "querent/hl7/LineReader$Ends"))]
  resolved := Array.replicate 52 none
  statics := some 0 }

def pool7 : Array CpInfo := pool [(1, .class_ 2), (0, u "java/lang/AutoCloseable"), (0, .class_ 4), (0, u "java/lang/Object")] 7

/-- java/lang/AutoCloseable -/
def k7 : Class := { plain "java/lang/AutoCloseable" (some 0) with
  accessFlags := 1537
  interfaces := #[]
  cf := some (fileOf pool7 1 #[] #[] 1537 3 #[] #[])
  fields := #[]
  methods := #[]
  instanceTypes := #[]
  staticTypes := #[]
  resolved := Array.replicate 12 none
  statics := none }

def pool8 : Array CpInfo := pool [(1, .class_ 2), (0, u "java/io/Closeable"), (0, .class_ 4), (0, u "java/lang/Object"), (0, .class_ 6), (0, u "java/lang/AutoCloseable")] 7

/-- java/io/Closeable -/
def k8 : Class := { plain "java/io/Closeable" (some 0) with
  accessFlags := 1537
  interfaces := #[7]
  cf := some (fileOf pool8 1 #[] #[] 1537 3 #[5] #[])
  fields := #[]
  methods := #[]
  instanceTypes := #[]
  staticTypes := #[]
  resolved := Array.replicate 14 none
  statics := none }

def pool9 : Array CpInfo := pool [(3, .methodref 4 5), (0, .class_ 6), (0, .nameAndType 7 8), (0, u "java/lang/Object"), (0, u "<init>"), (0, u "()V"), (2, .methodref 12 13), (0, .class_ 14), (0, .nameAndType 15 16), (0, u "java/util/Objects"), (0, u "requireNonNull"), (0, u "(Ljava/lang/Object;Ljava/lang/String;)Ljava/lang/Object;"), (0, .string 18), (0, u "Line ends may not be null!"), (9, .fieldref 29 30), (0, .class_ 31), (0, .nameAndType 32 33), (0, u "querent/hl7/LineReader"), (0, u "in"), (0, u "Ljava/io/InputStream;"), (0, .fieldref 29 35), (0, .nameAndType 36 37), (0, u "block"), (0, u "[B"), (0, .fieldref 39 40), (0, .class_ 41), (0, .nameAndType 42 43), (0, u "querent/hl7/LineReader$Ends"), (0, u "CARRIAGE_RETURN_OR_LINE_FEED"), (0, u "Lquerent/hl7/LineReader$Ends;"), (0, .fieldref 29 45), (0, .nameAndType 46 47), (0, u "carriageReturnEnds"), (0, u "Z"), (0, .string 49), (0, u "Text may not be null!"), (0, .methodref 12 51), (0, .nameAndType 52 53), (0, u "checkFromToIndex"), (0, u "(III)I"), (0, .fieldref 29 55), (0, .nameAndType 56 57), (0, u "base"), (0, u "J"), (0, .fieldref 29 59), (0, .nameAndType 60 61), (0, u "limit"), (0, u "I"), (0, .fieldref 29 63), (0, .nameAndType 64 61), (0, u "start"), (0, .fieldref 29 66), (0, .nameAndType 67 61), (0, u "end"), (0, .fieldref 29 69), (0, .nameAndType 70 61), (0, u "next"), (0, .methodref 29 72), (0, .nameAndType 73 74), (0, u "startLine"), (0, u "()Z"), (0, .methodref 29 76), (0, .nameAndType 77 78), (0, u "lineEnd"), (0, u "(I)I"), (0, .methodref 29 80), (0, .nameAndType 81 74), (0, u "fill"), (0, .methodref 29 83), (0, .nameAndType 84 8), (0, u "endText"), (0, .methodref 29 86), (0, .nameAndType 87 88), (0, u "endLine"), (0, u "(I)V"), (1, .class_ 92), (1, u "querent/hl7/LineReader$Piece"), (2, .fieldref 29 96), (0, .nameAndType 97 47), (0, u "keeping"), (0, .fieldref 29 99), (0, .nameAndType 100 61), (0, u "kept"), (0, .fieldref 29 102), (0, .nameAndType 103 47), (0, u "ended"), (0, .fieldref 29 105), (0, .nameAndType 106 61), (0, u "number"), (5, .methodref 29 113), (0, .nameAndType 114 74), (0, u "more"), (0, .fieldref 29 116), (0, .nameAndType 117 47), (0, u "afterCarriageReturn"), (6, .integer 2147483639), (5, .long 2), (1, .long 2147483639), (17, .class_ 151), (0, u "java/io/Closeable"), (0, u "CR"), (0, u "B"), (2, u "LF"), (1, u "END_OF_STREAM"), (1, u "MOST_BYTES"), (4, u "([BIILquerent/hl7/LineReader$Ends;)V"), (4, u "keepFromNext"), (0, u "bytes"), (0, u "()[B"), (0, u "()I"), (1, u "offset"), (0, u "()J")] 20

def k9c0 : Code := { maxStack := 3, maxLocals := 5, code := prog_132_method_2_code, exceptionTable := #[], attributes := #[] }
def k9m0 : Method := { name := "<init>", desc := "([BIILquerent/hl7/LineReader$Ends;)V", sig := { parameters := [(.array .byte), .int, .int, (.object "querent/hl7/LineReader$Ends")], returnType := none }, accessFlags := 0, code := some k9c0 }
def k9c1 : Code := { maxStack := 3, maxLocals := 3, code := prog_132_method_3_code, exceptionTable := #[], attributes := #[] }
def k9m1 : Method := { name := "next", desc := "()Z", sig := { parameters := [], returnType := some .boolean }, accessFlags := 1, code := some k9c1 }
def k9c2 : Code := { maxStack := 2, maxLocals := 1, code := prog_132_method_5_code, exceptionTable := #[], attributes := #[] }
def k9m2 : Method := { name := "keepFromNext", desc := "()V", sig := { parameters := [], returnType := none }, accessFlags := 1, code := some k9c2 }
def k9c3 : Code := { maxStack := 1, maxLocals := 1, code := prog_132_method_6_code, exceptionTable := #[], attributes := #[] }
def k9m3 : Method := { name := "bytes", desc := "()[B", sig := { parameters := [], returnType := some (.array .byte) }, accessFlags := 1, code := some k9c3 }
def k9c4 : Code := { maxStack := 1, maxLocals := 1, code := prog_132_method_7_code, exceptionTable := #[], attributes := #[] }
def k9m4 : Method := { name := "kept", desc := "()I", sig := { parameters := [], returnType := some .int }, accessFlags := 1, code := some k9c4 }
def k9c5 : Code := { maxStack := 1, maxLocals := 1, code := prog_132_method_8_code, exceptionTable := #[], attributes := #[] }
def k9m5 : Method := { name := "start", desc := "()I", sig := { parameters := [], returnType := some .int }, accessFlags := 1, code := some k9c5 }
def k9c6 : Code := { maxStack := 4, maxLocals := 1, code := prog_132_method_13_code, exceptionTable := #[], attributes := #[] }
def k9m6 : Method := { name := "offset", desc := "()J", sig := { parameters := [], returnType := some .long }, accessFlags := 1, code := some k9c6 }
def k9c7 : Code := { maxStack := 3, maxLocals := 1, code := prog_132_method_15_code, exceptionTable := #[], attributes := #[] }
def k9m7 : Method := { name := "startLine", desc := "()Z", sig := { parameters := [], returnType := some .boolean }, accessFlags := 2, code := some k9c7 }
def k9c8 : Code := { maxStack := 2, maxLocals := 3, code := prog_132_method_16_code, exceptionTable := #[], attributes := #[] }
def k9m8 : Method := { name := "lineEnd", desc := "(I)I", sig := { parameters := [.int], returnType := some .int }, accessFlags := 2, code := some k9c8 }
def k9c9 : Code := { maxStack := 3, maxLocals := 2, code := prog_132_method_17_code, exceptionTable := #[], attributes := #[] }
def k9m9 : Method := { name := "endLine", desc := "(I)V", sig := { parameters := [.int], returnType := none }, accessFlags := 2, code := some k9c9 }
def k9c10 : Code := { maxStack := 2, maxLocals := 1, code := prog_132_method_18_code, exceptionTable := #[], attributes := #[] }
def k9m10 : Method := { name := "endText", desc := "()V", sig := { parameters := [], returnType := none }, accessFlags := 2, code := some k9c10 }
def k9c11 : Code := { maxStack := 2, maxLocals := 1, code := prog_132_method_19_code, exceptionTable := #[], attributes := #[] }
def k9m11 : Method := { name := "more", desc := "()Z", sig := { parameters := [], returnType := some .boolean }, accessFlags := 2, code := some k9c11 }
def k9c12 : Code := { maxStack := 6, maxLocals := 3, code := prog_132_method_20_code, exceptionTable := #[], attributes := #[] }
def k9m12 : Method := { name := "fill", desc := "()Z", sig := { parameters := [], returnType := some .boolean }, accessFlags := 2, code := some k9c12 }
/-- querent/hl7/LineReader -/
def k9 : Class := { plain "querent/hl7/LineReader" (some 0) with
  accessFlags := 49
  interfaces := #[8]
  cf := some (fileOf pool9 29 #[.nestMembers #[90, 39]] #[{ accessFlags := 0, nameIndex := 7, descriptorIndex := 165, attributes := #[] }, { accessFlags := 1, nameIndex := 70, descriptorIndex := 74, attributes := #[] }, { accessFlags := 1, nameIndex := 170, descriptorIndex := 8, attributes := #[] }, { accessFlags := 1, nameIndex := 171, descriptorIndex := 172, attributes := #[] }, { accessFlags := 1, nameIndex := 100, descriptorIndex := 173, attributes := #[] }, { accessFlags := 1, nameIndex := 64, descriptorIndex := 173, attributes := #[] }, { accessFlags := 1, nameIndex := 175, descriptorIndex := 176, attributes := #[] }, { accessFlags := 2, nameIndex := 73, descriptorIndex := 74, attributes := #[] }, { accessFlags := 2, nameIndex := 77, descriptorIndex := 78, attributes := #[] }, { accessFlags := 2, nameIndex := 87, descriptorIndex := 88, attributes := #[] }, { accessFlags := 2, nameIndex := 84, descriptorIndex := 8, attributes := #[] }, { accessFlags := 2, nameIndex := 114, descriptorIndex := 74, attributes := #[] }, { accessFlags := 2, nameIndex := 81, descriptorIndex := 74, attributes := #[] }] 49 4 #[150] #[{ accessFlags := 26, nameIndex := 152, descriptorIndex := 153, attributes := #[] }, { accessFlags := 26, nameIndex := 156, descriptorIndex := 153, attributes := #[] }, { accessFlags := 26, nameIndex := 158, descriptorIndex := 61, attributes := #[] }, { accessFlags := 26, nameIndex := 160, descriptorIndex := 61, attributes := #[] }, { accessFlags := 18, nameIndex := 32, descriptorIndex := 33, attributes := #[] }, { accessFlags := 18, nameIndex := 46, descriptorIndex := 47, attributes := #[] }, { accessFlags := 2, nameIndex := 36, descriptorIndex := 37, attributes := #[] }, { accessFlags := 2, nameIndex := 56, descriptorIndex := 57, attributes := #[] }, { accessFlags := 2, nameIndex := 60, descriptorIndex := 61, attributes := #[] }, { accessFlags := 2, nameIndex := 97, descriptorIndex := 47, attributes := #[] }, { accessFlags := 2, nameIndex := 100, descriptorIndex := 61, attributes := #[] }, { accessFlags := 2, nameIndex := 64, descriptorIndex := 61, attributes := #[] }, { accessFlags := 2, nameIndex := 67, descriptorIndex := 61, attributes := #[] }, { accessFlags := 2, nameIndex := 70, descriptorIndex := 61, attributes := #[] }, { accessFlags := 2, nameIndex := 106, descriptorIndex := 61, attributes := #[] }, { accessFlags := 2, nameIndex := 103, descriptorIndex := 47, attributes := #[] }, { accessFlags := 2, nameIndex := 117, descriptorIndex := 47, attributes := #[] }])
  fields := #[{ name := "CR", type := .byte, accessFlags := 26, slot := 0, constantValue := 0 }, { name := "LF", type := .byte, accessFlags := 26, slot := 1, constantValue := 0 }, { name := "END_OF_STREAM", type := .int, accessFlags := 26, slot := 2, constantValue := 0 }, { name := "MOST_BYTES", type := .int, accessFlags := 26, slot := 3, constantValue := 0 }, { name := "in", type := (.object "java/io/InputStream"), accessFlags := 18, slot := 0, constantValue := 0 }, { name := "carriageReturnEnds", type := .boolean, accessFlags := 18, slot := 1, constantValue := 0 }, { name := "block", type := (.array .byte), accessFlags := 2, slot := 2, constantValue := 0 }, { name := "base", type := .long, accessFlags := 2, slot := 3, constantValue := 0 }, { name := "limit", type := .int, accessFlags := 2, slot := 4, constantValue := 0 }, { name := "keeping", type := .boolean, accessFlags := 2, slot := 5, constantValue := 0 }, { name := "kept", type := .int, accessFlags := 2, slot := 6, constantValue := 0 }, { name := "start", type := .int, accessFlags := 2, slot := 7, constantValue := 0 }, { name := "end", type := .int, accessFlags := 2, slot := 8, constantValue := 0 }, { name := "next", type := .int, accessFlags := 2, slot := 9, constantValue := 0 }, { name := "number", type := .int, accessFlags := 2, slot := 10, constantValue := 0 }, { name := "ended", type := .boolean, accessFlags := 2, slot := 11, constantValue := 0 }, { name := "afterCarriageReturn", type := .boolean, accessFlags := 2, slot := 12, constantValue := 0 }]
  methods := #[k9m0, k9m1, k9m2, k9m3, k9m4, k9m5, k9m6, k9m7, k9m8, k9m9, k9m10, k9m11, k9m12]
  instanceTypes := #[(.object "java/io/InputStream"), .boolean, (.array .byte), .long, .int, .boolean, .int, .int, .int, .int, .int, .boolean, .boolean]
  staticTypes := #[.byte, .byte, .int, .int]
  resolved := Array.replicate 197 none
  statics := none }

def pool10 : Array CpInfo := pool [(2, .class_ 4), (1, u "java/lang/CharSequence"), (42, .class_ 48), (0, u "java/lang/CharSequence$1CodePointIterator"), (10, .class_ 60), (0, u "java/lang/CharSequence$1CharIterator"), (5, .class_ 67), (0, u "java/lang/Object")] 63

/-- java/lang/CharSequence -/
def k10 : Class := { plain "java/lang/CharSequence" (some 0) with
  accessFlags := 1537
  interfaces := #[]
  cf := some (fileOf pool10 2 #[.nestMembers #[47, 59]] #[] 1537 66 #[] #[])
  fields := #[]
  methods := #[]
  instanceTypes := #[]
  staticTypes := #[]
  resolved := Array.replicate 131 none
  statics := none }

def pool11 : Array CpInfo := pool [(1, .class_ 2), (0, u "java/lang/constant/ConstantDesc"), (0, .class_ 4), (0, u "java/lang/Object")] 32

/-- java/lang/constant/ConstantDesc -/
def k11 : Class := { plain "java/lang/constant/ConstantDesc" (some 0) with
  accessFlags := 1537
  interfaces := #[]
  cf := some (fileOf pool11 1 #[] #[] 1537 3 #[] #[])
  fields := #[]
  methods := #[]
  instanceTypes := #[]
  staticTypes := #[]
  resolved := Array.replicate 37 none
  statics := none }

def pool12 : Array CpInfo := pool [(2, .class_ 4), (1, u "java/lang/Object"), (0, u "<init>"), (0, u "()V"), (3, .class_ 12), (1, u "java/lang/String"), (0, u "value"), (0, u "[B"), (2, u "coder"), (0, u "B"), (2, u "hash"), (0, u "I"), (2, u "hashIsZero"), (0, u "Z"), (13, u "COMPACT_STRINGS"), (534, .class_ 576), (0, u "java/lang/CharSequence"), (22, u "CASE_INSENSITIVE_ORDER"), (0, u "Ljava/util/Comparator;"), (500, u "serialPersistentFields"), (0, u "[Ljava/io/ObjectStreamField;"), (0, .class_ 1104), (0, u "java/lang/String$CaseInsensitiveComparator"), (1, .class_ 1107), (0, u "java/io/Serializable"), (0, .class_ 1109), (0, u "java/lang/Comparable"), (0, .class_ 1111), (0, u "java/lang/constant/Constable"), (0, .class_ 1113), (0, u "java/lang/constant/ConstantDesc"), (2, u "serialVersionUID"), (0, u "J"), (3, u "REPL"), (0, u "C"), (2, u "LATIN1"), (1, u "UTF16")] 323

def k12m0 : Method := { name := "<init>", desc := "()V", sig := { parameters := [], returnType := none }, accessFlags := 1, code := none }
/-- java/lang/String -/
def k12 : Class := { plain "java/lang/String" (some 0) with
  accessFlags := 49
  interfaces := #[4, 3, 10, 2, 11]
  cf := some (fileOf pool12 10 #[.nestMembers #[1103]] #[{ accessFlags := 1, nameIndex := 5, descriptorIndex := 6, attributes := #[] }] 49 2 #[1106, 1108, 575, 1110, 1112] #[{ accessFlags := 18, nameIndex := 13, descriptorIndex := 14, attributes := #[] }, { accessFlags := 18, nameIndex := 17, descriptorIndex := 18, attributes := #[] }, { accessFlags := 2, nameIndex := 21, descriptorIndex := 22, attributes := #[] }, { accessFlags := 2, nameIndex := 25, descriptorIndex := 26, attributes := #[] }, { accessFlags := 26, nameIndex := 1116, descriptorIndex := 1117, attributes := #[] }, { accessFlags := 24, nameIndex := 40, descriptorIndex := 26, attributes := #[] }, { accessFlags := 26, nameIndex := 1101, descriptorIndex := 1102, attributes := #[] }, { accessFlags := 26, nameIndex := 1121, descriptorIndex := 1122, attributes := #[] }, { accessFlags := 25, nameIndex := 599, descriptorIndex := 600, attributes := #[] }, { accessFlags := 24, nameIndex := 1125, descriptorIndex := 18, attributes := #[] }, { accessFlags := 24, nameIndex := 1127, descriptorIndex := 18, attributes := #[] }])
  fields := #[{ name := "value", type := (.array .byte), accessFlags := 18, slot := 0, constantValue := 0 }, { name := "coder", type := .byte, accessFlags := 18, slot := 1, constantValue := 0 }, { name := "hash", type := .int, accessFlags := 2, slot := 2, constantValue := 0 }, { name := "hashIsZero", type := .boolean, accessFlags := 2, slot := 3, constantValue := 0 }, { name := "serialVersionUID", type := .long, accessFlags := 26, slot := 0, constantValue := 0 }, { name := "COMPACT_STRINGS", type := .boolean, accessFlags := 24, slot := 1, constantValue := 0 }, { name := "serialPersistentFields", type := (.array (.object "java/io/ObjectStreamField")), accessFlags := 26, slot := 2, constantValue := 0 }, { name := "REPL", type := .char, accessFlags := 26, slot := 3, constantValue := 0 }, { name := "CASE_INSENSITIVE_ORDER", type := (.object "java/util/Comparator"), accessFlags := 25, slot := 4, constantValue := 0 }, { name := "LATIN1", type := .byte, accessFlags := 24, slot := 5, constantValue := 0 }, { name := "UTF16", type := .byte, accessFlags := 24, slot := 6, constantValue := 0 }]
  methods := #[k12m0]
  instanceTypes := #[(.array .byte), .byte, .int, .boolean]
  staticTypes := #[.long, .boolean, (.array (.object "java/io/ObjectStreamField")), .char, (.object "java/util/Comparator"), .byte, .byte]
  resolved := Array.replicate 1451 none
  statics := none }

def pool13 : Array CpInfo := pool [(2, .class_ 4), (1, u "java/lang/Object"), (0, u "<init>"), (0, u "()V"), (35, .class_ 44), (1, u "java/util/Objects"), (0, u "requireNonNull"), (48, u "(Ljava/lang/Object;Ljava/lang/String;)Ljava/lang/Object;"), (11, .class_ 108), (1, u "jdk/internal/util/Preconditions"), (2, .methodref 106 112), (0, .nameAndType 113 114), (0, u "checkFromToIndex"), (0, u "(IIILjava/util/function/BiFunction;)I"), (60, u "(III)I")] 8

def k13m0 : Method := { name := "<init>", desc := "()V", sig := { parameters := [], returnType := none }, accessFlags := 2, code := none }
def k13c1 : Code := { maxStack := 3, maxLocals := 2, code := jdk_31_method_11_code, exceptionTable := #[], attributes := #[] }
def k13m1 : Method := { name := "requireNonNull", desc := "(Ljava/lang/Object;Ljava/lang/String;)Ljava/lang/Object;", sig := { parameters := [(.object "java/lang/Object"), (.object "java/lang/String")], returnType := some (.object "java/lang/Object") }, accessFlags := 9, code := some k13c1 }
def k13c2 : Code := { maxStack := 4, maxLocals := 3, code := jdk_31_method_18_code, exceptionTable := #[], attributes := #[] }
def k13m2 : Method := { name := "checkFromToIndex", desc := "(III)I", sig := { parameters := [.int, .int, .int], returnType := some .int }, accessFlags := 9, code := some k13c2 }
/-- java/util/Objects -/
def k13 : Class := { plain "java/util/Objects" (some 0) with
  accessFlags := 49
  interfaces := #[]
  cf := some (fileOf pool13 42 #[] #[{ accessFlags := 2, nameIndex := 5, descriptorIndex := 6, attributes := #[] }, { accessFlags := 9, nameIndex := 45, descriptorIndex := 94, attributes := #[] }, { accessFlags := 9, nameIndex := 113, descriptorIndex := 175, attributes := #[] }] 49 2 #[] #[])
  fields := #[]
  methods := #[k13m0, k13m1, k13m2]
  instanceTypes := #[]
  staticTypes := #[]
  resolved := Array.replicate 184 none
  statics := none }

def pool14 : Array CpInfo := pool [(2, .class_ 4), (1, u "java/lang/Object"), (0, u "<init>"), (0, u "()V"), (17, .class_ 26), (1, u "jdk/internal/util/Preconditions"), (20, u "checkFromToIndex"), (7, .class_ 56), (0, u "jdk/internal/util/Preconditions$4"), (57, .class_ 115), (0, u "jdk/internal/util/Preconditions$1"), (7, u "SIOOBE_FORMATTER"), (0, u "Ljava/util/function/BiFunction;"), (0, .class_ 126), (0, u "jdk/internal/util/Preconditions$2"), (3, u "AIOOBE_FORMATTER"), (0, .class_ 132), (0, u "jdk/internal/util/Preconditions$3"), (3, u "IOOBE_FORMATTER"), (46, u "(IIILjava/util/function/BiFunction;)I")] 10

def k14m0 : Method := { name := "<init>", desc := "()V", sig := { parameters := [], returnType := none }, accessFlags := 1, code := none }
def k14c1 : Code := { maxStack := 4, maxLocals := 4, code := jdk_41_method_12_code, exceptionTable := #[], attributes := #[] }
def k14m1 : Method := { name := "checkFromToIndex", desc := "(IIILjava/util/function/BiFunction;)I", sig := { parameters := [.int, .int, .int, (.object "java/util/function/BiFunction")], returnType := some .int }, accessFlags := 9, code := some k14c1 }
/-- jdk/internal/util/Preconditions -/
def k14 : Class := { plain "jdk/internal/util/Preconditions" (some 0) with
  accessFlags := 33
  interfaces := #[]
  cf := some (fileOf pool14 24 #[.nestMembers #[55, 131, 125, 114]] #[{ accessFlags := 1, nameIndex := 5, descriptorIndex := 6, attributes := #[] }, { accessFlags := 9, nameIndex := 47, descriptorIndex := 183, attributes := #[] }] 33 2 #[] #[{ accessFlags := 25, nameIndex := 123, descriptorIndex := 124, attributes := #[] }, { accessFlags := 25, nameIndex := 130, descriptorIndex := 124, attributes := #[] }, { accessFlags := 25, nameIndex := 136, descriptorIndex := 124, attributes := #[] }])
  fields := #[{ name := "SIOOBE_FORMATTER", type := (.object "java/util/function/BiFunction"), accessFlags := 25, slot := 0, constantValue := 0 }, { name := "AIOOBE_FORMATTER", type := (.object "java/util/function/BiFunction"), accessFlags := 25, slot := 1, constantValue := 0 }, { name := "IOOBE_FORMATTER", type := (.object "java/util/function/BiFunction"), accessFlags := 25, slot := 2, constantValue := 0 }]
  methods := #[k14m0, k14m1]
  instanceTypes := #[]
  staticTypes := #[(.object "java/util/function/BiFunction"), (.object "java/util/function/BiFunction"), (.object "java/util/function/BiFunction")]
  resolved := Array.replicate 194 none
  statics := none }

def pool15 : Array CpInfo := pool [(1, u "java/lang/Cloneable"), (0, .class_ 1), (0, u "java/lang/Object"), (0, .class_ 3)] 3

/-- java/lang/Cloneable -/
def k15 : Class := { plain "java/lang/Cloneable" (some 0) with
  accessFlags := 1537
  interfaces := #[]
  cf := some (fileOf pool15 2 #[] #[] 1537 4 #[] #[])
  fields := #[]
  methods := #[]
  instanceTypes := #[]
  staticTypes := #[]
  resolved := Array.replicate 8 none
  statics := none }

/-- the primitive byte -/
def k16 : Class := { plain "byte" none with kind := .primitive 'B', accessFlags := 0x411 }
/-- [B -/
def k17 : Class := { plain "[B" (some 0) with kind := .array 16 .byte, interfaces := #[15, 4], accessFlags := 1041 }

/-- the primitive int -/
def k18 : Class := { plain "int" none with kind := .primitive 'I', accessFlags := 0x411 }
/-- [I -/
def k19 : Class := { plain "[I" (some 0) with kind := .array 18 .int, interfaces := #[15, 4], accessFlags := 1041 }

def heap : Heap := #[{ cls := 6, slots := #[.ref 1, .ref 2, .null], vm := .statics 6 },
  { cls := 6, slots := #[.null, .int 0, .int 0], vm := .none },
  { cls := 6, slots := #[.null, .int 1, .int 0], vm := .none }]
def classes : Array Class := #[k0, k1, k2, k3, k4, k5, k6, k7, k8, k9, k10, k11, k12, k13, k14, k15, k16, k17, k18, k19]
def interned : List (Array UInt16 × Addr) := []
def slotsUsed : Nat := 9
def theMethod : MethodId := ⟨1, 2⟩
def args0 : Array Value := #[.int 5, .int 7]
def aboutOver (below : List Frame) : State where
  vm := { classes := classes, interned := interned.toArray }
  heap := heap
  slotsUsed := slotsUsed
  threads := #[{ frames := .invoking theMethod args0 :: below }]
def below0 : List Frame := [.native { method := ⟨0, 0⟩, args := #[] }]
def about1 : State := aboutOver below0
def p0 : Program := .bare "" "" ""
def e0 : Env := launch0.env 0 0 0
theorem w_frames : about1.frames = Frame.invoking theMethod args0 :: below0 := rfl
set_option maxRecDepth 65536 in
theorem w_args : argsFit about1.vm theMethod args0 = true := by decide +kernel
set_option maxRecDepth 65536 in
theorem w_heap : heapFits about1 = true := by decide +kernel
set_option maxRecDepth 65536 in
theorem w_runnable : about1.curStatus? = some .runnable := by decide +kernel
set_option maxRecDepth 65536 in
theorem w_alone : about1.alone = true := by decide +kernel
set_option maxRecDepth 65536 in
theorem w_named : about1.methodNamed? x = some theMethod := by decide +kernel
set_option maxRecDepth 65536 in
theorem w_hears : about1.hears theMethod below0 = true := by decide +kernel
set_option maxRecDepth 65536 in
theorem w_ripe : about1.ripe theMethod args0 below0 = true := by decide +kernel
theorem w_running : about1.status = .running := rfl
set_option maxRecDepth 65536 in
theorem w_room : about1.hasRoom e0.platform room_1 = true :=
  launch0.hasRoom_least _ room_1 (by decide +kernel) (by decide +kernel) (by decide +kernel) (by decide +kernel) (by decide +kernel) (by decide +kernel)
theorem allAtoms_all (ts : List Jvm.Cond) (a : Array Jvm.Value) (st : Jvm.State) : (allAtoms ts).before a st = ts.all (fun c => c.before a st) := by
  induction ts with
  | nil => rfl
  | cons c t ih =>
    show (Jvm.Cond.and c (allAtoms t)).before a st = _
    rw [Jvm.Cond.before_and, ih, List.all_cons]
def words1 : List Jvm.Cond := Jvm.Cond.code x code maxLocals ret :: tables_1
/-- a 'code' word, met by the world's own term for the bytes: nothing is compared byte by byte -/
theorem code_word {y : MethodName} {bytes : ByteArray} {mx : Nat} {rt : Option FieldType} {a : Array Value} {s : State} {m : MethodId} {meth : Method} {c : Code} (h1 : s.methodNamed? y = some m) (h2 : s.vm.method? m = some meth) (h3 : meth.code = some c) (h4 : c.code = bytes)
    (h5 : (c.maxLocals == mx && c.exceptionTable.isEmpty && decide (c.maxStack ≤ mostOperands) && decide (meth.sig.returnType = rt) && !meth.locks && decide (parseMethodDescriptor y.desc = some meth.sig)) = true) : (Jvm.Cond.code y bytes mx rt).before a s = true := by
  simp only [Bool.and_eq_true, beq_iff_eq, Bool.not_eq_true', decide_eq_true_eq] at h5
  obtain ⟨⟨⟨⟨⟨g1, g2⟩, g3⟩, g4⟩, g5⟩, g6⟩ := h5
  simp [Cond.before, Cond.holds, Cond.value, h1, h2, h3, h4, g1, g2, g3, g4, g5, g6]
def isCode : Jvm.Cond → Bool
  | .code _ _ _ _ => true
  | _ => false
theorem all_split {L : List Jvm.Cond} {P : Jvm.Cond → Bool} (h1 : L.all (fun c => isCode c || P c) = true) (h2 : ∀ c ∈ L.filter isCode, P c = true) : L.all P = true := by
  refine List.all_eq_true.mpr fun c hc => ?_
  have h := List.all_eq_true.mp h1 c hc
  rcases Bool.eq_false_or_eq_true (isCode c) with hi | hi
  · exact h2 c (List.mem_filter.mpr ⟨hc, hi⟩)
  · simpa [hi] using h
set_option maxRecDepth 65536 in
theorem w_c0 : (Jvm.Cond.code x code maxLocals ret).before args0 about1 = true := code_word (m := ⟨1, 2⟩) (meth := k1m2) (c := k1c2) (by decide +kernel) rfl rfl rfl (by decide +kernel)
set_option maxRecDepth 65536 in
theorem w_c1 : (Jvm.Cond.code ({ cls := "querent/hl7/LineReaderKeepFromNextPinLaw", name := "pick", desc := "(I)B" } : Jvm.MethodName) method_2_code (2 : Nat) (Option.some Jvm.ClassFile.FieldType.byte)).before args0 about1 = true := code_word (m := ⟨1, 1⟩) (meth := k1m1) (c := k1c1) (by decide +kernel) rfl rfl rfl (by decide +kernel)
set_option maxRecDepth 65536 in
theorem w_c2 : (Jvm.Cond.code ({ cls := "querent/hl7/LineReader", name := "<init>", desc := "([BIILquerent/hl7/LineReader$Ends;)V" } : Jvm.MethodName) prog_132_method_2_code (5 : Nat) (Option.none : Option Jvm.ClassFile.FieldType)).before args0 about1 = true := code_word (m := ⟨9, 0⟩) (meth := k9m0) (c := k9c0) (by decide +kernel) rfl rfl rfl (by decide +kernel)
set_option maxRecDepth 65536 in
theorem w_c3 : (Jvm.Cond.code ({ cls := "java/lang/Object", name := "<init>", desc := "()V" } : Jvm.MethodName) object_method_1_code (1 : Nat) (Option.none : Option Jvm.ClassFile.FieldType)).before args0 about1 = true := code_word (m := ⟨0, 0⟩) (meth := k0m0) (c := k0c0) (by decide +kernel) rfl rfl rfl (by decide +kernel)
set_option maxRecDepth 65536 in
theorem w_c4 : (Jvm.Cond.code ({ cls := "java/util/Objects", name := "requireNonNull", desc := "(Ljava/lang/Object;Ljava/lang/String;)Ljava/lang/Object;" } : Jvm.MethodName) jdk_31_method_11_code (2 : Nat) (Option.some (Jvm.ClassFile.FieldType.object "java/lang/Object"))).before args0 about1 = true := code_word (m := ⟨13, 1⟩) (meth := k13m1) (c := k13c1) (by decide +kernel) rfl rfl rfl (by decide +kernel)
set_option maxRecDepth 65536 in
theorem w_c5 : (Jvm.Cond.code ({ cls := "java/util/Objects", name := "checkFromToIndex", desc := "(III)I" } : Jvm.MethodName) jdk_31_method_18_code (3 : Nat) (Option.some Jvm.ClassFile.FieldType.int)).before args0 about1 = true := code_word (m := ⟨13, 2⟩) (meth := k13m2) (c := k13c2) (by decide +kernel) rfl rfl rfl (by decide +kernel)
set_option maxRecDepth 65536 in
theorem w_c6 : (Jvm.Cond.code ({ cls := "jdk/internal/util/Preconditions", name := "checkFromToIndex", desc := "(IIILjava/util/function/BiFunction;)I" } : Jvm.MethodName) jdk_41_method_12_code (4 : Nat) (Option.some Jvm.ClassFile.FieldType.int)).before args0 about1 = true := code_word (m := ⟨14, 1⟩) (meth := k14m1) (c := k14c1) (by decide +kernel) rfl rfl rfl (by decide +kernel)
set_option maxRecDepth 65536 in
theorem w_c7 : (Jvm.Cond.code ({ cls := "querent/hl7/LineReader", name := "offset", desc := "()J" } : Jvm.MethodName) prog_132_method_13_code (1 : Nat) (Option.some Jvm.ClassFile.FieldType.long)).before args0 about1 = true := code_word (m := ⟨9, 6⟩) (meth := k9m6) (c := k9c6) (by decide +kernel) rfl rfl rfl (by decide +kernel)
set_option maxRecDepth 65536 in
theorem w_c8 : (Jvm.Cond.code ({ cls := "querent/hl7/LineReader", name := "keepFromNext", desc := "()V" } : Jvm.MethodName) prog_132_method_5_code (1 : Nat) (Option.none : Option Jvm.ClassFile.FieldType)).before args0 about1 = true := code_word (m := ⟨9, 2⟩) (meth := k9m2) (c := k9c2) (by decide +kernel) rfl rfl rfl (by decide +kernel)
set_option maxRecDepth 65536 in
theorem w_c9 : (Jvm.Cond.code ({ cls := "querent/hl7/LineReader", name := "kept", desc := "()I" } : Jvm.MethodName) prog_132_method_7_code (1 : Nat) (Option.some Jvm.ClassFile.FieldType.int)).before args0 about1 = true := code_word (m := ⟨9, 4⟩) (meth := k9m4) (c := k9c4) (by decide +kernel) rfl rfl rfl (by decide +kernel)
set_option maxRecDepth 65536 in
theorem w_c10 : (Jvm.Cond.code ({ cls := "querent/hl7/LineReader", name := "next", desc := "()Z" } : Jvm.MethodName) prog_132_method_3_code (3 : Nat) (Option.some Jvm.ClassFile.FieldType.boolean)).before args0 about1 = true := code_word (m := ⟨9, 1⟩) (meth := k9m1) (c := k9c1) (by decide +kernel) rfl rfl rfl (by decide +kernel)
set_option maxRecDepth 65536 in
theorem w_c11 : (Jvm.Cond.code ({ cls := "querent/hl7/LineReader", name := "startLine", desc := "()Z" } : Jvm.MethodName) prog_132_method_15_code (1 : Nat) (Option.some Jvm.ClassFile.FieldType.boolean)).before args0 about1 = true := code_word (m := ⟨9, 7⟩) (meth := k9m7) (c := k9c7) (by decide +kernel) rfl rfl rfl (by decide +kernel)
set_option maxRecDepth 65536 in
theorem w_c12 : (Jvm.Cond.code ({ cls := "querent/hl7/LineReader", name := "more", desc := "()Z" } : Jvm.MethodName) prog_132_method_19_code (1 : Nat) (Option.some Jvm.ClassFile.FieldType.boolean)).before args0 about1 = true := code_word (m := ⟨9, 11⟩) (meth := k9m11) (c := k9c11) (by decide +kernel) rfl rfl rfl (by decide +kernel)
set_option maxRecDepth 65536 in
theorem w_c13 : (Jvm.Cond.code ({ cls := "querent/hl7/LineReader", name := "fill", desc := "()Z" } : Jvm.MethodName) prog_132_method_20_code (3 : Nat) (Option.some Jvm.ClassFile.FieldType.boolean)).before args0 about1 = true := code_word (m := ⟨9, 12⟩) (meth := k9m12) (c := k9c12) (by decide +kernel) rfl rfl rfl (by decide +kernel)
set_option maxRecDepth 65536 in
theorem w_c14 : (Jvm.Cond.code ({ cls := "querent/hl7/LineReader", name := "endText", desc := "()V" } : Jvm.MethodName) prog_132_method_18_code (1 : Nat) (Option.none : Option Jvm.ClassFile.FieldType)).before args0 about1 = true := code_word (m := ⟨9, 10⟩) (meth := k9m10) (c := k9c10) (by decide +kernel) rfl rfl rfl (by decide +kernel)
set_option maxRecDepth 65536 in
theorem w_c15 : (Jvm.Cond.code ({ cls := "querent/hl7/LineReader", name := "start", desc := "()I" } : Jvm.MethodName) prog_132_method_8_code (1 : Nat) (Option.some Jvm.ClassFile.FieldType.int)).before args0 about1 = true := code_word (m := ⟨9, 5⟩) (meth := k9m5) (c := k9c5) (by decide +kernel) rfl rfl rfl (by decide +kernel)
set_option maxRecDepth 65536 in
theorem w_c16 : (Jvm.Cond.code ({ cls := "querent/hl7/LineReader", name := "lineEnd", desc := "(I)I" } : Jvm.MethodName) prog_132_method_16_code (3 : Nat) (Option.some Jvm.ClassFile.FieldType.int)).before args0 about1 = true := code_word (m := ⟨9, 8⟩) (meth := k9m8) (c := k9c8) (by decide +kernel) rfl rfl rfl (by decide +kernel)
set_option maxRecDepth 65536 in
theorem w_c17 : (Jvm.Cond.code ({ cls := "querent/hl7/LineReader", name := "endLine", desc := "(I)V" } : Jvm.MethodName) prog_132_method_17_code (2 : Nat) (Option.none : Option Jvm.ClassFile.FieldType)).before args0 about1 = true := code_word (m := ⟨9, 9⟩) (meth := k9m9) (c := k9c9) (by decide +kernel) rfl rfl rfl (by decide +kernel)
set_option maxRecDepth 65536 in
theorem w_c18 : (Jvm.Cond.code ({ cls := "querent/hl7/LineReader", name := "bytes", desc := "()[B" } : Jvm.MethodName) prog_132_method_6_code (1 : Nat) (Option.some (Jvm.ClassFile.FieldType.array Jvm.ClassFile.FieldType.byte))).before args0 about1 = true := code_word (m := ⟨9, 3⟩) (meth := k9m3) (c := k9c3) (by decide +kernel) rfl rfl rfl (by decide +kernel)
def codes1 : List Jvm.Cond := [Jvm.Cond.code x code maxLocals ret, Jvm.Cond.code ({ cls := "querent/hl7/LineReaderKeepFromNextPinLaw", name := "pick", desc := "(I)B" } : Jvm.MethodName) method_2_code (2 : Nat) (Option.some Jvm.ClassFile.FieldType.byte), Jvm.Cond.code ({ cls := "querent/hl7/LineReader", name := "<init>", desc := "([BIILquerent/hl7/LineReader$Ends;)V" } : Jvm.MethodName) prog_132_method_2_code (5 : Nat) (Option.none : Option Jvm.ClassFile.FieldType), Jvm.Cond.code ({ cls := "java/lang/Object", name := "<init>", desc := "()V" } : Jvm.MethodName) object_method_1_code (1 : Nat) (Option.none : Option Jvm.ClassFile.FieldType), Jvm.Cond.code ({ cls := "java/util/Objects", name := "requireNonNull", desc := "(Ljava/lang/Object;Ljava/lang/String;)Ljava/lang/Object;" } : Jvm.MethodName) jdk_31_method_11_code (2 : Nat) (Option.some (Jvm.ClassFile.FieldType.object "java/lang/Object")), Jvm.Cond.code ({ cls := "java/util/Objects", name := "checkFromToIndex", desc := "(III)I" } : Jvm.MethodName) jdk_31_method_18_code (3 : Nat) (Option.some Jvm.ClassFile.FieldType.int), Jvm.Cond.code ({ cls := "jdk/internal/util/Preconditions", name := "checkFromToIndex", desc := "(IIILjava/util/function/BiFunction;)I" } : Jvm.MethodName) jdk_41_method_12_code (4 : Nat) (Option.some Jvm.ClassFile.FieldType.int), Jvm.Cond.code ({ cls := "querent/hl7/LineReader", name := "offset", desc := "()J" } : Jvm.MethodName) prog_132_method_13_code (1 : Nat) (Option.some Jvm.ClassFile.FieldType.long), Jvm.Cond.code ({ cls := "querent/hl7/LineReader", name := "keepFromNext", desc := "()V" } : Jvm.MethodName) prog_132_method_5_code (1 : Nat) (Option.none : Option Jvm.ClassFile.FieldType), Jvm.Cond.code ({ cls := "querent/hl7/LineReader", name := "kept", desc := "()I" } : Jvm.MethodName) prog_132_method_7_code (1 : Nat) (Option.some Jvm.ClassFile.FieldType.int), Jvm.Cond.code ({ cls := "querent/hl7/LineReader", name := "next", desc := "()Z" } : Jvm.MethodName) prog_132_method_3_code (3 : Nat) (Option.some Jvm.ClassFile.FieldType.boolean), Jvm.Cond.code ({ cls := "querent/hl7/LineReader", name := "startLine", desc := "()Z" } : Jvm.MethodName) prog_132_method_15_code (1 : Nat) (Option.some Jvm.ClassFile.FieldType.boolean), Jvm.Cond.code ({ cls := "querent/hl7/LineReader", name := "more", desc := "()Z" } : Jvm.MethodName) prog_132_method_19_code (1 : Nat) (Option.some Jvm.ClassFile.FieldType.boolean), Jvm.Cond.code ({ cls := "querent/hl7/LineReader", name := "fill", desc := "()Z" } : Jvm.MethodName) prog_132_method_20_code (3 : Nat) (Option.some Jvm.ClassFile.FieldType.boolean), Jvm.Cond.code ({ cls := "querent/hl7/LineReader", name := "endText", desc := "()V" } : Jvm.MethodName) prog_132_method_18_code (1 : Nat) (Option.none : Option Jvm.ClassFile.FieldType), Jvm.Cond.code ({ cls := "querent/hl7/LineReader", name := "start", desc := "()I" } : Jvm.MethodName) prog_132_method_8_code (1 : Nat) (Option.some Jvm.ClassFile.FieldType.int), Jvm.Cond.code ({ cls := "querent/hl7/LineReader", name := "lineEnd", desc := "(I)I" } : Jvm.MethodName) prog_132_method_16_code (3 : Nat) (Option.some Jvm.ClassFile.FieldType.int), Jvm.Cond.code ({ cls := "querent/hl7/LineReader", name := "endLine", desc := "(I)V" } : Jvm.MethodName) prog_132_method_17_code (2 : Nat) (Option.none : Option Jvm.ClassFile.FieldType), Jvm.Cond.code ({ cls := "querent/hl7/LineReader", name := "bytes", desc := "()[B" } : Jvm.MethodName) prog_132_method_6_code (1 : Nat) (Option.some (Jvm.ClassFile.FieldType.array Jvm.ClassFile.FieldType.byte))]
set_option maxRecDepth 65536 in
theorem codes_eq : words1.filter isCode = codes1 := rfl
theorem w_codes : ∀ c ∈ words1.filter isCode, c.before args0 about1 = true := by
  rw [codes_eq]
  intro c hc
  simp only [codes1, List.mem_cons, List.not_mem_nil, or_false] at hc
  rcases hc with rfl | rfl | rfl | rfl | rfl | rfl | rfl | rfl | rfl | rfl | rfl | rfl | rfl | rfl | rfl | rfl | rfl | rfl | rfl
  · exact w_c0
  · exact w_c1
  · exact w_c2
  · exact w_c3
  · exact w_c4
  · exact w_c5
  · exact w_c6
  · exact w_c7
  · exact w_c8
  · exact w_c9
  · exact w_c10
  · exact w_c11
  · exact w_c12
  · exact w_c13
  · exact w_c14
  · exact w_c15
  · exact w_c16
  · exact w_c17
  · exact w_c18
set_option maxRecDepth 65536 in
theorem w_t1 : (words1.take 24).all (fun c => isCode c || c.before args0 about1) = true := by decide +kernel
set_option maxRecDepth 65536 in
theorem w_t2 : ((words1.drop 24).take 24).all (fun c => isCode c || c.before args0 about1) = true := by decide +kernel
set_option maxRecDepth 65536 in
theorem w_t3 : (((words1.drop 24).drop 24).take 24).all (fun c => isCode c || c.before args0 about1) = true := by decide +kernel
set_option maxRecDepth 65536 in
theorem w_t4 : ((((words1.drop 24).drop 24).drop 24).take 24).all (fun c => isCode c || c.before args0 about1) = true := by decide +kernel
set_option maxRecDepth 65536 in
theorem w_t5 : (((((words1.drop 24).drop 24).drop 24).drop 24).take 24).all (fun c => isCode c || c.before args0 about1) = true := by decide +kernel
set_option maxRecDepth 65536 in
theorem w_t6 : (((((words1.drop 24).drop 24).drop 24).drop 24).drop 24).all (fun c => isCode c || c.before args0 about1) = true := by decide +kernel
theorem w_tables : (allAtoms (Jvm.Cond.code x code maxLocals ret :: tables_1)).before args0 about1 = true := by
  rw [allAtoms_all]
  show words1.all (fun c => c.before args0 about1) = true
  refine all_split ?_ w_codes
  rw [← List.take_append_drop 24 words1, List.all_append, w_t1, ← List.take_append_drop 24 (words1.drop 24), List.all_append, w_t2, ← List.take_append_drop 24 ((words1.drop 24).drop 24), List.all_append, w_t3, ← List.take_append_drop 24 (((words1.drop 24).drop 24).drop 24), List.all_append, w_t4, ← List.take_append_drop 24 ((((words1.drop 24).drop 24).drop 24).drop 24), List.all_append, w_t5, w_t6]
  rfl
set_option maxRecDepth 65536 in
theorem w_case : (Jvm.Cond.and given_1 narrow_1).before args0 about1 = true := by decide +kernel
theorem w_applies : (headSpec (Jvm.Cond.code x code maxLocals ret :: tables_1) room_1).applies x e0.platform about1 = true :=
  (Spec.applies_iff w_frames).mpr ⟨w_running, w_runnable, w_alone, w_named, w_hears, w_ripe, w_room, w_tables⟩
theorem atStart : AtStart classFile x code maxLocals ret World_1 tables_1 room_1 Calls_1 rest_1 Pre_1 launch0 p0 e0 about1 theMethod args0 below0 :=
  ⟨lists_1, trivial, launch0.admits_env _ _ _, launch0.least_env, fairChoices_fair.cas, fairChoices_fair.clock, w_frames, w_args, w_heap, w_applies, trivial, trivial, w_case⟩
end start1
theorem witness_1 : WitnessClaimed_1 := ⟨start1.p0, start1.e0, start1.about1, start1.theMethod, start1.args0, start1.below0, start1.atStart⟩
end Jvm.Pilot.@@N@@
