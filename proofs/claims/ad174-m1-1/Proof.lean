import JvmDerived
import JvmDerived.Pilot.@@N@@Statement
import JvmDerived.Pilot.@@N@@Code
set_option linter.unusedVariables false
set_option linter.unusedSimpArgs false
namespace Jvm.RoadKit
open Sem ClassFile Op Lib Jvm.Stand Jvm.Free Jvm.LawKit
section New
variable {p : Program} {l : Launch} {e : Env} {R : Room} {s : State} {m : MethodId} {args : Array Value} {below : List Frame} {meth : Method} {c : Code} {T : State} {locs : List Loc} {cells slots : Nat}
theorem retI (X : Stand p l e R s m args below meth c T locs cells slots) (hx : p.tables.exec = Jvm.exec) {pc : Nat} {Ls : Array Slot} {z : Int32} {rest : List Value} (hret : meth.sig.returnType = some .int) (hd : decode c.code pc = .ok (.ireturn, 1)) {fs : List Frame}
    (hl : ∀ (f : JFrame) (acts : List Action), f.method = m → f.locked = none → f.entered = [] → (doReturn e (T.setTop f) acts (some (.int z))).1 = T.setFrames fs) : Steps p.tables e below (T.setTop (mkF m pc Ls (.int z :: rest))) (T.setFrames fs) := by
  have hm' : T.vm.method? m = some meth := X.method'
  have hn : narrow .int (.int z) = .int z := rfl
  show Steps p.tables e below (T.setTop { method := m, pc := pc, locals := Ls, stack := _ :: rest, locked := none }) _
  jvm_step X.here [X.here.top, hx, hd, hm', hret, hn]
  first | (intro acts; rw [hl _ acts rfl rfl rfl]) | rw [hl _ _ rfl rfl rfl]
  exact Steps.refl _
end New
end Jvm.RoadKit
namespace Jvm.Pilot.@@N@@
open Jvm Jvm.ClassFile Sem Op Lib Jvm.Free Jvm.Stand Jvm.LawKit Jvm.RoadKit Bundle Jvm.Pilot.@@N@@.Jvm.D
theorem d1_0 : decode method_2_code 0 = .ok (.iload_n 0, 1) := by decide +kernel
theorem d1_1 : decode method_2_code 1 = .ok (.ldc 7, 2) := by decide +kernel
theorem d1_3 : decode method_2_code 3 = .ok (.iand, 1) := by decide +kernel
theorem d1_4 : decode method_2_code 4 = .ok (.iconst 3, 1) := by decide +kernel
theorem d1_5 : decode method_2_code 5 = .ok (.irem, 1) := by decide +kernel
theorem d1_6 : decode method_2_code 6 = .ok (.istore_n 1, 1) := by decide +kernel
theorem d1_7 : decode method_2_code 7 = .ok (.iload_n 1, 1) := by decide +kernel
theorem d1_8 : decode method_2_code 8 = .ok (.ifCond .ne 7, 3) := by decide +kernel
theorem d1_11 : decode method_2_code 11 = .ok (.getstatic 8, 3) := by decide +kernel
theorem d1_14 : decode method_2_code 14 = .ok (.areturn, 1) := by decide +kernel
theorem d1_15 : decode method_2_code 15 = .ok (.iload_n 1, 1) := by decide +kernel
theorem d1_16 : decode method_2_code 16 = .ok (.iconst 1, 1) := by decide +kernel
theorem d1_17 : decode method_2_code 17 = .ok (.if_icmp .ne 7, 3) := by decide +kernel
theorem d1_20 : decode method_2_code 20 = .ok (.getstatic 14, 3) := by decide +kernel
theorem d1_23 : decode method_2_code 23 = .ok (.areturn, 1) := by decide +kernel
theorem d1_24 : decode method_2_code 24 = .ok (.getstatic 17, 3) := by decide +kernel
theorem d1_27 : decode method_2_code 27 = .ok (.areturn, 1) := by decide +kernel
theorem pn_0 : plainName "com/example/motifrank/motifrank/TruthAndPinLaw" = true := by first | (simp [plainName, overriddenIn]; done) | decide +kernel
theorem ef_1 (m : MethodId) (p1 : Int32) : entryFrame m #[(.int p1)] 2 = mkF m 0 #[.val (.int p1), .unset] [] := by first | (simp [entryFrame, mkF, argsToLocals, Value.category]; done) | rfl
def F1 (p1 : Int32) (st_FALSE : Addr) (st_TRUE : Addr) (st_UNKNOWN : Addr) : Addr := (if ((p1 &&& (2147483647 : Int32)) % (3 : Int32)) = (0 : Int32) then st_FALSE else (if ((p1 &&& (2147483647 : Int32)) % (3 : Int32)) = (1 : Int32) then st_UNKNOWN else st_TRUE))
def Q1 (Z : State) (p1 : Int32) (st_FALSE : Addr) (st_TRUE : Addr) (st_UNKNOWN : Addr) (h0 : Heap) (n0 : Nat) (v : Option Value) (h : Heap) (L : List Loc) : Prop := v = some (.ref (F1 p1 st_FALSE st_TRUE st_UNKNOWN)) ∧ Fr n0 L ∧ h = h0
set_option maxRecDepth 65536 in
set_option maxHeartbeats 40000000 in
theorem rm1 (l : Launch) (Z : State) (a0 : Array Value) (hw : ∀ d ∈ tables_1, d.before a0 Z = true) (ws : List Jvm.Cond) (p1 : Int32) (st_FALSE : Addr) (st_TRUE : Addr) (st_UNKNOWN : Addr) (h0 : Heap) (n0 : Nat) (Z0 : n0 ≤ h0.size) (S_FALSE : Sta Z h0 "com/example/motifrank/motifrank/Truth" "FALSE" "Lcom/example/motifrank/motifrank/Truth;" (.ref st_FALSE)) (S_TRUE : Sta Z h0 "com/example/motifrank/motifrank/Truth" "TRUE" "Lcom/example/motifrank/motifrank/Truth;" (.ref st_TRUE)) (S_UNKNOWN : Sta Z h0 "com/example/motifrank/motifrank/Truth" "UNKNOWN" "Lcom/example/motifrank/motifrank/Truth;" (.ref st_UNKNOWN)) :
    MetFree l (⟨"com/example/motifrank/motifrank/TruthAndPinLaw", "pick", "(I)Lcom/example/motifrank/motifrank/Truth;"⟩ : MethodName) (head1 (Jvm.Cond.code (⟨"com/example/motifrank/motifrank/TruthAndPinLaw", "pick", "(I)Lcom/example/motifrank/motifrank/Truth;"⟩ : MethodName) method_2_code 2 (some (.object "com/example/motifrank/motifrank/Truth")) :: ws) ({ frames := 0, cells := 0, slots := 0, locals := 0 } : Room)) (fun a U => a = #[(.int p1)] ∧ Z.Warmed39 U.vm ∧ U.heap = h0) (fun _ _ _ _ _ => True) (fun _ U o U' => ∃ v L, o = .returned v ∧ Q1 Z p1 st_FALSE st_TRUE st_UNKNOWN h0 n0 v U'.heap L ∧ FrameEnd U o U' L ({ frames := 0, cells := 0, slots := 0, locals := 0 } : Room).cells ({ frames := 0, cells := 0, slots := 0, locals := 0 } : Room).slots) := by
  refine MetFree.of_bodySF (plainFor_of_name pn_0) hisR ?_
  intro p e s m args below meth c s₁ Bd hml0 hP hK
  obtain ⟨rfl, hZ, hh⟩ := hP
  have hx := Bd.exec
  have hby := Bd.bytes
  have hml : c.maxLocals = 2 := hml0
  have hown : s.vm.findClass "com/example/motifrank/motifrank/TruthAndPinLaw" = some m.cls := findClass_of_methodNamed Bd.named
  have hnm := (name_of_methodNamed Bd.named Bd.method).1
  have X0 : Stand p l e ({ frames := 0, cells := 0, slots := 0, locals := 0 } : Room) s m #[(.int p1)] below meth c s₁ [] 0 0 := Stand.of_body Bd
  have e0 : s₁.heap = h0 := by rw [← hh, Bd.state]; rfl
  have N0 := Fr.nil n0
  have pre0 : ∀ t, Steps p.tables e below (s₁.setTop (mkF m 0 #[.val (.int p1), .unset] [])) t → Steps p.tables e below (s₁.setTop (entryFrame m #[(.int p1)] 2)) t := fun t k => castTop (ef_1 m p1) k
  have pre3 : ∀ t, Steps p.tables e below (s₁.setTop (mkF m 8 #[.val (.int p1), .val (.int ((p1 &&& (2147483647 : Int32)) % (3 : Int32)))] [(.int ((p1 &&& (2147483647 : Int32)) % (3 : Int32)))])) t → Steps p.tables e below (s₁.setTop (entryFrame m #[(.int p1)] 2)) t := fun t kt => pre0 t (by
    show Steps p.tables e below (s₁.setTop (mkF m 0 #[.val (.int p1), .unset] [])) _
    refine XS.iloadN X0.here hx rfl (hb hby d1_0) rfl ?_
    show Steps p.tables e below (s₁.setTop (mkF m 1 #[.val (.int p1), .unset] [(.int p1)])) _
    refine X0.ldcInt hx hown (mvT hZ (hw _ (List.mem_of_getElem? (i := 4) rfl))) (g := (mkF m 1 #[.val (.int p1), .unset] [(.int p1)])) rfl (hb hby d1_1) _ ?_
    show Steps p.tables e below (s₁.setTop (mkF m 3 #[.val (.int p1), .unset] [(.int (2147483647 : Int32)), (.int p1)])) _
    refine XS.iand X0.here hx rfl (hb hby d1_3) rfl ?_
    show Steps p.tables e below (s₁.setTop (mkF m 4 #[.val (.int p1), .unset] [(.int (p1 &&& (2147483647 : Int32)))])) _
    refine XS.iconst X0.here hx rfl (hb hby d1_4) ?_
    show Steps p.tables e below (s₁.setTop (mkF m 5 #[.val (.int p1), .unset] [(.int (3 : Int32)), (.int (p1 &&& (2147483647 : Int32)))])) _
    refine iremM X0 hx rfl (hb hby d1_5) rfl (by decide) ?_
    show Steps p.tables e below (s₁.setTop (mkF m 6 #[.val (.int p1), .unset] [(.int ((p1 &&& (2147483647 : Int32)) % (3 : Int32)))])) _
    refine XS.istoreN X0.here hx rfl (hb hby d1_6) rfl (l' := #[.val (.int p1), .val (.int ((p1 &&& (2147483647 : Int32)) % (3 : Int32)))]) rfl ?_
    show Steps p.tables e below (s₁.setTop (mkF m 7 #[.val (.int p1), .val (.int ((p1 &&& (2147483647 : Int32)) % (3 : Int32)))] [])) _
    refine XS.iloadN X0.here hx rfl (hb hby d1_7) rfl ?_
    show Steps p.tables e below (s₁.setTop (mkF m 8 #[.val (.int p1), .val (.int ((p1 &&& (2147483647 : Int32)) % (3 : Int32)))] [(.int ((p1 &&& (2147483647 : Int32)) % (3 : Int32)))])) _
    exact kt)
  by_cases hc8_2 : ((p1 &&& (2147483647 : Int32)) % (3 : Int32)) = (0 : Int32)
  · obtain ⟨T4, X4, e4, st4⟩ := getS2 X0 hx hZ hown (host := "") (Or.inl (hw _ (List.mem_of_getElem? (i := 5) rfl))) Via.refl e0 S_FALSE (g := (mkF m 11 #[.val (.int p1), .val (.int ((p1 &&& (2147483647 : Int32)) % (3 : Int32)))] [])) rfl (hb hby d1_11)
    obtain ⟨fs, hr, hrun, hended, hW, hsame⟩ := X4.leave (v := some (.ref st_FALSE)) (fun h => by rw [Bd.returns] at h; cases h)
    refine ⟨_, _, pre3 _ ?_, hrun, hended, _, _, rfl, ?_, ⟨_, rfl⟩, hW, hsame.mono (by decide) (by decide)⟩
    · show Steps p.tables e below (s₁.setTop (mkF m 8 #[.val (.int p1), .val (.int ((p1 &&& (2147483647 : Int32)) % (3 : Int32)))] [(.int ((p1 &&& (2147483647 : Int32)) % (3 : Int32)))])) _
      refine XS.ifNo X0.here hx rfl (hb hby d1_8) rfl ((if0 _ _).trans (teq hc8_2).2) ?_
      show Steps p.tables e below (s₁.setTop (mkF m 11 #[.val (.int p1), .val (.int ((p1 &&& (2147483647 : Int32)) % (3 : Int32)))] [])) _
      refine st4 _ ?_
      show Steps p.tables e below (T4.setTop (mkF m 14 #[.val (.int p1), .val (.int ((p1 &&& (2147483647 : Int32)) % (3 : Int32)))] [(.ref st_FALSE)])) _
      exact retOut X4 hx Bd.returns rfl (Or.inr (Or.inr (Or.inr (Or.inr ⟨rfl, rfl, rfl⟩)))) (hb hby d1_14) hr
    · show Q1 Z p1 st_FALSE st_TRUE st_UNKNOWN h0 n0 _ T4.heap _
      rw [e4]
      have qr : F1 p1 st_FALSE st_TRUE st_UNKNOWN = st_FALSE := by unfold F1; rw [if_pos hc8_2]
      exact ⟨(by rw [qr]), N0, rfl⟩
  · have pre6 : ∀ t, Steps p.tables e below (s₁.setTop (mkF m 17 #[.val (.int p1), .val (.int ((p1 &&& (2147483647 : Int32)) % (3 : Int32)))] [(.int (1 : Int32)), (.int ((p1 &&& (2147483647 : Int32)) % (3 : Int32)))])) t → Steps p.tables e below (s₁.setTop (entryFrame m #[(.int p1)] 2)) t := fun t kt => pre3 t (by
      show Steps p.tables e below (s₁.setTop (mkF m 8 #[.val (.int p1), .val (.int ((p1 &&& (2147483647 : Int32)) % (3 : Int32)))] [(.int ((p1 &&& (2147483647 : Int32)) % (3 : Int32)))])) _
      refine XS.ifYes X0.here hx rfl (pc0 := 8) (pc' := 15) rfl (hb hby d1_8) rfl ((if0 _ _).trans (feq hc8_2).2) (by decide) (by decide) ?_
      show Steps p.tables e below (s₁.setTop (mkF m 15 #[.val (.int p1), .val (.int ((p1 &&& (2147483647 : Int32)) % (3 : Int32)))] [])) _
      refine XS.iloadN X0.here hx rfl (hb hby d1_15) rfl ?_
      show Steps p.tables e below (s₁.setTop (mkF m 16 #[.val (.int p1), .val (.int ((p1 &&& (2147483647 : Int32)) % (3 : Int32)))] [(.int ((p1 &&& (2147483647 : Int32)) % (3 : Int32)))])) _
      refine XS.iconst X0.here hx rfl (hb hby d1_16) ?_
      show Steps p.tables e below (s₁.setTop (mkF m 17 #[.val (.int p1), .val (.int ((p1 &&& (2147483647 : Int32)) % (3 : Int32)))] [(.int (1 : Int32)), (.int ((p1 &&& (2147483647 : Int32)) % (3 : Int32)))])) _
      exact kt)
    by_cases hc17_5 : ((p1 &&& (2147483647 : Int32)) % (3 : Int32)) = (1 : Int32)
    · obtain ⟨T7, X7, e7, st7⟩ := getS2 X0 hx hZ hown (host := "") (Or.inl (hw _ (List.mem_of_getElem? (i := 23) rfl))) Via.refl e0 S_UNKNOWN (g := (mkF m 20 #[.val (.int p1), .val (.int ((p1 &&& (2147483647 : Int32)) % (3 : Int32)))] [])) rfl (hb hby d1_20)
      obtain ⟨fs, hr, hrun, hended, hW, hsame⟩ := X7.leave (v := some (.ref st_UNKNOWN)) (fun h => by rw [Bd.returns] at h; cases h)
      refine ⟨_, _, pre6 _ ?_, hrun, hended, _, _, rfl, ?_, ⟨_, rfl⟩, hW, hsame.mono (by decide) (by decide)⟩
      · show Steps p.tables e below (s₁.setTop (mkF m 17 #[.val (.int p1), .val (.int ((p1 &&& (2147483647 : Int32)) % (3 : Int32)))] [(.int (1 : Int32)), (.int ((p1 &&& (2147483647 : Int32)) % (3 : Int32)))])) _
        refine XS.icmpNo X0.here hx rfl (hb hby d1_17) rfl (teq hc17_5).2 ?_
        show Steps p.tables e below (s₁.setTop (mkF m 20 #[.val (.int p1), .val (.int ((p1 &&& (2147483647 : Int32)) % (3 : Int32)))] [])) _
        refine st7 _ ?_
        show Steps p.tables e below (T7.setTop (mkF m 23 #[.val (.int p1), .val (.int ((p1 &&& (2147483647 : Int32)) % (3 : Int32)))] [(.ref st_UNKNOWN)])) _
        exact retOut X7 hx Bd.returns rfl (Or.inr (Or.inr (Or.inr (Or.inr ⟨rfl, rfl, rfl⟩)))) (hb hby d1_23) hr
      · show Q1 Z p1 st_FALSE st_TRUE st_UNKNOWN h0 n0 _ T7.heap _
        rw [e7]
        have qr : F1 p1 st_FALSE st_TRUE st_UNKNOWN = st_UNKNOWN := by unfold F1; rw [if_neg hc8_2, if_pos hc17_5]
        exact ⟨(by rw [qr]), N0, rfl⟩
    · obtain ⟨T8, X8, e8, st8⟩ := getS2 X0 hx hZ hown (host := "") (Or.inl (hw _ (List.mem_of_getElem? (i := 21) rfl))) Via.refl e0 S_TRUE (g := (mkF m 24 #[.val (.int p1), .val (.int ((p1 &&& (2147483647 : Int32)) % (3 : Int32)))] [])) rfl (hb hby d1_24)
      obtain ⟨fs, hr, hrun, hended, hW, hsame⟩ := X8.leave (v := some (.ref st_TRUE)) (fun h => by rw [Bd.returns] at h; cases h)
      refine ⟨_, _, pre6 _ ?_, hrun, hended, _, _, rfl, ?_, ⟨_, rfl⟩, hW, hsame.mono (by decide) (by decide)⟩
      · show Steps p.tables e below (s₁.setTop (mkF m 17 #[.val (.int p1), .val (.int ((p1 &&& (2147483647 : Int32)) % (3 : Int32)))] [(.int (1 : Int32)), (.int ((p1 &&& (2147483647 : Int32)) % (3 : Int32)))])) _
        refine XS.icmpYes X0.here hx rfl (pc0 := 17) (pc' := 24) rfl (hb hby d1_17) rfl (feq hc17_5).2 (by decide) (by decide) ?_
        show Steps p.tables e below (s₁.setTop (mkF m 24 #[.val (.int p1), .val (.int ((p1 &&& (2147483647 : Int32)) % (3 : Int32)))] [])) _
        refine st8 _ ?_
        show Steps p.tables e below (T8.setTop (mkF m 27 #[.val (.int p1), .val (.int ((p1 &&& (2147483647 : Int32)) % (3 : Int32)))] [(.ref st_TRUE)])) _
        exact retOut X8 hx Bd.returns rfl (Or.inr (Or.inr (Or.inr (Or.inr ⟨rfl, rfl, rfl⟩)))) (hb hby d1_27) hr
      · show Q1 Z p1 st_FALSE st_TRUE st_UNKNOWN h0 n0 _ T8.heap _
        rw [e8]
        have qr : F1 p1 st_FALSE st_TRUE st_UNKNOWN = st_TRUE := by unfold F1; rw [if_neg hc8_2, if_neg hc17_5]
        exact ⟨(by rw [qr]), N0, rfl⟩
theorem d2_0 : decode prog_136_method_5_code 0 = .ok (.aload_n 0, 1) := by decide +kernel
theorem d2_1 : decode prog_136_method_5_code 1 = .ok (.getstatic 7, 3) := by decide +kernel
theorem d2_4 : decode prog_136_method_5_code 4 = .ok (.if_acmp .eq 10, 3) := by decide +kernel
theorem d2_7 : decode prog_136_method_5_code 7 = .ok (.aload_n 1, 1) := by decide +kernel
theorem d2_8 : decode prog_136_method_5_code 8 = .ok (.getstatic 7, 3) := by decide +kernel
theorem d2_11 : decode prog_136_method_5_code 11 = .ok (.if_acmp .ne 7, 3) := by decide +kernel
theorem d2_14 : decode prog_136_method_5_code 14 = .ok (.getstatic 7, 3) := by decide +kernel
theorem d2_17 : decode prog_136_method_5_code 17 = .ok (.areturn, 1) := by decide +kernel
theorem d2_18 : decode prog_136_method_5_code 18 = .ok (.aload_n 0, 1) := by decide +kernel
theorem d2_19 : decode prog_136_method_5_code 19 = .ok (.getstatic 10, 3) := by decide +kernel
theorem d2_22 : decode prog_136_method_5_code 22 = .ok (.if_acmp .eq 10, 3) := by decide +kernel
theorem d2_25 : decode prog_136_method_5_code 25 = .ok (.aload_n 1, 1) := by decide +kernel
theorem d2_26 : decode prog_136_method_5_code 26 = .ok (.getstatic 10, 3) := by decide +kernel
theorem d2_29 : decode prog_136_method_5_code 29 = .ok (.if_acmp .ne 9, 3) := by decide +kernel
theorem d2_32 : decode prog_136_method_5_code 32 = .ok (.getstatic 10, 3) := by decide +kernel
theorem d2_35 : decode prog_136_method_5_code 35 = .ok (.goto 6, 3) := by decide +kernel
theorem d2_38 : decode prog_136_method_5_code 38 = .ok (.getstatic 3, 3) := by decide +kernel
theorem d2_41 : decode prog_136_method_5_code 41 = .ok (.areturn, 1) := by decide +kernel
theorem pn_1 : plainName "com/example/motifrank/motifrank/Truth" = true := by first | (simp [plainName, overriddenIn]; done) | decide +kernel
theorem ef_2 (m : MethodId) (a1 : Addr) (a2 : Addr) : entryFrame m #[(.ref a1), (.ref a2)] 2 = mkF m 0 #[.val (.ref a1), .val (.ref a2)] [] := by first | (simp [entryFrame, mkF, argsToLocals, Value.category]; done) | rfl
def F2 (a1 : Addr) (a2 : Addr) (st_FALSE : Addr) (st_TRUE : Addr) (st_UNKNOWN : Addr) : Addr := (if a1 = st_FALSE then st_FALSE else (if a2 = st_FALSE then st_FALSE else (if a1 = st_UNKNOWN then st_UNKNOWN else (if a2 = st_UNKNOWN then st_UNKNOWN else st_TRUE))))
def Q2 (Z : State) (a1 : Addr) (a2 : Addr) (st_FALSE : Addr) (st_TRUE : Addr) (st_UNKNOWN : Addr) (h0 : Heap) (n0 : Nat) (v : Option Value) (h : Heap) (L : List Loc) : Prop := v = some (.ref (F2 a1 a2 st_FALSE st_TRUE st_UNKNOWN)) ∧ Fr n0 L ∧ h = h0
set_option maxRecDepth 65536 in
set_option maxHeartbeats 40000000 in
theorem rm2 (l : Launch) (Z : State) (a0 : Array Value) (hw : ∀ d ∈ tables_1, d.before a0 Z = true) (ws : List Jvm.Cond) (a1 : Addr) (a2 : Addr) (st_FALSE : Addr) (st_TRUE : Addr) (st_UNKNOWN : Addr) (h0 : Heap) (n0 : Nat) (Z0 : n0 ≤ h0.size) (S_FALSE : Sta Z h0 "com/example/motifrank/motifrank/Truth" "FALSE" "Lcom/example/motifrank/motifrank/Truth;" (.ref st_FALSE)) (S_TRUE : Sta Z h0 "com/example/motifrank/motifrank/Truth" "TRUE" "Lcom/example/motifrank/motifrank/Truth;" (.ref st_TRUE)) (S_UNKNOWN : Sta Z h0 "com/example/motifrank/motifrank/Truth" "UNKNOWN" "Lcom/example/motifrank/motifrank/Truth;" (.ref st_UNKNOWN)) :
    MetFree l (⟨"com/example/motifrank/motifrank/Truth", "and", "(Lcom/example/motifrank/motifrank/Truth;)Lcom/example/motifrank/motifrank/Truth;"⟩ : MethodName) (head1 (Jvm.Cond.code (⟨"com/example/motifrank/motifrank/Truth", "and", "(Lcom/example/motifrank/motifrank/Truth;)Lcom/example/motifrank/motifrank/Truth;"⟩ : MethodName) prog_136_method_5_code 2 (some (.object "com/example/motifrank/motifrank/Truth")) :: ws) ({ frames := 0, cells := 0, slots := 0, locals := 0 } : Room)) (fun a U => a = #[(.ref a1), (.ref a2)] ∧ Z.Warmed39 U.vm ∧ U.heap = h0) (fun _ _ _ _ _ => True) (fun _ U o U' => ∃ v L, o = .returned v ∧ Q2 Z a1 a2 st_FALSE st_TRUE st_UNKNOWN h0 n0 v U'.heap L ∧ FrameEnd U o U' L ({ frames := 0, cells := 0, slots := 0, locals := 0 } : Room).cells ({ frames := 0, cells := 0, slots := 0, locals := 0 } : Room).slots) := by
  refine MetFree.of_bodySF (plainFor_of_name pn_1) hisR ?_
  intro p e s m args below meth c s₁ Bd hml0 hP hK
  obtain ⟨rfl, hZ, hh⟩ := hP
  have hx := Bd.exec
  have hby := Bd.bytes
  have hml : c.maxLocals = 2 := hml0
  have hown : s.vm.findClass "com/example/motifrank/motifrank/Truth" = some m.cls := findClass_of_methodNamed Bd.named
  have hnm := (name_of_methodNamed Bd.named Bd.method).1
  have X0 : Stand p l e ({ frames := 0, cells := 0, slots := 0, locals := 0 } : Room) s m #[(.ref a1), (.ref a2)] below meth c s₁ [] 0 0 := Stand.of_body Bd
  have e0 : s₁.heap = h0 := by rw [← hh, Bd.state]; rfl
  have N0 := Fr.nil n0
  have pre0 : ∀ t, Steps p.tables e below (s₁.setTop (mkF m 0 #[.val (.ref a1), .val (.ref a2)] [])) t → Steps p.tables e below (s₁.setTop (entryFrame m #[(.ref a1), (.ref a2)] 2)) t := fun t k => castTop (ef_2 m a1 a2) k
  obtain ⟨T3, X3, e3, st3⟩ := getS2 X0 hx hZ hown (host := "") (Or.inl (hw _ (List.mem_of_getElem? (i := 13) rfl))) Via.refl e0 S_FALSE (g := (mkF m 1 #[.val (.ref a1), .val (.ref a2)] [(.ref a1)])) rfl (hb hby d2_1)
  have pre5 : ∀ t, Steps p.tables e below (T3.setTop (mkF m 4 #[.val (.ref a1), .val (.ref a2)] [(.ref st_FALSE), (.ref a1)])) t → Steps p.tables e below (s₁.setTop (entryFrame m #[(.ref a1), (.ref a2)] 2)) t := fun t kt => pre0 t (by
    show Steps p.tables e below (s₁.setTop (mkF m 0 #[.val (.ref a1), .val (.ref a2)] [])) _
    refine XS.aloadN X0.here hx rfl (hb hby d2_0) rfl rfl ?_
    show Steps p.tables e below (s₁.setTop (mkF m 1 #[.val (.ref a1), .val (.ref a2)] [(.ref a1)])) _
    refine st3 _ ?_
    show Steps p.tables e below (T3.setTop (mkF m 4 #[.val (.ref a1), .val (.ref a2)] [(.ref st_FALSE), (.ref a1)])) _
    exact kt)
  by_cases hc4_4 : a1 = st_FALSE
  · obtain ⟨T6, X6, e6, st6⟩ := getS2 X3 hx hZ hown (host := "") (Or.inl (hw _ (List.mem_of_getElem? (i := 13) rfl))) Via.refl e3 S_FALSE (g := (mkF m 14 #[.val (.ref a1), .val (.ref a2)] [])) rfl (hb hby d2_14)
    obtain ⟨fs, hr, hrun, hended, hW, hsame⟩ := X6.leave (v := some (.ref st_FALSE)) (fun h => by rw [Bd.returns] at h; cases h)
    refine ⟨_, _, pre5 _ ?_, hrun, hended, _, _, rfl, ?_, ⟨_, rfl⟩, hW, hsame.mono (by decide) (by decide)⟩
    · show Steps p.tables e below (T3.setTop (mkF m 4 #[.val (.ref a1), .val (.ref a2)] [(.ref st_FALSE), (.ref a1)])) _
      refine Jvm.RoadKit.acmp (g := (mkF m 4 #[.val (.ref a1), .val (.ref a2)] [(.ref st_FALSE), (.ref a1)])) X3 hx rfl rfl rfl (pc0 := 4) (pc' := 14) (same := true) rfl (hb hby d2_4) rfl (decide_eq_true (congrArg Value.ref hc4_4)) (by decide) (by decide) ?_
      show Steps p.tables e below (T3.setTop (mkF m 14 #[.val (.ref a1), .val (.ref a2)] [])) _
      refine st6 _ ?_
      show Steps p.tables e below (T6.setTop (mkF m 17 #[.val (.ref a1), .val (.ref a2)] [(.ref st_FALSE)])) _
      exact retOut X6 hx Bd.returns rfl (Or.inr (Or.inr (Or.inr (Or.inr ⟨rfl, rfl, rfl⟩)))) (hb hby d2_17) hr
    · show Q2 Z a1 a2 st_FALSE st_TRUE st_UNKNOWN h0 n0 _ T6.heap _
      rw [e6]
      have qr : F2 a1 a2 st_FALSE st_TRUE st_UNKNOWN = st_FALSE := by unfold F2; rw [if_pos hc4_4]
      exact ⟨(by rw [qr]), N0, rfl⟩
  · obtain ⟨T7, X7, e7, st7⟩ := getS2 X3 hx hZ hown (host := "") (Or.inl (hw _ (List.mem_of_getElem? (i := 13) rfl))) Via.refl e3 S_FALSE (g := (mkF m 8 #[.val (.ref a1), .val (.ref a2)] [(.ref a2)])) rfl (hb hby d2_8)
    have pre9 : ∀ t, Steps p.tables e below (T7.setTop (mkF m 11 #[.val (.ref a1), .val (.ref a2)] [(.ref st_FALSE), (.ref a2)])) t → Steps p.tables e below (s₁.setTop (entryFrame m #[(.ref a1), (.ref a2)] 2)) t := fun t kt => pre5 t (by
      show Steps p.tables e below (T3.setTop (mkF m 4 #[.val (.ref a1), .val (.ref a2)] [(.ref st_FALSE), (.ref a1)])) _
      refine Jvm.RoadKit.acmp (g := (mkF m 4 #[.val (.ref a1), .val (.ref a2)] [(.ref st_FALSE), (.ref a1)])) X3 hx rfl rfl rfl (pc0 := 4) (pc' := 7) (same := false) rfl (hb hby d2_4) rfl (decide_eq_false fun q => hc4_4 (Value.ref.inj q)) (by decide) (by decide) ?_
      show Steps p.tables e below (T3.setTop (mkF m 7 #[.val (.ref a1), .val (.ref a2)] [])) _
      refine XS.aloadN X3.here hx rfl (hb hby d2_7) rfl rfl ?_
      show Steps p.tables e below (T3.setTop (mkF m 8 #[.val (.ref a1), .val (.ref a2)] [(.ref a2)])) _
      refine st7 _ ?_
      show Steps p.tables e below (T7.setTop (mkF m 11 #[.val (.ref a1), .val (.ref a2)] [(.ref st_FALSE), (.ref a2)])) _
      exact kt)
    by_cases hc11_8 : a2 = st_FALSE
    · obtain ⟨T10, X10, e10, st10⟩ := getS2 X7 hx hZ hown (host := "") (Or.inl (hw _ (List.mem_of_getElem? (i := 13) rfl))) Via.refl e7 S_FALSE (g := (mkF m 14 #[.val (.ref a1), .val (.ref a2)] [])) rfl (hb hby d2_14)
      obtain ⟨fs, hr, hrun, hended, hW, hsame⟩ := X10.leave (v := some (.ref st_FALSE)) (fun h => by rw [Bd.returns] at h; cases h)
      refine ⟨_, _, pre9 _ ?_, hrun, hended, _, _, rfl, ?_, ⟨_, rfl⟩, hW, hsame.mono (by decide) (by decide)⟩
      · show Steps p.tables e below (T7.setTop (mkF m 11 #[.val (.ref a1), .val (.ref a2)] [(.ref st_FALSE), (.ref a2)])) _
        refine Jvm.RoadKit.acmp (g := (mkF m 11 #[.val (.ref a1), .val (.ref a2)] [(.ref st_FALSE), (.ref a2)])) X7 hx rfl rfl rfl (pc0 := 11) (pc' := 14) (same := true) rfl (hb hby d2_11) rfl (decide_eq_true (congrArg Value.ref hc11_8)) (by decide) (by decide) ?_
        show Steps p.tables e below (T7.setTop (mkF m 14 #[.val (.ref a1), .val (.ref a2)] [])) _
        refine st10 _ ?_
        show Steps p.tables e below (T10.setTop (mkF m 17 #[.val (.ref a1), .val (.ref a2)] [(.ref st_FALSE)])) _
        exact retOut X10 hx Bd.returns rfl (Or.inr (Or.inr (Or.inr (Or.inr ⟨rfl, rfl, rfl⟩)))) (hb hby d2_17) hr
      · show Q2 Z a1 a2 st_FALSE st_TRUE st_UNKNOWN h0 n0 _ T10.heap _
        rw [e10]
        have qr : F2 a1 a2 st_FALSE st_TRUE st_UNKNOWN = st_FALSE := by unfold F2; rw [if_neg hc4_4, if_pos hc11_8]
        exact ⟨(by rw [qr]), N0, rfl⟩
    · obtain ⟨T11, X11, e11, st11⟩ := getS2 X7 hx hZ hown (host := "") (Or.inl (hw _ (List.mem_of_getElem? (i := 25) rfl))) Via.refl e7 S_UNKNOWN (g := (mkF m 19 #[.val (.ref a1), .val (.ref a2)] [(.ref a1)])) rfl (hb hby d2_19)
      have pre13 : ∀ t, Steps p.tables e below (T11.setTop (mkF m 22 #[.val (.ref a1), .val (.ref a2)] [(.ref st_UNKNOWN), (.ref a1)])) t → Steps p.tables e below (s₁.setTop (entryFrame m #[(.ref a1), (.ref a2)] 2)) t := fun t kt => pre9 t (by
        show Steps p.tables e below (T7.setTop (mkF m 11 #[.val (.ref a1), .val (.ref a2)] [(.ref st_FALSE), (.ref a2)])) _
        refine Jvm.RoadKit.acmp (g := (mkF m 11 #[.val (.ref a1), .val (.ref a2)] [(.ref st_FALSE), (.ref a2)])) X7 hx rfl rfl rfl (pc0 := 11) (pc' := 18) (same := false) rfl (hb hby d2_11) rfl (decide_eq_false fun q => hc11_8 (Value.ref.inj q)) (by decide) (by decide) ?_
        show Steps p.tables e below (T7.setTop (mkF m 18 #[.val (.ref a1), .val (.ref a2)] [])) _
        refine XS.aloadN X7.here hx rfl (hb hby d2_18) rfl rfl ?_
        show Steps p.tables e below (T7.setTop (mkF m 19 #[.val (.ref a1), .val (.ref a2)] [(.ref a1)])) _
        refine st11 _ ?_
        show Steps p.tables e below (T11.setTop (mkF m 22 #[.val (.ref a1), .val (.ref a2)] [(.ref st_UNKNOWN), (.ref a1)])) _
        exact kt)
      by_cases hc22_12 : a1 = st_UNKNOWN
      · obtain ⟨T14, X14, e14, st14⟩ := getS2 X11 hx hZ hown (host := "") (Or.inl (hw _ (List.mem_of_getElem? (i := 25) rfl))) Via.refl e11 S_UNKNOWN (g := (mkF m 32 #[.val (.ref a1), .val (.ref a2)] [])) rfl (hb hby d2_32)
        obtain ⟨fs, hr, hrun, hended, hW, hsame⟩ := X14.leave (v := some (.ref st_UNKNOWN)) (fun h => by rw [Bd.returns] at h; cases h)
        refine ⟨_, _, pre13 _ ?_, hrun, hended, _, _, rfl, ?_, ⟨_, rfl⟩, hW, hsame.mono (by decide) (by decide)⟩
        · show Steps p.tables e below (T11.setTop (mkF m 22 #[.val (.ref a1), .val (.ref a2)] [(.ref st_UNKNOWN), (.ref a1)])) _
          refine Jvm.RoadKit.acmp (g := (mkF m 22 #[.val (.ref a1), .val (.ref a2)] [(.ref st_UNKNOWN), (.ref a1)])) X11 hx rfl rfl rfl (pc0 := 22) (pc' := 32) (same := true) rfl (hb hby d2_22) rfl (decide_eq_true (congrArg Value.ref hc22_12)) (by decide) (by decide) ?_
          show Steps p.tables e below (T11.setTop (mkF m 32 #[.val (.ref a1), .val (.ref a2)] [])) _
          refine st14 _ ?_
          show Steps p.tables e below (T14.setTop (mkF m 35 #[.val (.ref a1), .val (.ref a2)] [(.ref st_UNKNOWN)])) _
          refine XS.goto X14.here hx rfl (pc0 := 35) (pc' := 41) rfl (hb hby d2_35) (by decide) (by decide) ?_
          show Steps p.tables e below (T14.setTop (mkF m 41 #[.val (.ref a1), .val (.ref a2)] [(.ref st_UNKNOWN)])) _
          exact retOut X14 hx Bd.returns rfl (Or.inr (Or.inr (Or.inr (Or.inr ⟨rfl, rfl, rfl⟩)))) (hb hby d2_41) hr
        · show Q2 Z a1 a2 st_FALSE st_TRUE st_UNKNOWN h0 n0 _ T14.heap _
          rw [e14]
          have qr : F2 a1 a2 st_FALSE st_TRUE st_UNKNOWN = st_UNKNOWN := by unfold F2; rw [if_neg hc4_4, if_neg hc11_8, if_pos hc22_12]
          exact ⟨(by rw [qr]), N0, rfl⟩
      · obtain ⟨T15, X15, e15, st15⟩ := getS2 X11 hx hZ hown (host := "") (Or.inl (hw _ (List.mem_of_getElem? (i := 25) rfl))) Via.refl e11 S_UNKNOWN (g := (mkF m 26 #[.val (.ref a1), .val (.ref a2)] [(.ref a2)])) rfl (hb hby d2_26)
        have pre17 : ∀ t, Steps p.tables e below (T15.setTop (mkF m 29 #[.val (.ref a1), .val (.ref a2)] [(.ref st_UNKNOWN), (.ref a2)])) t → Steps p.tables e below (s₁.setTop (entryFrame m #[(.ref a1), (.ref a2)] 2)) t := fun t kt => pre13 t (by
          show Steps p.tables e below (T11.setTop (mkF m 22 #[.val (.ref a1), .val (.ref a2)] [(.ref st_UNKNOWN), (.ref a1)])) _
          refine Jvm.RoadKit.acmp (g := (mkF m 22 #[.val (.ref a1), .val (.ref a2)] [(.ref st_UNKNOWN), (.ref a1)])) X11 hx rfl rfl rfl (pc0 := 22) (pc' := 25) (same := false) rfl (hb hby d2_22) rfl (decide_eq_false fun q => hc22_12 (Value.ref.inj q)) (by decide) (by decide) ?_
          show Steps p.tables e below (T11.setTop (mkF m 25 #[.val (.ref a1), .val (.ref a2)] [])) _
          refine XS.aloadN X11.here hx rfl (hb hby d2_25) rfl rfl ?_
          show Steps p.tables e below (T11.setTop (mkF m 26 #[.val (.ref a1), .val (.ref a2)] [(.ref a2)])) _
          refine st15 _ ?_
          show Steps p.tables e below (T15.setTop (mkF m 29 #[.val (.ref a1), .val (.ref a2)] [(.ref st_UNKNOWN), (.ref a2)])) _
          exact kt)
        by_cases hc29_16 : a2 = st_UNKNOWN
        · obtain ⟨T18, X18, e18, st18⟩ := getS2 X15 hx hZ hown (host := "") (Or.inl (hw _ (List.mem_of_getElem? (i := 25) rfl))) Via.refl e15 S_UNKNOWN (g := (mkF m 32 #[.val (.ref a1), .val (.ref a2)] [])) rfl (hb hby d2_32)
          obtain ⟨fs, hr, hrun, hended, hW, hsame⟩ := X18.leave (v := some (.ref st_UNKNOWN)) (fun h => by rw [Bd.returns] at h; cases h)
          refine ⟨_, _, pre17 _ ?_, hrun, hended, _, _, rfl, ?_, ⟨_, rfl⟩, hW, hsame.mono (by decide) (by decide)⟩
          · show Steps p.tables e below (T15.setTop (mkF m 29 #[.val (.ref a1), .val (.ref a2)] [(.ref st_UNKNOWN), (.ref a2)])) _
            refine Jvm.RoadKit.acmp (g := (mkF m 29 #[.val (.ref a1), .val (.ref a2)] [(.ref st_UNKNOWN), (.ref a2)])) X15 hx rfl rfl rfl (pc0 := 29) (pc' := 32) (same := true) rfl (hb hby d2_29) rfl (decide_eq_true (congrArg Value.ref hc29_16)) (by decide) (by decide) ?_
            show Steps p.tables e below (T15.setTop (mkF m 32 #[.val (.ref a1), .val (.ref a2)] [])) _
            refine st18 _ ?_
            show Steps p.tables e below (T18.setTop (mkF m 35 #[.val (.ref a1), .val (.ref a2)] [(.ref st_UNKNOWN)])) _
            refine XS.goto X18.here hx rfl (pc0 := 35) (pc' := 41) rfl (hb hby d2_35) (by decide) (by decide) ?_
            show Steps p.tables e below (T18.setTop (mkF m 41 #[.val (.ref a1), .val (.ref a2)] [(.ref st_UNKNOWN)])) _
            exact retOut X18 hx Bd.returns rfl (Or.inr (Or.inr (Or.inr (Or.inr ⟨rfl, rfl, rfl⟩)))) (hb hby d2_41) hr
          · show Q2 Z a1 a2 st_FALSE st_TRUE st_UNKNOWN h0 n0 _ T18.heap _
            rw [e18]
            have qr : F2 a1 a2 st_FALSE st_TRUE st_UNKNOWN = st_UNKNOWN := by unfold F2; rw [if_neg hc4_4, if_neg hc11_8, if_neg hc22_12, if_pos hc29_16]
            exact ⟨(by rw [qr]), N0, rfl⟩
        · obtain ⟨T19, X19, e19, st19⟩ := getS2 X15 hx hZ hown (host := "") (Or.inl (hw _ (List.mem_of_getElem? (i := 26) rfl))) Via.refl e15 S_TRUE (g := (mkF m 38 #[.val (.ref a1), .val (.ref a2)] [])) rfl (hb hby d2_38)
          obtain ⟨fs, hr, hrun, hended, hW, hsame⟩ := X19.leave (v := some (.ref st_TRUE)) (fun h => by rw [Bd.returns] at h; cases h)
          refine ⟨_, _, pre17 _ ?_, hrun, hended, _, _, rfl, ?_, ⟨_, rfl⟩, hW, hsame.mono (by decide) (by decide)⟩
          · show Steps p.tables e below (T15.setTop (mkF m 29 #[.val (.ref a1), .val (.ref a2)] [(.ref st_UNKNOWN), (.ref a2)])) _
            refine Jvm.RoadKit.acmp (g := (mkF m 29 #[.val (.ref a1), .val (.ref a2)] [(.ref st_UNKNOWN), (.ref a2)])) X15 hx rfl rfl rfl (pc0 := 29) (pc' := 38) (same := false) rfl (hb hby d2_29) rfl (decide_eq_false fun q => hc29_16 (Value.ref.inj q)) (by decide) (by decide) ?_
            show Steps p.tables e below (T15.setTop (mkF m 38 #[.val (.ref a1), .val (.ref a2)] [])) _
            refine st19 _ ?_
            show Steps p.tables e below (T19.setTop (mkF m 41 #[.val (.ref a1), .val (.ref a2)] [(.ref st_TRUE)])) _
            exact retOut X19 hx Bd.returns rfl (Or.inr (Or.inr (Or.inr (Or.inr ⟨rfl, rfl, rfl⟩)))) (hb hby d2_41) hr
          · show Q2 Z a1 a2 st_FALSE st_TRUE st_UNKNOWN h0 n0 _ T19.heap _
            rw [e19]
            have qr : F2 a1 a2 st_FALSE st_TRUE st_UNKNOWN = st_TRUE := by unfold F2; rw [if_neg hc4_4, if_neg hc11_8, if_neg hc22_12, if_neg hc29_16]
            exact ⟨(by rw [qr]), N0, rfl⟩
theorem d3_0 : decode method_3_code 0 = .ok (.aload_n 0, 1) := by decide +kernel
theorem d3_1 : decode method_3_code 1 = .ok (.getstatic 8, 3) := by decide +kernel
theorem d3_4 : decode method_3_code 4 = .ok (.if_acmp .ne 5, 3) := by decide +kernel
theorem d3_7 : decode method_3_code 7 = .ok (.iconst 0, 1) := by decide +kernel
theorem d3_8 : decode method_3_code 8 = .ok (.ireturn, 1) := by decide +kernel
theorem d3_9 : decode method_3_code 9 = .ok (.aload_n 0, 1) := by decide +kernel
theorem d3_10 : decode method_3_code 10 = .ok (.getstatic 14, 3) := by decide +kernel
theorem d3_13 : decode method_3_code 13 = .ok (.if_acmp .ne 5, 3) := by decide +kernel
theorem d3_16 : decode method_3_code 16 = .ok (.iconst 1, 1) := by decide +kernel
theorem d3_17 : decode method_3_code 17 = .ok (.ireturn, 1) := by decide +kernel
theorem d3_18 : decode method_3_code 18 = .ok (.aload_n 0, 1) := by decide +kernel
theorem d3_19 : decode method_3_code 19 = .ok (.getstatic 17, 3) := by decide +kernel
theorem d3_22 : decode method_3_code 22 = .ok (.if_acmp .ne 5, 3) := by decide +kernel
theorem d3_25 : decode method_3_code 25 = .ok (.iconst 2, 1) := by decide +kernel
theorem d3_26 : decode method_3_code 26 = .ok (.ireturn, 1) := by decide +kernel
theorem d3_27 : decode method_3_code 27 = .ok (.iconst (-1), 1) := by decide +kernel
theorem d3_28 : decode method_3_code 28 = .ok (.ireturn, 1) := by decide +kernel
theorem ef_3 (m : MethodId) (a1 : Addr) : entryFrame m #[(.ref a1)] 1 = mkF m 0 #[.val (.ref a1)] [] := by first | (simp [entryFrame, mkF, argsToLocals, Value.category]; done) | rfl
def F3 (a1 : Addr) (st_FALSE : Addr) (st_TRUE : Addr) (st_UNKNOWN : Addr) : Int32 := (if a1 = st_FALSE then (0 : Int32) else (if a1 = st_UNKNOWN then (1 : Int32) else (if a1 = st_TRUE then (2 : Int32) else (-1 : Int32))))
def Q3 (Z : State) (a1 : Addr) (st_FALSE : Addr) (st_TRUE : Addr) (st_UNKNOWN : Addr) (h0 : Heap) (n0 : Nat) (v : Option Value) (h : Heap) (L : List Loc) : Prop := v = some (.int (F3 a1 st_FALSE st_TRUE st_UNKNOWN)) ∧ Fr n0 L ∧ h = h0
set_option maxRecDepth 65536 in
set_option maxHeartbeats 40000000 in
theorem rm3 (l : Launch) (Z : State) (a0 : Array Value) (hw : ∀ d ∈ tables_1, d.before a0 Z = true) (ws : List Jvm.Cond) (a1 : Addr) (st_FALSE : Addr) (st_TRUE : Addr) (st_UNKNOWN : Addr) (h0 : Heap) (n0 : Nat) (Z0 : n0 ≤ h0.size) (S_FALSE : Sta Z h0 "com/example/motifrank/motifrank/Truth" "FALSE" "Lcom/example/motifrank/motifrank/Truth;" (.ref st_FALSE)) (S_TRUE : Sta Z h0 "com/example/motifrank/motifrank/Truth" "TRUE" "Lcom/example/motifrank/motifrank/Truth;" (.ref st_TRUE)) (S_UNKNOWN : Sta Z h0 "com/example/motifrank/motifrank/Truth" "UNKNOWN" "Lcom/example/motifrank/motifrank/Truth;" (.ref st_UNKNOWN)) :
    MetFree l (⟨"com/example/motifrank/motifrank/TruthAndPinLaw", "rank", "(Lcom/example/motifrank/motifrank/Truth;)I"⟩ : MethodName) (head1 (Jvm.Cond.code (⟨"com/example/motifrank/motifrank/TruthAndPinLaw", "rank", "(Lcom/example/motifrank/motifrank/Truth;)I"⟩ : MethodName) method_3_code 1 (some .int) :: ws) ({ frames := 0, cells := 0, slots := 0, locals := 0 } : Room)) (fun a U => a = #[(.ref a1)] ∧ Z.Warmed39 U.vm ∧ U.heap = h0) (fun _ _ _ _ _ => True) (fun _ U o U' => ∃ v L, o = .returned v ∧ Q3 Z a1 st_FALSE st_TRUE st_UNKNOWN h0 n0 v U'.heap L ∧ FrameEnd U o U' L ({ frames := 0, cells := 0, slots := 0, locals := 0 } : Room).cells ({ frames := 0, cells := 0, slots := 0, locals := 0 } : Room).slots) := by
  refine MetFree.of_bodySF (plainFor_of_name pn_0) hisR ?_
  intro p e s m args below meth c s₁ Bd hml0 hP hK
  obtain ⟨rfl, hZ, hh⟩ := hP
  have hx := Bd.exec
  have hby := Bd.bytes
  have hml : c.maxLocals = 1 := hml0
  have hown : s.vm.findClass "com/example/motifrank/motifrank/TruthAndPinLaw" = some m.cls := findClass_of_methodNamed Bd.named
  have hnm := (name_of_methodNamed Bd.named Bd.method).1
  have X0 : Stand p l e ({ frames := 0, cells := 0, slots := 0, locals := 0 } : Room) s m #[(.ref a1)] below meth c s₁ [] 0 0 := Stand.of_body Bd
  have e0 : s₁.heap = h0 := by rw [← hh, Bd.state]; rfl
  have N0 := Fr.nil n0
  have pre0 : ∀ t, Steps p.tables e below (s₁.setTop (mkF m 0 #[.val (.ref a1)] [])) t → Steps p.tables e below (s₁.setTop (entryFrame m #[(.ref a1)] 1)) t := fun t k => castTop (ef_3 m a1) k
  obtain ⟨T2, X2, e2, st2⟩ := getS2 X0 hx hZ hown (host := "") (Or.inl (hw _ (List.mem_of_getElem? (i := 5) rfl))) Via.refl e0 S_FALSE (g := (mkF m 1 #[.val (.ref a1)] [(.ref a1)])) rfl (hb hby d3_1)
  have pre4 : ∀ t, Steps p.tables e below (T2.setTop (mkF m 4 #[.val (.ref a1)] [(.ref st_FALSE), (.ref a1)])) t → Steps p.tables e below (s₁.setTop (entryFrame m #[(.ref a1)] 1)) t := fun t kt => pre0 t (by
    show Steps p.tables e below (s₁.setTop (mkF m 0 #[.val (.ref a1)] [])) _
    refine XS.aloadN X0.here hx rfl (hb hby d3_0) rfl rfl ?_
    show Steps p.tables e below (s₁.setTop (mkF m 1 #[.val (.ref a1)] [(.ref a1)])) _
    refine st2 _ ?_
    show Steps p.tables e below (T2.setTop (mkF m 4 #[.val (.ref a1)] [(.ref st_FALSE), (.ref a1)])) _
    exact kt)
  by_cases hc4_3 : a1 = st_FALSE
  · obtain ⟨fs, hr, hrun, hended, hW, hsame⟩ := X2.leave (v := some (.int (0 : Int32))) (fun h => by rw [Bd.returns] at h; cases h)
    refine ⟨_, _, pre4 _ ?_, hrun, hended, _, _, rfl, ?_, ⟨_, rfl⟩, hW, hsame.mono (by decide) (by decide)⟩
    · show Steps p.tables e below (T2.setTop (mkF m 4 #[.val (.ref a1)] [(.ref st_FALSE), (.ref a1)])) _
      refine Jvm.RoadKit.acmp (g := (mkF m 4 #[.val (.ref a1)] [(.ref st_FALSE), (.ref a1)])) X2 hx rfl rfl rfl (pc0 := 4) (pc' := 7) (same := true) rfl (hb hby d3_4) rfl (decide_eq_true (congrArg Value.ref hc4_3)) (by decide) (by decide) ?_
      show Steps p.tables e below (T2.setTop (mkF m 7 #[.val (.ref a1)] [])) _
      refine XS.iconst X2.here hx rfl (hb hby d3_7) ?_
      show Steps p.tables e below (T2.setTop (mkF m 8 #[.val (.ref a1)] [(.int (0 : Int32))])) _
      exact retI X2 hx Bd.returns (hb hby d3_8) hr
    · show Q3 Z a1 st_FALSE st_TRUE st_UNKNOWN h0 n0 _ T2.heap _
      rw [e2]
      have qr : F3 a1 st_FALSE st_TRUE st_UNKNOWN = (0 : Int32) := by unfold F3; rw [if_pos hc4_3]
      exact ⟨(by rw [qr]), N0, rfl⟩
  · obtain ⟨T5, X5, e5, st5⟩ := getS2 X2 hx hZ hown (host := "") (Or.inl (hw _ (List.mem_of_getElem? (i := 23) rfl))) Via.refl e2 S_UNKNOWN (g := (mkF m 10 #[.val (.ref a1)] [(.ref a1)])) rfl (hb hby d3_10)
    have pre7 : ∀ t, Steps p.tables e below (T5.setTop (mkF m 13 #[.val (.ref a1)] [(.ref st_UNKNOWN), (.ref a1)])) t → Steps p.tables e below (s₁.setTop (entryFrame m #[(.ref a1)] 1)) t := fun t kt => pre4 t (by
      show Steps p.tables e below (T2.setTop (mkF m 4 #[.val (.ref a1)] [(.ref st_FALSE), (.ref a1)])) _
      refine Jvm.RoadKit.acmp (g := (mkF m 4 #[.val (.ref a1)] [(.ref st_FALSE), (.ref a1)])) X2 hx rfl rfl rfl (pc0 := 4) (pc' := 9) (same := false) rfl (hb hby d3_4) rfl (decide_eq_false fun q => hc4_3 (Value.ref.inj q)) (by decide) (by decide) ?_
      show Steps p.tables e below (T2.setTop (mkF m 9 #[.val (.ref a1)] [])) _
      refine XS.aloadN X2.here hx rfl (hb hby d3_9) rfl rfl ?_
      show Steps p.tables e below (T2.setTop (mkF m 10 #[.val (.ref a1)] [(.ref a1)])) _
      refine st5 _ ?_
      show Steps p.tables e below (T5.setTop (mkF m 13 #[.val (.ref a1)] [(.ref st_UNKNOWN), (.ref a1)])) _
      exact kt)
    by_cases hc13_6 : a1 = st_UNKNOWN
    · obtain ⟨fs, hr, hrun, hended, hW, hsame⟩ := X5.leave (v := some (.int (1 : Int32))) (fun h => by rw [Bd.returns] at h; cases h)
      refine ⟨_, _, pre7 _ ?_, hrun, hended, _, _, rfl, ?_, ⟨_, rfl⟩, hW, hsame.mono (by decide) (by decide)⟩
      · show Steps p.tables e below (T5.setTop (mkF m 13 #[.val (.ref a1)] [(.ref st_UNKNOWN), (.ref a1)])) _
        refine Jvm.RoadKit.acmp (g := (mkF m 13 #[.val (.ref a1)] [(.ref st_UNKNOWN), (.ref a1)])) X5 hx rfl rfl rfl (pc0 := 13) (pc' := 16) (same := true) rfl (hb hby d3_13) rfl (decide_eq_true (congrArg Value.ref hc13_6)) (by decide) (by decide) ?_
        show Steps p.tables e below (T5.setTop (mkF m 16 #[.val (.ref a1)] [])) _
        refine XS.iconst X5.here hx rfl (hb hby d3_16) ?_
        show Steps p.tables e below (T5.setTop (mkF m 17 #[.val (.ref a1)] [(.int (1 : Int32))])) _
        exact retI X5 hx Bd.returns (hb hby d3_17) hr
      · show Q3 Z a1 st_FALSE st_TRUE st_UNKNOWN h0 n0 _ T5.heap _
        rw [e5]
        have qr : F3 a1 st_FALSE st_TRUE st_UNKNOWN = (1 : Int32) := by unfold F3; rw [if_neg hc4_3, if_pos hc13_6]
        exact ⟨(by rw [qr]), N0, rfl⟩
    · obtain ⟨T8, X8, e8, st8⟩ := getS2 X5 hx hZ hown (host := "") (Or.inl (hw _ (List.mem_of_getElem? (i := 21) rfl))) Via.refl e5 S_TRUE (g := (mkF m 19 #[.val (.ref a1)] [(.ref a1)])) rfl (hb hby d3_19)
      have pre10 : ∀ t, Steps p.tables e below (T8.setTop (mkF m 22 #[.val (.ref a1)] [(.ref st_TRUE), (.ref a1)])) t → Steps p.tables e below (s₁.setTop (entryFrame m #[(.ref a1)] 1)) t := fun t kt => pre7 t (by
        show Steps p.tables e below (T5.setTop (mkF m 13 #[.val (.ref a1)] [(.ref st_UNKNOWN), (.ref a1)])) _
        refine Jvm.RoadKit.acmp (g := (mkF m 13 #[.val (.ref a1)] [(.ref st_UNKNOWN), (.ref a1)])) X5 hx rfl rfl rfl (pc0 := 13) (pc' := 18) (same := false) rfl (hb hby d3_13) rfl (decide_eq_false fun q => hc13_6 (Value.ref.inj q)) (by decide) (by decide) ?_
        show Steps p.tables e below (T5.setTop (mkF m 18 #[.val (.ref a1)] [])) _
        refine XS.aloadN X5.here hx rfl (hb hby d3_18) rfl rfl ?_
        show Steps p.tables e below (T5.setTop (mkF m 19 #[.val (.ref a1)] [(.ref a1)])) _
        refine st8 _ ?_
        show Steps p.tables e below (T8.setTop (mkF m 22 #[.val (.ref a1)] [(.ref st_TRUE), (.ref a1)])) _
        exact kt)
      by_cases hc22_9 : a1 = st_TRUE
      · obtain ⟨fs, hr, hrun, hended, hW, hsame⟩ := X8.leave (v := some (.int (2 : Int32))) (fun h => by rw [Bd.returns] at h; cases h)
        refine ⟨_, _, pre10 _ ?_, hrun, hended, _, _, rfl, ?_, ⟨_, rfl⟩, hW, hsame.mono (by decide) (by decide)⟩
        · show Steps p.tables e below (T8.setTop (mkF m 22 #[.val (.ref a1)] [(.ref st_TRUE), (.ref a1)])) _
          refine Jvm.RoadKit.acmp (g := (mkF m 22 #[.val (.ref a1)] [(.ref st_TRUE), (.ref a1)])) X8 hx rfl rfl rfl (pc0 := 22) (pc' := 25) (same := true) rfl (hb hby d3_22) rfl (decide_eq_true (congrArg Value.ref hc22_9)) (by decide) (by decide) ?_
          show Steps p.tables e below (T8.setTop (mkF m 25 #[.val (.ref a1)] [])) _
          refine XS.iconst X8.here hx rfl (hb hby d3_25) ?_
          show Steps p.tables e below (T8.setTop (mkF m 26 #[.val (.ref a1)] [(.int (2 : Int32))])) _
          exact retI X8 hx Bd.returns (hb hby d3_26) hr
        · show Q3 Z a1 st_FALSE st_TRUE st_UNKNOWN h0 n0 _ T8.heap _
          rw [e8]
          have qr : F3 a1 st_FALSE st_TRUE st_UNKNOWN = (2 : Int32) := by unfold F3; rw [if_neg hc4_3, if_neg hc13_6, if_pos hc22_9]
          exact ⟨(by rw [qr]), N0, rfl⟩
      · obtain ⟨fs, hr, hrun, hended, hW, hsame⟩ := X8.leave (v := some (.int (-1 : Int32))) (fun h => by rw [Bd.returns] at h; cases h)
        refine ⟨_, _, pre10 _ ?_, hrun, hended, _, _, rfl, ?_, ⟨_, rfl⟩, hW, hsame.mono (by decide) (by decide)⟩
        · show Steps p.tables e below (T8.setTop (mkF m 22 #[.val (.ref a1)] [(.ref st_TRUE), (.ref a1)])) _
          refine Jvm.RoadKit.acmp (g := (mkF m 22 #[.val (.ref a1)] [(.ref st_TRUE), (.ref a1)])) X8 hx rfl rfl rfl (pc0 := 22) (pc' := 27) (same := false) rfl (hb hby d3_22) rfl (decide_eq_false fun q => hc22_9 (Value.ref.inj q)) (by decide) (by decide) ?_
          show Steps p.tables e below (T8.setTop (mkF m 27 #[.val (.ref a1)] [])) _
          refine XS.iconst X8.here hx rfl (hb hby d3_27) ?_
          show Steps p.tables e below (T8.setTop (mkF m 28 #[.val (.ref a1)] [(.int (-1 : Int32))])) _
          exact retI X8 hx Bd.returns (hb hby d3_28) hr
        · show Q3 Z a1 st_FALSE st_TRUE st_UNKNOWN h0 n0 _ T8.heap _
          rw [e8]
          have qr : F3 a1 st_FALSE st_TRUE st_UNKNOWN = (-1 : Int32) := by unfold F3; rw [if_neg hc4_3, if_neg hc13_6, if_neg hc22_9]
          exact ⟨(by rw [qr]), N0, rfl⟩
theorem d4_0 : decode jdk_29_method_69_code 0 = .ok (.iload_n 0, 1) := by decide +kernel
theorem d4_1 : decode jdk_29_method_69_code 1 = .ok (.iload_n 1, 1) := by decide +kernel
theorem d4_2 : decode jdk_29_method_69_code 2 = .ok (.if_icmp .gt 7, 3) := by decide +kernel
theorem d4_5 : decode jdk_29_method_69_code 5 = .ok (.iload_n 0, 1) := by decide +kernel
theorem d4_6 : decode jdk_29_method_69_code 6 = .ok (.goto 4, 3) := by decide +kernel
theorem d4_9 : decode jdk_29_method_69_code 9 = .ok (.iload_n 1, 1) := by decide +kernel
theorem d4_10 : decode jdk_29_method_69_code 10 = .ok (.ireturn, 1) := by decide +kernel
theorem ef_4 (m : MethodId) (p1 : Int32) (p2 : Int32) : entryFrame m #[(.int p1), (.int p2)] 2 = mkF m 0 #[.val (.int p1), .val (.int p2)] [] := by first | (simp [entryFrame, mkF, argsToLocals, Value.category]; done) | rfl
def F4 (p1 : Int32) (p2 : Int32) : Int32 := (if p2 < p1 then p2 else p1)
def Q4 (Z : State) (p1 : Int32) (p2 : Int32) (h0 : Heap) (n0 : Nat) (v : Option Value) (h : Heap) (L : List Loc) : Prop := v = some (.int (F4 p1 p2)) ∧ Fr n0 L ∧ h = h0
set_option maxRecDepth 65536 in
set_option maxHeartbeats 40000000 in
theorem rm4 (l : Launch) (Z : State) (a0 : Array Value) (hw : ∀ d ∈ tables_1, d.before a0 Z = true) (ws : List Jvm.Cond) (p1 : Int32) (p2 : Int32) (h0 : Heap) (n0 : Nat) (Z0 : n0 ≤ h0.size) :
    MetFree l (⟨"java/lang/Math", "min", "(II)I"⟩ : MethodName) (head1 (Jvm.Cond.code (⟨"java/lang/Math", "min", "(II)I"⟩ : MethodName) jdk_29_method_69_code 2 (some .int) :: ws) ({ frames := 0, cells := 0, slots := 0, locals := 0 } : Room)) (fun a U => a = #[(.int p1), (.int p2)] ∧ Z.Warmed39 U.vm ∧ U.heap = h0) (fun _ _ _ _ _ => True) (fun _ U o U' => ∃ v L, o = .returned v ∧ Q4 Z p1 p2 h0 n0 v U'.heap L ∧ FrameEnd U o U' L ({ frames := 0, cells := 0, slots := 0, locals := 0 } : Room).cells ({ frames := 0, cells := 0, slots := 0, locals := 0 } : Room).slots) := by
  refine MetFree.of_bodySF (Jvm.Free.JP.mathPlain rfl (by decide +kernel)) hisR ?_
  intro p e s m args below meth c s₁ Bd hml0 hP hK
  obtain ⟨rfl, hZ, hh⟩ := hP
  have hx := Bd.exec
  have hby := Bd.bytes
  have hml : c.maxLocals = 2 := hml0
  have hown : s.vm.findClass "java/lang/Math" = some m.cls := findClass_of_methodNamed Bd.named
  have hnm := (name_of_methodNamed Bd.named Bd.method).1
  have X0 : Stand p l e ({ frames := 0, cells := 0, slots := 0, locals := 0 } : Room) s m #[(.int p1), (.int p2)] below meth c s₁ [] 0 0 := Stand.of_body Bd
  have e0 : s₁.heap = h0 := by rw [← hh, Bd.state]; rfl
  have N0 := Fr.nil n0
  have pre0 : ∀ t, Steps p.tables e below (s₁.setTop (mkF m 0 #[.val (.int p1), .val (.int p2)] [])) t → Steps p.tables e below (s₁.setTop (entryFrame m #[(.int p1), (.int p2)] 2)) t := fun t k => castTop (ef_4 m p1 p2) k
  have pre4 : ∀ t, Steps p.tables e below (s₁.setTop (mkF m 2 #[.val (.int p1), .val (.int p2)] [(.int p2), (.int p1)])) t → Steps p.tables e below (s₁.setTop (entryFrame m #[(.int p1), (.int p2)] 2)) t := fun t kt => pre0 t (by
    show Steps p.tables e below (s₁.setTop (mkF m 0 #[.val (.int p1), .val (.int p2)] [])) _
    refine XS.iloadN X0.here hx rfl (hb hby d4_0) rfl ?_
    show Steps p.tables e below (s₁.setTop (mkF m 1 #[.val (.int p1), .val (.int p2)] [(.int p1)])) _
    refine XS.iloadN X0.here hx rfl (hb hby d4_1) rfl ?_
    show Steps p.tables e below (s₁.setTop (mkF m 2 #[.val (.int p1), .val (.int p2)] [(.int p2), (.int p1)])) _
    exact kt)
  by_cases hc2_3 : p2 < p1
  · obtain ⟨fs, hr, hrun, hended, hW, hsame⟩ := X0.leave (v := some (.int p2)) (fun h => by rw [Bd.returns] at h; cases h)
    refine ⟨_, _, pre4 _ ?_, hrun, hended, _, _, rfl, ?_, ⟨_, rfl⟩, hW, hsame.mono (by decide) (by decide)⟩
    · show Steps p.tables e below (s₁.setTop (mkF m 2 #[.val (.int p1), .val (.int p2)] [(.int p2), (.int p1)])) _
      refine XS.icmpYes X0.here hx rfl (pc0 := 2) (pc' := 9) rfl (hb hby d4_2) rfl (tlt hc2_3).2.2.1 (by decide) (by decide) ?_
      show Steps p.tables e below (s₁.setTop (mkF m 9 #[.val (.int p1), .val (.int p2)] [])) _
      refine XS.iloadN X0.here hx rfl (hb hby d4_9) rfl ?_
      show Steps p.tables e below (s₁.setTop (mkF m 10 #[.val (.int p1), .val (.int p2)] [(.int p2)])) _
      exact retI X0 hx Bd.returns (hb hby d4_10) hr
    · show Q4 Z p1 p2 h0 n0 _ s₁.heap _
      rw [e0]
      have qr : F4 p1 p2 = p2 := by unfold F4; rw [if_pos hc2_3]
      exact ⟨(by rw [qr]), N0, rfl⟩
  · obtain ⟨fs, hr, hrun, hended, hW, hsame⟩ := X0.leave (v := some (.int p1)) (fun h => by rw [Bd.returns] at h; cases h)
    refine ⟨_, _, pre4 _ ?_, hrun, hended, _, _, rfl, ?_, ⟨_, rfl⟩, hW, hsame.mono (by decide) (by decide)⟩
    · show Steps p.tables e below (s₁.setTop (mkF m 2 #[.val (.int p1), .val (.int p2)] [(.int p2), (.int p1)])) _
      refine XS.icmpNo X0.here hx rfl (hb hby d4_2) rfl (flt hc2_3).2.2.1 ?_
      show Steps p.tables e below (s₁.setTop (mkF m 5 #[.val (.int p1), .val (.int p2)] [])) _
      refine XS.iloadN X0.here hx rfl (hb hby d4_5) rfl ?_
      show Steps p.tables e below (s₁.setTop (mkF m 6 #[.val (.int p1), .val (.int p2)] [(.int p1)])) _
      refine XS.goto X0.here hx rfl (pc0 := 6) (pc' := 10) rfl (hb hby d4_6) (by decide) (by decide) ?_
      show Steps p.tables e below (s₁.setTop (mkF m 10 #[.val (.int p1), .val (.int p2)] [(.int p1)])) _
      exact retI X0 hx Bd.returns (hb hby d4_10) hr
    · show Q4 Z p1 p2 h0 n0 _ s₁.heap _
      rw [e0]
      have qr : F4 p1 p2 = p1 := by unfold F4; rw [if_neg hc2_3]
      exact ⟨(by rw [qr]), N0, rfl⟩
theorem pd_0 : parseMethodDescriptor "(I)Lcom/example/motifrank/motifrank/Truth;" = some ⟨[.int], some (.object "com/example/motifrank/motifrank/Truth")⟩ := by decide +kernel
theorem pd_1 : parseMethodDescriptor "(Lcom/example/motifrank/motifrank/Truth;)Lcom/example/motifrank/motifrank/Truth;" = some ⟨[(.object "com/example/motifrank/motifrank/Truth")], some (.object "com/example/motifrank/motifrank/Truth")⟩ := by decide +kernel
theorem pd_2 : parseMethodDescriptor "(Lcom/example/motifrank/motifrank/Truth;)I" = some ⟨[(.object "com/example/motifrank/motifrank/Truth")], some .int⟩ := by decide +kernel
theorem pd_3 : parseMethodDescriptor "(II)I" = some ⟨[.int, .int], some .int⟩ := by decide +kernel
theorem own_exa {Z : State} {h : Heap} (x : Int32) {sF sT sU : Addr} {C : String} (e1 : Exa Z h sF C) (e2 : Exa Z h sT C) (e3 : Exa Z h sU C) : Exa Z h (F1 x sF sT sU) C := by
  unfold F1; split
  · first | exact e1 | exact e2 | exact e3
  · split <;> first | exact e1 | exact e2 | exact e3
theorem own_pick (x : Int32) (sF sT sU : Addr) : F1 x sF sT sU = sF ∨ F1 x sF sT sU = sT ∨ F1 x sF sT sU = sU := by
  unfold F1; split
  · simp
  · split <;> simp
theorem own_law (p1 p2 : Int32) (st_FALSE st_TRUE st_UNKNOWN : Addr) (h1 : st_FALSE ≠ st_TRUE) (h2 : st_FALSE ≠ st_UNKNOWN) (h3 : st_TRUE ≠ st_UNKNOWN) : (F3 (F2 (F1 p1 st_FALSE st_TRUE st_UNKNOWN) (F1 p2 st_FALSE st_TRUE st_UNKNOWN) st_FALSE st_TRUE st_UNKNOWN) st_FALSE st_TRUE st_UNKNOWN) = (F4 (F3 (F1 p1 st_FALSE st_TRUE st_UNKNOWN) st_FALSE st_TRUE st_UNKNOWN) (F3 (F1 p2 st_FALSE st_TRUE st_UNKNOWN) st_FALSE st_TRUE st_UNKNOWN)) := by
  have h1' := Ne.symm h1
  have h2' := Ne.symm h2
  have h3' := Ne.symm h3
  rcases own_pick p1 st_FALSE st_TRUE st_UNKNOWN with e | e | e <;> rw [e] <;>
    rcases own_pick p2 st_FALSE st_TRUE st_UNKNOWN with e' | e' | e' <;> rw [e'] <;>
    simp [F2, F3, F4, h1, h2, h3, h1', h2', h3']
theorem ef_0 (m : MethodId) (p1 : Int32) (p2 : Int32) : entryFrame m #[(.int p1), (.int p2)] maxLocals = mkF m 0 #[.val (.int p1), .val (.int p2), .unset, .unset, .unset] [] := by first | (simp [entryFrame, mkF, argsToLocals, Value.category, maxLocals]; done) | rfl
def Q0 (Z : State) (p1 : Int32) (p2 : Int32) (st_FALSE : Addr) (st_TRUE : Addr) (st_UNKNOWN : Addr) (h0 : Heap) (n0 : Nat) (v : Option Value) (h : Heap) (L : List Loc) : Prop := v = some (.int (1 : Int32)) ∧ Fr n0 L
set_option maxRecDepth 65536 in
set_option maxHeartbeats 40000000 in
theorem rm0 (l : Launch) (Z : State) (a0 : Array Value) (hw : ∀ d ∈ tables_1, d.before a0 Z = true) (ws : List Jvm.Cond) (p1 : Int32) (p2 : Int32) (st_FALSE : Addr) (st_TRUE : Addr) (st_UNKNOWN : Addr) (h0 : Heap) (n0 : Nat) (Z0 : n0 ≤ h0.size) (S_FALSE : Sta Z h0 "com/example/motifrank/motifrank/Truth" "FALSE" "Lcom/example/motifrank/motifrank/Truth;" (.ref st_FALSE)) (S_TRUE : Sta Z h0 "com/example/motifrank/motifrank/Truth" "TRUE" "Lcom/example/motifrank/motifrank/Truth;" (.ref st_TRUE)) (S_UNKNOWN : Sta Z h0 "com/example/motifrank/motifrank/Truth" "UNKNOWN" "Lcom/example/motifrank/motifrank/Truth;" (.ref st_UNKNOWN)) (E_st_FALSE : Exa Z h0 st_FALSE "com/example/motifrank/motifrank/Truth") (E_st_TRUE : Exa Z h0 st_TRUE "com/example/motifrank/motifrank/Truth") (E_st_UNKNOWN : Exa Z h0 st_UNKNOWN "com/example/motifrank/motifrank/Truth") (hc33 : (F3 (F2 (F1 p1 st_FALSE st_TRUE st_UNKNOWN) (F1 p2 st_FALSE st_TRUE st_UNKNOWN) st_FALSE st_TRUE st_UNKNOWN) st_FALSE st_TRUE st_UNKNOWN) = (F4 (F3 (F1 p1 st_FALSE st_TRUE st_UNKNOWN) st_FALSE st_TRUE st_UNKNOWN) (F3 (F1 p2 st_FALSE st_TRUE st_UNKNOWN) st_FALSE st_TRUE st_UNKNOWN))) :
    MetFree l x (head1 (Jvm.Cond.code x code maxLocals ret :: ws) room_1) (fun a U => a = #[(.int p1), (.int p2)] ∧ Z.Warmed39 U.vm ∧ U.heap = h0) (fun _ _ _ _ _ => True) (fun _ U o U' => ∃ v L, o = .returned v ∧ Q0 Z p1 p2 st_FALSE st_TRUE st_UNKNOWN h0 n0 v U'.heap L ∧ FrameEnd U o U' L room_1.cells room_1.slots) := by
  refine MetFree.of_bodySF (plainFor_of_name pn_0) hisR ?_
  intro p e s m args below meth c s₁ Bd hml0 hP hK
  obtain ⟨rfl, hZ, hh⟩ := hP
  have hx := Bd.exec
  have hby := Bd.bytes
  have hml : c.maxLocals = 5 := hml0
  have hown : s.vm.findClass "com/example/motifrank/motifrank/TruthAndPinLaw" = some m.cls := findClass_of_methodNamed Bd.named
  have hnm := (name_of_methodNamed Bd.named Bd.method).1
  have X0 : Stand p l e room_1 s m #[(.int p1), (.int p2)] below meth c s₁ [] 0 0 := Stand.of_body Bd
  have e0 : s₁.heap = h0 := by rw [← hh, Bd.state]; rfl
  have N0 := Fr.nil n0
  have pre0 : ∀ t, Steps p.tables e below (s₁.setTop (mkF m 0 #[.val (.int p1), .val (.int p2), .unset, .unset, .unset] [])) t → Steps p.tables e below (s₁.setTop (entryFrame m #[(.int p1), (.int p2)] maxLocals)) t := fun t k => castTop (ef_0 m p1 p2) k
  obtain ⟨_, _, ⟨T3, L3, k3, n3⟩, -, X3, ⟨Lc3, hQ3, l3, y3, z3⟩, st3⟩ := Jvm.LawKit.callS X0 hx (y := (⟨"com/example/motifrank/motifrank/TruthAndPinLaw", "pick", "(I)Lcom/example/motifrank/motifrank/Truth;"⟩ : MethodName)) hown (mvT hZ (hw _ (List.mem_of_getElem? (i := 0) rfl))) (mvT hZ (hw _ (List.mem_of_getElem? (i := 1) rfl))) (mvT hZ (hw _ (List.mem_of_getElem? (i := 2) rfl))) (mvT hZ (hw _ (List.mem_of_getElem? (i := 3) rfl))) (by decide) (backOf (W := 0) (rm1 l Z a0 hw [] p1 st_FALSE st_TRUE st_UNKNOWN h0 n0 Z0 S_FALSE S_TRUE S_UNKNOWN) hZ (hw _ (List.mem_of_getElem? (i := 3) rfl)) (hw _ (List.mem_of_getElem? (i := 2) rfl)) (by decide) (by decide)) (g := (mkF m 1 #[.val (.int p1), .val (.int p2), .unset, .unset, .unset] [(.int p1)])) rfl (by rw [hml]; rfl) (argsL := [(.int p1)]) (rest := []) (lenOf pd_0 rfl) rfl (by show 2 * 0 + _ ≤ _; exact Nat.le_of_eq rfl) (hb hby at_1) (fun _ _ => ⟨rfl, e0, (by decide : 0 + 0 ≤ _), (by decide : 0 + 0 ≤ _)⟩)
  dsimp only [Pt.U, Pt.locs, Pt.cells, Pt.slots] at X3 l3 y3 z3 st3 hQ3
  subst l3 y3 z3
  obtain ⟨rfl, N3q, e3⟩ := hQ3
  have N3 := Fr.app N0 N3q
  obtain ⟨_, _, ⟨T4, L4, k4, n4⟩, -, X4, ⟨Lc4, hQ4, l4, y4, z4⟩, st4⟩ := Jvm.LawKit.callS X3 hx (y := (⟨"com/example/motifrank/motifrank/TruthAndPinLaw", "pick", "(I)Lcom/example/motifrank/motifrank/Truth;"⟩ : MethodName)) hown (mvT hZ (hw _ (List.mem_of_getElem? (i := 0) rfl))) (mvT hZ (hw _ (List.mem_of_getElem? (i := 1) rfl))) (mvT hZ (hw _ (List.mem_of_getElem? (i := 2) rfl))) (mvT hZ (hw _ (List.mem_of_getElem? (i := 3) rfl))) (by decide) (backOf (W := 0) (rm1 l Z a0 hw [] p2 st_FALSE st_TRUE st_UNKNOWN h0 n0 Z0 S_FALSE S_TRUE S_UNKNOWN) hZ (hw _ (List.mem_of_getElem? (i := 3) rfl)) (hw _ (List.mem_of_getElem? (i := 2) rfl)) (by decide) (by decide)) (g := (mkF m 6 #[.val (.int p1), .val (.int p2), .val (.ref (F1 p1 st_FALSE st_TRUE st_UNKNOWN)), .unset, .unset] [(.int p2)])) rfl (by rw [hml]; rfl) (argsL := [(.int p2)]) (rest := []) (lenOf pd_0 rfl) rfl (by show 2 * 0 + _ ≤ _; exact Nat.le_of_eq rfl) (hb hby at_6) (fun _ _ => ⟨rfl, e3, (by decide : 0 + 0 ≤ _), (by decide : 0 + 0 ≤ _)⟩)
  dsimp only [Pt.U, Pt.locs, Pt.cells, Pt.slots] at X4 l4 y4 z4 st4 hQ4
  subst l4 y4 z4
  obtain ⟨rfl, N4q, e4⟩ := hQ4
  have N4 := Fr.app N3 N4q
  obtain ⟨cq5, kq5, q5a, q5b, q5c⟩ := isOf hZ e4 (own_exa p1 E_st_FALSE E_st_TRUE E_st_UNKNOWN)
  obtain ⟨_, _, ⟨T5, L5, k5, n5⟩, -, X5, ⟨Lc5, hQ5, l5, y5, z5⟩, st5⟩ := X4.virtualBack hx (y := (⟨"com/example/motifrank/motifrank/Truth", "and", "(Lcom/example/motifrank/motifrank/Truth;)Lcom/example/motifrank/motifrank/Truth;"⟩ : MethodName)) (z := (⟨"com/example/motifrank/motifrank/Truth", "and", "(Lcom/example/motifrank/motifrank/Truth;)Lcom/example/motifrank/motifrank/Truth;"⟩ : MethodName)) hown (mvT hZ (hw _ (List.mem_of_getElem? (i := 8) rfl))) (mvT hZ (hw _ (List.mem_of_getElem? (i := 9) rfl))) (notFace_of_selects (args := #[]) (mvT hZ (hw _ (List.mem_of_getElem? (i := 11) rfl)))) (mvT hZ (hw _ (List.mem_of_getElem? (i := 11) rfl))) (mvT hZ (hw _ (List.mem_of_getElem? (i := 10) rfl))) (by decide) (backOf (W := 0) (rm2 l Z a0 hw [] (F1 p1 st_FALSE st_TRUE st_UNKNOWN) (F1 p2 st_FALSE st_TRUE st_UNKNOWN) st_FALSE st_TRUE st_UNKNOWN h0 n0 Z0 S_FALSE S_TRUE S_UNKNOWN) hZ (hw _ (List.mem_of_getElem? (i := 12) rfl)) (hw _ (List.mem_of_getElem? (i := 6) rfl)) (by decide) (by decide)) q5a q5c (g := (mkF m 12 #[.val (.int p1), .val (.int p2), .val (.ref (F1 p1 st_FALSE st_TRUE st_UNKNOWN)), .val (.ref (F1 p2 st_FALSE st_TRUE st_UNKNOWN)), .unset] [(.ref (F1 p2 st_FALSE st_TRUE st_UNKNOWN)), (.ref (F1 p1 st_FALSE st_TRUE st_UNKNOWN))])) rfl (by rw [hml]; rfl) (Steps.refl _) (argsL := [(.ref (F1 p2 st_FALSE st_TRUE st_UNKNOWN))]) (rest := []) (lenOf pd_1 rfl) rfl (by show 2 * 0 + _ ≤ _; exact Nat.le_of_eq rfl) (hb hby at_12) (fun _ _ => ⟨rfl, e4, (by decide : 0 + 0 ≤ _), (by decide : 0 + 0 ≤ _)⟩)
  dsimp only [Pt.U, Pt.locs, Pt.cells, Pt.slots] at X5 l5 y5 z5 st5 hQ5
  subst l5 y5 z5
  obtain ⟨rfl, N5q, e5⟩ := hQ5
  have N5 := Fr.app N4 N5q
  obtain ⟨_, _, ⟨T6, L6, k6, n6⟩, -, X6, ⟨Lc6, hQ6, l6, y6, z6⟩, st6⟩ := Jvm.LawKit.callS X5 hx (y := (⟨"com/example/motifrank/motifrank/TruthAndPinLaw", "rank", "(Lcom/example/motifrank/motifrank/Truth;)I"⟩ : MethodName)) hown (mvT hZ (hw _ (List.mem_of_getElem? (i := 14) rfl))) (mvT hZ (hw _ (List.mem_of_getElem? (i := 15) rfl))) (mvT hZ (hw _ (List.mem_of_getElem? (i := 2) rfl))) (mvT hZ (hw _ (List.mem_of_getElem? (i := 16) rfl))) (by decide) (backOf (W := 0) (rm3 l Z a0 hw [] (F2 (F1 p1 st_FALSE st_TRUE st_UNKNOWN) (F1 p2 st_FALSE st_TRUE st_UNKNOWN) st_FALSE st_TRUE st_UNKNOWN) st_FALSE st_TRUE st_UNKNOWN h0 n0 Z0 S_FALSE S_TRUE S_UNKNOWN) hZ (hw _ (List.mem_of_getElem? (i := 16) rfl)) (hw _ (List.mem_of_getElem? (i := 2) rfl)) (by decide) (by decide)) (g := (mkF m 19 #[.val (.int p1), .val (.int p2), .val (.ref (F1 p1 st_FALSE st_TRUE st_UNKNOWN)), .val (.ref (F1 p2 st_FALSE st_TRUE st_UNKNOWN)), .val (.ref (F2 (F1 p1 st_FALSE st_TRUE st_UNKNOWN) (F1 p2 st_FALSE st_TRUE st_UNKNOWN) st_FALSE st_TRUE st_UNKNOWN))] [(.ref (F2 (F1 p1 st_FALSE st_TRUE st_UNKNOWN) (F1 p2 st_FALSE st_TRUE st_UNKNOWN) st_FALSE st_TRUE st_UNKNOWN))])) rfl (by rw [hml]; rfl) (argsL := [(.ref (F2 (F1 p1 st_FALSE st_TRUE st_UNKNOWN) (F1 p2 st_FALSE st_TRUE st_UNKNOWN) st_FALSE st_TRUE st_UNKNOWN))]) (rest := []) (lenOf pd_2 rfl) rfl (by show 2 * 0 + _ ≤ _; exact Nat.le_of_eq rfl) (hb hby at_19) (fun _ _ => ⟨rfl, e5, (by decide : 0 + 0 ≤ _), (by decide : 0 + 0 ≤ _)⟩)
  dsimp only [Pt.U, Pt.locs, Pt.cells, Pt.slots] at X6 l6 y6 z6 st6 hQ6
  subst l6 y6 z6
  obtain ⟨rfl, N6q, e6⟩ := hQ6
  have N6 := Fr.app N5 N6q
  obtain ⟨_, _, ⟨T7, L7, k7, n7⟩, -, X7, ⟨Lc7, hQ7, l7, y7, z7⟩, st7⟩ := Jvm.LawKit.callS X6 hx (y := (⟨"com/example/motifrank/motifrank/TruthAndPinLaw", "rank", "(Lcom/example/motifrank/motifrank/Truth;)I"⟩ : MethodName)) hown (mvT hZ (hw _ (List.mem_of_getElem? (i := 14) rfl))) (mvT hZ (hw _ (List.mem_of_getElem? (i := 15) rfl))) (mvT hZ (hw _ (List.mem_of_getElem? (i := 2) rfl))) (mvT hZ (hw _ (List.mem_of_getElem? (i := 16) rfl))) (by decide) (backOf (W := 1) (rm3 l Z a0 hw [] (F1 p1 st_FALSE st_TRUE st_UNKNOWN) st_FALSE st_TRUE st_UNKNOWN h0 n0 Z0 S_FALSE S_TRUE S_UNKNOWN) hZ (hw _ (List.mem_of_getElem? (i := 16) rfl)) (hw _ (List.mem_of_getElem? (i := 2) rfl)) (by decide) (by decide)) (g := (mkF m 23 #[.val (.int p1), .val (.int p2), .val (.ref (F1 p1 st_FALSE st_TRUE st_UNKNOWN)), .val (.ref (F1 p2 st_FALSE st_TRUE st_UNKNOWN)), .val (.ref (F2 (F1 p1 st_FALSE st_TRUE st_UNKNOWN) (F1 p2 st_FALSE st_TRUE st_UNKNOWN) st_FALSE st_TRUE st_UNKNOWN))] [(.ref (F1 p1 st_FALSE st_TRUE st_UNKNOWN)), (.int (F3 (F2 (F1 p1 st_FALSE st_TRUE st_UNKNOWN) (F1 p2 st_FALSE st_TRUE st_UNKNOWN) st_FALSE st_TRUE st_UNKNOWN) st_FALSE st_TRUE st_UNKNOWN))])) rfl (by rw [hml]; rfl) (argsL := [(.ref (F1 p1 st_FALSE st_TRUE st_UNKNOWN))]) (rest := [(.int (F3 (F2 (F1 p1 st_FALSE st_TRUE st_UNKNOWN) (F1 p2 st_FALSE st_TRUE st_UNKNOWN) st_FALSE st_TRUE st_UNKNOWN) st_FALSE st_TRUE st_UNKNOWN))]) (lenOf pd_2 rfl) rfl (by show 2 * 0 + _ ≤ _; exact Nat.le_of_eq rfl) (hb hby at_23) (fun _ _ => ⟨rfl, e6, (by decide : 0 + 0 ≤ _), (by decide : 0 + 0 ≤ _)⟩)
  dsimp only [Pt.U, Pt.locs, Pt.cells, Pt.slots] at X7 l7 y7 z7 st7 hQ7
  subst l7 y7 z7
  obtain ⟨rfl, N7q, e7⟩ := hQ7
  have N7 := Fr.app N6 N7q
  obtain ⟨_, _, ⟨T8, L8, k8, n8⟩, -, X8, ⟨Lc8, hQ8, l8, y8, z8⟩, st8⟩ := Jvm.LawKit.callS X7 hx (y := (⟨"com/example/motifrank/motifrank/TruthAndPinLaw", "rank", "(Lcom/example/motifrank/motifrank/Truth;)I"⟩ : MethodName)) hown (mvT hZ (hw _ (List.mem_of_getElem? (i := 14) rfl))) (mvT hZ (hw _ (List.mem_of_getElem? (i := 15) rfl))) (mvT hZ (hw _ (List.mem_of_getElem? (i := 2) rfl))) (mvT hZ (hw _ (List.mem_of_getElem? (i := 16) rfl))) (by decide) (backOf (W := 2) (rm3 l Z a0 hw [] (F1 p2 st_FALSE st_TRUE st_UNKNOWN) st_FALSE st_TRUE st_UNKNOWN h0 n0 Z0 S_FALSE S_TRUE S_UNKNOWN) hZ (hw _ (List.mem_of_getElem? (i := 16) rfl)) (hw _ (List.mem_of_getElem? (i := 2) rfl)) (by decide) (by decide)) (g := (mkF m 27 #[.val (.int p1), .val (.int p2), .val (.ref (F1 p1 st_FALSE st_TRUE st_UNKNOWN)), .val (.ref (F1 p2 st_FALSE st_TRUE st_UNKNOWN)), .val (.ref (F2 (F1 p1 st_FALSE st_TRUE st_UNKNOWN) (F1 p2 st_FALSE st_TRUE st_UNKNOWN) st_FALSE st_TRUE st_UNKNOWN))] [(.ref (F1 p2 st_FALSE st_TRUE st_UNKNOWN)), (.int (F3 (F1 p1 st_FALSE st_TRUE st_UNKNOWN) st_FALSE st_TRUE st_UNKNOWN)), (.int (F3 (F2 (F1 p1 st_FALSE st_TRUE st_UNKNOWN) (F1 p2 st_FALSE st_TRUE st_UNKNOWN) st_FALSE st_TRUE st_UNKNOWN) st_FALSE st_TRUE st_UNKNOWN))])) rfl (by rw [hml]; rfl) (argsL := [(.ref (F1 p2 st_FALSE st_TRUE st_UNKNOWN))]) (rest := [(.int (F3 (F1 p1 st_FALSE st_TRUE st_UNKNOWN) st_FALSE st_TRUE st_UNKNOWN)), (.int (F3 (F2 (F1 p1 st_FALSE st_TRUE st_UNKNOWN) (F1 p2 st_FALSE st_TRUE st_UNKNOWN) st_FALSE st_TRUE st_UNKNOWN) st_FALSE st_TRUE st_UNKNOWN))]) (lenOf pd_2 rfl) rfl (by show 2 * 0 + _ ≤ _; exact Nat.le_of_eq rfl) (hb hby at_27) (fun _ _ => ⟨rfl, e7, (by decide : 0 + 0 ≤ _), (by decide : 0 + 0 ≤ _)⟩)
  dsimp only [Pt.U, Pt.locs, Pt.cells, Pt.slots] at X8 l8 y8 z8 st8 hQ8
  subst l8 y8 z8
  obtain ⟨rfl, N8q, e8⟩ := hQ8
  have N8 := Fr.app N7 N8q
  obtain ⟨_, _, ⟨T9, L9, k9, n9⟩, -, X9, ⟨Lc9, hQ9, l9, y9, z9⟩, st9⟩ := Jvm.LawKit.callS X8 hx (y := (⟨"java/lang/Math", "min", "(II)I"⟩ : MethodName)) hown (mvT hZ (hw _ (List.mem_of_getElem? (i := 17) rfl))) (mvT hZ (hw _ (List.mem_of_getElem? (i := 18) rfl))) (mvT hZ (hw _ (List.mem_of_getElem? (i := 19) rfl))) (mvT hZ (hw _ (List.mem_of_getElem? (i := 20) rfl))) (by decide) (backOf (W := 1) (rm4 l Z a0 hw [] (F3 (F1 p1 st_FALSE st_TRUE st_UNKNOWN) st_FALSE st_TRUE st_UNKNOWN) (F3 (F1 p2 st_FALSE st_TRUE st_UNKNOWN) st_FALSE st_TRUE st_UNKNOWN) h0 n0 Z0 ) hZ (hw _ (List.mem_of_getElem? (i := 20) rfl)) (hw _ (List.mem_of_getElem? (i := 19) rfl)) (by decide) (by decide)) (g := (mkF m 30 #[.val (.int p1), .val (.int p2), .val (.ref (F1 p1 st_FALSE st_TRUE st_UNKNOWN)), .val (.ref (F1 p2 st_FALSE st_TRUE st_UNKNOWN)), .val (.ref (F2 (F1 p1 st_FALSE st_TRUE st_UNKNOWN) (F1 p2 st_FALSE st_TRUE st_UNKNOWN) st_FALSE st_TRUE st_UNKNOWN))] [(.int (F3 (F1 p2 st_FALSE st_TRUE st_UNKNOWN) st_FALSE st_TRUE st_UNKNOWN)), (.int (F3 (F1 p1 st_FALSE st_TRUE st_UNKNOWN) st_FALSE st_TRUE st_UNKNOWN)), (.int (F3 (F2 (F1 p1 st_FALSE st_TRUE st_UNKNOWN) (F1 p2 st_FALSE st_TRUE st_UNKNOWN) st_FALSE st_TRUE st_UNKNOWN) st_FALSE st_TRUE st_UNKNOWN))])) rfl (by rw [hml]; rfl) (argsL := [(.int (F3 (F1 p1 st_FALSE st_TRUE st_UNKNOWN) st_FALSE st_TRUE st_UNKNOWN)), (.int (F3 (F1 p2 st_FALSE st_TRUE st_UNKNOWN) st_FALSE st_TRUE st_UNKNOWN))]) (rest := [(.int (F3 (F2 (F1 p1 st_FALSE st_TRUE st_UNKNOWN) (F1 p2 st_FALSE st_TRUE st_UNKNOWN) st_FALSE st_TRUE st_UNKNOWN) st_FALSE st_TRUE st_UNKNOWN))]) (lenOf pd_3 rfl) rfl (by show 2 * 0 + _ ≤ _; exact Nat.le_of_eq rfl) (hb hby at_30) (fun _ _ => ⟨rfl, e8, (by decide : 0 + 0 ≤ _), (by decide : 0 + 0 ≤ _)⟩)
  dsimp only [Pt.U, Pt.locs, Pt.cells, Pt.slots] at X9 l9 y9 z9 st9 hQ9
  subst l9 y9 z9
  obtain ⟨rfl, N9q, e9⟩ := hQ9
  have N9 := Fr.app N8 N9q
  obtain ⟨fs, hr, hrun, hended, hW, hsame⟩ := X9.leave (v := some (.int (1 : Int32))) (fun h => by rw [Bd.returns] at h; cases h)
  refine ⟨_, _, pre0 _ ?_, hrun, hended, _, _, rfl, ?_, ⟨_, rfl⟩, hW, hsame.mono (by decide) (by decide)⟩
  · show Steps p.tables e below (s₁.setTop (mkF m 0 #[.val (.int p1), .val (.int p2), .unset, .unset, .unset] [])) _
    refine XS.iloadN X0.here hx rfl (hb hby at_0) rfl ?_
    show Steps p.tables e below (s₁.setTop (mkF m 1 #[.val (.int p1), .val (.int p2), .unset, .unset, .unset] [(.int p1)])) _
    refine st3 _ ?_
    show Steps p.tables e below (T3.setTop (mkF m 4 #[.val (.int p1), .val (.int p2), .unset, .unset, .unset] [(.ref (F1 p1 st_FALSE st_TRUE st_UNKNOWN))])) _
    refine XS.astoreN X3.here hx rfl (hb hby at_4) rfl rfl (l' := #[.val (.int p1), .val (.int p2), .val (.ref (F1 p1 st_FALSE st_TRUE st_UNKNOWN)), .unset, .unset]) rfl ?_
    show Steps p.tables e below (T3.setTop (mkF m 5 #[.val (.int p1), .val (.int p2), .val (.ref (F1 p1 st_FALSE st_TRUE st_UNKNOWN)), .unset, .unset] [])) _
    refine XS.iloadN X3.here hx rfl (hb hby at_5) rfl ?_
    show Steps p.tables e below (T3.setTop (mkF m 6 #[.val (.int p1), .val (.int p2), .val (.ref (F1 p1 st_FALSE st_TRUE st_UNKNOWN)), .unset, .unset] [(.int p2)])) _
    refine st4 _ ?_
    show Steps p.tables e below (T4.setTop (mkF m 9 #[.val (.int p1), .val (.int p2), .val (.ref (F1 p1 st_FALSE st_TRUE st_UNKNOWN)), .unset, .unset] [(.ref (F1 p2 st_FALSE st_TRUE st_UNKNOWN))])) _
    refine XS.astoreN X4.here hx rfl (hb hby at_9) rfl rfl (l' := #[.val (.int p1), .val (.int p2), .val (.ref (F1 p1 st_FALSE st_TRUE st_UNKNOWN)), .val (.ref (F1 p2 st_FALSE st_TRUE st_UNKNOWN)), .unset]) rfl ?_
    show Steps p.tables e below (T4.setTop (mkF m 10 #[.val (.int p1), .val (.int p2), .val (.ref (F1 p1 st_FALSE st_TRUE st_UNKNOWN)), .val (.ref (F1 p2 st_FALSE st_TRUE st_UNKNOWN)), .unset] [])) _
    refine XS.aloadN X4.here hx rfl (hb hby at_10) rfl rfl ?_
    show Steps p.tables e below (T4.setTop (mkF m 11 #[.val (.int p1), .val (.int p2), .val (.ref (F1 p1 st_FALSE st_TRUE st_UNKNOWN)), .val (.ref (F1 p2 st_FALSE st_TRUE st_UNKNOWN)), .unset] [(.ref (F1 p1 st_FALSE st_TRUE st_UNKNOWN))])) _
    refine XS.aloadN X4.here hx rfl (hb hby at_11) rfl rfl ?_
    show Steps p.tables e below (T4.setTop (mkF m 12 #[.val (.int p1), .val (.int p2), .val (.ref (F1 p1 st_FALSE st_TRUE st_UNKNOWN)), .val (.ref (F1 p2 st_FALSE st_TRUE st_UNKNOWN)), .unset] [(.ref (F1 p2 st_FALSE st_TRUE st_UNKNOWN)), (.ref (F1 p1 st_FALSE st_TRUE st_UNKNOWN))])) _
    refine st5.trans ?_
    show Steps p.tables e below (T5.setTop (mkF m 15 #[.val (.int p1), .val (.int p2), .val (.ref (F1 p1 st_FALSE st_TRUE st_UNKNOWN)), .val (.ref (F1 p2 st_FALSE st_TRUE st_UNKNOWN)), .unset] [(.ref (F2 (F1 p1 st_FALSE st_TRUE st_UNKNOWN) (F1 p2 st_FALSE st_TRUE st_UNKNOWN) st_FALSE st_TRUE st_UNKNOWN))])) _
    refine XS.astore X5.here hx rfl (hb hby at_15) rfl rfl (l' := #[.val (.int p1), .val (.int p2), .val (.ref (F1 p1 st_FALSE st_TRUE st_UNKNOWN)), .val (.ref (F1 p2 st_FALSE st_TRUE st_UNKNOWN)), .val (.ref (F2 (F1 p1 st_FALSE st_TRUE st_UNKNOWN) (F1 p2 st_FALSE st_TRUE st_UNKNOWN) st_FALSE st_TRUE st_UNKNOWN))]) rfl ?_
    show Steps p.tables e below (T5.setTop (mkF m 17 #[.val (.int p1), .val (.int p2), .val (.ref (F1 p1 st_FALSE st_TRUE st_UNKNOWN)), .val (.ref (F1 p2 st_FALSE st_TRUE st_UNKNOWN)), .val (.ref (F2 (F1 p1 st_FALSE st_TRUE st_UNKNOWN) (F1 p2 st_FALSE st_TRUE st_UNKNOWN) st_FALSE st_TRUE st_UNKNOWN))] [])) _
    refine XS.aload X5.here hx rfl (hb hby at_17) rfl rfl ?_
    show Steps p.tables e below (T5.setTop (mkF m 19 #[.val (.int p1), .val (.int p2), .val (.ref (F1 p1 st_FALSE st_TRUE st_UNKNOWN)), .val (.ref (F1 p2 st_FALSE st_TRUE st_UNKNOWN)), .val (.ref (F2 (F1 p1 st_FALSE st_TRUE st_UNKNOWN) (F1 p2 st_FALSE st_TRUE st_UNKNOWN) st_FALSE st_TRUE st_UNKNOWN))] [(.ref (F2 (F1 p1 st_FALSE st_TRUE st_UNKNOWN) (F1 p2 st_FALSE st_TRUE st_UNKNOWN) st_FALSE st_TRUE st_UNKNOWN))])) _
    refine st6 _ ?_
    show Steps p.tables e below (T6.setTop (mkF m 22 #[.val (.int p1), .val (.int p2), .val (.ref (F1 p1 st_FALSE st_TRUE st_UNKNOWN)), .val (.ref (F1 p2 st_FALSE st_TRUE st_UNKNOWN)), .val (.ref (F2 (F1 p1 st_FALSE st_TRUE st_UNKNOWN) (F1 p2 st_FALSE st_TRUE st_UNKNOWN) st_FALSE st_TRUE st_UNKNOWN))] [(.int (F3 (F2 (F1 p1 st_FALSE st_TRUE st_UNKNOWN) (F1 p2 st_FALSE st_TRUE st_UNKNOWN) st_FALSE st_TRUE st_UNKNOWN) st_FALSE st_TRUE st_UNKNOWN))])) _
    refine XS.aloadN X6.here hx rfl (hb hby at_22) rfl rfl ?_
    show Steps p.tables e below (T6.setTop (mkF m 23 #[.val (.int p1), .val (.int p2), .val (.ref (F1 p1 st_FALSE st_TRUE st_UNKNOWN)), .val (.ref (F1 p2 st_FALSE st_TRUE st_UNKNOWN)), .val (.ref (F2 (F1 p1 st_FALSE st_TRUE st_UNKNOWN) (F1 p2 st_FALSE st_TRUE st_UNKNOWN) st_FALSE st_TRUE st_UNKNOWN))] [(.ref (F1 p1 st_FALSE st_TRUE st_UNKNOWN)), (.int (F3 (F2 (F1 p1 st_FALSE st_TRUE st_UNKNOWN) (F1 p2 st_FALSE st_TRUE st_UNKNOWN) st_FALSE st_TRUE st_UNKNOWN) st_FALSE st_TRUE st_UNKNOWN))])) _
    refine st7 _ ?_
    show Steps p.tables e below (T7.setTop (mkF m 26 #[.val (.int p1), .val (.int p2), .val (.ref (F1 p1 st_FALSE st_TRUE st_UNKNOWN)), .val (.ref (F1 p2 st_FALSE st_TRUE st_UNKNOWN)), .val (.ref (F2 (F1 p1 st_FALSE st_TRUE st_UNKNOWN) (F1 p2 st_FALSE st_TRUE st_UNKNOWN) st_FALSE st_TRUE st_UNKNOWN))] [(.int (F3 (F1 p1 st_FALSE st_TRUE st_UNKNOWN) st_FALSE st_TRUE st_UNKNOWN)), (.int (F3 (F2 (F1 p1 st_FALSE st_TRUE st_UNKNOWN) (F1 p2 st_FALSE st_TRUE st_UNKNOWN) st_FALSE st_TRUE st_UNKNOWN) st_FALSE st_TRUE st_UNKNOWN))])) _
    refine XS.aloadN X7.here hx rfl (hb hby at_26) rfl rfl ?_
    show Steps p.tables e below (T7.setTop (mkF m 27 #[.val (.int p1), .val (.int p2), .val (.ref (F1 p1 st_FALSE st_TRUE st_UNKNOWN)), .val (.ref (F1 p2 st_FALSE st_TRUE st_UNKNOWN)), .val (.ref (F2 (F1 p1 st_FALSE st_TRUE st_UNKNOWN) (F1 p2 st_FALSE st_TRUE st_UNKNOWN) st_FALSE st_TRUE st_UNKNOWN))] [(.ref (F1 p2 st_FALSE st_TRUE st_UNKNOWN)), (.int (F3 (F1 p1 st_FALSE st_TRUE st_UNKNOWN) st_FALSE st_TRUE st_UNKNOWN)), (.int (F3 (F2 (F1 p1 st_FALSE st_TRUE st_UNKNOWN) (F1 p2 st_FALSE st_TRUE st_UNKNOWN) st_FALSE st_TRUE st_UNKNOWN) st_FALSE st_TRUE st_UNKNOWN))])) _
    refine st8 _ ?_
    show Steps p.tables e below (T8.setTop (mkF m 30 #[.val (.int p1), .val (.int p2), .val (.ref (F1 p1 st_FALSE st_TRUE st_UNKNOWN)), .val (.ref (F1 p2 st_FALSE st_TRUE st_UNKNOWN)), .val (.ref (F2 (F1 p1 st_FALSE st_TRUE st_UNKNOWN) (F1 p2 st_FALSE st_TRUE st_UNKNOWN) st_FALSE st_TRUE st_UNKNOWN))] [(.int (F3 (F1 p2 st_FALSE st_TRUE st_UNKNOWN) st_FALSE st_TRUE st_UNKNOWN)), (.int (F3 (F1 p1 st_FALSE st_TRUE st_UNKNOWN) st_FALSE st_TRUE st_UNKNOWN)), (.int (F3 (F2 (F1 p1 st_FALSE st_TRUE st_UNKNOWN) (F1 p2 st_FALSE st_TRUE st_UNKNOWN) st_FALSE st_TRUE st_UNKNOWN) st_FALSE st_TRUE st_UNKNOWN))])) _
    refine st9 _ ?_
    show Steps p.tables e below (T9.setTop (mkF m 33 #[.val (.int p1), .val (.int p2), .val (.ref (F1 p1 st_FALSE st_TRUE st_UNKNOWN)), .val (.ref (F1 p2 st_FALSE st_TRUE st_UNKNOWN)), .val (.ref (F2 (F1 p1 st_FALSE st_TRUE st_UNKNOWN) (F1 p2 st_FALSE st_TRUE st_UNKNOWN) st_FALSE st_TRUE st_UNKNOWN))] [(.int (F4 (F3 (F1 p1 st_FALSE st_TRUE st_UNKNOWN) st_FALSE st_TRUE st_UNKNOWN) (F3 (F1 p2 st_FALSE st_TRUE st_UNKNOWN) st_FALSE st_TRUE st_UNKNOWN))), (.int (F3 (F2 (F1 p1 st_FALSE st_TRUE st_UNKNOWN) (F1 p2 st_FALSE st_TRUE st_UNKNOWN) st_FALSE st_TRUE st_UNKNOWN) st_FALSE st_TRUE st_UNKNOWN))])) _
    refine XS.icmpNo X9.here hx rfl (hb hby at_33) rfl (teq hc33).2 ?_
    show Steps p.tables e below (T9.setTop (mkF m 36 #[.val (.int p1), .val (.int p2), .val (.ref (F1 p1 st_FALSE st_TRUE st_UNKNOWN)), .val (.ref (F1 p2 st_FALSE st_TRUE st_UNKNOWN)), .val (.ref (F2 (F1 p1 st_FALSE st_TRUE st_UNKNOWN) (F1 p2 st_FALSE st_TRUE st_UNKNOWN) st_FALSE st_TRUE st_UNKNOWN))] [])) _
    refine XS.iconst X9.here hx rfl (hb hby at_36) ?_
    show Steps p.tables e below (T9.setTop (mkF m 37 #[.val (.int p1), .val (.int p2), .val (.ref (F1 p1 st_FALSE st_TRUE st_UNKNOWN)), .val (.ref (F1 p2 st_FALSE st_TRUE st_UNKNOWN)), .val (.ref (F2 (F1 p1 st_FALSE st_TRUE st_UNKNOWN) (F1 p2 st_FALSE st_TRUE st_UNKNOWN) st_FALSE st_TRUE st_UNKNOWN))] [(.int (1 : Int32))])) _
    refine XS.goto X9.here hx rfl (pc0 := 37) (pc' := 41) rfl (hb hby at_37) (by decide) (by decide) ?_
    show Steps p.tables e below (T9.setTop (mkF m 41 #[.val (.int p1), .val (.int p2), .val (.ref (F1 p1 st_FALSE st_TRUE st_UNKNOWN)), .val (.ref (F1 p2 st_FALSE st_TRUE st_UNKNOWN)), .val (.ref (F2 (F1 p1 st_FALSE st_TRUE st_UNKNOWN) (F1 p2 st_FALSE st_TRUE st_UNKNOWN) st_FALSE st_TRUE st_UNKNOWN))] [(.int (1 : Int32))])) _
    exact retN X9 hx (t := .boolean) Bd.returns (by simp) (hb hby at_41) hr
  · show Q0 Z p1 p2 st_FALSE st_TRUE st_UNKNOWN h0 n0 _ T9.heap _
    rw [e9]
    exact ⟨rfl, N9⟩
set_option maxRecDepth 65536 in
set_option maxHeartbeats 40000000 in
theorem comes_1 {Post : Tables → Env → Array Value → State → Outcome → State → Prop} (hpost : ∀ tb e args s v u, (limb_1_1.after args s (.returned v) u = true ∧ limb_1_2.after args s (.returned v) u = true ∧ True) → FrameEnd s (.returned v) u (Jvm.fieldLocs frame_1_writes args s ++ Jvm.arrayLocs frame_1_arrays args s ++ Jvm.staticLocs frame_1_statics s) 0 0 → Post tb e args s (.returned v) u) :
    ArmFor flags0 classFile x code maxLocals ret World_1 tables_1 room_1 Calls_1 rest_1 Pre_1 Post := by
  intro l hfl _ _ p e ha hc hk s m args below hf hA hF happ hP
  obtain ⟨hcalls, hrest, hpre⟩ := hP
  obtain ⟨-, -, -, hnamed, -, -, -, hat⟩ := (Spec.applies_iff hf).mp happ
  obtain ⟨hg, hn⟩ := and_e (Cond.before_iff.mp (show (Jvm.Cond.and given_1 narrow_1).before args s = true from hpre))
  obtain ⟨hcount, hr0⟩ := and_e hg
  obtain ⟨ga0, hr1⟩ := and_e hr0
  obtain ⟨w0, w1, rfl⟩ : ∃ w0 w1 : Value, args = #[w0, w1] := by
    have hs : args.size = 2 := by simpa [Cond.value, given_1] using hcount
    obtain ⟨L⟩ := args
    match L, hs with
    | [w0, w1], _ => exact ⟨w0, w1, rfl⟩
  have hw := fun d (hd : d ∈ tables_1) => atoms_spec (ws := Jvm.Cond.code x code maxLocals ret :: tables_1) hat d (List.mem_cons_of_mem _ hd)
  obtain ⟨i0, ei0⟩ := is_v ga0
  obtain rfl : w0 = (.int i0) := Option.some.inj ei0
  obtain ⟨i1, ei1⟩ := is_v hr1
  obtain rfl : w1 = (.int i1) := Option.some.inj ei1
  obtain ⟨x_FALSE, r0⟩ := and_e hn
  obtain ⟨x_TRUE, r1⟩ := and_e r0
  obtain ⟨x_UNKNOWN, r2⟩ := and_e r1
  obtain ⟨o_TRUE, r3⟩ := and_e r2
  obtain ⟨o_FALSE, r4⟩ := and_e r3
  have o_UNKNOWN := r4
  obtain ⟨a_FALSE, e_FALSE⟩ := exa_v x_FALSE
  have E_FALSE := Exa.start e_FALSE x_FALSE
  have S_FALSE := Sta.start e_FALSE (Or.inr ⟨(hw _ (List.mem_of_getElem? (i := 6) rfl)), (hw _ (List.mem_of_getElem? (i := 7) rfl))⟩)
  have fo_FALSE := Cond.eq_int (Cond.before_iff.mpr o_FALSE) rfl
  rw [fld_at e_FALSE] at fo_FALSE
  have G_FALSE := Fld.start fo_FALSE
  obtain ⟨a_TRUE, e_TRUE⟩ := exa_v x_TRUE
  have E_TRUE := Exa.start e_TRUE x_TRUE
  have S_TRUE := Sta.start e_TRUE (Or.inr ⟨(hw _ (List.mem_of_getElem? (i := 6) rfl)), (hw _ (List.mem_of_getElem? (i := 22) rfl))⟩)
  have fo_TRUE := Cond.eq_int (Cond.before_iff.mpr o_TRUE) rfl
  rw [fld_at e_TRUE] at fo_TRUE
  have G_TRUE := Fld.start fo_TRUE
  obtain ⟨a_UNKNOWN, e_UNKNOWN⟩ := exa_v x_UNKNOWN
  have E_UNKNOWN := Exa.start e_UNKNOWN x_UNKNOWN
  have S_UNKNOWN := Sta.start e_UNKNOWN (Or.inr ⟨(hw _ (List.mem_of_getElem? (i := 6) rfl)), (hw _ (List.mem_of_getElem? (i := 24) rfl))⟩)
  have fo_UNKNOWN := Cond.eq_int (Cond.before_iff.mpr o_UNKNOWN) rfl
  rw [fld_at e_UNKNOWN] at fo_UNKNOWN
  have G_UNKNOWN := Fld.start fo_UNKNOWN
  obtain ⟨n, o, h1, h2, h3, _, L, rfl, ⟨rfl, N⟩, hq⟩ := rm0 l s _ hw tables_1 i0 i1 a_FALSE a_TRUE a_UNKNOWN s.heap s.heap.size (Nat.le_refl _) S_FALSE S_TRUE S_UNKNOWN E_FALSE E_TRUE E_UNKNOWN (own_law i0 i1 a_FALSE a_TRUE a_UNKNOWN (Fld.ne G_FALSE G_TRUE (by decide)) (Fld.ne G_FALSE G_UNKNOWN (by decide)) (Fld.ne G_TRUE G_UNKNOWN (by decide))) p e ha hc hk s m _ below hf ((Spec.applies_iff_loose hf).mp happ).1 ⟨rfl, State.Warmed39.refl s, rfl⟩ trivial
  refine ⟨n, _, h1, h2, h3, hpost _ _ _ _ _ _ ⟨Cond.after_iff.mpr rfl, Cond.after_iff.mpr (eq_i res_at (Term.int_eval (1)) (rfl)), trivial⟩ ⟨hq.1, hq.2.1, (hq.2.2.sift fun y hy => Or.inr (N y hy)).mono (by decide) (by decide)⟩⟩
theorem main_1_1 : Claimed_1_1 := comes_1 fun _ _ _ _ _ _ h hF => ⟨h.1, hF⟩
theorem main_1_2 : Claimed_1_2 := comes_1 fun _ _ _ _ _ _ h hF => ⟨h.2.1, hF⟩
end Jvm.Pilot.@@N@@
namespace Jvm.Pilot.@@N@@
open Jvm Jvm.ClassFile Sem Op Lib Jvm.Free Jvm.Stand Jvm.Pilot.@@N@@.Jvm.D
/-! MADE BY PROGRAM (witnessworld.py) out of the Statement's table words and the real class files: 13 classes; the members and pool entries that the words name. The judged class is class 1, her method 3. -/
namespace start1
open Jvm.ClassFile
def u (s : String) : CpInfo := .utf8 (stringToUtf16 s)
/-- a pool by its gaps: so many unusable entries, then the entry; so many at the end -/
def gap : Nat → List CpInfo → List CpInfo
  | 0, r => r
  | n + 1, r => .unusable :: gap n r
def poolList (es : List (Nat × CpInfo)) (last : Nat) : List CpInfo := es.foldr (fun e r => gap e.1 (e.2 :: r)) (gap last [])
def pool (es : List (Nat × CpInfo)) (last : Nat) : Array CpInfo := ⟨poolList es last⟩
def fileOf (pool : Array CpInfo) (this : Nat) (attrs : Array Attribute := #[]) (ms : Array MethodInfo := #[]) (fl : Nat := 33) (sup : Nat := 0) (ifs : Array Nat := #[]) (fds : Array FieldInfo := #[]) : ClassFile where
  minorVersion := 0
  majorVersion := 65
  constantPool := pool
  accessFlags := fl
  thisClass := this
  superClass := sup
  interfaces := ifs
  fields := fds
  methods := ms
  attributes := attrs
def plain (name : String) (sup : Option ClassId) : Class where
  name := name
  kind := .ordinary
  loader := none
  accessFlags := 33
  super := sup
  interfaces := #[]
  cf := none
  fields := #[]
  methods := #[]
  instanceTypes := #[]
  staticTypes := #[]
  resolved := #[]
  callSites := []
  init := .initialized
  statics := none
  mirror := none

def pool0 : Array CpInfo := pool [(5, u "<init>"), (0, u "()V"), (1, .class_ 10), (1, u "java/lang/Object")] 113

def k0m0 : Method := { name := "<init>", desc := "()V", sig := { parameters := [], returnType := none }, accessFlags := 1, code := none }
/-- java/lang/Object -/
def k0 : Class := { plain "java/lang/Object" none with
  accessFlags := 33
  interfaces := #[]
  cf := some (fileOf pool0 8 #[] #[{ accessFlags := 1, nameIndex := 5, descriptorIndex := 6, attributes := #[] }] 33 0 #[] #[])
  fields := #[]
  methods := #[k0m0]
  instanceTypes := #[]
  staticTypes := #[]
  resolved := Array.replicate 124 none
  statics := none }

def pool1 : Array CpInfo := pool [(2, .class_ 4), (1, u "java/lang/Object"), (0, u "<init>"), (0, u "()V"), (0, .integer 2147483647), (0, .fieldref 9 10), (0, .class_ 11), (0, .nameAndType 12 13), (0, u "com/example/motifrank/motifrank/Truth"), (0, u "FALSE"), (0, u "Lcom/example/motifrank/motifrank/Truth;"), (0, .fieldref 9 15), (0, .nameAndType 16 13), (0, u "UNKNOWN"), (0, .fieldref 9 18), (0, .nameAndType 19 13), (0, u "TRUE"), (0, .methodref 21 22), (0, .class_ 23), (0, .nameAndType 24 25), (0, u "com/example/motifrank/motifrank/TruthAndPinLaw"), (0, u "pick"), (0, u "(I)Lcom/example/motifrank/motifrank/Truth;"), (0, .methodref 9 27), (0, .nameAndType 28 29), (0, u "and"), (0, u "(Lcom/example/motifrank/motifrank/Truth;)Lcom/example/motifrank/motifrank/Truth;"), (0, .methodref 21 31), (0, .nameAndType 32 33), (0, u "rank"), (0, u "(Lcom/example/motifrank/motifrank/Truth;)I"), (0, .methodref 35 36), (0, .class_ 37), (0, .nameAndType 38 39), (0, u "java/lang/Math"), (0, u "min"), (0, u "(II)I"), (3, u "law"), (0, u "(II)Z")] 2

def k1m0 : Method := { name := "<init>", desc := "()V", sig := { parameters := [], returnType := none }, accessFlags := 1, code := none }
def k1c1 : Code := { maxStack := 2, maxLocals := 2, code := method_2_code, exceptionTable := #[], attributes := #[] }
def k1m1 : Method := { name := "pick", desc := "(I)Lcom/example/motifrank/motifrank/Truth;", sig := { parameters := [.int], returnType := some (.object "com/example/motifrank/motifrank/Truth") }, accessFlags := 10, code := some k1c1 }
def k1c2 : Code := { maxStack := 2, maxLocals := 1, code := method_3_code, exceptionTable := #[], attributes := #[] }
def k1m2 : Method := { name := "rank", desc := "(Lcom/example/motifrank/motifrank/Truth;)I", sig := { parameters := [(.object "com/example/motifrank/motifrank/Truth")], returnType := some .int }, accessFlags := 10, code := some k1c2 }
def k1c3 : Code := { maxStack := 3, maxLocals := 5, code := code, exceptionTable := #[], attributes := #[] }
def k1m3 : Method := { name := "law", desc := "(II)Z", sig := { parameters := [.int, .int], returnType := some .boolean }, accessFlags := 9, code := some k1c3 }
/-- com/example/motifrank/motifrank/TruthAndPinLaw -/
def k1 : Class := { plain "com/example/motifrank/motifrank/TruthAndPinLaw" (some 0) with
  accessFlags := 49
  interfaces := #[]
  cf := some (fileOf pool1 21 #[] #[{ accessFlags := 1, nameIndex := 5, descriptorIndex := 6, attributes := #[] }, { accessFlags := 10, nameIndex := 24, descriptorIndex := 25, attributes := #[] }, { accessFlags := 10, nameIndex := 32, descriptorIndex := 33, attributes := #[] }, { accessFlags := 9, nameIndex := 43, descriptorIndex := 44, attributes := #[] }] 49 2 #[] #[])
  fields := #[]
  methods := #[k1m0, k1m1, k1m2, k1m3]
  instanceTypes := #[]
  staticTypes := #[]
  resolved := Array.replicate 47 none
  statics := none }

def pool2 : Array CpInfo := pool [(1, .class_ 2), (0, u "java/lang/constant/Constable"), (0, .class_ 4), (0, u "java/lang/Object")] 6

/-- java/lang/constant/Constable -/
def k2 : Class := { plain "java/lang/constant/Constable" (some 0) with
  accessFlags := 1537
  interfaces := #[]
  cf := some (fileOf pool2 1 #[] #[] 1537 3 #[] #[])
  fields := #[]
  methods := #[]
  instanceTypes := #[]
  staticTypes := #[]
  resolved := Array.replicate 11 none
  statics := none }

def pool3 : Array CpInfo := pool [(1, .class_ 2), (0, u "java/lang/Comparable"), (0, .class_ 4), (0, u "java/lang/Object")] 7

/-- java/lang/Comparable -/
def k3 : Class := { plain "java/lang/Comparable" (some 0) with
  accessFlags := 1537
  interfaces := #[]
  cf := some (fileOf pool3 1 #[] #[] 1537 3 #[] #[])
  fields := #[]
  methods := #[]
  instanceTypes := #[]
  staticTypes := #[]
  resolved := Array.replicate 12 none
  statics := none }

def pool4 : Array CpInfo := pool [(1, .class_ 2), (0, u "java/io/Serializable"), (0, .class_ 4), (0, u "java/lang/Object")] 2

/-- java/io/Serializable -/
def k4 : Class := { plain "java/io/Serializable" (some 0) with
  accessFlags := 1537
  interfaces := #[]
  cf := some (fileOf pool4 1 #[] #[] 1537 3 #[] #[])
  fields := #[]
  methods := #[]
  instanceTypes := #[]
  staticTypes := #[]
  resolved := Array.replicate 7 none
  statics := none }

def pool5 : Array CpInfo := pool [(2, .class_ 4), (1, u "java/lang/Enum"), (0, u "name"), (0, u "Ljava/lang/String;"), (2, u "ordinal"), (0, u "I"), (1, .class_ 14), (1, u "java/lang/Object"), (4, u "hash"), (86, .class_ 108), (1, u "java/lang/Enum$EnumDesc"), (2, .class_ 112), (0, u "java/lang/constant/Constable"), (0, .class_ 114), (0, u "java/lang/Comparable"), (0, .class_ 116), (0, u "java/io/Serializable")] 87

/-- java/lang/Enum -/
def k5 : Class := { plain "java/lang/Enum" (some 0) with
  accessFlags := 1057
  interfaces := #[2, 3, 4]
  cf := some (fileOf pool5 2 #[.nestMembers #[106]] #[] 1057 12 #[111, 113, 115] #[{ accessFlags := 18, nameIndex := 5, descriptorIndex := 6, attributes := #[] }, { accessFlags := 18, nameIndex := 9, descriptorIndex := 10, attributes := #[] }, { accessFlags := 2, nameIndex := 19, descriptorIndex := 10, attributes := #[] }])
  fields := #[{ name := "name", type := (.object "java/lang/String"), accessFlags := 18, slot := 0, constantValue := 0 }, { name := "ordinal", type := .int, accessFlags := 18, slot := 1, constantValue := 0 }, { name := "hash", type := .int, accessFlags := 2, slot := 2, constantValue := 0 }]
  methods := #[]
  instanceTypes := #[(.object "java/lang/String"), .int, .int]
  staticTypes := #[]
  resolved := Array.replicate 204 none
  statics := none }

def pool6 : Array CpInfo := pool [(1, .class_ 2), (0, u "com/example/motifrank/motifrank/Truth"), (0, .fieldref 1 4), (0, .nameAndType 5 6), (0, u "TRUE"), (0, u "Lcom/example/motifrank/motifrank/Truth;"), (0, .fieldref 1 8), (0, .nameAndType 9 6), (0, u "FALSE"), (0, .fieldref 1 11), (0, .nameAndType 12 6), (0, u "UNKNOWN"), (2, u "$VALUES"), (0, u "[Lcom/example/motifrank/motifrank/Truth;"), (6, .class_ 25), (1, u "java/lang/Enum"), (33, u "and"), (0, u "(Lcom/example/motifrank/motifrank/Truth;)Lcom/example/motifrank/motifrank/Truth;")] 7

def k6c0 : Code := { maxStack := 2, maxLocals := 2, code := prog_136_method_5_code, exceptionTable := #[], attributes := #[] }
def k6m0 : Method := { name := "and", desc := "(Lcom/example/motifrank/motifrank/Truth;)Lcom/example/motifrank/motifrank/Truth;", sig := { parameters := [(.object "com/example/motifrank/motifrank/Truth")], returnType := some (.object "com/example/motifrank/motifrank/Truth") }, accessFlags := 0, code := some k6c0 }
/-- com/example/motifrank/motifrank/Truth -/
def k6 : Class := { plain "com/example/motifrank/motifrank/Truth" (some 5) with
  accessFlags := 16432
  interfaces := #[]
  cf := some (fileOf pool6 1 #[] #[{ accessFlags := 0, nameIndex := 59, descriptorIndex := 60, attributes := #[] }] 16432 23 #[] #[{ accessFlags := 16409, nameIndex := 5, descriptorIndex := 6, attributes := #[] }, { accessFlags := 16409, nameIndex := 9, descriptorIndex := 6, attributes := #[] }, { accessFlags := 16409, nameIndex := 12, descriptorIndex := 6, attributes := #[] }, { accessFlags := 4122, nameIndex := 15, descriptorIndex := 16, attributes := #[] }])
  fields := #[{ name := "TRUE", type := (.object "com/example/motifrank/motifrank/Truth"), accessFlags := 16409, slot := 0, constantValue := 0 }, { name := "FALSE", type := (.object "com/example/motifrank/motifrank/Truth"), accessFlags := 16409, slot := 1, constantValue := 0 }, { name := "UNKNOWN", type := (.object "com/example/motifrank/motifrank/Truth"), accessFlags := 16409, slot := 2, constantValue := 0 }, { name := "$VALUES", type := (.array (.object "com/example/motifrank/motifrank/Truth")), accessFlags := 4122, slot := 3, constantValue := 0 }]
  methods := #[k6m0]
  instanceTypes := #[(.object "java/lang/String"), .int, .int]
  staticTypes := #[(.object "com/example/motifrank/motifrank/Truth"), (.object "com/example/motifrank/motifrank/Truth"), (.object "com/example/motifrank/motifrank/Truth"), (.array (.object "com/example/motifrank/motifrank/Truth"))]
  resolved := Array.replicate 68 none
  statics := some 0 }

def pool7 : Array CpInfo := pool [(1, .class_ 2), (0, u "java/lang/Math"), (1, .class_ 6), (1, u "java/lang/Object"), (0, u "<init>"), (0, u "()V"), (89, .class_ 100), (1, u "java/lang/Math$RandomNumberGeneratorHolder"), (71, u "negativeZeroFloatBits"), (0, u "J"), (2, u "negativeZeroDoubleBits"), (24, u "min"), (43, u "$assertionsDisabled"), (0, u "Z"), (88, u "(II)I"), (2, u "twoToTheDoubleScaleDown"), (0, u "D"), (4, u "twoToTheDoubleScaleUp"), (9, u "E"), (3, u "PI"), (2, u "TAU"), (2, u "DEGREES_TO_RADIANS"), (0, u "RADIANS_TO_DEGREES")] 94

def k7m0 : Method := { name := "<init>", desc := "()V", sig := { parameters := [], returnType := none }, accessFlags := 2, code := none }
def k7c1 : Code := { maxStack := 2, maxLocals := 2, code := jdk_29_method_69_code, exceptionTable := #[], attributes := #[] }
def k7m1 : Method := { name := "min", desc := "(II)I", sig := { parameters := [.int, .int], returnType := some .int }, accessFlags := 9, code := some k7c1 }
/-- java/lang/Math -/
def k7 : Class := { plain "java/lang/Math" (some 0) with
  accessFlags := 49
  interfaces := #[]
  cf := some (fileOf pool7 1 #[.nestMembers #[98]] #[{ accessFlags := 2, nameIndex := 7, descriptorIndex := 8, attributes := #[] }, { accessFlags := 9, nameIndex := 201, descriptorIndex := 335, attributes := #[] }] 49 4 #[] #[{ accessFlags := 25, nameIndex := 354, descriptorIndex := 339, attributes := #[] }, { accessFlags := 25, nameIndex := 358, descriptorIndex := 339, attributes := #[] }, { accessFlags := 25, nameIndex := 361, descriptorIndex := 339, attributes := #[] }, { accessFlags := 26, nameIndex := 364, descriptorIndex := 339, attributes := #[] }, { accessFlags := 26, nameIndex := 365, descriptorIndex := 339, attributes := #[] }, { accessFlags := 26, nameIndex := 172, descriptorIndex := 173, attributes := #[] }, { accessFlags := 26, nameIndex := 176, descriptorIndex := 173, attributes := #[] }, { accessFlags := 8, nameIndex := 344, descriptorIndex := 339, attributes := #[] }, { accessFlags := 8, nameIndex := 338, descriptorIndex := 339, attributes := #[] }, { accessFlags := 4120, nameIndex := 245, descriptorIndex := 246, attributes := #[] }])
  fields := #[{ name := "E", type := .double, accessFlags := 25, slot := 0, constantValue := 0 }, { name := "PI", type := .double, accessFlags := 25, slot := 1, constantValue := 0 }, { name := "TAU", type := .double, accessFlags := 25, slot := 2, constantValue := 0 }, { name := "DEGREES_TO_RADIANS", type := .double, accessFlags := 26, slot := 3, constantValue := 0 }, { name := "RADIANS_TO_DEGREES", type := .double, accessFlags := 26, slot := 4, constantValue := 0 }, { name := "negativeZeroFloatBits", type := .long, accessFlags := 26, slot := 5, constantValue := 0 }, { name := "negativeZeroDoubleBits", type := .long, accessFlags := 26, slot := 6, constantValue := 0 }, { name := "twoToTheDoubleScaleUp", type := .double, accessFlags := 8, slot := 7, constantValue := 0 }, { name := "twoToTheDoubleScaleDown", type := .double, accessFlags := 8, slot := 8, constantValue := 0 }, { name := "$assertionsDisabled", type := .boolean, accessFlags := 4120, slot := 9, constantValue := 0 }]
  methods := #[k7m0, k7m1]
  instanceTypes := #[]
  staticTypes := #[.double, .double, .double, .double, .double, .long, .long, .double, .double, .boolean]
  resolved := Array.replicate 460 none
  statics := none }

def pool8 : Array CpInfo := pool [(1, u "java/lang/Cloneable"), (0, .class_ 1), (0, u "java/lang/Object"), (0, .class_ 3)] 3

/-- java/lang/Cloneable -/
def k8 : Class := { plain "java/lang/Cloneable" (some 0) with
  accessFlags := 1537
  interfaces := #[]
  cf := some (fileOf pool8 2 #[] #[] 1537 4 #[] #[])
  fields := #[]
  methods := #[]
  instanceTypes := #[]
  staticTypes := #[]
  resolved := Array.replicate 8 none
  statics := none }

/-- the primitive byte -/
def k9 : Class := { plain "byte" none with kind := .primitive 'B', accessFlags := 0x411 }
/-- [B -/
def k10 : Class := { plain "[B" (some 0) with kind := .array 9 .byte, interfaces := #[8, 4], accessFlags := 1041 }

/-- the primitive int -/
def k11 : Class := { plain "int" none with kind := .primitive 'I', accessFlags := 0x411 }
/-- [I -/
def k12 : Class := { plain "[I" (some 0) with kind := .array 11 .int, interfaces := #[8, 4], accessFlags := 1041 }

def heap : Heap := #[{ cls := 6, slots := #[.ref 2, .ref 1, .ref 3, .null], vm := .statics 6 },
  { cls := 6, slots := #[.null, .int 1, .int 0], vm := .none },
  { cls := 6, slots := #[.null, .int 0, .int 0], vm := .none },
  { cls := 6, slots := #[.null, .int 2, .int 0], vm := .none }]
def classes : Array Class := #[k0, k1, k2, k3, k4, k5, k6, k7, k8, k9, k10, k11, k12]
def interned : List (Array UInt16 × Addr) := []
def slotsUsed : Nat := 13
def theMethod : MethodId := ⟨1, 3⟩
def args0 : Array Value := #[.int 5, .int 7]
def aboutOver (below : List Frame) : State where
  vm := { classes := classes, interned := interned.toArray }
  heap := heap
  slotsUsed := slotsUsed
  threads := #[{ frames := .invoking theMethod args0 :: below }]
def below0 : List Frame := [.native { method := ⟨0, 0⟩, args := #[] }]
def about1 : State := aboutOver below0
def p0 : Program := .bare "" "" ""
def e0 : Env := launch0.env 0 0 0
theorem w_frames : about1.frames = Frame.invoking theMethod args0 :: below0 := rfl
set_option maxRecDepth 65536 in
theorem w_args : argsFit about1.vm theMethod args0 = true := by decide +kernel
set_option maxRecDepth 65536 in
theorem w_heap : heapFits about1 = true := by decide +kernel
set_option maxRecDepth 65536 in
theorem w_runnable : about1.curStatus? = some .runnable := by decide +kernel
set_option maxRecDepth 65536 in
theorem w_alone : about1.alone = true := by decide +kernel
set_option maxRecDepth 65536 in
theorem w_named : about1.methodNamed? x = some theMethod := by decide +kernel
set_option maxRecDepth 65536 in
theorem w_hears : about1.hears theMethod below0 = true := by decide +kernel
set_option maxRecDepth 65536 in
theorem w_ripe : about1.ripe theMethod args0 below0 = true := by decide +kernel
theorem w_running : about1.status = .running := rfl
set_option maxRecDepth 65536 in
theorem w_room : about1.hasRoom e0.platform room_1 = true :=
  launch0.hasRoom_least _ room_1 (by decide +kernel) (by decide +kernel) (by decide +kernel) (by decide +kernel) (by decide +kernel) (by decide +kernel)
theorem allAtoms_all (ts : List Jvm.Cond) (a : Array Jvm.Value) (st : Jvm.State) : (allAtoms ts).before a st = ts.all (fun c => c.before a st) := by
  induction ts with
  | nil => rfl
  | cons c t ih =>
    show (Jvm.Cond.and c (allAtoms t)).before a st = _
    rw [Jvm.Cond.before_and, ih, List.all_cons]
def words1 : List Jvm.Cond := Jvm.Cond.code x code maxLocals ret :: tables_1
/-- a 'code' word, met by the world's own term for the bytes: nothing is compared byte by byte -/
theorem code_word {y : MethodName} {bytes : ByteArray} {mx : Nat} {rt : Option FieldType} {a : Array Value} {s : State} {m : MethodId} {meth : Method} {c : Code} (h1 : s.methodNamed? y = some m) (h2 : s.vm.method? m = some meth) (h3 : meth.code = some c) (h4 : c.code = bytes)
    (h5 : (c.maxLocals == mx && c.exceptionTable.isEmpty && decide (c.maxStack ≤ mostOperands) && decide (meth.sig.returnType = rt) && !meth.locks && decide (parseMethodDescriptor y.desc = some meth.sig)) = true) : (Jvm.Cond.code y bytes mx rt).before a s = true := by
  simp only [Bool.and_eq_true, beq_iff_eq, Bool.not_eq_true', decide_eq_true_eq] at h5
  obtain ⟨⟨⟨⟨⟨g1, g2⟩, g3⟩, g4⟩, g5⟩, g6⟩ := h5
  simp [Cond.before, Cond.holds, Cond.value, h1, h2, h3, h4, g1, g2, g3, g4, g5, g6]
def isCode : Jvm.Cond → Bool
  | .code _ _ _ _ => true
  | _ => false
theorem all_split {L : List Jvm.Cond} {P : Jvm.Cond → Bool} (h1 : L.all (fun c => isCode c || P c) = true) (h2 : ∀ c ∈ L.filter isCode, P c = true) : L.all P = true := by
  refine List.all_eq_true.mpr fun c hc => ?_
  have h := List.all_eq_true.mp h1 c hc
  rcases Bool.eq_false_or_eq_true (isCode c) with hi | hi
  · exact h2 c (List.mem_filter.mpr ⟨hc, hi⟩)
  · simpa [hi] using h
set_option maxRecDepth 65536 in
theorem w_c0 : (Jvm.Cond.code x code maxLocals ret).before args0 about1 = true := code_word (m := ⟨1, 3⟩) (meth := k1m3) (c := k1c3) (by decide +kernel) rfl rfl rfl (by decide +kernel)
set_option maxRecDepth 65536 in
theorem w_c1 : (Jvm.Cond.code ({ cls := "com/example/motifrank/motifrank/TruthAndPinLaw", name := "pick", desc := "(I)Lcom/example/motifrank/motifrank/Truth;" } : Jvm.MethodName) method_2_code (2 : Nat) (Option.some (Jvm.ClassFile.FieldType.object "com/example/motifrank/motifrank/Truth"))).before args0 about1 = true := code_word (m := ⟨1, 1⟩) (meth := k1m1) (c := k1c1) (by decide +kernel) rfl rfl rfl (by decide +kernel)
set_option maxRecDepth 65536 in
theorem w_c2 : (Jvm.Cond.code ({ cls := "com/example/motifrank/motifrank/Truth", name := "and", desc := "(Lcom/example/motifrank/motifrank/Truth;)Lcom/example/motifrank/motifrank/Truth;" } : Jvm.MethodName) prog_136_method_5_code (2 : Nat) (Option.some (Jvm.ClassFile.FieldType.object "com/example/motifrank/motifrank/Truth"))).before args0 about1 = true := code_word (m := ⟨6, 0⟩) (meth := k6m0) (c := k6c0) (by decide +kernel) rfl rfl rfl (by decide +kernel)
set_option maxRecDepth 65536 in
theorem w_c3 : (Jvm.Cond.code ({ cls := "com/example/motifrank/motifrank/TruthAndPinLaw", name := "rank", desc := "(Lcom/example/motifrank/motifrank/Truth;)I" } : Jvm.MethodName) method_3_code (1 : Nat) (Option.some Jvm.ClassFile.FieldType.int)).before args0 about1 = true := code_word (m := ⟨1, 2⟩) (meth := k1m2) (c := k1c2) (by decide +kernel) rfl rfl rfl (by decide +kernel)
set_option maxRecDepth 65536 in
theorem w_c4 : (Jvm.Cond.code ({ cls := "java/lang/Math", name := "min", desc := "(II)I" } : Jvm.MethodName) jdk_29_method_69_code (2 : Nat) (Option.some Jvm.ClassFile.FieldType.int)).before args0 about1 = true := code_word (m := ⟨7, 1⟩) (meth := k7m1) (c := k7c1) (by decide +kernel) rfl rfl rfl (by decide +kernel)
def codes1 : List Jvm.Cond := [Jvm.Cond.code x code maxLocals ret, Jvm.Cond.code ({ cls := "com/example/motifrank/motifrank/TruthAndPinLaw", name := "pick", desc := "(I)Lcom/example/motifrank/motifrank/Truth;" } : Jvm.MethodName) method_2_code (2 : Nat) (Option.some (Jvm.ClassFile.FieldType.object "com/example/motifrank/motifrank/Truth")), Jvm.Cond.code ({ cls := "com/example/motifrank/motifrank/Truth", name := "and", desc := "(Lcom/example/motifrank/motifrank/Truth;)Lcom/example/motifrank/motifrank/Truth;" } : Jvm.MethodName) prog_136_method_5_code (2 : Nat) (Option.some (Jvm.ClassFile.FieldType.object "com/example/motifrank/motifrank/Truth")), Jvm.Cond.code ({ cls := "com/example/motifrank/motifrank/TruthAndPinLaw", name := "rank", desc := "(Lcom/example/motifrank/motifrank/Truth;)I" } : Jvm.MethodName) method_3_code (1 : Nat) (Option.some Jvm.ClassFile.FieldType.int), Jvm.Cond.code ({ cls := "java/lang/Math", name := "min", desc := "(II)I" } : Jvm.MethodName) jdk_29_method_69_code (2 : Nat) (Option.some Jvm.ClassFile.FieldType.int)]
set_option maxRecDepth 65536 in
theorem codes_eq : words1.filter isCode = codes1 := rfl
theorem w_codes : ∀ c ∈ words1.filter isCode, c.before args0 about1 = true := by
  rw [codes_eq]
  intro c hc
  simp only [codes1, List.mem_cons, List.not_mem_nil, or_false] at hc
  rcases hc with rfl | rfl | rfl | rfl | rfl
  · exact w_c0
  · exact w_c1
  · exact w_c2
  · exact w_c3
  · exact w_c4
set_option maxRecDepth 65536 in
theorem w_t1 : (words1.take 24).all (fun c => isCode c || c.before args0 about1) = true := by decide +kernel
set_option maxRecDepth 65536 in
theorem w_t2 : (words1.drop 24).all (fun c => isCode c || c.before args0 about1) = true := by decide +kernel
theorem w_tables : (allAtoms (Jvm.Cond.code x code maxLocals ret :: tables_1)).before args0 about1 = true := by
  rw [allAtoms_all]
  show words1.all (fun c => c.before args0 about1) = true
  refine all_split ?_ w_codes
  rw [← List.take_append_drop 24 words1, List.all_append, w_t1, w_t2]
  rfl
set_option maxRecDepth 65536 in
theorem w_case : (Jvm.Cond.and given_1 narrow_1).before args0 about1 = true := by decide +kernel
theorem w_applies : (headSpec (Jvm.Cond.code x code maxLocals ret :: tables_1) room_1).applies x e0.platform about1 = true :=
  (Spec.applies_iff w_frames).mpr ⟨w_running, w_runnable, w_alone, w_named, w_hears, w_ripe, w_room, w_tables⟩
theorem atStart : AtStart classFile x code maxLocals ret World_1 tables_1 room_1 Calls_1 rest_1 Pre_1 launch0 p0 e0 about1 theMethod args0 below0 :=
  ⟨lists_1, trivial, launch0.admits_env _ _ _, launch0.least_env, fairChoices_fair.cas, fairChoices_fair.clock, w_frames, w_args, w_heap, w_applies, trivial, trivial, w_case⟩
end start1
theorem witness_1 : WitnessClaimed_1 := ⟨start1.p0, start1.e0, start1.about1, start1.theMethod, start1.args0, start1.below0, start1.atStart⟩
end Jvm.Pilot.@@N@@
