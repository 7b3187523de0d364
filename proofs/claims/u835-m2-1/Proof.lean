import JvmDerived
import JvmDerived.Pilot.@@N@@Statement
import JvmDerived.Pilot.@@N@@Code
set_option linter.unusedVariables false
set_option linter.unusedSimpArgs false
namespace Jvm.RoadKit
open Sem ClassFile Op Lib Jvm.Stand Jvm.Free Jvm.LawKit
section New
variable {p : Program} {l : Launch} {e : Env} {R : Room} {s : State} {m : MethodId} {args : Array Value} {below : List Frame} {meth : Method} {c : Code} {T : State} {locs : List Loc} {cells slots : Nat}
theorem retI (X : Stand p l e R s m args below meth c T locs cells slots) (hx : p.tables.exec = Jvm.exec) {pc : Nat} {Ls : Array Slot} {z : Int32} {rest : List Value} (hret : meth.sig.returnType = some .int) (hd : decode c.code pc = .ok (.ireturn, 1)) {fs : List Frame}
    (hl : ∀ (f : JFrame) (acts : List Action), f.method = m → f.locked = none → f.entered = [] → (doReturn e (T.setTop f) acts (some (.int z))).1 = T.setFrames fs) : Steps p.tables e below (T.setTop (mkF m pc Ls (.int z :: rest))) (T.setFrames fs) := by
  have hm' : T.vm.method? m = some meth := X.method'
  have hn : narrow .int (.int z) = .int z := rfl
  show Steps p.tables e below (T.setTop { method := m, pc := pc, locals := Ls, stack := _ :: rest, locked := none }) _
  jvm_step X.here [X.here.top, hx, hd, hm', hret, hn]
  first | (intro acts; rw [hl _ acts rfl rfl rfl]) | rw [hl _ _ rfl rfl rfl]
  exact Steps.refl _
end New
end Jvm.RoadKit
namespace Jvm.Pilot.@@N@@
open Jvm Jvm.ClassFile Sem Op Lib Jvm.Free Jvm.Stand Jvm.LawKit Jvm.RoadKit Bundle Jvm.Pilot.@@N@@.Jvm.D
theorem pd_1 : parseMethodDescriptor "(I)Z" = some ⟨[.int], some .boolean⟩ := by decide +kernel
theorem d3_0 : decode prog_114_method_8_code 0 = .ok (.iload_n 0, 1) := by decide +kernel
theorem d3_1 : decode prog_114_method_8_code 1 = .ok (.bipush 97, 2) := by decide +kernel
theorem d3_3 : decode prog_114_method_8_code 3 = .ok (.if_icmp .lt 9, 3) := by decide +kernel
theorem d3_6 : decode prog_114_method_8_code 6 = .ok (.iload_n 0, 1) := by decide +kernel
theorem d3_7 : decode prog_114_method_8_code 7 = .ok (.bipush 122, 2) := by decide +kernel
theorem d3_9 : decode prog_114_method_8_code 9 = .ok (.if_icmp .le 15, 3) := by decide +kernel
theorem d3_12 : decode prog_114_method_8_code 12 = .ok (.iload_n 0, 1) := by decide +kernel
theorem d3_13 : decode prog_114_method_8_code 13 = .ok (.bipush 65, 2) := by decide +kernel
theorem d3_15 : decode prog_114_method_8_code 15 = .ok (.if_icmp .lt 13, 3) := by decide +kernel
theorem d3_18 : decode prog_114_method_8_code 18 = .ok (.iload_n 0, 1) := by decide +kernel
theorem d3_19 : decode prog_114_method_8_code 19 = .ok (.bipush 90, 2) := by decide +kernel
theorem d3_21 : decode prog_114_method_8_code 21 = .ok (.if_icmp .gt 7, 3) := by decide +kernel
theorem d3_24 : decode prog_114_method_8_code 24 = .ok (.iconst 1, 1) := by decide +kernel
theorem d3_25 : decode prog_114_method_8_code 25 = .ok (.goto 4, 3) := by decide +kernel
theorem d3_28 : decode prog_114_method_8_code 28 = .ok (.iconst 0, 1) := by decide +kernel
theorem d3_29 : decode prog_114_method_8_code 29 = .ok (.ireturn, 1) := by decide +kernel
theorem pn_3 : plainName "arbordex/Syntax" = true := by first | (simp [plainName, overriddenIn]; done) | decide +kernel
theorem pf_3 : plainFor (⟨"arbordex/Syntax", "isAsciiLetter", "(I)Z"⟩ : MethodName) = true := plainFor_of_name pn_3
theorem ef_3 (m : MethodId) (x0 : Int32) : entryFrame m #[(.int x0)] 1 = mkF m 0 #[.val (.int x0)] [] := by first | (simp [entryFrame, mkF, argsToLocals, Value.category, maxLocals]; done) | rfl
def F3 (q1 : Int32) : Int32 := (if q1 < (97 : Int32) then (if q1 < (65 : Int32) then (0 : Int32) else (if (90 : Int32) < q1 then (0 : Int32) else (1 : Int32))) else (if (122 : Int32) < q1 then (if q1 < (65 : Int32) then (0 : Int32) else (if (90 : Int32) < q1 then (0 : Int32) else (1 : Int32))) else (1 : Int32)))
def Q3 (q1 : Int32) (h0 : Heap) (n0 : Nat) (v : Option Value) (h : Heap) (L : List Loc) : Prop := v = some (.int (F3 q1)) ∧ Fr n0 L ∧ h = h0
set_option maxRecDepth 65536 in
set_option maxHeartbeats 40000000 in
theorem rm3 (l : Launch) (Z : State) (a0 : Array Value) (hw : ∀ d ∈ tables_1, d.before a0 Z = true) (ws : List Jvm.Cond) (q1 : Int32) (h0 : Heap) (n0 : Nat) (Z0 : n0 ≤ h0.size)  :
    MetFree l (⟨"arbordex/Syntax", "isAsciiLetter", "(I)Z"⟩ : MethodName) (head1 (Jvm.Cond.code (⟨"arbordex/Syntax", "isAsciiLetter", "(I)Z"⟩ : MethodName) prog_114_method_8_code 1 (some .boolean) :: ws) ({ frames := 0, cells := 0, slots := 0, locals := 0 } : Room)) (fun a U => a = #[(.int q1)] ∧ Z.Warmed39 U.vm ∧ U.heap = h0) (fun _ _ _ _ _ => True) (fun _ U o U' => ∃ v L, o = .returned v ∧ Q3 q1 h0 n0 v U'.heap L ∧ FrameEnd U o U' L ({ frames := 0, cells := 0, slots := 0, locals := 0 } : Room).cells ({ frames := 0, cells := 0, slots := 0, locals := 0 } : Room).slots) := by
  refine MetFree.of_bodySF pf_3 hisR ?_
  intro p e s m args below meth c s₁ Bd hml0 hP hK
  obtain ⟨rfl, hZ, hh⟩ := hP
  have hx := Bd.exec
  have hby := Bd.bytes
  have hml : c.maxLocals = 1 := hml0
  have hown : s.vm.findClass "arbordex/Syntax" = some m.cls := findClass_of_methodNamed Bd.named
  have hnm := (name_of_methodNamed Bd.named Bd.method).1
  have X0 : Stand p l e ({ frames := 0, cells := 0, slots := 0, locals := 0 } : Room) s m #[(.int q1)] below meth c s₁ [] 0 0 := Stand.of_body Bd
  have e0 : s₁.heap = h0 := by rw [← hh, Bd.state]; rfl
  have N0 := Fr.nil n0
  have pre0 : ∀ t, Steps p.tables e below (s₁.setTop (mkF m 0 #[.val (.int q1)] [])) t → Steps p.tables e below (s₁.setTop (entryFrame m #[(.int q1)] 1)) t := fun t k => castTop (ef_3 m q1) k
  obtain ⟨fs, hr, hrun, hended, hW, hsame⟩ := X0.leave (v := some (.int (F3 q1))) (fun h => by rw [Bd.returns] at h; cases h)
  refine ⟨_, _, pre0 _ ?_, hrun, hended, _, _, rfl, ?_, ⟨_, rfl⟩, hW, hsame.mono (by decide) (by decide)⟩
  · show Steps p.tables e below (s₁.setTop (mkF m 0 #[.val (.int q1)] [])) _
    refine XS.iloadN X0.here hx rfl (hb hby d3_0) rfl ?_
    show Steps p.tables e below (s₁.setTop (mkF m 1 #[.val (.int q1)] [(.int q1)])) _
    refine XS.bipush X0.here hx rfl (hb hby d3_1) ?_
    show Steps p.tables e below (s₁.setTop (mkF m 3 #[.val (.int q1)] [(.int (97 : Int32)), (.int q1)])) _
    by_cases hc1 : q1 < (97 : Int32)
    · refine XS.icmpYes X0.here hx rfl (pc0 := 3) (pc' := 12) rfl (hb hby d3_3) rfl (tlt hc1).1 (by decide) (by decide) ?_
      show Steps p.tables e below (s₁.setTop (mkF m 12 #[.val (.int q1)] [])) _
      refine XS.iloadN X0.here hx rfl (hb hby d3_12) rfl ?_
      show Steps p.tables e below (s₁.setTop (mkF m 13 #[.val (.int q1)] [(.int q1)])) _
      refine XS.bipush X0.here hx rfl (hb hby d3_13) ?_
      show Steps p.tables e below (s₁.setTop (mkF m 15 #[.val (.int q1)] [(.int (65 : Int32)), (.int q1)])) _
      by_cases hc2 : q1 < (65 : Int32)
      · refine XS.icmpYes X0.here hx rfl (pc0 := 15) (pc' := 28) rfl (hb hby d3_15) rfl (tlt hc2).1 (by decide) (by decide) ?_
        show Steps p.tables e below (s₁.setTop (mkF m 28 #[.val (.int q1)] [])) _
        refine XS.iconst X0.here hx rfl (hb hby d3_28) ?_
        show Steps p.tables e below (s₁.setTop (mkF m 29 #[.val (.int q1)] [(.int (0 : Int32))])) _
        rw [show F3 q1 = (0 : Int32) from (if_pos hc1).trans ((if_pos hc2).trans rfl)] at hr
        exact retN X0 hx (t := .boolean) Bd.returns (by simp) (hb hby d3_29) hr
      · refine XS.icmpNo X0.here hx rfl (hb hby d3_15) rfl (flt hc2).1 ?_
        show Steps p.tables e below (s₁.setTop (mkF m 18 #[.val (.int q1)] [])) _
        refine XS.iloadN X0.here hx rfl (hb hby d3_18) rfl ?_
        show Steps p.tables e below (s₁.setTop (mkF m 19 #[.val (.int q1)] [(.int q1)])) _
        refine XS.bipush X0.here hx rfl (hb hby d3_19) ?_
        show Steps p.tables e below (s₁.setTop (mkF m 21 #[.val (.int q1)] [(.int (90 : Int32)), (.int q1)])) _
        by_cases hc3 : (90 : Int32) < q1
        · refine XS.icmpYes X0.here hx rfl (pc0 := 21) (pc' := 28) rfl (hb hby d3_21) rfl (tlt hc3).2.2.1 (by decide) (by decide) ?_
          show Steps p.tables e below (s₁.setTop (mkF m 28 #[.val (.int q1)] [])) _
          refine XS.iconst X0.here hx rfl (hb hby d3_28) ?_
          show Steps p.tables e below (s₁.setTop (mkF m 29 #[.val (.int q1)] [(.int (0 : Int32))])) _
          rw [show F3 q1 = (0 : Int32) from (if_pos hc1).trans ((if_neg hc2).trans ((if_pos hc3).trans rfl))] at hr
          exact retN X0 hx (t := .boolean) Bd.returns (by simp) (hb hby d3_29) hr
        · refine XS.icmpNo X0.here hx rfl (hb hby d3_21) rfl (flt hc3).2.2.1 ?_
          show Steps p.tables e below (s₁.setTop (mkF m 24 #[.val (.int q1)] [])) _
          refine XS.iconst X0.here hx rfl (hb hby d3_24) ?_
          show Steps p.tables e below (s₁.setTop (mkF m 25 #[.val (.int q1)] [(.int (1 : Int32))])) _
          refine XS.goto X0.here hx rfl (pc0 := 25) (pc' := 29) rfl (hb hby d3_25) (by decide) (by decide) ?_
          show Steps p.tables e below (s₁.setTop (mkF m 29 #[.val (.int q1)] [(.int (1 : Int32))])) _
          rw [show F3 q1 = (1 : Int32) from (if_pos hc1).trans ((if_neg hc2).trans ((if_neg hc3).trans rfl))] at hr
          exact retN X0 hx (t := .boolean) Bd.returns (by simp) (hb hby d3_29) hr
    · refine XS.icmpNo X0.here hx rfl (hb hby d3_3) rfl (flt hc1).1 ?_
      show Steps p.tables e below (s₁.setTop (mkF m 6 #[.val (.int q1)] [])) _
      refine XS.iloadN X0.here hx rfl (hb hby d3_6) rfl ?_
      show Steps p.tables e below (s₁.setTop (mkF m 7 #[.val (.int q1)] [(.int q1)])) _
      refine XS.bipush X0.here hx rfl (hb hby d3_7) ?_
      show Steps p.tables e below (s₁.setTop (mkF m 9 #[.val (.int q1)] [(.int (122 : Int32)), (.int q1)])) _
      by_cases hc4 : (122 : Int32) < q1
      · refine XS.icmpNo X0.here hx rfl (hb hby d3_9) rfl (tlt hc4).2.2.2 ?_
        show Steps p.tables e below (s₁.setTop (mkF m 12 #[.val (.int q1)] [])) _
        refine XS.iloadN X0.here hx rfl (hb hby d3_12) rfl ?_
        show Steps p.tables e below (s₁.setTop (mkF m 13 #[.val (.int q1)] [(.int q1)])) _
        refine XS.bipush X0.here hx rfl (hb hby d3_13) ?_
        show Steps p.tables e below (s₁.setTop (mkF m 15 #[.val (.int q1)] [(.int (65 : Int32)), (.int q1)])) _
        by_cases hc5 : q1 < (65 : Int32)
        · refine XS.icmpYes X0.here hx rfl (pc0 := 15) (pc' := 28) rfl (hb hby d3_15) rfl (tlt hc5).1 (by decide) (by decide) ?_
          show Steps p.tables e below (s₁.setTop (mkF m 28 #[.val (.int q1)] [])) _
          refine XS.iconst X0.here hx rfl (hb hby d3_28) ?_
          show Steps p.tables e below (s₁.setTop (mkF m 29 #[.val (.int q1)] [(.int (0 : Int32))])) _
          rw [show F3 q1 = (0 : Int32) from (if_neg hc1).trans ((if_pos hc4).trans ((if_pos hc5).trans rfl))] at hr
          exact retN X0 hx (t := .boolean) Bd.returns (by simp) (hb hby d3_29) hr
        · refine XS.icmpNo X0.here hx rfl (hb hby d3_15) rfl (flt hc5).1 ?_
          show Steps p.tables e below (s₁.setTop (mkF m 18 #[.val (.int q1)] [])) _
          refine XS.iloadN X0.here hx rfl (hb hby d3_18) rfl ?_
          show Steps p.tables e below (s₁.setTop (mkF m 19 #[.val (.int q1)] [(.int q1)])) _
          refine XS.bipush X0.here hx rfl (hb hby d3_19) ?_
          show Steps p.tables e below (s₁.setTop (mkF m 21 #[.val (.int q1)] [(.int (90 : Int32)), (.int q1)])) _
          by_cases hc6 : (90 : Int32) < q1
          · refine XS.icmpYes X0.here hx rfl (pc0 := 21) (pc' := 28) rfl (hb hby d3_21) rfl (tlt hc6).2.2.1 (by decide) (by decide) ?_
            show Steps p.tables e below (s₁.setTop (mkF m 28 #[.val (.int q1)] [])) _
            refine XS.iconst X0.here hx rfl (hb hby d3_28) ?_
            show Steps p.tables e below (s₁.setTop (mkF m 29 #[.val (.int q1)] [(.int (0 : Int32))])) _
            rw [show F3 q1 = (0 : Int32) from (if_neg hc1).trans ((if_pos hc4).trans ((if_neg hc5).trans ((if_pos hc6).trans rfl)))] at hr
            exact retN X0 hx (t := .boolean) Bd.returns (by simp) (hb hby d3_29) hr
          · refine XS.icmpNo X0.here hx rfl (hb hby d3_21) rfl (flt hc6).2.2.1 ?_
            show Steps p.tables e below (s₁.setTop (mkF m 24 #[.val (.int q1)] [])) _
            refine XS.iconst X0.here hx rfl (hb hby d3_24) ?_
            show Steps p.tables e below (s₁.setTop (mkF m 25 #[.val (.int q1)] [(.int (1 : Int32))])) _
            refine XS.goto X0.here hx rfl (pc0 := 25) (pc' := 29) rfl (hb hby d3_25) (by decide) (by decide) ?_
            show Steps p.tables e below (s₁.setTop (mkF m 29 #[.val (.int q1)] [(.int (1 : Int32))])) _
            rw [show F3 q1 = (1 : Int32) from (if_neg hc1).trans ((if_pos hc4).trans ((if_neg hc5).trans ((if_neg hc6).trans rfl)))] at hr
            exact retN X0 hx (t := .boolean) Bd.returns (by simp) (hb hby d3_29) hr
      · refine XS.icmpYes X0.here hx rfl (pc0 := 9) (pc' := 24) rfl (hb hby d3_9) rfl (flt hc4).2.2.2 (by decide) (by decide) ?_
        show Steps p.tables e below (s₁.setTop (mkF m 24 #[.val (.int q1)] [])) _
        refine XS.iconst X0.here hx rfl (hb hby d3_24) ?_
        show Steps p.tables e below (s₁.setTop (mkF m 25 #[.val (.int q1)] [(.int (1 : Int32))])) _
        refine XS.goto X0.here hx rfl (pc0 := 25) (pc' := 29) rfl (hb hby d3_25) (by decide) (by decide) ?_
        show Steps p.tables e below (s₁.setTop (mkF m 29 #[.val (.int q1)] [(.int (1 : Int32))])) _
        rw [show F3 q1 = (1 : Int32) from (if_neg hc1).trans ((if_neg hc4).trans rfl)] at hr
        exact retN X0 hx (t := .boolean) Bd.returns (by simp) (hb hby d3_29) hr
  · show Q3 q1 h0 n0 _ s₁.heap _
    rw [e0]
    exact ⟨rfl, N0, rfl⟩
theorem d2_0 : decode prog_114_method_7_code 0 = .ok (.iload_n 0, 1) := by decide +kernel
theorem d2_1 : decode prog_114_method_7_code 1 = .ok (.invokestatic 61, 3) := by decide +kernel
theorem d2_4 : decode prog_114_method_7_code 4 = .ok (.ifCond .ne 21, 3) := by decide +kernel
theorem d2_7 : decode prog_114_method_7_code 7 = .ok (.iload_n 0, 1) := by decide +kernel
theorem d2_8 : decode prog_114_method_7_code 8 = .ok (.bipush 48, 2) := by decide +kernel
theorem d2_10 : decode prog_114_method_7_code 10 = .ok (.if_icmp .lt 9, 3) := by decide +kernel
theorem d2_13 : decode prog_114_method_7_code 13 = .ok (.iload_n 0, 1) := by decide +kernel
theorem d2_14 : decode prog_114_method_7_code 14 = .ok (.bipush 57, 2) := by decide +kernel
theorem d2_16 : decode prog_114_method_7_code 16 = .ok (.if_icmp .le 9, 3) := by decide +kernel
theorem d2_19 : decode prog_114_method_7_code 19 = .ok (.iload_n 0, 1) := by decide +kernel
theorem d2_20 : decode prog_114_method_7_code 20 = .ok (.bipush 45, 2) := by decide +kernel
theorem d2_22 : decode prog_114_method_7_code 22 = .ok (.if_icmp .ne 7, 3) := by decide +kernel
theorem d2_25 : decode prog_114_method_7_code 25 = .ok (.iconst 1, 1) := by decide +kernel
theorem d2_26 : decode prog_114_method_7_code 26 = .ok (.goto 4, 3) := by decide +kernel
theorem d2_29 : decode prog_114_method_7_code 29 = .ok (.iconst 0, 1) := by decide +kernel
theorem d2_30 : decode prog_114_method_7_code 30 = .ok (.ireturn, 1) := by decide +kernel
theorem pn_2 : plainName "arbordex/Syntax" = true := by first | (simp [plainName, overriddenIn]; done) | decide +kernel
theorem pf_2 : plainFor (⟨"arbordex/Syntax", "isKeyChar", "(I)Z"⟩ : MethodName) = true := plainFor_of_name pn_2
theorem ef_2 (m : MethodId) (x0 : Int32) : entryFrame m #[(.int x0)] 1 = mkF m 0 #[.val (.int x0)] [] := by first | (simp [entryFrame, mkF, argsToLocals, Value.category, maxLocals]; done) | rfl
def F2 (q1 : Int32) : Int32 := (if (F3 q1) = (0 : Int32) then (if q1 < (48 : Int32) then (if q1 = (45 : Int32) then (1 : Int32) else (0 : Int32)) else (if (57 : Int32) < q1 then (if q1 = (45 : Int32) then (1 : Int32) else (0 : Int32)) else (1 : Int32))) else (1 : Int32))
def Q2 (q1 : Int32) (h0 : Heap) (n0 : Nat) (v : Option Value) (h : Heap) (L : List Loc) : Prop := v = some (.int (F2 q1)) ∧ Fr n0 L ∧ h = h0
set_option maxRecDepth 65536 in
set_option maxHeartbeats 40000000 in
theorem rm2 (l : Launch) (Z : State) (a0 : Array Value) (hw : ∀ d ∈ tables_1, d.before a0 Z = true) (ws : List Jvm.Cond) (q1 : Int32) (h0 : Heap) (n0 : Nat) (Z0 : n0 ≤ h0.size)  :
    MetFree l (⟨"arbordex/Syntax", "isKeyChar", "(I)Z"⟩ : MethodName) (head1 (Jvm.Cond.code (⟨"arbordex/Syntax", "isKeyChar", "(I)Z"⟩ : MethodName) prog_114_method_7_code 1 (some .boolean) :: ws) ({ frames := 1, cells := 0, slots := 0, locals := 12 } : Room)) (fun a U => a = #[(.int q1)] ∧ Z.Warmed39 U.vm ∧ U.heap = h0) (fun _ _ _ _ _ => True) (fun _ U o U' => ∃ v L, o = .returned v ∧ Q2 q1 h0 n0 v U'.heap L ∧ FrameEnd U o U' L ({ frames := 1, cells := 0, slots := 0, locals := 12 } : Room).cells ({ frames := 1, cells := 0, slots := 0, locals := 12 } : Room).slots) := by
  refine MetFree.of_bodySF pf_2 hisR ?_
  intro p e s m args below meth c s₁ Bd hml0 hP hK
  obtain ⟨rfl, hZ, hh⟩ := hP
  have hx := Bd.exec
  have hby := Bd.bytes
  have hml : c.maxLocals = 1 := hml0
  have hown : s.vm.findClass "arbordex/Syntax" = some m.cls := findClass_of_methodNamed Bd.named
  have hnm := (name_of_methodNamed Bd.named Bd.method).1
  have X0 : Stand p l e ({ frames := 1, cells := 0, slots := 0, locals := 12 } : Room) s m #[(.int q1)] below meth c s₁ [] 0 0 := Stand.of_body Bd
  have e0 : s₁.heap = h0 := by rw [← hh, Bd.state]; rfl
  have N0 := Fr.nil n0
  have pre0 : ∀ t, Steps p.tables e below (s₁.setTop (mkF m 0 #[.val (.int q1)] [])) t → Steps p.tables e below (s₁.setTop (entryFrame m #[(.int q1)] 1)) t := fun t k => castTop (ef_2 m q1) k
  obtain ⟨_, _, ⟨T1, L1, k1, n1⟩, -, X1, ⟨Lc1, hQ1, l1, y1, z1⟩, st1⟩ := Jvm.LawKit.callS X0 hx (y := (⟨"arbordex/Syntax", "isAsciiLetter", "(I)Z"⟩ : MethodName)) hown (mvT hZ (hw _ (List.mem_of_getElem? (i := 8) rfl))) (mvT hZ (hw _ (List.mem_of_getElem? (i := 9) rfl))) (mvT hZ (hw _ (List.mem_of_getElem? (i := 6) rfl))) (mvT hZ (hw _ (List.mem_of_getElem? (i := 10) rfl))) (by decide) (backOf (W := 0) (rm3 l Z a0 hw [] q1 h0 n0 Z0 ) hZ (hw _ (List.mem_of_getElem? (i := 10) rfl)) (hw _ (List.mem_of_getElem? (i := 6) rfl)) (by decide) (by decide)) (g := (mkF m 1 #[.val (.int q1)] [(.int q1)])) rfl (by rw [hml]; rfl) (argsL := [(.int q1)]) (rest := []) (lenOf pd_1 rfl) rfl (by show 2 * 0 + _ ≤ _; exact Nat.le_of_eq rfl) (hb hby d2_1) (fun _ _ => ⟨rfl, e0, (by decide : 0 + 0 ≤ _), (by decide : 0 + 0 ≤ _)⟩)
  dsimp only [Pt.U, Pt.locs, Pt.cells, Pt.slots] at X1 l1 y1 z1 st1 hQ1
  subst l1 y1 z1
  obtain ⟨rfl, N1q, e1⟩ := hQ1
  have N1 := Fr.app N0 N1q
  obtain ⟨fs, hr, hrun, hended, hW, hsame⟩ := X1.leave (v := some (.int (F2 q1))) (fun h => by rw [Bd.returns] at h; cases h)
  refine ⟨_, _, pre0 _ ?_, hrun, hended, _, _, rfl, ?_, ⟨_, rfl⟩, hW, hsame.mono (by decide) (by decide)⟩
  · show Steps p.tables e below (s₁.setTop (mkF m 0 #[.val (.int q1)] [])) _
    refine XS.iloadN X0.here hx rfl (hb hby d2_0) rfl ?_
    show Steps p.tables e below (s₁.setTop (mkF m 1 #[.val (.int q1)] [(.int q1)])) _
    refine st1 _ ?_
    show Steps p.tables e below (T1.setTop (mkF m 4 #[.val (.int q1)] [(.int (F3 q1))])) _
    by_cases hc1 : (F3 q1) = (0 : Int32)
    · refine XS.ifNo X1.here hx rfl (hb hby d2_4) rfl ((if0 _ _).trans (teq hc1).2) ?_
      show Steps p.tables e below (T1.setTop (mkF m 7 #[.val (.int q1)] [])) _
      refine XS.iloadN X1.here hx rfl (hb hby d2_7) rfl ?_
      show Steps p.tables e below (T1.setTop (mkF m 8 #[.val (.int q1)] [(.int q1)])) _
      refine XS.bipush X1.here hx rfl (hb hby d2_8) ?_
      show Steps p.tables e below (T1.setTop (mkF m 10 #[.val (.int q1)] [(.int (48 : Int32)), (.int q1)])) _
      by_cases hc2 : q1 < (48 : Int32)
      · refine XS.icmpYes X1.here hx rfl (pc0 := 10) (pc' := 19) rfl (hb hby d2_10) rfl (tlt hc2).1 (by decide) (by decide) ?_
        show Steps p.tables e below (T1.setTop (mkF m 19 #[.val (.int q1)] [])) _
        refine XS.iloadN X1.here hx rfl (hb hby d2_19) rfl ?_
        show Steps p.tables e below (T1.setTop (mkF m 20 #[.val (.int q1)] [(.int q1)])) _
        refine XS.bipush X1.here hx rfl (hb hby d2_20) ?_
        show Steps p.tables e below (T1.setTop (mkF m 22 #[.val (.int q1)] [(.int (45 : Int32)), (.int q1)])) _
        by_cases hc3 : q1 = (45 : Int32)
        · refine XS.icmpNo X1.here hx rfl (hb hby d2_22) rfl (teq hc3).2 ?_
          show Steps p.tables e below (T1.setTop (mkF m 25 #[.val (.int q1)] [])) _
          refine XS.iconst X1.here hx rfl (hb hby d2_25) ?_
          show Steps p.tables e below (T1.setTop (mkF m 26 #[.val (.int q1)] [(.int (1 : Int32))])) _
          refine XS.goto X1.here hx rfl (pc0 := 26) (pc' := 30) rfl (hb hby d2_26) (by decide) (by decide) ?_
          show Steps p.tables e below (T1.setTop (mkF m 30 #[.val (.int q1)] [(.int (1 : Int32))])) _
          rw [show F2 q1 = (1 : Int32) from (if_pos hc1).trans ((if_pos hc2).trans ((if_pos hc3).trans rfl))] at hr
          exact retN X1 hx (t := .boolean) Bd.returns (by simp) (hb hby d2_30) hr
        · refine XS.icmpYes X1.here hx rfl (pc0 := 22) (pc' := 29) rfl (hb hby d2_22) rfl (feq hc3).2 (by decide) (by decide) ?_
          show Steps p.tables e below (T1.setTop (mkF m 29 #[.val (.int q1)] [])) _
          refine XS.iconst X1.here hx rfl (hb hby d2_29) ?_
          show Steps p.tables e below (T1.setTop (mkF m 30 #[.val (.int q1)] [(.int (0 : Int32))])) _
          rw [show F2 q1 = (0 : Int32) from (if_pos hc1).trans ((if_pos hc2).trans ((if_neg hc3).trans rfl))] at hr
          exact retN X1 hx (t := .boolean) Bd.returns (by simp) (hb hby d2_30) hr
      · refine XS.icmpNo X1.here hx rfl (hb hby d2_10) rfl (flt hc2).1 ?_
        show Steps p.tables e below (T1.setTop (mkF m 13 #[.val (.int q1)] [])) _
        refine XS.iloadN X1.here hx rfl (hb hby d2_13) rfl ?_
        show Steps p.tables e below (T1.setTop (mkF m 14 #[.val (.int q1)] [(.int q1)])) _
        refine XS.bipush X1.here hx rfl (hb hby d2_14) ?_
        show Steps p.tables e below (T1.setTop (mkF m 16 #[.val (.int q1)] [(.int (57 : Int32)), (.int q1)])) _
        by_cases hc4 : (57 : Int32) < q1
        · refine XS.icmpNo X1.here hx rfl (hb hby d2_16) rfl (tlt hc4).2.2.2 ?_
          show Steps p.tables e below (T1.setTop (mkF m 19 #[.val (.int q1)] [])) _
          refine XS.iloadN X1.here hx rfl (hb hby d2_19) rfl ?_
          show Steps p.tables e below (T1.setTop (mkF m 20 #[.val (.int q1)] [(.int q1)])) _
          refine XS.bipush X1.here hx rfl (hb hby d2_20) ?_
          show Steps p.tables e below (T1.setTop (mkF m 22 #[.val (.int q1)] [(.int (45 : Int32)), (.int q1)])) _
          by_cases hc5 : q1 = (45 : Int32)
          · refine XS.icmpNo X1.here hx rfl (hb hby d2_22) rfl (teq hc5).2 ?_
            show Steps p.tables e below (T1.setTop (mkF m 25 #[.val (.int q1)] [])) _
            refine XS.iconst X1.here hx rfl (hb hby d2_25) ?_
            show Steps p.tables e below (T1.setTop (mkF m 26 #[.val (.int q1)] [(.int (1 : Int32))])) _
            refine XS.goto X1.here hx rfl (pc0 := 26) (pc' := 30) rfl (hb hby d2_26) (by decide) (by decide) ?_
            show Steps p.tables e below (T1.setTop (mkF m 30 #[.val (.int q1)] [(.int (1 : Int32))])) _
            rw [show F2 q1 = (1 : Int32) from (if_pos hc1).trans ((if_neg hc2).trans ((if_pos hc4).trans ((if_pos hc5).trans rfl)))] at hr
            exact retN X1 hx (t := .boolean) Bd.returns (by simp) (hb hby d2_30) hr
          · refine XS.icmpYes X1.here hx rfl (pc0 := 22) (pc' := 29) rfl (hb hby d2_22) rfl (feq hc5).2 (by decide) (by decide) ?_
            show Steps p.tables e below (T1.setTop (mkF m 29 #[.val (.int q1)] [])) _
            refine XS.iconst X1.here hx rfl (hb hby d2_29) ?_
            show Steps p.tables e below (T1.setTop (mkF m 30 #[.val (.int q1)] [(.int (0 : Int32))])) _
            rw [show F2 q1 = (0 : Int32) from (if_pos hc1).trans ((if_neg hc2).trans ((if_pos hc4).trans ((if_neg hc5).trans rfl)))] at hr
            exact retN X1 hx (t := .boolean) Bd.returns (by simp) (hb hby d2_30) hr
        · refine XS.icmpYes X1.here hx rfl (pc0 := 16) (pc' := 25) rfl (hb hby d2_16) rfl (flt hc4).2.2.2 (by decide) (by decide) ?_
          show Steps p.tables e below (T1.setTop (mkF m 25 #[.val (.int q1)] [])) _
          refine XS.iconst X1.here hx rfl (hb hby d2_25) ?_
          show Steps p.tables e below (T1.setTop (mkF m 26 #[.val (.int q1)] [(.int (1 : Int32))])) _
          refine XS.goto X1.here hx rfl (pc0 := 26) (pc' := 30) rfl (hb hby d2_26) (by decide) (by decide) ?_
          show Steps p.tables e below (T1.setTop (mkF m 30 #[.val (.int q1)] [(.int (1 : Int32))])) _
          rw [show F2 q1 = (1 : Int32) from (if_pos hc1).trans ((if_neg hc2).trans ((if_neg hc4).trans rfl))] at hr
          exact retN X1 hx (t := .boolean) Bd.returns (by simp) (hb hby d2_30) hr
    · refine XS.ifYes X1.here hx rfl (pc0 := 4) (pc' := 25) rfl (hb hby d2_4) rfl ((if0 _ _).trans (feq hc1).2) (by decide) (by decide) ?_
      show Steps p.tables e below (T1.setTop (mkF m 25 #[.val (.int q1)] [])) _
      refine XS.iconst X1.here hx rfl (hb hby d2_25) ?_
      show Steps p.tables e below (T1.setTop (mkF m 26 #[.val (.int q1)] [(.int (1 : Int32))])) _
      refine XS.goto X1.here hx rfl (pc0 := 26) (pc' := 30) rfl (hb hby d2_26) (by decide) (by decide) ?_
      show Steps p.tables e below (T1.setTop (mkF m 30 #[.val (.int q1)] [(.int (1 : Int32))])) _
      rw [show F2 q1 = (1 : Int32) from (if_neg hc1).trans rfl] at hr
      exact retN X1 hx (t := .boolean) Bd.returns (by simp) (hb hby d2_30) hr
  · show Q2 q1 h0 n0 _ T1.heap _
    rw [e1]
    exact ⟨rfl, N1, rfl⟩
theorem d4_0 : decode method_4_code 0 = .ok (.iload_n 0, 1) := by decide +kernel
theorem d4_1 : decode method_4_code 1 = .ok (.bipush 32, 2) := by decide +kernel
theorem d4_3 : decode method_4_code 3 = .ok (.ior, 1) := by decide +kernel
theorem d4_4 : decode method_4_code 4 = .ok (.i2l, 1) := by decide +kernel
theorem d4_5 : decode method_4_code 5 = .ok (.ldc2_w 22, 3) := by decide +kernel
theorem d4_8 : decode method_4_code 8 = .ok (.lsub, 1) := by decide +kernel
theorem d4_9 : decode method_4_code 9 = .ok (.lstore_n 1, 1) := by decide +kernel
theorem d4_10 : decode method_4_code 10 = .ok (.iload_n 0, 1) := by decide +kernel
theorem d4_11 : decode method_4_code 11 = .ok (.i2l, 1) := by decide +kernel
theorem d4_12 : decode method_4_code 12 = .ok (.ldc2_w 24, 3) := by decide +kernel
theorem d4_15 : decode method_4_code 15 = .ok (.lsub, 1) := by decide +kernel
theorem d4_16 : decode method_4_code 16 = .ok (.lstore_n 3, 1) := by decide +kernel
theorem d4_17 : decode method_4_code 17 = .ok (.lload_n 1, 1) := by decide +kernel
theorem d4_18 : decode method_4_code 18 = .ok (.lconst 0, 1) := by decide +kernel
theorem d4_19 : decode method_4_code 19 = .ok (.lcmp, 1) := by decide +kernel
theorem d4_20 : decode method_4_code 20 = .ok (.ifCond .lt 15, 3) := by decide +kernel
theorem d4_23 : decode method_4_code 23 = .ok (.lload_n 1, 1) := by decide +kernel
theorem d4_24 : decode method_4_code 24 = .ok (.ldc2_w 26, 3) := by decide +kernel
theorem d4_27 : decode method_4_code 27 = .ok (.lcmp, 1) := by decide +kernel
theorem d4_28 : decode method_4_code 28 = .ok (.ifCond .ge 7, 3) := by decide +kernel
theorem d4_31 : decode method_4_code 31 = .ok (.iconst 1, 1) := by decide +kernel
theorem d4_32 : decode method_4_code 32 = .ok (.goto 4, 3) := by decide +kernel
theorem d4_35 : decode method_4_code 35 = .ok (.iconst 0, 1) := by decide +kernel
theorem d4_36 : decode method_4_code 36 = .ok (.istore 5, 2) := by decide +kernel
theorem d4_38 : decode method_4_code 38 = .ok (.lload_n 3, 1) := by decide +kernel
theorem d4_39 : decode method_4_code 39 = .ok (.lconst 0, 1) := by decide +kernel
theorem d4_40 : decode method_4_code 40 = .ok (.lcmp, 1) := by decide +kernel
theorem d4_41 : decode method_4_code 41 = .ok (.ifCond .lt 15, 3) := by decide +kernel
theorem d4_44 : decode method_4_code 44 = .ok (.lload_n 3, 1) := by decide +kernel
theorem d4_45 : decode method_4_code 45 = .ok (.ldc2_w 28, 3) := by decide +kernel
theorem d4_48 : decode method_4_code 48 = .ok (.lcmp, 1) := by decide +kernel
theorem d4_49 : decode method_4_code 49 = .ok (.ifCond .ge 7, 3) := by decide +kernel
theorem d4_52 : decode method_4_code 52 = .ok (.iconst 1, 1) := by decide +kernel
theorem d4_53 : decode method_4_code 53 = .ok (.goto 4, 3) := by decide +kernel
theorem d4_56 : decode method_4_code 56 = .ok (.iconst 0, 1) := by decide +kernel
theorem d4_57 : decode method_4_code 57 = .ok (.istore 6, 2) := by decide +kernel
theorem d4_59 : decode method_4_code 59 = .ok (.iload_n 0, 1) := by decide +kernel
theorem d4_60 : decode method_4_code 60 = .ok (.bipush 45, 2) := by decide +kernel
theorem d4_62 : decode method_4_code 62 = .ok (.if_icmp .ne 7, 3) := by decide +kernel
theorem d4_65 : decode method_4_code 65 = .ok (.iconst 1, 1) := by decide +kernel
theorem d4_66 : decode method_4_code 66 = .ok (.goto 4, 3) := by decide +kernel
theorem d4_69 : decode method_4_code 69 = .ok (.iconst 0, 1) := by decide +kernel
theorem d4_70 : decode method_4_code 70 = .ok (.istore 7, 2) := by decide +kernel
theorem d4_72 : decode method_4_code 72 = .ok (.iload 5, 2) := by decide +kernel
theorem d4_74 : decode method_4_code 74 = .ok (.ifCond .ne 13, 3) := by decide +kernel
theorem d4_77 : decode method_4_code 77 = .ok (.iload 6, 2) := by decide +kernel
theorem d4_79 : decode method_4_code 79 = .ok (.ifCond .ne 8, 3) := by decide +kernel
theorem d4_82 : decode method_4_code 82 = .ok (.iload 7, 2) := by decide +kernel
theorem d4_84 : decode method_4_code 84 = .ok (.ifCond .eq 7, 3) := by decide +kernel
theorem d4_87 : decode method_4_code 87 = .ok (.iconst 1, 1) := by decide +kernel
theorem d4_88 : decode method_4_code 88 = .ok (.goto 4, 3) := by decide +kernel
theorem d4_91 : decode method_4_code 91 = .ok (.iconst 0, 1) := by decide +kernel
theorem d4_92 : decode method_4_code 92 = .ok (.ireturn, 1) := by decide +kernel
theorem pn_4 : plainName "arbordex/SyntaxIsKeyCharPinLaw" = true := by first | (simp [plainName, overriddenIn]; done) | decide +kernel
theorem pf_4 : plainFor (⟨"arbordex/SyntaxIsKeyCharPinLaw", "expected", "(I)Z"⟩ : MethodName) = true := plainFor_of_name pn_4
theorem ef_4 (m : MethodId) (x0 : Int32) : entryFrame m #[(.int x0)] 8 = mkF m 0 #[.val (.int x0), .unset, .unset, .unset, .unset, .unset, .unset, .unset] [] := by first | (simp [entryFrame, mkF, argsToLocals, Value.category, maxLocals]; done) | rfl
def F4 (q1 : Int32) : Int32 := (if (lcmpW (((q1 ||| (32 : Int32)).toInt64) - (97 : Int64)) (0 : Int64)) < (0 : Int32) then (if (lcmpW ((q1.toInt64) - (48 : Int64)) (0 : Int64)) < (0 : Int32) then (if q1 = (45 : Int32) then (1 : Int32) else (0 : Int32)) else (if (lcmpW ((q1.toInt64) - (48 : Int64)) (10 : Int64)) < (0 : Int32) then (if q1 = (45 : Int32) then (1 : Int32) else (1 : Int32)) else (if q1 = (45 : Int32) then (1 : Int32) else (0 : Int32)))) else (if (lcmpW (((q1 ||| (32 : Int32)).toInt64) - (97 : Int64)) (26 : Int64)) < (0 : Int32) then (if (lcmpW ((q1.toInt64) - (48 : Int64)) (0 : Int64)) < (0 : Int32) then (if q1 = (45 : Int32) then (1 : Int32) else (1 : Int32)) else (if (lcmpW ((q1.toInt64) - (48 : Int64)) (10 : Int64)) < (0 : Int32) then (if q1 = (45 : Int32) then (1 : Int32) else (1 : Int32)) else (if q1 = (45 : Int32) then (1 : Int32) else (1 : Int32)))) else (if (lcmpW ((q1.toInt64) - (48 : Int64)) (0 : Int64)) < (0 : Int32) then (if q1 = (45 : Int32) then (1 : Int32) else (0 : Int32)) else (if (lcmpW ((q1.toInt64) - (48 : Int64)) (10 : Int64)) < (0 : Int32) then (if q1 = (45 : Int32) then (1 : Int32) else (1 : Int32)) else (if q1 = (45 : Int32) then (1 : Int32) else (0 : Int32))))))
def Q4 (q1 : Int32) (h0 : Heap) (n0 : Nat) (v : Option Value) (h : Heap) (L : List Loc) : Prop := v = some (.int (F4 q1)) ∧ Fr n0 L ∧ h = h0
set_option maxRecDepth 65536 in
set_option maxHeartbeats 40000000 in
theorem rm4 (l : Launch) (Z : State) (a0 : Array Value) (hw : ∀ d ∈ tables_1, d.before a0 Z = true) (ws : List Jvm.Cond) (q1 : Int32) (h0 : Heap) (n0 : Nat) (Z0 : n0 ≤ h0.size)  :
    MetFree l (⟨"arbordex/SyntaxIsKeyCharPinLaw", "expected", "(I)Z"⟩ : MethodName) (head1 (Jvm.Cond.code (⟨"arbordex/SyntaxIsKeyCharPinLaw", "expected", "(I)Z"⟩ : MethodName) method_4_code 8 (some .boolean) :: ws) ({ frames := 0, cells := 0, slots := 0, locals := 0 } : Room)) (fun a U => a = #[(.int q1)] ∧ Z.Warmed39 U.vm ∧ U.heap = h0) (fun _ _ _ _ _ => True) (fun _ U o U' => ∃ v L, o = .returned v ∧ Q4 q1 h0 n0 v U'.heap L ∧ FrameEnd U o U' L ({ frames := 0, cells := 0, slots := 0, locals := 0 } : Room).cells ({ frames := 0, cells := 0, slots := 0, locals := 0 } : Room).slots) := by
  refine MetFree.of_bodySF pf_4 hisR ?_
  intro p e s m args below meth c s₁ Bd hml0 hP hK
  obtain ⟨rfl, hZ, hh⟩ := hP
  have hx := Bd.exec
  have hby := Bd.bytes
  have hml : c.maxLocals = 8 := hml0
  have hown : s.vm.findClass "arbordex/SyntaxIsKeyCharPinLaw" = some m.cls := findClass_of_methodNamed Bd.named
  have hnm := (name_of_methodNamed Bd.named Bd.method).1
  have X0 : Stand p l e ({ frames := 0, cells := 0, slots := 0, locals := 0 } : Room) s m #[(.int q1)] below meth c s₁ [] 0 0 := Stand.of_body Bd
  have e0 : s₁.heap = h0 := by rw [← hh, Bd.state]; rfl
  have N0 := Fr.nil n0
  have pre0 : ∀ t, Steps p.tables e below (s₁.setTop (mkF m 0 #[.val (.int q1), .unset, .unset, .unset, .unset, .unset, .unset, .unset] [])) t → Steps p.tables e below (s₁.setTop (entryFrame m #[(.int q1)] 8)) t := fun t k => castTop (ef_4 m q1) k
  obtain ⟨fs, hr, hrun, hended, hW, hsame⟩ := X0.leave (v := some (.int (F4 q1))) (fun h => by rw [Bd.returns] at h; cases h)
  refine ⟨_, _, pre0 _ ?_, hrun, hended, _, _, rfl, ?_, ⟨_, rfl⟩, hW, hsame.mono (by decide) (by decide)⟩
  · show Steps p.tables e below (s₁.setTop (mkF m 0 #[.val (.int q1), .unset, .unset, .unset, .unset, .unset, .unset, .unset] [])) _
    refine XS.iloadN X0.here hx rfl (hb hby d4_0) rfl ?_
    show Steps p.tables e below (s₁.setTop (mkF m 1 #[.val (.int q1), .unset, .unset, .unset, .unset, .unset, .unset, .unset] [(.int q1)])) _
    refine XS.bipush X0.here hx rfl (hb hby d4_1) ?_
    show Steps p.tables e below (s₁.setTop (mkF m 3 #[.val (.int q1), .unset, .unset, .unset, .unset, .unset, .unset, .unset] [(.int (32 : Int32)), (.int q1)])) _
    refine XS.ior X0.here hx rfl (hb hby d4_3) rfl ?_
    show Steps p.tables e below (s₁.setTop (mkF m 4 #[.val (.int q1), .unset, .unset, .unset, .unset, .unset, .unset, .unset] [(.int (q1 ||| (32 : Int32)))])) _
    refine XS.i2l X0.here hx rfl (hb hby d4_4) rfl ?_
    show Steps p.tables e below (s₁.setTop (mkF m 5 #[.val (.int q1), .unset, .unset, .unset, .unset, .unset, .unset, .unset] [(.long ((q1 ||| (32 : Int32)).toInt64))])) _
    refine X0.ldc2Long hx hown (mvT hZ (hw _ (List.mem_of_getElem? (i := 14) rfl))) (g := (mkF m 5 #[.val (.int q1), .unset, .unset, .unset, .unset, .unset, .unset, .unset] [(.long ((q1 ||| (32 : Int32)).toInt64))])) rfl (hb hby d4_5) _ ?_
    show Steps p.tables e below (s₁.setTop (mkF m 8 #[.val (.int q1), .unset, .unset, .unset, .unset, .unset, .unset, .unset] [(.long (97 : Int64)), (.long ((q1 ||| (32 : Int32)).toInt64))])) _
    refine XS.lsub X0.here hx rfl (hb hby d4_8) rfl ?_
    show Steps p.tables e below (s₁.setTop (mkF m 9 #[.val (.int q1), .unset, .unset, .unset, .unset, .unset, .unset, .unset] [(.long (((q1 ||| (32 : Int32)).toInt64) - (97 : Int64)))])) _
    refine XS.lstoreN X0.here hx rfl (hb hby d4_9) rfl (l' := #[.val (.int q1), .val (.long (((q1 ||| (32 : Int32)).toInt64) - (97 : Int64))), .second, .unset, .unset, .unset, .unset, .unset]) rfl ?_
    show Steps p.tables e below (s₁.setTop (mkF m 10 #[.val (.int q1), .val (.long (((q1 ||| (32 : Int32)).toInt64) - (97 : Int64))), .second, .unset, .unset, .unset, .unset, .unset] [])) _
    refine XS.iloadN X0.here hx rfl (hb hby d4_10) rfl ?_
    show Steps p.tables e below (s₁.setTop (mkF m 11 #[.val (.int q1), .val (.long (((q1 ||| (32 : Int32)).toInt64) - (97 : Int64))), .second, .unset, .unset, .unset, .unset, .unset] [(.int q1)])) _
    refine XS.i2l X0.here hx rfl (hb hby d4_11) rfl ?_
    show Steps p.tables e below (s₁.setTop (mkF m 12 #[.val (.int q1), .val (.long (((q1 ||| (32 : Int32)).toInt64) - (97 : Int64))), .second, .unset, .unset, .unset, .unset, .unset] [(.long (q1.toInt64))])) _
    refine X0.ldc2Long hx hown (mvT hZ (hw _ (List.mem_of_getElem? (i := 15) rfl))) (g := (mkF m 12 #[.val (.int q1), .val (.long (((q1 ||| (32 : Int32)).toInt64) - (97 : Int64))), .second, .unset, .unset, .unset, .unset, .unset] [(.long (q1.toInt64))])) rfl (hb hby d4_12) _ ?_
    show Steps p.tables e below (s₁.setTop (mkF m 15 #[.val (.int q1), .val (.long (((q1 ||| (32 : Int32)).toInt64) - (97 : Int64))), .second, .unset, .unset, .unset, .unset, .unset] [(.long (48 : Int64)), (.long (q1.toInt64))])) _
    refine XS.lsub X0.here hx rfl (hb hby d4_15) rfl ?_
    show Steps p.tables e below (s₁.setTop (mkF m 16 #[.val (.int q1), .val (.long (((q1 ||| (32 : Int32)).toInt64) - (97 : Int64))), .second, .unset, .unset, .unset, .unset, .unset] [(.long ((q1.toInt64) - (48 : Int64)))])) _
    refine XS.lstoreN X0.here hx rfl (hb hby d4_16) rfl (l' := #[.val (.int q1), .val (.long (((q1 ||| (32 : Int32)).toInt64) - (97 : Int64))), .second, .val (.long ((q1.toInt64) - (48 : Int64))), .second, .unset, .unset, .unset]) rfl ?_
    show Steps p.tables e below (s₁.setTop (mkF m 17 #[.val (.int q1), .val (.long (((q1 ||| (32 : Int32)).toInt64) - (97 : Int64))), .second, .val (.long ((q1.toInt64) - (48 : Int64))), .second, .unset, .unset, .unset] [])) _
    refine XS.lloadN X0.here hx rfl (hb hby d4_17) rfl ?_
    show Steps p.tables e below (s₁.setTop (mkF m 18 #[.val (.int q1), .val (.long (((q1 ||| (32 : Int32)).toInt64) - (97 : Int64))), .second, .val (.long ((q1.toInt64) - (48 : Int64))), .second, .unset, .unset, .unset] [(.long (((q1 ||| (32 : Int32)).toInt64) - (97 : Int64)))])) _
    refine XS.lconst X0.here hx rfl (hb hby d4_18) ?_
    show Steps p.tables e below (s₁.setTop (mkF m 19 #[.val (.int q1), .val (.long (((q1 ||| (32 : Int32)).toInt64) - (97 : Int64))), .second, .val (.long ((q1.toInt64) - (48 : Int64))), .second, .unset, .unset, .unset] [(.long (0 : Int64)), (.long (((q1 ||| (32 : Int32)).toInt64) - (97 : Int64)))])) _
    refine XS.lcmp X0.here hx rfl (hb hby d4_19) rfl ?_
    show Steps p.tables e below (s₁.setTop (mkF m 20 #[.val (.int q1), .val (.long (((q1 ||| (32 : Int32)).toInt64) - (97 : Int64))), .second, .val (.long ((q1.toInt64) - (48 : Int64))), .second, .unset, .unset, .unset] [(.int (lcmpW (((q1 ||| (32 : Int32)).toInt64) - (97 : Int64)) (0 : Int64)))])) _
    by_cases hc1 : (lcmpW (((q1 ||| (32 : Int32)).toInt64) - (97 : Int64)) (0 : Int64)) < (0 : Int32)
    · refine XS.ifYes X0.here hx rfl (pc0 := 20) (pc' := 35) rfl (hb hby d4_20) rfl ((if0 _ _).trans (tlt hc1).1) (by decide) (by decide) ?_
      show Steps p.tables e below (s₁.setTop (mkF m 35 #[.val (.int q1), .val (.long (((q1 ||| (32 : Int32)).toInt64) - (97 : Int64))), .second, .val (.long ((q1.toInt64) - (48 : Int64))), .second, .unset, .unset, .unset] [])) _
      refine XS.iconst X0.here hx rfl (hb hby d4_35) ?_
      show Steps p.tables e below (s₁.setTop (mkF m 36 #[.val (.int q1), .val (.long (((q1 ||| (32 : Int32)).toInt64) - (97 : Int64))), .second, .val (.long ((q1.toInt64) - (48 : Int64))), .second, .unset, .unset, .unset] [(.int (0 : Int32))])) _
      refine XS.istore X0.here hx rfl (hb hby d4_36) rfl (l' := #[.val (.int q1), .val (.long (((q1 ||| (32 : Int32)).toInt64) - (97 : Int64))), .second, .val (.long ((q1.toInt64) - (48 : Int64))), .second, .val (.int (0 : Int32)), .unset, .unset]) rfl ?_
      show Steps p.tables e below (s₁.setTop (mkF m 38 #[.val (.int q1), .val (.long (((q1 ||| (32 : Int32)).toInt64) - (97 : Int64))), .second, .val (.long ((q1.toInt64) - (48 : Int64))), .second, .val (.int (0 : Int32)), .unset, .unset] [])) _
      refine XS.lloadN X0.here hx rfl (hb hby d4_38) rfl ?_
      show Steps p.tables e below (s₁.setTop (mkF m 39 #[.val (.int q1), .val (.long (((q1 ||| (32 : Int32)).toInt64) - (97 : Int64))), .second, .val (.long ((q1.toInt64) - (48 : Int64))), .second, .val (.int (0 : Int32)), .unset, .unset] [(.long ((q1.toInt64) - (48 : Int64)))])) _
      refine XS.lconst X0.here hx rfl (hb hby d4_39) ?_
      show Steps p.tables e below (s₁.setTop (mkF m 40 #[.val (.int q1), .val (.long (((q1 ||| (32 : Int32)).toInt64) - (97 : Int64))), .second, .val (.long ((q1.toInt64) - (48 : Int64))), .second, .val (.int (0 : Int32)), .unset, .unset] [(.long (0 : Int64)), (.long ((q1.toInt64) - (48 : Int64)))])) _
      refine XS.lcmp X0.here hx rfl (hb hby d4_40) rfl ?_
      show Steps p.tables e below (s₁.setTop (mkF m 41 #[.val (.int q1), .val (.long (((q1 ||| (32 : Int32)).toInt64) - (97 : Int64))), .second, .val (.long ((q1.toInt64) - (48 : Int64))), .second, .val (.int (0 : Int32)), .unset, .unset] [(.int (lcmpW ((q1.toInt64) - (48 : Int64)) (0 : Int64)))])) _
      by_cases hc2 : (lcmpW ((q1.toInt64) - (48 : Int64)) (0 : Int64)) < (0 : Int32)
      · refine XS.ifYes X0.here hx rfl (pc0 := 41) (pc' := 56) rfl (hb hby d4_41) rfl ((if0 _ _).trans (tlt hc2).1) (by decide) (by decide) ?_
        show Steps p.tables e below (s₁.setTop (mkF m 56 #[.val (.int q1), .val (.long (((q1 ||| (32 : Int32)).toInt64) - (97 : Int64))), .second, .val (.long ((q1.toInt64) - (48 : Int64))), .second, .val (.int (0 : Int32)), .unset, .unset] [])) _
        refine XS.iconst X0.here hx rfl (hb hby d4_56) ?_
        show Steps p.tables e below (s₁.setTop (mkF m 57 #[.val (.int q1), .val (.long (((q1 ||| (32 : Int32)).toInt64) - (97 : Int64))), .second, .val (.long ((q1.toInt64) - (48 : Int64))), .second, .val (.int (0 : Int32)), .unset, .unset] [(.int (0 : Int32))])) _
        refine XS.istore X0.here hx rfl (hb hby d4_57) rfl (l' := #[.val (.int q1), .val (.long (((q1 ||| (32 : Int32)).toInt64) - (97 : Int64))), .second, .val (.long ((q1.toInt64) - (48 : Int64))), .second, .val (.int (0 : Int32)), .val (.int (0 : Int32)), .unset]) rfl ?_
        show Steps p.tables e below (s₁.setTop (mkF m 59 #[.val (.int q1), .val (.long (((q1 ||| (32 : Int32)).toInt64) - (97 : Int64))), .second, .val (.long ((q1.toInt64) - (48 : Int64))), .second, .val (.int (0 : Int32)), .val (.int (0 : Int32)), .unset] [])) _
        refine XS.iloadN X0.here hx rfl (hb hby d4_59) rfl ?_
        show Steps p.tables e below (s₁.setTop (mkF m 60 #[.val (.int q1), .val (.long (((q1 ||| (32 : Int32)).toInt64) - (97 : Int64))), .second, .val (.long ((q1.toInt64) - (48 : Int64))), .second, .val (.int (0 : Int32)), .val (.int (0 : Int32)), .unset] [(.int q1)])) _
        refine XS.bipush X0.here hx rfl (hb hby d4_60) ?_
        show Steps p.tables e below (s₁.setTop (mkF m 62 #[.val (.int q1), .val (.long (((q1 ||| (32 : Int32)).toInt64) - (97 : Int64))), .second, .val (.long ((q1.toInt64) - (48 : Int64))), .second, .val (.int (0 : Int32)), .val (.int (0 : Int32)), .unset] [(.int (45 : Int32)), (.int q1)])) _
        by_cases hc3 : q1 = (45 : Int32)
        · refine XS.icmpNo X0.here hx rfl (hb hby d4_62) rfl (teq hc3).2 ?_
          show Steps p.tables e below (s₁.setTop (mkF m 65 #[.val (.int q1), .val (.long (((q1 ||| (32 : Int32)).toInt64) - (97 : Int64))), .second, .val (.long ((q1.toInt64) - (48 : Int64))), .second, .val (.int (0 : Int32)), .val (.int (0 : Int32)), .unset] [])) _
          refine XS.iconst X0.here hx rfl (hb hby d4_65) ?_
          show Steps p.tables e below (s₁.setTop (mkF m 66 #[.val (.int q1), .val (.long (((q1 ||| (32 : Int32)).toInt64) - (97 : Int64))), .second, .val (.long ((q1.toInt64) - (48 : Int64))), .second, .val (.int (0 : Int32)), .val (.int (0 : Int32)), .unset] [(.int (1 : Int32))])) _
          refine XS.goto X0.here hx rfl (pc0 := 66) (pc' := 70) rfl (hb hby d4_66) (by decide) (by decide) ?_
          show Steps p.tables e below (s₁.setTop (mkF m 70 #[.val (.int q1), .val (.long (((q1 ||| (32 : Int32)).toInt64) - (97 : Int64))), .second, .val (.long ((q1.toInt64) - (48 : Int64))), .second, .val (.int (0 : Int32)), .val (.int (0 : Int32)), .unset] [(.int (1 : Int32))])) _
          refine XS.istore X0.here hx rfl (hb hby d4_70) rfl (l' := #[.val (.int q1), .val (.long (((q1 ||| (32 : Int32)).toInt64) - (97 : Int64))), .second, .val (.long ((q1.toInt64) - (48 : Int64))), .second, .val (.int (0 : Int32)), .val (.int (0 : Int32)), .val (.int (1 : Int32))]) rfl ?_
          show Steps p.tables e below (s₁.setTop (mkF m 72 #[.val (.int q1), .val (.long (((q1 ||| (32 : Int32)).toInt64) - (97 : Int64))), .second, .val (.long ((q1.toInt64) - (48 : Int64))), .second, .val (.int (0 : Int32)), .val (.int (0 : Int32)), .val (.int (1 : Int32))] [])) _
          refine XS.iload X0.here hx rfl (hb hby d4_72) rfl ?_
          show Steps p.tables e below (s₁.setTop (mkF m 74 #[.val (.int q1), .val (.long (((q1 ||| (32 : Int32)).toInt64) - (97 : Int64))), .second, .val (.long ((q1.toInt64) - (48 : Int64))), .second, .val (.int (0 : Int32)), .val (.int (0 : Int32)), .val (.int (1 : Int32))] [(.int (0 : Int32))])) _
          refine XS.ifNo X0.here hx rfl (hb hby d4_74) rfl ((if0 _ _).trans (teq (by decide : (0 : Int32) = (0 : Int32))).2) ?_
          show Steps p.tables e below (s₁.setTop (mkF m 77 #[.val (.int q1), .val (.long (((q1 ||| (32 : Int32)).toInt64) - (97 : Int64))), .second, .val (.long ((q1.toInt64) - (48 : Int64))), .second, .val (.int (0 : Int32)), .val (.int (0 : Int32)), .val (.int (1 : Int32))] [])) _
          refine XS.iload X0.here hx rfl (hb hby d4_77) rfl ?_
          show Steps p.tables e below (s₁.setTop (mkF m 79 #[.val (.int q1), .val (.long (((q1 ||| (32 : Int32)).toInt64) - (97 : Int64))), .second, .val (.long ((q1.toInt64) - (48 : Int64))), .second, .val (.int (0 : Int32)), .val (.int (0 : Int32)), .val (.int (1 : Int32))] [(.int (0 : Int32))])) _
          refine XS.ifNo X0.here hx rfl (hb hby d4_79) rfl ((if0 _ _).trans (teq (by decide : (0 : Int32) = (0 : Int32))).2) ?_
          show Steps p.tables e below (s₁.setTop (mkF m 82 #[.val (.int q1), .val (.long (((q1 ||| (32 : Int32)).toInt64) - (97 : Int64))), .second, .val (.long ((q1.toInt64) - (48 : Int64))), .second, .val (.int (0 : Int32)), .val (.int (0 : Int32)), .val (.int (1 : Int32))] [])) _
          refine XS.iload X0.here hx rfl (hb hby d4_82) rfl ?_
          show Steps p.tables e below (s₁.setTop (mkF m 84 #[.val (.int q1), .val (.long (((q1 ||| (32 : Int32)).toInt64) - (97 : Int64))), .second, .val (.long ((q1.toInt64) - (48 : Int64))), .second, .val (.int (0 : Int32)), .val (.int (0 : Int32)), .val (.int (1 : Int32))] [(.int (1 : Int32))])) _
          refine XS.ifNo X0.here hx rfl (hb hby d4_84) rfl ((if0 _ _).trans (feq (by decide : ¬ ((1 : Int32) = (0 : Int32)))).1) ?_
          show Steps p.tables e below (s₁.setTop (mkF m 87 #[.val (.int q1), .val (.long (((q1 ||| (32 : Int32)).toInt64) - (97 : Int64))), .second, .val (.long ((q1.toInt64) - (48 : Int64))), .second, .val (.int (0 : Int32)), .val (.int (0 : Int32)), .val (.int (1 : Int32))] [])) _
          refine XS.iconst X0.here hx rfl (hb hby d4_87) ?_
          show Steps p.tables e below (s₁.setTop (mkF m 88 #[.val (.int q1), .val (.long (((q1 ||| (32 : Int32)).toInt64) - (97 : Int64))), .second, .val (.long ((q1.toInt64) - (48 : Int64))), .second, .val (.int (0 : Int32)), .val (.int (0 : Int32)), .val (.int (1 : Int32))] [(.int (1 : Int32))])) _
          refine XS.goto X0.here hx rfl (pc0 := 88) (pc' := 92) rfl (hb hby d4_88) (by decide) (by decide) ?_
          show Steps p.tables e below (s₁.setTop (mkF m 92 #[.val (.int q1), .val (.long (((q1 ||| (32 : Int32)).toInt64) - (97 : Int64))), .second, .val (.long ((q1.toInt64) - (48 : Int64))), .second, .val (.int (0 : Int32)), .val (.int (0 : Int32)), .val (.int (1 : Int32))] [(.int (1 : Int32))])) _
          rw [show F4 q1 = (1 : Int32) from (if_pos hc1).trans ((if_pos hc2).trans ((if_pos hc3).trans rfl))] at hr
          exact retN X0 hx (t := .boolean) Bd.returns (by simp) (hb hby d4_92) hr
        · refine XS.icmpYes X0.here hx rfl (pc0 := 62) (pc' := 69) rfl (hb hby d4_62) rfl (feq hc3).2 (by decide) (by decide) ?_
          show Steps p.tables e below (s₁.setTop (mkF m 69 #[.val (.int q1), .val (.long (((q1 ||| (32 : Int32)).toInt64) - (97 : Int64))), .second, .val (.long ((q1.toInt64) - (48 : Int64))), .second, .val (.int (0 : Int32)), .val (.int (0 : Int32)), .unset] [])) _
          refine XS.iconst X0.here hx rfl (hb hby d4_69) ?_
          show Steps p.tables e below (s₁.setTop (mkF m 70 #[.val (.int q1), .val (.long (((q1 ||| (32 : Int32)).toInt64) - (97 : Int64))), .second, .val (.long ((q1.toInt64) - (48 : Int64))), .second, .val (.int (0 : Int32)), .val (.int (0 : Int32)), .unset] [(.int (0 : Int32))])) _
          refine XS.istore X0.here hx rfl (hb hby d4_70) rfl (l' := #[.val (.int q1), .val (.long (((q1 ||| (32 : Int32)).toInt64) - (97 : Int64))), .second, .val (.long ((q1.toInt64) - (48 : Int64))), .second, .val (.int (0 : Int32)), .val (.int (0 : Int32)), .val (.int (0 : Int32))]) rfl ?_
          show Steps p.tables e below (s₁.setTop (mkF m 72 #[.val (.int q1), .val (.long (((q1 ||| (32 : Int32)).toInt64) - (97 : Int64))), .second, .val (.long ((q1.toInt64) - (48 : Int64))), .second, .val (.int (0 : Int32)), .val (.int (0 : Int32)), .val (.int (0 : Int32))] [])) _
          refine XS.iload X0.here hx rfl (hb hby d4_72) rfl ?_
          show Steps p.tables e below (s₁.setTop (mkF m 74 #[.val (.int q1), .val (.long (((q1 ||| (32 : Int32)).toInt64) - (97 : Int64))), .second, .val (.long ((q1.toInt64) - (48 : Int64))), .second, .val (.int (0 : Int32)), .val (.int (0 : Int32)), .val (.int (0 : Int32))] [(.int (0 : Int32))])) _
          refine XS.ifNo X0.here hx rfl (hb hby d4_74) rfl ((if0 _ _).trans (teq (by decide : (0 : Int32) = (0 : Int32))).2) ?_
          show Steps p.tables e below (s₁.setTop (mkF m 77 #[.val (.int q1), .val (.long (((q1 ||| (32 : Int32)).toInt64) - (97 : Int64))), .second, .val (.long ((q1.toInt64) - (48 : Int64))), .second, .val (.int (0 : Int32)), .val (.int (0 : Int32)), .val (.int (0 : Int32))] [])) _
          refine XS.iload X0.here hx rfl (hb hby d4_77) rfl ?_
          show Steps p.tables e below (s₁.setTop (mkF m 79 #[.val (.int q1), .val (.long (((q1 ||| (32 : Int32)).toInt64) - (97 : Int64))), .second, .val (.long ((q1.toInt64) - (48 : Int64))), .second, .val (.int (0 : Int32)), .val (.int (0 : Int32)), .val (.int (0 : Int32))] [(.int (0 : Int32))])) _
          refine XS.ifNo X0.here hx rfl (hb hby d4_79) rfl ((if0 _ _).trans (teq (by decide : (0 : Int32) = (0 : Int32))).2) ?_
          show Steps p.tables e below (s₁.setTop (mkF m 82 #[.val (.int q1), .val (.long (((q1 ||| (32 : Int32)).toInt64) - (97 : Int64))), .second, .val (.long ((q1.toInt64) - (48 : Int64))), .second, .val (.int (0 : Int32)), .val (.int (0 : Int32)), .val (.int (0 : Int32))] [])) _
          refine XS.iload X0.here hx rfl (hb hby d4_82) rfl ?_
          show Steps p.tables e below (s₁.setTop (mkF m 84 #[.val (.int q1), .val (.long (((q1 ||| (32 : Int32)).toInt64) - (97 : Int64))), .second, .val (.long ((q1.toInt64) - (48 : Int64))), .second, .val (.int (0 : Int32)), .val (.int (0 : Int32)), .val (.int (0 : Int32))] [(.int (0 : Int32))])) _
          refine XS.ifYes X0.here hx rfl (pc0 := 84) (pc' := 91) rfl (hb hby d4_84) rfl ((if0 _ _).trans (teq (by decide : (0 : Int32) = (0 : Int32))).1) (by decide) (by decide) ?_
          show Steps p.tables e below (s₁.setTop (mkF m 91 #[.val (.int q1), .val (.long (((q1 ||| (32 : Int32)).toInt64) - (97 : Int64))), .second, .val (.long ((q1.toInt64) - (48 : Int64))), .second, .val (.int (0 : Int32)), .val (.int (0 : Int32)), .val (.int (0 : Int32))] [])) _
          refine XS.iconst X0.here hx rfl (hb hby d4_91) ?_
          show Steps p.tables e below (s₁.setTop (mkF m 92 #[.val (.int q1), .val (.long (((q1 ||| (32 : Int32)).toInt64) - (97 : Int64))), .second, .val (.long ((q1.toInt64) - (48 : Int64))), .second, .val (.int (0 : Int32)), .val (.int (0 : Int32)), .val (.int (0 : Int32))] [(.int (0 : Int32))])) _
          rw [show F4 q1 = (0 : Int32) from (if_pos hc1).trans ((if_pos hc2).trans ((if_neg hc3).trans rfl))] at hr
          exact retN X0 hx (t := .boolean) Bd.returns (by simp) (hb hby d4_92) hr
      · refine XS.ifNo X0.here hx rfl (hb hby d4_41) rfl ((if0 _ _).trans (flt hc2).1) ?_
        show Steps p.tables e below (s₁.setTop (mkF m 44 #[.val (.int q1), .val (.long (((q1 ||| (32 : Int32)).toInt64) - (97 : Int64))), .second, .val (.long ((q1.toInt64) - (48 : Int64))), .second, .val (.int (0 : Int32)), .unset, .unset] [])) _
        refine XS.lloadN X0.here hx rfl (hb hby d4_44) rfl ?_
        show Steps p.tables e below (s₁.setTop (mkF m 45 #[.val (.int q1), .val (.long (((q1 ||| (32 : Int32)).toInt64) - (97 : Int64))), .second, .val (.long ((q1.toInt64) - (48 : Int64))), .second, .val (.int (0 : Int32)), .unset, .unset] [(.long ((q1.toInt64) - (48 : Int64)))])) _
        refine X0.ldc2Long hx hown (mvT hZ (hw _ (List.mem_of_getElem? (i := 18) rfl))) (g := (mkF m 45 #[.val (.int q1), .val (.long (((q1 ||| (32 : Int32)).toInt64) - (97 : Int64))), .second, .val (.long ((q1.toInt64) - (48 : Int64))), .second, .val (.int (0 : Int32)), .unset, .unset] [(.long ((q1.toInt64) - (48 : Int64)))])) rfl (hb hby d4_45) _ ?_
        show Steps p.tables e below (s₁.setTop (mkF m 48 #[.val (.int q1), .val (.long (((q1 ||| (32 : Int32)).toInt64) - (97 : Int64))), .second, .val (.long ((q1.toInt64) - (48 : Int64))), .second, .val (.int (0 : Int32)), .unset, .unset] [(.long (10 : Int64)), (.long ((q1.toInt64) - (48 : Int64)))])) _
        refine XS.lcmp X0.here hx rfl (hb hby d4_48) rfl ?_
        show Steps p.tables e below (s₁.setTop (mkF m 49 #[.val (.int q1), .val (.long (((q1 ||| (32 : Int32)).toInt64) - (97 : Int64))), .second, .val (.long ((q1.toInt64) - (48 : Int64))), .second, .val (.int (0 : Int32)), .unset, .unset] [(.int (lcmpW ((q1.toInt64) - (48 : Int64)) (10 : Int64)))])) _
        by_cases hc4 : (lcmpW ((q1.toInt64) - (48 : Int64)) (10 : Int64)) < (0 : Int32)
        · refine XS.ifNo X0.here hx rfl (hb hby d4_49) rfl ((if0 _ _).trans (tlt hc4).2.1) ?_
          show Steps p.tables e below (s₁.setTop (mkF m 52 #[.val (.int q1), .val (.long (((q1 ||| (32 : Int32)).toInt64) - (97 : Int64))), .second, .val (.long ((q1.toInt64) - (48 : Int64))), .second, .val (.int (0 : Int32)), .unset, .unset] [])) _
          refine XS.iconst X0.here hx rfl (hb hby d4_52) ?_
          show Steps p.tables e below (s₁.setTop (mkF m 53 #[.val (.int q1), .val (.long (((q1 ||| (32 : Int32)).toInt64) - (97 : Int64))), .second, .val (.long ((q1.toInt64) - (48 : Int64))), .second, .val (.int (0 : Int32)), .unset, .unset] [(.int (1 : Int32))])) _
          refine XS.goto X0.here hx rfl (pc0 := 53) (pc' := 57) rfl (hb hby d4_53) (by decide) (by decide) ?_
          show Steps p.tables e below (s₁.setTop (mkF m 57 #[.val (.int q1), .val (.long (((q1 ||| (32 : Int32)).toInt64) - (97 : Int64))), .second, .val (.long ((q1.toInt64) - (48 : Int64))), .second, .val (.int (0 : Int32)), .unset, .unset] [(.int (1 : Int32))])) _
          refine XS.istore X0.here hx rfl (hb hby d4_57) rfl (l' := #[.val (.int q1), .val (.long (((q1 ||| (32 : Int32)).toInt64) - (97 : Int64))), .second, .val (.long ((q1.toInt64) - (48 : Int64))), .second, .val (.int (0 : Int32)), .val (.int (1 : Int32)), .unset]) rfl ?_
          show Steps p.tables e below (s₁.setTop (mkF m 59 #[.val (.int q1), .val (.long (((q1 ||| (32 : Int32)).toInt64) - (97 : Int64))), .second, .val (.long ((q1.toInt64) - (48 : Int64))), .second, .val (.int (0 : Int32)), .val (.int (1 : Int32)), .unset] [])) _
          refine XS.iloadN X0.here hx rfl (hb hby d4_59) rfl ?_
          show Steps p.tables e below (s₁.setTop (mkF m 60 #[.val (.int q1), .val (.long (((q1 ||| (32 : Int32)).toInt64) - (97 : Int64))), .second, .val (.long ((q1.toInt64) - (48 : Int64))), .second, .val (.int (0 : Int32)), .val (.int (1 : Int32)), .unset] [(.int q1)])) _
          refine XS.bipush X0.here hx rfl (hb hby d4_60) ?_
          show Steps p.tables e below (s₁.setTop (mkF m 62 #[.val (.int q1), .val (.long (((q1 ||| (32 : Int32)).toInt64) - (97 : Int64))), .second, .val (.long ((q1.toInt64) - (48 : Int64))), .second, .val (.int (0 : Int32)), .val (.int (1 : Int32)), .unset] [(.int (45 : Int32)), (.int q1)])) _
          by_cases hc5 : q1 = (45 : Int32)
          · refine XS.icmpNo X0.here hx rfl (hb hby d4_62) rfl (teq hc5).2 ?_
            show Steps p.tables e below (s₁.setTop (mkF m 65 #[.val (.int q1), .val (.long (((q1 ||| (32 : Int32)).toInt64) - (97 : Int64))), .second, .val (.long ((q1.toInt64) - (48 : Int64))), .second, .val (.int (0 : Int32)), .val (.int (1 : Int32)), .unset] [])) _
            refine XS.iconst X0.here hx rfl (hb hby d4_65) ?_
            show Steps p.tables e below (s₁.setTop (mkF m 66 #[.val (.int q1), .val (.long (((q1 ||| (32 : Int32)).toInt64) - (97 : Int64))), .second, .val (.long ((q1.toInt64) - (48 : Int64))), .second, .val (.int (0 : Int32)), .val (.int (1 : Int32)), .unset] [(.int (1 : Int32))])) _
            refine XS.goto X0.here hx rfl (pc0 := 66) (pc' := 70) rfl (hb hby d4_66) (by decide) (by decide) ?_
            show Steps p.tables e below (s₁.setTop (mkF m 70 #[.val (.int q1), .val (.long (((q1 ||| (32 : Int32)).toInt64) - (97 : Int64))), .second, .val (.long ((q1.toInt64) - (48 : Int64))), .second, .val (.int (0 : Int32)), .val (.int (1 : Int32)), .unset] [(.int (1 : Int32))])) _
            refine XS.istore X0.here hx rfl (hb hby d4_70) rfl (l' := #[.val (.int q1), .val (.long (((q1 ||| (32 : Int32)).toInt64) - (97 : Int64))), .second, .val (.long ((q1.toInt64) - (48 : Int64))), .second, .val (.int (0 : Int32)), .val (.int (1 : Int32)), .val (.int (1 : Int32))]) rfl ?_
            show Steps p.tables e below (s₁.setTop (mkF m 72 #[.val (.int q1), .val (.long (((q1 ||| (32 : Int32)).toInt64) - (97 : Int64))), .second, .val (.long ((q1.toInt64) - (48 : Int64))), .second, .val (.int (0 : Int32)), .val (.int (1 : Int32)), .val (.int (1 : Int32))] [])) _
            refine XS.iload X0.here hx rfl (hb hby d4_72) rfl ?_
            show Steps p.tables e below (s₁.setTop (mkF m 74 #[.val (.int q1), .val (.long (((q1 ||| (32 : Int32)).toInt64) - (97 : Int64))), .second, .val (.long ((q1.toInt64) - (48 : Int64))), .second, .val (.int (0 : Int32)), .val (.int (1 : Int32)), .val (.int (1 : Int32))] [(.int (0 : Int32))])) _
            refine XS.ifNo X0.here hx rfl (hb hby d4_74) rfl ((if0 _ _).trans (teq (by decide : (0 : Int32) = (0 : Int32))).2) ?_
            show Steps p.tables e below (s₁.setTop (mkF m 77 #[.val (.int q1), .val (.long (((q1 ||| (32 : Int32)).toInt64) - (97 : Int64))), .second, .val (.long ((q1.toInt64) - (48 : Int64))), .second, .val (.int (0 : Int32)), .val (.int (1 : Int32)), .val (.int (1 : Int32))] [])) _
            refine XS.iload X0.here hx rfl (hb hby d4_77) rfl ?_
            show Steps p.tables e below (s₁.setTop (mkF m 79 #[.val (.int q1), .val (.long (((q1 ||| (32 : Int32)).toInt64) - (97 : Int64))), .second, .val (.long ((q1.toInt64) - (48 : Int64))), .second, .val (.int (0 : Int32)), .val (.int (1 : Int32)), .val (.int (1 : Int32))] [(.int (1 : Int32))])) _
            refine XS.ifYes X0.here hx rfl (pc0 := 79) (pc' := 87) rfl (hb hby d4_79) rfl ((if0 _ _).trans (feq (by decide : ¬ ((1 : Int32) = (0 : Int32)))).2) (by decide) (by decide) ?_
            show Steps p.tables e below (s₁.setTop (mkF m 87 #[.val (.int q1), .val (.long (((q1 ||| (32 : Int32)).toInt64) - (97 : Int64))), .second, .val (.long ((q1.toInt64) - (48 : Int64))), .second, .val (.int (0 : Int32)), .val (.int (1 : Int32)), .val (.int (1 : Int32))] [])) _
            refine XS.iconst X0.here hx rfl (hb hby d4_87) ?_
            show Steps p.tables e below (s₁.setTop (mkF m 88 #[.val (.int q1), .val (.long (((q1 ||| (32 : Int32)).toInt64) - (97 : Int64))), .second, .val (.long ((q1.toInt64) - (48 : Int64))), .second, .val (.int (0 : Int32)), .val (.int (1 : Int32)), .val (.int (1 : Int32))] [(.int (1 : Int32))])) _
            refine XS.goto X0.here hx rfl (pc0 := 88) (pc' := 92) rfl (hb hby d4_88) (by decide) (by decide) ?_
            show Steps p.tables e below (s₁.setTop (mkF m 92 #[.val (.int q1), .val (.long (((q1 ||| (32 : Int32)).toInt64) - (97 : Int64))), .second, .val (.long ((q1.toInt64) - (48 : Int64))), .second, .val (.int (0 : Int32)), .val (.int (1 : Int32)), .val (.int (1 : Int32))] [(.int (1 : Int32))])) _
            rw [show F4 q1 = (1 : Int32) from (if_pos hc1).trans ((if_neg hc2).trans ((if_pos hc4).trans ((if_pos hc5).trans rfl)))] at hr
            exact retN X0 hx (t := .boolean) Bd.returns (by simp) (hb hby d4_92) hr
          · refine XS.icmpYes X0.here hx rfl (pc0 := 62) (pc' := 69) rfl (hb hby d4_62) rfl (feq hc5).2 (by decide) (by decide) ?_
            show Steps p.tables e below (s₁.setTop (mkF m 69 #[.val (.int q1), .val (.long (((q1 ||| (32 : Int32)).toInt64) - (97 : Int64))), .second, .val (.long ((q1.toInt64) - (48 : Int64))), .second, .val (.int (0 : Int32)), .val (.int (1 : Int32)), .unset] [])) _
            refine XS.iconst X0.here hx rfl (hb hby d4_69) ?_
            show Steps p.tables e below (s₁.setTop (mkF m 70 #[.val (.int q1), .val (.long (((q1 ||| (32 : Int32)).toInt64) - (97 : Int64))), .second, .val (.long ((q1.toInt64) - (48 : Int64))), .second, .val (.int (0 : Int32)), .val (.int (1 : Int32)), .unset] [(.int (0 : Int32))])) _
            refine XS.istore X0.here hx rfl (hb hby d4_70) rfl (l' := #[.val (.int q1), .val (.long (((q1 ||| (32 : Int32)).toInt64) - (97 : Int64))), .second, .val (.long ((q1.toInt64) - (48 : Int64))), .second, .val (.int (0 : Int32)), .val (.int (1 : Int32)), .val (.int (0 : Int32))]) rfl ?_
            show Steps p.tables e below (s₁.setTop (mkF m 72 #[.val (.int q1), .val (.long (((q1 ||| (32 : Int32)).toInt64) - (97 : Int64))), .second, .val (.long ((q1.toInt64) - (48 : Int64))), .second, .val (.int (0 : Int32)), .val (.int (1 : Int32)), .val (.int (0 : Int32))] [])) _
            refine XS.iload X0.here hx rfl (hb hby d4_72) rfl ?_
            show Steps p.tables e below (s₁.setTop (mkF m 74 #[.val (.int q1), .val (.long (((q1 ||| (32 : Int32)).toInt64) - (97 : Int64))), .second, .val (.long ((q1.toInt64) - (48 : Int64))), .second, .val (.int (0 : Int32)), .val (.int (1 : Int32)), .val (.int (0 : Int32))] [(.int (0 : Int32))])) _
            refine XS.ifNo X0.here hx rfl (hb hby d4_74) rfl ((if0 _ _).trans (teq (by decide : (0 : Int32) = (0 : Int32))).2) ?_
            show Steps p.tables e below (s₁.setTop (mkF m 77 #[.val (.int q1), .val (.long (((q1 ||| (32 : Int32)).toInt64) - (97 : Int64))), .second, .val (.long ((q1.toInt64) - (48 : Int64))), .second, .val (.int (0 : Int32)), .val (.int (1 : Int32)), .val (.int (0 : Int32))] [])) _
            refine XS.iload X0.here hx rfl (hb hby d4_77) rfl ?_
            show Steps p.tables e below (s₁.setTop (mkF m 79 #[.val (.int q1), .val (.long (((q1 ||| (32 : Int32)).toInt64) - (97 : Int64))), .second, .val (.long ((q1.toInt64) - (48 : Int64))), .second, .val (.int (0 : Int32)), .val (.int (1 : Int32)), .val (.int (0 : Int32))] [(.int (1 : Int32))])) _
            refine XS.ifYes X0.here hx rfl (pc0 := 79) (pc' := 87) rfl (hb hby d4_79) rfl ((if0 _ _).trans (feq (by decide : ¬ ((1 : Int32) = (0 : Int32)))).2) (by decide) (by decide) ?_
            show Steps p.tables e below (s₁.setTop (mkF m 87 #[.val (.int q1), .val (.long (((q1 ||| (32 : Int32)).toInt64) - (97 : Int64))), .second, .val (.long ((q1.toInt64) - (48 : Int64))), .second, .val (.int (0 : Int32)), .val (.int (1 : Int32)), .val (.int (0 : Int32))] [])) _
            refine XS.iconst X0.here hx rfl (hb hby d4_87) ?_
            show Steps p.tables e below (s₁.setTop (mkF m 88 #[.val (.int q1), .val (.long (((q1 ||| (32 : Int32)).toInt64) - (97 : Int64))), .second, .val (.long ((q1.toInt64) - (48 : Int64))), .second, .val (.int (0 : Int32)), .val (.int (1 : Int32)), .val (.int (0 : Int32))] [(.int (1 : Int32))])) _
            refine XS.goto X0.here hx rfl (pc0 := 88) (pc' := 92) rfl (hb hby d4_88) (by decide) (by decide) ?_
            show Steps p.tables e below (s₁.setTop (mkF m 92 #[.val (.int q1), .val (.long (((q1 ||| (32 : Int32)).toInt64) - (97 : Int64))), .second, .val (.long ((q1.toInt64) - (48 : Int64))), .second, .val (.int (0 : Int32)), .val (.int (1 : Int32)), .val (.int (0 : Int32))] [(.int (1 : Int32))])) _
            rw [show F4 q1 = (1 : Int32) from (if_pos hc1).trans ((if_neg hc2).trans ((if_pos hc4).trans ((if_neg hc5).trans rfl)))] at hr
            exact retN X0 hx (t := .boolean) Bd.returns (by simp) (hb hby d4_92) hr
        · refine XS.ifYes X0.here hx rfl (pc0 := 49) (pc' := 56) rfl (hb hby d4_49) rfl ((if0 _ _).trans (flt hc4).2.1) (by decide) (by decide) ?_
          show Steps p.tables e below (s₁.setTop (mkF m 56 #[.val (.int q1), .val (.long (((q1 ||| (32 : Int32)).toInt64) - (97 : Int64))), .second, .val (.long ((q1.toInt64) - (48 : Int64))), .second, .val (.int (0 : Int32)), .unset, .unset] [])) _
          refine XS.iconst X0.here hx rfl (hb hby d4_56) ?_
          show Steps p.tables e below (s₁.setTop (mkF m 57 #[.val (.int q1), .val (.long (((q1 ||| (32 : Int32)).toInt64) - (97 : Int64))), .second, .val (.long ((q1.toInt64) - (48 : Int64))), .second, .val (.int (0 : Int32)), .unset, .unset] [(.int (0 : Int32))])) _
          refine XS.istore X0.here hx rfl (hb hby d4_57) rfl (l' := #[.val (.int q1), .val (.long (((q1 ||| (32 : Int32)).toInt64) - (97 : Int64))), .second, .val (.long ((q1.toInt64) - (48 : Int64))), .second, .val (.int (0 : Int32)), .val (.int (0 : Int32)), .unset]) rfl ?_
          show Steps p.tables e below (s₁.setTop (mkF m 59 #[.val (.int q1), .val (.long (((q1 ||| (32 : Int32)).toInt64) - (97 : Int64))), .second, .val (.long ((q1.toInt64) - (48 : Int64))), .second, .val (.int (0 : Int32)), .val (.int (0 : Int32)), .unset] [])) _
          refine XS.iloadN X0.here hx rfl (hb hby d4_59) rfl ?_
          show Steps p.tables e below (s₁.setTop (mkF m 60 #[.val (.int q1), .val (.long (((q1 ||| (32 : Int32)).toInt64) - (97 : Int64))), .second, .val (.long ((q1.toInt64) - (48 : Int64))), .second, .val (.int (0 : Int32)), .val (.int (0 : Int32)), .unset] [(.int q1)])) _
          refine XS.bipush X0.here hx rfl (hb hby d4_60) ?_
          show Steps p.tables e below (s₁.setTop (mkF m 62 #[.val (.int q1), .val (.long (((q1 ||| (32 : Int32)).toInt64) - (97 : Int64))), .second, .val (.long ((q1.toInt64) - (48 : Int64))), .second, .val (.int (0 : Int32)), .val (.int (0 : Int32)), .unset] [(.int (45 : Int32)), (.int q1)])) _
          by_cases hc6 : q1 = (45 : Int32)
          · refine XS.icmpNo X0.here hx rfl (hb hby d4_62) rfl (teq hc6).2 ?_
            show Steps p.tables e below (s₁.setTop (mkF m 65 #[.val (.int q1), .val (.long (((q1 ||| (32 : Int32)).toInt64) - (97 : Int64))), .second, .val (.long ((q1.toInt64) - (48 : Int64))), .second, .val (.int (0 : Int32)), .val (.int (0 : Int32)), .unset] [])) _
            refine XS.iconst X0.here hx rfl (hb hby d4_65) ?_
            show Steps p.tables e below (s₁.setTop (mkF m 66 #[.val (.int q1), .val (.long (((q1 ||| (32 : Int32)).toInt64) - (97 : Int64))), .second, .val (.long ((q1.toInt64) - (48 : Int64))), .second, .val (.int (0 : Int32)), .val (.int (0 : Int32)), .unset] [(.int (1 : Int32))])) _
            refine XS.goto X0.here hx rfl (pc0 := 66) (pc' := 70) rfl (hb hby d4_66) (by decide) (by decide) ?_
            show Steps p.tables e below (s₁.setTop (mkF m 70 #[.val (.int q1), .val (.long (((q1 ||| (32 : Int32)).toInt64) - (97 : Int64))), .second, .val (.long ((q1.toInt64) - (48 : Int64))), .second, .val (.int (0 : Int32)), .val (.int (0 : Int32)), .unset] [(.int (1 : Int32))])) _
            refine XS.istore X0.here hx rfl (hb hby d4_70) rfl (l' := #[.val (.int q1), .val (.long (((q1 ||| (32 : Int32)).toInt64) - (97 : Int64))), .second, .val (.long ((q1.toInt64) - (48 : Int64))), .second, .val (.int (0 : Int32)), .val (.int (0 : Int32)), .val (.int (1 : Int32))]) rfl ?_
            show Steps p.tables e below (s₁.setTop (mkF m 72 #[.val (.int q1), .val (.long (((q1 ||| (32 : Int32)).toInt64) - (97 : Int64))), .second, .val (.long ((q1.toInt64) - (48 : Int64))), .second, .val (.int (0 : Int32)), .val (.int (0 : Int32)), .val (.int (1 : Int32))] [])) _
            refine XS.iload X0.here hx rfl (hb hby d4_72) rfl ?_
            show Steps p.tables e below (s₁.setTop (mkF m 74 #[.val (.int q1), .val (.long (((q1 ||| (32 : Int32)).toInt64) - (97 : Int64))), .second, .val (.long ((q1.toInt64) - (48 : Int64))), .second, .val (.int (0 : Int32)), .val (.int (0 : Int32)), .val (.int (1 : Int32))] [(.int (0 : Int32))])) _
            refine XS.ifNo X0.here hx rfl (hb hby d4_74) rfl ((if0 _ _).trans (teq (by decide : (0 : Int32) = (0 : Int32))).2) ?_
            show Steps p.tables e below (s₁.setTop (mkF m 77 #[.val (.int q1), .val (.long (((q1 ||| (32 : Int32)).toInt64) - (97 : Int64))), .second, .val (.long ((q1.toInt64) - (48 : Int64))), .second, .val (.int (0 : Int32)), .val (.int (0 : Int32)), .val (.int (1 : Int32))] [])) _
            refine XS.iload X0.here hx rfl (hb hby d4_77) rfl ?_
            show Steps p.tables e below (s₁.setTop (mkF m 79 #[.val (.int q1), .val (.long (((q1 ||| (32 : Int32)).toInt64) - (97 : Int64))), .second, .val (.long ((q1.toInt64) - (48 : Int64))), .second, .val (.int (0 : Int32)), .val (.int (0 : Int32)), .val (.int (1 : Int32))] [(.int (0 : Int32))])) _
            refine XS.ifNo X0.here hx rfl (hb hby d4_79) rfl ((if0 _ _).trans (teq (by decide : (0 : Int32) = (0 : Int32))).2) ?_
            show Steps p.tables e below (s₁.setTop (mkF m 82 #[.val (.int q1), .val (.long (((q1 ||| (32 : Int32)).toInt64) - (97 : Int64))), .second, .val (.long ((q1.toInt64) - (48 : Int64))), .second, .val (.int (0 : Int32)), .val (.int (0 : Int32)), .val (.int (1 : Int32))] [])) _
            refine XS.iload X0.here hx rfl (hb hby d4_82) rfl ?_
            show Steps p.tables e below (s₁.setTop (mkF m 84 #[.val (.int q1), .val (.long (((q1 ||| (32 : Int32)).toInt64) - (97 : Int64))), .second, .val (.long ((q1.toInt64) - (48 : Int64))), .second, .val (.int (0 : Int32)), .val (.int (0 : Int32)), .val (.int (1 : Int32))] [(.int (1 : Int32))])) _
            refine XS.ifNo X0.here hx rfl (hb hby d4_84) rfl ((if0 _ _).trans (feq (by decide : ¬ ((1 : Int32) = (0 : Int32)))).1) ?_
            show Steps p.tables e below (s₁.setTop (mkF m 87 #[.val (.int q1), .val (.long (((q1 ||| (32 : Int32)).toInt64) - (97 : Int64))), .second, .val (.long ((q1.toInt64) - (48 : Int64))), .second, .val (.int (0 : Int32)), .val (.int (0 : Int32)), .val (.int (1 : Int32))] [])) _
            refine XS.iconst X0.here hx rfl (hb hby d4_87) ?_
            show Steps p.tables e below (s₁.setTop (mkF m 88 #[.val (.int q1), .val (.long (((q1 ||| (32 : Int32)).toInt64) - (97 : Int64))), .second, .val (.long ((q1.toInt64) - (48 : Int64))), .second, .val (.int (0 : Int32)), .val (.int (0 : Int32)), .val (.int (1 : Int32))] [(.int (1 : Int32))])) _
            refine XS.goto X0.here hx rfl (pc0 := 88) (pc' := 92) rfl (hb hby d4_88) (by decide) (by decide) ?_
            show Steps p.tables e below (s₁.setTop (mkF m 92 #[.val (.int q1), .val (.long (((q1 ||| (32 : Int32)).toInt64) - (97 : Int64))), .second, .val (.long ((q1.toInt64) - (48 : Int64))), .second, .val (.int (0 : Int32)), .val (.int (0 : Int32)), .val (.int (1 : Int32))] [(.int (1 : Int32))])) _
            rw [show F4 q1 = (1 : Int32) from (if_pos hc1).trans ((if_neg hc2).trans ((if_neg hc4).trans ((if_pos hc6).trans rfl)))] at hr
            exact retN X0 hx (t := .boolean) Bd.returns (by simp) (hb hby d4_92) hr
          · refine XS.icmpYes X0.here hx rfl (pc0 := 62) (pc' := 69) rfl (hb hby d4_62) rfl (feq hc6).2 (by decide) (by decide) ?_
            show Steps p.tables e below (s₁.setTop (mkF m 69 #[.val (.int q1), .val (.long (((q1 ||| (32 : Int32)).toInt64) - (97 : Int64))), .second, .val (.long ((q1.toInt64) - (48 : Int64))), .second, .val (.int (0 : Int32)), .val (.int (0 : Int32)), .unset] [])) _
            refine XS.iconst X0.here hx rfl (hb hby d4_69) ?_
            show Steps p.tables e below (s₁.setTop (mkF m 70 #[.val (.int q1), .val (.long (((q1 ||| (32 : Int32)).toInt64) - (97 : Int64))), .second, .val (.long ((q1.toInt64) - (48 : Int64))), .second, .val (.int (0 : Int32)), .val (.int (0 : Int32)), .unset] [(.int (0 : Int32))])) _
            refine XS.istore X0.here hx rfl (hb hby d4_70) rfl (l' := #[.val (.int q1), .val (.long (((q1 ||| (32 : Int32)).toInt64) - (97 : Int64))), .second, .val (.long ((q1.toInt64) - (48 : Int64))), .second, .val (.int (0 : Int32)), .val (.int (0 : Int32)), .val (.int (0 : Int32))]) rfl ?_
            show Steps p.tables e below (s₁.setTop (mkF m 72 #[.val (.int q1), .val (.long (((q1 ||| (32 : Int32)).toInt64) - (97 : Int64))), .second, .val (.long ((q1.toInt64) - (48 : Int64))), .second, .val (.int (0 : Int32)), .val (.int (0 : Int32)), .val (.int (0 : Int32))] [])) _
            refine XS.iload X0.here hx rfl (hb hby d4_72) rfl ?_
            show Steps p.tables e below (s₁.setTop (mkF m 74 #[.val (.int q1), .val (.long (((q1 ||| (32 : Int32)).toInt64) - (97 : Int64))), .second, .val (.long ((q1.toInt64) - (48 : Int64))), .second, .val (.int (0 : Int32)), .val (.int (0 : Int32)), .val (.int (0 : Int32))] [(.int (0 : Int32))])) _
            refine XS.ifNo X0.here hx rfl (hb hby d4_74) rfl ((if0 _ _).trans (teq (by decide : (0 : Int32) = (0 : Int32))).2) ?_
            show Steps p.tables e below (s₁.setTop (mkF m 77 #[.val (.int q1), .val (.long (((q1 ||| (32 : Int32)).toInt64) - (97 : Int64))), .second, .val (.long ((q1.toInt64) - (48 : Int64))), .second, .val (.int (0 : Int32)), .val (.int (0 : Int32)), .val (.int (0 : Int32))] [])) _
            refine XS.iload X0.here hx rfl (hb hby d4_77) rfl ?_
            show Steps p.tables e below (s₁.setTop (mkF m 79 #[.val (.int q1), .val (.long (((q1 ||| (32 : Int32)).toInt64) - (97 : Int64))), .second, .val (.long ((q1.toInt64) - (48 : Int64))), .second, .val (.int (0 : Int32)), .val (.int (0 : Int32)), .val (.int (0 : Int32))] [(.int (0 : Int32))])) _
            refine XS.ifNo X0.here hx rfl (hb hby d4_79) rfl ((if0 _ _).trans (teq (by decide : (0 : Int32) = (0 : Int32))).2) ?_
            show Steps p.tables e below (s₁.setTop (mkF m 82 #[.val (.int q1), .val (.long (((q1 ||| (32 : Int32)).toInt64) - (97 : Int64))), .second, .val (.long ((q1.toInt64) - (48 : Int64))), .second, .val (.int (0 : Int32)), .val (.int (0 : Int32)), .val (.int (0 : Int32))] [])) _
            refine XS.iload X0.here hx rfl (hb hby d4_82) rfl ?_
            show Steps p.tables e below (s₁.setTop (mkF m 84 #[.val (.int q1), .val (.long (((q1 ||| (32 : Int32)).toInt64) - (97 : Int64))), .second, .val (.long ((q1.toInt64) - (48 : Int64))), .second, .val (.int (0 : Int32)), .val (.int (0 : Int32)), .val (.int (0 : Int32))] [(.int (0 : Int32))])) _
            refine XS.ifYes X0.here hx rfl (pc0 := 84) (pc' := 91) rfl (hb hby d4_84) rfl ((if0 _ _).trans (teq (by decide : (0 : Int32) = (0 : Int32))).1) (by decide) (by decide) ?_
            show Steps p.tables e below (s₁.setTop (mkF m 91 #[.val (.int q1), .val (.long (((q1 ||| (32 : Int32)).toInt64) - (97 : Int64))), .second, .val (.long ((q1.toInt64) - (48 : Int64))), .second, .val (.int (0 : Int32)), .val (.int (0 : Int32)), .val (.int (0 : Int32))] [])) _
            refine XS.iconst X0.here hx rfl (hb hby d4_91) ?_
            show Steps p.tables e below (s₁.setTop (mkF m 92 #[.val (.int q1), .val (.long (((q1 ||| (32 : Int32)).toInt64) - (97 : Int64))), .second, .val (.long ((q1.toInt64) - (48 : Int64))), .second, .val (.int (0 : Int32)), .val (.int (0 : Int32)), .val (.int (0 : Int32))] [(.int (0 : Int32))])) _
            rw [show F4 q1 = (0 : Int32) from (if_pos hc1).trans ((if_neg hc2).trans ((if_neg hc4).trans ((if_neg hc6).trans rfl)))] at hr
            exact retN X0 hx (t := .boolean) Bd.returns (by simp) (hb hby d4_92) hr
    · refine XS.ifNo X0.here hx rfl (hb hby d4_20) rfl ((if0 _ _).trans (flt hc1).1) ?_
      show Steps p.tables e below (s₁.setTop (mkF m 23 #[.val (.int q1), .val (.long (((q1 ||| (32 : Int32)).toInt64) - (97 : Int64))), .second, .val (.long ((q1.toInt64) - (48 : Int64))), .second, .unset, .unset, .unset] [])) _
      refine XS.lloadN X0.here hx rfl (hb hby d4_23) rfl ?_
      show Steps p.tables e below (s₁.setTop (mkF m 24 #[.val (.int q1), .val (.long (((q1 ||| (32 : Int32)).toInt64) - (97 : Int64))), .second, .val (.long ((q1.toInt64) - (48 : Int64))), .second, .unset, .unset, .unset] [(.long (((q1 ||| (32 : Int32)).toInt64) - (97 : Int64)))])) _
      refine X0.ldc2Long hx hown (mvT hZ (hw _ (List.mem_of_getElem? (i := 17) rfl))) (g := (mkF m 24 #[.val (.int q1), .val (.long (((q1 ||| (32 : Int32)).toInt64) - (97 : Int64))), .second, .val (.long ((q1.toInt64) - (48 : Int64))), .second, .unset, .unset, .unset] [(.long (((q1 ||| (32 : Int32)).toInt64) - (97 : Int64)))])) rfl (hb hby d4_24) _ ?_
      show Steps p.tables e below (s₁.setTop (mkF m 27 #[.val (.int q1), .val (.long (((q1 ||| (32 : Int32)).toInt64) - (97 : Int64))), .second, .val (.long ((q1.toInt64) - (48 : Int64))), .second, .unset, .unset, .unset] [(.long (26 : Int64)), (.long (((q1 ||| (32 : Int32)).toInt64) - (97 : Int64)))])) _
      refine XS.lcmp X0.here hx rfl (hb hby d4_27) rfl ?_
      show Steps p.tables e below (s₁.setTop (mkF m 28 #[.val (.int q1), .val (.long (((q1 ||| (32 : Int32)).toInt64) - (97 : Int64))), .second, .val (.long ((q1.toInt64) - (48 : Int64))), .second, .unset, .unset, .unset] [(.int (lcmpW (((q1 ||| (32 : Int32)).toInt64) - (97 : Int64)) (26 : Int64)))])) _
      by_cases hc7 : (lcmpW (((q1 ||| (32 : Int32)).toInt64) - (97 : Int64)) (26 : Int64)) < (0 : Int32)
      · refine XS.ifNo X0.here hx rfl (hb hby d4_28) rfl ((if0 _ _).trans (tlt hc7).2.1) ?_
        show Steps p.tables e below (s₁.setTop (mkF m 31 #[.val (.int q1), .val (.long (((q1 ||| (32 : Int32)).toInt64) - (97 : Int64))), .second, .val (.long ((q1.toInt64) - (48 : Int64))), .second, .unset, .unset, .unset] [])) _
        refine XS.iconst X0.here hx rfl (hb hby d4_31) ?_
        show Steps p.tables e below (s₁.setTop (mkF m 32 #[.val (.int q1), .val (.long (((q1 ||| (32 : Int32)).toInt64) - (97 : Int64))), .second, .val (.long ((q1.toInt64) - (48 : Int64))), .second, .unset, .unset, .unset] [(.int (1 : Int32))])) _
        refine XS.goto X0.here hx rfl (pc0 := 32) (pc' := 36) rfl (hb hby d4_32) (by decide) (by decide) ?_
        show Steps p.tables e below (s₁.setTop (mkF m 36 #[.val (.int q1), .val (.long (((q1 ||| (32 : Int32)).toInt64) - (97 : Int64))), .second, .val (.long ((q1.toInt64) - (48 : Int64))), .second, .unset, .unset, .unset] [(.int (1 : Int32))])) _
        refine XS.istore X0.here hx rfl (hb hby d4_36) rfl (l' := #[.val (.int q1), .val (.long (((q1 ||| (32 : Int32)).toInt64) - (97 : Int64))), .second, .val (.long ((q1.toInt64) - (48 : Int64))), .second, .val (.int (1 : Int32)), .unset, .unset]) rfl ?_
        show Steps p.tables e below (s₁.setTop (mkF m 38 #[.val (.int q1), .val (.long (((q1 ||| (32 : Int32)).toInt64) - (97 : Int64))), .second, .val (.long ((q1.toInt64) - (48 : Int64))), .second, .val (.int (1 : Int32)), .unset, .unset] [])) _
        refine XS.lloadN X0.here hx rfl (hb hby d4_38) rfl ?_
        show Steps p.tables e below (s₁.setTop (mkF m 39 #[.val (.int q1), .val (.long (((q1 ||| (32 : Int32)).toInt64) - (97 : Int64))), .second, .val (.long ((q1.toInt64) - (48 : Int64))), .second, .val (.int (1 : Int32)), .unset, .unset] [(.long ((q1.toInt64) - (48 : Int64)))])) _
        refine XS.lconst X0.here hx rfl (hb hby d4_39) ?_
        show Steps p.tables e below (s₁.setTop (mkF m 40 #[.val (.int q1), .val (.long (((q1 ||| (32 : Int32)).toInt64) - (97 : Int64))), .second, .val (.long ((q1.toInt64) - (48 : Int64))), .second, .val (.int (1 : Int32)), .unset, .unset] [(.long (0 : Int64)), (.long ((q1.toInt64) - (48 : Int64)))])) _
        refine XS.lcmp X0.here hx rfl (hb hby d4_40) rfl ?_
        show Steps p.tables e below (s₁.setTop (mkF m 41 #[.val (.int q1), .val (.long (((q1 ||| (32 : Int32)).toInt64) - (97 : Int64))), .second, .val (.long ((q1.toInt64) - (48 : Int64))), .second, .val (.int (1 : Int32)), .unset, .unset] [(.int (lcmpW ((q1.toInt64) - (48 : Int64)) (0 : Int64)))])) _
        by_cases hc8 : (lcmpW ((q1.toInt64) - (48 : Int64)) (0 : Int64)) < (0 : Int32)
        · refine XS.ifYes X0.here hx rfl (pc0 := 41) (pc' := 56) rfl (hb hby d4_41) rfl ((if0 _ _).trans (tlt hc8).1) (by decide) (by decide) ?_
          show Steps p.tables e below (s₁.setTop (mkF m 56 #[.val (.int q1), .val (.long (((q1 ||| (32 : Int32)).toInt64) - (97 : Int64))), .second, .val (.long ((q1.toInt64) - (48 : Int64))), .second, .val (.int (1 : Int32)), .unset, .unset] [])) _
          refine XS.iconst X0.here hx rfl (hb hby d4_56) ?_
          show Steps p.tables e below (s₁.setTop (mkF m 57 #[.val (.int q1), .val (.long (((q1 ||| (32 : Int32)).toInt64) - (97 : Int64))), .second, .val (.long ((q1.toInt64) - (48 : Int64))), .second, .val (.int (1 : Int32)), .unset, .unset] [(.int (0 : Int32))])) _
          refine XS.istore X0.here hx rfl (hb hby d4_57) rfl (l' := #[.val (.int q1), .val (.long (((q1 ||| (32 : Int32)).toInt64) - (97 : Int64))), .second, .val (.long ((q1.toInt64) - (48 : Int64))), .second, .val (.int (1 : Int32)), .val (.int (0 : Int32)), .unset]) rfl ?_
          show Steps p.tables e below (s₁.setTop (mkF m 59 #[.val (.int q1), .val (.long (((q1 ||| (32 : Int32)).toInt64) - (97 : Int64))), .second, .val (.long ((q1.toInt64) - (48 : Int64))), .second, .val (.int (1 : Int32)), .val (.int (0 : Int32)), .unset] [])) _
          refine XS.iloadN X0.here hx rfl (hb hby d4_59) rfl ?_
          show Steps p.tables e below (s₁.setTop (mkF m 60 #[.val (.int q1), .val (.long (((q1 ||| (32 : Int32)).toInt64) - (97 : Int64))), .second, .val (.long ((q1.toInt64) - (48 : Int64))), .second, .val (.int (1 : Int32)), .val (.int (0 : Int32)), .unset] [(.int q1)])) _
          refine XS.bipush X0.here hx rfl (hb hby d4_60) ?_
          show Steps p.tables e below (s₁.setTop (mkF m 62 #[.val (.int q1), .val (.long (((q1 ||| (32 : Int32)).toInt64) - (97 : Int64))), .second, .val (.long ((q1.toInt64) - (48 : Int64))), .second, .val (.int (1 : Int32)), .val (.int (0 : Int32)), .unset] [(.int (45 : Int32)), (.int q1)])) _
          by_cases hc9 : q1 = (45 : Int32)
          · refine XS.icmpNo X0.here hx rfl (hb hby d4_62) rfl (teq hc9).2 ?_
            show Steps p.tables e below (s₁.setTop (mkF m 65 #[.val (.int q1), .val (.long (((q1 ||| (32 : Int32)).toInt64) - (97 : Int64))), .second, .val (.long ((q1.toInt64) - (48 : Int64))), .second, .val (.int (1 : Int32)), .val (.int (0 : Int32)), .unset] [])) _
            refine XS.iconst X0.here hx rfl (hb hby d4_65) ?_
            show Steps p.tables e below (s₁.setTop (mkF m 66 #[.val (.int q1), .val (.long (((q1 ||| (32 : Int32)).toInt64) - (97 : Int64))), .second, .val (.long ((q1.toInt64) - (48 : Int64))), .second, .val (.int (1 : Int32)), .val (.int (0 : Int32)), .unset] [(.int (1 : Int32))])) _
            refine XS.goto X0.here hx rfl (pc0 := 66) (pc' := 70) rfl (hb hby d4_66) (by decide) (by decide) ?_
            show Steps p.tables e below (s₁.setTop (mkF m 70 #[.val (.int q1), .val (.long (((q1 ||| (32 : Int32)).toInt64) - (97 : Int64))), .second, .val (.long ((q1.toInt64) - (48 : Int64))), .second, .val (.int (1 : Int32)), .val (.int (0 : Int32)), .unset] [(.int (1 : Int32))])) _
            refine XS.istore X0.here hx rfl (hb hby d4_70) rfl (l' := #[.val (.int q1), .val (.long (((q1 ||| (32 : Int32)).toInt64) - (97 : Int64))), .second, .val (.long ((q1.toInt64) - (48 : Int64))), .second, .val (.int (1 : Int32)), .val (.int (0 : Int32)), .val (.int (1 : Int32))]) rfl ?_
            show Steps p.tables e below (s₁.setTop (mkF m 72 #[.val (.int q1), .val (.long (((q1 ||| (32 : Int32)).toInt64) - (97 : Int64))), .second, .val (.long ((q1.toInt64) - (48 : Int64))), .second, .val (.int (1 : Int32)), .val (.int (0 : Int32)), .val (.int (1 : Int32))] [])) _
            refine XS.iload X0.here hx rfl (hb hby d4_72) rfl ?_
            show Steps p.tables e below (s₁.setTop (mkF m 74 #[.val (.int q1), .val (.long (((q1 ||| (32 : Int32)).toInt64) - (97 : Int64))), .second, .val (.long ((q1.toInt64) - (48 : Int64))), .second, .val (.int (1 : Int32)), .val (.int (0 : Int32)), .val (.int (1 : Int32))] [(.int (1 : Int32))])) _
            refine XS.ifYes X0.here hx rfl (pc0 := 74) (pc' := 87) rfl (hb hby d4_74) rfl ((if0 _ _).trans (feq (by decide : ¬ ((1 : Int32) = (0 : Int32)))).2) (by decide) (by decide) ?_
            show Steps p.tables e below (s₁.setTop (mkF m 87 #[.val (.int q1), .val (.long (((q1 ||| (32 : Int32)).toInt64) - (97 : Int64))), .second, .val (.long ((q1.toInt64) - (48 : Int64))), .second, .val (.int (1 : Int32)), .val (.int (0 : Int32)), .val (.int (1 : Int32))] [])) _
            refine XS.iconst X0.here hx rfl (hb hby d4_87) ?_
            show Steps p.tables e below (s₁.setTop (mkF m 88 #[.val (.int q1), .val (.long (((q1 ||| (32 : Int32)).toInt64) - (97 : Int64))), .second, .val (.long ((q1.toInt64) - (48 : Int64))), .second, .val (.int (1 : Int32)), .val (.int (0 : Int32)), .val (.int (1 : Int32))] [(.int (1 : Int32))])) _
            refine XS.goto X0.here hx rfl (pc0 := 88) (pc' := 92) rfl (hb hby d4_88) (by decide) (by decide) ?_
            show Steps p.tables e below (s₁.setTop (mkF m 92 #[.val (.int q1), .val (.long (((q1 ||| (32 : Int32)).toInt64) - (97 : Int64))), .second, .val (.long ((q1.toInt64) - (48 : Int64))), .second, .val (.int (1 : Int32)), .val (.int (0 : Int32)), .val (.int (1 : Int32))] [(.int (1 : Int32))])) _
            rw [show F4 q1 = (1 : Int32) from (if_neg hc1).trans ((if_pos hc7).trans ((if_pos hc8).trans ((if_pos hc9).trans rfl)))] at hr
            exact retN X0 hx (t := .boolean) Bd.returns (by simp) (hb hby d4_92) hr
          · refine XS.icmpYes X0.here hx rfl (pc0 := 62) (pc' := 69) rfl (hb hby d4_62) rfl (feq hc9).2 (by decide) (by decide) ?_
            show Steps p.tables e below (s₁.setTop (mkF m 69 #[.val (.int q1), .val (.long (((q1 ||| (32 : Int32)).toInt64) - (97 : Int64))), .second, .val (.long ((q1.toInt64) - (48 : Int64))), .second, .val (.int (1 : Int32)), .val (.int (0 : Int32)), .unset] [])) _
            refine XS.iconst X0.here hx rfl (hb hby d4_69) ?_
            show Steps p.tables e below (s₁.setTop (mkF m 70 #[.val (.int q1), .val (.long (((q1 ||| (32 : Int32)).toInt64) - (97 : Int64))), .second, .val (.long ((q1.toInt64) - (48 : Int64))), .second, .val (.int (1 : Int32)), .val (.int (0 : Int32)), .unset] [(.int (0 : Int32))])) _
            refine XS.istore X0.here hx rfl (hb hby d4_70) rfl (l' := #[.val (.int q1), .val (.long (((q1 ||| (32 : Int32)).toInt64) - (97 : Int64))), .second, .val (.long ((q1.toInt64) - (48 : Int64))), .second, .val (.int (1 : Int32)), .val (.int (0 : Int32)), .val (.int (0 : Int32))]) rfl ?_
            show Steps p.tables e below (s₁.setTop (mkF m 72 #[.val (.int q1), .val (.long (((q1 ||| (32 : Int32)).toInt64) - (97 : Int64))), .second, .val (.long ((q1.toInt64) - (48 : Int64))), .second, .val (.int (1 : Int32)), .val (.int (0 : Int32)), .val (.int (0 : Int32))] [])) _
            refine XS.iload X0.here hx rfl (hb hby d4_72) rfl ?_
            show Steps p.tables e below (s₁.setTop (mkF m 74 #[.val (.int q1), .val (.long (((q1 ||| (32 : Int32)).toInt64) - (97 : Int64))), .second, .val (.long ((q1.toInt64) - (48 : Int64))), .second, .val (.int (1 : Int32)), .val (.int (0 : Int32)), .val (.int (0 : Int32))] [(.int (1 : Int32))])) _
            refine XS.ifYes X0.here hx rfl (pc0 := 74) (pc' := 87) rfl (hb hby d4_74) rfl ((if0 _ _).trans (feq (by decide : ¬ ((1 : Int32) = (0 : Int32)))).2) (by decide) (by decide) ?_
            show Steps p.tables e below (s₁.setTop (mkF m 87 #[.val (.int q1), .val (.long (((q1 ||| (32 : Int32)).toInt64) - (97 : Int64))), .second, .val (.long ((q1.toInt64) - (48 : Int64))), .second, .val (.int (1 : Int32)), .val (.int (0 : Int32)), .val (.int (0 : Int32))] [])) _
            refine XS.iconst X0.here hx rfl (hb hby d4_87) ?_
            show Steps p.tables e below (s₁.setTop (mkF m 88 #[.val (.int q1), .val (.long (((q1 ||| (32 : Int32)).toInt64) - (97 : Int64))), .second, .val (.long ((q1.toInt64) - (48 : Int64))), .second, .val (.int (1 : Int32)), .val (.int (0 : Int32)), .val (.int (0 : Int32))] [(.int (1 : Int32))])) _
            refine XS.goto X0.here hx rfl (pc0 := 88) (pc' := 92) rfl (hb hby d4_88) (by decide) (by decide) ?_
            show Steps p.tables e below (s₁.setTop (mkF m 92 #[.val (.int q1), .val (.long (((q1 ||| (32 : Int32)).toInt64) - (97 : Int64))), .second, .val (.long ((q1.toInt64) - (48 : Int64))), .second, .val (.int (1 : Int32)), .val (.int (0 : Int32)), .val (.int (0 : Int32))] [(.int (1 : Int32))])) _
            rw [show F4 q1 = (1 : Int32) from (if_neg hc1).trans ((if_pos hc7).trans ((if_pos hc8).trans ((if_neg hc9).trans rfl)))] at hr
            exact retN X0 hx (t := .boolean) Bd.returns (by simp) (hb hby d4_92) hr
        · refine XS.ifNo X0.here hx rfl (hb hby d4_41) rfl ((if0 _ _).trans (flt hc8).1) ?_
          show Steps p.tables e below (s₁.setTop (mkF m 44 #[.val (.int q1), .val (.long (((q1 ||| (32 : Int32)).toInt64) - (97 : Int64))), .second, .val (.long ((q1.toInt64) - (48 : Int64))), .second, .val (.int (1 : Int32)), .unset, .unset] [])) _
          refine XS.lloadN X0.here hx rfl (hb hby d4_44) rfl ?_
          show Steps p.tables e below (s₁.setTop (mkF m 45 #[.val (.int q1), .val (.long (((q1 ||| (32 : Int32)).toInt64) - (97 : Int64))), .second, .val (.long ((q1.toInt64) - (48 : Int64))), .second, .val (.int (1 : Int32)), .unset, .unset] [(.long ((q1.toInt64) - (48 : Int64)))])) _
          refine X0.ldc2Long hx hown (mvT hZ (hw _ (List.mem_of_getElem? (i := 18) rfl))) (g := (mkF m 45 #[.val (.int q1), .val (.long (((q1 ||| (32 : Int32)).toInt64) - (97 : Int64))), .second, .val (.long ((q1.toInt64) - (48 : Int64))), .second, .val (.int (1 : Int32)), .unset, .unset] [(.long ((q1.toInt64) - (48 : Int64)))])) rfl (hb hby d4_45) _ ?_
          show Steps p.tables e below (s₁.setTop (mkF m 48 #[.val (.int q1), .val (.long (((q1 ||| (32 : Int32)).toInt64) - (97 : Int64))), .second, .val (.long ((q1.toInt64) - (48 : Int64))), .second, .val (.int (1 : Int32)), .unset, .unset] [(.long (10 : Int64)), (.long ((q1.toInt64) - (48 : Int64)))])) _
          refine XS.lcmp X0.here hx rfl (hb hby d4_48) rfl ?_
          show Steps p.tables e below (s₁.setTop (mkF m 49 #[.val (.int q1), .val (.long (((q1 ||| (32 : Int32)).toInt64) - (97 : Int64))), .second, .val (.long ((q1.toInt64) - (48 : Int64))), .second, .val (.int (1 : Int32)), .unset, .unset] [(.int (lcmpW ((q1.toInt64) - (48 : Int64)) (10 : Int64)))])) _
          by_cases hc10 : (lcmpW ((q1.toInt64) - (48 : Int64)) (10 : Int64)) < (0 : Int32)
          · refine XS.ifNo X0.here hx rfl (hb hby d4_49) rfl ((if0 _ _).trans (tlt hc10).2.1) ?_
            show Steps p.tables e below (s₁.setTop (mkF m 52 #[.val (.int q1), .val (.long (((q1 ||| (32 : Int32)).toInt64) - (97 : Int64))), .second, .val (.long ((q1.toInt64) - (48 : Int64))), .second, .val (.int (1 : Int32)), .unset, .unset] [])) _
            refine XS.iconst X0.here hx rfl (hb hby d4_52) ?_
            show Steps p.tables e below (s₁.setTop (mkF m 53 #[.val (.int q1), .val (.long (((q1 ||| (32 : Int32)).toInt64) - (97 : Int64))), .second, .val (.long ((q1.toInt64) - (48 : Int64))), .second, .val (.int (1 : Int32)), .unset, .unset] [(.int (1 : Int32))])) _
            refine XS.goto X0.here hx rfl (pc0 := 53) (pc' := 57) rfl (hb hby d4_53) (by decide) (by decide) ?_
            show Steps p.tables e below (s₁.setTop (mkF m 57 #[.val (.int q1), .val (.long (((q1 ||| (32 : Int32)).toInt64) - (97 : Int64))), .second, .val (.long ((q1.toInt64) - (48 : Int64))), .second, .val (.int (1 : Int32)), .unset, .unset] [(.int (1 : Int32))])) _
            refine XS.istore X0.here hx rfl (hb hby d4_57) rfl (l' := #[.val (.int q1), .val (.long (((q1 ||| (32 : Int32)).toInt64) - (97 : Int64))), .second, .val (.long ((q1.toInt64) - (48 : Int64))), .second, .val (.int (1 : Int32)), .val (.int (1 : Int32)), .unset]) rfl ?_
            show Steps p.tables e below (s₁.setTop (mkF m 59 #[.val (.int q1), .val (.long (((q1 ||| (32 : Int32)).toInt64) - (97 : Int64))), .second, .val (.long ((q1.toInt64) - (48 : Int64))), .second, .val (.int (1 : Int32)), .val (.int (1 : Int32)), .unset] [])) _
            refine XS.iloadN X0.here hx rfl (hb hby d4_59) rfl ?_
            show Steps p.tables e below (s₁.setTop (mkF m 60 #[.val (.int q1), .val (.long (((q1 ||| (32 : Int32)).toInt64) - (97 : Int64))), .second, .val (.long ((q1.toInt64) - (48 : Int64))), .second, .val (.int (1 : Int32)), .val (.int (1 : Int32)), .unset] [(.int q1)])) _
            refine XS.bipush X0.here hx rfl (hb hby d4_60) ?_
            show Steps p.tables e below (s₁.setTop (mkF m 62 #[.val (.int q1), .val (.long (((q1 ||| (32 : Int32)).toInt64) - (97 : Int64))), .second, .val (.long ((q1.toInt64) - (48 : Int64))), .second, .val (.int (1 : Int32)), .val (.int (1 : Int32)), .unset] [(.int (45 : Int32)), (.int q1)])) _
            by_cases hc11 : q1 = (45 : Int32)
            · refine XS.icmpNo X0.here hx rfl (hb hby d4_62) rfl (teq hc11).2 ?_
              show Steps p.tables e below (s₁.setTop (mkF m 65 #[.val (.int q1), .val (.long (((q1 ||| (32 : Int32)).toInt64) - (97 : Int64))), .second, .val (.long ((q1.toInt64) - (48 : Int64))), .second, .val (.int (1 : Int32)), .val (.int (1 : Int32)), .unset] [])) _
              refine XS.iconst X0.here hx rfl (hb hby d4_65) ?_
              show Steps p.tables e below (s₁.setTop (mkF m 66 #[.val (.int q1), .val (.long (((q1 ||| (32 : Int32)).toInt64) - (97 : Int64))), .second, .val (.long ((q1.toInt64) - (48 : Int64))), .second, .val (.int (1 : Int32)), .val (.int (1 : Int32)), .unset] [(.int (1 : Int32))])) _
              refine XS.goto X0.here hx rfl (pc0 := 66) (pc' := 70) rfl (hb hby d4_66) (by decide) (by decide) ?_
              show Steps p.tables e below (s₁.setTop (mkF m 70 #[.val (.int q1), .val (.long (((q1 ||| (32 : Int32)).toInt64) - (97 : Int64))), .second, .val (.long ((q1.toInt64) - (48 : Int64))), .second, .val (.int (1 : Int32)), .val (.int (1 : Int32)), .unset] [(.int (1 : Int32))])) _
              refine XS.istore X0.here hx rfl (hb hby d4_70) rfl (l' := #[.val (.int q1), .val (.long (((q1 ||| (32 : Int32)).toInt64) - (97 : Int64))), .second, .val (.long ((q1.toInt64) - (48 : Int64))), .second, .val (.int (1 : Int32)), .val (.int (1 : Int32)), .val (.int (1 : Int32))]) rfl ?_
              show Steps p.tables e below (s₁.setTop (mkF m 72 #[.val (.int q1), .val (.long (((q1 ||| (32 : Int32)).toInt64) - (97 : Int64))), .second, .val (.long ((q1.toInt64) - (48 : Int64))), .second, .val (.int (1 : Int32)), .val (.int (1 : Int32)), .val (.int (1 : Int32))] [])) _
              refine XS.iload X0.here hx rfl (hb hby d4_72) rfl ?_
              show Steps p.tables e below (s₁.setTop (mkF m 74 #[.val (.int q1), .val (.long (((q1 ||| (32 : Int32)).toInt64) - (97 : Int64))), .second, .val (.long ((q1.toInt64) - (48 : Int64))), .second, .val (.int (1 : Int32)), .val (.int (1 : Int32)), .val (.int (1 : Int32))] [(.int (1 : Int32))])) _
              refine XS.ifYes X0.here hx rfl (pc0 := 74) (pc' := 87) rfl (hb hby d4_74) rfl ((if0 _ _).trans (feq (by decide : ¬ ((1 : Int32) = (0 : Int32)))).2) (by decide) (by decide) ?_
              show Steps p.tables e below (s₁.setTop (mkF m 87 #[.val (.int q1), .val (.long (((q1 ||| (32 : Int32)).toInt64) - (97 : Int64))), .second, .val (.long ((q1.toInt64) - (48 : Int64))), .second, .val (.int (1 : Int32)), .val (.int (1 : Int32)), .val (.int (1 : Int32))] [])) _
              refine XS.iconst X0.here hx rfl (hb hby d4_87) ?_
              show Steps p.tables e below (s₁.setTop (mkF m 88 #[.val (.int q1), .val (.long (((q1 ||| (32 : Int32)).toInt64) - (97 : Int64))), .second, .val (.long ((q1.toInt64) - (48 : Int64))), .second, .val (.int (1 : Int32)), .val (.int (1 : Int32)), .val (.int (1 : Int32))] [(.int (1 : Int32))])) _
              refine XS.goto X0.here hx rfl (pc0 := 88) (pc' := 92) rfl (hb hby d4_88) (by decide) (by decide) ?_
              show Steps p.tables e below (s₁.setTop (mkF m 92 #[.val (.int q1), .val (.long (((q1 ||| (32 : Int32)).toInt64) - (97 : Int64))), .second, .val (.long ((q1.toInt64) - (48 : Int64))), .second, .val (.int (1 : Int32)), .val (.int (1 : Int32)), .val (.int (1 : Int32))] [(.int (1 : Int32))])) _
              rw [show F4 q1 = (1 : Int32) from (if_neg hc1).trans ((if_pos hc7).trans ((if_neg hc8).trans ((if_pos hc10).trans ((if_pos hc11).trans rfl))))] at hr
              exact retN X0 hx (t := .boolean) Bd.returns (by simp) (hb hby d4_92) hr
            · refine XS.icmpYes X0.here hx rfl (pc0 := 62) (pc' := 69) rfl (hb hby d4_62) rfl (feq hc11).2 (by decide) (by decide) ?_
              show Steps p.tables e below (s₁.setTop (mkF m 69 #[.val (.int q1), .val (.long (((q1 ||| (32 : Int32)).toInt64) - (97 : Int64))), .second, .val (.long ((q1.toInt64) - (48 : Int64))), .second, .val (.int (1 : Int32)), .val (.int (1 : Int32)), .unset] [])) _
              refine XS.iconst X0.here hx rfl (hb hby d4_69) ?_
              show Steps p.tables e below (s₁.setTop (mkF m 70 #[.val (.int q1), .val (.long (((q1 ||| (32 : Int32)).toInt64) - (97 : Int64))), .second, .val (.long ((q1.toInt64) - (48 : Int64))), .second, .val (.int (1 : Int32)), .val (.int (1 : Int32)), .unset] [(.int (0 : Int32))])) _
              refine XS.istore X0.here hx rfl (hb hby d4_70) rfl (l' := #[.val (.int q1), .val (.long (((q1 ||| (32 : Int32)).toInt64) - (97 : Int64))), .second, .val (.long ((q1.toInt64) - (48 : Int64))), .second, .val (.int (1 : Int32)), .val (.int (1 : Int32)), .val (.int (0 : Int32))]) rfl ?_
              show Steps p.tables e below (s₁.setTop (mkF m 72 #[.val (.int q1), .val (.long (((q1 ||| (32 : Int32)).toInt64) - (97 : Int64))), .second, .val (.long ((q1.toInt64) - (48 : Int64))), .second, .val (.int (1 : Int32)), .val (.int (1 : Int32)), .val (.int (0 : Int32))] [])) _
              refine XS.iload X0.here hx rfl (hb hby d4_72) rfl ?_
              show Steps p.tables e below (s₁.setTop (mkF m 74 #[.val (.int q1), .val (.long (((q1 ||| (32 : Int32)).toInt64) - (97 : Int64))), .second, .val (.long ((q1.toInt64) - (48 : Int64))), .second, .val (.int (1 : Int32)), .val (.int (1 : Int32)), .val (.int (0 : Int32))] [(.int (1 : Int32))])) _
              refine XS.ifYes X0.here hx rfl (pc0 := 74) (pc' := 87) rfl (hb hby d4_74) rfl ((if0 _ _).trans (feq (by decide : ¬ ((1 : Int32) = (0 : Int32)))).2) (by decide) (by decide) ?_
              show Steps p.tables e below (s₁.setTop (mkF m 87 #[.val (.int q1), .val (.long (((q1 ||| (32 : Int32)).toInt64) - (97 : Int64))), .second, .val (.long ((q1.toInt64) - (48 : Int64))), .second, .val (.int (1 : Int32)), .val (.int (1 : Int32)), .val (.int (0 : Int32))] [])) _
              refine XS.iconst X0.here hx rfl (hb hby d4_87) ?_
              show Steps p.tables e below (s₁.setTop (mkF m 88 #[.val (.int q1), .val (.long (((q1 ||| (32 : Int32)).toInt64) - (97 : Int64))), .second, .val (.long ((q1.toInt64) - (48 : Int64))), .second, .val (.int (1 : Int32)), .val (.int (1 : Int32)), .val (.int (0 : Int32))] [(.int (1 : Int32))])) _
              refine XS.goto X0.here hx rfl (pc0 := 88) (pc' := 92) rfl (hb hby d4_88) (by decide) (by decide) ?_
              show Steps p.tables e below (s₁.setTop (mkF m 92 #[.val (.int q1), .val (.long (((q1 ||| (32 : Int32)).toInt64) - (97 : Int64))), .second, .val (.long ((q1.toInt64) - (48 : Int64))), .second, .val (.int (1 : Int32)), .val (.int (1 : Int32)), .val (.int (0 : Int32))] [(.int (1 : Int32))])) _
              rw [show F4 q1 = (1 : Int32) from (if_neg hc1).trans ((if_pos hc7).trans ((if_neg hc8).trans ((if_pos hc10).trans ((if_neg hc11).trans rfl))))] at hr
              exact retN X0 hx (t := .boolean) Bd.returns (by simp) (hb hby d4_92) hr
          · refine XS.ifYes X0.here hx rfl (pc0 := 49) (pc' := 56) rfl (hb hby d4_49) rfl ((if0 _ _).trans (flt hc10).2.1) (by decide) (by decide) ?_
            show Steps p.tables e below (s₁.setTop (mkF m 56 #[.val (.int q1), .val (.long (((q1 ||| (32 : Int32)).toInt64) - (97 : Int64))), .second, .val (.long ((q1.toInt64) - (48 : Int64))), .second, .val (.int (1 : Int32)), .unset, .unset] [])) _
            refine XS.iconst X0.here hx rfl (hb hby d4_56) ?_
            show Steps p.tables e below (s₁.setTop (mkF m 57 #[.val (.int q1), .val (.long (((q1 ||| (32 : Int32)).toInt64) - (97 : Int64))), .second, .val (.long ((q1.toInt64) - (48 : Int64))), .second, .val (.int (1 : Int32)), .unset, .unset] [(.int (0 : Int32))])) _
            refine XS.istore X0.here hx rfl (hb hby d4_57) rfl (l' := #[.val (.int q1), .val (.long (((q1 ||| (32 : Int32)).toInt64) - (97 : Int64))), .second, .val (.long ((q1.toInt64) - (48 : Int64))), .second, .val (.int (1 : Int32)), .val (.int (0 : Int32)), .unset]) rfl ?_
            show Steps p.tables e below (s₁.setTop (mkF m 59 #[.val (.int q1), .val (.long (((q1 ||| (32 : Int32)).toInt64) - (97 : Int64))), .second, .val (.long ((q1.toInt64) - (48 : Int64))), .second, .val (.int (1 : Int32)), .val (.int (0 : Int32)), .unset] [])) _
            refine XS.iloadN X0.here hx rfl (hb hby d4_59) rfl ?_
            show Steps p.tables e below (s₁.setTop (mkF m 60 #[.val (.int q1), .val (.long (((q1 ||| (32 : Int32)).toInt64) - (97 : Int64))), .second, .val (.long ((q1.toInt64) - (48 : Int64))), .second, .val (.int (1 : Int32)), .val (.int (0 : Int32)), .unset] [(.int q1)])) _
            refine XS.bipush X0.here hx rfl (hb hby d4_60) ?_
            show Steps p.tables e below (s₁.setTop (mkF m 62 #[.val (.int q1), .val (.long (((q1 ||| (32 : Int32)).toInt64) - (97 : Int64))), .second, .val (.long ((q1.toInt64) - (48 : Int64))), .second, .val (.int (1 : Int32)), .val (.int (0 : Int32)), .unset] [(.int (45 : Int32)), (.int q1)])) _
            by_cases hc12 : q1 = (45 : Int32)
            · refine XS.icmpNo X0.here hx rfl (hb hby d4_62) rfl (teq hc12).2 ?_
              show Steps p.tables e below (s₁.setTop (mkF m 65 #[.val (.int q1), .val (.long (((q1 ||| (32 : Int32)).toInt64) - (97 : Int64))), .second, .val (.long ((q1.toInt64) - (48 : Int64))), .second, .val (.int (1 : Int32)), .val (.int (0 : Int32)), .unset] [])) _
              refine XS.iconst X0.here hx rfl (hb hby d4_65) ?_
              show Steps p.tables e below (s₁.setTop (mkF m 66 #[.val (.int q1), .val (.long (((q1 ||| (32 : Int32)).toInt64) - (97 : Int64))), .second, .val (.long ((q1.toInt64) - (48 : Int64))), .second, .val (.int (1 : Int32)), .val (.int (0 : Int32)), .unset] [(.int (1 : Int32))])) _
              refine XS.goto X0.here hx rfl (pc0 := 66) (pc' := 70) rfl (hb hby d4_66) (by decide) (by decide) ?_
              show Steps p.tables e below (s₁.setTop (mkF m 70 #[.val (.int q1), .val (.long (((q1 ||| (32 : Int32)).toInt64) - (97 : Int64))), .second, .val (.long ((q1.toInt64) - (48 : Int64))), .second, .val (.int (1 : Int32)), .val (.int (0 : Int32)), .unset] [(.int (1 : Int32))])) _
              refine XS.istore X0.here hx rfl (hb hby d4_70) rfl (l' := #[.val (.int q1), .val (.long (((q1 ||| (32 : Int32)).toInt64) - (97 : Int64))), .second, .val (.long ((q1.toInt64) - (48 : Int64))), .second, .val (.int (1 : Int32)), .val (.int (0 : Int32)), .val (.int (1 : Int32))]) rfl ?_
              show Steps p.tables e below (s₁.setTop (mkF m 72 #[.val (.int q1), .val (.long (((q1 ||| (32 : Int32)).toInt64) - (97 : Int64))), .second, .val (.long ((q1.toInt64) - (48 : Int64))), .second, .val (.int (1 : Int32)), .val (.int (0 : Int32)), .val (.int (1 : Int32))] [])) _
              refine XS.iload X0.here hx rfl (hb hby d4_72) rfl ?_
              show Steps p.tables e below (s₁.setTop (mkF m 74 #[.val (.int q1), .val (.long (((q1 ||| (32 : Int32)).toInt64) - (97 : Int64))), .second, .val (.long ((q1.toInt64) - (48 : Int64))), .second, .val (.int (1 : Int32)), .val (.int (0 : Int32)), .val (.int (1 : Int32))] [(.int (1 : Int32))])) _
              refine XS.ifYes X0.here hx rfl (pc0 := 74) (pc' := 87) rfl (hb hby d4_74) rfl ((if0 _ _).trans (feq (by decide : ¬ ((1 : Int32) = (0 : Int32)))).2) (by decide) (by decide) ?_
              show Steps p.tables e below (s₁.setTop (mkF m 87 #[.val (.int q1), .val (.long (((q1 ||| (32 : Int32)).toInt64) - (97 : Int64))), .second, .val (.long ((q1.toInt64) - (48 : Int64))), .second, .val (.int (1 : Int32)), .val (.int (0 : Int32)), .val (.int (1 : Int32))] [])) _
              refine XS.iconst X0.here hx rfl (hb hby d4_87) ?_
              show Steps p.tables e below (s₁.setTop (mkF m 88 #[.val (.int q1), .val (.long (((q1 ||| (32 : Int32)).toInt64) - (97 : Int64))), .second, .val (.long ((q1.toInt64) - (48 : Int64))), .second, .val (.int (1 : Int32)), .val (.int (0 : Int32)), .val (.int (1 : Int32))] [(.int (1 : Int32))])) _
              refine XS.goto X0.here hx rfl (pc0 := 88) (pc' := 92) rfl (hb hby d4_88) (by decide) (by decide) ?_
              show Steps p.tables e below (s₁.setTop (mkF m 92 #[.val (.int q1), .val (.long (((q1 ||| (32 : Int32)).toInt64) - (97 : Int64))), .second, .val (.long ((q1.toInt64) - (48 : Int64))), .second, .val (.int (1 : Int32)), .val (.int (0 : Int32)), .val (.int (1 : Int32))] [(.int (1 : Int32))])) _
              rw [show F4 q1 = (1 : Int32) from (if_neg hc1).trans ((if_pos hc7).trans ((if_neg hc8).trans ((if_neg hc10).trans ((if_pos hc12).trans rfl))))] at hr
              exact retN X0 hx (t := .boolean) Bd.returns (by simp) (hb hby d4_92) hr
            · refine XS.icmpYes X0.here hx rfl (pc0 := 62) (pc' := 69) rfl (hb hby d4_62) rfl (feq hc12).2 (by decide) (by decide) ?_
              show Steps p.tables e below (s₁.setTop (mkF m 69 #[.val (.int q1), .val (.long (((q1 ||| (32 : Int32)).toInt64) - (97 : Int64))), .second, .val (.long ((q1.toInt64) - (48 : Int64))), .second, .val (.int (1 : Int32)), .val (.int (0 : Int32)), .unset] [])) _
              refine XS.iconst X0.here hx rfl (hb hby d4_69) ?_
              show Steps p.tables e below (s₁.setTop (mkF m 70 #[.val (.int q1), .val (.long (((q1 ||| (32 : Int32)).toInt64) - (97 : Int64))), .second, .val (.long ((q1.toInt64) - (48 : Int64))), .second, .val (.int (1 : Int32)), .val (.int (0 : Int32)), .unset] [(.int (0 : Int32))])) _
              refine XS.istore X0.here hx rfl (hb hby d4_70) rfl (l' := #[.val (.int q1), .val (.long (((q1 ||| (32 : Int32)).toInt64) - (97 : Int64))), .second, .val (.long ((q1.toInt64) - (48 : Int64))), .second, .val (.int (1 : Int32)), .val (.int (0 : Int32)), .val (.int (0 : Int32))]) rfl ?_
              show Steps p.tables e below (s₁.setTop (mkF m 72 #[.val (.int q1), .val (.long (((q1 ||| (32 : Int32)).toInt64) - (97 : Int64))), .second, .val (.long ((q1.toInt64) - (48 : Int64))), .second, .val (.int (1 : Int32)), .val (.int (0 : Int32)), .val (.int (0 : Int32))] [])) _
              refine XS.iload X0.here hx rfl (hb hby d4_72) rfl ?_
              show Steps p.tables e below (s₁.setTop (mkF m 74 #[.val (.int q1), .val (.long (((q1 ||| (32 : Int32)).toInt64) - (97 : Int64))), .second, .val (.long ((q1.toInt64) - (48 : Int64))), .second, .val (.int (1 : Int32)), .val (.int (0 : Int32)), .val (.int (0 : Int32))] [(.int (1 : Int32))])) _
              refine XS.ifYes X0.here hx rfl (pc0 := 74) (pc' := 87) rfl (hb hby d4_74) rfl ((if0 _ _).trans (feq (by decide : ¬ ((1 : Int32) = (0 : Int32)))).2) (by decide) (by decide) ?_
              show Steps p.tables e below (s₁.setTop (mkF m 87 #[.val (.int q1), .val (.long (((q1 ||| (32 : Int32)).toInt64) - (97 : Int64))), .second, .val (.long ((q1.toInt64) - (48 : Int64))), .second, .val (.int (1 : Int32)), .val (.int (0 : Int32)), .val (.int (0 : Int32))] [])) _
              refine XS.iconst X0.here hx rfl (hb hby d4_87) ?_
              show Steps p.tables e below (s₁.setTop (mkF m 88 #[.val (.int q1), .val (.long (((q1 ||| (32 : Int32)).toInt64) - (97 : Int64))), .second, .val (.long ((q1.toInt64) - (48 : Int64))), .second, .val (.int (1 : Int32)), .val (.int (0 : Int32)), .val (.int (0 : Int32))] [(.int (1 : Int32))])) _
              refine XS.goto X0.here hx rfl (pc0 := 88) (pc' := 92) rfl (hb hby d4_88) (by decide) (by decide) ?_
              show Steps p.tables e below (s₁.setTop (mkF m 92 #[.val (.int q1), .val (.long (((q1 ||| (32 : Int32)).toInt64) - (97 : Int64))), .second, .val (.long ((q1.toInt64) - (48 : Int64))), .second, .val (.int (1 : Int32)), .val (.int (0 : Int32)), .val (.int (0 : Int32))] [(.int (1 : Int32))])) _
              rw [show F4 q1 = (1 : Int32) from (if_neg hc1).trans ((if_pos hc7).trans ((if_neg hc8).trans ((if_neg hc10).trans ((if_neg hc12).trans rfl))))] at hr
              exact retN X0 hx (t := .boolean) Bd.returns (by simp) (hb hby d4_92) hr
      · refine XS.ifYes X0.here hx rfl (pc0 := 28) (pc' := 35) rfl (hb hby d4_28) rfl ((if0 _ _).trans (flt hc7).2.1) (by decide) (by decide) ?_
        show Steps p.tables e below (s₁.setTop (mkF m 35 #[.val (.int q1), .val (.long (((q1 ||| (32 : Int32)).toInt64) - (97 : Int64))), .second, .val (.long ((q1.toInt64) - (48 : Int64))), .second, .unset, .unset, .unset] [])) _
        refine XS.iconst X0.here hx rfl (hb hby d4_35) ?_
        show Steps p.tables e below (s₁.setTop (mkF m 36 #[.val (.int q1), .val (.long (((q1 ||| (32 : Int32)).toInt64) - (97 : Int64))), .second, .val (.long ((q1.toInt64) - (48 : Int64))), .second, .unset, .unset, .unset] [(.int (0 : Int32))])) _
        refine XS.istore X0.here hx rfl (hb hby d4_36) rfl (l' := #[.val (.int q1), .val (.long (((q1 ||| (32 : Int32)).toInt64) - (97 : Int64))), .second, .val (.long ((q1.toInt64) - (48 : Int64))), .second, .val (.int (0 : Int32)), .unset, .unset]) rfl ?_
        show Steps p.tables e below (s₁.setTop (mkF m 38 #[.val (.int q1), .val (.long (((q1 ||| (32 : Int32)).toInt64) - (97 : Int64))), .second, .val (.long ((q1.toInt64) - (48 : Int64))), .second, .val (.int (0 : Int32)), .unset, .unset] [])) _
        refine XS.lloadN X0.here hx rfl (hb hby d4_38) rfl ?_
        show Steps p.tables e below (s₁.setTop (mkF m 39 #[.val (.int q1), .val (.long (((q1 ||| (32 : Int32)).toInt64) - (97 : Int64))), .second, .val (.long ((q1.toInt64) - (48 : Int64))), .second, .val (.int (0 : Int32)), .unset, .unset] [(.long ((q1.toInt64) - (48 : Int64)))])) _
        refine XS.lconst X0.here hx rfl (hb hby d4_39) ?_
        show Steps p.tables e below (s₁.setTop (mkF m 40 #[.val (.int q1), .val (.long (((q1 ||| (32 : Int32)).toInt64) - (97 : Int64))), .second, .val (.long ((q1.toInt64) - (48 : Int64))), .second, .val (.int (0 : Int32)), .unset, .unset] [(.long (0 : Int64)), (.long ((q1.toInt64) - (48 : Int64)))])) _
        refine XS.lcmp X0.here hx rfl (hb hby d4_40) rfl ?_
        show Steps p.tables e below (s₁.setTop (mkF m 41 #[.val (.int q1), .val (.long (((q1 ||| (32 : Int32)).toInt64) - (97 : Int64))), .second, .val (.long ((q1.toInt64) - (48 : Int64))), .second, .val (.int (0 : Int32)), .unset, .unset] [(.int (lcmpW ((q1.toInt64) - (48 : Int64)) (0 : Int64)))])) _
        by_cases hc13 : (lcmpW ((q1.toInt64) - (48 : Int64)) (0 : Int64)) < (0 : Int32)
        · refine XS.ifYes X0.here hx rfl (pc0 := 41) (pc' := 56) rfl (hb hby d4_41) rfl ((if0 _ _).trans (tlt hc13).1) (by decide) (by decide) ?_
          show Steps p.tables e below (s₁.setTop (mkF m 56 #[.val (.int q1), .val (.long (((q1 ||| (32 : Int32)).toInt64) - (97 : Int64))), .second, .val (.long ((q1.toInt64) - (48 : Int64))), .second, .val (.int (0 : Int32)), .unset, .unset] [])) _
          refine XS.iconst X0.here hx rfl (hb hby d4_56) ?_
          show Steps p.tables e below (s₁.setTop (mkF m 57 #[.val (.int q1), .val (.long (((q1 ||| (32 : Int32)).toInt64) - (97 : Int64))), .second, .val (.long ((q1.toInt64) - (48 : Int64))), .second, .val (.int (0 : Int32)), .unset, .unset] [(.int (0 : Int32))])) _
          refine XS.istore X0.here hx rfl (hb hby d4_57) rfl (l' := #[.val (.int q1), .val (.long (((q1 ||| (32 : Int32)).toInt64) - (97 : Int64))), .second, .val (.long ((q1.toInt64) - (48 : Int64))), .second, .val (.int (0 : Int32)), .val (.int (0 : Int32)), .unset]) rfl ?_
          show Steps p.tables e below (s₁.setTop (mkF m 59 #[.val (.int q1), .val (.long (((q1 ||| (32 : Int32)).toInt64) - (97 : Int64))), .second, .val (.long ((q1.toInt64) - (48 : Int64))), .second, .val (.int (0 : Int32)), .val (.int (0 : Int32)), .unset] [])) _
          refine XS.iloadN X0.here hx rfl (hb hby d4_59) rfl ?_
          show Steps p.tables e below (s₁.setTop (mkF m 60 #[.val (.int q1), .val (.long (((q1 ||| (32 : Int32)).toInt64) - (97 : Int64))), .second, .val (.long ((q1.toInt64) - (48 : Int64))), .second, .val (.int (0 : Int32)), .val (.int (0 : Int32)), .unset] [(.int q1)])) _
          refine XS.bipush X0.here hx rfl (hb hby d4_60) ?_
          show Steps p.tables e below (s₁.setTop (mkF m 62 #[.val (.int q1), .val (.long (((q1 ||| (32 : Int32)).toInt64) - (97 : Int64))), .second, .val (.long ((q1.toInt64) - (48 : Int64))), .second, .val (.int (0 : Int32)), .val (.int (0 : Int32)), .unset] [(.int (45 : Int32)), (.int q1)])) _
          by_cases hc14 : q1 = (45 : Int32)
          · refine XS.icmpNo X0.here hx rfl (hb hby d4_62) rfl (teq hc14).2 ?_
            show Steps p.tables e below (s₁.setTop (mkF m 65 #[.val (.int q1), .val (.long (((q1 ||| (32 : Int32)).toInt64) - (97 : Int64))), .second, .val (.long ((q1.toInt64) - (48 : Int64))), .second, .val (.int (0 : Int32)), .val (.int (0 : Int32)), .unset] [])) _
            refine XS.iconst X0.here hx rfl (hb hby d4_65) ?_
            show Steps p.tables e below (s₁.setTop (mkF m 66 #[.val (.int q1), .val (.long (((q1 ||| (32 : Int32)).toInt64) - (97 : Int64))), .second, .val (.long ((q1.toInt64) - (48 : Int64))), .second, .val (.int (0 : Int32)), .val (.int (0 : Int32)), .unset] [(.int (1 : Int32))])) _
            refine XS.goto X0.here hx rfl (pc0 := 66) (pc' := 70) rfl (hb hby d4_66) (by decide) (by decide) ?_
            show Steps p.tables e below (s₁.setTop (mkF m 70 #[.val (.int q1), .val (.long (((q1 ||| (32 : Int32)).toInt64) - (97 : Int64))), .second, .val (.long ((q1.toInt64) - (48 : Int64))), .second, .val (.int (0 : Int32)), .val (.int (0 : Int32)), .unset] [(.int (1 : Int32))])) _
            refine XS.istore X0.here hx rfl (hb hby d4_70) rfl (l' := #[.val (.int q1), .val (.long (((q1 ||| (32 : Int32)).toInt64) - (97 : Int64))), .second, .val (.long ((q1.toInt64) - (48 : Int64))), .second, .val (.int (0 : Int32)), .val (.int (0 : Int32)), .val (.int (1 : Int32))]) rfl ?_
            show Steps p.tables e below (s₁.setTop (mkF m 72 #[.val (.int q1), .val (.long (((q1 ||| (32 : Int32)).toInt64) - (97 : Int64))), .second, .val (.long ((q1.toInt64) - (48 : Int64))), .second, .val (.int (0 : Int32)), .val (.int (0 : Int32)), .val (.int (1 : Int32))] [])) _
            refine XS.iload X0.here hx rfl (hb hby d4_72) rfl ?_
            show Steps p.tables e below (s₁.setTop (mkF m 74 #[.val (.int q1), .val (.long (((q1 ||| (32 : Int32)).toInt64) - (97 : Int64))), .second, .val (.long ((q1.toInt64) - (48 : Int64))), .second, .val (.int (0 : Int32)), .val (.int (0 : Int32)), .val (.int (1 : Int32))] [(.int (0 : Int32))])) _
            refine XS.ifNo X0.here hx rfl (hb hby d4_74) rfl ((if0 _ _).trans (teq (by decide : (0 : Int32) = (0 : Int32))).2) ?_
            show Steps p.tables e below (s₁.setTop (mkF m 77 #[.val (.int q1), .val (.long (((q1 ||| (32 : Int32)).toInt64) - (97 : Int64))), .second, .val (.long ((q1.toInt64) - (48 : Int64))), .second, .val (.int (0 : Int32)), .val (.int (0 : Int32)), .val (.int (1 : Int32))] [])) _
            refine XS.iload X0.here hx rfl (hb hby d4_77) rfl ?_
            show Steps p.tables e below (s₁.setTop (mkF m 79 #[.val (.int q1), .val (.long (((q1 ||| (32 : Int32)).toInt64) - (97 : Int64))), .second, .val (.long ((q1.toInt64) - (48 : Int64))), .second, .val (.int (0 : Int32)), .val (.int (0 : Int32)), .val (.int (1 : Int32))] [(.int (0 : Int32))])) _
            refine XS.ifNo X0.here hx rfl (hb hby d4_79) rfl ((if0 _ _).trans (teq (by decide : (0 : Int32) = (0 : Int32))).2) ?_
            show Steps p.tables e below (s₁.setTop (mkF m 82 #[.val (.int q1), .val (.long (((q1 ||| (32 : Int32)).toInt64) - (97 : Int64))), .second, .val (.long ((q1.toInt64) - (48 : Int64))), .second, .val (.int (0 : Int32)), .val (.int (0 : Int32)), .val (.int (1 : Int32))] [])) _
            refine XS.iload X0.here hx rfl (hb hby d4_82) rfl ?_
            show Steps p.tables e below (s₁.setTop (mkF m 84 #[.val (.int q1), .val (.long (((q1 ||| (32 : Int32)).toInt64) - (97 : Int64))), .second, .val (.long ((q1.toInt64) - (48 : Int64))), .second, .val (.int (0 : Int32)), .val (.int (0 : Int32)), .val (.int (1 : Int32))] [(.int (1 : Int32))])) _
            refine XS.ifNo X0.here hx rfl (hb hby d4_84) rfl ((if0 _ _).trans (feq (by decide : ¬ ((1 : Int32) = (0 : Int32)))).1) ?_
            show Steps p.tables e below (s₁.setTop (mkF m 87 #[.val (.int q1), .val (.long (((q1 ||| (32 : Int32)).toInt64) - (97 : Int64))), .second, .val (.long ((q1.toInt64) - (48 : Int64))), .second, .val (.int (0 : Int32)), .val (.int (0 : Int32)), .val (.int (1 : Int32))] [])) _
            refine XS.iconst X0.here hx rfl (hb hby d4_87) ?_
            show Steps p.tables e below (s₁.setTop (mkF m 88 #[.val (.int q1), .val (.long (((q1 ||| (32 : Int32)).toInt64) - (97 : Int64))), .second, .val (.long ((q1.toInt64) - (48 : Int64))), .second, .val (.int (0 : Int32)), .val (.int (0 : Int32)), .val (.int (1 : Int32))] [(.int (1 : Int32))])) _
            refine XS.goto X0.here hx rfl (pc0 := 88) (pc' := 92) rfl (hb hby d4_88) (by decide) (by decide) ?_
            show Steps p.tables e below (s₁.setTop (mkF m 92 #[.val (.int q1), .val (.long (((q1 ||| (32 : Int32)).toInt64) - (97 : Int64))), .second, .val (.long ((q1.toInt64) - (48 : Int64))), .second, .val (.int (0 : Int32)), .val (.int (0 : Int32)), .val (.int (1 : Int32))] [(.int (1 : Int32))])) _
            rw [show F4 q1 = (1 : Int32) from (if_neg hc1).trans ((if_neg hc7).trans ((if_pos hc13).trans ((if_pos hc14).trans rfl)))] at hr
            exact retN X0 hx (t := .boolean) Bd.returns (by simp) (hb hby d4_92) hr
          · refine XS.icmpYes X0.here hx rfl (pc0 := 62) (pc' := 69) rfl (hb hby d4_62) rfl (feq hc14).2 (by decide) (by decide) ?_
            show Steps p.tables e below (s₁.setTop (mkF m 69 #[.val (.int q1), .val (.long (((q1 ||| (32 : Int32)).toInt64) - (97 : Int64))), .second, .val (.long ((q1.toInt64) - (48 : Int64))), .second, .val (.int (0 : Int32)), .val (.int (0 : Int32)), .unset] [])) _
            refine XS.iconst X0.here hx rfl (hb hby d4_69) ?_
            show Steps p.tables e below (s₁.setTop (mkF m 70 #[.val (.int q1), .val (.long (((q1 ||| (32 : Int32)).toInt64) - (97 : Int64))), .second, .val (.long ((q1.toInt64) - (48 : Int64))), .second, .val (.int (0 : Int32)), .val (.int (0 : Int32)), .unset] [(.int (0 : Int32))])) _
            refine XS.istore X0.here hx rfl (hb hby d4_70) rfl (l' := #[.val (.int q1), .val (.long (((q1 ||| (32 : Int32)).toInt64) - (97 : Int64))), .second, .val (.long ((q1.toInt64) - (48 : Int64))), .second, .val (.int (0 : Int32)), .val (.int (0 : Int32)), .val (.int (0 : Int32))]) rfl ?_
            show Steps p.tables e below (s₁.setTop (mkF m 72 #[.val (.int q1), .val (.long (((q1 ||| (32 : Int32)).toInt64) - (97 : Int64))), .second, .val (.long ((q1.toInt64) - (48 : Int64))), .second, .val (.int (0 : Int32)), .val (.int (0 : Int32)), .val (.int (0 : Int32))] [])) _
            refine XS.iload X0.here hx rfl (hb hby d4_72) rfl ?_
            show Steps p.tables e below (s₁.setTop (mkF m 74 #[.val (.int q1), .val (.long (((q1 ||| (32 : Int32)).toInt64) - (97 : Int64))), .second, .val (.long ((q1.toInt64) - (48 : Int64))), .second, .val (.int (0 : Int32)), .val (.int (0 : Int32)), .val (.int (0 : Int32))] [(.int (0 : Int32))])) _
            refine XS.ifNo X0.here hx rfl (hb hby d4_74) rfl ((if0 _ _).trans (teq (by decide : (0 : Int32) = (0 : Int32))).2) ?_
            show Steps p.tables e below (s₁.setTop (mkF m 77 #[.val (.int q1), .val (.long (((q1 ||| (32 : Int32)).toInt64) - (97 : Int64))), .second, .val (.long ((q1.toInt64) - (48 : Int64))), .second, .val (.int (0 : Int32)), .val (.int (0 : Int32)), .val (.int (0 : Int32))] [])) _
            refine XS.iload X0.here hx rfl (hb hby d4_77) rfl ?_
            show Steps p.tables e below (s₁.setTop (mkF m 79 #[.val (.int q1), .val (.long (((q1 ||| (32 : Int32)).toInt64) - (97 : Int64))), .second, .val (.long ((q1.toInt64) - (48 : Int64))), .second, .val (.int (0 : Int32)), .val (.int (0 : Int32)), .val (.int (0 : Int32))] [(.int (0 : Int32))])) _
            refine XS.ifNo X0.here hx rfl (hb hby d4_79) rfl ((if0 _ _).trans (teq (by decide : (0 : Int32) = (0 : Int32))).2) ?_
            show Steps p.tables e below (s₁.setTop (mkF m 82 #[.val (.int q1), .val (.long (((q1 ||| (32 : Int32)).toInt64) - (97 : Int64))), .second, .val (.long ((q1.toInt64) - (48 : Int64))), .second, .val (.int (0 : Int32)), .val (.int (0 : Int32)), .val (.int (0 : Int32))] [])) _
            refine XS.iload X0.here hx rfl (hb hby d4_82) rfl ?_
            show Steps p.tables e below (s₁.setTop (mkF m 84 #[.val (.int q1), .val (.long (((q1 ||| (32 : Int32)).toInt64) - (97 : Int64))), .second, .val (.long ((q1.toInt64) - (48 : Int64))), .second, .val (.int (0 : Int32)), .val (.int (0 : Int32)), .val (.int (0 : Int32))] [(.int (0 : Int32))])) _
            refine XS.ifYes X0.here hx rfl (pc0 := 84) (pc' := 91) rfl (hb hby d4_84) rfl ((if0 _ _).trans (teq (by decide : (0 : Int32) = (0 : Int32))).1) (by decide) (by decide) ?_
            show Steps p.tables e below (s₁.setTop (mkF m 91 #[.val (.int q1), .val (.long (((q1 ||| (32 : Int32)).toInt64) - (97 : Int64))), .second, .val (.long ((q1.toInt64) - (48 : Int64))), .second, .val (.int (0 : Int32)), .val (.int (0 : Int32)), .val (.int (0 : Int32))] [])) _
            refine XS.iconst X0.here hx rfl (hb hby d4_91) ?_
            show Steps p.tables e below (s₁.setTop (mkF m 92 #[.val (.int q1), .val (.long (((q1 ||| (32 : Int32)).toInt64) - (97 : Int64))), .second, .val (.long ((q1.toInt64) - (48 : Int64))), .second, .val (.int (0 : Int32)), .val (.int (0 : Int32)), .val (.int (0 : Int32))] [(.int (0 : Int32))])) _
            rw [show F4 q1 = (0 : Int32) from (if_neg hc1).trans ((if_neg hc7).trans ((if_pos hc13).trans ((if_neg hc14).trans rfl)))] at hr
            exact retN X0 hx (t := .boolean) Bd.returns (by simp) (hb hby d4_92) hr
        · refine XS.ifNo X0.here hx rfl (hb hby d4_41) rfl ((if0 _ _).trans (flt hc13).1) ?_
          show Steps p.tables e below (s₁.setTop (mkF m 44 #[.val (.int q1), .val (.long (((q1 ||| (32 : Int32)).toInt64) - (97 : Int64))), .second, .val (.long ((q1.toInt64) - (48 : Int64))), .second, .val (.int (0 : Int32)), .unset, .unset] [])) _
          refine XS.lloadN X0.here hx rfl (hb hby d4_44) rfl ?_
          show Steps p.tables e below (s₁.setTop (mkF m 45 #[.val (.int q1), .val (.long (((q1 ||| (32 : Int32)).toInt64) - (97 : Int64))), .second, .val (.long ((q1.toInt64) - (48 : Int64))), .second, .val (.int (0 : Int32)), .unset, .unset] [(.long ((q1.toInt64) - (48 : Int64)))])) _
          refine X0.ldc2Long hx hown (mvT hZ (hw _ (List.mem_of_getElem? (i := 18) rfl))) (g := (mkF m 45 #[.val (.int q1), .val (.long (((q1 ||| (32 : Int32)).toInt64) - (97 : Int64))), .second, .val (.long ((q1.toInt64) - (48 : Int64))), .second, .val (.int (0 : Int32)), .unset, .unset] [(.long ((q1.toInt64) - (48 : Int64)))])) rfl (hb hby d4_45) _ ?_
          show Steps p.tables e below (s₁.setTop (mkF m 48 #[.val (.int q1), .val (.long (((q1 ||| (32 : Int32)).toInt64) - (97 : Int64))), .second, .val (.long ((q1.toInt64) - (48 : Int64))), .second, .val (.int (0 : Int32)), .unset, .unset] [(.long (10 : Int64)), (.long ((q1.toInt64) - (48 : Int64)))])) _
          refine XS.lcmp X0.here hx rfl (hb hby d4_48) rfl ?_
          show Steps p.tables e below (s₁.setTop (mkF m 49 #[.val (.int q1), .val (.long (((q1 ||| (32 : Int32)).toInt64) - (97 : Int64))), .second, .val (.long ((q1.toInt64) - (48 : Int64))), .second, .val (.int (0 : Int32)), .unset, .unset] [(.int (lcmpW ((q1.toInt64) - (48 : Int64)) (10 : Int64)))])) _
          by_cases hc15 : (lcmpW ((q1.toInt64) - (48 : Int64)) (10 : Int64)) < (0 : Int32)
          · refine XS.ifNo X0.here hx rfl (hb hby d4_49) rfl ((if0 _ _).trans (tlt hc15).2.1) ?_
            show Steps p.tables e below (s₁.setTop (mkF m 52 #[.val (.int q1), .val (.long (((q1 ||| (32 : Int32)).toInt64) - (97 : Int64))), .second, .val (.long ((q1.toInt64) - (48 : Int64))), .second, .val (.int (0 : Int32)), .unset, .unset] [])) _
            refine XS.iconst X0.here hx rfl (hb hby d4_52) ?_
            show Steps p.tables e below (s₁.setTop (mkF m 53 #[.val (.int q1), .val (.long (((q1 ||| (32 : Int32)).toInt64) - (97 : Int64))), .second, .val (.long ((q1.toInt64) - (48 : Int64))), .second, .val (.int (0 : Int32)), .unset, .unset] [(.int (1 : Int32))])) _
            refine XS.goto X0.here hx rfl (pc0 := 53) (pc' := 57) rfl (hb hby d4_53) (by decide) (by decide) ?_
            show Steps p.tables e below (s₁.setTop (mkF m 57 #[.val (.int q1), .val (.long (((q1 ||| (32 : Int32)).toInt64) - (97 : Int64))), .second, .val (.long ((q1.toInt64) - (48 : Int64))), .second, .val (.int (0 : Int32)), .unset, .unset] [(.int (1 : Int32))])) _
            refine XS.istore X0.here hx rfl (hb hby d4_57) rfl (l' := #[.val (.int q1), .val (.long (((q1 ||| (32 : Int32)).toInt64) - (97 : Int64))), .second, .val (.long ((q1.toInt64) - (48 : Int64))), .second, .val (.int (0 : Int32)), .val (.int (1 : Int32)), .unset]) rfl ?_
            show Steps p.tables e below (s₁.setTop (mkF m 59 #[.val (.int q1), .val (.long (((q1 ||| (32 : Int32)).toInt64) - (97 : Int64))), .second, .val (.long ((q1.toInt64) - (48 : Int64))), .second, .val (.int (0 : Int32)), .val (.int (1 : Int32)), .unset] [])) _
            refine XS.iloadN X0.here hx rfl (hb hby d4_59) rfl ?_
            show Steps p.tables e below (s₁.setTop (mkF m 60 #[.val (.int q1), .val (.long (((q1 ||| (32 : Int32)).toInt64) - (97 : Int64))), .second, .val (.long ((q1.toInt64) - (48 : Int64))), .second, .val (.int (0 : Int32)), .val (.int (1 : Int32)), .unset] [(.int q1)])) _
            refine XS.bipush X0.here hx rfl (hb hby d4_60) ?_
            show Steps p.tables e below (s₁.setTop (mkF m 62 #[.val (.int q1), .val (.long (((q1 ||| (32 : Int32)).toInt64) - (97 : Int64))), .second, .val (.long ((q1.toInt64) - (48 : Int64))), .second, .val (.int (0 : Int32)), .val (.int (1 : Int32)), .unset] [(.int (45 : Int32)), (.int q1)])) _
            by_cases hc16 : q1 = (45 : Int32)
            · refine XS.icmpNo X0.here hx rfl (hb hby d4_62) rfl (teq hc16).2 ?_
              show Steps p.tables e below (s₁.setTop (mkF m 65 #[.val (.int q1), .val (.long (((q1 ||| (32 : Int32)).toInt64) - (97 : Int64))), .second, .val (.long ((q1.toInt64) - (48 : Int64))), .second, .val (.int (0 : Int32)), .val (.int (1 : Int32)), .unset] [])) _
              refine XS.iconst X0.here hx rfl (hb hby d4_65) ?_
              show Steps p.tables e below (s₁.setTop (mkF m 66 #[.val (.int q1), .val (.long (((q1 ||| (32 : Int32)).toInt64) - (97 : Int64))), .second, .val (.long ((q1.toInt64) - (48 : Int64))), .second, .val (.int (0 : Int32)), .val (.int (1 : Int32)), .unset] [(.int (1 : Int32))])) _
              refine XS.goto X0.here hx rfl (pc0 := 66) (pc' := 70) rfl (hb hby d4_66) (by decide) (by decide) ?_
              show Steps p.tables e below (s₁.setTop (mkF m 70 #[.val (.int q1), .val (.long (((q1 ||| (32 : Int32)).toInt64) - (97 : Int64))), .second, .val (.long ((q1.toInt64) - (48 : Int64))), .second, .val (.int (0 : Int32)), .val (.int (1 : Int32)), .unset] [(.int (1 : Int32))])) _
              refine XS.istore X0.here hx rfl (hb hby d4_70) rfl (l' := #[.val (.int q1), .val (.long (((q1 ||| (32 : Int32)).toInt64) - (97 : Int64))), .second, .val (.long ((q1.toInt64) - (48 : Int64))), .second, .val (.int (0 : Int32)), .val (.int (1 : Int32)), .val (.int (1 : Int32))]) rfl ?_
              show Steps p.tables e below (s₁.setTop (mkF m 72 #[.val (.int q1), .val (.long (((q1 ||| (32 : Int32)).toInt64) - (97 : Int64))), .second, .val (.long ((q1.toInt64) - (48 : Int64))), .second, .val (.int (0 : Int32)), .val (.int (1 : Int32)), .val (.int (1 : Int32))] [])) _
              refine XS.iload X0.here hx rfl (hb hby d4_72) rfl ?_
              show Steps p.tables e below (s₁.setTop (mkF m 74 #[.val (.int q1), .val (.long (((q1 ||| (32 : Int32)).toInt64) - (97 : Int64))), .second, .val (.long ((q1.toInt64) - (48 : Int64))), .second, .val (.int (0 : Int32)), .val (.int (1 : Int32)), .val (.int (1 : Int32))] [(.int (0 : Int32))])) _
              refine XS.ifNo X0.here hx rfl (hb hby d4_74) rfl ((if0 _ _).trans (teq (by decide : (0 : Int32) = (0 : Int32))).2) ?_
              show Steps p.tables e below (s₁.setTop (mkF m 77 #[.val (.int q1), .val (.long (((q1 ||| (32 : Int32)).toInt64) - (97 : Int64))), .second, .val (.long ((q1.toInt64) - (48 : Int64))), .second, .val (.int (0 : Int32)), .val (.int (1 : Int32)), .val (.int (1 : Int32))] [])) _
              refine XS.iload X0.here hx rfl (hb hby d4_77) rfl ?_
              show Steps p.tables e below (s₁.setTop (mkF m 79 #[.val (.int q1), .val (.long (((q1 ||| (32 : Int32)).toInt64) - (97 : Int64))), .second, .val (.long ((q1.toInt64) - (48 : Int64))), .second, .val (.int (0 : Int32)), .val (.int (1 : Int32)), .val (.int (1 : Int32))] [(.int (1 : Int32))])) _
              refine XS.ifYes X0.here hx rfl (pc0 := 79) (pc' := 87) rfl (hb hby d4_79) rfl ((if0 _ _).trans (feq (by decide : ¬ ((1 : Int32) = (0 : Int32)))).2) (by decide) (by decide) ?_
              show Steps p.tables e below (s₁.setTop (mkF m 87 #[.val (.int q1), .val (.long (((q1 ||| (32 : Int32)).toInt64) - (97 : Int64))), .second, .val (.long ((q1.toInt64) - (48 : Int64))), .second, .val (.int (0 : Int32)), .val (.int (1 : Int32)), .val (.int (1 : Int32))] [])) _
              refine XS.iconst X0.here hx rfl (hb hby d4_87) ?_
              show Steps p.tables e below (s₁.setTop (mkF m 88 #[.val (.int q1), .val (.long (((q1 ||| (32 : Int32)).toInt64) - (97 : Int64))), .second, .val (.long ((q1.toInt64) - (48 : Int64))), .second, .val (.int (0 : Int32)), .val (.int (1 : Int32)), .val (.int (1 : Int32))] [(.int (1 : Int32))])) _
              refine XS.goto X0.here hx rfl (pc0 := 88) (pc' := 92) rfl (hb hby d4_88) (by decide) (by decide) ?_
              show Steps p.tables e below (s₁.setTop (mkF m 92 #[.val (.int q1), .val (.long (((q1 ||| (32 : Int32)).toInt64) - (97 : Int64))), .second, .val (.long ((q1.toInt64) - (48 : Int64))), .second, .val (.int (0 : Int32)), .val (.int (1 : Int32)), .val (.int (1 : Int32))] [(.int (1 : Int32))])) _
              rw [show F4 q1 = (1 : Int32) from (if_neg hc1).trans ((if_neg hc7).trans ((if_neg hc13).trans ((if_pos hc15).trans ((if_pos hc16).trans rfl))))] at hr
              exact retN X0 hx (t := .boolean) Bd.returns (by simp) (hb hby d4_92) hr
            · refine XS.icmpYes X0.here hx rfl (pc0 := 62) (pc' := 69) rfl (hb hby d4_62) rfl (feq hc16).2 (by decide) (by decide) ?_
              show Steps p.tables e below (s₁.setTop (mkF m 69 #[.val (.int q1), .val (.long (((q1 ||| (32 : Int32)).toInt64) - (97 : Int64))), .second, .val (.long ((q1.toInt64) - (48 : Int64))), .second, .val (.int (0 : Int32)), .val (.int (1 : Int32)), .unset] [])) _
              refine XS.iconst X0.here hx rfl (hb hby d4_69) ?_
              show Steps p.tables e below (s₁.setTop (mkF m 70 #[.val (.int q1), .val (.long (((q1 ||| (32 : Int32)).toInt64) - (97 : Int64))), .second, .val (.long ((q1.toInt64) - (48 : Int64))), .second, .val (.int (0 : Int32)), .val (.int (1 : Int32)), .unset] [(.int (0 : Int32))])) _
              refine XS.istore X0.here hx rfl (hb hby d4_70) rfl (l' := #[.val (.int q1), .val (.long (((q1 ||| (32 : Int32)).toInt64) - (97 : Int64))), .second, .val (.long ((q1.toInt64) - (48 : Int64))), .second, .val (.int (0 : Int32)), .val (.int (1 : Int32)), .val (.int (0 : Int32))]) rfl ?_
              show Steps p.tables e below (s₁.setTop (mkF m 72 #[.val (.int q1), .val (.long (((q1 ||| (32 : Int32)).toInt64) - (97 : Int64))), .second, .val (.long ((q1.toInt64) - (48 : Int64))), .second, .val (.int (0 : Int32)), .val (.int (1 : Int32)), .val (.int (0 : Int32))] [])) _
              refine XS.iload X0.here hx rfl (hb hby d4_72) rfl ?_
              show Steps p.tables e below (s₁.setTop (mkF m 74 #[.val (.int q1), .val (.long (((q1 ||| (32 : Int32)).toInt64) - (97 : Int64))), .second, .val (.long ((q1.toInt64) - (48 : Int64))), .second, .val (.int (0 : Int32)), .val (.int (1 : Int32)), .val (.int (0 : Int32))] [(.int (0 : Int32))])) _
              refine XS.ifNo X0.here hx rfl (hb hby d4_74) rfl ((if0 _ _).trans (teq (by decide : (0 : Int32) = (0 : Int32))).2) ?_
              show Steps p.tables e below (s₁.setTop (mkF m 77 #[.val (.int q1), .val (.long (((q1 ||| (32 : Int32)).toInt64) - (97 : Int64))), .second, .val (.long ((q1.toInt64) - (48 : Int64))), .second, .val (.int (0 : Int32)), .val (.int (1 : Int32)), .val (.int (0 : Int32))] [])) _
              refine XS.iload X0.here hx rfl (hb hby d4_77) rfl ?_
              show Steps p.tables e below (s₁.setTop (mkF m 79 #[.val (.int q1), .val (.long (((q1 ||| (32 : Int32)).toInt64) - (97 : Int64))), .second, .val (.long ((q1.toInt64) - (48 : Int64))), .second, .val (.int (0 : Int32)), .val (.int (1 : Int32)), .val (.int (0 : Int32))] [(.int (1 : Int32))])) _
              refine XS.ifYes X0.here hx rfl (pc0 := 79) (pc' := 87) rfl (hb hby d4_79) rfl ((if0 _ _).trans (feq (by decide : ¬ ((1 : Int32) = (0 : Int32)))).2) (by decide) (by decide) ?_
              show Steps p.tables e below (s₁.setTop (mkF m 87 #[.val (.int q1), .val (.long (((q1 ||| (32 : Int32)).toInt64) - (97 : Int64))), .second, .val (.long ((q1.toInt64) - (48 : Int64))), .second, .val (.int (0 : Int32)), .val (.int (1 : Int32)), .val (.int (0 : Int32))] [])) _
              refine XS.iconst X0.here hx rfl (hb hby d4_87) ?_
              show Steps p.tables e below (s₁.setTop (mkF m 88 #[.val (.int q1), .val (.long (((q1 ||| (32 : Int32)).toInt64) - (97 : Int64))), .second, .val (.long ((q1.toInt64) - (48 : Int64))), .second, .val (.int (0 : Int32)), .val (.int (1 : Int32)), .val (.int (0 : Int32))] [(.int (1 : Int32))])) _
              refine XS.goto X0.here hx rfl (pc0 := 88) (pc' := 92) rfl (hb hby d4_88) (by decide) (by decide) ?_
              show Steps p.tables e below (s₁.setTop (mkF m 92 #[.val (.int q1), .val (.long (((q1 ||| (32 : Int32)).toInt64) - (97 : Int64))), .second, .val (.long ((q1.toInt64) - (48 : Int64))), .second, .val (.int (0 : Int32)), .val (.int (1 : Int32)), .val (.int (0 : Int32))] [(.int (1 : Int32))])) _
              rw [show F4 q1 = (1 : Int32) from (if_neg hc1).trans ((if_neg hc7).trans ((if_neg hc13).trans ((if_pos hc15).trans ((if_neg hc16).trans rfl))))] at hr
              exact retN X0 hx (t := .boolean) Bd.returns (by simp) (hb hby d4_92) hr
          · refine XS.ifYes X0.here hx rfl (pc0 := 49) (pc' := 56) rfl (hb hby d4_49) rfl ((if0 _ _).trans (flt hc15).2.1) (by decide) (by decide) ?_
            show Steps p.tables e below (s₁.setTop (mkF m 56 #[.val (.int q1), .val (.long (((q1 ||| (32 : Int32)).toInt64) - (97 : Int64))), .second, .val (.long ((q1.toInt64) - (48 : Int64))), .second, .val (.int (0 : Int32)), .unset, .unset] [])) _
            refine XS.iconst X0.here hx rfl (hb hby d4_56) ?_
            show Steps p.tables e below (s₁.setTop (mkF m 57 #[.val (.int q1), .val (.long (((q1 ||| (32 : Int32)).toInt64) - (97 : Int64))), .second, .val (.long ((q1.toInt64) - (48 : Int64))), .second, .val (.int (0 : Int32)), .unset, .unset] [(.int (0 : Int32))])) _
            refine XS.istore X0.here hx rfl (hb hby d4_57) rfl (l' := #[.val (.int q1), .val (.long (((q1 ||| (32 : Int32)).toInt64) - (97 : Int64))), .second, .val (.long ((q1.toInt64) - (48 : Int64))), .second, .val (.int (0 : Int32)), .val (.int (0 : Int32)), .unset]) rfl ?_
            show Steps p.tables e below (s₁.setTop (mkF m 59 #[.val (.int q1), .val (.long (((q1 ||| (32 : Int32)).toInt64) - (97 : Int64))), .second, .val (.long ((q1.toInt64) - (48 : Int64))), .second, .val (.int (0 : Int32)), .val (.int (0 : Int32)), .unset] [])) _
            refine XS.iloadN X0.here hx rfl (hb hby d4_59) rfl ?_
            show Steps p.tables e below (s₁.setTop (mkF m 60 #[.val (.int q1), .val (.long (((q1 ||| (32 : Int32)).toInt64) - (97 : Int64))), .second, .val (.long ((q1.toInt64) - (48 : Int64))), .second, .val (.int (0 : Int32)), .val (.int (0 : Int32)), .unset] [(.int q1)])) _
            refine XS.bipush X0.here hx rfl (hb hby d4_60) ?_
            show Steps p.tables e below (s₁.setTop (mkF m 62 #[.val (.int q1), .val (.long (((q1 ||| (32 : Int32)).toInt64) - (97 : Int64))), .second, .val (.long ((q1.toInt64) - (48 : Int64))), .second, .val (.int (0 : Int32)), .val (.int (0 : Int32)), .unset] [(.int (45 : Int32)), (.int q1)])) _
            by_cases hc17 : q1 = (45 : Int32)
            · refine XS.icmpNo X0.here hx rfl (hb hby d4_62) rfl (teq hc17).2 ?_
              show Steps p.tables e below (s₁.setTop (mkF m 65 #[.val (.int q1), .val (.long (((q1 ||| (32 : Int32)).toInt64) - (97 : Int64))), .second, .val (.long ((q1.toInt64) - (48 : Int64))), .second, .val (.int (0 : Int32)), .val (.int (0 : Int32)), .unset] [])) _
              refine XS.iconst X0.here hx rfl (hb hby d4_65) ?_
              show Steps p.tables e below (s₁.setTop (mkF m 66 #[.val (.int q1), .val (.long (((q1 ||| (32 : Int32)).toInt64) - (97 : Int64))), .second, .val (.long ((q1.toInt64) - (48 : Int64))), .second, .val (.int (0 : Int32)), .val (.int (0 : Int32)), .unset] [(.int (1 : Int32))])) _
              refine XS.goto X0.here hx rfl (pc0 := 66) (pc' := 70) rfl (hb hby d4_66) (by decide) (by decide) ?_
              show Steps p.tables e below (s₁.setTop (mkF m 70 #[.val (.int q1), .val (.long (((q1 ||| (32 : Int32)).toInt64) - (97 : Int64))), .second, .val (.long ((q1.toInt64) - (48 : Int64))), .second, .val (.int (0 : Int32)), .val (.int (0 : Int32)), .unset] [(.int (1 : Int32))])) _
              refine XS.istore X0.here hx rfl (hb hby d4_70) rfl (l' := #[.val (.int q1), .val (.long (((q1 ||| (32 : Int32)).toInt64) - (97 : Int64))), .second, .val (.long ((q1.toInt64) - (48 : Int64))), .second, .val (.int (0 : Int32)), .val (.int (0 : Int32)), .val (.int (1 : Int32))]) rfl ?_
              show Steps p.tables e below (s₁.setTop (mkF m 72 #[.val (.int q1), .val (.long (((q1 ||| (32 : Int32)).toInt64) - (97 : Int64))), .second, .val (.long ((q1.toInt64) - (48 : Int64))), .second, .val (.int (0 : Int32)), .val (.int (0 : Int32)), .val (.int (1 : Int32))] [])) _
              refine XS.iload X0.here hx rfl (hb hby d4_72) rfl ?_
              show Steps p.tables e below (s₁.setTop (mkF m 74 #[.val (.int q1), .val (.long (((q1 ||| (32 : Int32)).toInt64) - (97 : Int64))), .second, .val (.long ((q1.toInt64) - (48 : Int64))), .second, .val (.int (0 : Int32)), .val (.int (0 : Int32)), .val (.int (1 : Int32))] [(.int (0 : Int32))])) _
              refine XS.ifNo X0.here hx rfl (hb hby d4_74) rfl ((if0 _ _).trans (teq (by decide : (0 : Int32) = (0 : Int32))).2) ?_
              show Steps p.tables e below (s₁.setTop (mkF m 77 #[.val (.int q1), .val (.long (((q1 ||| (32 : Int32)).toInt64) - (97 : Int64))), .second, .val (.long ((q1.toInt64) - (48 : Int64))), .second, .val (.int (0 : Int32)), .val (.int (0 : Int32)), .val (.int (1 : Int32))] [])) _
              refine XS.iload X0.here hx rfl (hb hby d4_77) rfl ?_
              show Steps p.tables e below (s₁.setTop (mkF m 79 #[.val (.int q1), .val (.long (((q1 ||| (32 : Int32)).toInt64) - (97 : Int64))), .second, .val (.long ((q1.toInt64) - (48 : Int64))), .second, .val (.int (0 : Int32)), .val (.int (0 : Int32)), .val (.int (1 : Int32))] [(.int (0 : Int32))])) _
              refine XS.ifNo X0.here hx rfl (hb hby d4_79) rfl ((if0 _ _).trans (teq (by decide : (0 : Int32) = (0 : Int32))).2) ?_
              show Steps p.tables e below (s₁.setTop (mkF m 82 #[.val (.int q1), .val (.long (((q1 ||| (32 : Int32)).toInt64) - (97 : Int64))), .second, .val (.long ((q1.toInt64) - (48 : Int64))), .second, .val (.int (0 : Int32)), .val (.int (0 : Int32)), .val (.int (1 : Int32))] [])) _
              refine XS.iload X0.here hx rfl (hb hby d4_82) rfl ?_
              show Steps p.tables e below (s₁.setTop (mkF m 84 #[.val (.int q1), .val (.long (((q1 ||| (32 : Int32)).toInt64) - (97 : Int64))), .second, .val (.long ((q1.toInt64) - (48 : Int64))), .second, .val (.int (0 : Int32)), .val (.int (0 : Int32)), .val (.int (1 : Int32))] [(.int (1 : Int32))])) _
              refine XS.ifNo X0.here hx rfl (hb hby d4_84) rfl ((if0 _ _).trans (feq (by decide : ¬ ((1 : Int32) = (0 : Int32)))).1) ?_
              show Steps p.tables e below (s₁.setTop (mkF m 87 #[.val (.int q1), .val (.long (((q1 ||| (32 : Int32)).toInt64) - (97 : Int64))), .second, .val (.long ((q1.toInt64) - (48 : Int64))), .second, .val (.int (0 : Int32)), .val (.int (0 : Int32)), .val (.int (1 : Int32))] [])) _
              refine XS.iconst X0.here hx rfl (hb hby d4_87) ?_
              show Steps p.tables e below (s₁.setTop (mkF m 88 #[.val (.int q1), .val (.long (((q1 ||| (32 : Int32)).toInt64) - (97 : Int64))), .second, .val (.long ((q1.toInt64) - (48 : Int64))), .second, .val (.int (0 : Int32)), .val (.int (0 : Int32)), .val (.int (1 : Int32))] [(.int (1 : Int32))])) _
              refine XS.goto X0.here hx rfl (pc0 := 88) (pc' := 92) rfl (hb hby d4_88) (by decide) (by decide) ?_
              show Steps p.tables e below (s₁.setTop (mkF m 92 #[.val (.int q1), .val (.long (((q1 ||| (32 : Int32)).toInt64) - (97 : Int64))), .second, .val (.long ((q1.toInt64) - (48 : Int64))), .second, .val (.int (0 : Int32)), .val (.int (0 : Int32)), .val (.int (1 : Int32))] [(.int (1 : Int32))])) _
              rw [show F4 q1 = (1 : Int32) from (if_neg hc1).trans ((if_neg hc7).trans ((if_neg hc13).trans ((if_neg hc15).trans ((if_pos hc17).trans rfl))))] at hr
              exact retN X0 hx (t := .boolean) Bd.returns (by simp) (hb hby d4_92) hr
            · refine XS.icmpYes X0.here hx rfl (pc0 := 62) (pc' := 69) rfl (hb hby d4_62) rfl (feq hc17).2 (by decide) (by decide) ?_
              show Steps p.tables e below (s₁.setTop (mkF m 69 #[.val (.int q1), .val (.long (((q1 ||| (32 : Int32)).toInt64) - (97 : Int64))), .second, .val (.long ((q1.toInt64) - (48 : Int64))), .second, .val (.int (0 : Int32)), .val (.int (0 : Int32)), .unset] [])) _
              refine XS.iconst X0.here hx rfl (hb hby d4_69) ?_
              show Steps p.tables e below (s₁.setTop (mkF m 70 #[.val (.int q1), .val (.long (((q1 ||| (32 : Int32)).toInt64) - (97 : Int64))), .second, .val (.long ((q1.toInt64) - (48 : Int64))), .second, .val (.int (0 : Int32)), .val (.int (0 : Int32)), .unset] [(.int (0 : Int32))])) _
              refine XS.istore X0.here hx rfl (hb hby d4_70) rfl (l' := #[.val (.int q1), .val (.long (((q1 ||| (32 : Int32)).toInt64) - (97 : Int64))), .second, .val (.long ((q1.toInt64) - (48 : Int64))), .second, .val (.int (0 : Int32)), .val (.int (0 : Int32)), .val (.int (0 : Int32))]) rfl ?_
              show Steps p.tables e below (s₁.setTop (mkF m 72 #[.val (.int q1), .val (.long (((q1 ||| (32 : Int32)).toInt64) - (97 : Int64))), .second, .val (.long ((q1.toInt64) - (48 : Int64))), .second, .val (.int (0 : Int32)), .val (.int (0 : Int32)), .val (.int (0 : Int32))] [])) _
              refine XS.iload X0.here hx rfl (hb hby d4_72) rfl ?_
              show Steps p.tables e below (s₁.setTop (mkF m 74 #[.val (.int q1), .val (.long (((q1 ||| (32 : Int32)).toInt64) - (97 : Int64))), .second, .val (.long ((q1.toInt64) - (48 : Int64))), .second, .val (.int (0 : Int32)), .val (.int (0 : Int32)), .val (.int (0 : Int32))] [(.int (0 : Int32))])) _
              refine XS.ifNo X0.here hx rfl (hb hby d4_74) rfl ((if0 _ _).trans (teq (by decide : (0 : Int32) = (0 : Int32))).2) ?_
              show Steps p.tables e below (s₁.setTop (mkF m 77 #[.val (.int q1), .val (.long (((q1 ||| (32 : Int32)).toInt64) - (97 : Int64))), .second, .val (.long ((q1.toInt64) - (48 : Int64))), .second, .val (.int (0 : Int32)), .val (.int (0 : Int32)), .val (.int (0 : Int32))] [])) _
              refine XS.iload X0.here hx rfl (hb hby d4_77) rfl ?_
              show Steps p.tables e below (s₁.setTop (mkF m 79 #[.val (.int q1), .val (.long (((q1 ||| (32 : Int32)).toInt64) - (97 : Int64))), .second, .val (.long ((q1.toInt64) - (48 : Int64))), .second, .val (.int (0 : Int32)), .val (.int (0 : Int32)), .val (.int (0 : Int32))] [(.int (0 : Int32))])) _
              refine XS.ifNo X0.here hx rfl (hb hby d4_79) rfl ((if0 _ _).trans (teq (by decide : (0 : Int32) = (0 : Int32))).2) ?_
              show Steps p.tables e below (s₁.setTop (mkF m 82 #[.val (.int q1), .val (.long (((q1 ||| (32 : Int32)).toInt64) - (97 : Int64))), .second, .val (.long ((q1.toInt64) - (48 : Int64))), .second, .val (.int (0 : Int32)), .val (.int (0 : Int32)), .val (.int (0 : Int32))] [])) _
              refine XS.iload X0.here hx rfl (hb hby d4_82) rfl ?_
              show Steps p.tables e below (s₁.setTop (mkF m 84 #[.val (.int q1), .val (.long (((q1 ||| (32 : Int32)).toInt64) - (97 : Int64))), .second, .val (.long ((q1.toInt64) - (48 : Int64))), .second, .val (.int (0 : Int32)), .val (.int (0 : Int32)), .val (.int (0 : Int32))] [(.int (0 : Int32))])) _
              refine XS.ifYes X0.here hx rfl (pc0 := 84) (pc' := 91) rfl (hb hby d4_84) rfl ((if0 _ _).trans (teq (by decide : (0 : Int32) = (0 : Int32))).1) (by decide) (by decide) ?_
              show Steps p.tables e below (s₁.setTop (mkF m 91 #[.val (.int q1), .val (.long (((q1 ||| (32 : Int32)).toInt64) - (97 : Int64))), .second, .val (.long ((q1.toInt64) - (48 : Int64))), .second, .val (.int (0 : Int32)), .val (.int (0 : Int32)), .val (.int (0 : Int32))] [])) _
              refine XS.iconst X0.here hx rfl (hb hby d4_91) ?_
              show Steps p.tables e below (s₁.setTop (mkF m 92 #[.val (.int q1), .val (.long (((q1 ||| (32 : Int32)).toInt64) - (97 : Int64))), .second, .val (.long ((q1.toInt64) - (48 : Int64))), .second, .val (.int (0 : Int32)), .val (.int (0 : Int32)), .val (.int (0 : Int32))] [(.int (0 : Int32))])) _
              rw [show F4 q1 = (0 : Int32) from (if_neg hc1).trans ((if_neg hc7).trans ((if_neg hc13).trans ((if_neg hc15).trans ((if_neg hc17).trans rfl))))] at hr
              exact retN X0 hx (t := .boolean) Bd.returns (by simp) (hb hby d4_92) hr
  · show Q4 q1 h0 n0 _ s₁.heap _
    rw [e0]
    exact ⟨rfl, N0, rfl⟩
theorem d1_0 : decode method_3_code 0 = .ok (.iload_n 0, 1) := by decide +kernel
theorem d1_1 : decode method_3_code 1 = .ok (.invokestatic 14, 3) := by decide +kernel
theorem d1_4 : decode method_3_code 4 = .ok (.iload_n 0, 1) := by decide +kernel
theorem d1_5 : decode method_3_code 5 = .ok (.invokestatic 19, 3) := by decide +kernel
theorem d1_8 : decode method_3_code 8 = .ok (.if_icmp .ne 7, 3) := by decide +kernel
theorem d1_11 : decode method_3_code 11 = .ok (.iconst 1, 1) := by decide +kernel
theorem d1_12 : decode method_3_code 12 = .ok (.goto 4, 3) := by decide +kernel
theorem d1_15 : decode method_3_code 15 = .ok (.iconst 0, 1) := by decide +kernel
theorem d1_16 : decode method_3_code 16 = .ok (.ireturn, 1) := by decide +kernel
theorem pn_1 : plainName "arbordex/SyntaxIsKeyCharPinLaw" = true := by first | (simp [plainName, overriddenIn]; done) | decide +kernel
theorem pf_1 : plainFor (⟨"arbordex/SyntaxIsKeyCharPinLaw", "agrees", "(I)Z"⟩ : MethodName) = true := plainFor_of_name pn_1
theorem ef_1 (m : MethodId) (x0 : Int32) : entryFrame m #[(.int x0)] 1 = mkF m 0 #[.val (.int x0)] [] := by first | (simp [entryFrame, mkF, argsToLocals, Value.category, maxLocals]; done) | rfl
def F1 (q1 : Int32) : Int32 := (if (F2 q1) = (F4 q1) then (1 : Int32) else (0 : Int32))
def Q1 (q1 : Int32) (h0 : Heap) (n0 : Nat) (v : Option Value) (h : Heap) (L : List Loc) : Prop := v = some (.int (F1 q1)) ∧ Fr n0 L ∧ h = h0
set_option maxRecDepth 65536 in
set_option maxHeartbeats 40000000 in
theorem rm1 (l : Launch) (Z : State) (a0 : Array Value) (hw : ∀ d ∈ tables_1, d.before a0 Z = true) (ws : List Jvm.Cond) (q1 : Int32) (h0 : Heap) (n0 : Nat) (Z0 : n0 ≤ h0.size)  :
    MetFree l (⟨"arbordex/SyntaxIsKeyCharPinLaw", "agrees", "(I)Z"⟩ : MethodName) (head1 (Jvm.Cond.code (⟨"arbordex/SyntaxIsKeyCharPinLaw", "agrees", "(I)Z"⟩ : MethodName) method_3_code 1 (some .boolean) :: ws) ({ frames := 2, cells := 0, slots := 0, locals := 24 } : Room)) (fun a U => a = #[(.int q1)] ∧ Z.Warmed39 U.vm ∧ U.heap = h0) (fun _ _ _ _ _ => True) (fun _ U o U' => ∃ v L, o = .returned v ∧ Q1 q1 h0 n0 v U'.heap L ∧ FrameEnd U o U' L ({ frames := 2, cells := 0, slots := 0, locals := 24 } : Room).cells ({ frames := 2, cells := 0, slots := 0, locals := 24 } : Room).slots) := by
  refine MetFree.of_bodySF pf_1 hisR ?_
  intro p e s m args below meth c s₁ Bd hml0 hP hK
  obtain ⟨rfl, hZ, hh⟩ := hP
  have hx := Bd.exec
  have hby := Bd.bytes
  have hml : c.maxLocals = 1 := hml0
  have hown : s.vm.findClass "arbordex/SyntaxIsKeyCharPinLaw" = some m.cls := findClass_of_methodNamed Bd.named
  have hnm := (name_of_methodNamed Bd.named Bd.method).1
  have X0 : Stand p l e ({ frames := 2, cells := 0, slots := 0, locals := 24 } : Room) s m #[(.int q1)] below meth c s₁ [] 0 0 := Stand.of_body Bd
  have e0 : s₁.heap = h0 := by rw [← hh, Bd.state]; rfl
  have N0 := Fr.nil n0
  have pre0 : ∀ t, Steps p.tables e below (s₁.setTop (mkF m 0 #[.val (.int q1)] [])) t → Steps p.tables e below (s₁.setTop (entryFrame m #[(.int q1)] 1)) t := fun t k => castTop (ef_1 m q1) k
  obtain ⟨_, _, ⟨T1, L1, k1, n1⟩, -, X1, ⟨Lc1, hQ1, l1, y1, z1⟩, st1⟩ := Jvm.LawKit.callS X0 hx (y := (⟨"arbordex/Syntax", "isKeyChar", "(I)Z"⟩ : MethodName)) hown (mvT hZ (hw _ (List.mem_of_getElem? (i := 4) rfl))) (mvT hZ (hw _ (List.mem_of_getElem? (i := 5) rfl))) (mvT hZ (hw _ (List.mem_of_getElem? (i := 6) rfl))) (mvT hZ (hw _ (List.mem_of_getElem? (i := 7) rfl))) (by decide) (backOf (W := 0) (rm2 l Z a0 hw [] q1 h0 n0 Z0 ) hZ (hw _ (List.mem_of_getElem? (i := 7) rfl)) (hw _ (List.mem_of_getElem? (i := 6) rfl)) (by decide) (by decide)) (g := (mkF m 1 #[.val (.int q1)] [(.int q1)])) rfl (by rw [hml]; rfl) (argsL := [(.int q1)]) (rest := []) (lenOf pd_1 rfl) rfl (by show 2 * 0 + _ ≤ _; exact Nat.le_of_eq rfl) (hb hby d1_1) (fun _ _ => ⟨rfl, e0, (by decide : 0 + 0 ≤ _), (by decide : 0 + 0 ≤ _)⟩)
  dsimp only [Pt.U, Pt.locs, Pt.cells, Pt.slots] at X1 l1 y1 z1 st1 hQ1
  subst l1 y1 z1
  obtain ⟨rfl, N1q, e1⟩ := hQ1
  have N1 := Fr.app N0 N1q
  obtain ⟨_, _, ⟨T2, L2, k2, n2⟩, -, X2, ⟨Lc2, hQ2, l2, y2, z2⟩, st2⟩ := Jvm.LawKit.callS X1 hx (y := (⟨"arbordex/SyntaxIsKeyCharPinLaw", "expected", "(I)Z"⟩ : MethodName)) hown (mvT hZ (hw _ (List.mem_of_getElem? (i := 11) rfl))) (mvT hZ (hw _ (List.mem_of_getElem? (i := 12) rfl))) (mvT hZ (hw _ (List.mem_of_getElem? (i := 2) rfl))) (mvT hZ (hw _ (List.mem_of_getElem? (i := 13) rfl))) (by decide) (backOf (W := 1) (rm4 l Z a0 hw [] q1 h0 n0 Z0 ) hZ (hw _ (List.mem_of_getElem? (i := 13) rfl)) (hw _ (List.mem_of_getElem? (i := 2) rfl)) (by decide) (by decide)) (g := (mkF m 5 #[.val (.int q1)] [(.int q1), (.int (F2 q1))])) rfl (by rw [hml]; rfl) (argsL := [(.int q1)]) (rest := [(.int (F2 q1))]) (lenOf pd_1 rfl) rfl (by show 2 * 0 + _ ≤ _; exact Nat.le_of_eq rfl) (hb hby d1_5) (fun _ _ => ⟨rfl, e1, (by decide : 0 + 0 ≤ _), (by decide : 0 + 0 ≤ _)⟩)
  dsimp only [Pt.U, Pt.locs, Pt.cells, Pt.slots] at X2 l2 y2 z2 st2 hQ2
  subst l2 y2 z2
  obtain ⟨rfl, N2q, e2⟩ := hQ2
  have N2 := Fr.app N1 N2q
  obtain ⟨fs, hr, hrun, hended, hW, hsame⟩ := X2.leave (v := some (.int (F1 q1))) (fun h => by rw [Bd.returns] at h; cases h)
  refine ⟨_, _, pre0 _ ?_, hrun, hended, _, _, rfl, ?_, ⟨_, rfl⟩, hW, hsame.mono (by decide) (by decide)⟩
  · show Steps p.tables e below (s₁.setTop (mkF m 0 #[.val (.int q1)] [])) _
    refine XS.iloadN X0.here hx rfl (hb hby d1_0) rfl ?_
    show Steps p.tables e below (s₁.setTop (mkF m 1 #[.val (.int q1)] [(.int q1)])) _
    refine st1 _ ?_
    show Steps p.tables e below (T1.setTop (mkF m 4 #[.val (.int q1)] [(.int (F2 q1))])) _
    refine XS.iloadN X1.here hx rfl (hb hby d1_4) rfl ?_
    show Steps p.tables e below (T1.setTop (mkF m 5 #[.val (.int q1)] [(.int q1), (.int (F2 q1))])) _
    refine st2 _ ?_
    show Steps p.tables e below (T2.setTop (mkF m 8 #[.val (.int q1)] [(.int (F4 q1)), (.int (F2 q1))])) _
    by_cases hc1 : (F2 q1) = (F4 q1)
    · refine XS.icmpNo X2.here hx rfl (hb hby d1_8) rfl (teq hc1).2 ?_
      show Steps p.tables e below (T2.setTop (mkF m 11 #[.val (.int q1)] [])) _
      refine XS.iconst X2.here hx rfl (hb hby d1_11) ?_
      show Steps p.tables e below (T2.setTop (mkF m 12 #[.val (.int q1)] [(.int (1 : Int32))])) _
      refine XS.goto X2.here hx rfl (pc0 := 12) (pc' := 16) rfl (hb hby d1_12) (by decide) (by decide) ?_
      show Steps p.tables e below (T2.setTop (mkF m 16 #[.val (.int q1)] [(.int (1 : Int32))])) _
      rw [show F1 q1 = (1 : Int32) from (if_pos hc1).trans rfl] at hr
      exact retN X2 hx (t := .boolean) Bd.returns (by simp) (hb hby d1_16) hr
    · refine XS.icmpYes X2.here hx rfl (pc0 := 8) (pc' := 15) rfl (hb hby d1_8) rfl (feq hc1).2 (by decide) (by decide) ?_
      show Steps p.tables e below (T2.setTop (mkF m 15 #[.val (.int q1)] [])) _
      refine XS.iconst X2.here hx rfl (hb hby d1_15) ?_
      show Steps p.tables e below (T2.setTop (mkF m 16 #[.val (.int q1)] [(.int (0 : Int32))])) _
      rw [show F1 q1 = (0 : Int32) from (if_neg hc1).trans rfl] at hr
      exact retN X2 hx (t := .boolean) Bd.returns (by simp) (hb hby d1_16) hr
  · show Q1 q1 h0 n0 _ T2.heap _
    rw [e2]
    exact ⟨rfl, N2, rfl⟩
theorem own_b64 : ∀ b : Fin 64, (b.val ||| 32) = if b.val < 32 then b.val + 32 else b.val := by decide +kernel
theorem own_nat (n : Nat) : (n ||| 32) = if n % 64 < 32 then n + 32 else n := by
  have h1 : (n ||| 32) % 2 ^ 6 = (n % 2 ^ 6 ||| 32 % 2 ^ 6) := Nat.or_mod_two_pow
  have h2 : (n ||| 32) / 2 ^ 6 = (n / 2 ^ 6 ||| 32 / 2 ^ 6) := Nat.or_div_two_pow
  have h3 := own_b64 ⟨n % 64, Nat.mod_lt _ (by decide)⟩
  simp only at h3
  have h4 : (32 / 2 ^ 6 : Nat) = 0 := by decide
  have h5 : (32 % 2 ^ 6 : Nat) = 32 := by decide
  rw [h5] at h1
  rw [h4, Nat.or_zero] at h2
  have h6 : (n % 2 ^ 6 ||| 32) = (n % 64 ||| 32) := rfl
  rw [h6, h3] at h1
  by_cases h : n % 64 < 32
  · rw [if_pos h] at h1 ⊢; omega
  · rw [if_neg h] at h1 ⊢; omega
theorem own_or (q : Int32) : ((q ||| 32).toInt = q.toInt ∧ 32 ≤ q.toInt % 64) ∨ ((q ||| 32).toInt = q.toInt + 32 ∧ q.toInt % 64 < 32) := by
  have h1 : (q ||| 32).toInt = ((q.toBitVec.toNat ||| 32 : Nat) : Int).bmod (2 ^ 32) := by
    show (q.toBitVec ||| (32 : Int32).toBitVec).toInt = _
    rw [BitVec.toInt_eq_toNat_bmod, BitVec.toNat_or]; rfl
  have h2 : q.toInt = ((q.toBitVec.toNat : Nat) : Int).bmod (2 ^ 32) := by
    show q.toBitVec.toInt = _
    rw [BitVec.toInt_eq_toNat_bmod]
  have h3 : q.toBitVec.toNat < 2 ^ 32 := q.toBitVec.isLt
  rw [own_nat] at h1
  generalize q.toBitVec.toNat = n at h1 h2 h3
  by_cases h : n % 64 < 32
  · rw [if_pos h] at h1; rw [Int.bmod_def] at h1 h2; omega
  · rw [if_neg h] at h1; rw [Int.bmod_def] at h1 h2; omega
theorem own_sub (z : Int32) (k : Int64) (kk : Int) (hk : k.toInt = kk) (h0 : 0 ≤ kk) (h1 : kk < 1000) : (z.toInt64 - k).toInt = z.toInt - kk := by
  have a := Int32.le_toInt z
  have b := Int32.toInt_lt z
  rw [Int64.toInt_sub, Int32.toInt_toInt64, hk, Int.bmod_def]
  omega
theorem own_eq (q : Int32) : F2 q = F4 q := by
  have o := own_or q
  have s1 := own_sub (q ||| 32) 97 97 (by decide) (by decide) (by decide)
  have s2 := own_sub q 48 48 (by decide) (by decide) (by decide)
  have k0 : (0 : Int64).toInt = 0 := by decide
  have k26 : (26 : Int64).toInt = 26 := by decide
  have k10 : (10 : Int64).toInt = 10 := by decide
  have c97 : (97 : Int32).toInt = 97 := by decide
  have c122 : (122 : Int32).toInt = 122 := by decide
  have c65 : (65 : Int32).toInt = 65 := by decide
  have c90 : (90 : Int32).toInt = 90 := by decide
  have c48 : (48 : Int32).toInt = 48 := by decide
  have c57 : (57 : Int32).toInt = 57 := by decide
  have c45 : (45 : Int32).toInt = 45 := by decide
  have n10 : ¬ ((1 : Int32) = 0) := by decide
  have e45 : (q = 45) ↔ q.toInt = 45 := by rw [← c45]; exact Int32.toInt_inj.symm
  have a1 : (lcmpW ((q ||| 32).toInt64 - 97) 0 < 0) ↔ (q ||| 32).toInt < 97 := by rw [lw_lt, Int64.lt_iff_toInt_lt, s1, k0]; omega
  have a2 : (lcmpW ((q ||| 32).toInt64 - 97) 26 < 0) ↔ (q ||| 32).toInt < 123 := by rw [lw_lt, Int64.lt_iff_toInt_lt, s1, k26]; omega
  have a3 : (lcmpW (q.toInt64 - 48) 0 < 0) ↔ q.toInt < 48 := by rw [lw_lt, Int64.lt_iff_toInt_lt, s2, k0]; omega
  have a4 : (lcmpW (q.toInt64 - 48) 10 < 0) ↔ q.toInt < 58 := by rw [lw_lt, Int64.lt_iff_toInt_lt, s2, k10]; omega
  have L : F3 q = if (97 ≤ q.toInt ∧ q.toInt ≤ 122) ∨ (65 ≤ q.toInt ∧ q.toInt ≤ 90) then 1 else 0 := by
    unfold F3 
    simp only [Int32.lt_iff_toInt_lt, c97, c122, c65, c90]
    split <;> split <;> (try split) <;> (try split) <;> (try split) <;> first | rfl | omega
  unfold F2 F4 
  simp only [a1, a2, a3, a4, e45, Int32.lt_iff_toInt_lt, c48, c57, L]
  generalize (q ||| 32).toInt = z at *
  generalize q.toInt = n at *
  by_cases hl : (97 ≤ n ∧ n ≤ 122) ∨ (65 ≤ n ∧ n ≤ 90)
  · rw [if_pos hl]
    have b1 : ¬ z < 97 := by omega
    have b2 : z < 123 := by omega
    simp only [if_neg n10, if_neg b1, if_pos b2]
    repeat' split
    all_goals rfl
  · rw [if_neg hl]
    have bb : z < 97 ∨ ¬ z < 123 := by omega
    rcases bb with b1 | b2
    · simp only [if_pos b1, if_true]
      repeat' split
      all_goals first | rfl | omega
    · have b1 : ¬ z < 97 := by omega
      simp only [if_neg b1, if_neg b2, if_true]
      repeat' split
      all_goals first | rfl | omega
theorem own_ag (q : Int32) : ¬ (F1 q = 0) := by
  unfold F1 
  rw [if_pos (own_eq q)]
  decide
theorem pn_0 : plainName "arbordex/SyntaxIsKeyCharPinLaw" = true := by first | (simp [plainName, overriddenIn]; done) | decide +kernel
theorem pf_0 : plainFor x = true := plainFor_of_name pn_0
theorem ef_0 (m : MethodId) (x0 : Int32) : entryFrame m #[(.int x0)] maxLocals = mkF m 0 #[.val (.int x0)] [] := by first | (simp [entryFrame, mkF, argsToLocals, Value.category, maxLocals]; done) | rfl
def Q0 (p1 : Int32) (h0 : Heap) (n0 : Nat) (v : Option Value) (h : Heap) (L : List Loc) : Prop := v = some (.int 1) ∧ Fr n0 L
set_option maxRecDepth 65536 in
set_option maxHeartbeats 40000000 in
theorem rm0 (l : Launch) (Z : State) (a0 : Array Value) (hw : ∀ d ∈ tables_1, d.before a0 Z = true) (ws : List Jvm.Cond) (p1 : Int32) (h0 : Heap) (n0 : Nat) (Z0 : n0 ≤ h0.size)  :
    MetFree l x (head1 (Jvm.Cond.code x code maxLocals ret :: ws) room_1) (fun a U => a = #[(.int p1)] ∧ Z.Warmed39 U.vm ∧ U.heap = h0) (fun _ _ _ _ _ => True) (fun _ U o U' => ∃ v L, o = .returned v ∧ Q0 p1 h0 n0 v U'.heap L ∧ FrameEnd U o U' L 0 0) := by
  refine MetFree.of_bodySF pf_0 hisR ?_
  intro p e s m args below meth c s₁ Bd hml0 hP hK
  obtain ⟨rfl, hZ, hh⟩ := hP
  have hx := Bd.exec
  have hby := Bd.bytes
  have hml : c.maxLocals = 1 := hml0
  have hown : s.vm.findClass "arbordex/SyntaxIsKeyCharPinLaw" = some m.cls := findClass_of_methodNamed Bd.named
  have hnm := (name_of_methodNamed Bd.named Bd.method).1
  have X0 : Stand p l e room_1 s m #[(.int p1)] below meth c s₁ [] 0 0 := Stand.of_body Bd
  have e0 : s₁.heap = h0 := by rw [← hh, Bd.state]; rfl
  have N0 := Fr.nil n0
  have pre0 : ∀ t, Steps p.tables e below (s₁.setTop (mkF m 0 #[.val (.int p1)] [])) t → Steps p.tables e below (s₁.setTop (entryFrame m #[(.int p1)] maxLocals)) t := fun t k => castTop (ef_0 m p1) k
  obtain ⟨_, _, ⟨T1, L1, k1, n1⟩, -, X1, ⟨Lc1, hQ1, l1, y1, z1⟩, st1⟩ := Jvm.LawKit.callS X0 hx (y := (⟨"arbordex/SyntaxIsKeyCharPinLaw", "agrees", "(I)Z"⟩ : MethodName)) hown (mvT hZ (hw _ (List.mem_of_getElem? (i := 0) rfl))) (mvT hZ (hw _ (List.mem_of_getElem? (i := 1) rfl))) (mvT hZ (hw _ (List.mem_of_getElem? (i := 2) rfl))) (mvT hZ (hw _ (List.mem_of_getElem? (i := 3) rfl))) (by decide) (backOf (W := 0) (rm1 l Z a0 hw [] p1 h0 n0 Z0 ) hZ (hw _ (List.mem_of_getElem? (i := 3) rfl)) (hw _ (List.mem_of_getElem? (i := 2) rfl)) (by decide) (by decide)) (g := (mkF m 1 #[.val (.int p1)] [(.int p1)])) rfl (by rw [hml]; rfl) (argsL := [(.int p1)]) (rest := []) (lenOf pd_1 rfl) rfl (by show 2 * 0 + _ ≤ _; exact Nat.le_of_eq rfl) (hb hby at_1) (fun _ _ => ⟨rfl, e0, (by decide : 0 + 0 ≤ _), (by decide : 0 + 0 ≤ _)⟩)
  dsimp only [Pt.U, Pt.locs, Pt.cells, Pt.slots] at X1 l1 y1 z1 st1 hQ1
  subst l1 y1 z1
  obtain ⟨rfl, N1q, e1⟩ := hQ1
  have N1 := Fr.app N0 N1q
  obtain ⟨_, _, ⟨T2, L2, k2, n2⟩, -, X2, ⟨Lc2, hQ2, l2, y2, z2⟩, st2⟩ := Jvm.LawKit.callS X1 hx (y := (⟨"arbordex/SyntaxIsKeyCharPinLaw", "agrees", "(I)Z"⟩ : MethodName)) hown (mvT hZ (hw _ (List.mem_of_getElem? (i := 0) rfl))) (mvT hZ (hw _ (List.mem_of_getElem? (i := 1) rfl))) (mvT hZ (hw _ (List.mem_of_getElem? (i := 2) rfl))) (mvT hZ (hw _ (List.mem_of_getElem? (i := 3) rfl))) (by decide) (backOf (W := 0) (rm1 l Z a0 hw [] (p1 &&& (127 : Int32)) h0 n0 Z0 ) hZ (hw _ (List.mem_of_getElem? (i := 3) rfl)) (hw _ (List.mem_of_getElem? (i := 2) rfl)) (by decide) (by decide)) (g := (mkF m 11 #[.val (.int p1)] [(.int (p1 &&& (127 : Int32)))])) rfl (by rw [hml]; rfl) (argsL := [(.int (p1 &&& (127 : Int32)))]) (rest := []) (lenOf pd_1 rfl) rfl (by show 2 * 0 + _ ≤ _; exact Nat.le_of_eq rfl) (hb hby at_11) (fun _ _ => ⟨rfl, e1, (by decide : 0 + 0 ≤ _), (by decide : 0 + 0 ≤ _)⟩)
  dsimp only [Pt.U, Pt.locs, Pt.cells, Pt.slots] at X2 l2 y2 z2 st2 hQ2
  subst l2 y2 z2
  obtain ⟨rfl, N2q, e2⟩ := hQ2
  have N2 := Fr.app N1 N2q
  obtain ⟨_, _, ⟨T3, L3, k3, n3⟩, -, X3, ⟨Lc3, hQ3, l3, y3, z3⟩, st3⟩ := Jvm.LawKit.callS X2 hx (y := (⟨"arbordex/SyntaxIsKeyCharPinLaw", "agrees", "(I)Z"⟩ : MethodName)) hown (mvT hZ (hw _ (List.mem_of_getElem? (i := 0) rfl))) (mvT hZ (hw _ (List.mem_of_getElem? (i := 1) rfl))) (mvT hZ (hw _ (List.mem_of_getElem? (i := 2) rfl))) (mvT hZ (hw _ (List.mem_of_getElem? (i := 3) rfl))) (by decide) (backOf (W := 0) (rm1 l Z a0 hw [] (p1 &&& (65535 : Int32)) h0 n0 Z0 ) hZ (hw _ (List.mem_of_getElem? (i := 3) rfl)) (hw _ (List.mem_of_getElem? (i := 2) rfl)) (by decide) (by decide)) (g := (mkF m 21 #[.val (.int p1)] [(.int (p1 &&& (65535 : Int32)))])) rfl (by rw [hml]; rfl) (argsL := [(.int (p1 &&& (65535 : Int32)))]) (rest := []) (lenOf pd_1 rfl) rfl (by show 2 * 0 + _ ≤ _; exact Nat.le_of_eq rfl) (hb hby at_21) (fun _ _ => ⟨rfl, e2, (by decide : 0 + 0 ≤ _), (by decide : 0 + 0 ≤ _)⟩)
  dsimp only [Pt.U, Pt.locs, Pt.cells, Pt.slots] at X3 l3 y3 z3 st3 hQ3
  subst l3 y3 z3
  obtain ⟨rfl, N3q, e3⟩ := hQ3
  have N3 := Fr.app N2 N3q
  obtain ⟨fs, hr, hrun, hended, hW, hsame⟩ := X3.leave (v := some (.int (1 : Int32))) (fun h => by rw [Bd.returns] at h; cases h)
  refine ⟨_, _, pre0 _ ?_, hrun, hended, _, _, rfl, ?_, ⟨_, rfl⟩, hW, hsame.mono (by decide) (by decide)⟩
  · show Steps p.tables e below (s₁.setTop (mkF m 0 #[.val (.int p1)] [])) _
    refine XS.iloadN X0.here hx rfl (hb hby at_0) rfl ?_
    show Steps p.tables e below (s₁.setTop (mkF m 1 #[.val (.int p1)] [(.int p1)])) _
    refine st1 _ ?_
    show Steps p.tables e below (T1.setTop (mkF m 4 #[.val (.int p1)] [(.int (F1 p1))])) _
    refine XS.ifNo X1.here hx rfl (hb hby at_4) rfl ((if0 _ _).trans (feq (own_ag _ : ¬ ((F1 p1) = (0 : Int32)))).1) ?_
    show Steps p.tables e below (T1.setTop (mkF m 7 #[.val (.int p1)] [])) _
    refine XS.iloadN X1.here hx rfl (hb hby at_7) rfl ?_
    show Steps p.tables e below (T1.setTop (mkF m 8 #[.val (.int p1)] [(.int p1)])) _
    refine XS.bipush X1.here hx rfl (hb hby at_8) ?_
    show Steps p.tables e below (T1.setTop (mkF m 10 #[.val (.int p1)] [(.int (127 : Int32)), (.int p1)])) _
    refine XS.iand X1.here hx rfl (hb hby at_10) rfl ?_
    show Steps p.tables e below (T1.setTop (mkF m 11 #[.val (.int p1)] [(.int (p1 &&& (127 : Int32)))])) _
    refine st2 _ ?_
    show Steps p.tables e below (T2.setTop (mkF m 14 #[.val (.int p1)] [(.int (F1 (p1 &&& (127 : Int32))))])) _
    refine XS.ifNo X2.here hx rfl (hb hby at_14) rfl ((if0 _ _).trans (feq (own_ag _ : ¬ ((F1 (p1 &&& (127 : Int32))) = (0 : Int32)))).1) ?_
    show Steps p.tables e below (T2.setTop (mkF m 17 #[.val (.int p1)] [])) _
    refine XS.iloadN X2.here hx rfl (hb hby at_17) rfl ?_
    show Steps p.tables e below (T2.setTop (mkF m 18 #[.val (.int p1)] [(.int p1)])) _
    refine X2.ldcInt hx hown (mvT hZ (hw _ (List.mem_of_getElem? (i := 16) rfl))) (g := (mkF m 18 #[.val (.int p1)] [(.int p1)])) rfl (hb hby at_18) _ ?_
    show Steps p.tables e below (T2.setTop (mkF m 20 #[.val (.int p1)] [(.int (65535 : Int32)), (.int p1)])) _
    refine XS.iand X2.here hx rfl (hb hby at_20) rfl ?_
    show Steps p.tables e below (T2.setTop (mkF m 21 #[.val (.int p1)] [(.int (p1 &&& (65535 : Int32)))])) _
    refine st3 _ ?_
    show Steps p.tables e below (T3.setTop (mkF m 24 #[.val (.int p1)] [(.int (F1 (p1 &&& (65535 : Int32))))])) _
    refine XS.ifNo X3.here hx rfl (hb hby at_24) rfl ((if0 _ _).trans (feq (own_ag _ : ¬ ((F1 (p1 &&& (65535 : Int32))) = (0 : Int32)))).1) ?_
    show Steps p.tables e below (T3.setTop (mkF m 27 #[.val (.int p1)] [])) _
    refine XS.iconst X3.here hx rfl (hb hby at_27) ?_
    show Steps p.tables e below (T3.setTop (mkF m 28 #[.val (.int p1)] [(.int (1 : Int32))])) _
    refine XS.goto X3.here hx rfl (pc0 := 28) (pc' := 32) rfl (hb hby at_28) (by decide) (by decide) ?_
    show Steps p.tables e below (T3.setTop (mkF m 32 #[.val (.int p1)] [(.int (1 : Int32))])) _
    exact retN X3 hx (t := .boolean) Bd.returns (by simp) (hb hby at_32) hr
  · exact ⟨rfl, N3⟩
set_option maxRecDepth 65536 in
set_option maxHeartbeats 40000000 in
theorem comes_1 {Post : Tables → Env → Array Value → State → Outcome → State → Prop} (hpost : ∀ tb e args s v u, (limb_1_1.after args s (.returned v) u = true ∧ limb_1_2.after args s (.returned v) u = true ∧ True) → FrameEnd s (.returned v) u (Jvm.fieldLocs frame_1_writes args s ++ Jvm.arrayLocs frame_1_arrays args s ++ Jvm.staticLocs frame_1_statics s) 0 0 → Post tb e args s (.returned v) u) :
    ArmFor flags0 classFile x code maxLocals ret World_1 tables_1 room_1 Calls_1 rest_1 Pre_1 Post := by
  intro l hfl _ _ p e ha hc hk s m args below hf hA hF happ hP
  obtain ⟨hcalls, hrest, hpre⟩ := hP
  obtain ⟨-, -, -, hnamed, -, -, -, hat⟩ := (Spec.applies_iff hf).mp happ
  obtain ⟨hg, hn⟩ := and_e (Cond.before_iff.mp (show (Jvm.Cond.and given_1 narrow_1).before args s = true from hpre))
  obtain ⟨g1, c0⟩ := and_e hg
  obtain ⟨w0, rfl⟩ : ∃ w0 : Value, args = #[w0] := by
    have hs : args.size = 1 := by simpa [Cond.value, given_1] using g1
    obtain ⟨L⟩ := args
    match L, hs with
    | [w0], _ => exact ⟨w0, rfl⟩
  have hw := fun d (hd : d ∈ tables_1) => atoms_spec (ws := Jvm.Cond.code x code maxLocals ret :: tables_1) hat d (List.mem_cons_of_mem _ hd)
  obtain ⟨i0, ee0⟩ := is_v c0
  obtain rfl : w0 = (.int i0) := Option.some.inj ee0
  obtain ⟨n, o, h1, h2, h3, _, L, rfl, ⟨rfl, N⟩, hq⟩ := rm0 l s _ hw tables_1 i0 s.heap s.heap.size (Nat.le_refl _) p e ha hc hk s m _ below hf ((Spec.applies_iff_loose hf).mp happ).1 ⟨rfl, State.Warmed39.refl s, rfl⟩ trivial
  refine ⟨n, _, h1, h2, h3, hpost _ _ _ _ _ _ ⟨Cond.after_iff.mpr rfl, Cond.after_iff.mpr (eq_i res_at (Term.int_eval (1)) rfl), trivial⟩ ⟨hq.1, hq.2.1, (hq.2.2.sift fun y hy => Or.inr (N y hy)).mono (by decide) (by decide)⟩⟩
theorem main_1_1 : Claimed_1_1 := comes_1 fun _ _ _ _ _ _ h hF => ⟨h.1, hF⟩
theorem main_1_2 : Claimed_1_2 := comes_1 fun _ _ _ _ _ _ h hF => ⟨h.2.1, hF⟩
end Jvm.Pilot.@@N@@
namespace Jvm.Pilot.@@N@@
open Jvm Jvm.ClassFile Sem Op Lib Jvm.Free Jvm.Stand Jvm.Pilot.@@N@@.Jvm.D
/-! MADE BY PROGRAM (witnessworld.py) out of the Statement's table words and the real class files: 9 classes; the members and pool entries that the words name. The judged class is class 1, her method 1. -/
namespace start1
open Jvm.ClassFile
def u (s : String) : CpInfo := .utf8 (stringToUtf16 s)
/-- a pool by its gaps: so many unusable entries, then the entry; so many at the end -/
def gap : Nat → List CpInfo → List CpInfo
  | 0, r => r
  | n + 1, r => .unusable :: gap n r
def poolList (es : List (Nat × CpInfo)) (last : Nat) : List CpInfo := es.foldr (fun e r => gap e.1 (e.2 :: r)) (gap last [])
def pool (es : List (Nat × CpInfo)) (last : Nat) : Array CpInfo := ⟨poolList es last⟩
def fileOf (pool : Array CpInfo) (this : Nat) (attrs : Array Attribute := #[]) (ms : Array MethodInfo := #[]) (fl : Nat := 33) (sup : Nat := 0) (ifs : Array Nat := #[]) (fds : Array FieldInfo := #[]) : ClassFile where
  minorVersion := 0
  majorVersion := 65
  constantPool := pool
  accessFlags := fl
  thisClass := this
  superClass := sup
  interfaces := ifs
  fields := fds
  methods := ms
  attributes := attrs
def plain (name : String) (sup : Option ClassId) : Class where
  name := name
  kind := .ordinary
  loader := none
  accessFlags := 33
  super := sup
  interfaces := #[]
  cf := none
  fields := #[]
  methods := #[]
  instanceTypes := #[]
  staticTypes := #[]
  resolved := #[]
  callSites := []
  init := .initialized
  statics := none
  mirror := none

def pool0 : Array CpInfo := pool [(5, u "<init>"), (0, u "()V"), (1, .class_ 10), (1, u "java/lang/Object")] 113

def k0m0 : Method := { name := "<init>", desc := "()V", sig := { parameters := [], returnType := none }, accessFlags := 1, code := none }
/-- java/lang/Object -/
def k0 : Class := { plain "java/lang/Object" none with
  accessFlags := 33
  interfaces := #[]
  cf := some (fileOf pool0 8 #[] #[{ accessFlags := 1, nameIndex := 5, descriptorIndex := 6, attributes := #[] }] 33 0 #[] #[])
  fields := #[]
  methods := #[k0m0]
  instanceTypes := #[]
  staticTypes := #[]
  resolved := Array.replicate 124 none
  statics := none }

def pool1 : Array CpInfo := pool [(2, .class_ 4), (1, u "java/lang/Object"), (0, u "<init>"), (0, u "()V"), (0, .methodref 8 9), (0, .class_ 10), (0, .nameAndType 11 12), (0, u "arbordex/SyntaxIsKeyCharPinLaw"), (0, u "agrees"), (0, u "(I)Z"), (0, .integer 65535), (0, .methodref 15 16), (0, .class_ 17), (0, .nameAndType 18 12), (0, u "arbordex/Syntax"), (0, u "isKeyChar"), (0, .methodref 8 20), (0, .nameAndType 21 12), (0, u "expected"), (0, .long 97), (1, .long 48), (1, .long 26), (1, .long 10), (3, u "law")] 3

def k1m0 : Method := { name := "<init>", desc := "()V", sig := { parameters := [], returnType := none }, accessFlags := 2, code := none }
def k1c1 : Code := { maxStack := 2, maxLocals := 1, code := code, exceptionTable := #[], attributes := #[] }
def k1m1 : Method := { name := "law", desc := "(I)Z", sig := { parameters := [.int], returnType := some .boolean }, accessFlags := 9, code := some k1c1 }
def k1c2 : Code := { maxStack := 2, maxLocals := 1, code := method_3_code, exceptionTable := #[], attributes := #[] }
def k1m2 : Method := { name := "agrees", desc := "(I)Z", sig := { parameters := [.int], returnType := some .boolean }, accessFlags := 10, code := some k1c2 }
def k1c3 : Code := { maxStack := 4, maxLocals := 8, code := method_4_code, exceptionTable := #[], attributes := #[] }
def k1m3 : Method := { name := "expected", desc := "(I)Z", sig := { parameters := [.int], returnType := some .boolean }, accessFlags := 10, code := some k1c3 }
/-- arbordex/SyntaxIsKeyCharPinLaw -/
def k1 : Class := { plain "arbordex/SyntaxIsKeyCharPinLaw" (some 0) with
  accessFlags := 49
  interfaces := #[]
  cf := some (fileOf pool1 8 #[] #[{ accessFlags := 2, nameIndex := 5, descriptorIndex := 6, attributes := #[] }, { accessFlags := 9, nameIndex := 32, descriptorIndex := 12, attributes := #[] }, { accessFlags := 10, nameIndex := 11, descriptorIndex := 12, attributes := #[] }, { accessFlags := 10, nameIndex := 21, descriptorIndex := 12, attributes := #[] }] 49 2 #[] #[])
  fields := #[]
  methods := #[k1m0, k1m1, k1m2, k1m3]
  instanceTypes := #[]
  staticTypes := #[]
  resolved := Array.replicate 36 none
  statics := none }

def pool2 : Array CpInfo := pool [(2, .class_ 4), (1, u "java/lang/Object"), (0, u "<init>"), (0, u "()V"), (9, .class_ 18), (1, u "arbordex/Syntax"), (42, .methodref 16 62), (0, .nameAndType 63 64), (0, u "isAsciiLetter"), (0, u "(I)Z"), (96, u "isKeyChar")] 43

def k2m0 : Method := { name := "<init>", desc := "()V", sig := { parameters := [], returnType := none }, accessFlags := 2, code := none }
def k2c1 : Code := { maxStack := 2, maxLocals := 1, code := prog_114_method_7_code, exceptionTable := #[], attributes := #[] }
def k2m1 : Method := { name := "isKeyChar", desc := "(I)Z", sig := { parameters := [.int], returnType := some .boolean }, accessFlags := 8, code := some k2c1 }
def k2c2 : Code := { maxStack := 2, maxLocals := 1, code := prog_114_method_8_code, exceptionTable := #[], attributes := #[] }
def k2m2 : Method := { name := "isAsciiLetter", desc := "(I)Z", sig := { parameters := [.int], returnType := some .boolean }, accessFlags := 10, code := some k2c2 }
/-- arbordex/Syntax -/
def k2 : Class := { plain "arbordex/Syntax" (some 0) with
  accessFlags := 48
  interfaces := #[]
  cf := some (fileOf pool2 16 #[] #[{ accessFlags := 2, nameIndex := 5, descriptorIndex := 6, attributes := #[] }, { accessFlags := 8, nameIndex := 161, descriptorIndex := 64, attributes := #[] }, { accessFlags := 10, nameIndex := 63, descriptorIndex := 64, attributes := #[] }] 48 2 #[] #[])
  fields := #[]
  methods := #[k2m0, k2m1, k2m2]
  instanceTypes := #[]
  staticTypes := #[]
  resolved := Array.replicate 205 none
  statics := none }

def pool3 : Array CpInfo := pool [(1, u "java/lang/Cloneable"), (0, .class_ 1), (0, u "java/lang/Object"), (0, .class_ 3)] 3

/-- java/lang/Cloneable -/
def k3 : Class := { plain "java/lang/Cloneable" (some 0) with
  accessFlags := 1537
  interfaces := #[]
  cf := some (fileOf pool3 2 #[] #[] 1537 4 #[] #[])
  fields := #[]
  methods := #[]
  instanceTypes := #[]
  staticTypes := #[]
  resolved := Array.replicate 8 none
  statics := none }

def pool4 : Array CpInfo := pool [(1, u "java/io/Serializable"), (0, .class_ 1), (0, u "java/lang/Object"), (0, .class_ 3)] 3

/-- java/io/Serializable -/
def k4 : Class := { plain "java/io/Serializable" (some 0) with
  accessFlags := 1537
  interfaces := #[]
  cf := some (fileOf pool4 2 #[] #[] 1537 4 #[] #[])
  fields := #[]
  methods := #[]
  instanceTypes := #[]
  staticTypes := #[]
  resolved := Array.replicate 8 none
  statics := none }

/-- the primitive byte -/
def k5 : Class := { plain "byte" none with kind := .primitive 'B', accessFlags := 0x411 }
/-- [B -/
def k6 : Class := { plain "[B" (some 0) with kind := .array 5 .byte, interfaces := #[3, 4], accessFlags := 1041 }

/-- the primitive int -/
def k7 : Class := { plain "int" none with kind := .primitive 'I', accessFlags := 0x411 }
/-- [I -/
def k8 : Class := { plain "[I" (some 0) with kind := .array 7 .int, interfaces := #[3, 4], accessFlags := 1041 }

def heap : Heap := #[]
def classes : Array Class := #[k0, k1, k2, k3, k4, k5, k6, k7, k8]
def interned : List (Array UInt16 × Addr) := []
def slotsUsed : Nat := 0
def theMethod : MethodId := ⟨1, 1⟩
def args0 : Array Value := #[.int 5]
def aboutOver (below : List Frame) : State where
  vm := { classes := classes, interned := interned.toArray }
  heap := heap
  slotsUsed := slotsUsed
  threads := #[{ frames := .invoking theMethod args0 :: below }]
def below0 : List Frame := [.native { method := ⟨0, 0⟩, args := #[] }]
def about1 : State := aboutOver below0
def p0 : Program := .bare "" "" ""
def e0 : Env := launch0.env 0 0 0
theorem w_frames : about1.frames = Frame.invoking theMethod args0 :: below0 := rfl
set_option maxRecDepth 65536 in
theorem w_args : argsFit about1.vm theMethod args0 = true := by decide +kernel
set_option maxRecDepth 65536 in
theorem w_heap : heapFits about1 = true := by decide +kernel
set_option maxRecDepth 65536 in
theorem w_runnable : about1.curStatus? = some .runnable := by decide +kernel
set_option maxRecDepth 65536 in
theorem w_alone : about1.alone = true := by decide +kernel
set_option maxRecDepth 65536 in
theorem w_named : about1.methodNamed? x = some theMethod := by decide +kernel
set_option maxRecDepth 65536 in
theorem w_hears : about1.hears theMethod below0 = true := by decide +kernel
set_option maxRecDepth 65536 in
theorem w_ripe : about1.ripe theMethod args0 below0 = true := by decide +kernel
theorem w_running : about1.status = .running := rfl
set_option maxRecDepth 65536 in
theorem w_room : about1.hasRoom e0.platform room_1 = true :=
  launch0.hasRoom_least _ room_1 (by decide +kernel) (by decide +kernel) (by decide +kernel) (by decide +kernel) (by decide +kernel) (by decide +kernel)
theorem allAtoms_all (ts : List Jvm.Cond) (a : Array Jvm.Value) (st : Jvm.State) : (allAtoms ts).before a st = ts.all (fun c => c.before a st) := by
  induction ts with
  | nil => rfl
  | cons c t ih =>
    show (Jvm.Cond.and c (allAtoms t)).before a st = _
    rw [Jvm.Cond.before_and, ih, List.all_cons]
def words1 : List Jvm.Cond := Jvm.Cond.code x code maxLocals ret :: tables_1
/-- a 'code' word, met by the world's own term for the bytes: nothing is compared byte by byte -/
theorem code_word {y : MethodName} {bytes : ByteArray} {mx : Nat} {rt : Option FieldType} {a : Array Value} {s : State} {m : MethodId} {meth : Method} {c : Code} (h1 : s.methodNamed? y = some m) (h2 : s.vm.method? m = some meth) (h3 : meth.code = some c) (h4 : c.code = bytes)
    (h5 : (c.maxLocals == mx && c.exceptionTable.isEmpty && decide (c.maxStack ≤ mostOperands) && decide (meth.sig.returnType = rt) && !meth.locks && decide (parseMethodDescriptor y.desc = some meth.sig)) = true) : (Jvm.Cond.code y bytes mx rt).before a s = true := by
  simp only [Bool.and_eq_true, beq_iff_eq, Bool.not_eq_true', decide_eq_true_eq] at h5
  obtain ⟨⟨⟨⟨⟨g1, g2⟩, g3⟩, g4⟩, g5⟩, g6⟩ := h5
  simp [Cond.before, Cond.holds, Cond.value, h1, h2, h3, h4, g1, g2, g3, g4, g5, g6]
def isCode : Jvm.Cond → Bool
  | .code _ _ _ _ => true
  | _ => false
theorem all_split {L : List Jvm.Cond} {P : Jvm.Cond → Bool} (h1 : L.all (fun c => isCode c || P c) = true) (h2 : ∀ c ∈ L.filter isCode, P c = true) : L.all P = true := by
  refine List.all_eq_true.mpr fun c hc => ?_
  have h := List.all_eq_true.mp h1 c hc
  rcases Bool.eq_false_or_eq_true (isCode c) with hi | hi
  · exact h2 c (List.mem_filter.mpr ⟨hc, hi⟩)
  · simpa [hi] using h
set_option maxRecDepth 65536 in
theorem w_c0 : (Jvm.Cond.code x code maxLocals ret).before args0 about1 = true := code_word (m := ⟨1, 1⟩) (meth := k1m1) (c := k1c1) (by decide +kernel) rfl rfl rfl (by decide +kernel)
set_option maxRecDepth 65536 in
theorem w_c1 : (Jvm.Cond.code ({ cls := "arbordex/SyntaxIsKeyCharPinLaw", name := "agrees", desc := "(I)Z" } : Jvm.MethodName) method_3_code (1 : Nat) (Option.some Jvm.ClassFile.FieldType.boolean)).before args0 about1 = true := code_word (m := ⟨1, 2⟩) (meth := k1m2) (c := k1c2) (by decide +kernel) rfl rfl rfl (by decide +kernel)
set_option maxRecDepth 65536 in
theorem w_c2 : (Jvm.Cond.code ({ cls := "arbordex/Syntax", name := "isKeyChar", desc := "(I)Z" } : Jvm.MethodName) prog_114_method_7_code (1 : Nat) (Option.some Jvm.ClassFile.FieldType.boolean)).before args0 about1 = true := code_word (m := ⟨2, 1⟩) (meth := k2m1) (c := k2c1) (by decide +kernel) rfl rfl rfl (by decide +kernel)
set_option maxRecDepth 65536 in
theorem w_c3 : (Jvm.Cond.code ({ cls := "arbordex/Syntax", name := "isAsciiLetter", desc := "(I)Z" } : Jvm.MethodName) prog_114_method_8_code (1 : Nat) (Option.some Jvm.ClassFile.FieldType.boolean)).before args0 about1 = true := code_word (m := ⟨2, 2⟩) (meth := k2m2) (c := k2c2) (by decide +kernel) rfl rfl rfl (by decide +kernel)
set_option maxRecDepth 65536 in
theorem w_c4 : (Jvm.Cond.code ({ cls := "arbordex/SyntaxIsKeyCharPinLaw", name := "expected", desc := "(I)Z" } : Jvm.MethodName) method_4_code (8 : Nat) (Option.some Jvm.ClassFile.FieldType.boolean)).before args0 about1 = true := code_word (m := ⟨1, 3⟩) (meth := k1m3) (c := k1c3) (by decide +kernel) rfl rfl rfl (by decide +kernel)
def codes1 : List Jvm.Cond := [Jvm.Cond.code x code maxLocals ret, Jvm.Cond.code ({ cls := "arbordex/SyntaxIsKeyCharPinLaw", name := "agrees", desc := "(I)Z" } : Jvm.MethodName) method_3_code (1 : Nat) (Option.some Jvm.ClassFile.FieldType.boolean), Jvm.Cond.code ({ cls := "arbordex/Syntax", name := "isKeyChar", desc := "(I)Z" } : Jvm.MethodName) prog_114_method_7_code (1 : Nat) (Option.some Jvm.ClassFile.FieldType.boolean), Jvm.Cond.code ({ cls := "arbordex/Syntax", name := "isAsciiLetter", desc := "(I)Z" } : Jvm.MethodName) prog_114_method_8_code (1 : Nat) (Option.some Jvm.ClassFile.FieldType.boolean), Jvm.Cond.code ({ cls := "arbordex/SyntaxIsKeyCharPinLaw", name := "expected", desc := "(I)Z" } : Jvm.MethodName) method_4_code (8 : Nat) (Option.some Jvm.ClassFile.FieldType.boolean)]
set_option maxRecDepth 65536 in
theorem codes_eq : words1.filter isCode = codes1 := rfl
theorem w_codes : ∀ c ∈ words1.filter isCode, c.before args0 about1 = true := by
  rw [codes_eq]
  intro c hc
  simp only [codes1, List.mem_cons, List.not_mem_nil, or_false] at hc
  rcases hc with rfl | rfl | rfl | rfl | rfl
  · exact w_c0
  · exact w_c1
  · exact w_c2
  · exact w_c3
  · exact w_c4
set_option maxRecDepth 65536 in
theorem w_t1 : words1.all (fun c => isCode c || c.before args0 about1) = true := by decide +kernel
theorem w_tables : (allAtoms (Jvm.Cond.code x code maxLocals ret :: tables_1)).before args0 about1 = true := by
  rw [allAtoms_all]
  show words1.all (fun c => c.before args0 about1) = true
  refine all_split ?_ w_codes
  rw [w_t1]
set_option maxRecDepth 65536 in
theorem w_case : (Jvm.Cond.and given_1 narrow_1).before args0 about1 = true := by decide +kernel
theorem w_applies : (headSpec (Jvm.Cond.code x code maxLocals ret :: tables_1) room_1).applies x e0.platform about1 = true :=
  (Spec.applies_iff w_frames).mpr ⟨w_running, w_runnable, w_alone, w_named, w_hears, w_ripe, w_room, w_tables⟩
theorem atStart : AtStart classFile x code maxLocals ret World_1 tables_1 room_1 Calls_1 rest_1 Pre_1 launch0 p0 e0 about1 theMethod args0 below0 :=
  ⟨lists_1, trivial, launch0.admits_env _ _ _, launch0.least_env, fairChoices_fair.cas, fairChoices_fair.clock, w_frames, w_args, w_heap, w_applies, trivial, trivial, w_case⟩
end start1
theorem witness_1 : WitnessClaimed_1 := ⟨start1.p0, start1.e0, start1.about1, start1.theMethod, start1.args0, start1.below0, start1.atStart⟩
end Jvm.Pilot.@@N@@
