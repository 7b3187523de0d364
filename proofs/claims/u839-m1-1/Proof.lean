import JvmDerived
import JvmDerived.Pilot.@@N@@Statement
import JvmDerived.Pilot.@@N@@Code
set_option linter.unusedVariables false
set_option linter.unusedSimpArgs false
namespace Jvm.RoadKit
open Sem ClassFile Op Lib Jvm.Stand Jvm.Free Jvm.LawKit
section New
variable {p : Program} {l : Launch} {e : Env} {R : Room} {s : State} {m : MethodId} {args : Array Value} {below : List Frame} {meth : Method} {c : Code} {T : State} {locs : List Loc} {cells slots : Nat}
theorem retI (X : Stand p l e R s m args below meth c T locs cells slots) (hx : p.tables.exec = Jvm.exec) {pc : Nat} {Ls : Array Slot} {z : Int32} {rest : List Value} (hret : meth.sig.returnType = some .int) (hd : decode c.code pc = .ok (.ireturn, 1)) {fs : List Frame}
    (hl : ∀ (f : JFrame) (acts : List Action), f.method = m → f.locked = none → f.entered = [] → (doReturn e (T.setTop f) acts (some (.int z))).1 = T.setFrames fs) : Steps p.tables e below (T.setTop (mkF m pc Ls (.int z :: rest))) (T.setFrames fs) := by
  have hm' : T.vm.method? m = some meth := X.method'
  have hn : narrow .int (.int z) = .int z := rfl
  show Steps p.tables e below (T.setTop { method := m, pc := pc, locals := Ls, stack := _ :: rest, locked := none }) _
  jvm_step X.here [X.here.top, hx, hd, hm', hret, hn]
  first | (intro acts; rw [hl _ acts rfl rfl rfl]) | rw [hl _ _ rfl rfl rfl]
  exact Steps.refl _
end New
end Jvm.RoadKit
namespace Jvm.Pilot.@@N@@
open Jvm Jvm.ClassFile Sem Op Lib Jvm.Free Jvm.Stand Jvm.LawKit Jvm.RoadKit Bundle Jvm.Pilot.@@N@@.Jvm.D
def own_bytes : List Value := [(.int (33 : Int32)), (.int (35 : Int32)), (.int (36 : Int32)), (.int (37 : Int32)), (.int (38 : Int32)), (.int (39 : Int32)), (.int (42 : Int32)), (.int (43 : Int32)), (.int (45 : Int32)), (.int (46 : Int32)), (.int (94 : Int32)), (.int (95 : Int32)), (.int (96 : Int32)), (.int (124 : Int32)), (.int (126 : Int32))]
/-- the constant's String: its class, coder, value -/
def OwnStr (Z : State) (h : Heap) (a b : Addr) (k : ClassId) : Prop := Exa Z h a "java/lang/String" ∧ Fld Z h a "java/lang/String" "coder" "B" (.int (0 : Int32)) ∧ Fld Z h a "java/lang/String" "value" "[B" (.ref b) ∧ Arv Z h b k .byte 15 own_bytes (.int (0 : Int32))
theorem pd_1 : parseMethodDescriptor "(I)I" = some ⟨[.int], some .int⟩ := by decide +kernel
theorem pd_2 : parseMethodDescriptor "(II)I" = some ⟨[.int, .int], some .int⟩ := by decide +kernel
theorem pd_3 : parseMethodDescriptor "()Z" = some ⟨[], some .boolean⟩ := by decide +kernel
theorem pd_4 : parseMethodDescriptor "()I" = some ⟨[], some .int⟩ := by decide +kernel
theorem pd_5 : parseMethodDescriptor "()B" = some ⟨[], some .byte⟩ := by decide +kernel
theorem pd_6 : parseMethodDescriptor "([BIII)I" = some ⟨[(.array .byte), .int, .int, .int], some .int⟩ := by decide +kernel
theorem pd_7 : parseMethodDescriptor "(I)Z" = some ⟨[.int], some .boolean⟩ := by decide +kernel
theorem pd_8 : parseMethodDescriptor "(C)Z" = some ⟨[.char], some .boolean⟩ := by decide +kernel
theorem d4_0 : decode jdk_42_method_154_code 0 = .ok (.getstatic 38, 3) := by decide +kernel
theorem d4_3 : decode jdk_42_method_154_code 3 = .ok (.ifCond .eq 14, 3) := by decide +kernel
theorem d4_6 : decode jdk_42_method_154_code 6 = .ok (.aload_n 0, 1) := by decide +kernel
theorem d4_7 : decode jdk_42_method_154_code 7 = .ok (.getfield 15, 3) := by decide +kernel
theorem d4_10 : decode jdk_42_method_154_code 10 = .ok (.ifCond .ne 7, 3) := by decide +kernel
theorem d4_13 : decode jdk_42_method_154_code 13 = .ok (.iconst 1, 1) := by decide +kernel
theorem d4_14 : decode jdk_42_method_154_code 14 = .ok (.goto 4, 3) := by decide +kernel
theorem d4_17 : decode jdk_42_method_154_code 17 = .ok (.iconst 0, 1) := by decide +kernel
theorem d4_18 : decode jdk_42_method_154_code 18 = .ok (.ireturn, 1) := by decide +kernel
theorem pn_4 : plainName "java/lang/String" = true := by first | (simp [plainName, overriddenIn]; done) | decide +kernel
theorem pf_4 : plainFor (⟨"java/lang/String", "isLatin1", "()Z"⟩ : MethodName) = true := plainFor_of_name pn_4
theorem ef_4 (m : MethodId) (x0 : Addr) : entryFrame m #[(.ref x0)] 1 = mkF m 0 #[.val (.ref x0)] [] := by first | (simp [entryFrame, mkF, argsToLocals, Value.category, maxLocals]; done) | rfl
def Q4  (h0 : Heap) (n0 : Nat) (v : Option Value) (h : Heap) (L : List Loc) : Prop := v = some (.int (1 : Int32)) ∧ Fr n0 L ∧ h = h0
set_option maxRecDepth 65536 in
set_option maxHeartbeats 40000000 in
theorem rm4 (l : Launch) (Z : State) (a0 : Array Value) (hw : ∀ d ∈ tables_1, d.before a0 Z = true) (ws : List Jvm.Cond) (a b : Addr) (k : ClassId) (G1 : Int32) (h0 : Heap) (n0 : Nat) (Z0 : n0 ≤ h0.size) (S : OwnStr Z h0 a b k) (O2 : Sta Z Z.heap "java/lang/String" "COMPACT_STRINGS" "Z" (.int G1)) (X00 : Old Z n0 h0) (P5 : ¬ (G1 = (0 : Int32))) :
    MetFree l (⟨"java/lang/String", "isLatin1", "()Z"⟩ : MethodName) (head1 (Jvm.Cond.code (⟨"java/lang/String", "isLatin1", "()Z"⟩ : MethodName) jdk_42_method_154_code 1 (some .boolean) :: ws) ({ frames := 0, cells := 0, slots := 0, locals := 0 } : Room)) (fun aA uU => aA = #[(.ref a)] ∧ Z.Warmed39 uU.vm ∧ uU.heap = h0) (fun _ _ _ _ _ => True) (fun _ uU oO uV => ∃ vV lL, oO = .returned vV ∧ Q4  h0 n0 vV uV.heap lL ∧ FrameEnd uU oO uV lL ({ frames := 0, cells := 0, slots := 0, locals := 0 } : Room).cells ({ frames := 0, cells := 0, slots := 0, locals := 0 } : Room).slots) := by
  refine MetFree.of_bodySF pf_4 hisR ?_
  intro p e s m args below meth c s₁ Bd hml0 hP hK
  obtain ⟨rfl, hZ, hh⟩ := hP
  have hx := Bd.exec
  have hby := Bd.bytes
  have hml : c.maxLocals = 1 := hml0
  have hown : s.vm.findClass "java/lang/String" = some m.cls := findClass_of_methodNamed Bd.named
  have hnm := (name_of_methodNamed Bd.named Bd.method).1
  have X0 : Stand p l e ({ frames := 0, cells := 0, slots := 0, locals := 0 } : Room) s m #[(.ref a)] below meth c s₁ [] 0 0 := Stand.of_body Bd
  have e0 : s₁.heap = h0 := by rw [← hh, Bd.state]; rfl
  have N0 := Fr.nil n0
  have pre0 : ∀ t, Steps p.tables e below (s₁.setTop (mkF m 0 #[.val (.ref a)] [])) t → Steps p.tables e below (s₁.setTop (entryFrame m #[(.ref a)] 1)) t := fun t k => castTop (ef_4 m a) k
  obtain ⟨T1, X1, e1, st1⟩ := getS2 X0 hx hZ hown (host := "") (Or.inl (hw _ (List.mem_of_getElem? (i := 27) rfl))) Via.refl e0 (O2.ext X00.2) (g := (mkF m 0 #[.val (.ref a)] [])) rfl (hb hby d4_0)
  obtain ⟨T2, X2, e2, st2⟩ := getF X1 hx hZ hown (host := "") (Or.inl (hw _ (List.mem_of_getElem? (i := 28) rfl))) Via.refl e1 S.2.1 (g := (mkF m 7 #[.val (.ref a)] [(.ref a)])) rfl rfl (hb hby d4_7)
  obtain ⟨fs, hr, hrun, hended, hW, hsame⟩ := X2.leave (v := some (.int (1 : Int32))) (fun h => by rw [Bd.returns] at h; cases h)
  refine ⟨_, _, pre0 _ ?_, hrun, hended, _, _, rfl, ?_, ⟨_, rfl⟩, hW, hsame.mono (by decide) (by decide)⟩
  · show Steps p.tables e below (s₁.setTop (mkF m 0 #[.val (.ref a)] [])) _
    refine st1 _ ?_
    show Steps p.tables e below (T1.setTop (mkF m 3 #[.val (.ref a)] [(.int G1)])) _
    refine XS.ifNo X1.here hx rfl (hb hby d4_3) rfl ((if0 _ _).trans (feq (P5 : ¬ (G1 = (0 : Int32)))).1) ?_
    show Steps p.tables e below (T1.setTop (mkF m 6 #[.val (.ref a)] [])) _
    refine XS.aloadN X1.here hx rfl (hb hby d4_6) rfl rfl ?_
    show Steps p.tables e below (T1.setTop (mkF m 7 #[.val (.ref a)] [(.ref a)])) _
    refine st2 _ ?_
    show Steps p.tables e below (T2.setTop (mkF m 10 #[.val (.ref a)] [(.int (0 : Int32))])) _
    refine XS.ifNo X2.here hx rfl (hb hby d4_10) rfl ((if0 _ _).trans (teq (by decide : (0 : Int32) = (0 : Int32))).2) ?_
    show Steps p.tables e below (T2.setTop (mkF m 13 #[.val (.ref a)] [])) _
    refine XS.iconst X2.here hx rfl (hb hby d4_13) ?_
    show Steps p.tables e below (T2.setTop (mkF m 14 #[.val (.ref a)] [(.int (1 : Int32))])) _
    refine XS.goto X2.here hx rfl (pc0 := 14) (pc' := 18) rfl (hb hby d4_14) (by decide) (by decide) ?_
    show Steps p.tables e below (T2.setTop (mkF m 18 #[.val (.ref a)] [(.int (1 : Int32))])) _
    exact retN X2 hx (t := .boolean) Bd.returns (by simp) (hb hby d4_18) hr
  · show Q4  h0 n0 _ T2.heap _
    rw [e2]
    exact ⟨rfl, N0, rfl⟩
theorem d6_0 : decode jdk_42_method_152_code 0 = .ok (.getstatic 38, 3) := by decide +kernel
theorem d6_3 : decode jdk_42_method_152_code 3 = .ok (.ifCond .eq 10, 3) := by decide +kernel
theorem d6_6 : decode jdk_42_method_152_code 6 = .ok (.aload_n 0, 1) := by decide +kernel
theorem d6_7 : decode jdk_42_method_152_code 7 = .ok (.getfield 15, 3) := by decide +kernel
theorem d6_10 : decode jdk_42_method_152_code 10 = .ok (.goto 4, 3) := by decide +kernel
theorem d6_13 : decode jdk_42_method_152_code 13 = .ok (.iconst 1, 1) := by decide +kernel
theorem d6_14 : decode jdk_42_method_152_code 14 = .ok (.ireturn, 1) := by decide +kernel
theorem pn_6 : plainName "java/lang/String" = true := by first | (simp [plainName, overriddenIn]; done) | decide +kernel
theorem pf_6 : plainFor (⟨"java/lang/String", "coder", "()B"⟩ : MethodName) = true := plainFor_of_name pn_6
theorem ef_6 (m : MethodId) (x0 : Addr) : entryFrame m #[(.ref x0)] 1 = mkF m 0 #[.val (.ref x0)] [] := by first | (simp [entryFrame, mkF, argsToLocals, Value.category, maxLocals]; done) | rfl
def Q6  (h0 : Heap) (n0 : Nat) (v : Option Value) (h : Heap) (L : List Loc) : Prop := v = some (.int (0 : Int32)) ∧ Fr n0 L ∧ h = h0
set_option maxRecDepth 65536 in
set_option maxHeartbeats 40000000 in
theorem rm6 (l : Launch) (Z : State) (a0 : Array Value) (hw : ∀ d ∈ tables_1, d.before a0 Z = true) (ws : List Jvm.Cond) (a b : Addr) (k : ClassId) (G1 : Int32) (h0 : Heap) (n0 : Nat) (Z0 : n0 ≤ h0.size) (S : OwnStr Z h0 a b k) (O2 : Sta Z Z.heap "java/lang/String" "COMPACT_STRINGS" "Z" (.int G1)) (X00 : Old Z n0 h0) (P5 : ¬ (G1 = (0 : Int32))) :
    MetFree l (⟨"java/lang/String", "coder", "()B"⟩ : MethodName) (head1 (Jvm.Cond.code (⟨"java/lang/String", "coder", "()B"⟩ : MethodName) jdk_42_method_152_code 1 (some .byte) :: ws) ({ frames := 0, cells := 0, slots := 0, locals := 0 } : Room)) (fun aA uU => aA = #[(.ref a)] ∧ Z.Warmed39 uU.vm ∧ uU.heap = h0) (fun _ _ _ _ _ => True) (fun _ uU oO uV => ∃ vV lL, oO = .returned vV ∧ Q6  h0 n0 vV uV.heap lL ∧ FrameEnd uU oO uV lL ({ frames := 0, cells := 0, slots := 0, locals := 0 } : Room).cells ({ frames := 0, cells := 0, slots := 0, locals := 0 } : Room).slots) := by
  refine MetFree.of_bodySF pf_6 hisR ?_
  intro p e s m args below meth c s₁ Bd hml0 hP hK
  obtain ⟨rfl, hZ, hh⟩ := hP
  have hx := Bd.exec
  have hby := Bd.bytes
  have hml : c.maxLocals = 1 := hml0
  have hown : s.vm.findClass "java/lang/String" = some m.cls := findClass_of_methodNamed Bd.named
  have hnm := (name_of_methodNamed Bd.named Bd.method).1
  have X0 : Stand p l e ({ frames := 0, cells := 0, slots := 0, locals := 0 } : Room) s m #[(.ref a)] below meth c s₁ [] 0 0 := Stand.of_body Bd
  have e0 : s₁.heap = h0 := by rw [← hh, Bd.state]; rfl
  have N0 := Fr.nil n0
  have pre0 : ∀ t, Steps p.tables e below (s₁.setTop (mkF m 0 #[.val (.ref a)] [])) t → Steps p.tables e below (s₁.setTop (entryFrame m #[(.ref a)] 1)) t := fun t k => castTop (ef_6 m a) k
  obtain ⟨T1, X1, e1, st1⟩ := getS2 X0 hx hZ hown (host := "") (Or.inl (hw _ (List.mem_of_getElem? (i := 27) rfl))) Via.refl e0 (O2.ext X00.2) (g := (mkF m 0 #[.val (.ref a)] [])) rfl (hb hby d6_0)
  obtain ⟨T2, X2, e2, st2⟩ := getF X1 hx hZ hown (host := "") (Or.inl (hw _ (List.mem_of_getElem? (i := 28) rfl))) Via.refl e1 S.2.1 (g := (mkF m 7 #[.val (.ref a)] [(.ref a)])) rfl rfl (hb hby d6_7)
  obtain ⟨fs, hr, hrun, hended, hW, hsame⟩ := X2.leave (v := some (.int (0 : Int32))) (fun h => by rw [Bd.returns] at h; cases h)
  refine ⟨_, _, pre0 _ ?_, hrun, hended, _, _, rfl, ?_, ⟨_, rfl⟩, hW, hsame.mono (by decide) (by decide)⟩
  · show Steps p.tables e below (s₁.setTop (mkF m 0 #[.val (.ref a)] [])) _
    refine st1 _ ?_
    show Steps p.tables e below (T1.setTop (mkF m 3 #[.val (.ref a)] [(.int G1)])) _
    refine XS.ifNo X1.here hx rfl (hb hby d6_3) rfl ((if0 _ _).trans (feq (P5 : ¬ (G1 = (0 : Int32)))).1) ?_
    show Steps p.tables e below (T1.setTop (mkF m 6 #[.val (.ref a)] [])) _
    refine XS.aloadN X1.here hx rfl (hb hby d6_6) rfl rfl ?_
    show Steps p.tables e below (T1.setTop (mkF m 7 #[.val (.ref a)] [(.ref a)])) _
    refine st2 _ ?_
    show Steps p.tables e below (T2.setTop (mkF m 10 #[.val (.ref a)] [(.int (0 : Int32))])) _
    refine XS.goto X2.here hx rfl (pc0 := 10) (pc' := 14) rfl (hb hby d6_10) (by decide) (by decide) ?_
    show Steps p.tables e below (T2.setTop (mkF m 14 #[.val (.ref a)] [(.int (0 : Int32))])) _
    exact retN X2 hx (t := .byte) Bd.returns (by simp) (hb hby d6_14) hr
  · show Q6  h0 n0 _ T2.heap _
    rw [e2]
    exact ⟨rfl, N0, rfl⟩
theorem d5_0 : decode jdk_42_method_54_code 0 = .ok (.aload_n 0, 1) := by decide +kernel
theorem d5_1 : decode jdk_42_method_54_code 1 = .ok (.getfield 9, 3) := by decide +kernel
theorem d5_4 : decode jdk_42_method_54_code 4 = .ok (.arraylength, 1) := by decide +kernel
theorem d5_5 : decode jdk_42_method_54_code 5 = .ok (.aload_n 0, 1) := by decide +kernel
theorem d5_6 : decode jdk_42_method_54_code 6 = .ok (.invokevirtual 335, 3) := by decide +kernel
theorem d5_9 : decode jdk_42_method_54_code 9 = .ok (.ishr, 1) := by decide +kernel
theorem d5_10 : decode jdk_42_method_54_code 10 = .ok (.ireturn, 1) := by decide +kernel
theorem pn_5 : plainName "java/lang/String" = true := by first | (simp [plainName, overriddenIn]; done) | decide +kernel
theorem pf_5 : plainFor (⟨"java/lang/String", "length", "()I"⟩ : MethodName) = true := plainFor_of_name pn_5
theorem ef_5 (m : MethodId) (x0 : Addr) : entryFrame m #[(.ref x0)] 1 = mkF m 0 #[.val (.ref x0)] [] := by first | (simp [entryFrame, mkF, argsToLocals, Value.category, maxLocals]; done) | rfl
def Q5  (h0 : Heap) (n0 : Nat) (v : Option Value) (h : Heap) (L : List Loc) : Prop := v = some (.int (15 : Int32)) ∧ Fr n0 L ∧ h = h0
set_option maxRecDepth 65536 in
set_option maxHeartbeats 40000000 in
theorem rm5 (l : Launch) (Z : State) (a0 : Array Value) (hw : ∀ d ∈ tables_1, d.before a0 Z = true) (ws : List Jvm.Cond) (a b : Addr) (k : ClassId) (G1 : Int32) (h0 : Heap) (n0 : Nat) (Z0 : n0 ≤ h0.size) (S : OwnStr Z h0 a b k) (O2 : Sta Z Z.heap "java/lang/String" "COMPACT_STRINGS" "Z" (.int G1)) (X00 : Old Z n0 h0) (P5 : ¬ (G1 = (0 : Int32))) :
    MetFree l (⟨"java/lang/String", "length", "()I"⟩ : MethodName) (head1 (Jvm.Cond.code (⟨"java/lang/String", "length", "()I"⟩ : MethodName) jdk_42_method_54_code 1 (some .int) :: ws) ({ frames := 1, cells := 0, slots := 0, locals := 13 } : Room)) (fun aA uU => aA = #[(.ref a)] ∧ Z.Warmed39 uU.vm ∧ uU.heap = h0) (fun _ _ _ _ _ => True) (fun _ uU oO uV => ∃ vV lL, oO = .returned vV ∧ Q5  h0 n0 vV uV.heap lL ∧ FrameEnd uU oO uV lL ({ frames := 1, cells := 0, slots := 0, locals := 13 } : Room).cells ({ frames := 1, cells := 0, slots := 0, locals := 13 } : Room).slots) := by
  refine MetFree.of_bodySF pf_5 hisR ?_
  intro p e s m args below meth c s₁ Bd hml0 hP hK
  obtain ⟨rfl, hZ, hh⟩ := hP
  have hx := Bd.exec
  have hby := Bd.bytes
  have hml : c.maxLocals = 1 := hml0
  have hown : s.vm.findClass "java/lang/String" = some m.cls := findClass_of_methodNamed Bd.named
  have hnm := (name_of_methodNamed Bd.named Bd.method).1
  have X0 : Stand p l e ({ frames := 1, cells := 0, slots := 0, locals := 13 } : Room) s m #[(.ref a)] below meth c s₁ [] 0 0 := Stand.of_body Bd
  have e0 : s₁.heap = h0 := by rw [← hh, Bd.state]; rfl
  have N0 := Fr.nil n0
  have pre0 : ∀ t, Steps p.tables e below (s₁.setTop (mkF m 0 #[.val (.ref a)] [])) t → Steps p.tables e below (s₁.setTop (entryFrame m #[(.ref a)] 1)) t := fun t k => castTop (ef_5 m a) k
  obtain ⟨cl, Ar, -, SS, MM, HH, -⟩ := S.2.2.2
  obtain ⟨T1, X1, e1, st1⟩ := getF X0 hx hZ hown (host := "") (Or.inl (hw _ (List.mem_of_getElem? (i := 29) rfl))) Via.refl e0 S.2.2.1 (g := (mkF m 1 #[.val (.ref a)] [(.ref a)])) rfl rfl (hb hby d5_1)
  obtain ⟨cq2, kq2, qa2, qb2, qc2⟩ := isOf hZ e1 S.1
  obtain ⟨_, _, ⟨T2, L2, k2, n2⟩, -, X2, ⟨Lc2, hQ2, l2, y2, z2⟩, st2⟩ := X1.virtualBack hx (y := (⟨"java/lang/String", "coder", "()B"⟩ : MethodName)) (z := (⟨"java/lang/String", "coder", "()B"⟩ : MethodName)) hown (mvT hZ (hw _ (List.mem_of_getElem? (i := 35) rfl))) (mvT hZ (hw _ (List.mem_of_getElem? (i := 36) rfl))) (notFace_of_selects (args := #[]) (mvT hZ (hw _ (List.mem_of_getElem? (i := 38) rfl)))) (mvT hZ (hw _ (List.mem_of_getElem? (i := 38) rfl))) (mvT hZ (hw _ (List.mem_of_getElem? (i := 37) rfl))) (by decide) (backOf (W := 1) (rm6 l Z a0 hw [] a b k G1 h0 n0 Z0 S O2 X00 P5) hZ (hw _ (List.mem_of_getElem? (i := 39) rfl)) (hw _ (List.mem_of_getElem? (i := 5) rfl)) (by decide) (by decide)) qa2 qc2 (g := (mkF m 6 #[.val (.ref a)] [(.ref a), (.int (15 : Int32))])) rfl (by rw [hml]; rfl) (Steps.refl _) (argsL := []) (rest := [(.int (15 : Int32))]) (lenOf pd_5 rfl) rfl (by show 2 * 0 + _ ≤ _; exact Nat.le_of_eq rfl) (hb hby d5_6) (fun _ _ => ⟨rfl, e1, (by decide : 0 + 0 ≤ _), (by decide : 0 + 0 ≤ _)⟩)
  dsimp only [Pt.U, Pt.locs, Pt.cells, Pt.slots] at X2 l2 y2 z2 st2 hQ2
  subst l2 y2 z2
  obtain ⟨rfl, N2q, e2⟩ := hQ2
  have N2 := Fr.app N0 N2q
  obtain ⟨fs, hr, hrun, hended, hW, hsame⟩ := X2.leave (v := some (.int (15 : Int32))) (fun h => by rw [Bd.returns] at h; cases h)
  refine ⟨_, _, pre0 _ ?_, hrun, hended, _, _, rfl, ?_, ⟨_, rfl⟩, hW, hsame.mono (by decide) (by decide)⟩
  · show Steps p.tables e below (s₁.setTop (mkF m 0 #[.val (.ref a)] [])) _
    refine XS.aloadN X0.here hx rfl (hb hby d5_0) rfl rfl ?_
    show Steps p.tables e below (s₁.setTop (mkF m 1 #[.val (.ref a)] [(.ref a)])) _
    refine st1 _ ?_
    show Steps p.tables e below (T1.setTop (mkF m 4 #[.val (.ref a)] [(.ref b)])) _
    refine X1.arraylength hx (cell := cl) (by rw [e1]; exact Ar.1) (State.isArrayOf_alike hZ.alike Ar.2.1) (g := (mkF m 4 #[.val (.ref a)] [(.ref b)])) rfl rfl (hb hby d5_4) _ ?_
    rw [len_of SS MM]
    show Steps p.tables e below (T1.setTop (mkF m 5 #[.val (.ref a)] [(.int (15 : Int32))])) _
    refine XS.aloadN X1.here hx rfl (hb hby d5_5) rfl rfl ?_
    show Steps p.tables e below (T1.setTop (mkF m 6 #[.val (.ref a)] [(.ref a), (.int (15 : Int32))])) _
    refine st2.trans ?_
    show Steps p.tables e below (T2.setTop (mkF m 9 #[.val (.ref a)] [(.int (0 : Int32)), (.int (15 : Int32))])) _
    refine XS.ishr X2.here hx rfl (hb hby d5_9) rfl ?_
    show Steps p.tables e below (T2.setTop (mkF m 10 #[.val (.ref a)] [(.int (15 : Int32))])) _
    exact retI X2 hx Bd.returns (hb hby d5_10) hr
  · show Q5  h0 n0 _ T2.heap _
    rw [e2]
    exact ⟨rfl, N2, rfl⟩
theorem d8_0 : decode jdk_43_method_4_code 0 = .ok (.iload_n 0, 1) := by decide +kernel
theorem d8_1 : decode jdk_43_method_4_code 1 = .ok (.ifCond .lt 14, 3) := by decide +kernel
theorem d8_4 : decode jdk_43_method_4_code 4 = .ok (.iload_n 0, 1) := by decide +kernel
theorem d8_5 : decode jdk_43_method_4_code 5 = .ok (.sipush 255, 3) := by decide +kernel
theorem d8_8 : decode jdk_43_method_4_code 8 = .ok (.if_icmp .gt 7, 3) := by decide +kernel
theorem d8_11 : decode jdk_43_method_4_code 11 = .ok (.iconst 1, 1) := by decide +kernel
theorem d8_12 : decode jdk_43_method_4_code 12 = .ok (.goto 4, 3) := by decide +kernel
theorem d8_15 : decode jdk_43_method_4_code 15 = .ok (.iconst 0, 1) := by decide +kernel
theorem d8_16 : decode jdk_43_method_4_code 16 = .ok (.ireturn, 1) := by decide +kernel
theorem pn_8 : plainName "java/lang/StringLatin1" = true := by first | (simp [plainName, overriddenIn]; done) | decide +kernel
theorem pf_8 : plainFor (⟨"java/lang/StringLatin1", "canEncode", "(I)Z"⟩ : MethodName) = true := plainFor_of_name pn_8
theorem ef_8 (m : MethodId) (x0 : Int32) : entryFrame m #[(.int x0)] 1 = mkF m 0 #[.val (.int x0)] [] := by first | (simp [entryFrame, mkF, argsToLocals, Value.category, maxLocals]; done) | rfl
def F8 (q1 : Int32) : Int32 := (if q1 < (0 : Int32) then (0 : Int32) else (if (255 : Int32) < q1 then (0 : Int32) else (1 : Int32)))
def Q8 (q1 : Int32) (h0 : Heap) (n0 : Nat) (v : Option Value) (h : Heap) (L : List Loc) : Prop := v = some (.int (F8 q1)) ∧ Fr n0 L ∧ h = h0
set_option maxRecDepth 65536 in
set_option maxHeartbeats 40000000 in
theorem rm8 (l : Launch) (Z : State) (a0 : Array Value) (hw : ∀ d ∈ tables_1, d.before a0 Z = true) (ws : List Jvm.Cond) (q1 : Int32) (h0 : Heap) (n0 : Nat) (Z0 : n0 ≤ h0.size)  :
    MetFree l (⟨"java/lang/StringLatin1", "canEncode", "(I)Z"⟩ : MethodName) (head1 (Jvm.Cond.code (⟨"java/lang/StringLatin1", "canEncode", "(I)Z"⟩ : MethodName) jdk_43_method_4_code 1 (some .boolean) :: ws) ({ frames := 0, cells := 0, slots := 0, locals := 0 } : Room)) (fun aA uU => aA = #[(.int q1)] ∧ Z.Warmed39 uU.vm ∧ uU.heap = h0) (fun _ _ _ _ _ => True) (fun _ uU oO uV => ∃ vV lL, oO = .returned vV ∧ Q8 q1 h0 n0 vV uV.heap lL ∧ FrameEnd uU oO uV lL ({ frames := 0, cells := 0, slots := 0, locals := 0 } : Room).cells ({ frames := 0, cells := 0, slots := 0, locals := 0 } : Room).slots) := by
  refine MetFree.of_bodySF pf_8 hisR ?_
  intro p e s m args below meth c s₁ Bd hml0 hP hK
  obtain ⟨rfl, hZ, hh⟩ := hP
  have hx := Bd.exec
  have hby := Bd.bytes
  have hml : c.maxLocals = 1 := hml0
  have hown : s.vm.findClass "java/lang/StringLatin1" = some m.cls := findClass_of_methodNamed Bd.named
  have hnm := (name_of_methodNamed Bd.named Bd.method).1
  have X0 : Stand p l e ({ frames := 0, cells := 0, slots := 0, locals := 0 } : Room) s m #[(.int q1)] below meth c s₁ [] 0 0 := Stand.of_body Bd
  have e0 : s₁.heap = h0 := by rw [← hh, Bd.state]; rfl
  have N0 := Fr.nil n0
  have pre0 : ∀ t, Steps p.tables e below (s₁.setTop (mkF m 0 #[.val (.int q1)] [])) t → Steps p.tables e below (s₁.setTop (entryFrame m #[(.int q1)] 1)) t := fun t k => castTop (ef_8 m q1) k
  obtain ⟨fs, hr, hrun, hended, hW, hsame⟩ := X0.leave (v := some (.int (F8 q1))) (fun h => by rw [Bd.returns] at h; cases h)
  refine ⟨_, _, pre0 _ ?_, hrun, hended, _, _, rfl, ?_, ⟨_, rfl⟩, hW, hsame.mono (by decide) (by decide)⟩
  · show Steps p.tables e below (s₁.setTop (mkF m 0 #[.val (.int q1)] [])) _
    refine XS.iloadN X0.here hx rfl (hb hby d8_0) rfl ?_
    show Steps p.tables e below (s₁.setTop (mkF m 1 #[.val (.int q1)] [(.int q1)])) _
    by_cases hc1 : q1 < (0 : Int32)
    · refine XS.ifYes X0.here hx rfl (pc0 := 1) (pc' := 15) rfl (hb hby d8_1) rfl ((if0 _ _).trans (tlt hc1).1) (by decide) (by decide) ?_
      show Steps p.tables e below (s₁.setTop (mkF m 15 #[.val (.int q1)] [])) _
      refine XS.iconst X0.here hx rfl (hb hby d8_15) ?_
      show Steps p.tables e below (s₁.setTop (mkF m 16 #[.val (.int q1)] [(.int (0 : Int32))])) _
      rw [show F8 q1 = (0 : Int32) from (if_pos hc1).trans rfl] at hr
      exact retN X0 hx (t := .boolean) Bd.returns (by simp) (hb hby d8_16) hr
    · refine XS.ifNo X0.here hx rfl (hb hby d8_1) rfl ((if0 _ _).trans (flt hc1).1) ?_
      show Steps p.tables e below (s₁.setTop (mkF m 4 #[.val (.int q1)] [])) _
      refine XS.iloadN X0.here hx rfl (hb hby d8_4) rfl ?_
      show Steps p.tables e below (s₁.setTop (mkF m 5 #[.val (.int q1)] [(.int q1)])) _
      refine XS.sipush X0.here hx rfl (hb hby d8_5) ?_
      show Steps p.tables e below (s₁.setTop (mkF m 8 #[.val (.int q1)] [(.int (255 : Int32)), (.int q1)])) _
      by_cases hc2 : (255 : Int32) < q1
      · refine XS.icmpYes X0.here hx rfl (pc0 := 8) (pc' := 15) rfl (hb hby d8_8) rfl (tlt hc2).2.2.1 (by decide) (by decide) ?_
        show Steps p.tables e below (s₁.setTop (mkF m 15 #[.val (.int q1)] [])) _
        refine XS.iconst X0.here hx rfl (hb hby d8_15) ?_
        show Steps p.tables e below (s₁.setTop (mkF m 16 #[.val (.int q1)] [(.int (0 : Int32))])) _
        rw [show F8 q1 = (0 : Int32) from (if_neg hc1).trans ((if_pos hc2).trans rfl)] at hr
        exact retN X0 hx (t := .boolean) Bd.returns (by simp) (hb hby d8_16) hr
      · refine XS.icmpNo X0.here hx rfl (hb hby d8_8) rfl (flt hc2).2.2.1 ?_
        show Steps p.tables e below (s₁.setTop (mkF m 11 #[.val (.int q1)] [])) _
        refine XS.iconst X0.here hx rfl (hb hby d8_11) ?_
        show Steps p.tables e below (s₁.setTop (mkF m 12 #[.val (.int q1)] [(.int (1 : Int32))])) _
        refine XS.goto X0.here hx rfl (pc0 := 12) (pc' := 16) rfl (hb hby d8_12) (by decide) (by decide) ?_
        show Steps p.tables e below (s₁.setTop (mkF m 16 #[.val (.int q1)] [(.int (1 : Int32))])) _
        rw [show F8 q1 = (1 : Int32) from (if_neg hc1).trans ((if_neg hc2).trans rfl)] at hr
        exact retN X0 hx (t := .boolean) Bd.returns (by simp) (hb hby d8_16) hr
  · show Q8 q1 h0 n0 _ s₁.heap _
    rw [e0]
    exact ⟨rfl, N0, rfl⟩
theorem d9_0 : decode jdk_29_method_65_code 0 = .ok (.iload_n 0, 1) := by decide +kernel
theorem d9_1 : decode jdk_29_method_65_code 1 = .ok (.iload_n 1, 1) := by decide +kernel
theorem d9_2 : decode jdk_29_method_65_code 2 = .ok (.if_icmp .lt 7, 3) := by decide +kernel
theorem d9_5 : decode jdk_29_method_65_code 5 = .ok (.iload_n 0, 1) := by decide +kernel
theorem d9_6 : decode jdk_29_method_65_code 6 = .ok (.goto 4, 3) := by decide +kernel
theorem d9_9 : decode jdk_29_method_65_code 9 = .ok (.iload_n 1, 1) := by decide +kernel
theorem d9_10 : decode jdk_29_method_65_code 10 = .ok (.ireturn, 1) := by decide +kernel
theorem pf_9 : plainFor (⟨"java/lang/Math", "max", "(II)I"⟩ : MethodName) = true := by decide +kernel
theorem ef_9 (m : MethodId) (x0 : Int32) (x1 : Int32) : entryFrame m #[(.int x0), (.int x1)] 2 = mkF m 0 #[.val (.int x0), .val (.int x1)] [] := by first | (simp [entryFrame, mkF, argsToLocals, Value.category, maxLocals]; done) | rfl
def F9 (q1 : Int32) (q2 : Int32) : Int32 := (if q1 < q2 then q2 else q1)
def Q9 (q1 : Int32) (q2 : Int32) (h0 : Heap) (n0 : Nat) (v : Option Value) (h : Heap) (L : List Loc) : Prop := v = some (.int (F9 q1 q2)) ∧ Fr n0 L ∧ h = h0
set_option maxRecDepth 65536 in
set_option maxHeartbeats 40000000 in
theorem rm9 (l : Launch) (Z : State) (a0 : Array Value) (hw : ∀ d ∈ tables_1, d.before a0 Z = true) (ws : List Jvm.Cond) (q1 : Int32) (q2 : Int32) (h0 : Heap) (n0 : Nat) (Z0 : n0 ≤ h0.size)  :
    MetFree l (⟨"java/lang/Math", "max", "(II)I"⟩ : MethodName) (head1 (Jvm.Cond.code (⟨"java/lang/Math", "max", "(II)I"⟩ : MethodName) jdk_29_method_65_code 2 (some .int) :: ws) ({ frames := 0, cells := 0, slots := 0, locals := 0 } : Room)) (fun aA uU => aA = #[(.int q1), (.int q2)] ∧ Z.Warmed39 uU.vm ∧ uU.heap = h0) (fun _ _ _ _ _ => True) (fun _ uU oO uV => ∃ vV lL, oO = .returned vV ∧ Q9 q1 q2 h0 n0 vV uV.heap lL ∧ FrameEnd uU oO uV lL ({ frames := 0, cells := 0, slots := 0, locals := 0 } : Room).cells ({ frames := 0, cells := 0, slots := 0, locals := 0 } : Room).slots) := by
  refine MetFree.of_bodySF pf_9 hisR ?_
  intro p e s m args below meth c s₁ Bd hml0 hP hK
  obtain ⟨rfl, hZ, hh⟩ := hP
  have hx := Bd.exec
  have hby := Bd.bytes
  have hml : c.maxLocals = 2 := hml0
  have hown : s.vm.findClass "java/lang/Math" = some m.cls := findClass_of_methodNamed Bd.named
  have hnm := (name_of_methodNamed Bd.named Bd.method).1
  have X0 : Stand p l e ({ frames := 0, cells := 0, slots := 0, locals := 0 } : Room) s m #[(.int q1), (.int q2)] below meth c s₁ [] 0 0 := Stand.of_body Bd
  have e0 : s₁.heap = h0 := by rw [← hh, Bd.state]; rfl
  have N0 := Fr.nil n0
  have pre0 : ∀ t, Steps p.tables e below (s₁.setTop (mkF m 0 #[.val (.int q1), .val (.int q2)] [])) t → Steps p.tables e below (s₁.setTop (entryFrame m #[(.int q1), (.int q2)] 2)) t := fun t k => castTop (ef_9 m q1 q2) k
  obtain ⟨fs, hr, hrun, hended, hW, hsame⟩ := X0.leave (v := some (.int (F9 q1 q2))) (fun h => by rw [Bd.returns] at h; cases h)
  refine ⟨_, _, pre0 _ ?_, hrun, hended, _, _, rfl, ?_, ⟨_, rfl⟩, hW, hsame.mono (by decide) (by decide)⟩
  · show Steps p.tables e below (s₁.setTop (mkF m 0 #[.val (.int q1), .val (.int q2)] [])) _
    refine XS.iloadN X0.here hx rfl (hb hby d9_0) rfl ?_
    show Steps p.tables e below (s₁.setTop (mkF m 1 #[.val (.int q1), .val (.int q2)] [(.int q1)])) _
    refine XS.iloadN X0.here hx rfl (hb hby d9_1) rfl ?_
    show Steps p.tables e below (s₁.setTop (mkF m 2 #[.val (.int q1), .val (.int q2)] [(.int q2), (.int q1)])) _
    by_cases hc1 : q1 < q2
    · refine XS.icmpYes X0.here hx rfl (pc0 := 2) (pc' := 9) rfl (hb hby d9_2) rfl (tlt hc1).1 (by decide) (by decide) ?_
      show Steps p.tables e below (s₁.setTop (mkF m 9 #[.val (.int q1), .val (.int q2)] [])) _
      refine XS.iloadN X0.here hx rfl (hb hby d9_9) rfl ?_
      show Steps p.tables e below (s₁.setTop (mkF m 10 #[.val (.int q1), .val (.int q2)] [(.int q2)])) _
      rw [show F9 q1 q2 = q2 from (if_pos hc1).trans rfl] at hr
      exact retI X0 hx Bd.returns (hb hby d9_10) hr
    · refine XS.icmpNo X0.here hx rfl (hb hby d9_2) rfl (flt hc1).1 ?_
      show Steps p.tables e below (s₁.setTop (mkF m 5 #[.val (.int q1), .val (.int q2)] [])) _
      refine XS.iloadN X0.here hx rfl (hb hby d9_5) rfl ?_
      show Steps p.tables e below (s₁.setTop (mkF m 6 #[.val (.int q1), .val (.int q2)] [(.int q1)])) _
      refine XS.goto X0.here hx rfl (pc0 := 6) (pc' := 10) rfl (hb hby d9_6) (by decide) (by decide) ?_
      show Steps p.tables e below (s₁.setTop (mkF m 10 #[.val (.int q1), .val (.int q2)] [(.int q1)])) _
      rw [show F9 q1 q2 = q1 from (if_neg hc1).trans rfl] at hr
      exact retI X0 hx Bd.returns (hb hby d9_10) hr
  · show Q9 q1 q2 h0 n0 _ s₁.heap _
    rw [e0]
    exact ⟨rfl, N0, rfl⟩
theorem d10_0 : decode jdk_29_method_69_code 0 = .ok (.iload_n 0, 1) := by decide +kernel
theorem d10_1 : decode jdk_29_method_69_code 1 = .ok (.iload_n 1, 1) := by decide +kernel
theorem d10_2 : decode jdk_29_method_69_code 2 = .ok (.if_icmp .gt 7, 3) := by decide +kernel
theorem d10_5 : decode jdk_29_method_69_code 5 = .ok (.iload_n 0, 1) := by decide +kernel
theorem d10_6 : decode jdk_29_method_69_code 6 = .ok (.goto 4, 3) := by decide +kernel
theorem d10_9 : decode jdk_29_method_69_code 9 = .ok (.iload_n 1, 1) := by decide +kernel
theorem d10_10 : decode jdk_29_method_69_code 10 = .ok (.ireturn, 1) := by decide +kernel
theorem pf_10 : plainFor (⟨"java/lang/Math", "min", "(II)I"⟩ : MethodName) = true := by decide +kernel
theorem ef_10 (m : MethodId) (x0 : Int32) (x1 : Int32) : entryFrame m #[(.int x0), (.int x1)] 2 = mkF m 0 #[.val (.int x0), .val (.int x1)] [] := by first | (simp [entryFrame, mkF, argsToLocals, Value.category, maxLocals]; done) | rfl
def F10 (q1 : Int32) (q2 : Int32) : Int32 := (if q2 < q1 then q2 else q1)
def Q10 (q1 : Int32) (q2 : Int32) (h0 : Heap) (n0 : Nat) (v : Option Value) (h : Heap) (L : List Loc) : Prop := v = some (.int (F10 q1 q2)) ∧ Fr n0 L ∧ h = h0
set_option maxRecDepth 65536 in
set_option maxHeartbeats 40000000 in
theorem rm10 (l : Launch) (Z : State) (a0 : Array Value) (hw : ∀ d ∈ tables_1, d.before a0 Z = true) (ws : List Jvm.Cond) (q1 : Int32) (q2 : Int32) (h0 : Heap) (n0 : Nat) (Z0 : n0 ≤ h0.size)  :
    MetFree l (⟨"java/lang/Math", "min", "(II)I"⟩ : MethodName) (head1 (Jvm.Cond.code (⟨"java/lang/Math", "min", "(II)I"⟩ : MethodName) jdk_29_method_69_code 2 (some .int) :: ws) ({ frames := 0, cells := 0, slots := 0, locals := 0 } : Room)) (fun aA uU => aA = #[(.int q1), (.int q2)] ∧ Z.Warmed39 uU.vm ∧ uU.heap = h0) (fun _ _ _ _ _ => True) (fun _ uU oO uV => ∃ vV lL, oO = .returned vV ∧ Q10 q1 q2 h0 n0 vV uV.heap lL ∧ FrameEnd uU oO uV lL ({ frames := 0, cells := 0, slots := 0, locals := 0 } : Room).cells ({ frames := 0, cells := 0, slots := 0, locals := 0 } : Room).slots) := by
  refine MetFree.of_bodySF pf_10 hisR ?_
  intro p e s m args below meth c s₁ Bd hml0 hP hK
  obtain ⟨rfl, hZ, hh⟩ := hP
  have hx := Bd.exec
  have hby := Bd.bytes
  have hml : c.maxLocals = 2 := hml0
  have hown : s.vm.findClass "java/lang/Math" = some m.cls := findClass_of_methodNamed Bd.named
  have hnm := (name_of_methodNamed Bd.named Bd.method).1
  have X0 : Stand p l e ({ frames := 0, cells := 0, slots := 0, locals := 0 } : Room) s m #[(.int q1), (.int q2)] below meth c s₁ [] 0 0 := Stand.of_body Bd
  have e0 : s₁.heap = h0 := by rw [← hh, Bd.state]; rfl
  have N0 := Fr.nil n0
  have pre0 : ∀ t, Steps p.tables e below (s₁.setTop (mkF m 0 #[.val (.int q1), .val (.int q2)] [])) t → Steps p.tables e below (s₁.setTop (entryFrame m #[(.int q1), (.int q2)] 2)) t := fun t k => castTop (ef_10 m q1 q2) k
  obtain ⟨fs, hr, hrun, hended, hW, hsame⟩ := X0.leave (v := some (.int (F10 q1 q2))) (fun h => by rw [Bd.returns] at h; cases h)
  refine ⟨_, _, pre0 _ ?_, hrun, hended, _, _, rfl, ?_, ⟨_, rfl⟩, hW, hsame.mono (by decide) (by decide)⟩
  · show Steps p.tables e below (s₁.setTop (mkF m 0 #[.val (.int q1), .val (.int q2)] [])) _
    refine XS.iloadN X0.here hx rfl (hb hby d10_0) rfl ?_
    show Steps p.tables e below (s₁.setTop (mkF m 1 #[.val (.int q1), .val (.int q2)] [(.int q1)])) _
    refine XS.iloadN X0.here hx rfl (hb hby d10_1) rfl ?_
    show Steps p.tables e below (s₁.setTop (mkF m 2 #[.val (.int q1), .val (.int q2)] [(.int q2), (.int q1)])) _
    by_cases hc1 : q2 < q1
    · refine XS.icmpYes X0.here hx rfl (pc0 := 2) (pc' := 9) rfl (hb hby d10_2) rfl (tlt hc1).2.2.1 (by decide) (by decide) ?_
      show Steps p.tables e below (s₁.setTop (mkF m 9 #[.val (.int q1), .val (.int q2)] [])) _
      refine XS.iloadN X0.here hx rfl (hb hby d10_9) rfl ?_
      show Steps p.tables e below (s₁.setTop (mkF m 10 #[.val (.int q1), .val (.int q2)] [(.int q2)])) _
      rw [show F10 q1 q2 = q2 from (if_pos hc1).trans rfl] at hr
      exact retI X0 hx Bd.returns (hb hby d10_10) hr
    · refine XS.icmpNo X0.here hx rfl (hb hby d10_2) rfl (flt hc1).2.2.1 ?_
      show Steps p.tables e below (s₁.setTop (mkF m 5 #[.val (.int q1), .val (.int q2)] [])) _
      refine XS.iloadN X0.here hx rfl (hb hby d10_5) rfl ?_
      show Steps p.tables e below (s₁.setTop (mkF m 6 #[.val (.int q1), .val (.int q2)] [(.int q1)])) _
      refine XS.goto X0.here hx rfl (pc0 := 6) (pc' := 10) rfl (hb hby d10_6) (by decide) (by decide) ?_
      show Steps p.tables e below (s₁.setTop (mkF m 10 #[.val (.int q1), .val (.int q2)] [(.int q1)])) _
      rw [show F10 q1 q2 = q1 from (if_neg hc1).trans rfl] at hr
      exact retI X0 hx Bd.returns (hb hby d10_10) hr
  · show Q10 q1 q2 h0 n0 _ s₁.heap _
    rw [e0]
    exact ⟨rfl, N0, rfl⟩
theorem own_mx : F9 (0 : Int32) (0 : Int32) = 0 := by decide
theorem own_mn : F10 (15 : Int32) (15 : Int32) = 15 := by decide
def F11 (q : Int32) : Int32 := (if (33 : Int32) = (q.toInt8.toInt32) then (0 : Int32) else (if (35 : Int32) = (q.toInt8.toInt32) then (1 : Int32) else (if (36 : Int32) = (q.toInt8.toInt32) then (2 : Int32) else (if (37 : Int32) = (q.toInt8.toInt32) then (3 : Int32) else (if (38 : Int32) = (q.toInt8.toInt32) then (4 : Int32) else (if (39 : Int32) = (q.toInt8.toInt32) then (5 : Int32) else (if (42 : Int32) = (q.toInt8.toInt32) then (6 : Int32) else (if (43 : Int32) = (q.toInt8.toInt32) then (7 : Int32) else (if (45 : Int32) = (q.toInt8.toInt32) then (8 : Int32) else (if (46 : Int32) = (q.toInt8.toInt32) then (9 : Int32) else (if (94 : Int32) = (q.toInt8.toInt32) then (10 : Int32) else (if (95 : Int32) = (q.toInt8.toInt32) then (11 : Int32) else (if (96 : Int32) = (q.toInt8.toInt32) then (12 : Int32) else (if (124 : Int32) = (q.toInt8.toInt32) then (13 : Int32) else (if (126 : Int32) = (q.toInt8.toInt32) then (14 : Int32) else (-1 : Int32))))))))))))))))
theorem d11_0 : decode jdk_43_method_23_code 0 = .ok (.iload_n 1, 1) := by decide +kernel
theorem d11_1 : decode jdk_43_method_23_code 1 = .ok (.i2b, 1) := by decide +kernel
theorem d11_2 : decode jdk_43_method_23_code 2 = .ok (.istore 4, 2) := by decide +kernel
theorem d11_4 : decode jdk_43_method_23_code 4 = .ok (.iload_n 2, 1) := by decide +kernel
theorem d11_5 : decode jdk_43_method_23_code 5 = .ok (.istore 5, 2) := by decide +kernel
theorem d11_7 : decode jdk_43_method_23_code 7 = .ok (.iload 5, 2) := by decide +kernel
theorem d11_9 : decode jdk_43_method_23_code 9 = .ok (.iload_n 3, 1) := by decide +kernel
theorem d11_10 : decode jdk_43_method_23_code 10 = .ok (.if_icmp .ge 21, 3) := by decide +kernel
theorem d11_13 : decode jdk_43_method_23_code 13 = .ok (.aload_n 0, 1) := by decide +kernel
theorem d11_14 : decode jdk_43_method_23_code 14 = .ok (.iload 5, 2) := by decide +kernel
theorem d11_16 : decode jdk_43_method_23_code 16 = .ok (.baload, 1) := by decide +kernel
theorem d11_17 : decode jdk_43_method_23_code 17 = .ok (.iload 4, 2) := by decide +kernel
theorem d11_19 : decode jdk_43_method_23_code 19 = .ok (.if_icmp .ne 6, 3) := by decide +kernel
theorem d11_22 : decode jdk_43_method_23_code 22 = .ok (.iload 5, 2) := by decide +kernel
theorem d11_24 : decode jdk_43_method_23_code 24 = .ok (.ireturn, 1) := by decide +kernel
theorem d11_25 : decode jdk_43_method_23_code 25 = .ok (.iinc 5 1, 3) := by decide +kernel
theorem d11_28 : decode jdk_43_method_23_code 28 = .ok (.goto (-21), 3) := by decide +kernel
theorem d11_31 : decode jdk_43_method_23_code 31 = .ok (.iconst (-1), 1) := by decide +kernel
theorem d11_32 : decode jdk_43_method_23_code 32 = .ok (.ireturn, 1) := by decide +kernel
theorem pn_11 : plainName "java/lang/StringLatin1" = true := by first | (simp [plainName, overriddenIn]; done) | decide +kernel
theorem pf_11 : plainFor (⟨"java/lang/StringLatin1", "indexOfChar", "([BIII)I"⟩ : MethodName) = true := plainFor_of_name pn_11
theorem ef_11 (m : MethodId) (x0 : Addr) (x1 : Int32) (x2 : Int32) (x3 : Int32) : entryFrame m #[(.ref x0), (.int x1), (.int x2), (.int x3)] 6 = mkF m 0 #[.val (.ref x0), .val (.int x1), .val (.int x2), .val (.int x3), .unset, .unset] [] := by first | (simp [entryFrame, mkF, argsToLocals, Value.category, maxLocals]; done) | rfl
def Q11 (q : Int32) (h0 : Heap) (n0 : Nat) (v : Option Value) (h : Heap) (L : List Loc) : Prop := v = some (.int (F11 q)) ∧ Fr n0 L ∧ h = h0
set_option maxRecDepth 65536 in
set_option maxHeartbeats 40000000 in
theorem rm11 (l : Launch) (Z : State) (a0 : Array Value) (hw : ∀ d ∈ tables_1, d.before a0 Z = true) (ws : List Jvm.Cond) (b : Addr) (q : Int32) (k : ClassId) (h0 : Heap) (n0 : Nat) (Z0 : n0 ≤ h0.size) (A : Arv Z h0 b k .byte 15 own_bytes (.int (0 : Int32))) :
    MetFree l (⟨"java/lang/StringLatin1", "indexOfChar", "([BIII)I"⟩ : MethodName) (head1 (Jvm.Cond.code (⟨"java/lang/StringLatin1", "indexOfChar", "([BIII)I"⟩ : MethodName) jdk_43_method_23_code 6 (some .int) :: ws) ({ frames := 0, cells := 0, slots := 0, locals := 0 } : Room)) (fun aA uU => aA = #[(.ref b), (.int q), (.int (0 : Int32)), (.int (15 : Int32))] ∧ Z.Warmed39 uU.vm ∧ uU.heap = h0) (fun _ _ _ _ _ => True) (fun _ uU oO uV => ∃ vV lL, oO = .returned vV ∧ Q11 q h0 n0 vV uV.heap lL ∧ FrameEnd uU oO uV lL ({ frames := 0, cells := 0, slots := 0, locals := 0 } : Room).cells ({ frames := 0, cells := 0, slots := 0, locals := 0 } : Room).slots) := by
  refine MetFree.of_bodySF pf_11 hisR ?_
  intro p e s m args below meth c s₁ Bd hml0 hP hK
  obtain ⟨rfl, hZ, hh⟩ := hP
  have hx := Bd.exec
  have hby := Bd.bytes
  have hml : c.maxLocals = 6 := hml0
  have hown : s.vm.findClass "java/lang/StringLatin1" = some m.cls := findClass_of_methodNamed Bd.named
  have hnm := (name_of_methodNamed Bd.named Bd.method).1
  have X0 : Stand p l e ({ frames := 0, cells := 0, slots := 0, locals := 0 } : Room) s m #[(.ref b), (.int q), (.int (0 : Int32)), (.int (15 : Int32))] below meth c s₁ [] 0 0 := Stand.of_body Bd
  have e0 : s₁.heap = h0 := by rw [← hh, Bd.state]; rfl
  have N0 := Fr.nil n0
  have pre0 : ∀ t, Steps p.tables e below (s₁.setTop (mkF m 0 #[.val (.ref b), .val (.int q), .val (.int (0 : Int32)), .val (.int (15 : Int32)), .unset, .unset] [])) t → Steps p.tables e below (s₁.setTop (entryFrame m #[(.ref b), (.int q), (.int (0 : Int32)), (.int (15 : Int32))] 6)) t := fun t k => castTop (ef_11 m b q (0 : Int32) (15 : Int32)) k
  obtain ⟨cl, Ar, -, SS, MM, HH, -⟩ := A
  obtain ⟨fs, hr, hrun, hended, hW, hsame⟩ := X0.leave (v := some (.int (F11 q))) (fun h => by rw [Bd.returns] at h; cases h)
  refine ⟨_, _, pre0 _ ?_, hrun, hended, _, _, rfl, ?_, ⟨_, rfl⟩, hW, hsame.mono (by decide) (by decide)⟩
  · show Steps p.tables e below (s₁.setTop (mkF m 0 #[.val (.ref b), .val (.int q), .val (.int (0 : Int32)), .val (.int (15 : Int32)), .unset, .unset] [])) _
    refine XS.iloadN X0.here hx rfl (hb hby d11_0) rfl ?_
    show Steps p.tables e below (s₁.setTop (mkF m 1 #[.val (.ref b), .val (.int q), .val (.int (0 : Int32)), .val (.int (15 : Int32)), .unset, .unset] [(.int q)])) _
    refine XS.i2b X0.here hx rfl (hb hby d11_1) rfl ?_
    show Steps p.tables e below (s₁.setTop (mkF m 2 #[.val (.ref b), .val (.int q), .val (.int (0 : Int32)), .val (.int (15 : Int32)), .unset, .unset] [(.int (q.toInt8.toInt32))])) _
    refine XS.istore X0.here hx rfl (hb hby d11_2) rfl (l' := #[.val (.ref b), .val (.int q), .val (.int (0 : Int32)), .val (.int (15 : Int32)), .val (.int (q.toInt8.toInt32)), .unset]) rfl ?_
    show Steps p.tables e below (s₁.setTop (mkF m 4 #[.val (.ref b), .val (.int q), .val (.int (0 : Int32)), .val (.int (15 : Int32)), .val (.int (q.toInt8.toInt32)), .unset] [])) _
    refine XS.iloadN X0.here hx rfl (hb hby d11_4) rfl ?_
    show Steps p.tables e below (s₁.setTop (mkF m 5 #[.val (.ref b), .val (.int q), .val (.int (0 : Int32)), .val (.int (15 : Int32)), .val (.int (q.toInt8.toInt32)), .unset] [(.int (0 : Int32))])) _
    refine XS.istore X0.here hx rfl (hb hby d11_5) rfl (l' := #[.val (.ref b), .val (.int q), .val (.int (0 : Int32)), .val (.int (15 : Int32)), .val (.int (q.toInt8.toInt32)), .val (.int (0 : Int32))]) rfl ?_
    show Steps p.tables e below (s₁.setTop (mkF m 7 #[.val (.ref b), .val (.int q), .val (.int (0 : Int32)), .val (.int (15 : Int32)), .val (.int (q.toInt8.toInt32)), .val (.int (0 : Int32))] [])) _
    refine XS.iload X0.here hx rfl (hb hby d11_7) rfl ?_
    show Steps p.tables e below (s₁.setTop (mkF m 9 #[.val (.ref b), .val (.int q), .val (.int (0 : Int32)), .val (.int (15 : Int32)), .val (.int (q.toInt8.toInt32)), .val (.int (0 : Int32))] [(.int (0 : Int32))])) _
    refine XS.iloadN X0.here hx rfl (hb hby d11_9) rfl ?_
    show Steps p.tables e below (s₁.setTop (mkF m 10 #[.val (.ref b), .val (.int q), .val (.int (0 : Int32)), .val (.int (15 : Int32)), .val (.int (q.toInt8.toInt32)), .val (.int (0 : Int32))] [(.int (15 : Int32)), (.int (0 : Int32))])) _
    refine XS.icmpNo X0.here hx rfl (hb hby d11_10) rfl (tlt (by decide : (0 : Int32) < (15 : Int32))).2.1 ?_
    show Steps p.tables e below (s₁.setTop (mkF m 13 #[.val (.ref b), .val (.int q), .val (.int (0 : Int32)), .val (.int (15 : Int32)), .val (.int (q.toInt8.toInt32)), .val (.int (0 : Int32))] [])) _
    refine XS.aloadN X0.here hx rfl (hb hby d11_13) rfl rfl ?_
    show Steps p.tables e below (s₁.setTop (mkF m 14 #[.val (.ref b), .val (.int q), .val (.int (0 : Int32)), .val (.int (15 : Int32)), .val (.int (q.toInt8.toInt32)), .val (.int (0 : Int32))] [(.ref b)])) _
    refine XS.iload X0.here hx rfl (hb hby d11_14) rfl ?_
    show Steps p.tables e below (s₁.setTop (mkF m 16 #[.val (.ref b), .val (.int q), .val (.int (0 : Int32)), .val (.int (15 : Int32)), .val (.int (q.toInt8.toInt32)), .val (.int (0 : Int32))] [(.int (0 : Int32)), (.ref b)])) _
    refine X0.baloadBytes hx (j := (0 : Int32)) (v := (.int (33 : Int32))) (by rw [e0]; exact Ar.1) (State.isArrayOf_alike hZ.alike Ar.2.1) Ar.2.2 (inb_of SS ⟨by decide, by decide⟩) (Has.at HH (inb_of SS ⟨by decide, by decide⟩) rfl) (g := (mkF m 16 #[.val (.ref b), .val (.int q), .val (.int (0 : Int32)), .val (.int (15 : Int32)), .val (.int (q.toInt8.toInt32)), .val (.int (0 : Int32))] [(.int (0 : Int32)), (.ref b)])) rfl rfl (hb hby d11_16) _ ?_
    show Steps p.tables e below (s₁.setTop (mkF m 17 #[.val (.ref b), .val (.int q), .val (.int (0 : Int32)), .val (.int (15 : Int32)), .val (.int (q.toInt8.toInt32)), .val (.int (0 : Int32))] [(.int (33 : Int32))])) _
    refine XS.iload X0.here hx rfl (hb hby d11_17) rfl ?_
    show Steps p.tables e below (s₁.setTop (mkF m 19 #[.val (.ref b), .val (.int q), .val (.int (0 : Int32)), .val (.int (15 : Int32)), .val (.int (q.toInt8.toInt32)), .val (.int (0 : Int32))] [(.int (q.toInt8.toInt32)), (.int (33 : Int32))])) _
    by_cases hc1 : (33 : Int32) = (q.toInt8.toInt32)
    · refine XS.icmpNo X0.here hx rfl (hb hby d11_19) rfl (teq hc1).2 ?_
      show Steps p.tables e below (s₁.setTop (mkF m 22 #[.val (.ref b), .val (.int q), .val (.int (0 : Int32)), .val (.int (15 : Int32)), .val (.int (q.toInt8.toInt32)), .val (.int (0 : Int32))] [])) _
      refine XS.iload X0.here hx rfl (hb hby d11_22) rfl ?_
      show Steps p.tables e below (s₁.setTop (mkF m 24 #[.val (.ref b), .val (.int q), .val (.int (0 : Int32)), .val (.int (15 : Int32)), .val (.int (q.toInt8.toInt32)), .val (.int (0 : Int32))] [(.int (0 : Int32))])) _
      rw [show F11 q = (0 : Int32) from (if_pos hc1).trans rfl] at hr
      exact retI X0 hx Bd.returns (hb hby d11_24) hr
    · refine XS.icmpYes X0.here hx rfl (pc0 := 19) (pc' := 25) rfl (hb hby d11_19) rfl (feq hc1).2 (by decide) (by decide) ?_
      show Steps p.tables e below (s₁.setTop (mkF m 25 #[.val (.ref b), .val (.int q), .val (.int (0 : Int32)), .val (.int (15 : Int32)), .val (.int (q.toInt8.toInt32)), .val (.int (0 : Int32))] [])) _
      refine XS.iinc X0.here hx rfl (hb hby d11_25) rfl (l' := #[.val (.ref b), .val (.int q), .val (.int (0 : Int32)), .val (.int (15 : Int32)), .val (.int (q.toInt8.toInt32)), .val (.int (1 : Int32))]) rfl ?_
      show Steps p.tables e below (s₁.setTop (mkF m 28 #[.val (.ref b), .val (.int q), .val (.int (0 : Int32)), .val (.int (15 : Int32)), .val (.int (q.toInt8.toInt32)), .val (.int (1 : Int32))] [])) _
      refine XS.goto X0.here hx rfl (pc0 := 28) (pc' := 7) rfl (hb hby d11_28) (by decide) (by decide) ?_
      show Steps p.tables e below (s₁.setTop (mkF m 7 #[.val (.ref b), .val (.int q), .val (.int (0 : Int32)), .val (.int (15 : Int32)), .val (.int (q.toInt8.toInt32)), .val (.int (1 : Int32))] [])) _
      refine XS.iload X0.here hx rfl (hb hby d11_7) rfl ?_
      show Steps p.tables e below (s₁.setTop (mkF m 9 #[.val (.ref b), .val (.int q), .val (.int (0 : Int32)), .val (.int (15 : Int32)), .val (.int (q.toInt8.toInt32)), .val (.int (1 : Int32))] [(.int (1 : Int32))])) _
      refine XS.iloadN X0.here hx rfl (hb hby d11_9) rfl ?_
      show Steps p.tables e below (s₁.setTop (mkF m 10 #[.val (.ref b), .val (.int q), .val (.int (0 : Int32)), .val (.int (15 : Int32)), .val (.int (q.toInt8.toInt32)), .val (.int (1 : Int32))] [(.int (15 : Int32)), (.int (1 : Int32))])) _
      refine XS.icmpNo X0.here hx rfl (hb hby d11_10) rfl (tlt (by decide : (1 : Int32) < (15 : Int32))).2.1 ?_
      show Steps p.tables e below (s₁.setTop (mkF m 13 #[.val (.ref b), .val (.int q), .val (.int (0 : Int32)), .val (.int (15 : Int32)), .val (.int (q.toInt8.toInt32)), .val (.int (1 : Int32))] [])) _
      refine XS.aloadN X0.here hx rfl (hb hby d11_13) rfl rfl ?_
      show Steps p.tables e below (s₁.setTop (mkF m 14 #[.val (.ref b), .val (.int q), .val (.int (0 : Int32)), .val (.int (15 : Int32)), .val (.int (q.toInt8.toInt32)), .val (.int (1 : Int32))] [(.ref b)])) _
      refine XS.iload X0.here hx rfl (hb hby d11_14) rfl ?_
      show Steps p.tables e below (s₁.setTop (mkF m 16 #[.val (.ref b), .val (.int q), .val (.int (0 : Int32)), .val (.int (15 : Int32)), .val (.int (q.toInt8.toInt32)), .val (.int (1 : Int32))] [(.int (1 : Int32)), (.ref b)])) _
      refine X0.baloadBytes hx (j := (1 : Int32)) (v := (.int (35 : Int32))) (by rw [e0]; exact Ar.1) (State.isArrayOf_alike hZ.alike Ar.2.1) Ar.2.2 (inb_of SS ⟨by decide, by decide⟩) (Has.at HH (inb_of SS ⟨by decide, by decide⟩) rfl) (g := (mkF m 16 #[.val (.ref b), .val (.int q), .val (.int (0 : Int32)), .val (.int (15 : Int32)), .val (.int (q.toInt8.toInt32)), .val (.int (1 : Int32))] [(.int (1 : Int32)), (.ref b)])) rfl rfl (hb hby d11_16) _ ?_
      show Steps p.tables e below (s₁.setTop (mkF m 17 #[.val (.ref b), .val (.int q), .val (.int (0 : Int32)), .val (.int (15 : Int32)), .val (.int (q.toInt8.toInt32)), .val (.int (1 : Int32))] [(.int (35 : Int32))])) _
      refine XS.iload X0.here hx rfl (hb hby d11_17) rfl ?_
      show Steps p.tables e below (s₁.setTop (mkF m 19 #[.val (.ref b), .val (.int q), .val (.int (0 : Int32)), .val (.int (15 : Int32)), .val (.int (q.toInt8.toInt32)), .val (.int (1 : Int32))] [(.int (q.toInt8.toInt32)), (.int (35 : Int32))])) _
      by_cases hc2 : (35 : Int32) = (q.toInt8.toInt32)
      · refine XS.icmpNo X0.here hx rfl (hb hby d11_19) rfl (teq hc2).2 ?_
        show Steps p.tables e below (s₁.setTop (mkF m 22 #[.val (.ref b), .val (.int q), .val (.int (0 : Int32)), .val (.int (15 : Int32)), .val (.int (q.toInt8.toInt32)), .val (.int (1 : Int32))] [])) _
        refine XS.iload X0.here hx rfl (hb hby d11_22) rfl ?_
        show Steps p.tables e below (s₁.setTop (mkF m 24 #[.val (.ref b), .val (.int q), .val (.int (0 : Int32)), .val (.int (15 : Int32)), .val (.int (q.toInt8.toInt32)), .val (.int (1 : Int32))] [(.int (1 : Int32))])) _
        rw [show F11 q = (1 : Int32) from (if_neg hc1).trans ((if_pos hc2).trans rfl)] at hr
        exact retI X0 hx Bd.returns (hb hby d11_24) hr
      · refine XS.icmpYes X0.here hx rfl (pc0 := 19) (pc' := 25) rfl (hb hby d11_19) rfl (feq hc2).2 (by decide) (by decide) ?_
        show Steps p.tables e below (s₁.setTop (mkF m 25 #[.val (.ref b), .val (.int q), .val (.int (0 : Int32)), .val (.int (15 : Int32)), .val (.int (q.toInt8.toInt32)), .val (.int (1 : Int32))] [])) _
        refine XS.iinc X0.here hx rfl (hb hby d11_25) rfl (l' := #[.val (.ref b), .val (.int q), .val (.int (0 : Int32)), .val (.int (15 : Int32)), .val (.int (q.toInt8.toInt32)), .val (.int (2 : Int32))]) rfl ?_
        show Steps p.tables e below (s₁.setTop (mkF m 28 #[.val (.ref b), .val (.int q), .val (.int (0 : Int32)), .val (.int (15 : Int32)), .val (.int (q.toInt8.toInt32)), .val (.int (2 : Int32))] [])) _
        refine XS.goto X0.here hx rfl (pc0 := 28) (pc' := 7) rfl (hb hby d11_28) (by decide) (by decide) ?_
        show Steps p.tables e below (s₁.setTop (mkF m 7 #[.val (.ref b), .val (.int q), .val (.int (0 : Int32)), .val (.int (15 : Int32)), .val (.int (q.toInt8.toInt32)), .val (.int (2 : Int32))] [])) _
        refine XS.iload X0.here hx rfl (hb hby d11_7) rfl ?_
        show Steps p.tables e below (s₁.setTop (mkF m 9 #[.val (.ref b), .val (.int q), .val (.int (0 : Int32)), .val (.int (15 : Int32)), .val (.int (q.toInt8.toInt32)), .val (.int (2 : Int32))] [(.int (2 : Int32))])) _
        refine XS.iloadN X0.here hx rfl (hb hby d11_9) rfl ?_
        show Steps p.tables e below (s₁.setTop (mkF m 10 #[.val (.ref b), .val (.int q), .val (.int (0 : Int32)), .val (.int (15 : Int32)), .val (.int (q.toInt8.toInt32)), .val (.int (2 : Int32))] [(.int (15 : Int32)), (.int (2 : Int32))])) _
        refine XS.icmpNo X0.here hx rfl (hb hby d11_10) rfl (tlt (by decide : (2 : Int32) < (15 : Int32))).2.1 ?_
        show Steps p.tables e below (s₁.setTop (mkF m 13 #[.val (.ref b), .val (.int q), .val (.int (0 : Int32)), .val (.int (15 : Int32)), .val (.int (q.toInt8.toInt32)), .val (.int (2 : Int32))] [])) _
        refine XS.aloadN X0.here hx rfl (hb hby d11_13) rfl rfl ?_
        show Steps p.tables e below (s₁.setTop (mkF m 14 #[.val (.ref b), .val (.int q), .val (.int (0 : Int32)), .val (.int (15 : Int32)), .val (.int (q.toInt8.toInt32)), .val (.int (2 : Int32))] [(.ref b)])) _
        refine XS.iload X0.here hx rfl (hb hby d11_14) rfl ?_
        show Steps p.tables e below (s₁.setTop (mkF m 16 #[.val (.ref b), .val (.int q), .val (.int (0 : Int32)), .val (.int (15 : Int32)), .val (.int (q.toInt8.toInt32)), .val (.int (2 : Int32))] [(.int (2 : Int32)), (.ref b)])) _
        refine X0.baloadBytes hx (j := (2 : Int32)) (v := (.int (36 : Int32))) (by rw [e0]; exact Ar.1) (State.isArrayOf_alike hZ.alike Ar.2.1) Ar.2.2 (inb_of SS ⟨by decide, by decide⟩) (Has.at HH (inb_of SS ⟨by decide, by decide⟩) rfl) (g := (mkF m 16 #[.val (.ref b), .val (.int q), .val (.int (0 : Int32)), .val (.int (15 : Int32)), .val (.int (q.toInt8.toInt32)), .val (.int (2 : Int32))] [(.int (2 : Int32)), (.ref b)])) rfl rfl (hb hby d11_16) _ ?_
        show Steps p.tables e below (s₁.setTop (mkF m 17 #[.val (.ref b), .val (.int q), .val (.int (0 : Int32)), .val (.int (15 : Int32)), .val (.int (q.toInt8.toInt32)), .val (.int (2 : Int32))] [(.int (36 : Int32))])) _
        refine XS.iload X0.here hx rfl (hb hby d11_17) rfl ?_
        show Steps p.tables e below (s₁.setTop (mkF m 19 #[.val (.ref b), .val (.int q), .val (.int (0 : Int32)), .val (.int (15 : Int32)), .val (.int (q.toInt8.toInt32)), .val (.int (2 : Int32))] [(.int (q.toInt8.toInt32)), (.int (36 : Int32))])) _
        by_cases hc3 : (36 : Int32) = (q.toInt8.toInt32)
        · refine XS.icmpNo X0.here hx rfl (hb hby d11_19) rfl (teq hc3).2 ?_
          show Steps p.tables e below (s₁.setTop (mkF m 22 #[.val (.ref b), .val (.int q), .val (.int (0 : Int32)), .val (.int (15 : Int32)), .val (.int (q.toInt8.toInt32)), .val (.int (2 : Int32))] [])) _
          refine XS.iload X0.here hx rfl (hb hby d11_22) rfl ?_
          show Steps p.tables e below (s₁.setTop (mkF m 24 #[.val (.ref b), .val (.int q), .val (.int (0 : Int32)), .val (.int (15 : Int32)), .val (.int (q.toInt8.toInt32)), .val (.int (2 : Int32))] [(.int (2 : Int32))])) _
          rw [show F11 q = (2 : Int32) from (if_neg hc1).trans ((if_neg hc2).trans ((if_pos hc3).trans rfl))] at hr
          exact retI X0 hx Bd.returns (hb hby d11_24) hr
        · refine XS.icmpYes X0.here hx rfl (pc0 := 19) (pc' := 25) rfl (hb hby d11_19) rfl (feq hc3).2 (by decide) (by decide) ?_
          show Steps p.tables e below (s₁.setTop (mkF m 25 #[.val (.ref b), .val (.int q), .val (.int (0 : Int32)), .val (.int (15 : Int32)), .val (.int (q.toInt8.toInt32)), .val (.int (2 : Int32))] [])) _
          refine XS.iinc X0.here hx rfl (hb hby d11_25) rfl (l' := #[.val (.ref b), .val (.int q), .val (.int (0 : Int32)), .val (.int (15 : Int32)), .val (.int (q.toInt8.toInt32)), .val (.int (3 : Int32))]) rfl ?_
          show Steps p.tables e below (s₁.setTop (mkF m 28 #[.val (.ref b), .val (.int q), .val (.int (0 : Int32)), .val (.int (15 : Int32)), .val (.int (q.toInt8.toInt32)), .val (.int (3 : Int32))] [])) _
          refine XS.goto X0.here hx rfl (pc0 := 28) (pc' := 7) rfl (hb hby d11_28) (by decide) (by decide) ?_
          show Steps p.tables e below (s₁.setTop (mkF m 7 #[.val (.ref b), .val (.int q), .val (.int (0 : Int32)), .val (.int (15 : Int32)), .val (.int (q.toInt8.toInt32)), .val (.int (3 : Int32))] [])) _
          refine XS.iload X0.here hx rfl (hb hby d11_7) rfl ?_
          show Steps p.tables e below (s₁.setTop (mkF m 9 #[.val (.ref b), .val (.int q), .val (.int (0 : Int32)), .val (.int (15 : Int32)), .val (.int (q.toInt8.toInt32)), .val (.int (3 : Int32))] [(.int (3 : Int32))])) _
          refine XS.iloadN X0.here hx rfl (hb hby d11_9) rfl ?_
          show Steps p.tables e below (s₁.setTop (mkF m 10 #[.val (.ref b), .val (.int q), .val (.int (0 : Int32)), .val (.int (15 : Int32)), .val (.int (q.toInt8.toInt32)), .val (.int (3 : Int32))] [(.int (15 : Int32)), (.int (3 : Int32))])) _
          refine XS.icmpNo X0.here hx rfl (hb hby d11_10) rfl (tlt (by decide : (3 : Int32) < (15 : Int32))).2.1 ?_
          show Steps p.tables e below (s₁.setTop (mkF m 13 #[.val (.ref b), .val (.int q), .val (.int (0 : Int32)), .val (.int (15 : Int32)), .val (.int (q.toInt8.toInt32)), .val (.int (3 : Int32))] [])) _
          refine XS.aloadN X0.here hx rfl (hb hby d11_13) rfl rfl ?_
          show Steps p.tables e below (s₁.setTop (mkF m 14 #[.val (.ref b), .val (.int q), .val (.int (0 : Int32)), .val (.int (15 : Int32)), .val (.int (q.toInt8.toInt32)), .val (.int (3 : Int32))] [(.ref b)])) _
          refine XS.iload X0.here hx rfl (hb hby d11_14) rfl ?_
          show Steps p.tables e below (s₁.setTop (mkF m 16 #[.val (.ref b), .val (.int q), .val (.int (0 : Int32)), .val (.int (15 : Int32)), .val (.int (q.toInt8.toInt32)), .val (.int (3 : Int32))] [(.int (3 : Int32)), (.ref b)])) _
          refine X0.baloadBytes hx (j := (3 : Int32)) (v := (.int (37 : Int32))) (by rw [e0]; exact Ar.1) (State.isArrayOf_alike hZ.alike Ar.2.1) Ar.2.2 (inb_of SS ⟨by decide, by decide⟩) (Has.at HH (inb_of SS ⟨by decide, by decide⟩) rfl) (g := (mkF m 16 #[.val (.ref b), .val (.int q), .val (.int (0 : Int32)), .val (.int (15 : Int32)), .val (.int (q.toInt8.toInt32)), .val (.int (3 : Int32))] [(.int (3 : Int32)), (.ref b)])) rfl rfl (hb hby d11_16) _ ?_
          show Steps p.tables e below (s₁.setTop (mkF m 17 #[.val (.ref b), .val (.int q), .val (.int (0 : Int32)), .val (.int (15 : Int32)), .val (.int (q.toInt8.toInt32)), .val (.int (3 : Int32))] [(.int (37 : Int32))])) _
          refine XS.iload X0.here hx rfl (hb hby d11_17) rfl ?_
          show Steps p.tables e below (s₁.setTop (mkF m 19 #[.val (.ref b), .val (.int q), .val (.int (0 : Int32)), .val (.int (15 : Int32)), .val (.int (q.toInt8.toInt32)), .val (.int (3 : Int32))] [(.int (q.toInt8.toInt32)), (.int (37 : Int32))])) _
          by_cases hc4 : (37 : Int32) = (q.toInt8.toInt32)
          · refine XS.icmpNo X0.here hx rfl (hb hby d11_19) rfl (teq hc4).2 ?_
            show Steps p.tables e below (s₁.setTop (mkF m 22 #[.val (.ref b), .val (.int q), .val (.int (0 : Int32)), .val (.int (15 : Int32)), .val (.int (q.toInt8.toInt32)), .val (.int (3 : Int32))] [])) _
            refine XS.iload X0.here hx rfl (hb hby d11_22) rfl ?_
            show Steps p.tables e below (s₁.setTop (mkF m 24 #[.val (.ref b), .val (.int q), .val (.int (0 : Int32)), .val (.int (15 : Int32)), .val (.int (q.toInt8.toInt32)), .val (.int (3 : Int32))] [(.int (3 : Int32))])) _
            rw [show F11 q = (3 : Int32) from (if_neg hc1).trans ((if_neg hc2).trans ((if_neg hc3).trans ((if_pos hc4).trans rfl)))] at hr
            exact retI X0 hx Bd.returns (hb hby d11_24) hr
          · refine XS.icmpYes X0.here hx rfl (pc0 := 19) (pc' := 25) rfl (hb hby d11_19) rfl (feq hc4).2 (by decide) (by decide) ?_
            show Steps p.tables e below (s₁.setTop (mkF m 25 #[.val (.ref b), .val (.int q), .val (.int (0 : Int32)), .val (.int (15 : Int32)), .val (.int (q.toInt8.toInt32)), .val (.int (3 : Int32))] [])) _
            refine XS.iinc X0.here hx rfl (hb hby d11_25) rfl (l' := #[.val (.ref b), .val (.int q), .val (.int (0 : Int32)), .val (.int (15 : Int32)), .val (.int (q.toInt8.toInt32)), .val (.int (4 : Int32))]) rfl ?_
            show Steps p.tables e below (s₁.setTop (mkF m 28 #[.val (.ref b), .val (.int q), .val (.int (0 : Int32)), .val (.int (15 : Int32)), .val (.int (q.toInt8.toInt32)), .val (.int (4 : Int32))] [])) _
            refine XS.goto X0.here hx rfl (pc0 := 28) (pc' := 7) rfl (hb hby d11_28) (by decide) (by decide) ?_
            show Steps p.tables e below (s₁.setTop (mkF m 7 #[.val (.ref b), .val (.int q), .val (.int (0 : Int32)), .val (.int (15 : Int32)), .val (.int (q.toInt8.toInt32)), .val (.int (4 : Int32))] [])) _
            refine XS.iload X0.here hx rfl (hb hby d11_7) rfl ?_
            show Steps p.tables e below (s₁.setTop (mkF m 9 #[.val (.ref b), .val (.int q), .val (.int (0 : Int32)), .val (.int (15 : Int32)), .val (.int (q.toInt8.toInt32)), .val (.int (4 : Int32))] [(.int (4 : Int32))])) _
            refine XS.iloadN X0.here hx rfl (hb hby d11_9) rfl ?_
            show Steps p.tables e below (s₁.setTop (mkF m 10 #[.val (.ref b), .val (.int q), .val (.int (0 : Int32)), .val (.int (15 : Int32)), .val (.int (q.toInt8.toInt32)), .val (.int (4 : Int32))] [(.int (15 : Int32)), (.int (4 : Int32))])) _
            refine XS.icmpNo X0.here hx rfl (hb hby d11_10) rfl (tlt (by decide : (4 : Int32) < (15 : Int32))).2.1 ?_
            show Steps p.tables e below (s₁.setTop (mkF m 13 #[.val (.ref b), .val (.int q), .val (.int (0 : Int32)), .val (.int (15 : Int32)), .val (.int (q.toInt8.toInt32)), .val (.int (4 : Int32))] [])) _
            refine XS.aloadN X0.here hx rfl (hb hby d11_13) rfl rfl ?_
            show Steps p.tables e below (s₁.setTop (mkF m 14 #[.val (.ref b), .val (.int q), .val (.int (0 : Int32)), .val (.int (15 : Int32)), .val (.int (q.toInt8.toInt32)), .val (.int (4 : Int32))] [(.ref b)])) _
            refine XS.iload X0.here hx rfl (hb hby d11_14) rfl ?_
            show Steps p.tables e below (s₁.setTop (mkF m 16 #[.val (.ref b), .val (.int q), .val (.int (0 : Int32)), .val (.int (15 : Int32)), .val (.int (q.toInt8.toInt32)), .val (.int (4 : Int32))] [(.int (4 : Int32)), (.ref b)])) _
            refine X0.baloadBytes hx (j := (4 : Int32)) (v := (.int (38 : Int32))) (by rw [e0]; exact Ar.1) (State.isArrayOf_alike hZ.alike Ar.2.1) Ar.2.2 (inb_of SS ⟨by decide, by decide⟩) (Has.at HH (inb_of SS ⟨by decide, by decide⟩) rfl) (g := (mkF m 16 #[.val (.ref b), .val (.int q), .val (.int (0 : Int32)), .val (.int (15 : Int32)), .val (.int (q.toInt8.toInt32)), .val (.int (4 : Int32))] [(.int (4 : Int32)), (.ref b)])) rfl rfl (hb hby d11_16) _ ?_
            show Steps p.tables e below (s₁.setTop (mkF m 17 #[.val (.ref b), .val (.int q), .val (.int (0 : Int32)), .val (.int (15 : Int32)), .val (.int (q.toInt8.toInt32)), .val (.int (4 : Int32))] [(.int (38 : Int32))])) _
            refine XS.iload X0.here hx rfl (hb hby d11_17) rfl ?_
            show Steps p.tables e below (s₁.setTop (mkF m 19 #[.val (.ref b), .val (.int q), .val (.int (0 : Int32)), .val (.int (15 : Int32)), .val (.int (q.toInt8.toInt32)), .val (.int (4 : Int32))] [(.int (q.toInt8.toInt32)), (.int (38 : Int32))])) _
            by_cases hc5 : (38 : Int32) = (q.toInt8.toInt32)
            · refine XS.icmpNo X0.here hx rfl (hb hby d11_19) rfl (teq hc5).2 ?_
              show Steps p.tables e below (s₁.setTop (mkF m 22 #[.val (.ref b), .val (.int q), .val (.int (0 : Int32)), .val (.int (15 : Int32)), .val (.int (q.toInt8.toInt32)), .val (.int (4 : Int32))] [])) _
              refine XS.iload X0.here hx rfl (hb hby d11_22) rfl ?_
              show Steps p.tables e below (s₁.setTop (mkF m 24 #[.val (.ref b), .val (.int q), .val (.int (0 : Int32)), .val (.int (15 : Int32)), .val (.int (q.toInt8.toInt32)), .val (.int (4 : Int32))] [(.int (4 : Int32))])) _
              rw [show F11 q = (4 : Int32) from (if_neg hc1).trans ((if_neg hc2).trans ((if_neg hc3).trans ((if_neg hc4).trans ((if_pos hc5).trans rfl))))] at hr
              exact retI X0 hx Bd.returns (hb hby d11_24) hr
            · refine XS.icmpYes X0.here hx rfl (pc0 := 19) (pc' := 25) rfl (hb hby d11_19) rfl (feq hc5).2 (by decide) (by decide) ?_
              show Steps p.tables e below (s₁.setTop (mkF m 25 #[.val (.ref b), .val (.int q), .val (.int (0 : Int32)), .val (.int (15 : Int32)), .val (.int (q.toInt8.toInt32)), .val (.int (4 : Int32))] [])) _
              refine XS.iinc X0.here hx rfl (hb hby d11_25) rfl (l' := #[.val (.ref b), .val (.int q), .val (.int (0 : Int32)), .val (.int (15 : Int32)), .val (.int (q.toInt8.toInt32)), .val (.int (5 : Int32))]) rfl ?_
              show Steps p.tables e below (s₁.setTop (mkF m 28 #[.val (.ref b), .val (.int q), .val (.int (0 : Int32)), .val (.int (15 : Int32)), .val (.int (q.toInt8.toInt32)), .val (.int (5 : Int32))] [])) _
              refine XS.goto X0.here hx rfl (pc0 := 28) (pc' := 7) rfl (hb hby d11_28) (by decide) (by decide) ?_
              show Steps p.tables e below (s₁.setTop (mkF m 7 #[.val (.ref b), .val (.int q), .val (.int (0 : Int32)), .val (.int (15 : Int32)), .val (.int (q.toInt8.toInt32)), .val (.int (5 : Int32))] [])) _
              refine XS.iload X0.here hx rfl (hb hby d11_7) rfl ?_
              show Steps p.tables e below (s₁.setTop (mkF m 9 #[.val (.ref b), .val (.int q), .val (.int (0 : Int32)), .val (.int (15 : Int32)), .val (.int (q.toInt8.toInt32)), .val (.int (5 : Int32))] [(.int (5 : Int32))])) _
              refine XS.iloadN X0.here hx rfl (hb hby d11_9) rfl ?_
              show Steps p.tables e below (s₁.setTop (mkF m 10 #[.val (.ref b), .val (.int q), .val (.int (0 : Int32)), .val (.int (15 : Int32)), .val (.int (q.toInt8.toInt32)), .val (.int (5 : Int32))] [(.int (15 : Int32)), (.int (5 : Int32))])) _
              refine XS.icmpNo X0.here hx rfl (hb hby d11_10) rfl (tlt (by decide : (5 : Int32) < (15 : Int32))).2.1 ?_
              show Steps p.tables e below (s₁.setTop (mkF m 13 #[.val (.ref b), .val (.int q), .val (.int (0 : Int32)), .val (.int (15 : Int32)), .val (.int (q.toInt8.toInt32)), .val (.int (5 : Int32))] [])) _
              refine XS.aloadN X0.here hx rfl (hb hby d11_13) rfl rfl ?_
              show Steps p.tables e below (s₁.setTop (mkF m 14 #[.val (.ref b), .val (.int q), .val (.int (0 : Int32)), .val (.int (15 : Int32)), .val (.int (q.toInt8.toInt32)), .val (.int (5 : Int32))] [(.ref b)])) _
              refine XS.iload X0.here hx rfl (hb hby d11_14) rfl ?_
              show Steps p.tables e below (s₁.setTop (mkF m 16 #[.val (.ref b), .val (.int q), .val (.int (0 : Int32)), .val (.int (15 : Int32)), .val (.int (q.toInt8.toInt32)), .val (.int (5 : Int32))] [(.int (5 : Int32)), (.ref b)])) _
              refine X0.baloadBytes hx (j := (5 : Int32)) (v := (.int (39 : Int32))) (by rw [e0]; exact Ar.1) (State.isArrayOf_alike hZ.alike Ar.2.1) Ar.2.2 (inb_of SS ⟨by decide, by decide⟩) (Has.at HH (inb_of SS ⟨by decide, by decide⟩) rfl) (g := (mkF m 16 #[.val (.ref b), .val (.int q), .val (.int (0 : Int32)), .val (.int (15 : Int32)), .val (.int (q.toInt8.toInt32)), .val (.int (5 : Int32))] [(.int (5 : Int32)), (.ref b)])) rfl rfl (hb hby d11_16) _ ?_
              show Steps p.tables e below (s₁.setTop (mkF m 17 #[.val (.ref b), .val (.int q), .val (.int (0 : Int32)), .val (.int (15 : Int32)), .val (.int (q.toInt8.toInt32)), .val (.int (5 : Int32))] [(.int (39 : Int32))])) _
              refine XS.iload X0.here hx rfl (hb hby d11_17) rfl ?_
              show Steps p.tables e below (s₁.setTop (mkF m 19 #[.val (.ref b), .val (.int q), .val (.int (0 : Int32)), .val (.int (15 : Int32)), .val (.int (q.toInt8.toInt32)), .val (.int (5 : Int32))] [(.int (q.toInt8.toInt32)), (.int (39 : Int32))])) _
              by_cases hc6 : (39 : Int32) = (q.toInt8.toInt32)
              · refine XS.icmpNo X0.here hx rfl (hb hby d11_19) rfl (teq hc6).2 ?_
                show Steps p.tables e below (s₁.setTop (mkF m 22 #[.val (.ref b), .val (.int q), .val (.int (0 : Int32)), .val (.int (15 : Int32)), .val (.int (q.toInt8.toInt32)), .val (.int (5 : Int32))] [])) _
                refine XS.iload X0.here hx rfl (hb hby d11_22) rfl ?_
                show Steps p.tables e below (s₁.setTop (mkF m 24 #[.val (.ref b), .val (.int q), .val (.int (0 : Int32)), .val (.int (15 : Int32)), .val (.int (q.toInt8.toInt32)), .val (.int (5 : Int32))] [(.int (5 : Int32))])) _
                rw [show F11 q = (5 : Int32) from (if_neg hc1).trans ((if_neg hc2).trans ((if_neg hc3).trans ((if_neg hc4).trans ((if_neg hc5).trans ((if_pos hc6).trans rfl)))))] at hr
                exact retI X0 hx Bd.returns (hb hby d11_24) hr
              · refine XS.icmpYes X0.here hx rfl (pc0 := 19) (pc' := 25) rfl (hb hby d11_19) rfl (feq hc6).2 (by decide) (by decide) ?_
                show Steps p.tables e below (s₁.setTop (mkF m 25 #[.val (.ref b), .val (.int q), .val (.int (0 : Int32)), .val (.int (15 : Int32)), .val (.int (q.toInt8.toInt32)), .val (.int (5 : Int32))] [])) _
                refine XS.iinc X0.here hx rfl (hb hby d11_25) rfl (l' := #[.val (.ref b), .val (.int q), .val (.int (0 : Int32)), .val (.int (15 : Int32)), .val (.int (q.toInt8.toInt32)), .val (.int (6 : Int32))]) rfl ?_
                show Steps p.tables e below (s₁.setTop (mkF m 28 #[.val (.ref b), .val (.int q), .val (.int (0 : Int32)), .val (.int (15 : Int32)), .val (.int (q.toInt8.toInt32)), .val (.int (6 : Int32))] [])) _
                refine XS.goto X0.here hx rfl (pc0 := 28) (pc' := 7) rfl (hb hby d11_28) (by decide) (by decide) ?_
                show Steps p.tables e below (s₁.setTop (mkF m 7 #[.val (.ref b), .val (.int q), .val (.int (0 : Int32)), .val (.int (15 : Int32)), .val (.int (q.toInt8.toInt32)), .val (.int (6 : Int32))] [])) _
                refine XS.iload X0.here hx rfl (hb hby d11_7) rfl ?_
                show Steps p.tables e below (s₁.setTop (mkF m 9 #[.val (.ref b), .val (.int q), .val (.int (0 : Int32)), .val (.int (15 : Int32)), .val (.int (q.toInt8.toInt32)), .val (.int (6 : Int32))] [(.int (6 : Int32))])) _
                refine XS.iloadN X0.here hx rfl (hb hby d11_9) rfl ?_
                show Steps p.tables e below (s₁.setTop (mkF m 10 #[.val (.ref b), .val (.int q), .val (.int (0 : Int32)), .val (.int (15 : Int32)), .val (.int (q.toInt8.toInt32)), .val (.int (6 : Int32))] [(.int (15 : Int32)), (.int (6 : Int32))])) _
                refine XS.icmpNo X0.here hx rfl (hb hby d11_10) rfl (tlt (by decide : (6 : Int32) < (15 : Int32))).2.1 ?_
                show Steps p.tables e below (s₁.setTop (mkF m 13 #[.val (.ref b), .val (.int q), .val (.int (0 : Int32)), .val (.int (15 : Int32)), .val (.int (q.toInt8.toInt32)), .val (.int (6 : Int32))] [])) _
                refine XS.aloadN X0.here hx rfl (hb hby d11_13) rfl rfl ?_
                show Steps p.tables e below (s₁.setTop (mkF m 14 #[.val (.ref b), .val (.int q), .val (.int (0 : Int32)), .val (.int (15 : Int32)), .val (.int (q.toInt8.toInt32)), .val (.int (6 : Int32))] [(.ref b)])) _
                refine XS.iload X0.here hx rfl (hb hby d11_14) rfl ?_
                show Steps p.tables e below (s₁.setTop (mkF m 16 #[.val (.ref b), .val (.int q), .val (.int (0 : Int32)), .val (.int (15 : Int32)), .val (.int (q.toInt8.toInt32)), .val (.int (6 : Int32))] [(.int (6 : Int32)), (.ref b)])) _
                refine X0.baloadBytes hx (j := (6 : Int32)) (v := (.int (42 : Int32))) (by rw [e0]; exact Ar.1) (State.isArrayOf_alike hZ.alike Ar.2.1) Ar.2.2 (inb_of SS ⟨by decide, by decide⟩) (Has.at HH (inb_of SS ⟨by decide, by decide⟩) rfl) (g := (mkF m 16 #[.val (.ref b), .val (.int q), .val (.int (0 : Int32)), .val (.int (15 : Int32)), .val (.int (q.toInt8.toInt32)), .val (.int (6 : Int32))] [(.int (6 : Int32)), (.ref b)])) rfl rfl (hb hby d11_16) _ ?_
                show Steps p.tables e below (s₁.setTop (mkF m 17 #[.val (.ref b), .val (.int q), .val (.int (0 : Int32)), .val (.int (15 : Int32)), .val (.int (q.toInt8.toInt32)), .val (.int (6 : Int32))] [(.int (42 : Int32))])) _
                refine XS.iload X0.here hx rfl (hb hby d11_17) rfl ?_
                show Steps p.tables e below (s₁.setTop (mkF m 19 #[.val (.ref b), .val (.int q), .val (.int (0 : Int32)), .val (.int (15 : Int32)), .val (.int (q.toInt8.toInt32)), .val (.int (6 : Int32))] [(.int (q.toInt8.toInt32)), (.int (42 : Int32))])) _
                by_cases hc7 : (42 : Int32) = (q.toInt8.toInt32)
                · refine XS.icmpNo X0.here hx rfl (hb hby d11_19) rfl (teq hc7).2 ?_
                  show Steps p.tables e below (s₁.setTop (mkF m 22 #[.val (.ref b), .val (.int q), .val (.int (0 : Int32)), .val (.int (15 : Int32)), .val (.int (q.toInt8.toInt32)), .val (.int (6 : Int32))] [])) _
                  refine XS.iload X0.here hx rfl (hb hby d11_22) rfl ?_
                  show Steps p.tables e below (s₁.setTop (mkF m 24 #[.val (.ref b), .val (.int q), .val (.int (0 : Int32)), .val (.int (15 : Int32)), .val (.int (q.toInt8.toInt32)), .val (.int (6 : Int32))] [(.int (6 : Int32))])) _
                  rw [show F11 q = (6 : Int32) from (if_neg hc1).trans ((if_neg hc2).trans ((if_neg hc3).trans ((if_neg hc4).trans ((if_neg hc5).trans ((if_neg hc6).trans ((if_pos hc7).trans rfl))))))] at hr
                  exact retI X0 hx Bd.returns (hb hby d11_24) hr
                · refine XS.icmpYes X0.here hx rfl (pc0 := 19) (pc' := 25) rfl (hb hby d11_19) rfl (feq hc7).2 (by decide) (by decide) ?_
                  show Steps p.tables e below (s₁.setTop (mkF m 25 #[.val (.ref b), .val (.int q), .val (.int (0 : Int32)), .val (.int (15 : Int32)), .val (.int (q.toInt8.toInt32)), .val (.int (6 : Int32))] [])) _
                  refine XS.iinc X0.here hx rfl (hb hby d11_25) rfl (l' := #[.val (.ref b), .val (.int q), .val (.int (0 : Int32)), .val (.int (15 : Int32)), .val (.int (q.toInt8.toInt32)), .val (.int (7 : Int32))]) rfl ?_
                  show Steps p.tables e below (s₁.setTop (mkF m 28 #[.val (.ref b), .val (.int q), .val (.int (0 : Int32)), .val (.int (15 : Int32)), .val (.int (q.toInt8.toInt32)), .val (.int (7 : Int32))] [])) _
                  refine XS.goto X0.here hx rfl (pc0 := 28) (pc' := 7) rfl (hb hby d11_28) (by decide) (by decide) ?_
                  show Steps p.tables e below (s₁.setTop (mkF m 7 #[.val (.ref b), .val (.int q), .val (.int (0 : Int32)), .val (.int (15 : Int32)), .val (.int (q.toInt8.toInt32)), .val (.int (7 : Int32))] [])) _
                  refine XS.iload X0.here hx rfl (hb hby d11_7) rfl ?_
                  show Steps p.tables e below (s₁.setTop (mkF m 9 #[.val (.ref b), .val (.int q), .val (.int (0 : Int32)), .val (.int (15 : Int32)), .val (.int (q.toInt8.toInt32)), .val (.int (7 : Int32))] [(.int (7 : Int32))])) _
                  refine XS.iloadN X0.here hx rfl (hb hby d11_9) rfl ?_
                  show Steps p.tables e below (s₁.setTop (mkF m 10 #[.val (.ref b), .val (.int q), .val (.int (0 : Int32)), .val (.int (15 : Int32)), .val (.int (q.toInt8.toInt32)), .val (.int (7 : Int32))] [(.int (15 : Int32)), (.int (7 : Int32))])) _
                  refine XS.icmpNo X0.here hx rfl (hb hby d11_10) rfl (tlt (by decide : (7 : Int32) < (15 : Int32))).2.1 ?_
                  show Steps p.tables e below (s₁.setTop (mkF m 13 #[.val (.ref b), .val (.int q), .val (.int (0 : Int32)), .val (.int (15 : Int32)), .val (.int (q.toInt8.toInt32)), .val (.int (7 : Int32))] [])) _
                  refine XS.aloadN X0.here hx rfl (hb hby d11_13) rfl rfl ?_
                  show Steps p.tables e below (s₁.setTop (mkF m 14 #[.val (.ref b), .val (.int q), .val (.int (0 : Int32)), .val (.int (15 : Int32)), .val (.int (q.toInt8.toInt32)), .val (.int (7 : Int32))] [(.ref b)])) _
                  refine XS.iload X0.here hx rfl (hb hby d11_14) rfl ?_
                  show Steps p.tables e below (s₁.setTop (mkF m 16 #[.val (.ref b), .val (.int q), .val (.int (0 : Int32)), .val (.int (15 : Int32)), .val (.int (q.toInt8.toInt32)), .val (.int (7 : Int32))] [(.int (7 : Int32)), (.ref b)])) _
                  refine X0.baloadBytes hx (j := (7 : Int32)) (v := (.int (43 : Int32))) (by rw [e0]; exact Ar.1) (State.isArrayOf_alike hZ.alike Ar.2.1) Ar.2.2 (inb_of SS ⟨by decide, by decide⟩) (Has.at HH (inb_of SS ⟨by decide, by decide⟩) rfl) (g := (mkF m 16 #[.val (.ref b), .val (.int q), .val (.int (0 : Int32)), .val (.int (15 : Int32)), .val (.int (q.toInt8.toInt32)), .val (.int (7 : Int32))] [(.int (7 : Int32)), (.ref b)])) rfl rfl (hb hby d11_16) _ ?_
                  show Steps p.tables e below (s₁.setTop (mkF m 17 #[.val (.ref b), .val (.int q), .val (.int (0 : Int32)), .val (.int (15 : Int32)), .val (.int (q.toInt8.toInt32)), .val (.int (7 : Int32))] [(.int (43 : Int32))])) _
                  refine XS.iload X0.here hx rfl (hb hby d11_17) rfl ?_
                  show Steps p.tables e below (s₁.setTop (mkF m 19 #[.val (.ref b), .val (.int q), .val (.int (0 : Int32)), .val (.int (15 : Int32)), .val (.int (q.toInt8.toInt32)), .val (.int (7 : Int32))] [(.int (q.toInt8.toInt32)), (.int (43 : Int32))])) _
                  by_cases hc8 : (43 : Int32) = (q.toInt8.toInt32)
                  · refine XS.icmpNo X0.here hx rfl (hb hby d11_19) rfl (teq hc8).2 ?_
                    show Steps p.tables e below (s₁.setTop (mkF m 22 #[.val (.ref b), .val (.int q), .val (.int (0 : Int32)), .val (.int (15 : Int32)), .val (.int (q.toInt8.toInt32)), .val (.int (7 : Int32))] [])) _
                    refine XS.iload X0.here hx rfl (hb hby d11_22) rfl ?_
                    show Steps p.tables e below (s₁.setTop (mkF m 24 #[.val (.ref b), .val (.int q), .val (.int (0 : Int32)), .val (.int (15 : Int32)), .val (.int (q.toInt8.toInt32)), .val (.int (7 : Int32))] [(.int (7 : Int32))])) _
                    rw [show F11 q = (7 : Int32) from (if_neg hc1).trans ((if_neg hc2).trans ((if_neg hc3).trans ((if_neg hc4).trans ((if_neg hc5).trans ((if_neg hc6).trans ((if_neg hc7).trans ((if_pos hc8).trans rfl)))))))] at hr
                    exact retI X0 hx Bd.returns (hb hby d11_24) hr
                  · refine XS.icmpYes X0.here hx rfl (pc0 := 19) (pc' := 25) rfl (hb hby d11_19) rfl (feq hc8).2 (by decide) (by decide) ?_
                    show Steps p.tables e below (s₁.setTop (mkF m 25 #[.val (.ref b), .val (.int q), .val (.int (0 : Int32)), .val (.int (15 : Int32)), .val (.int (q.toInt8.toInt32)), .val (.int (7 : Int32))] [])) _
                    refine XS.iinc X0.here hx rfl (hb hby d11_25) rfl (l' := #[.val (.ref b), .val (.int q), .val (.int (0 : Int32)), .val (.int (15 : Int32)), .val (.int (q.toInt8.toInt32)), .val (.int (8 : Int32))]) rfl ?_
                    show Steps p.tables e below (s₁.setTop (mkF m 28 #[.val (.ref b), .val (.int q), .val (.int (0 : Int32)), .val (.int (15 : Int32)), .val (.int (q.toInt8.toInt32)), .val (.int (8 : Int32))] [])) _
                    refine XS.goto X0.here hx rfl (pc0 := 28) (pc' := 7) rfl (hb hby d11_28) (by decide) (by decide) ?_
                    show Steps p.tables e below (s₁.setTop (mkF m 7 #[.val (.ref b), .val (.int q), .val (.int (0 : Int32)), .val (.int (15 : Int32)), .val (.int (q.toInt8.toInt32)), .val (.int (8 : Int32))] [])) _
                    refine XS.iload X0.here hx rfl (hb hby d11_7) rfl ?_
                    show Steps p.tables e below (s₁.setTop (mkF m 9 #[.val (.ref b), .val (.int q), .val (.int (0 : Int32)), .val (.int (15 : Int32)), .val (.int (q.toInt8.toInt32)), .val (.int (8 : Int32))] [(.int (8 : Int32))])) _
                    refine XS.iloadN X0.here hx rfl (hb hby d11_9) rfl ?_
                    show Steps p.tables e below (s₁.setTop (mkF m 10 #[.val (.ref b), .val (.int q), .val (.int (0 : Int32)), .val (.int (15 : Int32)), .val (.int (q.toInt8.toInt32)), .val (.int (8 : Int32))] [(.int (15 : Int32)), (.int (8 : Int32))])) _
                    refine XS.icmpNo X0.here hx rfl (hb hby d11_10) rfl (tlt (by decide : (8 : Int32) < (15 : Int32))).2.1 ?_
                    show Steps p.tables e below (s₁.setTop (mkF m 13 #[.val (.ref b), .val (.int q), .val (.int (0 : Int32)), .val (.int (15 : Int32)), .val (.int (q.toInt8.toInt32)), .val (.int (8 : Int32))] [])) _
                    refine XS.aloadN X0.here hx rfl (hb hby d11_13) rfl rfl ?_
                    show Steps p.tables e below (s₁.setTop (mkF m 14 #[.val (.ref b), .val (.int q), .val (.int (0 : Int32)), .val (.int (15 : Int32)), .val (.int (q.toInt8.toInt32)), .val (.int (8 : Int32))] [(.ref b)])) _
                    refine XS.iload X0.here hx rfl (hb hby d11_14) rfl ?_
                    show Steps p.tables e below (s₁.setTop (mkF m 16 #[.val (.ref b), .val (.int q), .val (.int (0 : Int32)), .val (.int (15 : Int32)), .val (.int (q.toInt8.toInt32)), .val (.int (8 : Int32))] [(.int (8 : Int32)), (.ref b)])) _
                    refine X0.baloadBytes hx (j := (8 : Int32)) (v := (.int (45 : Int32))) (by rw [e0]; exact Ar.1) (State.isArrayOf_alike hZ.alike Ar.2.1) Ar.2.2 (inb_of SS ⟨by decide, by decide⟩) (Has.at HH (inb_of SS ⟨by decide, by decide⟩) rfl) (g := (mkF m 16 #[.val (.ref b), .val (.int q), .val (.int (0 : Int32)), .val (.int (15 : Int32)), .val (.int (q.toInt8.toInt32)), .val (.int (8 : Int32))] [(.int (8 : Int32)), (.ref b)])) rfl rfl (hb hby d11_16) _ ?_
                    show Steps p.tables e below (s₁.setTop (mkF m 17 #[.val (.ref b), .val (.int q), .val (.int (0 : Int32)), .val (.int (15 : Int32)), .val (.int (q.toInt8.toInt32)), .val (.int (8 : Int32))] [(.int (45 : Int32))])) _
                    refine XS.iload X0.here hx rfl (hb hby d11_17) rfl ?_
                    show Steps p.tables e below (s₁.setTop (mkF m 19 #[.val (.ref b), .val (.int q), .val (.int (0 : Int32)), .val (.int (15 : Int32)), .val (.int (q.toInt8.toInt32)), .val (.int (8 : Int32))] [(.int (q.toInt8.toInt32)), (.int (45 : Int32))])) _
                    by_cases hc9 : (45 : Int32) = (q.toInt8.toInt32)
                    · refine XS.icmpNo X0.here hx rfl (hb hby d11_19) rfl (teq hc9).2 ?_
                      show Steps p.tables e below (s₁.setTop (mkF m 22 #[.val (.ref b), .val (.int q), .val (.int (0 : Int32)), .val (.int (15 : Int32)), .val (.int (q.toInt8.toInt32)), .val (.int (8 : Int32))] [])) _
                      refine XS.iload X0.here hx rfl (hb hby d11_22) rfl ?_
                      show Steps p.tables e below (s₁.setTop (mkF m 24 #[.val (.ref b), .val (.int q), .val (.int (0 : Int32)), .val (.int (15 : Int32)), .val (.int (q.toInt8.toInt32)), .val (.int (8 : Int32))] [(.int (8 : Int32))])) _
                      rw [show F11 q = (8 : Int32) from (if_neg hc1).trans ((if_neg hc2).trans ((if_neg hc3).trans ((if_neg hc4).trans ((if_neg hc5).trans ((if_neg hc6).trans ((if_neg hc7).trans ((if_neg hc8).trans ((if_pos hc9).trans rfl))))))))] at hr
                      exact retI X0 hx Bd.returns (hb hby d11_24) hr
                    · refine XS.icmpYes X0.here hx rfl (pc0 := 19) (pc' := 25) rfl (hb hby d11_19) rfl (feq hc9).2 (by decide) (by decide) ?_
                      show Steps p.tables e below (s₁.setTop (mkF m 25 #[.val (.ref b), .val (.int q), .val (.int (0 : Int32)), .val (.int (15 : Int32)), .val (.int (q.toInt8.toInt32)), .val (.int (8 : Int32))] [])) _
                      refine XS.iinc X0.here hx rfl (hb hby d11_25) rfl (l' := #[.val (.ref b), .val (.int q), .val (.int (0 : Int32)), .val (.int (15 : Int32)), .val (.int (q.toInt8.toInt32)), .val (.int (9 : Int32))]) rfl ?_
                      show Steps p.tables e below (s₁.setTop (mkF m 28 #[.val (.ref b), .val (.int q), .val (.int (0 : Int32)), .val (.int (15 : Int32)), .val (.int (q.toInt8.toInt32)), .val (.int (9 : Int32))] [])) _
                      refine XS.goto X0.here hx rfl (pc0 := 28) (pc' := 7) rfl (hb hby d11_28) (by decide) (by decide) ?_
                      show Steps p.tables e below (s₁.setTop (mkF m 7 #[.val (.ref b), .val (.int q), .val (.int (0 : Int32)), .val (.int (15 : Int32)), .val (.int (q.toInt8.toInt32)), .val (.int (9 : Int32))] [])) _
                      refine XS.iload X0.here hx rfl (hb hby d11_7) rfl ?_
                      show Steps p.tables e below (s₁.setTop (mkF m 9 #[.val (.ref b), .val (.int q), .val (.int (0 : Int32)), .val (.int (15 : Int32)), .val (.int (q.toInt8.toInt32)), .val (.int (9 : Int32))] [(.int (9 : Int32))])) _
                      refine XS.iloadN X0.here hx rfl (hb hby d11_9) rfl ?_
                      show Steps p.tables e below (s₁.setTop (mkF m 10 #[.val (.ref b), .val (.int q), .val (.int (0 : Int32)), .val (.int (15 : Int32)), .val (.int (q.toInt8.toInt32)), .val (.int (9 : Int32))] [(.int (15 : Int32)), (.int (9 : Int32))])) _
                      refine XS.icmpNo X0.here hx rfl (hb hby d11_10) rfl (tlt (by decide : (9 : Int32) < (15 : Int32))).2.1 ?_
                      show Steps p.tables e below (s₁.setTop (mkF m 13 #[.val (.ref b), .val (.int q), .val (.int (0 : Int32)), .val (.int (15 : Int32)), .val (.int (q.toInt8.toInt32)), .val (.int (9 : Int32))] [])) _
                      refine XS.aloadN X0.here hx rfl (hb hby d11_13) rfl rfl ?_
                      show Steps p.tables e below (s₁.setTop (mkF m 14 #[.val (.ref b), .val (.int q), .val (.int (0 : Int32)), .val (.int (15 : Int32)), .val (.int (q.toInt8.toInt32)), .val (.int (9 : Int32))] [(.ref b)])) _
                      refine XS.iload X0.here hx rfl (hb hby d11_14) rfl ?_
                      show Steps p.tables e below (s₁.setTop (mkF m 16 #[.val (.ref b), .val (.int q), .val (.int (0 : Int32)), .val (.int (15 : Int32)), .val (.int (q.toInt8.toInt32)), .val (.int (9 : Int32))] [(.int (9 : Int32)), (.ref b)])) _
                      refine X0.baloadBytes hx (j := (9 : Int32)) (v := (.int (46 : Int32))) (by rw [e0]; exact Ar.1) (State.isArrayOf_alike hZ.alike Ar.2.1) Ar.2.2 (inb_of SS ⟨by decide, by decide⟩) (Has.at HH (inb_of SS ⟨by decide, by decide⟩) rfl) (g := (mkF m 16 #[.val (.ref b), .val (.int q), .val (.int (0 : Int32)), .val (.int (15 : Int32)), .val (.int (q.toInt8.toInt32)), .val (.int (9 : Int32))] [(.int (9 : Int32)), (.ref b)])) rfl rfl (hb hby d11_16) _ ?_
                      show Steps p.tables e below (s₁.setTop (mkF m 17 #[.val (.ref b), .val (.int q), .val (.int (0 : Int32)), .val (.int (15 : Int32)), .val (.int (q.toInt8.toInt32)), .val (.int (9 : Int32))] [(.int (46 : Int32))])) _
                      refine XS.iload X0.here hx rfl (hb hby d11_17) rfl ?_
                      show Steps p.tables e below (s₁.setTop (mkF m 19 #[.val (.ref b), .val (.int q), .val (.int (0 : Int32)), .val (.int (15 : Int32)), .val (.int (q.toInt8.toInt32)), .val (.int (9 : Int32))] [(.int (q.toInt8.toInt32)), (.int (46 : Int32))])) _
                      by_cases hc10 : (46 : Int32) = (q.toInt8.toInt32)
                      · refine XS.icmpNo X0.here hx rfl (hb hby d11_19) rfl (teq hc10).2 ?_
                        show Steps p.tables e below (s₁.setTop (mkF m 22 #[.val (.ref b), .val (.int q), .val (.int (0 : Int32)), .val (.int (15 : Int32)), .val (.int (q.toInt8.toInt32)), .val (.int (9 : Int32))] [])) _
                        refine XS.iload X0.here hx rfl (hb hby d11_22) rfl ?_
                        show Steps p.tables e below (s₁.setTop (mkF m 24 #[.val (.ref b), .val (.int q), .val (.int (0 : Int32)), .val (.int (15 : Int32)), .val (.int (q.toInt8.toInt32)), .val (.int (9 : Int32))] [(.int (9 : Int32))])) _
                        rw [show F11 q = (9 : Int32) from (if_neg hc1).trans ((if_neg hc2).trans ((if_neg hc3).trans ((if_neg hc4).trans ((if_neg hc5).trans ((if_neg hc6).trans ((if_neg hc7).trans ((if_neg hc8).trans ((if_neg hc9).trans ((if_pos hc10).trans rfl)))))))))] at hr
                        exact retI X0 hx Bd.returns (hb hby d11_24) hr
                      · refine XS.icmpYes X0.here hx rfl (pc0 := 19) (pc' := 25) rfl (hb hby d11_19) rfl (feq hc10).2 (by decide) (by decide) ?_
                        show Steps p.tables e below (s₁.setTop (mkF m 25 #[.val (.ref b), .val (.int q), .val (.int (0 : Int32)), .val (.int (15 : Int32)), .val (.int (q.toInt8.toInt32)), .val (.int (9 : Int32))] [])) _
                        refine XS.iinc X0.here hx rfl (hb hby d11_25) rfl (l' := #[.val (.ref b), .val (.int q), .val (.int (0 : Int32)), .val (.int (15 : Int32)), .val (.int (q.toInt8.toInt32)), .val (.int (10 : Int32))]) rfl ?_
                        show Steps p.tables e below (s₁.setTop (mkF m 28 #[.val (.ref b), .val (.int q), .val (.int (0 : Int32)), .val (.int (15 : Int32)), .val (.int (q.toInt8.toInt32)), .val (.int (10 : Int32))] [])) _
                        refine XS.goto X0.here hx rfl (pc0 := 28) (pc' := 7) rfl (hb hby d11_28) (by decide) (by decide) ?_
                        show Steps p.tables e below (s₁.setTop (mkF m 7 #[.val (.ref b), .val (.int q), .val (.int (0 : Int32)), .val (.int (15 : Int32)), .val (.int (q.toInt8.toInt32)), .val (.int (10 : Int32))] [])) _
                        refine XS.iload X0.here hx rfl (hb hby d11_7) rfl ?_
                        show Steps p.tables e below (s₁.setTop (mkF m 9 #[.val (.ref b), .val (.int q), .val (.int (0 : Int32)), .val (.int (15 : Int32)), .val (.int (q.toInt8.toInt32)), .val (.int (10 : Int32))] [(.int (10 : Int32))])) _
                        refine XS.iloadN X0.here hx rfl (hb hby d11_9) rfl ?_
                        show Steps p.tables e below (s₁.setTop (mkF m 10 #[.val (.ref b), .val (.int q), .val (.int (0 : Int32)), .val (.int (15 : Int32)), .val (.int (q.toInt8.toInt32)), .val (.int (10 : Int32))] [(.int (15 : Int32)), (.int (10 : Int32))])) _
                        refine XS.icmpNo X0.here hx rfl (hb hby d11_10) rfl (tlt (by decide : (10 : Int32) < (15 : Int32))).2.1 ?_
                        show Steps p.tables e below (s₁.setTop (mkF m 13 #[.val (.ref b), .val (.int q), .val (.int (0 : Int32)), .val (.int (15 : Int32)), .val (.int (q.toInt8.toInt32)), .val (.int (10 : Int32))] [])) _
                        refine XS.aloadN X0.here hx rfl (hb hby d11_13) rfl rfl ?_
                        show Steps p.tables e below (s₁.setTop (mkF m 14 #[.val (.ref b), .val (.int q), .val (.int (0 : Int32)), .val (.int (15 : Int32)), .val (.int (q.toInt8.toInt32)), .val (.int (10 : Int32))] [(.ref b)])) _
                        refine XS.iload X0.here hx rfl (hb hby d11_14) rfl ?_
                        show Steps p.tables e below (s₁.setTop (mkF m 16 #[.val (.ref b), .val (.int q), .val (.int (0 : Int32)), .val (.int (15 : Int32)), .val (.int (q.toInt8.toInt32)), .val (.int (10 : Int32))] [(.int (10 : Int32)), (.ref b)])) _
                        refine X0.baloadBytes hx (j := (10 : Int32)) (v := (.int (94 : Int32))) (by rw [e0]; exact Ar.1) (State.isArrayOf_alike hZ.alike Ar.2.1) Ar.2.2 (inb_of SS ⟨by decide, by decide⟩) (Has.at HH (inb_of SS ⟨by decide, by decide⟩) rfl) (g := (mkF m 16 #[.val (.ref b), .val (.int q), .val (.int (0 : Int32)), .val (.int (15 : Int32)), .val (.int (q.toInt8.toInt32)), .val (.int (10 : Int32))] [(.int (10 : Int32)), (.ref b)])) rfl rfl (hb hby d11_16) _ ?_
                        show Steps p.tables e below (s₁.setTop (mkF m 17 #[.val (.ref b), .val (.int q), .val (.int (0 : Int32)), .val (.int (15 : Int32)), .val (.int (q.toInt8.toInt32)), .val (.int (10 : Int32))] [(.int (94 : Int32))])) _
                        refine XS.iload X0.here hx rfl (hb hby d11_17) rfl ?_
                        show Steps p.tables e below (s₁.setTop (mkF m 19 #[.val (.ref b), .val (.int q), .val (.int (0 : Int32)), .val (.int (15 : Int32)), .val (.int (q.toInt8.toInt32)), .val (.int (10 : Int32))] [(.int (q.toInt8.toInt32)), (.int (94 : Int32))])) _
                        by_cases hc11 : (94 : Int32) = (q.toInt8.toInt32)
                        · refine XS.icmpNo X0.here hx rfl (hb hby d11_19) rfl (teq hc11).2 ?_
                          show Steps p.tables e below (s₁.setTop (mkF m 22 #[.val (.ref b), .val (.int q), .val (.int (0 : Int32)), .val (.int (15 : Int32)), .val (.int (q.toInt8.toInt32)), .val (.int (10 : Int32))] [])) _
                          refine XS.iload X0.here hx rfl (hb hby d11_22) rfl ?_
                          show Steps p.tables e below (s₁.setTop (mkF m 24 #[.val (.ref b), .val (.int q), .val (.int (0 : Int32)), .val (.int (15 : Int32)), .val (.int (q.toInt8.toInt32)), .val (.int (10 : Int32))] [(.int (10 : Int32))])) _
                          rw [show F11 q = (10 : Int32) from (if_neg hc1).trans ((if_neg hc2).trans ((if_neg hc3).trans ((if_neg hc4).trans ((if_neg hc5).trans ((if_neg hc6).trans ((if_neg hc7).trans ((if_neg hc8).trans ((if_neg hc9).trans ((if_neg hc10).trans ((if_pos hc11).trans rfl))))))))))] at hr
                          exact retI X0 hx Bd.returns (hb hby d11_24) hr
                        · refine XS.icmpYes X0.here hx rfl (pc0 := 19) (pc' := 25) rfl (hb hby d11_19) rfl (feq hc11).2 (by decide) (by decide) ?_
                          show Steps p.tables e below (s₁.setTop (mkF m 25 #[.val (.ref b), .val (.int q), .val (.int (0 : Int32)), .val (.int (15 : Int32)), .val (.int (q.toInt8.toInt32)), .val (.int (10 : Int32))] [])) _
                          refine XS.iinc X0.here hx rfl (hb hby d11_25) rfl (l' := #[.val (.ref b), .val (.int q), .val (.int (0 : Int32)), .val (.int (15 : Int32)), .val (.int (q.toInt8.toInt32)), .val (.int (11 : Int32))]) rfl ?_
                          show Steps p.tables e below (s₁.setTop (mkF m 28 #[.val (.ref b), .val (.int q), .val (.int (0 : Int32)), .val (.int (15 : Int32)), .val (.int (q.toInt8.toInt32)), .val (.int (11 : Int32))] [])) _
                          refine XS.goto X0.here hx rfl (pc0 := 28) (pc' := 7) rfl (hb hby d11_28) (by decide) (by decide) ?_
                          show Steps p.tables e below (s₁.setTop (mkF m 7 #[.val (.ref b), .val (.int q), .val (.int (0 : Int32)), .val (.int (15 : Int32)), .val (.int (q.toInt8.toInt32)), .val (.int (11 : Int32))] [])) _
                          refine XS.iload X0.here hx rfl (hb hby d11_7) rfl ?_
                          show Steps p.tables e below (s₁.setTop (mkF m 9 #[.val (.ref b), .val (.int q), .val (.int (0 : Int32)), .val (.int (15 : Int32)), .val (.int (q.toInt8.toInt32)), .val (.int (11 : Int32))] [(.int (11 : Int32))])) _
                          refine XS.iloadN X0.here hx rfl (hb hby d11_9) rfl ?_
                          show Steps p.tables e below (s₁.setTop (mkF m 10 #[.val (.ref b), .val (.int q), .val (.int (0 : Int32)), .val (.int (15 : Int32)), .val (.int (q.toInt8.toInt32)), .val (.int (11 : Int32))] [(.int (15 : Int32)), (.int (11 : Int32))])) _
                          refine XS.icmpNo X0.here hx rfl (hb hby d11_10) rfl (tlt (by decide : (11 : Int32) < (15 : Int32))).2.1 ?_
                          show Steps p.tables e below (s₁.setTop (mkF m 13 #[.val (.ref b), .val (.int q), .val (.int (0 : Int32)), .val (.int (15 : Int32)), .val (.int (q.toInt8.toInt32)), .val (.int (11 : Int32))] [])) _
                          refine XS.aloadN X0.here hx rfl (hb hby d11_13) rfl rfl ?_
                          show Steps p.tables e below (s₁.setTop (mkF m 14 #[.val (.ref b), .val (.int q), .val (.int (0 : Int32)), .val (.int (15 : Int32)), .val (.int (q.toInt8.toInt32)), .val (.int (11 : Int32))] [(.ref b)])) _
                          refine XS.iload X0.here hx rfl (hb hby d11_14) rfl ?_
                          show Steps p.tables e below (s₁.setTop (mkF m 16 #[.val (.ref b), .val (.int q), .val (.int (0 : Int32)), .val (.int (15 : Int32)), .val (.int (q.toInt8.toInt32)), .val (.int (11 : Int32))] [(.int (11 : Int32)), (.ref b)])) _
                          refine X0.baloadBytes hx (j := (11 : Int32)) (v := (.int (95 : Int32))) (by rw [e0]; exact Ar.1) (State.isArrayOf_alike hZ.alike Ar.2.1) Ar.2.2 (inb_of SS ⟨by decide, by decide⟩) (Has.at HH (inb_of SS ⟨by decide, by decide⟩) rfl) (g := (mkF m 16 #[.val (.ref b), .val (.int q), .val (.int (0 : Int32)), .val (.int (15 : Int32)), .val (.int (q.toInt8.toInt32)), .val (.int (11 : Int32))] [(.int (11 : Int32)), (.ref b)])) rfl rfl (hb hby d11_16) _ ?_
                          show Steps p.tables e below (s₁.setTop (mkF m 17 #[.val (.ref b), .val (.int q), .val (.int (0 : Int32)), .val (.int (15 : Int32)), .val (.int (q.toInt8.toInt32)), .val (.int (11 : Int32))] [(.int (95 : Int32))])) _
                          refine XS.iload X0.here hx rfl (hb hby d11_17) rfl ?_
                          show Steps p.tables e below (s₁.setTop (mkF m 19 #[.val (.ref b), .val (.int q), .val (.int (0 : Int32)), .val (.int (15 : Int32)), .val (.int (q.toInt8.toInt32)), .val (.int (11 : Int32))] [(.int (q.toInt8.toInt32)), (.int (95 : Int32))])) _
                          by_cases hc12 : (95 : Int32) = (q.toInt8.toInt32)
                          · refine XS.icmpNo X0.here hx rfl (hb hby d11_19) rfl (teq hc12).2 ?_
                            show Steps p.tables e below (s₁.setTop (mkF m 22 #[.val (.ref b), .val (.int q), .val (.int (0 : Int32)), .val (.int (15 : Int32)), .val (.int (q.toInt8.toInt32)), .val (.int (11 : Int32))] [])) _
                            refine XS.iload X0.here hx rfl (hb hby d11_22) rfl ?_
                            show Steps p.tables e below (s₁.setTop (mkF m 24 #[.val (.ref b), .val (.int q), .val (.int (0 : Int32)), .val (.int (15 : Int32)), .val (.int (q.toInt8.toInt32)), .val (.int (11 : Int32))] [(.int (11 : Int32))])) _
                            rw [show F11 q = (11 : Int32) from (if_neg hc1).trans ((if_neg hc2).trans ((if_neg hc3).trans ((if_neg hc4).trans ((if_neg hc5).trans ((if_neg hc6).trans ((if_neg hc7).trans ((if_neg hc8).trans ((if_neg hc9).trans ((if_neg hc10).trans ((if_neg hc11).trans ((if_pos hc12).trans rfl)))))))))))] at hr
                            exact retI X0 hx Bd.returns (hb hby d11_24) hr
                          · refine XS.icmpYes X0.here hx rfl (pc0 := 19) (pc' := 25) rfl (hb hby d11_19) rfl (feq hc12).2 (by decide) (by decide) ?_
                            show Steps p.tables e below (s₁.setTop (mkF m 25 #[.val (.ref b), .val (.int q), .val (.int (0 : Int32)), .val (.int (15 : Int32)), .val (.int (q.toInt8.toInt32)), .val (.int (11 : Int32))] [])) _
                            refine XS.iinc X0.here hx rfl (hb hby d11_25) rfl (l' := #[.val (.ref b), .val (.int q), .val (.int (0 : Int32)), .val (.int (15 : Int32)), .val (.int (q.toInt8.toInt32)), .val (.int (12 : Int32))]) rfl ?_
                            show Steps p.tables e below (s₁.setTop (mkF m 28 #[.val (.ref b), .val (.int q), .val (.int (0 : Int32)), .val (.int (15 : Int32)), .val (.int (q.toInt8.toInt32)), .val (.int (12 : Int32))] [])) _
                            refine XS.goto X0.here hx rfl (pc0 := 28) (pc' := 7) rfl (hb hby d11_28) (by decide) (by decide) ?_
                            show Steps p.tables e below (s₁.setTop (mkF m 7 #[.val (.ref b), .val (.int q), .val (.int (0 : Int32)), .val (.int (15 : Int32)), .val (.int (q.toInt8.toInt32)), .val (.int (12 : Int32))] [])) _
                            refine XS.iload X0.here hx rfl (hb hby d11_7) rfl ?_
                            show Steps p.tables e below (s₁.setTop (mkF m 9 #[.val (.ref b), .val (.int q), .val (.int (0 : Int32)), .val (.int (15 : Int32)), .val (.int (q.toInt8.toInt32)), .val (.int (12 : Int32))] [(.int (12 : Int32))])) _
                            refine XS.iloadN X0.here hx rfl (hb hby d11_9) rfl ?_
                            show Steps p.tables e below (s₁.setTop (mkF m 10 #[.val (.ref b), .val (.int q), .val (.int (0 : Int32)), .val (.int (15 : Int32)), .val (.int (q.toInt8.toInt32)), .val (.int (12 : Int32))] [(.int (15 : Int32)), (.int (12 : Int32))])) _
                            refine XS.icmpNo X0.here hx rfl (hb hby d11_10) rfl (tlt (by decide : (12 : Int32) < (15 : Int32))).2.1 ?_
                            show Steps p.tables e below (s₁.setTop (mkF m 13 #[.val (.ref b), .val (.int q), .val (.int (0 : Int32)), .val (.int (15 : Int32)), .val (.int (q.toInt8.toInt32)), .val (.int (12 : Int32))] [])) _
                            refine XS.aloadN X0.here hx rfl (hb hby d11_13) rfl rfl ?_
                            show Steps p.tables e below (s₁.setTop (mkF m 14 #[.val (.ref b), .val (.int q), .val (.int (0 : Int32)), .val (.int (15 : Int32)), .val (.int (q.toInt8.toInt32)), .val (.int (12 : Int32))] [(.ref b)])) _
                            refine XS.iload X0.here hx rfl (hb hby d11_14) rfl ?_
                            show Steps p.tables e below (s₁.setTop (mkF m 16 #[.val (.ref b), .val (.int q), .val (.int (0 : Int32)), .val (.int (15 : Int32)), .val (.int (q.toInt8.toInt32)), .val (.int (12 : Int32))] [(.int (12 : Int32)), (.ref b)])) _
                            refine X0.baloadBytes hx (j := (12 : Int32)) (v := (.int (96 : Int32))) (by rw [e0]; exact Ar.1) (State.isArrayOf_alike hZ.alike Ar.2.1) Ar.2.2 (inb_of SS ⟨by decide, by decide⟩) (Has.at HH (inb_of SS ⟨by decide, by decide⟩) rfl) (g := (mkF m 16 #[.val (.ref b), .val (.int q), .val (.int (0 : Int32)), .val (.int (15 : Int32)), .val (.int (q.toInt8.toInt32)), .val (.int (12 : Int32))] [(.int (12 : Int32)), (.ref b)])) rfl rfl (hb hby d11_16) _ ?_
                            show Steps p.tables e below (s₁.setTop (mkF m 17 #[.val (.ref b), .val (.int q), .val (.int (0 : Int32)), .val (.int (15 : Int32)), .val (.int (q.toInt8.toInt32)), .val (.int (12 : Int32))] [(.int (96 : Int32))])) _
                            refine XS.iload X0.here hx rfl (hb hby d11_17) rfl ?_
                            show Steps p.tables e below (s₁.setTop (mkF m 19 #[.val (.ref b), .val (.int q), .val (.int (0 : Int32)), .val (.int (15 : Int32)), .val (.int (q.toInt8.toInt32)), .val (.int (12 : Int32))] [(.int (q.toInt8.toInt32)), (.int (96 : Int32))])) _
                            by_cases hc13 : (96 : Int32) = (q.toInt8.toInt32)
                            · refine XS.icmpNo X0.here hx rfl (hb hby d11_19) rfl (teq hc13).2 ?_
                              show Steps p.tables e below (s₁.setTop (mkF m 22 #[.val (.ref b), .val (.int q), .val (.int (0 : Int32)), .val (.int (15 : Int32)), .val (.int (q.toInt8.toInt32)), .val (.int (12 : Int32))] [])) _
                              refine XS.iload X0.here hx rfl (hb hby d11_22) rfl ?_
                              show Steps p.tables e below (s₁.setTop (mkF m 24 #[.val (.ref b), .val (.int q), .val (.int (0 : Int32)), .val (.int (15 : Int32)), .val (.int (q.toInt8.toInt32)), .val (.int (12 : Int32))] [(.int (12 : Int32))])) _
                              rw [show F11 q = (12 : Int32) from (if_neg hc1).trans ((if_neg hc2).trans ((if_neg hc3).trans ((if_neg hc4).trans ((if_neg hc5).trans ((if_neg hc6).trans ((if_neg hc7).trans ((if_neg hc8).trans ((if_neg hc9).trans ((if_neg hc10).trans ((if_neg hc11).trans ((if_neg hc12).trans ((if_pos hc13).trans rfl))))))))))))] at hr
                              exact retI X0 hx Bd.returns (hb hby d11_24) hr
                            · refine XS.icmpYes X0.here hx rfl (pc0 := 19) (pc' := 25) rfl (hb hby d11_19) rfl (feq hc13).2 (by decide) (by decide) ?_
                              show Steps p.tables e below (s₁.setTop (mkF m 25 #[.val (.ref b), .val (.int q), .val (.int (0 : Int32)), .val (.int (15 : Int32)), .val (.int (q.toInt8.toInt32)), .val (.int (12 : Int32))] [])) _
                              refine XS.iinc X0.here hx rfl (hb hby d11_25) rfl (l' := #[.val (.ref b), .val (.int q), .val (.int (0 : Int32)), .val (.int (15 : Int32)), .val (.int (q.toInt8.toInt32)), .val (.int (13 : Int32))]) rfl ?_
                              show Steps p.tables e below (s₁.setTop (mkF m 28 #[.val (.ref b), .val (.int q), .val (.int (0 : Int32)), .val (.int (15 : Int32)), .val (.int (q.toInt8.toInt32)), .val (.int (13 : Int32))] [])) _
                              refine XS.goto X0.here hx rfl (pc0 := 28) (pc' := 7) rfl (hb hby d11_28) (by decide) (by decide) ?_
                              show Steps p.tables e below (s₁.setTop (mkF m 7 #[.val (.ref b), .val (.int q), .val (.int (0 : Int32)), .val (.int (15 : Int32)), .val (.int (q.toInt8.toInt32)), .val (.int (13 : Int32))] [])) _
                              refine XS.iload X0.here hx rfl (hb hby d11_7) rfl ?_
                              show Steps p.tables e below (s₁.setTop (mkF m 9 #[.val (.ref b), .val (.int q), .val (.int (0 : Int32)), .val (.int (15 : Int32)), .val (.int (q.toInt8.toInt32)), .val (.int (13 : Int32))] [(.int (13 : Int32))])) _
                              refine XS.iloadN X0.here hx rfl (hb hby d11_9) rfl ?_
                              show Steps p.tables e below (s₁.setTop (mkF m 10 #[.val (.ref b), .val (.int q), .val (.int (0 : Int32)), .val (.int (15 : Int32)), .val (.int (q.toInt8.toInt32)), .val (.int (13 : Int32))] [(.int (15 : Int32)), (.int (13 : Int32))])) _
                              refine XS.icmpNo X0.here hx rfl (hb hby d11_10) rfl (tlt (by decide : (13 : Int32) < (15 : Int32))).2.1 ?_
                              show Steps p.tables e below (s₁.setTop (mkF m 13 #[.val (.ref b), .val (.int q), .val (.int (0 : Int32)), .val (.int (15 : Int32)), .val (.int (q.toInt8.toInt32)), .val (.int (13 : Int32))] [])) _
                              refine XS.aloadN X0.here hx rfl (hb hby d11_13) rfl rfl ?_
                              show Steps p.tables e below (s₁.setTop (mkF m 14 #[.val (.ref b), .val (.int q), .val (.int (0 : Int32)), .val (.int (15 : Int32)), .val (.int (q.toInt8.toInt32)), .val (.int (13 : Int32))] [(.ref b)])) _
                              refine XS.iload X0.here hx rfl (hb hby d11_14) rfl ?_
                              show Steps p.tables e below (s₁.setTop (mkF m 16 #[.val (.ref b), .val (.int q), .val (.int (0 : Int32)), .val (.int (15 : Int32)), .val (.int (q.toInt8.toInt32)), .val (.int (13 : Int32))] [(.int (13 : Int32)), (.ref b)])) _
                              refine X0.baloadBytes hx (j := (13 : Int32)) (v := (.int (124 : Int32))) (by rw [e0]; exact Ar.1) (State.isArrayOf_alike hZ.alike Ar.2.1) Ar.2.2 (inb_of SS ⟨by decide, by decide⟩) (Has.at HH (inb_of SS ⟨by decide, by decide⟩) rfl) (g := (mkF m 16 #[.val (.ref b), .val (.int q), .val (.int (0 : Int32)), .val (.int (15 : Int32)), .val (.int (q.toInt8.toInt32)), .val (.int (13 : Int32))] [(.int (13 : Int32)), (.ref b)])) rfl rfl (hb hby d11_16) _ ?_
                              show Steps p.tables e below (s₁.setTop (mkF m 17 #[.val (.ref b), .val (.int q), .val (.int (0 : Int32)), .val (.int (15 : Int32)), .val (.int (q.toInt8.toInt32)), .val (.int (13 : Int32))] [(.int (124 : Int32))])) _
                              refine XS.iload X0.here hx rfl (hb hby d11_17) rfl ?_
                              show Steps p.tables e below (s₁.setTop (mkF m 19 #[.val (.ref b), .val (.int q), .val (.int (0 : Int32)), .val (.int (15 : Int32)), .val (.int (q.toInt8.toInt32)), .val (.int (13 : Int32))] [(.int (q.toInt8.toInt32)), (.int (124 : Int32))])) _
                              by_cases hc14 : (124 : Int32) = (q.toInt8.toInt32)
                              · refine XS.icmpNo X0.here hx rfl (hb hby d11_19) rfl (teq hc14).2 ?_
                                show Steps p.tables e below (s₁.setTop (mkF m 22 #[.val (.ref b), .val (.int q), .val (.int (0 : Int32)), .val (.int (15 : Int32)), .val (.int (q.toInt8.toInt32)), .val (.int (13 : Int32))] [])) _
                                refine XS.iload X0.here hx rfl (hb hby d11_22) rfl ?_
                                show Steps p.tables e below (s₁.setTop (mkF m 24 #[.val (.ref b), .val (.int q), .val (.int (0 : Int32)), .val (.int (15 : Int32)), .val (.int (q.toInt8.toInt32)), .val (.int (13 : Int32))] [(.int (13 : Int32))])) _
                                rw [show F11 q = (13 : Int32) from (if_neg hc1).trans ((if_neg hc2).trans ((if_neg hc3).trans ((if_neg hc4).trans ((if_neg hc5).trans ((if_neg hc6).trans ((if_neg hc7).trans ((if_neg hc8).trans ((if_neg hc9).trans ((if_neg hc10).trans ((if_neg hc11).trans ((if_neg hc12).trans ((if_neg hc13).trans ((if_pos hc14).trans rfl)))))))))))))] at hr
                                exact retI X0 hx Bd.returns (hb hby d11_24) hr
                              · refine XS.icmpYes X0.here hx rfl (pc0 := 19) (pc' := 25) rfl (hb hby d11_19) rfl (feq hc14).2 (by decide) (by decide) ?_
                                show Steps p.tables e below (s₁.setTop (mkF m 25 #[.val (.ref b), .val (.int q), .val (.int (0 : Int32)), .val (.int (15 : Int32)), .val (.int (q.toInt8.toInt32)), .val (.int (13 : Int32))] [])) _
                                refine XS.iinc X0.here hx rfl (hb hby d11_25) rfl (l' := #[.val (.ref b), .val (.int q), .val (.int (0 : Int32)), .val (.int (15 : Int32)), .val (.int (q.toInt8.toInt32)), .val (.int (14 : Int32))]) rfl ?_
                                show Steps p.tables e below (s₁.setTop (mkF m 28 #[.val (.ref b), .val (.int q), .val (.int (0 : Int32)), .val (.int (15 : Int32)), .val (.int (q.toInt8.toInt32)), .val (.int (14 : Int32))] [])) _
                                refine XS.goto X0.here hx rfl (pc0 := 28) (pc' := 7) rfl (hb hby d11_28) (by decide) (by decide) ?_
                                show Steps p.tables e below (s₁.setTop (mkF m 7 #[.val (.ref b), .val (.int q), .val (.int (0 : Int32)), .val (.int (15 : Int32)), .val (.int (q.toInt8.toInt32)), .val (.int (14 : Int32))] [])) _
                                refine XS.iload X0.here hx rfl (hb hby d11_7) rfl ?_
                                show Steps p.tables e below (s₁.setTop (mkF m 9 #[.val (.ref b), .val (.int q), .val (.int (0 : Int32)), .val (.int (15 : Int32)), .val (.int (q.toInt8.toInt32)), .val (.int (14 : Int32))] [(.int (14 : Int32))])) _
                                refine XS.iloadN X0.here hx rfl (hb hby d11_9) rfl ?_
                                show Steps p.tables e below (s₁.setTop (mkF m 10 #[.val (.ref b), .val (.int q), .val (.int (0 : Int32)), .val (.int (15 : Int32)), .val (.int (q.toInt8.toInt32)), .val (.int (14 : Int32))] [(.int (15 : Int32)), (.int (14 : Int32))])) _
                                refine XS.icmpNo X0.here hx rfl (hb hby d11_10) rfl (tlt (by decide : (14 : Int32) < (15 : Int32))).2.1 ?_
                                show Steps p.tables e below (s₁.setTop (mkF m 13 #[.val (.ref b), .val (.int q), .val (.int (0 : Int32)), .val (.int (15 : Int32)), .val (.int (q.toInt8.toInt32)), .val (.int (14 : Int32))] [])) _
                                refine XS.aloadN X0.here hx rfl (hb hby d11_13) rfl rfl ?_
                                show Steps p.tables e below (s₁.setTop (mkF m 14 #[.val (.ref b), .val (.int q), .val (.int (0 : Int32)), .val (.int (15 : Int32)), .val (.int (q.toInt8.toInt32)), .val (.int (14 : Int32))] [(.ref b)])) _
                                refine XS.iload X0.here hx rfl (hb hby d11_14) rfl ?_
                                show Steps p.tables e below (s₁.setTop (mkF m 16 #[.val (.ref b), .val (.int q), .val (.int (0 : Int32)), .val (.int (15 : Int32)), .val (.int (q.toInt8.toInt32)), .val (.int (14 : Int32))] [(.int (14 : Int32)), (.ref b)])) _
                                refine X0.baloadBytes hx (j := (14 : Int32)) (v := (.int (126 : Int32))) (by rw [e0]; exact Ar.1) (State.isArrayOf_alike hZ.alike Ar.2.1) Ar.2.2 (inb_of SS ⟨by decide, by decide⟩) (Has.at HH (inb_of SS ⟨by decide, by decide⟩) rfl) (g := (mkF m 16 #[.val (.ref b), .val (.int q), .val (.int (0 : Int32)), .val (.int (15 : Int32)), .val (.int (q.toInt8.toInt32)), .val (.int (14 : Int32))] [(.int (14 : Int32)), (.ref b)])) rfl rfl (hb hby d11_16) _ ?_
                                show Steps p.tables e below (s₁.setTop (mkF m 17 #[.val (.ref b), .val (.int q), .val (.int (0 : Int32)), .val (.int (15 : Int32)), .val (.int (q.toInt8.toInt32)), .val (.int (14 : Int32))] [(.int (126 : Int32))])) _
                                refine XS.iload X0.here hx rfl (hb hby d11_17) rfl ?_
                                show Steps p.tables e below (s₁.setTop (mkF m 19 #[.val (.ref b), .val (.int q), .val (.int (0 : Int32)), .val (.int (15 : Int32)), .val (.int (q.toInt8.toInt32)), .val (.int (14 : Int32))] [(.int (q.toInt8.toInt32)), (.int (126 : Int32))])) _
                                by_cases hc15 : (126 : Int32) = (q.toInt8.toInt32)
                                · refine XS.icmpNo X0.here hx rfl (hb hby d11_19) rfl (teq hc15).2 ?_
                                  show Steps p.tables e below (s₁.setTop (mkF m 22 #[.val (.ref b), .val (.int q), .val (.int (0 : Int32)), .val (.int (15 : Int32)), .val (.int (q.toInt8.toInt32)), .val (.int (14 : Int32))] [])) _
                                  refine XS.iload X0.here hx rfl (hb hby d11_22) rfl ?_
                                  show Steps p.tables e below (s₁.setTop (mkF m 24 #[.val (.ref b), .val (.int q), .val (.int (0 : Int32)), .val (.int (15 : Int32)), .val (.int (q.toInt8.toInt32)), .val (.int (14 : Int32))] [(.int (14 : Int32))])) _
                                  rw [show F11 q = (14 : Int32) from (if_neg hc1).trans ((if_neg hc2).trans ((if_neg hc3).trans ((if_neg hc4).trans ((if_neg hc5).trans ((if_neg hc6).trans ((if_neg hc7).trans ((if_neg hc8).trans ((if_neg hc9).trans ((if_neg hc10).trans ((if_neg hc11).trans ((if_neg hc12).trans ((if_neg hc13).trans ((if_neg hc14).trans ((if_pos hc15).trans rfl))))))))))))))] at hr
                                  exact retI X0 hx Bd.returns (hb hby d11_24) hr
                                · refine XS.icmpYes X0.here hx rfl (pc0 := 19) (pc' := 25) rfl (hb hby d11_19) rfl (feq hc15).2 (by decide) (by decide) ?_
                                  show Steps p.tables e below (s₁.setTop (mkF m 25 #[.val (.ref b), .val (.int q), .val (.int (0 : Int32)), .val (.int (15 : Int32)), .val (.int (q.toInt8.toInt32)), .val (.int (14 : Int32))] [])) _
                                  refine XS.iinc X0.here hx rfl (hb hby d11_25) rfl (l' := #[.val (.ref b), .val (.int q), .val (.int (0 : Int32)), .val (.int (15 : Int32)), .val (.int (q.toInt8.toInt32)), .val (.int (15 : Int32))]) rfl ?_
                                  show Steps p.tables e below (s₁.setTop (mkF m 28 #[.val (.ref b), .val (.int q), .val (.int (0 : Int32)), .val (.int (15 : Int32)), .val (.int (q.toInt8.toInt32)), .val (.int (15 : Int32))] [])) _
                                  refine XS.goto X0.here hx rfl (pc0 := 28) (pc' := 7) rfl (hb hby d11_28) (by decide) (by decide) ?_
                                  show Steps p.tables e below (s₁.setTop (mkF m 7 #[.val (.ref b), .val (.int q), .val (.int (0 : Int32)), .val (.int (15 : Int32)), .val (.int (q.toInt8.toInt32)), .val (.int (15 : Int32))] [])) _
                                  refine XS.iload X0.here hx rfl (hb hby d11_7) rfl ?_
                                  show Steps p.tables e below (s₁.setTop (mkF m 9 #[.val (.ref b), .val (.int q), .val (.int (0 : Int32)), .val (.int (15 : Int32)), .val (.int (q.toInt8.toInt32)), .val (.int (15 : Int32))] [(.int (15 : Int32))])) _
                                  refine XS.iloadN X0.here hx rfl (hb hby d11_9) rfl ?_
                                  show Steps p.tables e below (s₁.setTop (mkF m 10 #[.val (.ref b), .val (.int q), .val (.int (0 : Int32)), .val (.int (15 : Int32)), .val (.int (q.toInt8.toInt32)), .val (.int (15 : Int32))] [(.int (15 : Int32)), (.int (15 : Int32))])) _
                                  refine XS.icmpYes X0.here hx rfl (pc0 := 10) (pc' := 31) rfl (hb hby d11_10) rfl (flt (by decide : ¬ ((15 : Int32) < (15 : Int32)))).2.1 (by decide) (by decide) ?_
                                  show Steps p.tables e below (s₁.setTop (mkF m 31 #[.val (.ref b), .val (.int q), .val (.int (0 : Int32)), .val (.int (15 : Int32)), .val (.int (q.toInt8.toInt32)), .val (.int (15 : Int32))] [])) _
                                  refine XS.iconst X0.here hx rfl (hb hby d11_31) ?_
                                  show Steps p.tables e below (s₁.setTop (mkF m 32 #[.val (.ref b), .val (.int q), .val (.int (0 : Int32)), .val (.int (15 : Int32)), .val (.int (q.toInt8.toInt32)), .val (.int (15 : Int32))] [(.int (-1 : Int32))])) _
                                  rw [show F11 q = (-1 : Int32) from (if_neg hc1).trans ((if_neg hc2).trans ((if_neg hc3).trans ((if_neg hc4).trans ((if_neg hc5).trans ((if_neg hc6).trans ((if_neg hc7).trans ((if_neg hc8).trans ((if_neg hc9).trans ((if_neg hc10).trans ((if_neg hc11).trans ((if_neg hc12).trans ((if_neg hc13).trans ((if_neg hc14).trans ((if_neg hc15).trans rfl))))))))))))))] at hr
                                  exact retI X0 hx Bd.returns (hb hby d11_32) hr
  · show Q11 q h0 n0 _ s₁.heap _
    rw [e0]
    exact ⟨rfl, N0, rfl⟩
def F7 (q : Int32) : Int32 := if F8 q = 0 then -1 else F11 q
theorem d7_0 : decode jdk_43_method_22_code 0 = .ok (.iload_n 1, 1) := by decide +kernel
theorem d7_1 : decode jdk_43_method_22_code 1 = .ok (.invokestatic 88, 3) := by decide +kernel
theorem d7_4 : decode jdk_43_method_22_code 4 = .ok (.ifCond .ne 5, 3) := by decide +kernel
theorem d7_7 : decode jdk_43_method_22_code 7 = .ok (.iconst (-1), 1) := by decide +kernel
theorem d7_8 : decode jdk_43_method_22_code 8 = .ok (.ireturn, 1) := by decide +kernel
theorem d7_9 : decode jdk_43_method_22_code 9 = .ok (.iload_n 2, 1) := by decide +kernel
theorem d7_10 : decode jdk_43_method_22_code 10 = .ok (.iconst 0, 1) := by decide +kernel
theorem d7_11 : decode jdk_43_method_22_code 11 = .ok (.invokestatic 92, 3) := by decide +kernel
theorem d7_14 : decode jdk_43_method_22_code 14 = .ok (.istore_n 2, 1) := by decide +kernel
theorem d7_15 : decode jdk_43_method_22_code 15 = .ok (.iload_n 3, 1) := by decide +kernel
theorem d7_16 : decode jdk_43_method_22_code 16 = .ok (.aload_n 0, 1) := by decide +kernel
theorem d7_17 : decode jdk_43_method_22_code 17 = .ok (.arraylength, 1) := by decide +kernel
theorem d7_18 : decode jdk_43_method_22_code 18 = .ok (.invokestatic 38, 3) := by decide +kernel
theorem d7_21 : decode jdk_43_method_22_code 21 = .ok (.istore_n 3, 1) := by decide +kernel
theorem d7_22 : decode jdk_43_method_22_code 22 = .ok (.iload_n 2, 1) := by decide +kernel
theorem d7_23 : decode jdk_43_method_22_code 23 = .ok (.iload_n 3, 1) := by decide +kernel
theorem d7_24 : decode jdk_43_method_22_code 24 = .ok (.if_icmp .lt 5, 3) := by decide +kernel
theorem d7_27 : decode jdk_43_method_22_code 27 = .ok (.iconst (-1), 1) := by decide +kernel
theorem d7_28 : decode jdk_43_method_22_code 28 = .ok (.ireturn, 1) := by decide +kernel
theorem d7_29 : decode jdk_43_method_22_code 29 = .ok (.aload_n 0, 1) := by decide +kernel
theorem d7_30 : decode jdk_43_method_22_code 30 = .ok (.iload_n 1, 1) := by decide +kernel
theorem d7_31 : decode jdk_43_method_22_code 31 = .ok (.iload_n 2, 1) := by decide +kernel
theorem d7_32 : decode jdk_43_method_22_code 32 = .ok (.iload_n 3, 1) := by decide +kernel
theorem d7_33 : decode jdk_43_method_22_code 33 = .ok (.invokestatic 95, 3) := by decide +kernel
theorem d7_36 : decode jdk_43_method_22_code 36 = .ok (.ireturn, 1) := by decide +kernel
theorem pn_7 : plainName "java/lang/StringLatin1" = true := by first | (simp [plainName, overriddenIn]; done) | decide +kernel
theorem pf_7 : plainFor (⟨"java/lang/StringLatin1", "indexOf", "([BIII)I"⟩ : MethodName) = true := plainFor_of_name pn_7
theorem ef_7 (m : MethodId) (x0 : Addr) (x1 : Int32) (x2 : Int32) (x3 : Int32) : entryFrame m #[(.ref x0), (.int x1), (.int x2), (.int x3)] 4 = mkF m 0 #[.val (.ref x0), .val (.int x1), .val (.int x2), .val (.int x3)] [] := by first | (simp [entryFrame, mkF, argsToLocals, Value.category, maxLocals]; done) | rfl
def Q7 (q : Int32) (h0 : Heap) (n0 : Nat) (v : Option Value) (h : Heap) (L : List Loc) : Prop := v = some (.int (F7 q)) ∧ Fr n0 L ∧ h = h0
set_option maxRecDepth 65536 in
set_option maxHeartbeats 40000000 in
theorem rm7 (l : Launch) (Z : State) (a0 : Array Value) (hw : ∀ d ∈ tables_1, d.before a0 Z = true) (ws : List Jvm.Cond) (b : Addr) (q : Int32) (k : ClassId) (h0 : Heap) (n0 : Nat) (Z0 : n0 ≤ h0.size) (A : Arv Z h0 b k .byte 15 own_bytes (.int (0 : Int32))) :
    MetFree l (⟨"java/lang/StringLatin1", "indexOf", "([BIII)I"⟩ : MethodName) (head1 (Jvm.Cond.code (⟨"java/lang/StringLatin1", "indexOf", "([BIII)I"⟩ : MethodName) jdk_43_method_22_code 4 (some .int) :: ws) ({ frames := 1, cells := 0, slots := 0, locals := 17 } : Room)) (fun aA uU => aA = #[(.ref b), (.int q), (.int (0 : Int32)), (.int (15 : Int32))] ∧ Z.Warmed39 uU.vm ∧ uU.heap = h0) (fun _ _ _ _ _ => True) (fun _ uU oO uV => ∃ vV lL, oO = .returned vV ∧ Q7 q h0 n0 vV uV.heap lL ∧ FrameEnd uU oO uV lL ({ frames := 1, cells := 0, slots := 0, locals := 17 } : Room).cells ({ frames := 1, cells := 0, slots := 0, locals := 17 } : Room).slots) := by
  refine MetFree.of_bodySF pf_7 hisR ?_
  intro p e s m args below meth c s₁ Bd hml0 hP hK
  obtain ⟨rfl, hZ, hh⟩ := hP
  have hx := Bd.exec
  have hby := Bd.bytes
  have hml : c.maxLocals = 4 := hml0
  have hown : s.vm.findClass "java/lang/StringLatin1" = some m.cls := findClass_of_methodNamed Bd.named
  have hnm := (name_of_methodNamed Bd.named Bd.method).1
  have X0 : Stand p l e ({ frames := 1, cells := 0, slots := 0, locals := 17 } : Room) s m #[(.ref b), (.int q), (.int (0 : Int32)), (.int (15 : Int32))] below meth c s₁ [] 0 0 := Stand.of_body Bd
  have e0 : s₁.heap = h0 := by rw [← hh, Bd.state]; rfl
  have N0 := Fr.nil n0
  have pre0 : ∀ t, Steps p.tables e below (s₁.setTop (mkF m 0 #[.val (.ref b), .val (.int q), .val (.int (0 : Int32)), .val (.int (15 : Int32))] [])) t → Steps p.tables e below (s₁.setTop (entryFrame m #[(.ref b), (.int q), (.int (0 : Int32)), (.int (15 : Int32))] 4)) t := fun t k => castTop (ef_7 m b q (0 : Int32) (15 : Int32)) k
  obtain ⟨cl, Ar, -, SS, MM, HH, -⟩ := id A
  by_cases hce : F8 q = 0
  · obtain ⟨_, _, ⟨T1, L1, k1, n1⟩, -, X1, ⟨Lc1, hQ1, l1, y1, z1⟩, st1⟩ := Jvm.LawKit.callS X0 hx (y := (⟨"java/lang/StringLatin1", "canEncode", "(I)Z"⟩ : MethodName)) hown (mvT hZ (hw _ (List.mem_of_getElem? (i := 44) rfl))) (mvT hZ (hw _ (List.mem_of_getElem? (i := 45) rfl))) (mvT hZ (hw _ (List.mem_of_getElem? (i := 42) rfl))) (mvT hZ (hw _ (List.mem_of_getElem? (i := 46) rfl))) (by decide) (backOf (W := 0) (rm8 l Z a0 hw [] q h0 n0 Z0 ) hZ (hw _ (List.mem_of_getElem? (i := 46) rfl)) (hw _ (List.mem_of_getElem? (i := 42) rfl)) (by decide) (by decide)) (g := (mkF m 1 #[.val (.ref b), .val (.int q), .val (.int (0 : Int32)), .val (.int (15 : Int32))] [(.int q)])) rfl (by rw [hml]; rfl) (argsL := [(.int q)]) (rest := []) (lenOf pd_7 rfl) rfl (by show 2 * 0 + _ ≤ _; exact Nat.le_of_eq rfl) (hb hby d7_1) (fun _ _ => ⟨rfl, e0, (by decide : 0 + 0 ≤ _), (by decide : 0 + 0 ≤ _)⟩)
    dsimp only [Pt.U, Pt.locs, Pt.cells, Pt.slots] at X1 l1 y1 z1 st1 hQ1
    subst l1 y1 z1
    obtain ⟨rfl, N1q, e1⟩ := hQ1
    have N1 := Fr.app N0 N1q
    obtain ⟨fs, hr, hrun, hended, hW, hsame⟩ := X1.leave (v := some (.int (F7 q))) (fun h => by rw [Bd.returns] at h; cases h)
    refine ⟨_, _, pre0 _ ?_, hrun, hended, _, _, rfl, ?_, ⟨_, rfl⟩, hW, hsame.mono (by decide) (by decide)⟩
    · show Steps p.tables e below (s₁.setTop (mkF m 0 #[.val (.ref b), .val (.int q), .val (.int (0 : Int32)), .val (.int (15 : Int32))] [])) _
      refine XS.iloadN X0.here hx rfl (hb hby d7_0) rfl ?_
      show Steps p.tables e below (s₁.setTop (mkF m 1 #[.val (.ref b), .val (.int q), .val (.int (0 : Int32)), .val (.int (15 : Int32))] [(.int q)])) _
      refine st1 _ ?_
      show Steps p.tables e below (T1.setTop (mkF m 4 #[.val (.ref b), .val (.int q), .val (.int (0 : Int32)), .val (.int (15 : Int32))] [(.int (F8 q))])) _
      refine XS.ifNo X1.here hx rfl (hb hby d7_4) rfl ((if0 _ _).trans (teq (hce : (F8 q) = (0 : Int32))).2) ?_
      show Steps p.tables e below (T1.setTop (mkF m 7 #[.val (.ref b), .val (.int q), .val (.int (0 : Int32)), .val (.int (15 : Int32))] [])) _
      refine XS.iconst X1.here hx rfl (hb hby d7_7) ?_
      show Steps p.tables e below (T1.setTop (mkF m 8 #[.val (.ref b), .val (.int q), .val (.int (0 : Int32)), .val (.int (15 : Int32))] [(.int (-1 : Int32))])) _
      rw [show F7 q = (-1 : Int32) from if_pos hce] at hr
      exact retI X1 hx Bd.returns (hb hby d7_8) hr
    · show Q7 q h0 n0 _ T1.heap _
      rw [e1]
      exact ⟨rfl, N1, rfl⟩
  · obtain ⟨_, _, ⟨T1, L1, k1, n1⟩, -, X1, ⟨Lc1, hQ1, l1, y1, z1⟩, st1⟩ := Jvm.LawKit.callS X0 hx (y := (⟨"java/lang/StringLatin1", "canEncode", "(I)Z"⟩ : MethodName)) hown (mvT hZ (hw _ (List.mem_of_getElem? (i := 44) rfl))) (mvT hZ (hw _ (List.mem_of_getElem? (i := 45) rfl))) (mvT hZ (hw _ (List.mem_of_getElem? (i := 42) rfl))) (mvT hZ (hw _ (List.mem_of_getElem? (i := 46) rfl))) (by decide) (backOf (W := 0) (rm8 l Z a0 hw [] q h0 n0 Z0 ) hZ (hw _ (List.mem_of_getElem? (i := 46) rfl)) (hw _ (List.mem_of_getElem? (i := 42) rfl)) (by decide) (by decide)) (g := (mkF m 1 #[.val (.ref b), .val (.int q), .val (.int (0 : Int32)), .val (.int (15 : Int32))] [(.int q)])) rfl (by rw [hml]; rfl) (argsL := [(.int q)]) (rest := []) (lenOf pd_7 rfl) rfl (by show 2 * 0 + _ ≤ _; exact Nat.le_of_eq rfl) (hb hby d7_1) (fun _ _ => ⟨rfl, e0, (by decide : 0 + 0 ≤ _), (by decide : 0 + 0 ≤ _)⟩)
    dsimp only [Pt.U, Pt.locs, Pt.cells, Pt.slots] at X1 l1 y1 z1 st1 hQ1
    subst l1 y1 z1
    obtain ⟨rfl, N1q, e1⟩ := hQ1
    have N1 := Fr.app N0 N1q
    obtain ⟨_, _, ⟨T2, L2, k2, n2⟩, -, X2, ⟨Lc2, hQ2, l2, y2, z2⟩, st2⟩ := Jvm.LawKit.callS X1 hx (y := (⟨"java/lang/Math", "max", "(II)I"⟩ : MethodName)) hown (mvT hZ (hw _ (List.mem_of_getElem? (i := 47) rfl))) (mvT hZ (hw _ (List.mem_of_getElem? (i := 48) rfl))) (mvT hZ (hw _ (List.mem_of_getElem? (i := 49) rfl))) (mvT hZ (hw _ (List.mem_of_getElem? (i := 50) rfl))) (by decide) (backOf (W := 0) (rm9 l Z a0 hw [] (0 : Int32) (0 : Int32) h0 n0 Z0 ) hZ (hw _ (List.mem_of_getElem? (i := 50) rfl)) (hw _ (List.mem_of_getElem? (i := 49) rfl)) (by decide) (by decide)) (g := (mkF m 11 #[.val (.ref b), .val (.int q), .val (.int (0 : Int32)), .val (.int (15 : Int32))] [(.int (0 : Int32)), (.int (0 : Int32))])) rfl (by rw [hml]; rfl) (argsL := [(.int (0 : Int32)), (.int (0 : Int32))]) (rest := []) (lenOf pd_2 rfl) rfl (by show 2 * 0 + _ ≤ _; exact Nat.le_of_eq rfl) (hb hby d7_11) (fun _ _ => ⟨rfl, e1, (by decide : 0 + 0 ≤ _), (by decide : 0 + 0 ≤ _)⟩)
    dsimp only [Pt.U, Pt.locs, Pt.cells, Pt.slots] at X2 l2 y2 z2 st2 hQ2
    subst l2 y2 z2
    obtain ⟨rfl, N2q, e2⟩ := hQ2
    have N2 := Fr.app N1 N2q
    rw [own_mx] at st2
    obtain ⟨_, _, ⟨T3, L3, k3, n3⟩, -, X3, ⟨Lc3, hQ3, l3, y3, z3⟩, st3⟩ := Jvm.LawKit.callS X2 hx (y := (⟨"java/lang/Math", "min", "(II)I"⟩ : MethodName)) hown (mvT hZ (hw _ (List.mem_of_getElem? (i := 51) rfl))) (mvT hZ (hw _ (List.mem_of_getElem? (i := 52) rfl))) (mvT hZ (hw _ (List.mem_of_getElem? (i := 49) rfl))) (mvT hZ (hw _ (List.mem_of_getElem? (i := 53) rfl))) (by decide) (backOf (W := 0) (rm10 l Z a0 hw [] (15 : Int32) (15 : Int32) h0 n0 Z0 ) hZ (hw _ (List.mem_of_getElem? (i := 53) rfl)) (hw _ (List.mem_of_getElem? (i := 49) rfl)) (by decide) (by decide)) (g := (mkF m 18 #[.val (.ref b), .val (.int q), .val (.int (0 : Int32)), .val (.int (15 : Int32))] [(.int (15 : Int32)), (.int (15 : Int32))])) rfl (by rw [hml]; rfl) (argsL := [(.int (15 : Int32)), (.int (15 : Int32))]) (rest := []) (lenOf pd_2 rfl) rfl (by show 2 * 0 + _ ≤ _; exact Nat.le_of_eq rfl) (hb hby d7_18) (fun _ _ => ⟨rfl, e2, (by decide : 0 + 0 ≤ _), (by decide : 0 + 0 ≤ _)⟩)
    dsimp only [Pt.U, Pt.locs, Pt.cells, Pt.slots] at X3 l3 y3 z3 st3 hQ3
    subst l3 y3 z3
    obtain ⟨rfl, N3q, e3⟩ := hQ3
    have N3 := Fr.app N2 N3q
    rw [own_mn] at st3
    obtain ⟨_, _, ⟨T4, L4, k4, n4⟩, -, X4, ⟨Lc4, hQ4, l4, y4, z4⟩, st4⟩ := Jvm.LawKit.callS X3 hx (y := (⟨"java/lang/StringLatin1", "indexOfChar", "([BIII)I"⟩ : MethodName)) hown (mvT hZ (hw _ (List.mem_of_getElem? (i := 54) rfl))) (mvT hZ (hw _ (List.mem_of_getElem? (i := 55) rfl))) (mvT hZ (hw _ (List.mem_of_getElem? (i := 42) rfl))) (mvT hZ (hw _ (List.mem_of_getElem? (i := 56) rfl))) (by decide) (backOf (W := 0) (rm11 l Z a0 hw [] b q k h0 n0 Z0 A) hZ (hw _ (List.mem_of_getElem? (i := 56) rfl)) (hw _ (List.mem_of_getElem? (i := 42) rfl)) (by decide) (by decide)) (g := (mkF m 33 #[.val (.ref b), .val (.int q), .val (.int (0 : Int32)), .val (.int (15 : Int32))] [(.int (15 : Int32)), (.int (0 : Int32)), (.int q), (.ref b)])) rfl (by rw [hml]; rfl) (argsL := [(.ref b), (.int q), (.int (0 : Int32)), (.int (15 : Int32))]) (rest := []) (lenOf pd_6 rfl) rfl (by show 2 * 0 + _ ≤ _; exact Nat.le_of_eq rfl) (hb hby d7_33) (fun _ _ => ⟨rfl, e3, (by decide : 0 + 0 ≤ _), (by decide : 0 + 0 ≤ _)⟩)
    dsimp only [Pt.U, Pt.locs, Pt.cells, Pt.slots] at X4 l4 y4 z4 st4 hQ4
    subst l4 y4 z4
    obtain ⟨rfl, N4q, e4⟩ := hQ4
    have N4 := Fr.app N3 N4q
    obtain ⟨fs, hr, hrun, hended, hW, hsame⟩ := X4.leave (v := some (.int (F7 q))) (fun h => by rw [Bd.returns] at h; cases h)
    refine ⟨_, _, pre0 _ ?_, hrun, hended, _, _, rfl, ?_, ⟨_, rfl⟩, hW, hsame.mono (by decide) (by decide)⟩
    · show Steps p.tables e below (s₁.setTop (mkF m 0 #[.val (.ref b), .val (.int q), .val (.int (0 : Int32)), .val (.int (15 : Int32))] [])) _
      refine XS.iloadN X0.here hx rfl (hb hby d7_0) rfl ?_
      show Steps p.tables e below (s₁.setTop (mkF m 1 #[.val (.ref b), .val (.int q), .val (.int (0 : Int32)), .val (.int (15 : Int32))] [(.int q)])) _
      refine st1 _ ?_
      show Steps p.tables e below (T1.setTop (mkF m 4 #[.val (.ref b), .val (.int q), .val (.int (0 : Int32)), .val (.int (15 : Int32))] [(.int (F8 q))])) _
      refine XS.ifYes X1.here hx rfl (pc0 := 4) (pc' := 9) rfl (hb hby d7_4) rfl ((if0 _ _).trans (feq (hce : ¬ ((F8 q) = (0 : Int32)))).2) (by decide) (by decide) ?_
      show Steps p.tables e below (T1.setTop (mkF m 9 #[.val (.ref b), .val (.int q), .val (.int (0 : Int32)), .val (.int (15 : Int32))] [])) _
      refine XS.iloadN X1.here hx rfl (hb hby d7_9) rfl ?_
      show Steps p.tables e below (T1.setTop (mkF m 10 #[.val (.ref b), .val (.int q), .val (.int (0 : Int32)), .val (.int (15 : Int32))] [(.int (0 : Int32))])) _
      refine XS.iconst X1.here hx rfl (hb hby d7_10) ?_
      show Steps p.tables e below (T1.setTop (mkF m 11 #[.val (.ref b), .val (.int q), .val (.int (0 : Int32)), .val (.int (15 : Int32))] [(.int (0 : Int32)), (.int (0 : Int32))])) _
      refine st2 _ ?_
      show Steps p.tables e below (T2.setTop (mkF m 14 #[.val (.ref b), .val (.int q), .val (.int (0 : Int32)), .val (.int (15 : Int32))] [(.int (0 : Int32))])) _
      refine XS.istoreN X2.here hx rfl (hb hby d7_14) rfl (l' := #[.val (.ref b), .val (.int q), .val (.int (0 : Int32)), .val (.int (15 : Int32))]) rfl ?_
      show Steps p.tables e below (T2.setTop (mkF m 15 #[.val (.ref b), .val (.int q), .val (.int (0 : Int32)), .val (.int (15 : Int32))] [])) _
      refine XS.iloadN X2.here hx rfl (hb hby d7_15) rfl ?_
      show Steps p.tables e below (T2.setTop (mkF m 16 #[.val (.ref b), .val (.int q), .val (.int (0 : Int32)), .val (.int (15 : Int32))] [(.int (15 : Int32))])) _
      refine XS.aloadN X2.here hx rfl (hb hby d7_16) rfl rfl ?_
      show Steps p.tables e below (T2.setTop (mkF m 17 #[.val (.ref b), .val (.int q), .val (.int (0 : Int32)), .val (.int (15 : Int32))] [(.ref b), (.int (15 : Int32))])) _
      refine X2.arraylength hx (cell := cl) (by rw [e2]; exact Ar.1) (State.isArrayOf_alike hZ.alike Ar.2.1) (g := (mkF m 17 #[.val (.ref b), .val (.int q), .val (.int (0 : Int32)), .val (.int (15 : Int32))] [(.ref b), (.int (15 : Int32))])) rfl rfl (hb hby d7_17) _ ?_
      rw [len_of SS MM]
      show Steps p.tables e below (T2.setTop (mkF m 18 #[.val (.ref b), .val (.int q), .val (.int (0 : Int32)), .val (.int (15 : Int32))] [(.int (15 : Int32)), (.int (15 : Int32))])) _
      refine st3 _ ?_
      show Steps p.tables e below (T3.setTop (mkF m 21 #[.val (.ref b), .val (.int q), .val (.int (0 : Int32)), .val (.int (15 : Int32))] [(.int (15 : Int32))])) _
      refine XS.istoreN X3.here hx rfl (hb hby d7_21) rfl (l' := #[.val (.ref b), .val (.int q), .val (.int (0 : Int32)), .val (.int (15 : Int32))]) rfl ?_
      show Steps p.tables e below (T3.setTop (mkF m 22 #[.val (.ref b), .val (.int q), .val (.int (0 : Int32)), .val (.int (15 : Int32))] [])) _
      refine XS.iloadN X3.here hx rfl (hb hby d7_22) rfl ?_
      show Steps p.tables e below (T3.setTop (mkF m 23 #[.val (.ref b), .val (.int q), .val (.int (0 : Int32)), .val (.int (15 : Int32))] [(.int (0 : Int32))])) _
      refine XS.iloadN X3.here hx rfl (hb hby d7_23) rfl ?_
      show Steps p.tables e below (T3.setTop (mkF m 24 #[.val (.ref b), .val (.int q), .val (.int (0 : Int32)), .val (.int (15 : Int32))] [(.int (15 : Int32)), (.int (0 : Int32))])) _
      refine XS.icmpYes X3.here hx rfl (pc0 := 24) (pc' := 29) rfl (hb hby d7_24) rfl (tlt (by decide : (0 : Int32) < (15 : Int32))).1 (by decide) (by decide) ?_
      show Steps p.tables e below (T3.setTop (mkF m 29 #[.val (.ref b), .val (.int q), .val (.int (0 : Int32)), .val (.int (15 : Int32))] [])) _
      refine XS.aloadN X3.here hx rfl (hb hby d7_29) rfl rfl ?_
      show Steps p.tables e below (T3.setTop (mkF m 30 #[.val (.ref b), .val (.int q), .val (.int (0 : Int32)), .val (.int (15 : Int32))] [(.ref b)])) _
      refine XS.iloadN X3.here hx rfl (hb hby d7_30) rfl ?_
      show Steps p.tables e below (T3.setTop (mkF m 31 #[.val (.ref b), .val (.int q), .val (.int (0 : Int32)), .val (.int (15 : Int32))] [(.int q), (.ref b)])) _
      refine XS.iloadN X3.here hx rfl (hb hby d7_31) rfl ?_
      show Steps p.tables e below (T3.setTop (mkF m 32 #[.val (.ref b), .val (.int q), .val (.int (0 : Int32)), .val (.int (15 : Int32))] [(.int (0 : Int32)), (.int q), (.ref b)])) _
      refine XS.iloadN X3.here hx rfl (hb hby d7_32) rfl ?_
      show Steps p.tables e below (T3.setTop (mkF m 33 #[.val (.ref b), .val (.int q), .val (.int (0 : Int32)), .val (.int (15 : Int32))] [(.int (15 : Int32)), (.int (0 : Int32)), (.int q), (.ref b)])) _
      refine st4 _ ?_
      show Steps p.tables e below (T4.setTop (mkF m 36 #[.val (.ref b), .val (.int q), .val (.int (0 : Int32)), .val (.int (15 : Int32))] [(.int (F11 q))])) _
      rw [show F7 q = (F11 q) from if_neg hce] at hr
      exact retI X4 hx Bd.returns (hb hby d7_36) hr
    · show Q7 q h0 n0 _ T4.heap _
      rw [e4]
      exact ⟨rfl, N4, rfl⟩
theorem d3_0 : decode jdk_42_method_80_code 0 = .ok (.aload_n 0, 1) := by decide +kernel
theorem d3_1 : decode jdk_42_method_80_code 1 = .ok (.invokevirtual 492, 3) := by decide +kernel
theorem d3_4 : decode jdk_42_method_80_code 4 = .ok (.ifCond .eq 19, 3) := by decide +kernel
theorem d3_7 : decode jdk_42_method_80_code 7 = .ok (.aload_n 0, 1) := by decide +kernel
theorem d3_8 : decode jdk_42_method_80_code 8 = .ok (.getfield 9, 3) := by decide +kernel
theorem d3_11 : decode jdk_42_method_80_code 11 = .ok (.iload_n 1, 1) := by decide +kernel
theorem d3_12 : decode jdk_42_method_80_code 12 = .ok (.iload_n 2, 1) := by decide +kernel
theorem d3_13 : decode jdk_42_method_80_code 13 = .ok (.aload_n 0, 1) := by decide +kernel
theorem d3_14 : decode jdk_42_method_80_code 14 = .ok (.invokevirtual 505, 3) := by decide +kernel
theorem d3_17 : decode jdk_42_method_80_code 17 = .ok (.invokestatic 637, 3) := by decide +kernel
theorem d3_20 : decode jdk_42_method_80_code 20 = .ok (.goto 16, 3) := by decide +kernel
theorem d3_23 : decode jdk_42_method_80_code 23 = .ok (.aload_n 0, 1) := by decide +kernel
theorem d3_24 : decode jdk_42_method_80_code 24 = .ok (.getfield 9, 3) := by decide +kernel
theorem d3_27 : decode jdk_42_method_80_code 27 = .ok (.iload_n 1, 1) := by decide +kernel
theorem d3_28 : decode jdk_42_method_80_code 28 = .ok (.iload_n 2, 1) := by decide +kernel
theorem d3_29 : decode jdk_42_method_80_code 29 = .ok (.aload_n 0, 1) := by decide +kernel
theorem d3_30 : decode jdk_42_method_80_code 30 = .ok (.invokevirtual 505, 3) := by decide +kernel
theorem d3_33 : decode jdk_42_method_80_code 33 = .ok (.invokestatic 640, 3) := by decide +kernel
theorem d3_36 : decode jdk_42_method_80_code 36 = .ok (.ireturn, 1) := by decide +kernel
theorem pn_3 : plainName "java/lang/String" = true := by first | (simp [plainName, overriddenIn]; done) | decide +kernel
theorem pf_3 : plainFor (⟨"java/lang/String", "indexOf", "(II)I"⟩ : MethodName) = true := plainFor_of_name pn_3
theorem ef_3 (m : MethodId) (x0 : Addr) (x1 : Int32) (x2 : Int32) : entryFrame m #[(.ref x0), (.int x1), (.int x2)] 3 = mkF m 0 #[.val (.ref x0), .val (.int x1), .val (.int x2)] [] := by first | (simp [entryFrame, mkF, argsToLocals, Value.category, maxLocals]; done) | rfl
def Q3 (q : Int32) (h0 : Heap) (n0 : Nat) (v : Option Value) (h : Heap) (L : List Loc) : Prop := v = some (.int (F7 q)) ∧ Fr n0 L ∧ h = h0
set_option maxRecDepth 65536 in
set_option maxHeartbeats 40000000 in
theorem rm3 (l : Launch) (Z : State) (a0 : Array Value) (hw : ∀ d ∈ tables_1, d.before a0 Z = true) (ws : List Jvm.Cond) (a : Addr) (q : Int32) (b : Addr) (k : ClassId) (G1 : Int32) (h0 : Heap) (n0 : Nat) (Z0 : n0 ≤ h0.size) (S : OwnStr Z h0 a b k) (O2 : Sta Z Z.heap "java/lang/String" "COMPACT_STRINGS" "Z" (.int G1)) (X00 : Old Z n0 h0) (P5 : ¬ (G1 = (0 : Int32))) :
    MetFree l (⟨"java/lang/String", "indexOf", "(II)I"⟩ : MethodName) (head1 (Jvm.Cond.code (⟨"java/lang/String", "indexOf", "(II)I"⟩ : MethodName) jdk_42_method_80_code 3 (some .int) :: ws) ({ frames := 2, cells := 0, slots := 0, locals := 40 } : Room)) (fun aA uU => aA = #[(.ref a), (.int q), (.int (0 : Int32))] ∧ Z.Warmed39 uU.vm ∧ uU.heap = h0) (fun _ _ _ _ _ => True) (fun _ uU oO uV => ∃ vV lL, oO = .returned vV ∧ Q3 q h0 n0 vV uV.heap lL ∧ FrameEnd uU oO uV lL ({ frames := 2, cells := 0, slots := 0, locals := 40 } : Room).cells ({ frames := 2, cells := 0, slots := 0, locals := 40 } : Room).slots) := by
  refine MetFree.of_bodySF pf_3 hisR ?_
  intro p e s m args below meth c s₁ Bd hml0 hP hK
  obtain ⟨rfl, hZ, hh⟩ := hP
  have hx := Bd.exec
  have hby := Bd.bytes
  have hml : c.maxLocals = 3 := hml0
  have hown : s.vm.findClass "java/lang/String" = some m.cls := findClass_of_methodNamed Bd.named
  have hnm := (name_of_methodNamed Bd.named Bd.method).1
  have X0 : Stand p l e ({ frames := 2, cells := 0, slots := 0, locals := 40 } : Room) s m #[(.ref a), (.int q), (.int (0 : Int32))] below meth c s₁ [] 0 0 := Stand.of_body Bd
  have e0 : s₁.heap = h0 := by rw [← hh, Bd.state]; rfl
  have N0 := Fr.nil n0
  have pre0 : ∀ t, Steps p.tables e below (s₁.setTop (mkF m 0 #[.val (.ref a), .val (.int q), .val (.int (0 : Int32))] [])) t → Steps p.tables e below (s₁.setTop (entryFrame m #[(.ref a), (.int q), (.int (0 : Int32))] 3)) t := fun t k => castTop (ef_3 m a q (0 : Int32)) k
  obtain ⟨cq1, kq1, qa1, qb1, qc1⟩ := isOf hZ e0 S.1
  obtain ⟨_, _, ⟨T1, L1, k1, n1⟩, -, X1, ⟨Lc1, hQ1, l1, y1, z1⟩, st1⟩ := X0.virtualBack hx (y := (⟨"java/lang/String", "isLatin1", "()Z"⟩ : MethodName)) (z := (⟨"java/lang/String", "isLatin1", "()Z"⟩ : MethodName)) hown (mvT hZ (hw _ (List.mem_of_getElem? (i := 22) rfl))) (mvT hZ (hw _ (List.mem_of_getElem? (i := 23) rfl))) (notFace_of_selects (args := #[]) (mvT hZ (hw _ (List.mem_of_getElem? (i := 25) rfl)))) (mvT hZ (hw _ (List.mem_of_getElem? (i := 25) rfl))) (mvT hZ (hw _ (List.mem_of_getElem? (i := 24) rfl))) (by decide) (backOf (W := 0) (rm4 l Z a0 hw [] a b k G1 h0 n0 Z0 S O2 X00 P5) hZ (hw _ (List.mem_of_getElem? (i := 26) rfl)) (hw _ (List.mem_of_getElem? (i := 5) rfl)) (by decide) (by decide)) qa1 qc1 (g := (mkF m 1 #[.val (.ref a), .val (.int q), .val (.int (0 : Int32))] [(.ref a)])) rfl (by rw [hml]; rfl) (Steps.refl _) (argsL := []) (rest := []) (lenOf pd_3 rfl) rfl (by show 2 * 0 + _ ≤ _; exact Nat.le_of_eq rfl) (hb hby d3_1) (fun _ _ => ⟨rfl, e0, (by decide : 0 + 0 ≤ _), (by decide : 0 + 0 ≤ _)⟩)
  dsimp only [Pt.U, Pt.locs, Pt.cells, Pt.slots] at X1 l1 y1 z1 st1 hQ1
  subst l1 y1 z1
  obtain ⟨rfl, N1q, e1⟩ := hQ1
  have N1 := Fr.app N0 N1q
  obtain ⟨T2, X2, e2, st2⟩ := getF X1 hx hZ hown (host := "") (Or.inl (hw _ (List.mem_of_getElem? (i := 29) rfl))) Via.refl e1 S.2.2.1 (g := (mkF m 8 #[.val (.ref a), .val (.int q), .val (.int (0 : Int32))] [(.ref a)])) rfl rfl (hb hby d3_8)
  obtain ⟨cq3, kq3, qa3, qb3, qc3⟩ := isOf hZ e2 S.1
  obtain ⟨_, _, ⟨T3, L3, k3, n3⟩, -, X3, ⟨Lc3, hQ3, l3, y3, z3⟩, st3⟩ := X2.virtualBack hx (y := (⟨"java/lang/String", "length", "()I"⟩ : MethodName)) (z := (⟨"java/lang/String", "length", "()I"⟩ : MethodName)) hown (mvT hZ (hw _ (List.mem_of_getElem? (i := 30) rfl))) (mvT hZ (hw _ (List.mem_of_getElem? (i := 31) rfl))) (notFace_of_selects (args := #[]) (mvT hZ (hw _ (List.mem_of_getElem? (i := 33) rfl)))) (mvT hZ (hw _ (List.mem_of_getElem? (i := 33) rfl))) (mvT hZ (hw _ (List.mem_of_getElem? (i := 32) rfl))) (by decide) (backOf (W := 3) (rm5 l Z a0 hw [] a b k G1 h0 n0 Z0 S O2 X00 P5) hZ (hw _ (List.mem_of_getElem? (i := 34) rfl)) (hw _ (List.mem_of_getElem? (i := 5) rfl)) (by decide) (by decide)) qa3 qc3 (g := (mkF m 14 #[.val (.ref a), .val (.int q), .val (.int (0 : Int32))] [(.ref a), (.int (0 : Int32)), (.int q), (.ref b)])) rfl (by rw [hml]; rfl) (Steps.refl _) (argsL := []) (rest := [(.int (0 : Int32)), (.int q), (.ref b)]) (lenOf pd_4 rfl) rfl (by show 2 * 0 + _ ≤ _; exact Nat.le_of_eq rfl) (hb hby d3_14) (fun _ _ => ⟨rfl, e2, (by decide : 0 + 0 ≤ _), (by decide : 0 + 0 ≤ _)⟩)
  dsimp only [Pt.U, Pt.locs, Pt.cells, Pt.slots] at X3 l3 y3 z3 st3 hQ3
  subst l3 y3 z3
  obtain ⟨rfl, N3q, e3⟩ := hQ3
  have N3 := Fr.app N1 N3q
  obtain ⟨_, _, ⟨T4, L4, k4, n4⟩, -, X4, ⟨Lc4, hQ4, l4, y4, z4⟩, st4⟩ := Jvm.LawKit.callS X3 hx (y := (⟨"java/lang/StringLatin1", "indexOf", "([BIII)I"⟩ : MethodName)) hown (mvT hZ (hw _ (List.mem_of_getElem? (i := 40) rfl))) (mvT hZ (hw _ (List.mem_of_getElem? (i := 41) rfl))) (mvT hZ (hw _ (List.mem_of_getElem? (i := 42) rfl))) (mvT hZ (hw _ (List.mem_of_getElem? (i := 43) rfl))) (by decide) (backOf (W := 0) (rm7 l Z a0 hw [] b q k h0 n0 Z0 S.2.2.2) hZ (hw _ (List.mem_of_getElem? (i := 43) rfl)) (hw _ (List.mem_of_getElem? (i := 42) rfl)) (by decide) (by decide)) (g := (mkF m 17 #[.val (.ref a), .val (.int q), .val (.int (0 : Int32))] [(.int (15 : Int32)), (.int (0 : Int32)), (.int q), (.ref b)])) rfl (by rw [hml]; rfl) (argsL := [(.ref b), (.int q), (.int (0 : Int32)), (.int (15 : Int32))]) (rest := []) (lenOf pd_6 rfl) rfl (by show 2 * 0 + _ ≤ _; exact Nat.le_of_eq rfl) (hb hby d3_17) (fun _ _ => ⟨rfl, e3, (by decide : 0 + 0 ≤ _), (by decide : 0 + 0 ≤ _)⟩)
  dsimp only [Pt.U, Pt.locs, Pt.cells, Pt.slots] at X4 l4 y4 z4 st4 hQ4
  subst l4 y4 z4
  obtain ⟨rfl, N4q, e4⟩ := hQ4
  have N4 := Fr.app N3 N4q
  obtain ⟨fs, hr, hrun, hended, hW, hsame⟩ := X4.leave (v := some (.int (F7 q))) (fun h => by rw [Bd.returns] at h; cases h)
  refine ⟨_, _, pre0 _ ?_, hrun, hended, _, _, rfl, ?_, ⟨_, rfl⟩, hW, hsame.mono (by decide) (by decide)⟩
  · show Steps p.tables e below (s₁.setTop (mkF m 0 #[.val (.ref a), .val (.int q), .val (.int (0 : Int32))] [])) _
    refine XS.aloadN X0.here hx rfl (hb hby d3_0) rfl rfl ?_
    show Steps p.tables e below (s₁.setTop (mkF m 1 #[.val (.ref a), .val (.int q), .val (.int (0 : Int32))] [(.ref a)])) _
    refine st1.trans ?_
    show Steps p.tables e below (T1.setTop (mkF m 4 #[.val (.ref a), .val (.int q), .val (.int (0 : Int32))] [(.int (1 : Int32))])) _
    refine XS.ifNo X1.here hx rfl (hb hby d3_4) rfl ((if0 _ _).trans (feq (by decide : ¬ ((1 : Int32) = (0 : Int32)))).1) ?_
    show Steps p.tables e below (T1.setTop (mkF m 7 #[.val (.ref a), .val (.int q), .val (.int (0 : Int32))] [])) _
    refine XS.aloadN X1.here hx rfl (hb hby d3_7) rfl rfl ?_
    show Steps p.tables e below (T1.setTop (mkF m 8 #[.val (.ref a), .val (.int q), .val (.int (0 : Int32))] [(.ref a)])) _
    refine st2 _ ?_
    show Steps p.tables e below (T2.setTop (mkF m 11 #[.val (.ref a), .val (.int q), .val (.int (0 : Int32))] [(.ref b)])) _
    refine XS.iloadN X2.here hx rfl (hb hby d3_11) rfl ?_
    show Steps p.tables e below (T2.setTop (mkF m 12 #[.val (.ref a), .val (.int q), .val (.int (0 : Int32))] [(.int q), (.ref b)])) _
    refine XS.iloadN X2.here hx rfl (hb hby d3_12) rfl ?_
    show Steps p.tables e below (T2.setTop (mkF m 13 #[.val (.ref a), .val (.int q), .val (.int (0 : Int32))] [(.int (0 : Int32)), (.int q), (.ref b)])) _
    refine XS.aloadN X2.here hx rfl (hb hby d3_13) rfl rfl ?_
    show Steps p.tables e below (T2.setTop (mkF m 14 #[.val (.ref a), .val (.int q), .val (.int (0 : Int32))] [(.ref a), (.int (0 : Int32)), (.int q), (.ref b)])) _
    refine st3.trans ?_
    show Steps p.tables e below (T3.setTop (mkF m 17 #[.val (.ref a), .val (.int q), .val (.int (0 : Int32))] [(.int (15 : Int32)), (.int (0 : Int32)), (.int q), (.ref b)])) _
    refine st4 _ ?_
    show Steps p.tables e below (T4.setTop (mkF m 20 #[.val (.ref a), .val (.int q), .val (.int (0 : Int32))] [(.int (F7 q))])) _
    refine XS.goto X4.here hx rfl (pc0 := 20) (pc' := 36) rfl (hb hby d3_20) (by decide) (by decide) ?_
    show Steps p.tables e below (T4.setTop (mkF m 36 #[.val (.ref a), .val (.int q), .val (.int (0 : Int32))] [(.int (F7 q))])) _
    exact retI X4 hx Bd.returns (hb hby d3_36) hr
  · show Q3 q h0 n0 _ T4.heap _
    rw [e4]
    exact ⟨rfl, N4, rfl⟩
theorem d2_0 : decode jdk_42_method_79_code 0 = .ok (.aload_n 0, 1) := by decide +kernel
theorem d2_1 : decode jdk_42_method_79_code 1 = .ok (.iload_n 1, 1) := by decide +kernel
theorem d2_2 : decode jdk_42_method_79_code 2 = .ok (.iconst 0, 1) := by decide +kernel
theorem d2_3 : decode jdk_42_method_79_code 3 = .ok (.invokevirtual 633, 3) := by decide +kernel
theorem d2_6 : decode jdk_42_method_79_code 6 = .ok (.ireturn, 1) := by decide +kernel
theorem pn_2 : plainName "java/lang/String" = true := by first | (simp [plainName, overriddenIn]; done) | decide +kernel
theorem pf_2 : plainFor (⟨"java/lang/String", "indexOf", "(I)I"⟩ : MethodName) = true := plainFor_of_name pn_2
theorem ef_2 (m : MethodId) (x0 : Addr) (x1 : Int32) : entryFrame m #[(.ref x0), (.int x1)] 2 = mkF m 0 #[.val (.ref x0), .val (.int x1)] [] := by first | (simp [entryFrame, mkF, argsToLocals, Value.category, maxLocals]; done) | rfl
def Q2 (q : Int32) (h0 : Heap) (n0 : Nat) (v : Option Value) (h : Heap) (L : List Loc) : Prop := v = some (.int (F7 q)) ∧ Fr n0 L ∧ h = h0
set_option maxRecDepth 65536 in
set_option maxHeartbeats 40000000 in
theorem rm2 (l : Launch) (Z : State) (a0 : Array Value) (hw : ∀ d ∈ tables_1, d.before a0 Z = true) (ws : List Jvm.Cond) (a : Addr) (q : Int32) (b : Addr) (k : ClassId) (G1 : Int32) (h0 : Heap) (n0 : Nat) (Z0 : n0 ≤ h0.size) (S : OwnStr Z h0 a b k) (O2 : Sta Z Z.heap "java/lang/String" "COMPACT_STRINGS" "Z" (.int G1)) (X00 : Old Z n0 h0) (P5 : ¬ (G1 = (0 : Int32))) :
    MetFree l (⟨"java/lang/String", "indexOf", "(I)I"⟩ : MethodName) (head1 (Jvm.Cond.code (⟨"java/lang/String", "indexOf", "(I)I"⟩ : MethodName) jdk_42_method_79_code 2 (some .int) :: ws) ({ frames := 3, cells := 0, slots := 0, locals := 54 } : Room)) (fun aA uU => aA = #[(.ref a), (.int q)] ∧ Z.Warmed39 uU.vm ∧ uU.heap = h0) (fun _ _ _ _ _ => True) (fun _ uU oO uV => ∃ vV lL, oO = .returned vV ∧ Q2 q h0 n0 vV uV.heap lL ∧ FrameEnd uU oO uV lL ({ frames := 3, cells := 0, slots := 0, locals := 54 } : Room).cells ({ frames := 3, cells := 0, slots := 0, locals := 54 } : Room).slots) := by
  refine MetFree.of_bodySF pf_2 hisR ?_
  intro p e s m args below meth c s₁ Bd hml0 hP hK
  obtain ⟨rfl, hZ, hh⟩ := hP
  have hx := Bd.exec
  have hby := Bd.bytes
  have hml : c.maxLocals = 2 := hml0
  have hown : s.vm.findClass "java/lang/String" = some m.cls := findClass_of_methodNamed Bd.named
  have hnm := (name_of_methodNamed Bd.named Bd.method).1
  have X0 : Stand p l e ({ frames := 3, cells := 0, slots := 0, locals := 54 } : Room) s m #[(.ref a), (.int q)] below meth c s₁ [] 0 0 := Stand.of_body Bd
  have e0 : s₁.heap = h0 := by rw [← hh, Bd.state]; rfl
  have N0 := Fr.nil n0
  have pre0 : ∀ t, Steps p.tables e below (s₁.setTop (mkF m 0 #[.val (.ref a), .val (.int q)] [])) t → Steps p.tables e below (s₁.setTop (entryFrame m #[(.ref a), (.int q)] 2)) t := fun t k => castTop (ef_2 m a q) k
  obtain ⟨cq1, kq1, qa1, qb1, qc1⟩ := isOf hZ e0 S.1
  obtain ⟨_, _, ⟨T1, L1, k1, n1⟩, -, X1, ⟨Lc1, hQ1, l1, y1, z1⟩, st1⟩ := X0.virtualBack hx (y := (⟨"java/lang/String", "indexOf", "(II)I"⟩ : MethodName)) (z := (⟨"java/lang/String", "indexOf", "(II)I"⟩ : MethodName)) hown (mvT hZ (hw _ (List.mem_of_getElem? (i := 17) rfl))) (mvT hZ (hw _ (List.mem_of_getElem? (i := 18) rfl))) (notFace_of_selects (args := #[]) (mvT hZ (hw _ (List.mem_of_getElem? (i := 20) rfl)))) (mvT hZ (hw _ (List.mem_of_getElem? (i := 20) rfl))) (mvT hZ (hw _ (List.mem_of_getElem? (i := 19) rfl))) (by decide) (backOf (W := 0) (rm3 l Z a0 hw [] a q b k G1 h0 n0 Z0 S O2 X00 P5) hZ (hw _ (List.mem_of_getElem? (i := 21) rfl)) (hw _ (List.mem_of_getElem? (i := 5) rfl)) (by decide) (by decide)) qa1 qc1 (g := (mkF m 3 #[.val (.ref a), .val (.int q)] [(.int (0 : Int32)), (.int q), (.ref a)])) rfl (by rw [hml]; rfl) (Steps.refl _) (argsL := [(.int q), (.int (0 : Int32))]) (rest := []) (lenOf pd_2 rfl) rfl (by show 2 * 0 + _ ≤ _; exact Nat.le_of_eq rfl) (hb hby d2_3) (fun _ _ => ⟨rfl, e0, (by decide : 0 + 0 ≤ _), (by decide : 0 + 0 ≤ _)⟩)
  dsimp only [Pt.U, Pt.locs, Pt.cells, Pt.slots] at X1 l1 y1 z1 st1 hQ1
  subst l1 y1 z1
  obtain ⟨rfl, N1q, e1⟩ := hQ1
  have N1 := Fr.app N0 N1q
  obtain ⟨fs, hr, hrun, hended, hW, hsame⟩ := X1.leave (v := some (.int (F7 q))) (fun h => by rw [Bd.returns] at h; cases h)
  refine ⟨_, _, pre0 _ ?_, hrun, hended, _, _, rfl, ?_, ⟨_, rfl⟩, hW, hsame.mono (by decide) (by decide)⟩
  · show Steps p.tables e below (s₁.setTop (mkF m 0 #[.val (.ref a), .val (.int q)] [])) _
    refine XS.aloadN X0.here hx rfl (hb hby d2_0) rfl rfl ?_
    show Steps p.tables e below (s₁.setTop (mkF m 1 #[.val (.ref a), .val (.int q)] [(.ref a)])) _
    refine XS.iloadN X0.here hx rfl (hb hby d2_1) rfl ?_
    show Steps p.tables e below (s₁.setTop (mkF m 2 #[.val (.ref a), .val (.int q)] [(.int q), (.ref a)])) _
    refine XS.iconst X0.here hx rfl (hb hby d2_2) ?_
    show Steps p.tables e below (s₁.setTop (mkF m 3 #[.val (.ref a), .val (.int q)] [(.int (0 : Int32)), (.int q), (.ref a)])) _
    refine st1.trans ?_
    show Steps p.tables e below (T1.setTop (mkF m 6 #[.val (.ref a), .val (.int q)] [(.int (F7 q))])) _
    exact retI X1 hx Bd.returns (hb hby d2_6) hr
  · show Q2 q h0 n0 _ T1.heap _
    rw [e1]
    exact ⟨rfl, N1, rfl⟩
theorem d13_0 : decode method_2_code 0 = .ok (.iload_n 0, 1) := by decide +kernel
theorem d13_1 : decode method_2_code 1 = .ok (.bipush 34, 2) := by decide +kernel
theorem d13_3 : decode method_2_code 3 = .ok (.if_icmp .eq 99, 3) := by decide +kernel
theorem d13_6 : decode method_2_code 6 = .ok (.iload_n 0, 1) := by decide +kernel
theorem d13_7 : decode method_2_code 7 = .ok (.bipush 40, 2) := by decide +kernel
theorem d13_9 : decode method_2_code 9 = .ok (.if_icmp .eq 93, 3) := by decide +kernel
theorem d13_12 : decode method_2_code 12 = .ok (.iload_n 0, 1) := by decide +kernel
theorem d13_13 : decode method_2_code 13 = .ok (.bipush 41, 2) := by decide +kernel
theorem d13_15 : decode method_2_code 15 = .ok (.if_icmp .eq 87, 3) := by decide +kernel
theorem d13_18 : decode method_2_code 18 = .ok (.iload_n 0, 1) := by decide +kernel
theorem d13_19 : decode method_2_code 19 = .ok (.bipush 44, 2) := by decide +kernel
theorem d13_21 : decode method_2_code 21 = .ok (.if_icmp .eq 81, 3) := by decide +kernel
theorem d13_24 : decode method_2_code 24 = .ok (.iload_n 0, 1) := by decide +kernel
theorem d13_25 : decode method_2_code 25 = .ok (.bipush 47, 2) := by decide +kernel
theorem d13_27 : decode method_2_code 27 = .ok (.if_icmp .eq 75, 3) := by decide +kernel
theorem d13_30 : decode method_2_code 30 = .ok (.iload_n 0, 1) := by decide +kernel
theorem d13_31 : decode method_2_code 31 = .ok (.bipush 58, 2) := by decide +kernel
theorem d13_33 : decode method_2_code 33 = .ok (.if_icmp .eq 69, 3) := by decide +kernel
theorem d13_36 : decode method_2_code 36 = .ok (.iload_n 0, 1) := by decide +kernel
theorem d13_37 : decode method_2_code 37 = .ok (.bipush 59, 2) := by decide +kernel
theorem d13_39 : decode method_2_code 39 = .ok (.if_icmp .eq 63, 3) := by decide +kernel
theorem d13_42 : decode method_2_code 42 = .ok (.iload_n 0, 1) := by decide +kernel
theorem d13_43 : decode method_2_code 43 = .ok (.bipush 60, 2) := by decide +kernel
theorem d13_45 : decode method_2_code 45 = .ok (.if_icmp .eq 57, 3) := by decide +kernel
theorem d13_48 : decode method_2_code 48 = .ok (.iload_n 0, 1) := by decide +kernel
theorem d13_49 : decode method_2_code 49 = .ok (.bipush 61, 2) := by decide +kernel
theorem d13_51 : decode method_2_code 51 = .ok (.if_icmp .eq 51, 3) := by decide +kernel
theorem d13_54 : decode method_2_code 54 = .ok (.iload_n 0, 1) := by decide +kernel
theorem d13_55 : decode method_2_code 55 = .ok (.bipush 62, 2) := by decide +kernel
theorem d13_57 : decode method_2_code 57 = .ok (.if_icmp .eq 45, 3) := by decide +kernel
theorem d13_60 : decode method_2_code 60 = .ok (.iload_n 0, 1) := by decide +kernel
theorem d13_61 : decode method_2_code 61 = .ok (.bipush 63, 2) := by decide +kernel
theorem d13_63 : decode method_2_code 63 = .ok (.if_icmp .eq 39, 3) := by decide +kernel
theorem d13_66 : decode method_2_code 66 = .ok (.iload_n 0, 1) := by decide +kernel
theorem d13_67 : decode method_2_code 67 = .ok (.bipush 64, 2) := by decide +kernel
theorem d13_69 : decode method_2_code 69 = .ok (.if_icmp .eq 33, 3) := by decide +kernel
theorem d13_72 : decode method_2_code 72 = .ok (.iload_n 0, 1) := by decide +kernel
theorem d13_73 : decode method_2_code 73 = .ok (.bipush 91, 2) := by decide +kernel
theorem d13_75 : decode method_2_code 75 = .ok (.if_icmp .eq 27, 3) := by decide +kernel
theorem d13_78 : decode method_2_code 78 = .ok (.iload_n 0, 1) := by decide +kernel
theorem d13_79 : decode method_2_code 79 = .ok (.bipush 92, 2) := by decide +kernel
theorem d13_81 : decode method_2_code 81 = .ok (.if_icmp .eq 21, 3) := by decide +kernel
theorem d13_84 : decode method_2_code 84 = .ok (.iload_n 0, 1) := by decide +kernel
theorem d13_85 : decode method_2_code 85 = .ok (.bipush 93, 2) := by decide +kernel
theorem d13_87 : decode method_2_code 87 = .ok (.if_icmp .eq 15, 3) := by decide +kernel
theorem d13_90 : decode method_2_code 90 = .ok (.iload_n 0, 1) := by decide +kernel
theorem d13_91 : decode method_2_code 91 = .ok (.bipush 123, 2) := by decide +kernel
theorem d13_93 : decode method_2_code 93 = .ok (.if_icmp .eq 9, 3) := by decide +kernel
theorem d13_96 : decode method_2_code 96 = .ok (.iload_n 0, 1) := by decide +kernel
theorem d13_97 : decode method_2_code 97 = .ok (.bipush 125, 2) := by decide +kernel
theorem d13_99 : decode method_2_code 99 = .ok (.if_icmp .ne 7, 3) := by decide +kernel
theorem d13_102 : decode method_2_code 102 = .ok (.iconst 1, 1) := by decide +kernel
theorem d13_103 : decode method_2_code 103 = .ok (.goto 4, 3) := by decide +kernel
theorem d13_106 : decode method_2_code 106 = .ok (.iconst 0, 1) := by decide +kernel
theorem d13_107 : decode method_2_code 107 = .ok (.ireturn, 1) := by decide +kernel
theorem pn_13 : plainName "com/example/evconv/evconv/format/http/HttpFieldsIsTokenCharPinLaw" = true := by first | (simp [plainName, overriddenIn]; done) | decide +kernel
theorem pf_13 : plainFor (⟨"com/example/evconv/evconv/format/http/HttpFieldsIsTokenCharPinLaw", "isDelimiter", "(C)Z"⟩ : MethodName) = true := plainFor_of_name pn_13
theorem ef_13 (m : MethodId) (x0 : Int32) : entryFrame m #[(.int x0)] 1 = mkF m 0 #[.val (.int x0)] [] := by first | (simp [entryFrame, mkF, argsToLocals, Value.category, maxLocals]; done) | rfl
def F13 (q1 : Int32) : Int32 := (if q1 = (34 : Int32) then (1 : Int32) else (if q1 = (40 : Int32) then (1 : Int32) else (if q1 = (41 : Int32) then (1 : Int32) else (if q1 = (44 : Int32) then (1 : Int32) else (if q1 = (47 : Int32) then (1 : Int32) else (if q1 = (58 : Int32) then (1 : Int32) else (if q1 = (59 : Int32) then (1 : Int32) else (if q1 = (60 : Int32) then (1 : Int32) else (if q1 = (61 : Int32) then (1 : Int32) else (if q1 = (62 : Int32) then (1 : Int32) else (if q1 = (63 : Int32) then (1 : Int32) else (if q1 = (64 : Int32) then (1 : Int32) else (if q1 = (91 : Int32) then (1 : Int32) else (if q1 = (92 : Int32) then (1 : Int32) else (if q1 = (93 : Int32) then (1 : Int32) else (if q1 = (123 : Int32) then (1 : Int32) else (if q1 = (125 : Int32) then (1 : Int32) else (0 : Int32))))))))))))))))))
def Q13 (q1 : Int32) (h0 : Heap) (n0 : Nat) (v : Option Value) (h : Heap) (L : List Loc) : Prop := v = some (.int (F13 q1)) ∧ Fr n0 L ∧ h = h0
set_option maxRecDepth 65536 in
set_option maxHeartbeats 40000000 in
theorem rm13 (l : Launch) (Z : State) (a0 : Array Value) (hw : ∀ d ∈ tables_1, d.before a0 Z = true) (ws : List Jvm.Cond) (q1 : Int32) (h0 : Heap) (n0 : Nat) (Z0 : n0 ≤ h0.size)  :
    MetFree l (⟨"com/example/evconv/evconv/format/http/HttpFieldsIsTokenCharPinLaw", "isDelimiter", "(C)Z"⟩ : MethodName) (head1 (Jvm.Cond.code (⟨"com/example/evconv/evconv/format/http/HttpFieldsIsTokenCharPinLaw", "isDelimiter", "(C)Z"⟩ : MethodName) method_2_code 1 (some .boolean) :: ws) ({ frames := 0, cells := 0, slots := 0, locals := 0 } : Room)) (fun aA uU => aA = #[(.int q1)] ∧ Z.Warmed39 uU.vm ∧ uU.heap = h0) (fun _ _ _ _ _ => True) (fun _ uU oO uV => ∃ vV lL, oO = .returned vV ∧ Q13 q1 h0 n0 vV uV.heap lL ∧ FrameEnd uU oO uV lL ({ frames := 0, cells := 0, slots := 0, locals := 0 } : Room).cells ({ frames := 0, cells := 0, slots := 0, locals := 0 } : Room).slots) := by
  refine MetFree.of_bodySF pf_13 hisR ?_
  intro p e s m args below meth c s₁ Bd hml0 hP hK
  obtain ⟨rfl, hZ, hh⟩ := hP
  have hx := Bd.exec
  have hby := Bd.bytes
  have hml : c.maxLocals = 1 := hml0
  have hown : s.vm.findClass "com/example/evconv/evconv/format/http/HttpFieldsIsTokenCharPinLaw" = some m.cls := findClass_of_methodNamed Bd.named
  have hnm := (name_of_methodNamed Bd.named Bd.method).1
  have X0 : Stand p l e ({ frames := 0, cells := 0, slots := 0, locals := 0 } : Room) s m #[(.int q1)] below meth c s₁ [] 0 0 := Stand.of_body Bd
  have e0 : s₁.heap = h0 := by rw [← hh, Bd.state]; rfl
  have N0 := Fr.nil n0
  have pre0 : ∀ t, Steps p.tables e below (s₁.setTop (mkF m 0 #[.val (.int q1)] [])) t → Steps p.tables e below (s₁.setTop (entryFrame m #[(.int q1)] 1)) t := fun t k => castTop (ef_13 m q1) k
  obtain ⟨fs, hr, hrun, hended, hW, hsame⟩ := X0.leave (v := some (.int (F13 q1))) (fun h => by rw [Bd.returns] at h; cases h)
  refine ⟨_, _, pre0 _ ?_, hrun, hended, _, _, rfl, ?_, ⟨_, rfl⟩, hW, hsame.mono (by decide) (by decide)⟩
  · show Steps p.tables e below (s₁.setTop (mkF m 0 #[.val (.int q1)] [])) _
    refine XS.iloadN X0.here hx rfl (hb hby d13_0) rfl ?_
    show Steps p.tables e below (s₁.setTop (mkF m 1 #[.val (.int q1)] [(.int q1)])) _
    refine XS.bipush X0.here hx rfl (hb hby d13_1) ?_
    show Steps p.tables e below (s₁.setTop (mkF m 3 #[.val (.int q1)] [(.int (34 : Int32)), (.int q1)])) _
    by_cases hc1 : q1 = (34 : Int32)
    · refine XS.icmpYes X0.here hx rfl (pc0 := 3) (pc' := 102) rfl (hb hby d13_3) rfl (teq hc1).1 (by decide) (by decide) ?_
      show Steps p.tables e below (s₁.setTop (mkF m 102 #[.val (.int q1)] [])) _
      refine XS.iconst X0.here hx rfl (hb hby d13_102) ?_
      show Steps p.tables e below (s₁.setTop (mkF m 103 #[.val (.int q1)] [(.int (1 : Int32))])) _
      refine XS.goto X0.here hx rfl (pc0 := 103) (pc' := 107) rfl (hb hby d13_103) (by decide) (by decide) ?_
      show Steps p.tables e below (s₁.setTop (mkF m 107 #[.val (.int q1)] [(.int (1 : Int32))])) _
      rw [show F13 q1 = (1 : Int32) from (if_pos hc1).trans rfl] at hr
      exact retN X0 hx (t := .boolean) Bd.returns (by simp) (hb hby d13_107) hr
    · refine XS.icmpNo X0.here hx rfl (hb hby d13_3) rfl (feq hc1).1 ?_
      show Steps p.tables e below (s₁.setTop (mkF m 6 #[.val (.int q1)] [])) _
      refine XS.iloadN X0.here hx rfl (hb hby d13_6) rfl ?_
      show Steps p.tables e below (s₁.setTop (mkF m 7 #[.val (.int q1)] [(.int q1)])) _
      refine XS.bipush X0.here hx rfl (hb hby d13_7) ?_
      show Steps p.tables e below (s₁.setTop (mkF m 9 #[.val (.int q1)] [(.int (40 : Int32)), (.int q1)])) _
      by_cases hc2 : q1 = (40 : Int32)
      · refine XS.icmpYes X0.here hx rfl (pc0 := 9) (pc' := 102) rfl (hb hby d13_9) rfl (teq hc2).1 (by decide) (by decide) ?_
        show Steps p.tables e below (s₁.setTop (mkF m 102 #[.val (.int q1)] [])) _
        refine XS.iconst X0.here hx rfl (hb hby d13_102) ?_
        show Steps p.tables e below (s₁.setTop (mkF m 103 #[.val (.int q1)] [(.int (1 : Int32))])) _
        refine XS.goto X0.here hx rfl (pc0 := 103) (pc' := 107) rfl (hb hby d13_103) (by decide) (by decide) ?_
        show Steps p.tables e below (s₁.setTop (mkF m 107 #[.val (.int q1)] [(.int (1 : Int32))])) _
        rw [show F13 q1 = (1 : Int32) from (if_neg hc1).trans ((if_pos hc2).trans rfl)] at hr
        exact retN X0 hx (t := .boolean) Bd.returns (by simp) (hb hby d13_107) hr
      · refine XS.icmpNo X0.here hx rfl (hb hby d13_9) rfl (feq hc2).1 ?_
        show Steps p.tables e below (s₁.setTop (mkF m 12 #[.val (.int q1)] [])) _
        refine XS.iloadN X0.here hx rfl (hb hby d13_12) rfl ?_
        show Steps p.tables e below (s₁.setTop (mkF m 13 #[.val (.int q1)] [(.int q1)])) _
        refine XS.bipush X0.here hx rfl (hb hby d13_13) ?_
        show Steps p.tables e below (s₁.setTop (mkF m 15 #[.val (.int q1)] [(.int (41 : Int32)), (.int q1)])) _
        by_cases hc3 : q1 = (41 : Int32)
        · refine XS.icmpYes X0.here hx rfl (pc0 := 15) (pc' := 102) rfl (hb hby d13_15) rfl (teq hc3).1 (by decide) (by decide) ?_
          show Steps p.tables e below (s₁.setTop (mkF m 102 #[.val (.int q1)] [])) _
          refine XS.iconst X0.here hx rfl (hb hby d13_102) ?_
          show Steps p.tables e below (s₁.setTop (mkF m 103 #[.val (.int q1)] [(.int (1 : Int32))])) _
          refine XS.goto X0.here hx rfl (pc0 := 103) (pc' := 107) rfl (hb hby d13_103) (by decide) (by decide) ?_
          show Steps p.tables e below (s₁.setTop (mkF m 107 #[.val (.int q1)] [(.int (1 : Int32))])) _
          rw [show F13 q1 = (1 : Int32) from (if_neg hc1).trans ((if_neg hc2).trans ((if_pos hc3).trans rfl))] at hr
          exact retN X0 hx (t := .boolean) Bd.returns (by simp) (hb hby d13_107) hr
        · refine XS.icmpNo X0.here hx rfl (hb hby d13_15) rfl (feq hc3).1 ?_
          show Steps p.tables e below (s₁.setTop (mkF m 18 #[.val (.int q1)] [])) _
          refine XS.iloadN X0.here hx rfl (hb hby d13_18) rfl ?_
          show Steps p.tables e below (s₁.setTop (mkF m 19 #[.val (.int q1)] [(.int q1)])) _
          refine XS.bipush X0.here hx rfl (hb hby d13_19) ?_
          show Steps p.tables e below (s₁.setTop (mkF m 21 #[.val (.int q1)] [(.int (44 : Int32)), (.int q1)])) _
          by_cases hc4 : q1 = (44 : Int32)
          · refine XS.icmpYes X0.here hx rfl (pc0 := 21) (pc' := 102) rfl (hb hby d13_21) rfl (teq hc4).1 (by decide) (by decide) ?_
            show Steps p.tables e below (s₁.setTop (mkF m 102 #[.val (.int q1)] [])) _
            refine XS.iconst X0.here hx rfl (hb hby d13_102) ?_
            show Steps p.tables e below (s₁.setTop (mkF m 103 #[.val (.int q1)] [(.int (1 : Int32))])) _
            refine XS.goto X0.here hx rfl (pc0 := 103) (pc' := 107) rfl (hb hby d13_103) (by decide) (by decide) ?_
            show Steps p.tables e below (s₁.setTop (mkF m 107 #[.val (.int q1)] [(.int (1 : Int32))])) _
            rw [show F13 q1 = (1 : Int32) from (if_neg hc1).trans ((if_neg hc2).trans ((if_neg hc3).trans ((if_pos hc4).trans rfl)))] at hr
            exact retN X0 hx (t := .boolean) Bd.returns (by simp) (hb hby d13_107) hr
          · refine XS.icmpNo X0.here hx rfl (hb hby d13_21) rfl (feq hc4).1 ?_
            show Steps p.tables e below (s₁.setTop (mkF m 24 #[.val (.int q1)] [])) _
            refine XS.iloadN X0.here hx rfl (hb hby d13_24) rfl ?_
            show Steps p.tables e below (s₁.setTop (mkF m 25 #[.val (.int q1)] [(.int q1)])) _
            refine XS.bipush X0.here hx rfl (hb hby d13_25) ?_
            show Steps p.tables e below (s₁.setTop (mkF m 27 #[.val (.int q1)] [(.int (47 : Int32)), (.int q1)])) _
            by_cases hc5 : q1 = (47 : Int32)
            · refine XS.icmpYes X0.here hx rfl (pc0 := 27) (pc' := 102) rfl (hb hby d13_27) rfl (teq hc5).1 (by decide) (by decide) ?_
              show Steps p.tables e below (s₁.setTop (mkF m 102 #[.val (.int q1)] [])) _
              refine XS.iconst X0.here hx rfl (hb hby d13_102) ?_
              show Steps p.tables e below (s₁.setTop (mkF m 103 #[.val (.int q1)] [(.int (1 : Int32))])) _
              refine XS.goto X0.here hx rfl (pc0 := 103) (pc' := 107) rfl (hb hby d13_103) (by decide) (by decide) ?_
              show Steps p.tables e below (s₁.setTop (mkF m 107 #[.val (.int q1)] [(.int (1 : Int32))])) _
              rw [show F13 q1 = (1 : Int32) from (if_neg hc1).trans ((if_neg hc2).trans ((if_neg hc3).trans ((if_neg hc4).trans ((if_pos hc5).trans rfl))))] at hr
              exact retN X0 hx (t := .boolean) Bd.returns (by simp) (hb hby d13_107) hr
            · refine XS.icmpNo X0.here hx rfl (hb hby d13_27) rfl (feq hc5).1 ?_
              show Steps p.tables e below (s₁.setTop (mkF m 30 #[.val (.int q1)] [])) _
              refine XS.iloadN X0.here hx rfl (hb hby d13_30) rfl ?_
              show Steps p.tables e below (s₁.setTop (mkF m 31 #[.val (.int q1)] [(.int q1)])) _
              refine XS.bipush X0.here hx rfl (hb hby d13_31) ?_
              show Steps p.tables e below (s₁.setTop (mkF m 33 #[.val (.int q1)] [(.int (58 : Int32)), (.int q1)])) _
              by_cases hc6 : q1 = (58 : Int32)
              · refine XS.icmpYes X0.here hx rfl (pc0 := 33) (pc' := 102) rfl (hb hby d13_33) rfl (teq hc6).1 (by decide) (by decide) ?_
                show Steps p.tables e below (s₁.setTop (mkF m 102 #[.val (.int q1)] [])) _
                refine XS.iconst X0.here hx rfl (hb hby d13_102) ?_
                show Steps p.tables e below (s₁.setTop (mkF m 103 #[.val (.int q1)] [(.int (1 : Int32))])) _
                refine XS.goto X0.here hx rfl (pc0 := 103) (pc' := 107) rfl (hb hby d13_103) (by decide) (by decide) ?_
                show Steps p.tables e below (s₁.setTop (mkF m 107 #[.val (.int q1)] [(.int (1 : Int32))])) _
                rw [show F13 q1 = (1 : Int32) from (if_neg hc1).trans ((if_neg hc2).trans ((if_neg hc3).trans ((if_neg hc4).trans ((if_neg hc5).trans ((if_pos hc6).trans rfl)))))] at hr
                exact retN X0 hx (t := .boolean) Bd.returns (by simp) (hb hby d13_107) hr
              · refine XS.icmpNo X0.here hx rfl (hb hby d13_33) rfl (feq hc6).1 ?_
                show Steps p.tables e below (s₁.setTop (mkF m 36 #[.val (.int q1)] [])) _
                refine XS.iloadN X0.here hx rfl (hb hby d13_36) rfl ?_
                show Steps p.tables e below (s₁.setTop (mkF m 37 #[.val (.int q1)] [(.int q1)])) _
                refine XS.bipush X0.here hx rfl (hb hby d13_37) ?_
                show Steps p.tables e below (s₁.setTop (mkF m 39 #[.val (.int q1)] [(.int (59 : Int32)), (.int q1)])) _
                by_cases hc7 : q1 = (59 : Int32)
                · refine XS.icmpYes X0.here hx rfl (pc0 := 39) (pc' := 102) rfl (hb hby d13_39) rfl (teq hc7).1 (by decide) (by decide) ?_
                  show Steps p.tables e below (s₁.setTop (mkF m 102 #[.val (.int q1)] [])) _
                  refine XS.iconst X0.here hx rfl (hb hby d13_102) ?_
                  show Steps p.tables e below (s₁.setTop (mkF m 103 #[.val (.int q1)] [(.int (1 : Int32))])) _
                  refine XS.goto X0.here hx rfl (pc0 := 103) (pc' := 107) rfl (hb hby d13_103) (by decide) (by decide) ?_
                  show Steps p.tables e below (s₁.setTop (mkF m 107 #[.val (.int q1)] [(.int (1 : Int32))])) _
                  rw [show F13 q1 = (1 : Int32) from (if_neg hc1).trans ((if_neg hc2).trans ((if_neg hc3).trans ((if_neg hc4).trans ((if_neg hc5).trans ((if_neg hc6).trans ((if_pos hc7).trans rfl))))))] at hr
                  exact retN X0 hx (t := .boolean) Bd.returns (by simp) (hb hby d13_107) hr
                · refine XS.icmpNo X0.here hx rfl (hb hby d13_39) rfl (feq hc7).1 ?_
                  show Steps p.tables e below (s₁.setTop (mkF m 42 #[.val (.int q1)] [])) _
                  refine XS.iloadN X0.here hx rfl (hb hby d13_42) rfl ?_
                  show Steps p.tables e below (s₁.setTop (mkF m 43 #[.val (.int q1)] [(.int q1)])) _
                  refine XS.bipush X0.here hx rfl (hb hby d13_43) ?_
                  show Steps p.tables e below (s₁.setTop (mkF m 45 #[.val (.int q1)] [(.int (60 : Int32)), (.int q1)])) _
                  by_cases hc8 : q1 = (60 : Int32)
                  · refine XS.icmpYes X0.here hx rfl (pc0 := 45) (pc' := 102) rfl (hb hby d13_45) rfl (teq hc8).1 (by decide) (by decide) ?_
                    show Steps p.tables e below (s₁.setTop (mkF m 102 #[.val (.int q1)] [])) _
                    refine XS.iconst X0.here hx rfl (hb hby d13_102) ?_
                    show Steps p.tables e below (s₁.setTop (mkF m 103 #[.val (.int q1)] [(.int (1 : Int32))])) _
                    refine XS.goto X0.here hx rfl (pc0 := 103) (pc' := 107) rfl (hb hby d13_103) (by decide) (by decide) ?_
                    show Steps p.tables e below (s₁.setTop (mkF m 107 #[.val (.int q1)] [(.int (1 : Int32))])) _
                    rw [show F13 q1 = (1 : Int32) from (if_neg hc1).trans ((if_neg hc2).trans ((if_neg hc3).trans ((if_neg hc4).trans ((if_neg hc5).trans ((if_neg hc6).trans ((if_neg hc7).trans ((if_pos hc8).trans rfl)))))))] at hr
                    exact retN X0 hx (t := .boolean) Bd.returns (by simp) (hb hby d13_107) hr
                  · refine XS.icmpNo X0.here hx rfl (hb hby d13_45) rfl (feq hc8).1 ?_
                    show Steps p.tables e below (s₁.setTop (mkF m 48 #[.val (.int q1)] [])) _
                    refine XS.iloadN X0.here hx rfl (hb hby d13_48) rfl ?_
                    show Steps p.tables e below (s₁.setTop (mkF m 49 #[.val (.int q1)] [(.int q1)])) _
                    refine XS.bipush X0.here hx rfl (hb hby d13_49) ?_
                    show Steps p.tables e below (s₁.setTop (mkF m 51 #[.val (.int q1)] [(.int (61 : Int32)), (.int q1)])) _
                    by_cases hc9 : q1 = (61 : Int32)
                    · refine XS.icmpYes X0.here hx rfl (pc0 := 51) (pc' := 102) rfl (hb hby d13_51) rfl (teq hc9).1 (by decide) (by decide) ?_
                      show Steps p.tables e below (s₁.setTop (mkF m 102 #[.val (.int q1)] [])) _
                      refine XS.iconst X0.here hx rfl (hb hby d13_102) ?_
                      show Steps p.tables e below (s₁.setTop (mkF m 103 #[.val (.int q1)] [(.int (1 : Int32))])) _
                      refine XS.goto X0.here hx rfl (pc0 := 103) (pc' := 107) rfl (hb hby d13_103) (by decide) (by decide) ?_
                      show Steps p.tables e below (s₁.setTop (mkF m 107 #[.val (.int q1)] [(.int (1 : Int32))])) _
                      rw [show F13 q1 = (1 : Int32) from (if_neg hc1).trans ((if_neg hc2).trans ((if_neg hc3).trans ((if_neg hc4).trans ((if_neg hc5).trans ((if_neg hc6).trans ((if_neg hc7).trans ((if_neg hc8).trans ((if_pos hc9).trans rfl))))))))] at hr
                      exact retN X0 hx (t := .boolean) Bd.returns (by simp) (hb hby d13_107) hr
                    · refine XS.icmpNo X0.here hx rfl (hb hby d13_51) rfl (feq hc9).1 ?_
                      show Steps p.tables e below (s₁.setTop (mkF m 54 #[.val (.int q1)] [])) _
                      refine XS.iloadN X0.here hx rfl (hb hby d13_54) rfl ?_
                      show Steps p.tables e below (s₁.setTop (mkF m 55 #[.val (.int q1)] [(.int q1)])) _
                      refine XS.bipush X0.here hx rfl (hb hby d13_55) ?_
                      show Steps p.tables e below (s₁.setTop (mkF m 57 #[.val (.int q1)] [(.int (62 : Int32)), (.int q1)])) _
                      by_cases hc10 : q1 = (62 : Int32)
                      · refine XS.icmpYes X0.here hx rfl (pc0 := 57) (pc' := 102) rfl (hb hby d13_57) rfl (teq hc10).1 (by decide) (by decide) ?_
                        show Steps p.tables e below (s₁.setTop (mkF m 102 #[.val (.int q1)] [])) _
                        refine XS.iconst X0.here hx rfl (hb hby d13_102) ?_
                        show Steps p.tables e below (s₁.setTop (mkF m 103 #[.val (.int q1)] [(.int (1 : Int32))])) _
                        refine XS.goto X0.here hx rfl (pc0 := 103) (pc' := 107) rfl (hb hby d13_103) (by decide) (by decide) ?_
                        show Steps p.tables e below (s₁.setTop (mkF m 107 #[.val (.int q1)] [(.int (1 : Int32))])) _
                        rw [show F13 q1 = (1 : Int32) from (if_neg hc1).trans ((if_neg hc2).trans ((if_neg hc3).trans ((if_neg hc4).trans ((if_neg hc5).trans ((if_neg hc6).trans ((if_neg hc7).trans ((if_neg hc8).trans ((if_neg hc9).trans ((if_pos hc10).trans rfl)))))))))] at hr
                        exact retN X0 hx (t := .boolean) Bd.returns (by simp) (hb hby d13_107) hr
                      · refine XS.icmpNo X0.here hx rfl (hb hby d13_57) rfl (feq hc10).1 ?_
                        show Steps p.tables e below (s₁.setTop (mkF m 60 #[.val (.int q1)] [])) _
                        refine XS.iloadN X0.here hx rfl (hb hby d13_60) rfl ?_
                        show Steps p.tables e below (s₁.setTop (mkF m 61 #[.val (.int q1)] [(.int q1)])) _
                        refine XS.bipush X0.here hx rfl (hb hby d13_61) ?_
                        show Steps p.tables e below (s₁.setTop (mkF m 63 #[.val (.int q1)] [(.int (63 : Int32)), (.int q1)])) _
                        by_cases hc11 : q1 = (63 : Int32)
                        · refine XS.icmpYes X0.here hx rfl (pc0 := 63) (pc' := 102) rfl (hb hby d13_63) rfl (teq hc11).1 (by decide) (by decide) ?_
                          show Steps p.tables e below (s₁.setTop (mkF m 102 #[.val (.int q1)] [])) _
                          refine XS.iconst X0.here hx rfl (hb hby d13_102) ?_
                          show Steps p.tables e below (s₁.setTop (mkF m 103 #[.val (.int q1)] [(.int (1 : Int32))])) _
                          refine XS.goto X0.here hx rfl (pc0 := 103) (pc' := 107) rfl (hb hby d13_103) (by decide) (by decide) ?_
                          show Steps p.tables e below (s₁.setTop (mkF m 107 #[.val (.int q1)] [(.int (1 : Int32))])) _
                          rw [show F13 q1 = (1 : Int32) from (if_neg hc1).trans ((if_neg hc2).trans ((if_neg hc3).trans ((if_neg hc4).trans ((if_neg hc5).trans ((if_neg hc6).trans ((if_neg hc7).trans ((if_neg hc8).trans ((if_neg hc9).trans ((if_neg hc10).trans ((if_pos hc11).trans rfl))))))))))] at hr
                          exact retN X0 hx (t := .boolean) Bd.returns (by simp) (hb hby d13_107) hr
                        · refine XS.icmpNo X0.here hx rfl (hb hby d13_63) rfl (feq hc11).1 ?_
                          show Steps p.tables e below (s₁.setTop (mkF m 66 #[.val (.int q1)] [])) _
                          refine XS.iloadN X0.here hx rfl (hb hby d13_66) rfl ?_
                          show Steps p.tables e below (s₁.setTop (mkF m 67 #[.val (.int q1)] [(.int q1)])) _
                          refine XS.bipush X0.here hx rfl (hb hby d13_67) ?_
                          show Steps p.tables e below (s₁.setTop (mkF m 69 #[.val (.int q1)] [(.int (64 : Int32)), (.int q1)])) _
                          by_cases hc12 : q1 = (64 : Int32)
                          · refine XS.icmpYes X0.here hx rfl (pc0 := 69) (pc' := 102) rfl (hb hby d13_69) rfl (teq hc12).1 (by decide) (by decide) ?_
                            show Steps p.tables e below (s₁.setTop (mkF m 102 #[.val (.int q1)] [])) _
                            refine XS.iconst X0.here hx rfl (hb hby d13_102) ?_
                            show Steps p.tables e below (s₁.setTop (mkF m 103 #[.val (.int q1)] [(.int (1 : Int32))])) _
                            refine XS.goto X0.here hx rfl (pc0 := 103) (pc' := 107) rfl (hb hby d13_103) (by decide) (by decide) ?_
                            show Steps p.tables e below (s₁.setTop (mkF m 107 #[.val (.int q1)] [(.int (1 : Int32))])) _
                            rw [show F13 q1 = (1 : Int32) from (if_neg hc1).trans ((if_neg hc2).trans ((if_neg hc3).trans ((if_neg hc4).trans ((if_neg hc5).trans ((if_neg hc6).trans ((if_neg hc7).trans ((if_neg hc8).trans ((if_neg hc9).trans ((if_neg hc10).trans ((if_neg hc11).trans ((if_pos hc12).trans rfl)))))))))))] at hr
                            exact retN X0 hx (t := .boolean) Bd.returns (by simp) (hb hby d13_107) hr
                          · refine XS.icmpNo X0.here hx rfl (hb hby d13_69) rfl (feq hc12).1 ?_
                            show Steps p.tables e below (s₁.setTop (mkF m 72 #[.val (.int q1)] [])) _
                            refine XS.iloadN X0.here hx rfl (hb hby d13_72) rfl ?_
                            show Steps p.tables e below (s₁.setTop (mkF m 73 #[.val (.int q1)] [(.int q1)])) _
                            refine XS.bipush X0.here hx rfl (hb hby d13_73) ?_
                            show Steps p.tables e below (s₁.setTop (mkF m 75 #[.val (.int q1)] [(.int (91 : Int32)), (.int q1)])) _
                            by_cases hc13 : q1 = (91 : Int32)
                            · refine XS.icmpYes X0.here hx rfl (pc0 := 75) (pc' := 102) rfl (hb hby d13_75) rfl (teq hc13).1 (by decide) (by decide) ?_
                              show Steps p.tables e below (s₁.setTop (mkF m 102 #[.val (.int q1)] [])) _
                              refine XS.iconst X0.here hx rfl (hb hby d13_102) ?_
                              show Steps p.tables e below (s₁.setTop (mkF m 103 #[.val (.int q1)] [(.int (1 : Int32))])) _
                              refine XS.goto X0.here hx rfl (pc0 := 103) (pc' := 107) rfl (hb hby d13_103) (by decide) (by decide) ?_
                              show Steps p.tables e below (s₁.setTop (mkF m 107 #[.val (.int q1)] [(.int (1 : Int32))])) _
                              rw [show F13 q1 = (1 : Int32) from (if_neg hc1).trans ((if_neg hc2).trans ((if_neg hc3).trans ((if_neg hc4).trans ((if_neg hc5).trans ((if_neg hc6).trans ((if_neg hc7).trans ((if_neg hc8).trans ((if_neg hc9).trans ((if_neg hc10).trans ((if_neg hc11).trans ((if_neg hc12).trans ((if_pos hc13).trans rfl))))))))))))] at hr
                              exact retN X0 hx (t := .boolean) Bd.returns (by simp) (hb hby d13_107) hr
                            · refine XS.icmpNo X0.here hx rfl (hb hby d13_75) rfl (feq hc13).1 ?_
                              show Steps p.tables e below (s₁.setTop (mkF m 78 #[.val (.int q1)] [])) _
                              refine XS.iloadN X0.here hx rfl (hb hby d13_78) rfl ?_
                              show Steps p.tables e below (s₁.setTop (mkF m 79 #[.val (.int q1)] [(.int q1)])) _
                              refine XS.bipush X0.here hx rfl (hb hby d13_79) ?_
                              show Steps p.tables e below (s₁.setTop (mkF m 81 #[.val (.int q1)] [(.int (92 : Int32)), (.int q1)])) _
                              by_cases hc14 : q1 = (92 : Int32)
                              · refine XS.icmpYes X0.here hx rfl (pc0 := 81) (pc' := 102) rfl (hb hby d13_81) rfl (teq hc14).1 (by decide) (by decide) ?_
                                show Steps p.tables e below (s₁.setTop (mkF m 102 #[.val (.int q1)] [])) _
                                refine XS.iconst X0.here hx rfl (hb hby d13_102) ?_
                                show Steps p.tables e below (s₁.setTop (mkF m 103 #[.val (.int q1)] [(.int (1 : Int32))])) _
                                refine XS.goto X0.here hx rfl (pc0 := 103) (pc' := 107) rfl (hb hby d13_103) (by decide) (by decide) ?_
                                show Steps p.tables e below (s₁.setTop (mkF m 107 #[.val (.int q1)] [(.int (1 : Int32))])) _
                                rw [show F13 q1 = (1 : Int32) from (if_neg hc1).trans ((if_neg hc2).trans ((if_neg hc3).trans ((if_neg hc4).trans ((if_neg hc5).trans ((if_neg hc6).trans ((if_neg hc7).trans ((if_neg hc8).trans ((if_neg hc9).trans ((if_neg hc10).trans ((if_neg hc11).trans ((if_neg hc12).trans ((if_neg hc13).trans ((if_pos hc14).trans rfl)))))))))))))] at hr
                                exact retN X0 hx (t := .boolean) Bd.returns (by simp) (hb hby d13_107) hr
                              · refine XS.icmpNo X0.here hx rfl (hb hby d13_81) rfl (feq hc14).1 ?_
                                show Steps p.tables e below (s₁.setTop (mkF m 84 #[.val (.int q1)] [])) _
                                refine XS.iloadN X0.here hx rfl (hb hby d13_84) rfl ?_
                                show Steps p.tables e below (s₁.setTop (mkF m 85 #[.val (.int q1)] [(.int q1)])) _
                                refine XS.bipush X0.here hx rfl (hb hby d13_85) ?_
                                show Steps p.tables e below (s₁.setTop (mkF m 87 #[.val (.int q1)] [(.int (93 : Int32)), (.int q1)])) _
                                by_cases hc15 : q1 = (93 : Int32)
                                · refine XS.icmpYes X0.here hx rfl (pc0 := 87) (pc' := 102) rfl (hb hby d13_87) rfl (teq hc15).1 (by decide) (by decide) ?_
                                  show Steps p.tables e below (s₁.setTop (mkF m 102 #[.val (.int q1)] [])) _
                                  refine XS.iconst X0.here hx rfl (hb hby d13_102) ?_
                                  show Steps p.tables e below (s₁.setTop (mkF m 103 #[.val (.int q1)] [(.int (1 : Int32))])) _
                                  refine XS.goto X0.here hx rfl (pc0 := 103) (pc' := 107) rfl (hb hby d13_103) (by decide) (by decide) ?_
                                  show Steps p.tables e below (s₁.setTop (mkF m 107 #[.val (.int q1)] [(.int (1 : Int32))])) _
                                  rw [show F13 q1 = (1 : Int32) from (if_neg hc1).trans ((if_neg hc2).trans ((if_neg hc3).trans ((if_neg hc4).trans ((if_neg hc5).trans ((if_neg hc6).trans ((if_neg hc7).trans ((if_neg hc8).trans ((if_neg hc9).trans ((if_neg hc10).trans ((if_neg hc11).trans ((if_neg hc12).trans ((if_neg hc13).trans ((if_neg hc14).trans ((if_pos hc15).trans rfl))))))))))))))] at hr
                                  exact retN X0 hx (t := .boolean) Bd.returns (by simp) (hb hby d13_107) hr
                                · refine XS.icmpNo X0.here hx rfl (hb hby d13_87) rfl (feq hc15).1 ?_
                                  show Steps p.tables e below (s₁.setTop (mkF m 90 #[.val (.int q1)] [])) _
                                  refine XS.iloadN X0.here hx rfl (hb hby d13_90) rfl ?_
                                  show Steps p.tables e below (s₁.setTop (mkF m 91 #[.val (.int q1)] [(.int q1)])) _
                                  refine XS.bipush X0.here hx rfl (hb hby d13_91) ?_
                                  show Steps p.tables e below (s₁.setTop (mkF m 93 #[.val (.int q1)] [(.int (123 : Int32)), (.int q1)])) _
                                  by_cases hc16 : q1 = (123 : Int32)
                                  · refine XS.icmpYes X0.here hx rfl (pc0 := 93) (pc' := 102) rfl (hb hby d13_93) rfl (teq hc16).1 (by decide) (by decide) ?_
                                    show Steps p.tables e below (s₁.setTop (mkF m 102 #[.val (.int q1)] [])) _
                                    refine XS.iconst X0.here hx rfl (hb hby d13_102) ?_
                                    show Steps p.tables e below (s₁.setTop (mkF m 103 #[.val (.int q1)] [(.int (1 : Int32))])) _
                                    refine XS.goto X0.here hx rfl (pc0 := 103) (pc' := 107) rfl (hb hby d13_103) (by decide) (by decide) ?_
                                    show Steps p.tables e below (s₁.setTop (mkF m 107 #[.val (.int q1)] [(.int (1 : Int32))])) _
                                    rw [show F13 q1 = (1 : Int32) from (if_neg hc1).trans ((if_neg hc2).trans ((if_neg hc3).trans ((if_neg hc4).trans ((if_neg hc5).trans ((if_neg hc6).trans ((if_neg hc7).trans ((if_neg hc8).trans ((if_neg hc9).trans ((if_neg hc10).trans ((if_neg hc11).trans ((if_neg hc12).trans ((if_neg hc13).trans ((if_neg hc14).trans ((if_neg hc15).trans ((if_pos hc16).trans rfl)))))))))))))))] at hr
                                    exact retN X0 hx (t := .boolean) Bd.returns (by simp) (hb hby d13_107) hr
                                  · refine XS.icmpNo X0.here hx rfl (hb hby d13_93) rfl (feq hc16).1 ?_
                                    show Steps p.tables e below (s₁.setTop (mkF m 96 #[.val (.int q1)] [])) _
                                    refine XS.iloadN X0.here hx rfl (hb hby d13_96) rfl ?_
                                    show Steps p.tables e below (s₁.setTop (mkF m 97 #[.val (.int q1)] [(.int q1)])) _
                                    refine XS.bipush X0.here hx rfl (hb hby d13_97) ?_
                                    show Steps p.tables e below (s₁.setTop (mkF m 99 #[.val (.int q1)] [(.int (125 : Int32)), (.int q1)])) _
                                    by_cases hc17 : q1 = (125 : Int32)
                                    · refine XS.icmpNo X0.here hx rfl (hb hby d13_99) rfl (teq hc17).2 ?_
                                      show Steps p.tables e below (s₁.setTop (mkF m 102 #[.val (.int q1)] [])) _
                                      refine XS.iconst X0.here hx rfl (hb hby d13_102) ?_
                                      show Steps p.tables e below (s₁.setTop (mkF m 103 #[.val (.int q1)] [(.int (1 : Int32))])) _
                                      refine XS.goto X0.here hx rfl (pc0 := 103) (pc' := 107) rfl (hb hby d13_103) (by decide) (by decide) ?_
                                      show Steps p.tables e below (s₁.setTop (mkF m 107 #[.val (.int q1)] [(.int (1 : Int32))])) _
                                      rw [show F13 q1 = (1 : Int32) from (if_neg hc1).trans ((if_neg hc2).trans ((if_neg hc3).trans ((if_neg hc4).trans ((if_neg hc5).trans ((if_neg hc6).trans ((if_neg hc7).trans ((if_neg hc8).trans ((if_neg hc9).trans ((if_neg hc10).trans ((if_neg hc11).trans ((if_neg hc12).trans ((if_neg hc13).trans ((if_neg hc14).trans ((if_neg hc15).trans ((if_neg hc16).trans ((if_pos hc17).trans rfl))))))))))))))))] at hr
                                      exact retN X0 hx (t := .boolean) Bd.returns (by simp) (hb hby d13_107) hr
                                    · refine XS.icmpYes X0.here hx rfl (pc0 := 99) (pc' := 106) rfl (hb hby d13_99) rfl (feq hc17).2 (by decide) (by decide) ?_
                                      show Steps p.tables e below (s₁.setTop (mkF m 106 #[.val (.int q1)] [])) _
                                      refine XS.iconst X0.here hx rfl (hb hby d13_106) ?_
                                      show Steps p.tables e below (s₁.setTop (mkF m 107 #[.val (.int q1)] [(.int (0 : Int32))])) _
                                      rw [show F13 q1 = (0 : Int32) from (if_neg hc1).trans ((if_neg hc2).trans ((if_neg hc3).trans ((if_neg hc4).trans ((if_neg hc5).trans ((if_neg hc6).trans ((if_neg hc7).trans ((if_neg hc8).trans ((if_neg hc9).trans ((if_neg hc10).trans ((if_neg hc11).trans ((if_neg hc12).trans ((if_neg hc13).trans ((if_neg hc14).trans ((if_neg hc15).trans ((if_neg hc16).trans ((if_neg hc17).trans rfl))))))))))))))))] at hr
                                      exact retN X0 hx (t := .boolean) Bd.returns (by simp) (hb hby d13_107) hr
  · show Q13 q1 h0 n0 _ s₁.heap _
    rw [e0]
    exact ⟨rfl, N0, rfl⟩
theorem d12_0 : decode method_3_code 0 = .ok (.iload_n 0, 1) := by decide +kernel
theorem d12_1 : decode method_3_code 1 = .ok (.bipush 32, 2) := by decide +kernel
theorem d12_3 : decode method_3_code 3 = .ok (.if_icmp .le 20, 3) := by decide +kernel
theorem d12_6 : decode method_3_code 6 = .ok (.iload_n 0, 1) := by decide +kernel
theorem d12_7 : decode method_3_code 7 = .ok (.bipush 127, 2) := by decide +kernel
theorem d12_9 : decode method_3_code 9 = .ok (.if_icmp .ge 14, 3) := by decide +kernel
theorem d12_12 : decode method_3_code 12 = .ok (.iload_n 0, 1) := by decide +kernel
theorem d12_13 : decode method_3_code 13 = .ok (.invokestatic 7, 3) := by decide +kernel
theorem d12_16 : decode method_3_code 16 = .ok (.ifCond .ne 7, 3) := by decide +kernel
theorem d12_19 : decode method_3_code 19 = .ok (.iconst 1, 1) := by decide +kernel
theorem d12_20 : decode method_3_code 20 = .ok (.goto 4, 3) := by decide +kernel
theorem d12_23 : decode method_3_code 23 = .ok (.iconst 0, 1) := by decide +kernel
theorem d12_24 : decode method_3_code 24 = .ok (.ireturn, 1) := by decide +kernel
theorem pn_12 : plainName "com/example/evconv/evconv/format/http/HttpFieldsIsTokenCharPinLaw" = true := by first | (simp [plainName, overriddenIn]; done) | decide +kernel
theorem pf_12 : plainFor (⟨"com/example/evconv/evconv/format/http/HttpFieldsIsTokenCharPinLaw", "expected", "(C)Z"⟩ : MethodName) = true := plainFor_of_name pn_12
theorem ef_12 (m : MethodId) (x0 : Int32) : entryFrame m #[(.int x0)] 1 = mkF m 0 #[.val (.int x0)] [] := by first | (simp [entryFrame, mkF, argsToLocals, Value.category, maxLocals]; done) | rfl
def F12 (q : Int32) : Int32 := if (32 : Int32) < q then (if q < (127 : Int32) then (if (F13 q) = (0 : Int32) then 1 else 0) else 0) else 0
def Q12 (q : Int32) (h0 : Heap) (n0 : Nat) (v : Option Value) (h : Heap) (L : List Loc) : Prop := v = some (.int (F12 q)) ∧ Fr n0 L ∧ h = h0
set_option maxRecDepth 65536 in
set_option maxHeartbeats 40000000 in
theorem rm12 (l : Launch) (Z : State) (a0 : Array Value) (hw : ∀ d ∈ tables_1, d.before a0 Z = true) (ws : List Jvm.Cond) (q : Int32) (h0 : Heap) (n0 : Nat) (Z0 : n0 ≤ h0.size)  :
    MetFree l (⟨"com/example/evconv/evconv/format/http/HttpFieldsIsTokenCharPinLaw", "expected", "(C)Z"⟩ : MethodName) (head1 (Jvm.Cond.code (⟨"com/example/evconv/evconv/format/http/HttpFieldsIsTokenCharPinLaw", "expected", "(C)Z"⟩ : MethodName) method_3_code 1 (some .boolean) :: ws) ({ frames := 1, cells := 0, slots := 0, locals := 12 } : Room)) (fun aA uU => aA = #[(.int q)] ∧ Z.Warmed39 uU.vm ∧ uU.heap = h0) (fun _ _ _ _ _ => True) (fun _ uU oO uV => ∃ vV lL, oO = .returned vV ∧ Q12 q h0 n0 vV uV.heap lL ∧ FrameEnd uU oO uV lL ({ frames := 1, cells := 0, slots := 0, locals := 12 } : Room).cells ({ frames := 1, cells := 0, slots := 0, locals := 12 } : Room).slots) := by
  refine MetFree.of_bodySF pf_12 hisR ?_
  intro p e s m args below meth c s₁ Bd hml0 hP hK
  obtain ⟨rfl, hZ, hh⟩ := hP
  have hx := Bd.exec
  have hby := Bd.bytes
  have hml : c.maxLocals = 1 := hml0
  have hown : s.vm.findClass "com/example/evconv/evconv/format/http/HttpFieldsIsTokenCharPinLaw" = some m.cls := findClass_of_methodNamed Bd.named
  have hnm := (name_of_methodNamed Bd.named Bd.method).1
  have X0 : Stand p l e ({ frames := 1, cells := 0, slots := 0, locals := 12 } : Room) s m #[(.int q)] below meth c s₁ [] 0 0 := Stand.of_body Bd
  have e0 : s₁.heap = h0 := by rw [← hh, Bd.state]; rfl
  have N0 := Fr.nil n0
  have pre0 : ∀ t, Steps p.tables e below (s₁.setTop (mkF m 0 #[.val (.int q)] [])) t → Steps p.tables e below (s₁.setTop (entryFrame m #[(.int q)] 1)) t := fun t k => castTop (ef_12 m q) k
  by_cases h1 : (32 : Int32) < q
  · by_cases h2 : q < (127 : Int32)
    · obtain ⟨_, _, ⟨T1, L1, k1, n1⟩, -, X1, ⟨Lc1, hQ1, l1, y1, z1⟩, st1⟩ := Jvm.LawKit.callS X0 hx (y := (⟨"com/example/evconv/evconv/format/http/HttpFieldsIsTokenCharPinLaw", "isDelimiter", "(C)Z"⟩ : MethodName)) hown (mvT hZ (hw _ (List.mem_of_getElem? (i := 61) rfl))) (mvT hZ (hw _ (List.mem_of_getElem? (i := 62) rfl))) (mvT hZ (hw _ (List.mem_of_getElem? (i := 59) rfl))) (mvT hZ (hw _ (List.mem_of_getElem? (i := 63) rfl))) (by decide) (backOf (W := 0) (rm13 l Z a0 hw [] q h0 n0 Z0 ) hZ (hw _ (List.mem_of_getElem? (i := 63) rfl)) (hw _ (List.mem_of_getElem? (i := 59) rfl)) (by decide) (by decide)) (g := (mkF m 13 #[.val (.int q)] [(.int q)])) rfl (by rw [hml]; rfl) (argsL := [(.int q)]) (rest := []) (lenOf pd_8 rfl) rfl (by show 2 * 0 + _ ≤ _; exact Nat.le_of_eq rfl) (hb hby d12_13) (fun _ _ => ⟨rfl, e0, (by decide : 0 + 0 ≤ _), (by decide : 0 + 0 ≤ _)⟩)
      dsimp only [Pt.U, Pt.locs, Pt.cells, Pt.slots] at X1 l1 y1 z1 st1 hQ1
      subst l1 y1 z1
      obtain ⟨rfl, N1q, e1⟩ := hQ1
      have N1 := Fr.app N0 N1q
      obtain ⟨fs, hr, hrun, hended, hW, hsame⟩ := X1.leave (v := some (.int (F12 q))) (fun h => by rw [Bd.returns] at h; cases h)
      refine ⟨_, _, pre0 _ ?_, hrun, hended, _, _, rfl, ?_, ⟨_, rfl⟩, hW, hsame.mono (by decide) (by decide)⟩
      · show Steps p.tables e below (s₁.setTop (mkF m 0 #[.val (.int q)] [])) _
        refine XS.iloadN X0.here hx rfl (hb hby d12_0) rfl ?_
        show Steps p.tables e below (s₁.setTop (mkF m 1 #[.val (.int q)] [(.int q)])) _
        refine XS.bipush X0.here hx rfl (hb hby d12_1) ?_
        show Steps p.tables e below (s₁.setTop (mkF m 3 #[.val (.int q)] [(.int (32 : Int32)), (.int q)])) _
        refine XS.icmpNo X0.here hx rfl (hb hby d12_3) rfl (tlt (h1 : (32 : Int32) < q)).2.2.2 ?_
        show Steps p.tables e below (s₁.setTop (mkF m 6 #[.val (.int q)] [])) _
        refine XS.iloadN X0.here hx rfl (hb hby d12_6) rfl ?_
        show Steps p.tables e below (s₁.setTop (mkF m 7 #[.val (.int q)] [(.int q)])) _
        refine XS.bipush X0.here hx rfl (hb hby d12_7) ?_
        show Steps p.tables e below (s₁.setTop (mkF m 9 #[.val (.int q)] [(.int (127 : Int32)), (.int q)])) _
        refine XS.icmpNo X0.here hx rfl (hb hby d12_9) rfl (tlt (h2 : q < (127 : Int32))).2.1 ?_
        show Steps p.tables e below (s₁.setTop (mkF m 12 #[.val (.int q)] [])) _
        refine XS.iloadN X0.here hx rfl (hb hby d12_12) rfl ?_
        show Steps p.tables e below (s₁.setTop (mkF m 13 #[.val (.int q)] [(.int q)])) _
        refine st1 _ ?_
        show Steps p.tables e below (T1.setTop (mkF m 16 #[.val (.int q)] [(.int (F13 q))])) _
        by_cases hc1 : (F13 q) = (0 : Int32)
        · refine XS.ifNo X1.here hx rfl (hb hby d12_16) rfl ((if0 _ _).trans (teq hc1).2) ?_
          show Steps p.tables e below (T1.setTop (mkF m 19 #[.val (.int q)] [])) _
          refine XS.iconst X1.here hx rfl (hb hby d12_19) ?_
          show Steps p.tables e below (T1.setTop (mkF m 20 #[.val (.int q)] [(.int (1 : Int32))])) _
          refine XS.goto X1.here hx rfl (pc0 := 20) (pc' := 24) rfl (hb hby d12_20) (by decide) (by decide) ?_
          show Steps p.tables e below (T1.setTop (mkF m 24 #[.val (.int q)] [(.int (1 : Int32))])) _
          rw [show F12 q = (1 : Int32) from (if_pos h1).trans ((if_pos h2).trans ((if_pos hc1).trans rfl))] at hr
          exact retN X1 hx (t := .boolean) Bd.returns (by simp) (hb hby d12_24) hr
        · refine XS.ifYes X1.here hx rfl (pc0 := 16) (pc' := 23) rfl (hb hby d12_16) rfl ((if0 _ _).trans (feq hc1).2) (by decide) (by decide) ?_
          show Steps p.tables e below (T1.setTop (mkF m 23 #[.val (.int q)] [])) _
          refine XS.iconst X1.here hx rfl (hb hby d12_23) ?_
          show Steps p.tables e below (T1.setTop (mkF m 24 #[.val (.int q)] [(.int (0 : Int32))])) _
          rw [show F12 q = (0 : Int32) from (if_pos h1).trans ((if_pos h2).trans ((if_neg hc1).trans rfl))] at hr
          exact retN X1 hx (t := .boolean) Bd.returns (by simp) (hb hby d12_24) hr
      · show Q12 q h0 n0 _ T1.heap _
        rw [e1]
        exact ⟨rfl, N1, rfl⟩
    · obtain ⟨fs, hr, hrun, hended, hW, hsame⟩ := X0.leave (v := some (.int (F12 q))) (fun h => by rw [Bd.returns] at h; cases h)
      refine ⟨_, _, pre0 _ ?_, hrun, hended, _, _, rfl, ?_, ⟨_, rfl⟩, hW, hsame.mono (by decide) (by decide)⟩
      · show Steps p.tables e below (s₁.setTop (mkF m 0 #[.val (.int q)] [])) _
        refine XS.iloadN X0.here hx rfl (hb hby d12_0) rfl ?_
        show Steps p.tables e below (s₁.setTop (mkF m 1 #[.val (.int q)] [(.int q)])) _
        refine XS.bipush X0.here hx rfl (hb hby d12_1) ?_
        show Steps p.tables e below (s₁.setTop (mkF m 3 #[.val (.int q)] [(.int (32 : Int32)), (.int q)])) _
        refine XS.icmpNo X0.here hx rfl (hb hby d12_3) rfl (tlt (h1 : (32 : Int32) < q)).2.2.2 ?_
        show Steps p.tables e below (s₁.setTop (mkF m 6 #[.val (.int q)] [])) _
        refine XS.iloadN X0.here hx rfl (hb hby d12_6) rfl ?_
        show Steps p.tables e below (s₁.setTop (mkF m 7 #[.val (.int q)] [(.int q)])) _
        refine XS.bipush X0.here hx rfl (hb hby d12_7) ?_
        show Steps p.tables e below (s₁.setTop (mkF m 9 #[.val (.int q)] [(.int (127 : Int32)), (.int q)])) _
        refine XS.icmpYes X0.here hx rfl (pc0 := 9) (pc' := 23) rfl (hb hby d12_9) rfl (flt (h2 : ¬ (q < (127 : Int32)))).2.1 (by decide) (by decide) ?_
        show Steps p.tables e below (s₁.setTop (mkF m 23 #[.val (.int q)] [])) _
        refine XS.iconst X0.here hx rfl (hb hby d12_23) ?_
        show Steps p.tables e below (s₁.setTop (mkF m 24 #[.val (.int q)] [(.int (0 : Int32))])) _
        rw [show F12 q = (0 : Int32) from (if_pos h1).trans ((if_neg h2).trans rfl)] at hr
        exact retN X0 hx (t := .boolean) Bd.returns (by simp) (hb hby d12_24) hr
      · show Q12 q h0 n0 _ s₁.heap _
        rw [e0]
        exact ⟨rfl, N0, rfl⟩
  · obtain ⟨fs, hr, hrun, hended, hW, hsame⟩ := X0.leave (v := some (.int (F12 q))) (fun h => by rw [Bd.returns] at h; cases h)
    refine ⟨_, _, pre0 _ ?_, hrun, hended, _, _, rfl, ?_, ⟨_, rfl⟩, hW, hsame.mono (by decide) (by decide)⟩
    · show Steps p.tables e below (s₁.setTop (mkF m 0 #[.val (.int q)] [])) _
      refine XS.iloadN X0.here hx rfl (hb hby d12_0) rfl ?_
      show Steps p.tables e below (s₁.setTop (mkF m 1 #[.val (.int q)] [(.int q)])) _
      refine XS.bipush X0.here hx rfl (hb hby d12_1) ?_
      show Steps p.tables e below (s₁.setTop (mkF m 3 #[.val (.int q)] [(.int (32 : Int32)), (.int q)])) _
      refine XS.icmpYes X0.here hx rfl (pc0 := 3) (pc' := 23) rfl (hb hby d12_3) rfl (flt (h1 : ¬ ((32 : Int32) < q))).2.2.2 (by decide) (by decide) ?_
      show Steps p.tables e below (s₁.setTop (mkF m 23 #[.val (.int q)] [])) _
      refine XS.iconst X0.here hx rfl (hb hby d12_23) ?_
      show Steps p.tables e below (s₁.setTop (mkF m 24 #[.val (.int q)] [(.int (0 : Int32))])) _
      rw [show F12 q = (0 : Int32) from (if_neg h1).trans rfl] at hr
      exact retN X0 hx (t := .boolean) Bd.returns (by simp) (hb hby d12_24) hr
    · show Q12 q h0 n0 _ s₁.heap _
      rw [e0]
      exact ⟨rfl, N0, rfl⟩
def own_al (q : Int32) : Int32 := (if q < (97 : Int32) then (if q < (65 : Int32) then (if q < (48 : Int32) then (0 : Int32) else (if (57 : Int32) < q then (0 : Int32) else (1 : Int32))) else (if (90 : Int32) < q then (if q < (48 : Int32) then (0 : Int32) else (if (57 : Int32) < q then (0 : Int32) else (1 : Int32))) else (1 : Int32))) else (if (122 : Int32) < q then (if q < (65 : Int32) then (if q < (48 : Int32) then (0 : Int32) else (if (57 : Int32) < q then (0 : Int32) else (1 : Int32))) else (if (90 : Int32) < q then (if q < (48 : Int32) then (0 : Int32) else (if (57 : Int32) < q then (0 : Int32) else (1 : Int32))) else (1 : Int32))) else (1 : Int32)))
def F1 (q : Int32) : Int32 := if own_al q = 1 then 1 else if F7 q < 0 then 0 else 1
theorem d1_0 : decode prog_26_method_4_code 0 = .ok (.iload_n 0, 1) := by decide +kernel
theorem d1_1 : decode prog_26_method_4_code 1 = .ok (.bipush 97, 2) := by decide +kernel
theorem d1_3 : decode prog_26_method_4_code 3 = .ok (.if_icmp .lt 9, 3) := by decide +kernel
theorem d1_6 : decode prog_26_method_4_code 6 = .ok (.iload_n 0, 1) := by decide +kernel
theorem d1_7 : decode prog_26_method_4_code 7 = .ok (.bipush 122, 2) := by decide +kernel
theorem d1_9 : decode prog_26_method_4_code 9 = .ok (.if_icmp .le 36, 3) := by decide +kernel
theorem d1_12 : decode prog_26_method_4_code 12 = .ok (.iload_n 0, 1) := by decide +kernel
theorem d1_13 : decode prog_26_method_4_code 13 = .ok (.bipush 65, 2) := by decide +kernel
theorem d1_15 : decode prog_26_method_4_code 15 = .ok (.if_icmp .lt 9, 3) := by decide +kernel
theorem d1_18 : decode prog_26_method_4_code 18 = .ok (.iload_n 0, 1) := by decide +kernel
theorem d1_19 : decode prog_26_method_4_code 19 = .ok (.bipush 90, 2) := by decide +kernel
theorem d1_21 : decode prog_26_method_4_code 21 = .ok (.if_icmp .le 24, 3) := by decide +kernel
theorem d1_24 : decode prog_26_method_4_code 24 = .ok (.iload_n 0, 1) := by decide +kernel
theorem d1_25 : decode prog_26_method_4_code 25 = .ok (.bipush 48, 2) := by decide +kernel
theorem d1_27 : decode prog_26_method_4_code 27 = .ok (.if_icmp .lt 9, 3) := by decide +kernel
theorem d1_30 : decode prog_26_method_4_code 30 = .ok (.iload_n 0, 1) := by decide +kernel
theorem d1_31 : decode prog_26_method_4_code 31 = .ok (.bipush 57, 2) := by decide +kernel
theorem d1_33 : decode prog_26_method_4_code 33 = .ok (.if_icmp .le 12, 3) := by decide +kernel
theorem d1_36 : decode prog_26_method_4_code 36 = .ok (.ldc 23, 2) := by decide +kernel
theorem d1_38 : decode prog_26_method_4_code 38 = .ok (.iload_n 0, 1) := by decide +kernel
theorem d1_39 : decode prog_26_method_4_code 39 = .ok (.invokevirtual 25, 3) := by decide +kernel
theorem d1_42 : decode prog_26_method_4_code 42 = .ok (.ifCond .lt 7, 3) := by decide +kernel
theorem d1_45 : decode prog_26_method_4_code 45 = .ok (.iconst 1, 1) := by decide +kernel
theorem d1_46 : decode prog_26_method_4_code 46 = .ok (.goto 4, 3) := by decide +kernel
theorem d1_49 : decode prog_26_method_4_code 49 = .ok (.iconst 0, 1) := by decide +kernel
theorem d1_50 : decode prog_26_method_4_code 50 = .ok (.ireturn, 1) := by decide +kernel
theorem pn_1 : plainName "com/example/evconv/evconv/format/http/HttpFields" = true := by first | (simp [plainName, overriddenIn]; done) | decide +kernel
theorem pf_1 : plainFor (⟨"com/example/evconv/evconv/format/http/HttpFields", "isTokenChar", "(C)Z"⟩ : MethodName) = true := plainFor_of_name pn_1
theorem ef_1 (m : MethodId) (x0 : Int32) : entryFrame m #[(.int x0)] 1 = mkF m 0 #[.val (.int x0)] [] := by first | (simp [entryFrame, mkF, argsToLocals, Value.category, maxLocals]; done) | rfl
def Q1 (q : Int32) (h0 : Heap) (n0 : Nat) (v : Option Value) (h : Heap) (L : List Loc) : Prop := v = some (.int (F1 q)) ∧ Fr n0 L ∧ Ext h0 h
set_option maxRecDepth 65536 in
set_option maxHeartbeats 40000000 in
theorem rm1 (l : Launch) (Z : State) (a0 : Array Value) (hw : ∀ d ∈ tables_1, d.before a0 Z = true) (ws : List Jvm.Cond) (q : Int32) (G1 : Int32) (EL : List (String × Nat)) (h0 : Heap) (n0 : Nat) (Z0 : n0 ≤ h0.size) (O2 : Sta Z Z.heap "java/lang/String" "COMPACT_STRINGS" "Z" (.int G1)) (X00 : Old Z n0 h0) (P5 : ¬ (G1 = (0 : Int32))) (hEL : EW Z a0 EL) (hmem : ("com/example/evconv/evconv/format/http/HttpFields", 23) ∈ EL) :
    MetFree l (⟨"com/example/evconv/evconv/format/http/HttpFields", "isTokenChar", "(C)Z"⟩ : MethodName) (head1 (Jvm.Cond.code (⟨"com/example/evconv/evconv/format/http/HttpFields", "isTokenChar", "(C)Z"⟩ : MethodName) prog_26_method_4_code 1 (some .boolean) :: ws) ({ frames := 4, cells := 2, slots := 64, locals := 68 } : Room)) (fun aA uU => aA = #[(.int q)] ∧ Z.Warmed39 uU.vm ∧ uU.heap = h0 ∧ CHv Z EL uU.vm h0) (fun _ _ _ _ _ => True) (fun _ uU oO uV => ∃ vV lL, oO = .returned vV ∧ Q1 q h0 n0 vV uV.heap lL ∧ CHr Z EL uU.vm uU.heap uV.vm uV.heap ∧ ReturnedEndW uU oO uV lL ({ frames := 4, cells := 2, slots := 64, locals := 68 } : Room).cells ({ frames := 4, cells := 2, slots := 64, locals := 68 } : Room).slots) := by
  refine MetFree.of_bodySF pf_1 hisR ?_
  intro p e s m args below meth c s₁ Bd hml0 hP hK
  obtain ⟨rfl, hZ, hh, hCH⟩ := hP
  have hx := Bd.exec
  have hby := Bd.bytes
  have hml : c.maxLocals = 1 := hml0
  have hown : s.vm.findClass "com/example/evconv/evconv/format/http/HttpFields" = some m.cls := findClass_of_methodNamed Bd.named
  have hnm := (name_of_methodNamed Bd.named Bd.method).1
  have X0 : Stand p l e ({ frames := 4, cells := 2, slots := 64, locals := 68 } : Room) s m #[(.int q)] below meth c s₁ [] 0 0 := Stand.of_body Bd
  have e0 : s₁.heap = h0 := by rw [← hh, Bd.state]; rfl
  have N0 := Fr.nil n0
  have pre0 : ∀ t, Steps p.tables e below (s₁.setTop (mkF m 0 #[.val (.int q)] [])) t → Steps p.tables e below (s₁.setTop (entryFrame m #[(.int q)] 1)) t := fun t k => castTop (ef_1 m q) k
  by_cases hal : own_al q = 1
  · have sg : ∀ t, Steps p.tables e below (s₁.setTop (mkF m 45 #[.val (.int q)] [])) t → Steps p.tables e below (s₁.setTop (mkF m 0 #[.val (.int q)] [])) t := by
      intro t kt
      show Steps p.tables e below (s₁.setTop (mkF m 0 #[.val (.int q)] [])) _
      refine XS.iloadN X0.here hx rfl (hb hby d1_0) rfl ?_
      show Steps p.tables e below (s₁.setTop (mkF m 1 #[.val (.int q)] [(.int q)])) _
      refine XS.bipush X0.here hx rfl (hb hby d1_1) ?_
      show Steps p.tables e below (s₁.setTop (mkF m 3 #[.val (.int q)] [(.int (97 : Int32)), (.int q)])) _
      by_cases hc1 : q < (97 : Int32)
      · refine XS.icmpYes X0.here hx rfl (pc0 := 3) (pc' := 12) rfl (hb hby d1_3) rfl (tlt hc1).1 (by decide) (by decide) ?_
        show Steps p.tables e below (s₁.setTop (mkF m 12 #[.val (.int q)] [])) _
        refine XS.iloadN X0.here hx rfl (hb hby d1_12) rfl ?_
        show Steps p.tables e below (s₁.setTop (mkF m 13 #[.val (.int q)] [(.int q)])) _
        refine XS.bipush X0.here hx rfl (hb hby d1_13) ?_
        show Steps p.tables e below (s₁.setTop (mkF m 15 #[.val (.int q)] [(.int (65 : Int32)), (.int q)])) _
        by_cases hc2 : q < (65 : Int32)
        · refine XS.icmpYes X0.here hx rfl (pc0 := 15) (pc' := 24) rfl (hb hby d1_15) rfl (tlt hc2).1 (by decide) (by decide) ?_
          show Steps p.tables e below (s₁.setTop (mkF m 24 #[.val (.int q)] [])) _
          refine XS.iloadN X0.here hx rfl (hb hby d1_24) rfl ?_
          show Steps p.tables e below (s₁.setTop (mkF m 25 #[.val (.int q)] [(.int q)])) _
          refine XS.bipush X0.here hx rfl (hb hby d1_25) ?_
          show Steps p.tables e below (s₁.setTop (mkF m 27 #[.val (.int q)] [(.int (48 : Int32)), (.int q)])) _
          by_cases hc3 : q < (48 : Int32)
          · refine XS.icmpYes X0.here hx rfl (pc0 := 27) (pc' := 36) rfl (hb hby d1_27) rfl (tlt hc3).1 (by decide) (by decide) ?_
            exact absurd (show own_al q = (0 : Int32) from (if_pos hc1).trans ((if_pos hc2).trans ((if_pos hc3).trans rfl))) (by rw [hal]; decide)
          · refine XS.icmpNo X0.here hx rfl (hb hby d1_27) rfl (flt hc3).1 ?_
            show Steps p.tables e below (s₁.setTop (mkF m 30 #[.val (.int q)] [])) _
            refine XS.iloadN X0.here hx rfl (hb hby d1_30) rfl ?_
            show Steps p.tables e below (s₁.setTop (mkF m 31 #[.val (.int q)] [(.int q)])) _
            refine XS.bipush X0.here hx rfl (hb hby d1_31) ?_
            show Steps p.tables e below (s₁.setTop (mkF m 33 #[.val (.int q)] [(.int (57 : Int32)), (.int q)])) _
            by_cases hc4 : (57 : Int32) < q
            · refine XS.icmpNo X0.here hx rfl (hb hby d1_33) rfl (tlt hc4).2.2.2 ?_
              exact absurd (show own_al q = (0 : Int32) from (if_pos hc1).trans ((if_pos hc2).trans ((if_neg hc3).trans ((if_pos hc4).trans rfl)))) (by rw [hal]; decide)
            · refine XS.icmpYes X0.here hx rfl (pc0 := 33) (pc' := 45) rfl (hb hby d1_33) rfl (flt hc4).2.2.2 (by decide) (by decide) ?_
              exact kt
        · refine XS.icmpNo X0.here hx rfl (hb hby d1_15) rfl (flt hc2).1 ?_
          show Steps p.tables e below (s₁.setTop (mkF m 18 #[.val (.int q)] [])) _
          refine XS.iloadN X0.here hx rfl (hb hby d1_18) rfl ?_
          show Steps p.tables e below (s₁.setTop (mkF m 19 #[.val (.int q)] [(.int q)])) _
          refine XS.bipush X0.here hx rfl (hb hby d1_19) ?_
          show Steps p.tables e below (s₁.setTop (mkF m 21 #[.val (.int q)] [(.int (90 : Int32)), (.int q)])) _
          by_cases hc5 : (90 : Int32) < q
          · refine XS.icmpNo X0.here hx rfl (hb hby d1_21) rfl (tlt hc5).2.2.2 ?_
            show Steps p.tables e below (s₁.setTop (mkF m 24 #[.val (.int q)] [])) _
            refine XS.iloadN X0.here hx rfl (hb hby d1_24) rfl ?_
            show Steps p.tables e below (s₁.setTop (mkF m 25 #[.val (.int q)] [(.int q)])) _
            refine XS.bipush X0.here hx rfl (hb hby d1_25) ?_
            show Steps p.tables e below (s₁.setTop (mkF m 27 #[.val (.int q)] [(.int (48 : Int32)), (.int q)])) _
            by_cases hc6 : q < (48 : Int32)
            · refine XS.icmpYes X0.here hx rfl (pc0 := 27) (pc' := 36) rfl (hb hby d1_27) rfl (tlt hc6).1 (by decide) (by decide) ?_
              exact absurd (show own_al q = (0 : Int32) from (if_pos hc1).trans ((if_neg hc2).trans ((if_pos hc5).trans ((if_pos hc6).trans rfl)))) (by rw [hal]; decide)
            · refine XS.icmpNo X0.here hx rfl (hb hby d1_27) rfl (flt hc6).1 ?_
              show Steps p.tables e below (s₁.setTop (mkF m 30 #[.val (.int q)] [])) _
              refine XS.iloadN X0.here hx rfl (hb hby d1_30) rfl ?_
              show Steps p.tables e below (s₁.setTop (mkF m 31 #[.val (.int q)] [(.int q)])) _
              refine XS.bipush X0.here hx rfl (hb hby d1_31) ?_
              show Steps p.tables e below (s₁.setTop (mkF m 33 #[.val (.int q)] [(.int (57 : Int32)), (.int q)])) _
              by_cases hc7 : (57 : Int32) < q
              · refine XS.icmpNo X0.here hx rfl (hb hby d1_33) rfl (tlt hc7).2.2.2 ?_
                exact absurd (show own_al q = (0 : Int32) from (if_pos hc1).trans ((if_neg hc2).trans ((if_pos hc5).trans ((if_neg hc6).trans ((if_pos hc7).trans rfl))))) (by rw [hal]; decide)
              · refine XS.icmpYes X0.here hx rfl (pc0 := 33) (pc' := 45) rfl (hb hby d1_33) rfl (flt hc7).2.2.2 (by decide) (by decide) ?_
                exact kt
          · refine XS.icmpYes X0.here hx rfl (pc0 := 21) (pc' := 45) rfl (hb hby d1_21) rfl (flt hc5).2.2.2 (by decide) (by decide) ?_
            exact kt
      · refine XS.icmpNo X0.here hx rfl (hb hby d1_3) rfl (flt hc1).1 ?_
        show Steps p.tables e below (s₁.setTop (mkF m 6 #[.val (.int q)] [])) _
        refine XS.iloadN X0.here hx rfl (hb hby d1_6) rfl ?_
        show Steps p.tables e below (s₁.setTop (mkF m 7 #[.val (.int q)] [(.int q)])) _
        refine XS.bipush X0.here hx rfl (hb hby d1_7) ?_
        show Steps p.tables e below (s₁.setTop (mkF m 9 #[.val (.int q)] [(.int (122 : Int32)), (.int q)])) _
        by_cases hc8 : (122 : Int32) < q
        · refine XS.icmpNo X0.here hx rfl (hb hby d1_9) rfl (tlt hc8).2.2.2 ?_
          show Steps p.tables e below (s₁.setTop (mkF m 12 #[.val (.int q)] [])) _
          refine XS.iloadN X0.here hx rfl (hb hby d1_12) rfl ?_
          show Steps p.tables e below (s₁.setTop (mkF m 13 #[.val (.int q)] [(.int q)])) _
          refine XS.bipush X0.here hx rfl (hb hby d1_13) ?_
          show Steps p.tables e below (s₁.setTop (mkF m 15 #[.val (.int q)] [(.int (65 : Int32)), (.int q)])) _
          by_cases hc9 : q < (65 : Int32)
          · refine XS.icmpYes X0.here hx rfl (pc0 := 15) (pc' := 24) rfl (hb hby d1_15) rfl (tlt hc9).1 (by decide) (by decide) ?_
            show Steps p.tables e below (s₁.setTop (mkF m 24 #[.val (.int q)] [])) _
            refine XS.iloadN X0.here hx rfl (hb hby d1_24) rfl ?_
            show Steps p.tables e below (s₁.setTop (mkF m 25 #[.val (.int q)] [(.int q)])) _
            refine XS.bipush X0.here hx rfl (hb hby d1_25) ?_
            show Steps p.tables e below (s₁.setTop (mkF m 27 #[.val (.int q)] [(.int (48 : Int32)), (.int q)])) _
            by_cases hc10 : q < (48 : Int32)
            · refine XS.icmpYes X0.here hx rfl (pc0 := 27) (pc' := 36) rfl (hb hby d1_27) rfl (tlt hc10).1 (by decide) (by decide) ?_
              exact absurd (show own_al q = (0 : Int32) from (if_neg hc1).trans ((if_pos hc8).trans ((if_pos hc9).trans ((if_pos hc10).trans rfl)))) (by rw [hal]; decide)
            · refine XS.icmpNo X0.here hx rfl (hb hby d1_27) rfl (flt hc10).1 ?_
              show Steps p.tables e below (s₁.setTop (mkF m 30 #[.val (.int q)] [])) _
              refine XS.iloadN X0.here hx rfl (hb hby d1_30) rfl ?_
              show Steps p.tables e below (s₁.setTop (mkF m 31 #[.val (.int q)] [(.int q)])) _
              refine XS.bipush X0.here hx rfl (hb hby d1_31) ?_
              show Steps p.tables e below (s₁.setTop (mkF m 33 #[.val (.int q)] [(.int (57 : Int32)), (.int q)])) _
              by_cases hc11 : (57 : Int32) < q
              · refine XS.icmpNo X0.here hx rfl (hb hby d1_33) rfl (tlt hc11).2.2.2 ?_
                exact absurd (show own_al q = (0 : Int32) from (if_neg hc1).trans ((if_pos hc8).trans ((if_pos hc9).trans ((if_neg hc10).trans ((if_pos hc11).trans rfl))))) (by rw [hal]; decide)
              · refine XS.icmpYes X0.here hx rfl (pc0 := 33) (pc' := 45) rfl (hb hby d1_33) rfl (flt hc11).2.2.2 (by decide) (by decide) ?_
                exact kt
          · refine XS.icmpNo X0.here hx rfl (hb hby d1_15) rfl (flt hc9).1 ?_
            show Steps p.tables e below (s₁.setTop (mkF m 18 #[.val (.int q)] [])) _
            refine XS.iloadN X0.here hx rfl (hb hby d1_18) rfl ?_
            show Steps p.tables e below (s₁.setTop (mkF m 19 #[.val (.int q)] [(.int q)])) _
            refine XS.bipush X0.here hx rfl (hb hby d1_19) ?_
            show Steps p.tables e below (s₁.setTop (mkF m 21 #[.val (.int q)] [(.int (90 : Int32)), (.int q)])) _
            by_cases hc12 : (90 : Int32) < q
            · refine XS.icmpNo X0.here hx rfl (hb hby d1_21) rfl (tlt hc12).2.2.2 ?_
              show Steps p.tables e below (s₁.setTop (mkF m 24 #[.val (.int q)] [])) _
              refine XS.iloadN X0.here hx rfl (hb hby d1_24) rfl ?_
              show Steps p.tables e below (s₁.setTop (mkF m 25 #[.val (.int q)] [(.int q)])) _
              refine XS.bipush X0.here hx rfl (hb hby d1_25) ?_
              show Steps p.tables e below (s₁.setTop (mkF m 27 #[.val (.int q)] [(.int (48 : Int32)), (.int q)])) _
              by_cases hc13 : q < (48 : Int32)
              · refine XS.icmpYes X0.here hx rfl (pc0 := 27) (pc' := 36) rfl (hb hby d1_27) rfl (tlt hc13).1 (by decide) (by decide) ?_
                exact absurd (show own_al q = (0 : Int32) from (if_neg hc1).trans ((if_pos hc8).trans ((if_neg hc9).trans ((if_pos hc12).trans ((if_pos hc13).trans rfl))))) (by rw [hal]; decide)
              · refine XS.icmpNo X0.here hx rfl (hb hby d1_27) rfl (flt hc13).1 ?_
                show Steps p.tables e below (s₁.setTop (mkF m 30 #[.val (.int q)] [])) _
                refine XS.iloadN X0.here hx rfl (hb hby d1_30) rfl ?_
                show Steps p.tables e below (s₁.setTop (mkF m 31 #[.val (.int q)] [(.int q)])) _
                refine XS.bipush X0.here hx rfl (hb hby d1_31) ?_
                show Steps p.tables e below (s₁.setTop (mkF m 33 #[.val (.int q)] [(.int (57 : Int32)), (.int q)])) _
                by_cases hc14 : (57 : Int32) < q
                · refine XS.icmpNo X0.here hx rfl (hb hby d1_33) rfl (tlt hc14).2.2.2 ?_
                  exact absurd (show own_al q = (0 : Int32) from (if_neg hc1).trans ((if_pos hc8).trans ((if_neg hc9).trans ((if_pos hc12).trans ((if_neg hc13).trans ((if_pos hc14).trans rfl)))))) (by rw [hal]; decide)
                · refine XS.icmpYes X0.here hx rfl (pc0 := 33) (pc' := 45) rfl (hb hby d1_33) rfl (flt hc14).2.2.2 (by decide) (by decide) ?_
                  exact kt
            · refine XS.icmpYes X0.here hx rfl (pc0 := 21) (pc' := 45) rfl (hb hby d1_21) rfl (flt hc12).2.2.2 (by decide) (by decide) ?_
              exact kt
        · refine XS.icmpYes X0.here hx rfl (pc0 := 9) (pc' := 45) rfl (hb hby d1_9) rfl (flt hc8).2.2.2 (by decide) (by decide) ?_
          exact kt
    have X0' : Stand p l e ({ frames := 4, cells := 2, slots := 64, locals := 68 } : Room) (s.setVm s.vm) m #[(.int q)] below meth c s₁ [] 0 0 := X0
    have hCH0 := CHv.at X0' hZ hEL hCH
    obtain ⟨fs, hr, hrun, hended, hRW⟩ := (X0'.mono (by decide : 0 ≤ 2) (by decide : 0 ≤ 64)).leaveW (v := some (.int (F1 q))) ((State.WarmedH.refl s).since s₁.heap.size) (Nat.le_refl _) (fun h => by rw [Bd.returns] at h; cases h)
    refine ⟨_, _, pre0 _ (sg _ ?_), hrun, hended, _, _, rfl, ?_, ?_, hRW⟩
    · show Steps p.tables e below (s₁.setTop (mkF m 45 #[.val (.int q)] [])) _
      refine XS.iconst X0.here hx rfl (hb hby d1_45) ?_
      show Steps p.tables e below (s₁.setTop (mkF m 46 #[.val (.int q)] [(.int (1 : Int32))])) _
      refine XS.goto X0.here hx rfl (pc0 := 46) (pc' := 50) rfl (hb hby d1_46) (by decide) (by decide) ?_
      show Steps p.tables e below (s₁.setTop (mkF m 50 #[.val (.int q)] [(.int (1 : Int32))])) _
      rw [show F1 q = (1 : Int32) from if_pos hal] at hr
      exact retN X0 hx (t := .boolean) Bd.returns (by simp) (hb hby d1_50) hr
    · show Q1 q h0 n0 _ s₁.heap _
      rw [e0]
      exact ⟨rfl, N0, Nat.le_refl _, fun _ _ z => z⟩
    · show CHr Z EL s.vm s.heap s₁.vm s₁.heap
      rw [hh, e0]
      exact hCH0
  · have sg : ∀ t, Steps p.tables e below (s₁.setTop (mkF m 36 #[.val (.int q)] [])) t → Steps p.tables e below (s₁.setTop (mkF m 0 #[.val (.int q)] [])) t := by
      intro t kt
      show Steps p.tables e below (s₁.setTop (mkF m 0 #[.val (.int q)] [])) _
      refine XS.iloadN X0.here hx rfl (hb hby d1_0) rfl ?_
      show Steps p.tables e below (s₁.setTop (mkF m 1 #[.val (.int q)] [(.int q)])) _
      refine XS.bipush X0.here hx rfl (hb hby d1_1) ?_
      show Steps p.tables e below (s₁.setTop (mkF m 3 #[.val (.int q)] [(.int (97 : Int32)), (.int q)])) _
      by_cases hc1 : q < (97 : Int32)
      · refine XS.icmpYes X0.here hx rfl (pc0 := 3) (pc' := 12) rfl (hb hby d1_3) rfl (tlt hc1).1 (by decide) (by decide) ?_
        show Steps p.tables e below (s₁.setTop (mkF m 12 #[.val (.int q)] [])) _
        refine XS.iloadN X0.here hx rfl (hb hby d1_12) rfl ?_
        show Steps p.tables e below (s₁.setTop (mkF m 13 #[.val (.int q)] [(.int q)])) _
        refine XS.bipush X0.here hx rfl (hb hby d1_13) ?_
        show Steps p.tables e below (s₁.setTop (mkF m 15 #[.val (.int q)] [(.int (65 : Int32)), (.int q)])) _
        by_cases hc2 : q < (65 : Int32)
        · refine XS.icmpYes X0.here hx rfl (pc0 := 15) (pc' := 24) rfl (hb hby d1_15) rfl (tlt hc2).1 (by decide) (by decide) ?_
          show Steps p.tables e below (s₁.setTop (mkF m 24 #[.val (.int q)] [])) _
          refine XS.iloadN X0.here hx rfl (hb hby d1_24) rfl ?_
          show Steps p.tables e below (s₁.setTop (mkF m 25 #[.val (.int q)] [(.int q)])) _
          refine XS.bipush X0.here hx rfl (hb hby d1_25) ?_
          show Steps p.tables e below (s₁.setTop (mkF m 27 #[.val (.int q)] [(.int (48 : Int32)), (.int q)])) _
          by_cases hc3 : q < (48 : Int32)
          · refine XS.icmpYes X0.here hx rfl (pc0 := 27) (pc' := 36) rfl (hb hby d1_27) rfl (tlt hc3).1 (by decide) (by decide) ?_
            exact kt
          · refine XS.icmpNo X0.here hx rfl (hb hby d1_27) rfl (flt hc3).1 ?_
            show Steps p.tables e below (s₁.setTop (mkF m 30 #[.val (.int q)] [])) _
            refine XS.iloadN X0.here hx rfl (hb hby d1_30) rfl ?_
            show Steps p.tables e below (s₁.setTop (mkF m 31 #[.val (.int q)] [(.int q)])) _
            refine XS.bipush X0.here hx rfl (hb hby d1_31) ?_
            show Steps p.tables e below (s₁.setTop (mkF m 33 #[.val (.int q)] [(.int (57 : Int32)), (.int q)])) _
            by_cases hc4 : (57 : Int32) < q
            · refine XS.icmpNo X0.here hx rfl (hb hby d1_33) rfl (tlt hc4).2.2.2 ?_
              exact kt
            · refine XS.icmpYes X0.here hx rfl (pc0 := 33) (pc' := 45) rfl (hb hby d1_33) rfl (flt hc4).2.2.2 (by decide) (by decide) ?_
              exact absurd (show own_al q = (1 : Int32) from (if_pos hc1).trans ((if_pos hc2).trans ((if_neg hc3).trans ((if_neg hc4).trans rfl)))) hal
        · refine XS.icmpNo X0.here hx rfl (hb hby d1_15) rfl (flt hc2).1 ?_
          show Steps p.tables e below (s₁.setTop (mkF m 18 #[.val (.int q)] [])) _
          refine XS.iloadN X0.here hx rfl (hb hby d1_18) rfl ?_
          show Steps p.tables e below (s₁.setTop (mkF m 19 #[.val (.int q)] [(.int q)])) _
          refine XS.bipush X0.here hx rfl (hb hby d1_19) ?_
          show Steps p.tables e below (s₁.setTop (mkF m 21 #[.val (.int q)] [(.int (90 : Int32)), (.int q)])) _
          by_cases hc5 : (90 : Int32) < q
          · refine XS.icmpNo X0.here hx rfl (hb hby d1_21) rfl (tlt hc5).2.2.2 ?_
            show Steps p.tables e below (s₁.setTop (mkF m 24 #[.val (.int q)] [])) _
            refine XS.iloadN X0.here hx rfl (hb hby d1_24) rfl ?_
            show Steps p.tables e below (s₁.setTop (mkF m 25 #[.val (.int q)] [(.int q)])) _
            refine XS.bipush X0.here hx rfl (hb hby d1_25) ?_
            show Steps p.tables e below (s₁.setTop (mkF m 27 #[.val (.int q)] [(.int (48 : Int32)), (.int q)])) _
            by_cases hc6 : q < (48 : Int32)
            · refine XS.icmpYes X0.here hx rfl (pc0 := 27) (pc' := 36) rfl (hb hby d1_27) rfl (tlt hc6).1 (by decide) (by decide) ?_
              exact kt
            · refine XS.icmpNo X0.here hx rfl (hb hby d1_27) rfl (flt hc6).1 ?_
              show Steps p.tables e below (s₁.setTop (mkF m 30 #[.val (.int q)] [])) _
              refine XS.iloadN X0.here hx rfl (hb hby d1_30) rfl ?_
              show Steps p.tables e below (s₁.setTop (mkF m 31 #[.val (.int q)] [(.int q)])) _
              refine XS.bipush X0.here hx rfl (hb hby d1_31) ?_
              show Steps p.tables e below (s₁.setTop (mkF m 33 #[.val (.int q)] [(.int (57 : Int32)), (.int q)])) _
              by_cases hc7 : (57 : Int32) < q
              · refine XS.icmpNo X0.here hx rfl (hb hby d1_33) rfl (tlt hc7).2.2.2 ?_
                exact kt
              · refine XS.icmpYes X0.here hx rfl (pc0 := 33) (pc' := 45) rfl (hb hby d1_33) rfl (flt hc7).2.2.2 (by decide) (by decide) ?_
                exact absurd (show own_al q = (1 : Int32) from (if_pos hc1).trans ((if_neg hc2).trans ((if_pos hc5).trans ((if_neg hc6).trans ((if_neg hc7).trans rfl))))) hal
          · refine XS.icmpYes X0.here hx rfl (pc0 := 21) (pc' := 45) rfl (hb hby d1_21) rfl (flt hc5).2.2.2 (by decide) (by decide) ?_
            exact absurd (show own_al q = (1 : Int32) from (if_pos hc1).trans ((if_neg hc2).trans ((if_neg hc5).trans rfl))) hal
      · refine XS.icmpNo X0.here hx rfl (hb hby d1_3) rfl (flt hc1).1 ?_
        show Steps p.tables e below (s₁.setTop (mkF m 6 #[.val (.int q)] [])) _
        refine XS.iloadN X0.here hx rfl (hb hby d1_6) rfl ?_
        show Steps p.tables e below (s₁.setTop (mkF m 7 #[.val (.int q)] [(.int q)])) _
        refine XS.bipush X0.here hx rfl (hb hby d1_7) ?_
        show Steps p.tables e below (s₁.setTop (mkF m 9 #[.val (.int q)] [(.int (122 : Int32)), (.int q)])) _
        by_cases hc8 : (122 : Int32) < q
        · refine XS.icmpNo X0.here hx rfl (hb hby d1_9) rfl (tlt hc8).2.2.2 ?_
          show Steps p.tables e below (s₁.setTop (mkF m 12 #[.val (.int q)] [])) _
          refine XS.iloadN X0.here hx rfl (hb hby d1_12) rfl ?_
          show Steps p.tables e below (s₁.setTop (mkF m 13 #[.val (.int q)] [(.int q)])) _
          refine XS.bipush X0.here hx rfl (hb hby d1_13) ?_
          show Steps p.tables e below (s₁.setTop (mkF m 15 #[.val (.int q)] [(.int (65 : Int32)), (.int q)])) _
          by_cases hc9 : q < (65 : Int32)
          · refine XS.icmpYes X0.here hx rfl (pc0 := 15) (pc' := 24) rfl (hb hby d1_15) rfl (tlt hc9).1 (by decide) (by decide) ?_
            show Steps p.tables e below (s₁.setTop (mkF m 24 #[.val (.int q)] [])) _
            refine XS.iloadN X0.here hx rfl (hb hby d1_24) rfl ?_
            show Steps p.tables e below (s₁.setTop (mkF m 25 #[.val (.int q)] [(.int q)])) _
            refine XS.bipush X0.here hx rfl (hb hby d1_25) ?_
            show Steps p.tables e below (s₁.setTop (mkF m 27 #[.val (.int q)] [(.int (48 : Int32)), (.int q)])) _
            by_cases hc10 : q < (48 : Int32)
            · refine XS.icmpYes X0.here hx rfl (pc0 := 27) (pc' := 36) rfl (hb hby d1_27) rfl (tlt hc10).1 (by decide) (by decide) ?_
              exact kt
            · refine XS.icmpNo X0.here hx rfl (hb hby d1_27) rfl (flt hc10).1 ?_
              show Steps p.tables e below (s₁.setTop (mkF m 30 #[.val (.int q)] [])) _
              refine XS.iloadN X0.here hx rfl (hb hby d1_30) rfl ?_
              show Steps p.tables e below (s₁.setTop (mkF m 31 #[.val (.int q)] [(.int q)])) _
              refine XS.bipush X0.here hx rfl (hb hby d1_31) ?_
              show Steps p.tables e below (s₁.setTop (mkF m 33 #[.val (.int q)] [(.int (57 : Int32)), (.int q)])) _
              by_cases hc11 : (57 : Int32) < q
              · refine XS.icmpNo X0.here hx rfl (hb hby d1_33) rfl (tlt hc11).2.2.2 ?_
                exact kt
              · refine XS.icmpYes X0.here hx rfl (pc0 := 33) (pc' := 45) rfl (hb hby d1_33) rfl (flt hc11).2.2.2 (by decide) (by decide) ?_
                exact absurd (show own_al q = (1 : Int32) from (if_neg hc1).trans ((if_pos hc8).trans ((if_pos hc9).trans ((if_neg hc10).trans ((if_neg hc11).trans rfl))))) hal
          · refine XS.icmpNo X0.here hx rfl (hb hby d1_15) rfl (flt hc9).1 ?_
            show Steps p.tables e below (s₁.setTop (mkF m 18 #[.val (.int q)] [])) _
            refine XS.iloadN X0.here hx rfl (hb hby d1_18) rfl ?_
            show Steps p.tables e below (s₁.setTop (mkF m 19 #[.val (.int q)] [(.int q)])) _
            refine XS.bipush X0.here hx rfl (hb hby d1_19) ?_
            show Steps p.tables e below (s₁.setTop (mkF m 21 #[.val (.int q)] [(.int (90 : Int32)), (.int q)])) _
            by_cases hc12 : (90 : Int32) < q
            · refine XS.icmpNo X0.here hx rfl (hb hby d1_21) rfl (tlt hc12).2.2.2 ?_
              show Steps p.tables e below (s₁.setTop (mkF m 24 #[.val (.int q)] [])) _
              refine XS.iloadN X0.here hx rfl (hb hby d1_24) rfl ?_
              show Steps p.tables e below (s₁.setTop (mkF m 25 #[.val (.int q)] [(.int q)])) _
              refine XS.bipush X0.here hx rfl (hb hby d1_25) ?_
              show Steps p.tables e below (s₁.setTop (mkF m 27 #[.val (.int q)] [(.int (48 : Int32)), (.int q)])) _
              by_cases hc13 : q < (48 : Int32)
              · refine XS.icmpYes X0.here hx rfl (pc0 := 27) (pc' := 36) rfl (hb hby d1_27) rfl (tlt hc13).1 (by decide) (by decide) ?_
                exact kt
              · refine XS.icmpNo X0.here hx rfl (hb hby d1_27) rfl (flt hc13).1 ?_
                show Steps p.tables e below (s₁.setTop (mkF m 30 #[.val (.int q)] [])) _
                refine XS.iloadN X0.here hx rfl (hb hby d1_30) rfl ?_
                show Steps p.tables e below (s₁.setTop (mkF m 31 #[.val (.int q)] [(.int q)])) _
                refine XS.bipush X0.here hx rfl (hb hby d1_31) ?_
                show Steps p.tables e below (s₁.setTop (mkF m 33 #[.val (.int q)] [(.int (57 : Int32)), (.int q)])) _
                by_cases hc14 : (57 : Int32) < q
                · refine XS.icmpNo X0.here hx rfl (hb hby d1_33) rfl (tlt hc14).2.2.2 ?_
                  exact kt
                · refine XS.icmpYes X0.here hx rfl (pc0 := 33) (pc' := 45) rfl (hb hby d1_33) rfl (flt hc14).2.2.2 (by decide) (by decide) ?_
                  exact absurd (show own_al q = (1 : Int32) from (if_neg hc1).trans ((if_pos hc8).trans ((if_neg hc9).trans ((if_pos hc12).trans ((if_neg hc13).trans ((if_neg hc14).trans rfl)))))) hal
            · refine XS.icmpYes X0.here hx rfl (pc0 := 21) (pc' := 45) rfl (hb hby d1_21) rfl (flt hc12).2.2.2 (by decide) (by decide) ?_
              exact absurd (show own_al q = (1 : Int32) from (if_neg hc1).trans ((if_pos hc8).trans ((if_neg hc9).trans ((if_neg hc12).trans rfl)))) hal
        · refine XS.icmpYes X0.here hx rfl (pc0 := 9) (pc' := 45) rfl (hb hby d1_9) rfl (flt hc8).2.2.2 (by decide) (by decide) ?_
          exact absurd (show own_al q = (1 : Int32) from (if_neg hc1).trans ((if_neg hc8).trans rfl)) hal
    have X0' : Stand p l e ({ frames := 4, cells := 2, slots := 64, locals := 68 } : Room) (s.setVm s.vm) m #[(.int q)] below meth c s₁ [] 0 0 := X0
    have hSA : ∀ d ∈ Bundle.stringAtoms, d.before a0 Z = true := by
      intro d hd
      simp only [Bundle.stringAtoms, List.mem_cons, List.not_mem_nil, or_false] at hd
      rcases hd with rfl | rfl | rfl | rfl | rfl | rfl | rfl
      · exact (hw _ (List.mem_of_getElem? (i := 5) rfl))
      · exact (hw _ (List.mem_of_getElem? (i := 6) rfl))
      · exact (hw _ (List.mem_of_getElem? (i := 7) rfl))
      · exact (hw _ (List.mem_of_getElem? (i := 8) rfl))
      · exact (hw _ (List.mem_of_getElem? (i := 9) rfl))
      · exact (hw _ (List.mem_of_getElem? (i := 10) rfl))
      · exact (hw _ (List.mem_of_getElem? (i := 11) rfl))
    obtain ⟨a, T1, h1, k1, b, kB, X1, e1, E1, hS1, hk1, hZ1, hown1, G1a, G1c, G1v, G1b, -, -, hC1, -, -, st1⟩ := ldcCH X0' hx hZ hown (hw _ (List.mem_of_getElem? (i := 4) rfl)) hSA e0 ((State.WarmedH.refl s).since s₁.heap.size) (Nat.le_of_eq (by rw [e0])) hEL hmem hCH (vs := own_bytes) (z := 15) ⟨by decide, by rfl⟩ (by decide) (by decide) (g := (mkF m 36 #[.val (.int q)] [])) rfl (hb hby d1_36) (n := 60) (by decide) (by decide) (by decide) (by decide)
    have S : OwnStr Z h1 a b kB := ⟨G1a, G1c, G1v, G1b⟩
    have X01 : Old Z n0 h1 := X00.ext E1
    have Z1 : n0 ≤ h1.size := Nat.le_trans Z0 E1.1
    obtain ⟨cq2, kq2, qa2, qb2, qc2⟩ := isOf hZ1 e1 S.1
    obtain ⟨_, _, ⟨T2, L2, k2, n2⟩, -, X2, ⟨Lc2, hQ2, l2, y2, z2⟩, st2⟩ := X1.virtualBack hx (y := (⟨"java/lang/String", "indexOf", "(I)I"⟩ : MethodName)) (z := (⟨"java/lang/String", "indexOf", "(I)I"⟩ : MethodName)) hown1 (mvT hZ1 (hw _ (List.mem_of_getElem? (i := 12) rfl))) (mvT hZ1 (hw _ (List.mem_of_getElem? (i := 13) rfl))) (notFace_of_selects (args := #[]) (mvT hZ1 (hw _ (List.mem_of_getElem? (i := 15) rfl)))) (mvT hZ1 (hw _ (List.mem_of_getElem? (i := 15) rfl))) (mvT hZ1 (hw _ (List.mem_of_getElem? (i := 14) rfl))) (by decide) (backOf (W := 0) (rm2 l Z a0 hw [] a q b kB G1 h1 n0 Z1 S O2 X01 P5) hZ1 (hw _ (List.mem_of_getElem? (i := 16) rfl)) (hw _ (List.mem_of_getElem? (i := 5) rfl)) (by decide) (by decide)) qa2 qc2 (g := (mkF m 39 #[.val (.int q)] [(.int q), (.ref a)])) rfl (by rw [hml]; rfl) (Steps.refl _) (argsL := [(.int q)]) (rest := []) (lenOf pd_1 rfl) rfl (by show 2 * 0 + _ ≤ _; exact Nat.le_of_eq rfl) (hb hby d1_39) (fun _ _ => ⟨rfl, e1, (by decide : 2 + 0 ≤ _), (by decide : 64 + 0 ≤ _)⟩)
    dsimp only [Pt.U, Pt.locs, Pt.cells, Pt.slots] at X2 l2 y2 z2 st2 hQ2
    subst l2 y2 z2
    obtain ⟨rfl, N2q, e2⟩ := hQ2
    have N2 := Fr.app N0 N2q
    have hC2 := hC1.trans (CHv.at X2 hZ1 hEL hC1.1)
    obtain ⟨fs, hr, hrun, hended, hRW⟩ := X2.leaveW (v := some (.int (F1 q))) hS1 (by rw [e2]; exact hk1) (fun h => by rw [Bd.returns] at h; cases h)
    refine ⟨_, _, pre0 _ (sg _ ?_), hrun, hended, _, _, rfl, ?_, ?_, hRW⟩
    · show Steps p.tables e below (s₁.setTop (mkF m 36 #[.val (.int q)] [])) _
      refine st1 _ ?_
      show Steps p.tables e below (T1.setTop (mkF m 38 #[.val (.int q)] [(.ref a)])) _
      refine XS.iloadN X1.here hx rfl (hb hby d1_38) rfl ?_
      show Steps p.tables e below (T1.setTop (mkF m 39 #[.val (.int q)] [(.int q), (.ref a)])) _
      refine st2.trans ?_
      show Steps p.tables e below (T2.setTop (mkF m 42 #[.val (.int q)] [(.int (F7 q))])) _
      by_cases hc1 : (F7 q) < (0 : Int32)
      · refine XS.ifYes X2.here hx rfl (pc0 := 42) (pc' := 49) rfl (hb hby d1_42) rfl ((if0 _ _).trans (tlt hc1).1) (by decide) (by decide) ?_
        show Steps p.tables e below (T2.setTop (mkF m 49 #[.val (.int q)] [])) _
        refine XS.iconst X2.here hx rfl (hb hby d1_49) ?_
        show Steps p.tables e below (T2.setTop (mkF m 50 #[.val (.int q)] [(.int (0 : Int32))])) _
        rw [show F1 q = (0 : Int32) from (if_neg hal).trans ((if_pos hc1).trans rfl)] at hr
        exact retN X2 hx (t := .boolean) Bd.returns (by simp) (hb hby d1_50) hr
      · refine XS.ifNo X2.here hx rfl (hb hby d1_42) rfl ((if0 _ _).trans (flt hc1).1) ?_
        show Steps p.tables e below (T2.setTop (mkF m 45 #[.val (.int q)] [])) _
        refine XS.iconst X2.here hx rfl (hb hby d1_45) ?_
        show Steps p.tables e below (T2.setTop (mkF m 46 #[.val (.int q)] [(.int (1 : Int32))])) _
        refine XS.goto X2.here hx rfl (pc0 := 46) (pc' := 50) rfl (hb hby d1_46) (by decide) (by decide) ?_
        show Steps p.tables e below (T2.setTop (mkF m 50 #[.val (.int q)] [(.int (1 : Int32))])) _
        rw [show F1 q = (1 : Int32) from (if_neg hal).trans ((if_neg hc1).trans rfl)] at hr
        exact retN X2 hx (t := .boolean) Bd.returns (by simp) (hb hby d1_50) hr
    · show Q1 q h0 n0 _ T2.heap _
      rw [e2]
      exact ⟨rfl, N2, E1⟩
    · show CHr Z EL s.vm s.heap T2.vm T2.heap
      rw [hh, e2]
      exact hC2
theorem own_small : ∀ k : Fin 256, F1 (Int32.ofInt (k.val : Int)) = F12 (Int32.ofInt (k.val : Int)) := by decide +kernel
theorem own_eq (q : Int32) : F1 q = F12 q := by
  have c32 : (32 : Int32).toInt = 32 := by decide
  have c127 : (127 : Int32).toInt = 127 := by decide
  have c0 : (0 : Int32).toInt = 0 := by decide
  have c255 : (255 : Int32).toInt = 255 := by decide
  have c97 : (97 : Int32).toInt = 97 := by decide
  have c122 : (122 : Int32).toInt = 122 := by decide
  have c65 : (65 : Int32).toInt = 65 := by decide
  have c90 : (90 : Int32).toInt = 90 := by decide
  have c48 : (48 : Int32).toInt = 48 := by decide
  have c57 : (57 : Int32).toInt = 57 := by decide
  by_cases hr : 0 ≤ q.toInt ∧ q.toInt ≤ 255
  · have e : q = Int32.ofInt ((q.toInt.toNat : Nat) : Int) := by
      rw [Int.toNat_of_nonneg hr.1, Int32.ofInt_toInt]
    rw [e]
    exact own_small ⟨q.toInt.toNat, by omega⟩
  · have hal : ¬ own_al q = 1 := by
      have : own_al q = 0 := by
        unfold own_al
        simp only [Int32.lt_iff_toInt_lt, c97, c122, c65, c90, c48, c57]
        repeat' split
        all_goals first | rfl | omega
      rw [this]; decide
    have hcan : F8 q = 0 := by
      unfold F8
      simp only [Int32.lt_iff_toInt_lt, c0, c255]
      repeat' split
      all_goals first | rfl | omega
    have hx : F12 q = 0 := by
      unfold F12
      simp only [Int32.lt_iff_toInt_lt, c32, c127]
      repeat' split
      all_goals first | rfl | omega
    unfold F1 F7
    rw [if_neg hal, if_pos hcan, hx]
    decide
theorem pn_0 : plainName "com/example/evconv/evconv/format/http/HttpFieldsIsTokenCharPinLaw" = true := by first | (simp [plainName, overriddenIn]; done) | decide +kernel
theorem pf_0 : plainFor x = true := plainFor_of_name pn_0
theorem ef_0 (m : MethodId) (x0 : Int32) (x1 : Int32) : entryFrame m #[(.int x0), (.int x1)] maxLocals = mkF m 0 #[.val (.int x0), .val (.int x1), .unset, .unset, .unset, .unset] [] := by first | (simp [entryFrame, mkF, argsToLocals, Value.category, maxLocals]; done) | rfl
def Q0 (h0 : Heap) (n0 : Nat) (v : Option Value) (h : Heap) (L : List Loc) : Prop := v = some (.int 1) ∧ Fr n0 L
set_option maxRecDepth 65536 in
set_option maxHeartbeats 40000000 in
theorem rm0 (l : Launch) (Z : State) (a0 : Array Value) (hw : ∀ d ∈ tables_1, d.before a0 Z = true) (ws : List Jvm.Cond) (p1 p2 : Int32) (G1 : Int32) (EL : List (String × Nat)) (h0 : Heap) (n0 : Nat) (Z0 : n0 ≤ h0.size) (O2 : Sta Z Z.heap "java/lang/String" "COMPACT_STRINGS" "Z" (.int G1)) (X00 : Old Z n0 h0) (P5 : ¬ (G1 = (0 : Int32))) (hEL : EW Z a0 EL) (hmem : ("com/example/evconv/evconv/format/http/HttpFields", 23) ∈ EL) :
    MetFree l x (head1 (Jvm.Cond.code x code maxLocals ret :: ws) room_1) (fun aA uU => aA = #[(.int p1), (.int p2)] ∧ Z.Warmed39 uU.vm ∧ uU.heap = h0 ∧ CHv Z EL uU.vm h0) (fun _ _ _ _ _ => True) (fun _ uU oO uV => ∃ vV lL, oO = .returned vV ∧ Q0 h0 n0 vV uV.heap lL ∧ ReturnedEndW uU oO uV lL 4 128) := by
  refine MetFree.of_bodySF pf_0 hisR ?_
  intro p e s m args below meth c s₁ Bd hml0 hP hK
  obtain ⟨rfl, hZ, hh, hCH⟩ := hP
  have hx := Bd.exec
  have hby := Bd.bytes
  have hml : c.maxLocals = 6 := hml0
  have hown : s.vm.findClass "com/example/evconv/evconv/format/http/HttpFieldsIsTokenCharPinLaw" = some m.cls := findClass_of_methodNamed Bd.named
  have hnm := (name_of_methodNamed Bd.named Bd.method).1
  have X0 : Stand p l e room_1 s m #[(.int p1), (.int p2)] below meth c s₁ [] 0 0 := Stand.of_body Bd
  have e0 : s₁.heap = h0 := by rw [← hh, Bd.state]; rfl
  have N0 := Fr.nil n0
  have pre0 : ∀ t, Steps p.tables e below (s₁.setTop (mkF m 0 #[.val (.int p1), .val (.int p2), .unset, .unset, .unset, .unset] [])) t → Steps p.tables e below (s₁.setTop (entryFrame m #[(.int p1), (.int p2)] maxLocals)) t := fun t k => castTop (ef_0 m p1 p2) k
  have X0' : Stand p l e room_1 (s.setVm s.vm) m #[(.int p1), (.int p2)] below meth c s₁ [] 0 0 := X0
  obtain ⟨_, _, ⟨T1, L1, k1, n1⟩, -, Xq1, S1', g1, ⟨Lc1, hQ1, l1, y1, z1, hC1⟩, st1⟩ := callSS X0' hx (y := (⟨"com/example/evconv/evconv/format/http/HttpFields", "isTokenChar", "(C)Z"⟩ : MethodName)) hown (mvT hZ (hw _ (List.mem_of_getElem? (i := 0) rfl))) (mvT hZ (hw _ (List.mem_of_getElem? (i := 1) rfl))) (mvT hZ (hw _ (List.mem_of_getElem? (i := 2) rfl))) (mvT hZ (hw _ (List.mem_of_getElem? (i := 3) rfl))) (by decide) (backOfSH (W := 0) (EL := EL) (rm1 l Z a0 hw [] (p1.toUInt32.toUInt16.toUInt32.toInt32) G1 EL h0 n0 Z0 O2 X00 P5 hEL hmem) hZ (hw _ (List.mem_of_getElem? (i := 3) rfl)) (hw _ (List.mem_of_getElem? (i := 2) rfl)) (by decide) (by decide) hEL hCH) (g := (mkF m 10 #[.val (.int p1), .val (.int p2), .val (.int (p1.toUInt32.toUInt16.toUInt32.toInt32)), .val (.int ((p2 &&& (127 : Int32)).toUInt32.toUInt16.toUInt32.toInt32)), .unset, .unset] [(.int (p1.toUInt32.toUInt16.toUInt32.toInt32))])) rfl (by rw [hml]; rfl) (argsL := [(.int (p1.toUInt32.toUInt16.toUInt32.toInt32))]) (rest := []) (lenOf pd_8 rfl) rfl (by show 2 * 0 + _ ≤ _; exact Nat.le_of_eq rfl) (hb hby at_10) (fun _ _ => ⟨rfl, e0, (by decide : 0 + 2 ≤ _), (by decide : 0 + 64 ≤ _)⟩)
  dsimp only [Pt.U, Pt.locs, Pt.cells, Pt.slots] at Xq1 S1' g1 l1 y1 z1 hC1 st1 hQ1
  subst l1 y1 z1
  have X1 : Stand p l e room_1 (s.setVm T1.vm) m #[(.int p1), (.int p2)] below meth c T1 _ _ _ := Xq1
  obtain ⟨rfl, N1q, E1⟩ := hQ1
  have N1 := Fr.app N0 N1q
  have S1 : s.Since T1.vm T1.heap.size := S1'
  have hZ1 : Z.Warmed39 T1.vm := State.Warmed39.trans (t := s) hZ S1.1
  have own1 : T1.vm.findClass "com/example/evconv/evconv/format/http/HttpFieldsIsTokenCharPinLaw" = some m.cls := by rw [S1.1.alike.findClass]; exact hown
  have Old1 : Old Z n0 T1.heap := X00.ext E1
  have Z1 : n0 ≤ T1.heap.size := Nat.le_trans Z0 E1.1
  obtain ⟨_, _, ⟨T2, L2, k2, n2⟩, -, X2, ⟨Lc2, hQ2, l2, y2, z2⟩, st2⟩ := Jvm.LawKit.callS X1 hx (y := (⟨"com/example/evconv/evconv/format/http/HttpFieldsIsTokenCharPinLaw", "expected", "(C)Z"⟩ : MethodName)) own1 (mvT hZ1 (hw _ (List.mem_of_getElem? (i := 57) rfl))) (mvT hZ1 (hw _ (List.mem_of_getElem? (i := 58) rfl))) (mvT hZ1 (hw _ (List.mem_of_getElem? (i := 59) rfl))) (mvT hZ1 (hw _ (List.mem_of_getElem? (i := 60) rfl))) (by decide) (backOf (W := 1) (rm12 l Z a0 hw [] (p1.toUInt32.toUInt16.toUInt32.toInt32) T1.heap n0 Z1) hZ1 (hw _ (List.mem_of_getElem? (i := 60) rfl)) (hw _ (List.mem_of_getElem? (i := 59) rfl)) (by decide) (by decide)) (g := (mkF m 14 #[.val (.int p1), .val (.int p2), .val (.int (p1.toUInt32.toUInt16.toUInt32.toInt32)), .val (.int ((p2 &&& (127 : Int32)).toUInt32.toUInt16.toUInt32.toInt32)), .unset, .unset] [(.int (p1.toUInt32.toUInt16.toUInt32.toInt32)), (.int (F1 (p1.toUInt32.toUInt16.toUInt32.toInt32)))])) rfl (by rw [hml]; rfl) (argsL := [(.int (p1.toUInt32.toUInt16.toUInt32.toInt32))]) (rest := [(.int (F1 (p1.toUInt32.toUInt16.toUInt32.toInt32)))]) (lenOf pd_8 rfl) rfl (by show 2 * 0 + _ ≤ _; exact Nat.le_of_eq rfl) (hb hby at_14) (fun _ _ => ⟨rfl, rfl, (by decide : 2 + 0 ≤ _), (by decide : 64 + 0 ≤ _)⟩)
  dsimp only [Pt.U, Pt.locs, Pt.cells, Pt.slots] at X2 l2 y2 z2 st2 hQ2
  subst l2 y2 z2
  obtain ⟨rfl, N2q, e2⟩ := hQ2
  have N2 := Fr.app N1 N2q
  obtain ⟨_, _, ⟨T3, L3, k3, n3⟩, -, Xq3, S3', g3, ⟨Lc3, hQ3, l3, y3, z3, hC3⟩, st3⟩ := callSS X2 hx (y := (⟨"com/example/evconv/evconv/format/http/HttpFields", "isTokenChar", "(C)Z"⟩ : MethodName)) own1 (mvT hZ1 (hw _ (List.mem_of_getElem? (i := 0) rfl))) (mvT hZ1 (hw _ (List.mem_of_getElem? (i := 1) rfl))) (mvT hZ1 (hw _ (List.mem_of_getElem? (i := 2) rfl))) (mvT hZ1 (hw _ (List.mem_of_getElem? (i := 3) rfl))) (by decide) (backOfSH (W := 0) (EL := EL) (rm1 l Z a0 hw [] ((p2 &&& (127 : Int32)).toUInt32.toUInt16.toUInt32.toInt32) G1 EL T1.heap n0 Z1 O2 Old1 P5 hEL hmem) hZ1 (hw _ (List.mem_of_getElem? (i := 3) rfl)) (hw _ (List.mem_of_getElem? (i := 2) rfl)) (by decide) (by decide) hEL hC1.1) (g := (mkF m 28 #[.val (.int p1), .val (.int p2), .val (.int (p1.toUInt32.toUInt16.toUInt32.toInt32)), .val (.int ((p2 &&& (127 : Int32)).toUInt32.toUInt16.toUInt32.toInt32)), .val (.int (1 : Int32)), .unset] [(.int ((p2 &&& (127 : Int32)).toUInt32.toUInt16.toUInt32.toInt32))])) rfl (by rw [hml]; rfl) (argsL := [(.int ((p2 &&& (127 : Int32)).toUInt32.toUInt16.toUInt32.toInt32))]) (rest := []) (lenOf pd_8 rfl) rfl (by show 2 * 0 + _ ≤ _; exact Nat.le_of_eq rfl) (hb hby at_28) (fun _ _ => ⟨rfl, e2, (by decide : 2 + 2 ≤ _), (by decide : 64 + 64 ≤ _)⟩)
  dsimp only [Pt.U, Pt.locs, Pt.cells, Pt.slots] at Xq3 S3' g3 l3 y3 z3 hC3 st3 hQ3
  subst l3 y3 z3
  have X3 : Stand p l e room_1 (s.setVm T3.vm) m #[(.int p1), (.int p2)] below meth c T3 _ _ _ := Xq3
  obtain ⟨rfl, N3q, E3⟩ := hQ3
  have N3 := Fr.app N2 N3q
  have S3 : s.Since T3.vm T3.heap.size := S1.trans S3' (Nat.le_trans (Nat.le_of_eq (by rw [e2])) g3)
  have hZ3 : Z.Warmed39 T3.vm := State.Warmed39.trans (t := s) hZ S3.1
  have own3 : T3.vm.findClass "com/example/evconv/evconv/format/http/HttpFieldsIsTokenCharPinLaw" = some m.cls := by rw [S3.1.alike.findClass]; exact hown
  have Old3 : Old Z n0 T3.heap := Old1.ext E3
  have Z3 : n0 ≤ T3.heap.size := Nat.le_trans Z1 E3.1
  obtain ⟨_, _, ⟨T4, L4, k4, n4⟩, -, X4, ⟨Lc4, hQ4, l4, y4, z4⟩, st4⟩ := Jvm.LawKit.callS X3 hx (y := (⟨"com/example/evconv/evconv/format/http/HttpFieldsIsTokenCharPinLaw", "expected", "(C)Z"⟩ : MethodName)) own3 (mvT hZ3 (hw _ (List.mem_of_getElem? (i := 57) rfl))) (mvT hZ3 (hw _ (List.mem_of_getElem? (i := 58) rfl))) (mvT hZ3 (hw _ (List.mem_of_getElem? (i := 59) rfl))) (mvT hZ3 (hw _ (List.mem_of_getElem? (i := 60) rfl))) (by decide) (backOf (W := 1) (rm12 l Z a0 hw [] ((p2 &&& (127 : Int32)).toUInt32.toUInt16.toUInt32.toInt32) T3.heap n0 Z3) hZ3 (hw _ (List.mem_of_getElem? (i := 60) rfl)) (hw _ (List.mem_of_getElem? (i := 59) rfl)) (by decide) (by decide)) (g := (mkF m 32 #[.val (.int p1), .val (.int p2), .val (.int (p1.toUInt32.toUInt16.toUInt32.toInt32)), .val (.int ((p2 &&& (127 : Int32)).toUInt32.toUInt16.toUInt32.toInt32)), .val (.int (1 : Int32)), .unset] [(.int ((p2 &&& (127 : Int32)).toUInt32.toUInt16.toUInt32.toInt32)), (.int (F1 ((p2 &&& (127 : Int32)).toUInt32.toUInt16.toUInt32.toInt32)))])) rfl (by rw [hml]; rfl) (argsL := [(.int ((p2 &&& (127 : Int32)).toUInt32.toUInt16.toUInt32.toInt32))]) (rest := [(.int (F1 ((p2 &&& (127 : Int32)).toUInt32.toUInt16.toUInt32.toInt32)))]) (lenOf pd_8 rfl) rfl (by show 2 * 0 + _ ≤ _; exact Nat.le_of_eq rfl) (hb hby at_32) (fun _ _ => ⟨rfl, rfl, (by decide : 4 + 0 ≤ _), (by decide : 128 + 0 ≤ _)⟩)
  dsimp only [Pt.U, Pt.locs, Pt.cells, Pt.slots] at X4 l4 y4 z4 st4 hQ4
  subst l4 y4 z4
  obtain ⟨rfl, N4q, e4⟩ := hQ4
  have N4 := Fr.app N3 N4q
  obtain ⟨fs, hr, hrun, hended, hRW⟩ := X4.leaveW (v := some (.int (1 : Int32))) S3 (Nat.le_of_eq (by rw [e4])) (fun h => by rw [Bd.returns] at h; cases h)
  refine ⟨_, _, pre0 _ ?_, hrun, hended, _, _, rfl, ?_, hRW⟩
  · show Steps p.tables e below (s₁.setTop (mkF m 0 #[.val (.int p1), .val (.int p2), .unset, .unset, .unset, .unset] [])) _
    refine XS.iloadN X0'.here hx rfl (hb hby at_0) rfl ?_
    show Steps p.tables e below (s₁.setTop (mkF m 1 #[.val (.int p1), .val (.int p2), .unset, .unset, .unset, .unset] [(.int p1)])) _
    refine XS.i2c X0'.here hx rfl (hb hby at_1) rfl ?_
    show Steps p.tables e below (s₁.setTop (mkF m 2 #[.val (.int p1), .val (.int p2), .unset, .unset, .unset, .unset] [(.int (p1.toUInt32.toUInt16.toUInt32.toInt32))])) _
    refine XS.istoreN X0'.here hx rfl (hb hby at_2) rfl (l' := #[.val (.int p1), .val (.int p2), .val (.int (p1.toUInt32.toUInt16.toUInt32.toInt32)), .unset, .unset, .unset]) rfl ?_
    show Steps p.tables e below (s₁.setTop (mkF m 3 #[.val (.int p1), .val (.int p2), .val (.int (p1.toUInt32.toUInt16.toUInt32.toInt32)), .unset, .unset, .unset] [])) _
    refine XS.iloadN X0'.here hx rfl (hb hby at_3) rfl ?_
    show Steps p.tables e below (s₁.setTop (mkF m 4 #[.val (.int p1), .val (.int p2), .val (.int (p1.toUInt32.toUInt16.toUInt32.toInt32)), .unset, .unset, .unset] [(.int p2)])) _
    refine XS.bipush X0'.here hx rfl (hb hby at_4) ?_
    show Steps p.tables e below (s₁.setTop (mkF m 6 #[.val (.int p1), .val (.int p2), .val (.int (p1.toUInt32.toUInt16.toUInt32.toInt32)), .unset, .unset, .unset] [(.int (127 : Int32)), (.int p2)])) _
    refine XS.iand X0'.here hx rfl (hb hby at_6) rfl ?_
    show Steps p.tables e below (s₁.setTop (mkF m 7 #[.val (.int p1), .val (.int p2), .val (.int (p1.toUInt32.toUInt16.toUInt32.toInt32)), .unset, .unset, .unset] [(.int (p2 &&& (127 : Int32)))])) _
    refine XS.i2c X0'.here hx rfl (hb hby at_7) rfl ?_
    show Steps p.tables e below (s₁.setTop (mkF m 8 #[.val (.int p1), .val (.int p2), .val (.int (p1.toUInt32.toUInt16.toUInt32.toInt32)), .unset, .unset, .unset] [(.int ((p2 &&& (127 : Int32)).toUInt32.toUInt16.toUInt32.toInt32))])) _
    refine XS.istoreN X0'.here hx rfl (hb hby at_8) rfl (l' := #[.val (.int p1), .val (.int p2), .val (.int (p1.toUInt32.toUInt16.toUInt32.toInt32)), .val (.int ((p2 &&& (127 : Int32)).toUInt32.toUInt16.toUInt32.toInt32)), .unset, .unset]) rfl ?_
    show Steps p.tables e below (s₁.setTop (mkF m 9 #[.val (.int p1), .val (.int p2), .val (.int (p1.toUInt32.toUInt16.toUInt32.toInt32)), .val (.int ((p2 &&& (127 : Int32)).toUInt32.toUInt16.toUInt32.toInt32)), .unset, .unset] [])) _
    refine XS.iloadN X0'.here hx rfl (hb hby at_9) rfl ?_
    show Steps p.tables e below (s₁.setTop (mkF m 10 #[.val (.int p1), .val (.int p2), .val (.int (p1.toUInt32.toUInt16.toUInt32.toInt32)), .val (.int ((p2 &&& (127 : Int32)).toUInt32.toUInt16.toUInt32.toInt32)), .unset, .unset] [(.int (p1.toUInt32.toUInt16.toUInt32.toInt32))])) _
    refine st1.trans ?_
    show Steps p.tables e below (T1.setTop (mkF m 13 #[.val (.int p1), .val (.int p2), .val (.int (p1.toUInt32.toUInt16.toUInt32.toInt32)), .val (.int ((p2 &&& (127 : Int32)).toUInt32.toUInt16.toUInt32.toInt32)), .unset, .unset] [(.int (F1 (p1.toUInt32.toUInt16.toUInt32.toInt32)))])) _
    refine XS.iloadN X1.here hx rfl (hb hby at_13) rfl ?_
    show Steps p.tables e below (T1.setTop (mkF m 14 #[.val (.int p1), .val (.int p2), .val (.int (p1.toUInt32.toUInt16.toUInt32.toInt32)), .val (.int ((p2 &&& (127 : Int32)).toUInt32.toUInt16.toUInt32.toInt32)), .unset, .unset] [(.int (p1.toUInt32.toUInt16.toUInt32.toInt32)), (.int (F1 (p1.toUInt32.toUInt16.toUInt32.toInt32)))])) _
    refine st2 _ ?_
    show Steps p.tables e below (T2.setTop (mkF m 17 #[.val (.int p1), .val (.int p2), .val (.int (p1.toUInt32.toUInt16.toUInt32.toInt32)), .val (.int ((p2 &&& (127 : Int32)).toUInt32.toUInt16.toUInt32.toInt32)), .unset, .unset] [(.int (F12 (p1.toUInt32.toUInt16.toUInt32.toInt32))), (.int (F1 (p1.toUInt32.toUInt16.toUInt32.toInt32)))])) _
    refine XS.icmpNo X2.here hx rfl (hb hby at_17) rfl (teq (own_eq _ : (F1 (p1.toUInt32.toUInt16.toUInt32.toInt32)) = (F12 (p1.toUInt32.toUInt16.toUInt32.toInt32)))).2 ?_
    show Steps p.tables e below (T2.setTop (mkF m 20 #[.val (.int p1), .val (.int p2), .val (.int (p1.toUInt32.toUInt16.toUInt32.toInt32)), .val (.int ((p2 &&& (127 : Int32)).toUInt32.toUInt16.toUInt32.toInt32)), .unset, .unset] [])) _
    refine XS.iconst X2.here hx rfl (hb hby at_20) ?_
    show Steps p.tables e below (T2.setTop (mkF m 21 #[.val (.int p1), .val (.int p2), .val (.int (p1.toUInt32.toUInt16.toUInt32.toInt32)), .val (.int ((p2 &&& (127 : Int32)).toUInt32.toUInt16.toUInt32.toInt32)), .unset, .unset] [(.int (1 : Int32))])) _
    refine XS.goto X2.here hx rfl (pc0 := 21) (pc' := 25) rfl (hb hby at_21) (by decide) (by decide) ?_
    show Steps p.tables e below (T2.setTop (mkF m 25 #[.val (.int p1), .val (.int p2), .val (.int (p1.toUInt32.toUInt16.toUInt32.toInt32)), .val (.int ((p2 &&& (127 : Int32)).toUInt32.toUInt16.toUInt32.toInt32)), .unset, .unset] [(.int (1 : Int32))])) _
    refine XS.istore X2.here hx rfl (hb hby at_25) rfl (l' := #[.val (.int p1), .val (.int p2), .val (.int (p1.toUInt32.toUInt16.toUInt32.toInt32)), .val (.int ((p2 &&& (127 : Int32)).toUInt32.toUInt16.toUInt32.toInt32)), .val (.int (1 : Int32)), .unset]) rfl ?_
    show Steps p.tables e below (T2.setTop (mkF m 27 #[.val (.int p1), .val (.int p2), .val (.int (p1.toUInt32.toUInt16.toUInt32.toInt32)), .val (.int ((p2 &&& (127 : Int32)).toUInt32.toUInt16.toUInt32.toInt32)), .val (.int (1 : Int32)), .unset] [])) _
    refine XS.iloadN X2.here hx rfl (hb hby at_27) rfl ?_
    show Steps p.tables e below (T2.setTop (mkF m 28 #[.val (.int p1), .val (.int p2), .val (.int (p1.toUInt32.toUInt16.toUInt32.toInt32)), .val (.int ((p2 &&& (127 : Int32)).toUInt32.toUInt16.toUInt32.toInt32)), .val (.int (1 : Int32)), .unset] [(.int ((p2 &&& (127 : Int32)).toUInt32.toUInt16.toUInt32.toInt32))])) _
    refine st3.trans ?_
    show Steps p.tables e below (T3.setTop (mkF m 31 #[.val (.int p1), .val (.int p2), .val (.int (p1.toUInt32.toUInt16.toUInt32.toInt32)), .val (.int ((p2 &&& (127 : Int32)).toUInt32.toUInt16.toUInt32.toInt32)), .val (.int (1 : Int32)), .unset] [(.int (F1 ((p2 &&& (127 : Int32)).toUInt32.toUInt16.toUInt32.toInt32)))])) _
    refine XS.iloadN X3.here hx rfl (hb hby at_31) rfl ?_
    show Steps p.tables e below (T3.setTop (mkF m 32 #[.val (.int p1), .val (.int p2), .val (.int (p1.toUInt32.toUInt16.toUInt32.toInt32)), .val (.int ((p2 &&& (127 : Int32)).toUInt32.toUInt16.toUInt32.toInt32)), .val (.int (1 : Int32)), .unset] [(.int ((p2 &&& (127 : Int32)).toUInt32.toUInt16.toUInt32.toInt32)), (.int (F1 ((p2 &&& (127 : Int32)).toUInt32.toUInt16.toUInt32.toInt32)))])) _
    refine st4 _ ?_
    show Steps p.tables e below (T4.setTop (mkF m 35 #[.val (.int p1), .val (.int p2), .val (.int (p1.toUInt32.toUInt16.toUInt32.toInt32)), .val (.int ((p2 &&& (127 : Int32)).toUInt32.toUInt16.toUInt32.toInt32)), .val (.int (1 : Int32)), .unset] [(.int (F12 ((p2 &&& (127 : Int32)).toUInt32.toUInt16.toUInt32.toInt32))), (.int (F1 ((p2 &&& (127 : Int32)).toUInt32.toUInt16.toUInt32.toInt32)))])) _
    refine XS.icmpNo X4.here hx rfl (hb hby at_35) rfl (teq (own_eq _ : (F1 ((p2 &&& (127 : Int32)).toUInt32.toUInt16.toUInt32.toInt32)) = (F12 ((p2 &&& (127 : Int32)).toUInt32.toUInt16.toUInt32.toInt32)))).2 ?_
    show Steps p.tables e below (T4.setTop (mkF m 38 #[.val (.int p1), .val (.int p2), .val (.int (p1.toUInt32.toUInt16.toUInt32.toInt32)), .val (.int ((p2 &&& (127 : Int32)).toUInt32.toUInt16.toUInt32.toInt32)), .val (.int (1 : Int32)), .unset] [])) _
    refine XS.iconst X4.here hx rfl (hb hby at_38) ?_
    show Steps p.tables e below (T4.setTop (mkF m 39 #[.val (.int p1), .val (.int p2), .val (.int (p1.toUInt32.toUInt16.toUInt32.toInt32)), .val (.int ((p2 &&& (127 : Int32)).toUInt32.toUInt16.toUInt32.toInt32)), .val (.int (1 : Int32)), .unset] [(.int (1 : Int32))])) _
    refine XS.goto X4.here hx rfl (pc0 := 39) (pc' := 43) rfl (hb hby at_39) (by decide) (by decide) ?_
    show Steps p.tables e below (T4.setTop (mkF m 43 #[.val (.int p1), .val (.int p2), .val (.int (p1.toUInt32.toUInt16.toUInt32.toInt32)), .val (.int ((p2 &&& (127 : Int32)).toUInt32.toUInt16.toUInt32.toInt32)), .val (.int (1 : Int32)), .unset] [(.int (1 : Int32))])) _
    refine XS.istore X4.here hx rfl (hb hby at_43) rfl (l' := #[.val (.int p1), .val (.int p2), .val (.int (p1.toUInt32.toUInt16.toUInt32.toInt32)), .val (.int ((p2 &&& (127 : Int32)).toUInt32.toUInt16.toUInt32.toInt32)), .val (.int (1 : Int32)), .val (.int (1 : Int32))]) rfl ?_
    show Steps p.tables e below (T4.setTop (mkF m 45 #[.val (.int p1), .val (.int p2), .val (.int (p1.toUInt32.toUInt16.toUInt32.toInt32)), .val (.int ((p2 &&& (127 : Int32)).toUInt32.toUInt16.toUInt32.toInt32)), .val (.int (1 : Int32)), .val (.int (1 : Int32))] [])) _
    refine XS.iload X4.here hx rfl (hb hby at_45) rfl ?_
    show Steps p.tables e below (T4.setTop (mkF m 47 #[.val (.int p1), .val (.int p2), .val (.int (p1.toUInt32.toUInt16.toUInt32.toInt32)), .val (.int ((p2 &&& (127 : Int32)).toUInt32.toUInt16.toUInt32.toInt32)), .val (.int (1 : Int32)), .val (.int (1 : Int32))] [(.int (1 : Int32))])) _
    refine XS.ifNo X4.here hx rfl (hb hby at_47) rfl ((if0 _ _).trans (feq (by decide : ¬ ((1 : Int32) = (0 : Int32)))).1) ?_
    show Steps p.tables e below (T4.setTop (mkF m 50 #[.val (.int p1), .val (.int p2), .val (.int (p1.toUInt32.toUInt16.toUInt32.toInt32)), .val (.int ((p2 &&& (127 : Int32)).toUInt32.toUInt16.toUInt32.toInt32)), .val (.int (1 : Int32)), .val (.int (1 : Int32))] [])) _
    refine XS.iload X4.here hx rfl (hb hby at_50) rfl ?_
    show Steps p.tables e below (T4.setTop (mkF m 52 #[.val (.int p1), .val (.int p2), .val (.int (p1.toUInt32.toUInt16.toUInt32.toInt32)), .val (.int ((p2 &&& (127 : Int32)).toUInt32.toUInt16.toUInt32.toInt32)), .val (.int (1 : Int32)), .val (.int (1 : Int32))] [(.int (1 : Int32))])) _
    refine XS.ifNo X4.here hx rfl (hb hby at_52) rfl ((if0 _ _).trans (feq (by decide : ¬ ((1 : Int32) = (0 : Int32)))).1) ?_
    show Steps p.tables e below (T4.setTop (mkF m 55 #[.val (.int p1), .val (.int p2), .val (.int (p1.toUInt32.toUInt16.toUInt32.toInt32)), .val (.int ((p2 &&& (127 : Int32)).toUInt32.toUInt16.toUInt32.toInt32)), .val (.int (1 : Int32)), .val (.int (1 : Int32))] [])) _
    refine XS.iconst X4.here hx rfl (hb hby at_55) ?_
    show Steps p.tables e below (T4.setTop (mkF m 56 #[.val (.int p1), .val (.int p2), .val (.int (p1.toUInt32.toUInt16.toUInt32.toInt32)), .val (.int ((p2 &&& (127 : Int32)).toUInt32.toUInt16.toUInt32.toInt32)), .val (.int (1 : Int32)), .val (.int (1 : Int32))] [(.int (1 : Int32))])) _
    refine XS.goto X4.here hx rfl (pc0 := 56) (pc' := 60) rfl (hb hby at_56) (by decide) (by decide) ?_
    show Steps p.tables e below (T4.setTop (mkF m 60 #[.val (.int p1), .val (.int p2), .val (.int (p1.toUInt32.toUInt16.toUInt32.toInt32)), .val (.int ((p2 &&& (127 : Int32)).toUInt32.toUInt16.toUInt32.toInt32)), .val (.int (1 : Int32)), .val (.int (1 : Int32))] [(.int (1 : Int32))])) _
    exact retN X4 hx (t := .boolean) Bd.returns (by simp) (hb hby at_60) hr
  · exact ⟨rfl, N4⟩
set_option maxRecDepth 65536 in
set_option maxHeartbeats 40000000 in
theorem comes_1 {Post : Tables → Env → Array Value → State → Outcome → State → Prop} (hpost : ∀ tb e args s v u, (limb_1_1.after args s (.returned v) u = true ∧ limb_1_2.after args s (.returned v) u = true ∧ True) → FramedW s (.returned v) u (Jvm.fieldLocs frame_1_writes args s ++ Jvm.arrayLocs frame_1_arrays args s ++ Jvm.staticLocs frame_1_statics s) 8 1088 → Post tb e args s (.returned v) u) :
    ArmFor flags0 classFile x code maxLocals ret World_1 tables_1 room_1 Calls_1 rest_1 Pre_1 Post := by
  intro l hfl _ _ p e ha hc hk s m args below hf hA hF happ hP
  obtain ⟨hcalls, hrest, hpre⟩ := hP
  obtain ⟨-, -, -, hnamed, -, -, -, hat⟩ := (Spec.applies_iff hf).mp happ
  obtain ⟨hg, hn⟩ := and_e (Cond.before_iff.mp (show (Jvm.Cond.and given_1 narrow_1).before args s = true from hpre))
  obtain ⟨g1, c0⟩ := and_e hg
  obtain ⟨b0, c1⟩ := and_e c0
  obtain ⟨w0, w1, rfl⟩ : ∃ w0 w1 : Value, args = #[w0, w1] := by
    have hs : args.size = 2 := by simpa [Cond.value, given_1] using g1
    obtain ⟨L⟩ := args
    match L, hs with
    | [w0, w1], _ => exact ⟨w0, w1, rfl⟩
  have hw := fun d (hd : d ∈ tables_1) => atoms_spec (ws := Jvm.Cond.code x code maxLocals ret :: tables_1) hat d (List.mem_cons_of_mem _ hd)
  obtain ⟨hsets, hown0⟩ := atoms_of _ (rest_1_c_eq ▸ (show rest_1_c.before _ s = true from hrest))
  have hCS := hsets _ (List.mem_of_getElem? (i := 2) rfl)
  have n5 := not_v (Cond.before_iff.mp hCS)
  obtain ⟨i11, e10⟩ := is_v (Cond.before_iff.mp (hsets _ (List.mem_of_getElem? (i := 1) rfl)))
  have S12 : Sta s s.heap "java/lang/String" "COMPACT_STRINGS" "Z" (.int i11) := Sta.start e10 (Or.inl (hsets _ (List.mem_of_getElem? (i := 0) rfl)))
  have c17 : ¬ (i11 = (0 : Int32)) := gotF (Cond.eq_ints e10 (Term.int_eval (0))) n5
  have hE : EW s _ consts_1 := EW.cons (hw _ (List.mem_of_getElem? (i := 4) rfl)) (by decide) EW.nil
  have hHeld : ∀ p ∈ consts_1, Jvm.Lit.constHeld s p.1 p.2 := hcalls.1
  have hCH : CHv s consts_1 s.vm s.heap := CHv.start hE hHeld hCS (hw _ (List.mem_of_getElem? (i := 7) rfl)) (hw _ (List.mem_of_getElem? (i := 6) rfl))
  obtain ⟨i0, ee0⟩ := is_v b0
  obtain rfl : w0 = (.int i0) := Option.some.inj ee0
  obtain ⟨i1, ee1⟩ := is_v c1
  obtain rfl : w1 = (.int i1) := Option.some.inj ee1
  obtain ⟨n, o, h1, h2, h3, _, L, rfl, ⟨rfl, N⟩, hq⟩ := rm0 l s _ hw tables_1 i0 i1 i11 consts_1 s.heap s.heap.size (Nat.le_refl _) S12 (Old.start s) c17 hE (by decide) p e ha hc hk s m _ below hf ((Spec.applies_iff_loose hf).mp happ).1 ⟨rfl, State.Warmed39.refl s, rfl, hCH⟩ trivial
  refine ⟨n, _, h1, h2, h3, hpost _ _ _ _ _ _ ⟨Cond.after_iff.mpr rfl, Cond.after_iff.mpr (eq_i res_at (Term.int_eval (1)) rfl), trivial⟩ ⟨hq.1, hq.2.1, hq.2.2.1, (hq.2.2.2.sift fun y hy => Or.inr (N y hy)).mono (by decide) (by decide)⟩⟩
theorem main_1_1 : Claimed_1_1 := comes_1 fun _ _ _ _ _ _ h hF => ⟨h.1, hF⟩
theorem main_1_2 : Claimed_1_2 := comes_1 fun _ _ _ _ _ _ h hF => ⟨h.2.1, hF⟩
end Jvm.Pilot.@@N@@
namespace Jvm.Pilot.@@N@@
open Jvm Jvm.ClassFile Sem Op Lib Jvm.Free Jvm.Stand Jvm.Pilot.@@N@@.Jvm.D
/-! MADE BY PROGRAM (witnessworld.py) out of the Statement's table words and the real class files: 18 classes; the members and pool entries that the words name. The judged class is class 1, her method 3. -/
namespace start1
open Jvm.ClassFile
def u (s : String) : CpInfo := .utf8 (stringToUtf16 s)
/-- a pool by its gaps: so many unusable entries, then the entry; so many at the end -/
def gap : Nat → List CpInfo → List CpInfo
  | 0, r => r
  | n + 1, r => .unusable :: gap n r
def poolList (es : List (Nat × CpInfo)) (last : Nat) : List CpInfo := es.foldr (fun e r => gap e.1 (e.2 :: r)) (gap last [])
def pool (es : List (Nat × CpInfo)) (last : Nat) : Array CpInfo := ⟨poolList es last⟩
def fileOf (pool : Array CpInfo) (this : Nat) (attrs : Array Attribute := #[]) (ms : Array MethodInfo := #[]) (fl : Nat := 33) (sup : Nat := 0) (ifs : Array Nat := #[]) (fds : Array FieldInfo := #[]) : ClassFile where
  minorVersion := 0
  majorVersion := 65
  constantPool := pool
  accessFlags := fl
  thisClass := this
  superClass := sup
  interfaces := ifs
  fields := fds
  methods := ms
  attributes := attrs
def plain (name : String) (sup : Option ClassId) : Class where
  name := name
  kind := .ordinary
  loader := none
  accessFlags := 33
  super := sup
  interfaces := #[]
  cf := none
  fields := #[]
  methods := #[]
  instanceTypes := #[]
  staticTypes := #[]
  resolved := #[]
  callSites := []
  init := .initialized
  statics := none
  mirror := none

def pool0 : Array CpInfo := pool [(5, u "<init>"), (0, u "()V"), (1, .class_ 10), (1, u "java/lang/Object")] 113

def k0m0 : Method := { name := "<init>", desc := "()V", sig := { parameters := [], returnType := none }, accessFlags := 1, code := none }
/-- java/lang/Object -/
def k0 : Class := { plain "java/lang/Object" none with
  accessFlags := 33
  interfaces := #[]
  cf := some (fileOf pool0 8 #[] #[{ accessFlags := 1, nameIndex := 5, descriptorIndex := 6, attributes := #[] }] 33 0 #[] #[])
  fields := #[]
  methods := #[k0m0]
  instanceTypes := #[]
  staticTypes := #[]
  resolved := Array.replicate 124 none
  statics := none }

def pool1 : Array CpInfo := pool [(2, .class_ 4), (1, u "java/lang/Object"), (0, u "<init>"), (0, u "()V"), (0, .methodref 8 9), (0, .class_ 10), (0, .nameAndType 11 12), (0, u "com/example/evconv/evconv/format/http/HttpFieldsIsTokenCharPinLaw"), (0, u "isDelimiter"), (0, u "(C)Z"), (0, .methodref 14 15), (0, .class_ 16), (0, .nameAndType 17 12), (0, u "com/example/evconv/evconv/format/http/HttpFields"), (0, u "isTokenChar"), (0, .methodref 8 19), (0, .nameAndType 20 12), (0, u "expected"), (3, u "law"), (0, u "(II)Z")] 2

def k1m0 : Method := { name := "<init>", desc := "()V", sig := { parameters := [], returnType := none }, accessFlags := 2, code := none }
def k1c1 : Code := { maxStack := 2, maxLocals := 1, code := method_2_code, exceptionTable := #[], attributes := #[] }
def k1m1 : Method := { name := "isDelimiter", desc := "(C)Z", sig := { parameters := [.char], returnType := some .boolean }, accessFlags := 10, code := some k1c1 }
def k1c2 : Code := { maxStack := 2, maxLocals := 1, code := method_3_code, exceptionTable := #[], attributes := #[] }
def k1m2 : Method := { name := "expected", desc := "(C)Z", sig := { parameters := [.char], returnType := some .boolean }, accessFlags := 10, code := some k1c2 }
def k1c3 : Code := { maxStack := 2, maxLocals := 6, code := code, exceptionTable := #[], attributes := #[] }
def k1m3 : Method := { name := "law", desc := "(II)Z", sig := { parameters := [.int, .int], returnType := some .boolean }, accessFlags := 9, code := some k1c3 }
/-- com/example/evconv/evconv/format/http/HttpFieldsIsTokenCharPinLaw -/
def k1 : Class := { plain "com/example/evconv/evconv/format/http/HttpFieldsIsTokenCharPinLaw" (some 0) with
  accessFlags := 49
  interfaces := #[]
  cf := some (fileOf pool1 8 #[] #[{ accessFlags := 2, nameIndex := 5, descriptorIndex := 6, attributes := #[] }, { accessFlags := 10, nameIndex := 11, descriptorIndex := 12, attributes := #[] }, { accessFlags := 10, nameIndex := 20, descriptorIndex := 12, attributes := #[] }, { accessFlags := 9, nameIndex := 24, descriptorIndex := 25, attributes := #[] }] 49 2 #[] #[])
  fields := #[]
  methods := #[k1m0, k1m1, k1m2, k1m3]
  instanceTypes := #[]
  staticTypes := #[]
  resolved := Array.replicate 28 none
  statics := none }

def pool2 : Array CpInfo := pool [(2, .class_ 4), (1, u "java/lang/Object"), (0, u "<init>"), (0, u "()V"), (5, .class_ 14), (1, u "java/lang/String"), (2, .class_ 18), (0, u "com/example/evconv/evconv/format/http/HttpFields"), (4, .string 24), (0, u "!#$%&'*+-.^_`|~"), (0, .methodref 12 26), (0, .nameAndType 27 28), (0, u "indexOf"), (0, u "(I)I"), (14, u "isTokenChar"), (0, u "(C)Z"), (130, u "HEADER_PREFIX"), (0, u "Ljava/lang/String;"), (3, u "CONTENT_TYPE"), (2, u "CONTENT_LENGTH"), (2, u "TOKEN_SYMBOLS"), (0, u "LINE_END"), (0, u "NAME_END")] 41

def k2m0 : Method := { name := "<init>", desc := "()V", sig := { parameters := [], returnType := none }, accessFlags := 2, code := none }
def k2c1 : Code := { maxStack := 2, maxLocals := 1, code := prog_26_method_4_code, exceptionTable := #[], attributes := #[] }
def k2m1 : Method := { name := "isTokenChar", desc := "(C)Z", sig := { parameters := [.char], returnType := some .boolean }, accessFlags := 8, code := some k2c1 }
/-- com/example/evconv/evconv/format/http/HttpFields -/
def k2 : Class := { plain "com/example/evconv/evconv/format/http/HttpFields" (some 0) with
  accessFlags := 32
  interfaces := #[]
  cf := some (fileOf pool2 17 #[] #[{ accessFlags := 2, nameIndex := 5, descriptorIndex := 6, attributes := #[] }, { accessFlags := 8, nameIndex := 43, descriptorIndex := 44, attributes := #[] }] 32 2 #[] #[{ accessFlags := 24, nameIndex := 175, descriptorIndex := 176, attributes := #[] }, { accessFlags := 24, nameIndex := 180, descriptorIndex := 176, attributes := #[] }, { accessFlags := 24, nameIndex := 183, descriptorIndex := 176, attributes := #[] }, { accessFlags := 24, nameIndex := 186, descriptorIndex := 176, attributes := #[] }, { accessFlags := 24, nameIndex := 187, descriptorIndex := 176, attributes := #[] }, { accessFlags := 26, nameIndex := 188, descriptorIndex := 176, attributes := #[] }])
  fields := #[{ name := "HEADER_PREFIX", type := (.object "java/lang/String"), accessFlags := 24, slot := 0, constantValue := 0 }, { name := "CONTENT_TYPE", type := (.object "java/lang/String"), accessFlags := 24, slot := 1, constantValue := 0 }, { name := "CONTENT_LENGTH", type := (.object "java/lang/String"), accessFlags := 24, slot := 2, constantValue := 0 }, { name := "TOKEN_SYMBOLS", type := (.object "java/lang/String"), accessFlags := 24, slot := 3, constantValue := 0 }, { name := "LINE_END", type := (.object "java/lang/String"), accessFlags := 24, slot := 4, constantValue := 0 }, { name := "NAME_END", type := (.object "java/lang/String"), accessFlags := 26, slot := 5, constantValue := 0 }]
  methods := #[k2m0, k2m1]
  instanceTypes := #[]
  staticTypes := #[(.object "java/lang/String"), (.object "java/lang/String"), (.object "java/lang/String"), (.object "java/lang/String"), (.object "java/lang/String"), (.object "java/lang/String")]
  resolved := Array.replicate 230 none
  statics := none }

def pool3 : Array CpInfo := pool [(1, .class_ 2), (0, u "java/io/Serializable"), (0, .class_ 4), (0, u "java/lang/Object")] 2

/-- java/io/Serializable -/
def k3 : Class := { plain "java/io/Serializable" (some 0) with
  accessFlags := 1537
  interfaces := #[]
  cf := some (fileOf pool3 1 #[] #[] 1537 3 #[] #[])
  fields := #[]
  methods := #[]
  instanceTypes := #[]
  staticTypes := #[]
  resolved := Array.replicate 7 none
  statics := none }

def pool4 : Array CpInfo := pool [(1, .class_ 2), (0, u "java/lang/Comparable"), (0, .class_ 4), (0, u "java/lang/Object")] 7

/-- java/lang/Comparable -/
def k4 : Class := { plain "java/lang/Comparable" (some 0) with
  accessFlags := 1537
  interfaces := #[]
  cf := some (fileOf pool4 1 #[] #[] 1537 3 #[] #[])
  fields := #[]
  methods := #[]
  instanceTypes := #[]
  staticTypes := #[]
  resolved := Array.replicate 12 none
  statics := none }

def pool5 : Array CpInfo := pool [(2, .class_ 4), (1, u "java/lang/CharSequence"), (42, .class_ 48), (0, u "java/lang/CharSequence$1CodePointIterator"), (10, .class_ 60), (0, u "java/lang/CharSequence$1CharIterator"), (5, .class_ 67), (0, u "java/lang/Object")] 63

/-- java/lang/CharSequence -/
def k5 : Class := { plain "java/lang/CharSequence" (some 0) with
  accessFlags := 1537
  interfaces := #[]
  cf := some (fileOf pool5 2 #[.nestMembers #[47, 59]] #[] 1537 66 #[] #[])
  fields := #[]
  methods := #[]
  instanceTypes := #[]
  staticTypes := #[]
  resolved := Array.replicate 131 none
  statics := none }

def pool6 : Array CpInfo := pool [(1, .class_ 2), (0, u "java/lang/constant/Constable"), (0, .class_ 4), (0, u "java/lang/Object")] 6

/-- java/lang/constant/Constable -/
def k6 : Class := { plain "java/lang/constant/Constable" (some 0) with
  accessFlags := 1537
  interfaces := #[]
  cf := some (fileOf pool6 1 #[] #[] 1537 3 #[] #[])
  fields := #[]
  methods := #[]
  instanceTypes := #[]
  staticTypes := #[]
  resolved := Array.replicate 11 none
  statics := none }

def pool7 : Array CpInfo := pool [(1, .class_ 2), (0, u "java/lang/constant/ConstantDesc"), (0, .class_ 4), (0, u "java/lang/Object")] 32

/-- java/lang/constant/ConstantDesc -/
def k7 : Class := { plain "java/lang/constant/ConstantDesc" (some 0) with
  accessFlags := 1537
  interfaces := #[]
  cf := some (fileOf pool7 1 #[] #[] 1537 3 #[] #[])
  fields := #[]
  methods := #[]
  instanceTypes := #[]
  staticTypes := #[]
  resolved := Array.replicate 37 none
  statics := none }

def pool8 : Array CpInfo := pool [(2, .class_ 4), (1, u "java/lang/Object"), (0, u "<init>"), (0, u "()V"), (2, .fieldref 10 11), (0, .class_ 12), (0, .nameAndType 13 14), (0, u "java/lang/String"), (0, u "value"), (0, u "[B"), (0, .fieldref 10 16), (0, .nameAndType 17 18), (0, u "coder"), (0, u "B"), (2, u "hash"), (0, u "I"), (2, u "hashIsZero"), (0, u "Z"), (11, .fieldref 10 39), (0, .nameAndType 40 26), (0, u "COMPACT_STRINGS"), (66, .class_ 109), (1, u "java/lang/StringLatin1"), (32, u "()Z"), (191, u "()I"), (0, .methodref 10 336), (0, .nameAndType 17 337), (0, u "()B"), (154, .methodref 10 493), (0, .nameAndType 494 142), (0, u "isLatin1"), (10, .methodref 10 506), (0, .nameAndType 507 334), (0, u "length"), (67, .class_ 576), (0, u "java/lang/CharSequence"), (22, u "CASE_INSENSITIVE_ORDER"), (0, u "Ljava/util/Comparator;"), (32, .methodref 10 634), (0, .nameAndType 635 636), (0, u "indexOf"), (0, u "(II)I"), (0, .methodref 107 638), (0, .nameAndType 635 639), (0, u "([BIII)I"), (125, u "(I)I"), (335, u "serialPersistentFields"), (0, u "[Ljava/io/ObjectStreamField;"), (0, .class_ 1104), (0, u "java/lang/String$CaseInsensitiveComparator"), (1, .class_ 1107), (0, u "java/io/Serializable"), (0, .class_ 1109), (0, u "java/lang/Comparable"), (0, .class_ 1111), (0, u "java/lang/constant/Constable"), (0, .class_ 1113), (0, u "java/lang/constant/ConstantDesc"), (2, u "serialVersionUID"), (0, u "J"), (3, u "REPL"), (0, u "C"), (2, u "LATIN1"), (1, u "UTF16")] 323

def k8m0 : Method := { name := "<init>", desc := "()V", sig := { parameters := [], returnType := none }, accessFlags := 1, code := none }
def k8c1 : Code := { maxStack := 2, maxLocals := 1, code := jdk_42_method_54_code, exceptionTable := #[], attributes := #[] }
def k8m1 : Method := { name := "length", desc := "()I", sig := { parameters := [], returnType := some .int }, accessFlags := 1, code := some k8c1 }
def k8c2 : Code := { maxStack := 3, maxLocals := 2, code := jdk_42_method_79_code, exceptionTable := #[], attributes := #[] }
def k8m2 : Method := { name := "indexOf", desc := "(I)I", sig := { parameters := [.int], returnType := some .int }, accessFlags := 1, code := some k8c2 }
def k8c3 : Code := { maxStack := 4, maxLocals := 3, code := jdk_42_method_80_code, exceptionTable := #[], attributes := #[] }
def k8m3 : Method := { name := "indexOf", desc := "(II)I", sig := { parameters := [.int, .int], returnType := some .int }, accessFlags := 1, code := some k8c3 }
def k8c4 : Code := { maxStack := 1, maxLocals := 1, code := jdk_42_method_152_code, exceptionTable := #[], attributes := #[] }
def k8m4 : Method := { name := "coder", desc := "()B", sig := { parameters := [], returnType := some .byte }, accessFlags := 0, code := some k8c4 }
def k8c5 : Code := { maxStack := 1, maxLocals := 1, code := jdk_42_method_154_code, exceptionTable := #[], attributes := #[] }
def k8m5 : Method := { name := "isLatin1", desc := "()Z", sig := { parameters := [], returnType := some .boolean }, accessFlags := 0, code := some k8c5 }
/-- java/lang/String -/
def k8 : Class := { plain "java/lang/String" (some 0) with
  accessFlags := 49
  interfaces := #[3, 4, 5, 6, 7]
  cf := some (fileOf pool8 10 #[.nestMembers #[1103]] #[{ accessFlags := 1, nameIndex := 5, descriptorIndex := 6, attributes := #[] }, { accessFlags := 1, nameIndex := 507, descriptorIndex := 334, attributes := #[] }, { accessFlags := 1, nameIndex := 635, descriptorIndex := 765, attributes := #[] }, { accessFlags := 1, nameIndex := 635, descriptorIndex := 636, attributes := #[] }, { accessFlags := 0, nameIndex := 17, descriptorIndex := 337, attributes := #[] }, { accessFlags := 0, nameIndex := 494, descriptorIndex := 142, attributes := #[] }] 49 2 #[1106, 1108, 575, 1110, 1112] #[{ accessFlags := 18, nameIndex := 13, descriptorIndex := 14, attributes := #[] }, { accessFlags := 18, nameIndex := 17, descriptorIndex := 18, attributes := #[] }, { accessFlags := 2, nameIndex := 21, descriptorIndex := 22, attributes := #[] }, { accessFlags := 2, nameIndex := 25, descriptorIndex := 26, attributes := #[] }, { accessFlags := 26, nameIndex := 1116, descriptorIndex := 1117, attributes := #[] }, { accessFlags := 24, nameIndex := 40, descriptorIndex := 26, attributes := #[] }, { accessFlags := 26, nameIndex := 1101, descriptorIndex := 1102, attributes := #[] }, { accessFlags := 26, nameIndex := 1121, descriptorIndex := 1122, attributes := #[] }, { accessFlags := 25, nameIndex := 599, descriptorIndex := 600, attributes := #[] }, { accessFlags := 24, nameIndex := 1125, descriptorIndex := 18, attributes := #[] }, { accessFlags := 24, nameIndex := 1127, descriptorIndex := 18, attributes := #[] }])
  fields := #[{ name := "value", type := (.array .byte), accessFlags := 18, slot := 0, constantValue := 0 }, { name := "coder", type := .byte, accessFlags := 18, slot := 1, constantValue := 0 }, { name := "hash", type := .int, accessFlags := 2, slot := 2, constantValue := 0 }, { name := "hashIsZero", type := .boolean, accessFlags := 2, slot := 3, constantValue := 0 }, { name := "serialVersionUID", type := .long, accessFlags := 26, slot := 0, constantValue := 0 }, { name := "COMPACT_STRINGS", type := .boolean, accessFlags := 24, slot := 1, constantValue := 0 }, { name := "serialPersistentFields", type := (.array (.object "java/io/ObjectStreamField")), accessFlags := 26, slot := 2, constantValue := 0 }, { name := "REPL", type := .char, accessFlags := 26, slot := 3, constantValue := 0 }, { name := "CASE_INSENSITIVE_ORDER", type := (.object "java/util/Comparator"), accessFlags := 25, slot := 4, constantValue := 0 }, { name := "LATIN1", type := .byte, accessFlags := 24, slot := 5, constantValue := 0 }, { name := "UTF16", type := .byte, accessFlags := 24, slot := 6, constantValue := 0 }]
  methods := #[k8m0, k8m1, k8m2, k8m3, k8m4, k8m5]
  instanceTypes := #[(.array .byte), .byte, .int, .boolean]
  staticTypes := #[.long, .boolean, (.array (.object "java/io/ObjectStreamField")), .char, (.object "java/util/Comparator"), .byte, .byte]
  resolved := Array.replicate 1451 none
  statics := some 0 }

def pool9 : Array CpInfo := pool [(4, .class_ 6), (1, u "java/lang/Object"), (0, u "<init>"), (0, u "()V"), (5, .class_ 16), (1, u "java/lang/StringLatin1"), (21, .methodref 39 40), (0, .class_ 41), (0, .nameAndType 42 43), (0, u "java/lang/Math"), (0, u "min"), (0, u "(II)I"), (44, .methodref 14 89), (0, .nameAndType 90 91), (0, u "canEncode"), (0, u "(I)Z"), (0, .methodref 39 93), (0, .nameAndType 94 43), (0, u "max"), (0, .methodref 14 96), (0, .nameAndType 97 98), (0, u "indexOfChar"), (0, u "([BIII)I"), (2, u "indexOf"), (19, u "$assertionsDisabled"), (0, u "Z"), (98, .class_ 223), (1, u "java/lang/StringLatin1$LinesSpliterator"), (166, .class_ 391), (0, u "java/lang/StringLatin1$CharsSpliterator")] 3

def k9m0 : Method := { name := "<init>", desc := "()V", sig := { parameters := [], returnType := none }, accessFlags := 0, code := none }
def k9c1 : Code := { maxStack := 2, maxLocals := 1, code := jdk_43_method_4_code, exceptionTable := #[], attributes := #[] }
def k9m1 : Method := { name := "canEncode", desc := "(I)Z", sig := { parameters := [.int], returnType := some .boolean }, accessFlags := 9, code := some k9c1 }
def k9c2 : Code := { maxStack := 4, maxLocals := 4, code := jdk_43_method_22_code, exceptionTable := #[], attributes := #[] }
def k9m2 : Method := { name := "indexOf", desc := "([BIII)I", sig := { parameters := [(.array .byte), .int, .int, .int], returnType := some .int }, accessFlags := 9, code := some k9c2 }
def k9c3 : Code := { maxStack := 2, maxLocals := 6, code := jdk_43_method_23_code, exceptionTable := #[], attributes := #[] }
def k9m3 : Method := { name := "indexOfChar", desc := "([BIII)I", sig := { parameters := [(.array .byte), .int, .int, .int], returnType := some .int }, accessFlags := 10, code := some k9c3 }
/-- java/lang/StringLatin1 -/
def k9 : Class := { plain "java/lang/StringLatin1" (some 0) with
  accessFlags := 48
  interfaces := #[]
  cf := some (fileOf pool9 14 #[.nestMembers #[390, 221]] #[{ accessFlags := 0, nameIndex := 7, descriptorIndex := 8, attributes := #[] }, { accessFlags := 9, nameIndex := 90, descriptorIndex := 91, attributes := #[] }, { accessFlags := 9, nameIndex := 101, descriptorIndex := 98, attributes := #[] }, { accessFlags := 10, nameIndex := 97, descriptorIndex := 98, attributes := #[] }] 48 4 #[] #[{ accessFlags := 4120, nameIndex := 121, descriptorIndex := 122, attributes := #[] }])
  fields := #[{ name := "$assertionsDisabled", type := .boolean, accessFlags := 4120, slot := 0, constantValue := 0 }]
  methods := #[k9m0, k9m1, k9m2, k9m3]
  instanceTypes := #[]
  staticTypes := #[.boolean]
  resolved := Array.replicate 395 none
  statics := none }

def pool10 : Array CpInfo := pool [(1, .class_ 2), (0, u "java/lang/Math"), (1, .class_ 6), (1, u "java/lang/Object"), (0, u "<init>"), (0, u "()V"), (89, .class_ 100), (1, u "java/lang/Math$RandomNumberGeneratorHolder"), (71, u "negativeZeroFloatBits"), (0, u "J"), (2, u "negativeZeroDoubleBits"), (21, u "max"), (2, u "min"), (43, u "$assertionsDisabled"), (0, u "Z"), (88, u "(II)I"), (2, u "twoToTheDoubleScaleDown"), (0, u "D"), (4, u "twoToTheDoubleScaleUp"), (9, u "E"), (3, u "PI"), (2, u "TAU"), (2, u "DEGREES_TO_RADIANS"), (0, u "RADIANS_TO_DEGREES")] 94

def k10m0 : Method := { name := "<init>", desc := "()V", sig := { parameters := [], returnType := none }, accessFlags := 2, code := none }
def k10c1 : Code := { maxStack := 2, maxLocals := 2, code := jdk_29_method_65_code, exceptionTable := #[], attributes := #[] }
def k10m1 : Method := { name := "max", desc := "(II)I", sig := { parameters := [.int, .int], returnType := some .int }, accessFlags := 9, code := some k10c1 }
def k10c2 : Code := { maxStack := 2, maxLocals := 2, code := jdk_29_method_69_code, exceptionTable := #[], attributes := #[] }
def k10m2 : Method := { name := "min", desc := "(II)I", sig := { parameters := [.int, .int], returnType := some .int }, accessFlags := 9, code := some k10c2 }
/-- java/lang/Math -/
def k10 : Class := { plain "java/lang/Math" (some 0) with
  accessFlags := 49
  interfaces := #[]
  cf := some (fileOf pool10 1 #[.nestMembers #[98]] #[{ accessFlags := 2, nameIndex := 7, descriptorIndex := 8, attributes := #[] }, { accessFlags := 9, nameIndex := 198, descriptorIndex := 335, attributes := #[] }, { accessFlags := 9, nameIndex := 201, descriptorIndex := 335, attributes := #[] }] 49 4 #[] #[{ accessFlags := 25, nameIndex := 354, descriptorIndex := 339, attributes := #[] }, { accessFlags := 25, nameIndex := 358, descriptorIndex := 339, attributes := #[] }, { accessFlags := 25, nameIndex := 361, descriptorIndex := 339, attributes := #[] }, { accessFlags := 26, nameIndex := 364, descriptorIndex := 339, attributes := #[] }, { accessFlags := 26, nameIndex := 365, descriptorIndex := 339, attributes := #[] }, { accessFlags := 26, nameIndex := 172, descriptorIndex := 173, attributes := #[] }, { accessFlags := 26, nameIndex := 176, descriptorIndex := 173, attributes := #[] }, { accessFlags := 8, nameIndex := 344, descriptorIndex := 339, attributes := #[] }, { accessFlags := 8, nameIndex := 338, descriptorIndex := 339, attributes := #[] }, { accessFlags := 4120, nameIndex := 245, descriptorIndex := 246, attributes := #[] }])
  fields := #[{ name := "E", type := .double, accessFlags := 25, slot := 0, constantValue := 0 }, { name := "PI", type := .double, accessFlags := 25, slot := 1, constantValue := 0 }, { name := "TAU", type := .double, accessFlags := 25, slot := 2, constantValue := 0 }, { name := "DEGREES_TO_RADIANS", type := .double, accessFlags := 26, slot := 3, constantValue := 0 }, { name := "RADIANS_TO_DEGREES", type := .double, accessFlags := 26, slot := 4, constantValue := 0 }, { name := "negativeZeroFloatBits", type := .long, accessFlags := 26, slot := 5, constantValue := 0 }, { name := "negativeZeroDoubleBits", type := .long, accessFlags := 26, slot := 6, constantValue := 0 }, { name := "twoToTheDoubleScaleUp", type := .double, accessFlags := 8, slot := 7, constantValue := 0 }, { name := "twoToTheDoubleScaleDown", type := .double, accessFlags := 8, slot := 8, constantValue := 0 }, { name := "$assertionsDisabled", type := .boolean, accessFlags := 4120, slot := 9, constantValue := 0 }]
  methods := #[k10m0, k10m1, k10m2]
  instanceTypes := #[]
  staticTypes := #[.double, .double, .double, .double, .double, .long, .long, .double, .double, .boolean]
  resolved := Array.replicate 460 none
  statics := none }

def pool11 : Array CpInfo := pool [(2, .class_ 4), (1, u "java/lang/Object"), (0, u "<init>"), (0, u "()V"), (17, .class_ 26), (1, u "jdk/internal/util/Preconditions"), (28, .class_ 56), (0, u "jdk/internal/util/Preconditions$4"), (57, .class_ 115), (0, u "jdk/internal/util/Preconditions$1"), (7, u "SIOOBE_FORMATTER"), (0, u "Ljava/util/function/BiFunction;"), (0, .class_ 126), (0, u "jdk/internal/util/Preconditions$2"), (3, u "AIOOBE_FORMATTER"), (0, .class_ 132), (0, u "jdk/internal/util/Preconditions$3"), (3, u "IOOBE_FORMATTER")] 57

def k11m0 : Method := { name := "<init>", desc := "()V", sig := { parameters := [], returnType := none }, accessFlags := 1, code := none }
/-- jdk/internal/util/Preconditions -/
def k11 : Class := { plain "jdk/internal/util/Preconditions" (some 0) with
  accessFlags := 33
  interfaces := #[]
  cf := some (fileOf pool11 24 #[.nestMembers #[55, 131, 125, 114]] #[{ accessFlags := 1, nameIndex := 5, descriptorIndex := 6, attributes := #[] }] 33 2 #[] #[{ accessFlags := 25, nameIndex := 123, descriptorIndex := 124, attributes := #[] }, { accessFlags := 25, nameIndex := 130, descriptorIndex := 124, attributes := #[] }, { accessFlags := 25, nameIndex := 136, descriptorIndex := 124, attributes := #[] }])
  fields := #[{ name := "SIOOBE_FORMATTER", type := (.object "java/util/function/BiFunction"), accessFlags := 25, slot := 0, constantValue := 0 }, { name := "AIOOBE_FORMATTER", type := (.object "java/util/function/BiFunction"), accessFlags := 25, slot := 1, constantValue := 0 }, { name := "IOOBE_FORMATTER", type := (.object "java/util/function/BiFunction"), accessFlags := 25, slot := 2, constantValue := 0 }]
  methods := #[k11m0]
  instanceTypes := #[]
  staticTypes := #[(.object "java/util/function/BiFunction"), (.object "java/util/function/BiFunction"), (.object "java/util/function/BiFunction")]
  resolved := Array.replicate 194 none
  statics := some 1 }

def pool12 : Array CpInfo := pool [(9, u "<init>"), (6, .class_ 18), (1, u "java/lang/Object"), (0, u "()V"), (1, .class_ 23), (1, u "jdk/internal/util/ArraysSupport"), (0, u "LOG2_ARRAY_LONG_INDEX_SCALE"), (0, u "I"), (2, u "U"), (0, u "Ljdk/internal/misc/Unsafe;"), (8, u "BIG_ENDIAN"), (0, u "Z"), (8, u "LOG2_BYTE_BIT_SIZE"), (4, u "LOG2_ARRAY_INT_INDEX_SCALE"), (54, u "JLA"), (0, u "Ljdk/internal/access/JavaLangAccess;"), (11, u "LOG2_ARRAY_BOOLEAN_INDEX_SCALE"), (9, u "LOG2_ARRAY_BYTE_INDEX_SCALE"), (5, u "LOG2_ARRAY_CHAR_INDEX_SCALE"), (5, u "LOG2_ARRAY_SHORT_INDEX_SCALE"), (18, u "LOG2_ARRAY_FLOAT_INDEX_SCALE"), (24, u "LOG2_ARRAY_DOUBLE_INDEX_SCALE"), (89, u "T_BOOLEAN"), (2, u "T_CHAR"), (1, u "T_FLOAT"), (1, u "T_DOUBLE"), (1, u "T_BYTE"), (1, u "T_SHORT"), (1, u "T_INT"), (1, u "T_LONG"), (1, u "SOFT_MAX_ARRAY_LENGTH")] 83

def k12m0 : Method := { name := "<init>", desc := "()V", sig := { parameters := [], returnType := none }, accessFlags := 2, code := none }
/-- jdk/internal/util/ArraysSupport -/
def k12 : Class := { plain "jdk/internal/util/ArraysSupport" (some 0) with
  accessFlags := 33
  interfaces := #[]
  cf := some (fileOf pool12 21 #[] #[{ accessFlags := 2, nameIndex := 9, descriptorIndex := 19, attributes := #[] }] 33 16 #[] #[{ accessFlags := 24, nameIndex := 28, descriptorIndex := 29, attributes := #[] }, { accessFlags := 26, nameIndex := 38, descriptorIndex := 39, attributes := #[] }, { accessFlags := 25, nameIndex := 121, descriptorIndex := 25, attributes := #[] }, { accessFlags := 25, nameIndex := 131, descriptorIndex := 25, attributes := #[] }, { accessFlags := 25, nameIndex := 137, descriptorIndex := 25, attributes := #[] }, { accessFlags := 25, nameIndex := 143, descriptorIndex := 25, attributes := #[] }, { accessFlags := 25, nameIndex := 53, descriptorIndex := 25, attributes := #[] }, { accessFlags := 25, nameIndex := 24, descriptorIndex := 25, attributes := #[] }, { accessFlags := 25, nameIndex := 162, descriptorIndex := 25, attributes := #[] }, { accessFlags := 25, nameIndex := 187, descriptorIndex := 25, attributes := #[] }, { accessFlags := 26, nameIndex := 48, descriptorIndex := 25, attributes := #[] }, { accessFlags := 25, nameIndex := 277, descriptorIndex := 25, attributes := #[] }, { accessFlags := 25, nameIndex := 280, descriptorIndex := 25, attributes := #[] }, { accessFlags := 25, nameIndex := 282, descriptorIndex := 25, attributes := #[] }, { accessFlags := 25, nameIndex := 284, descriptorIndex := 25, attributes := #[] }, { accessFlags := 25, nameIndex := 286, descriptorIndex := 25, attributes := #[] }, { accessFlags := 25, nameIndex := 288, descriptorIndex := 25, attributes := #[] }, { accessFlags := 25, nameIndex := 290, descriptorIndex := 25, attributes := #[] }, { accessFlags := 25, nameIndex := 292, descriptorIndex := 25, attributes := #[] }, { accessFlags := 26, nameIndex := 108, descriptorIndex := 109, attributes := #[] }, { accessFlags := 25, nameIndex := 294, descriptorIndex := 25, attributes := #[] }])
  fields := #[{ name := "U", type := (.object "jdk/internal/misc/Unsafe"), accessFlags := 24, slot := 0, constantValue := 0 }, { name := "BIG_ENDIAN", type := .boolean, accessFlags := 26, slot := 1, constantValue := 0 }, { name := "LOG2_ARRAY_BOOLEAN_INDEX_SCALE", type := .int, accessFlags := 25, slot := 2, constantValue := 0 }, { name := "LOG2_ARRAY_BYTE_INDEX_SCALE", type := .int, accessFlags := 25, slot := 3, constantValue := 0 }, { name := "LOG2_ARRAY_CHAR_INDEX_SCALE", type := .int, accessFlags := 25, slot := 4, constantValue := 0 }, { name := "LOG2_ARRAY_SHORT_INDEX_SCALE", type := .int, accessFlags := 25, slot := 5, constantValue := 0 }, { name := "LOG2_ARRAY_INT_INDEX_SCALE", type := .int, accessFlags := 25, slot := 6, constantValue := 0 }, { name := "LOG2_ARRAY_LONG_INDEX_SCALE", type := .int, accessFlags := 25, slot := 7, constantValue := 0 }, { name := "LOG2_ARRAY_FLOAT_INDEX_SCALE", type := .int, accessFlags := 25, slot := 8, constantValue := 0 }, { name := "LOG2_ARRAY_DOUBLE_INDEX_SCALE", type := .int, accessFlags := 25, slot := 9, constantValue := 0 }, { name := "LOG2_BYTE_BIT_SIZE", type := .int, accessFlags := 26, slot := 10, constantValue := 0 }, { name := "T_BOOLEAN", type := .int, accessFlags := 25, slot := 11, constantValue := 0 }, { name := "T_CHAR", type := .int, accessFlags := 25, slot := 12, constantValue := 0 }, { name := "T_FLOAT", type := .int, accessFlags := 25, slot := 13, constantValue := 0 }, { name := "T_DOUBLE", type := .int, accessFlags := 25, slot := 14, constantValue := 0 }, { name := "T_BYTE", type := .int, accessFlags := 25, slot := 15, constantValue := 0 }, { name := "T_SHORT", type := .int, accessFlags := 25, slot := 16, constantValue := 0 }, { name := "T_INT", type := .int, accessFlags := 25, slot := 17, constantValue := 0 }, { name := "T_LONG", type := .int, accessFlags := 25, slot := 18, constantValue := 0 }, { name := "JLA", type := (.object "jdk/internal/access/JavaLangAccess"), accessFlags := 26, slot := 19, constantValue := 0 }, { name := "SOFT_MAX_ARRAY_LENGTH", type := .int, accessFlags := 25, slot := 20, constantValue := 0 }]
  methods := #[k12m0]
  instanceTypes := #[]
  staticTypes := #[(.object "jdk/internal/misc/Unsafe"), .boolean, .int, .int, .int, .int, .int, .int, .int, .int, .int, .int, .int, .int, .int, .int, .int, .int, .int, (.object "jdk/internal/access/JavaLangAccess"), .int]
  resolved := Array.replicate 378 none
  statics := none }

def pool13 : Array CpInfo := pool [(1, u "java/lang/Cloneable"), (0, .class_ 1), (0, u "java/lang/Object"), (0, .class_ 3)] 3

/-- java/lang/Cloneable -/
def k13 : Class := { plain "java/lang/Cloneable" (some 0) with
  accessFlags := 1537
  interfaces := #[]
  cf := some (fileOf pool13 2 #[] #[] 1537 4 #[] #[])
  fields := #[]
  methods := #[]
  instanceTypes := #[]
  staticTypes := #[]
  resolved := Array.replicate 8 none
  statics := none }

/-- the primitive byte -/
def k14 : Class := { plain "byte" none with kind := .primitive 'B', accessFlags := 0x411 }
/-- [B -/
def k15 : Class := { plain "[B" (some 0) with kind := .array 14 .byte, interfaces := #[13, 3], accessFlags := 1041 }

/-- the primitive int -/
def k16 : Class := { plain "int" none with kind := .primitive 'I', accessFlags := 0x411 }
/-- [I -/
def k17 : Class := { plain "[I" (some 0) with kind := .array 16 .int, interfaces := #[13, 3], accessFlags := 1041 }

def heap : Heap := #[{ cls := 8, slots := #[.long 0, .int 1, .null, .int 0, .null, .int 0, .int 0], vm := .statics 8 },
  { cls := 11, slots := #[.null, .null, .null], vm := .statics 11 }]
def classes : Array Class := #[k0, k1, k2, k3, k4, k5, k6, k7, k8, k9, k10, k11, k12, k13, k14, k15, k16, k17]
def interned : List (Array UInt16 × Addr) := []
def slotsUsed : Nat := 10
def theMethod : MethodId := ⟨1, 3⟩
def args0 : Array Value := #[.int 5, .int 7]
def aboutOver (below : List Frame) : State where
  vm := { classes := classes, interned := interned.toArray }
  heap := heap
  slotsUsed := slotsUsed
  threads := #[{ frames := .invoking theMethod args0 :: below }]
def below0 : List Frame := [.native { method := ⟨0, 0⟩, args := #[] }]
def about1 : State := aboutOver below0
def p0 : Program := .bare "" "" ""
def e0 : Env := launch0.env 0 0 0
theorem w_frames : about1.frames = Frame.invoking theMethod args0 :: below0 := rfl
set_option maxRecDepth 65536 in
theorem w_args : argsFit about1.vm theMethod args0 = true := by decide +kernel
set_option maxRecDepth 65536 in
theorem w_heap : heapFits about1 = true := by decide +kernel
set_option maxRecDepth 65536 in
theorem w_runnable : about1.curStatus? = some .runnable := by decide +kernel
set_option maxRecDepth 65536 in
theorem w_alone : about1.alone = true := by decide +kernel
set_option maxRecDepth 65536 in
theorem w_named : about1.methodNamed? x = some theMethod := by decide +kernel
set_option maxRecDepth 65536 in
theorem w_hears : about1.hears theMethod below0 = true := by decide +kernel
set_option maxRecDepth 65536 in
theorem w_ripe : about1.ripe theMethod args0 below0 = true := by decide +kernel
theorem w_running : about1.status = .running := rfl
set_option maxRecDepth 65536 in
theorem w_room : about1.hasRoom e0.platform room_1 = true :=
  launch0.hasRoom_least _ room_1 (by decide +kernel) (by decide +kernel) (by decide +kernel) (by decide +kernel) (by decide +kernel) (by decide +kernel)
theorem allAtoms_all (ts : List Jvm.Cond) (a : Array Jvm.Value) (st : Jvm.State) : (allAtoms ts).before a st = ts.all (fun c => c.before a st) := by
  induction ts with
  | nil => rfl
  | cons c t ih =>
    show (Jvm.Cond.and c (allAtoms t)).before a st = _
    rw [Jvm.Cond.before_and, ih, List.all_cons]
def words1 : List Jvm.Cond := Jvm.Cond.code x code maxLocals ret :: tables_1
/-- a 'code' word, met by the world's own term for the bytes: nothing is compared byte by byte -/
theorem code_word {y : MethodName} {bytes : ByteArray} {mx : Nat} {rt : Option FieldType} {a : Array Value} {s : State} {m : MethodId} {meth : Method} {c : Code} (h1 : s.methodNamed? y = some m) (h2 : s.vm.method? m = some meth) (h3 : meth.code = some c) (h4 : c.code = bytes)
    (h5 : (c.maxLocals == mx && c.exceptionTable.isEmpty && decide (c.maxStack ≤ mostOperands) && decide (meth.sig.returnType = rt) && !meth.locks && decide (parseMethodDescriptor y.desc = some meth.sig)) = true) : (Jvm.Cond.code y bytes mx rt).before a s = true := by
  simp only [Bool.and_eq_true, beq_iff_eq, Bool.not_eq_true', decide_eq_true_eq] at h5
  obtain ⟨⟨⟨⟨⟨g1, g2⟩, g3⟩, g4⟩, g5⟩, g6⟩ := h5
  simp [Cond.before, Cond.holds, Cond.value, h1, h2, h3, h4, g1, g2, g3, g4, g5, g6]
def isCode : Jvm.Cond → Bool
  | .code _ _ _ _ => true
  | _ => false
theorem all_split {L : List Jvm.Cond} {P : Jvm.Cond → Bool} (h1 : L.all (fun c => isCode c || P c) = true) (h2 : ∀ c ∈ L.filter isCode, P c = true) : L.all P = true := by
  refine List.all_eq_true.mpr fun c hc => ?_
  have h := List.all_eq_true.mp h1 c hc
  rcases Bool.eq_false_or_eq_true (isCode c) with hi | hi
  · exact h2 c (List.mem_filter.mpr ⟨hc, hi⟩)
  · simpa [hi] using h
set_option maxRecDepth 65536 in
theorem w_c0 : (Jvm.Cond.code x code maxLocals ret).before args0 about1 = true := code_word (m := ⟨1, 3⟩) (meth := k1m3) (c := k1c3) (by decide +kernel) rfl rfl rfl (by decide +kernel)
set_option maxRecDepth 65536 in
theorem w_c1 : (Jvm.Cond.code ({ cls := "com/example/evconv/evconv/format/http/HttpFields", name := "isTokenChar", desc := "(C)Z" } : Jvm.MethodName) prog_26_method_4_code (1 : Nat) (Option.some Jvm.ClassFile.FieldType.boolean)).before args0 about1 = true := code_word (m := ⟨2, 1⟩) (meth := k2m1) (c := k2c1) (by decide +kernel) rfl rfl rfl (by decide +kernel)
set_option maxRecDepth 65536 in
theorem w_c2 : (Jvm.Cond.code ({ cls := "java/lang/String", name := "indexOf", desc := "(I)I" } : Jvm.MethodName) jdk_42_method_79_code (2 : Nat) (Option.some Jvm.ClassFile.FieldType.int)).before args0 about1 = true := code_word (m := ⟨8, 2⟩) (meth := k8m2) (c := k8c2) (by decide +kernel) rfl rfl rfl (by decide +kernel)
set_option maxRecDepth 65536 in
theorem w_c3 : (Jvm.Cond.code ({ cls := "java/lang/String", name := "indexOf", desc := "(II)I" } : Jvm.MethodName) jdk_42_method_80_code (3 : Nat) (Option.some Jvm.ClassFile.FieldType.int)).before args0 about1 = true := code_word (m := ⟨8, 3⟩) (meth := k8m3) (c := k8c3) (by decide +kernel) rfl rfl rfl (by decide +kernel)
set_option maxRecDepth 65536 in
theorem w_c4 : (Jvm.Cond.code ({ cls := "java/lang/String", name := "isLatin1", desc := "()Z" } : Jvm.MethodName) jdk_42_method_154_code (1 : Nat) (Option.some Jvm.ClassFile.FieldType.boolean)).before args0 about1 = true := code_word (m := ⟨8, 5⟩) (meth := k8m5) (c := k8c5) (by decide +kernel) rfl rfl rfl (by decide +kernel)
set_option maxRecDepth 65536 in
theorem w_c5 : (Jvm.Cond.code ({ cls := "java/lang/String", name := "length", desc := "()I" } : Jvm.MethodName) jdk_42_method_54_code (1 : Nat) (Option.some Jvm.ClassFile.FieldType.int)).before args0 about1 = true := code_word (m := ⟨8, 1⟩) (meth := k8m1) (c := k8c1) (by decide +kernel) rfl rfl rfl (by decide +kernel)
set_option maxRecDepth 65536 in
theorem w_c6 : (Jvm.Cond.code ({ cls := "java/lang/String", name := "coder", desc := "()B" } : Jvm.MethodName) jdk_42_method_152_code (1 : Nat) (Option.some Jvm.ClassFile.FieldType.byte)).before args0 about1 = true := code_word (m := ⟨8, 4⟩) (meth := k8m4) (c := k8c4) (by decide +kernel) rfl rfl rfl (by decide +kernel)
set_option maxRecDepth 65536 in
theorem w_c7 : (Jvm.Cond.code ({ cls := "java/lang/StringLatin1", name := "indexOf", desc := "([BIII)I" } : Jvm.MethodName) jdk_43_method_22_code (4 : Nat) (Option.some Jvm.ClassFile.FieldType.int)).before args0 about1 = true := code_word (m := ⟨9, 2⟩) (meth := k9m2) (c := k9c2) (by decide +kernel) rfl rfl rfl (by decide +kernel)
set_option maxRecDepth 65536 in
theorem w_c8 : (Jvm.Cond.code ({ cls := "java/lang/StringLatin1", name := "canEncode", desc := "(I)Z" } : Jvm.MethodName) jdk_43_method_4_code (1 : Nat) (Option.some Jvm.ClassFile.FieldType.boolean)).before args0 about1 = true := code_word (m := ⟨9, 1⟩) (meth := k9m1) (c := k9c1) (by decide +kernel) rfl rfl rfl (by decide +kernel)
set_option maxRecDepth 65536 in
theorem w_c9 : (Jvm.Cond.code ({ cls := "java/lang/Math", name := "max", desc := "(II)I" } : Jvm.MethodName) jdk_29_method_65_code (2 : Nat) (Option.some Jvm.ClassFile.FieldType.int)).before args0 about1 = true := code_word (m := ⟨10, 1⟩) (meth := k10m1) (c := k10c1) (by decide +kernel) rfl rfl rfl (by decide +kernel)
set_option maxRecDepth 65536 in
theorem w_c10 : (Jvm.Cond.code ({ cls := "java/lang/Math", name := "min", desc := "(II)I" } : Jvm.MethodName) jdk_29_method_69_code (2 : Nat) (Option.some Jvm.ClassFile.FieldType.int)).before args0 about1 = true := code_word (m := ⟨10, 2⟩) (meth := k10m2) (c := k10c2) (by decide +kernel) rfl rfl rfl (by decide +kernel)
set_option maxRecDepth 65536 in
theorem w_c11 : (Jvm.Cond.code ({ cls := "java/lang/StringLatin1", name := "indexOfChar", desc := "([BIII)I" } : Jvm.MethodName) jdk_43_method_23_code (6 : Nat) (Option.some Jvm.ClassFile.FieldType.int)).before args0 about1 = true := code_word (m := ⟨9, 3⟩) (meth := k9m3) (c := k9c3) (by decide +kernel) rfl rfl rfl (by decide +kernel)
set_option maxRecDepth 65536 in
theorem w_c12 : (Jvm.Cond.code ({ cls := "com/example/evconv/evconv/format/http/HttpFieldsIsTokenCharPinLaw", name := "expected", desc := "(C)Z" } : Jvm.MethodName) method_3_code (1 : Nat) (Option.some Jvm.ClassFile.FieldType.boolean)).before args0 about1 = true := code_word (m := ⟨1, 2⟩) (meth := k1m2) (c := k1c2) (by decide +kernel) rfl rfl rfl (by decide +kernel)
set_option maxRecDepth 65536 in
theorem w_c13 : (Jvm.Cond.code ({ cls := "com/example/evconv/evconv/format/http/HttpFieldsIsTokenCharPinLaw", name := "isDelimiter", desc := "(C)Z" } : Jvm.MethodName) method_2_code (1 : Nat) (Option.some Jvm.ClassFile.FieldType.boolean)).before args0 about1 = true := code_word (m := ⟨1, 1⟩) (meth := k1m1) (c := k1c1) (by decide +kernel) rfl rfl rfl (by decide +kernel)
def codes1 : List Jvm.Cond := [Jvm.Cond.code x code maxLocals ret, Jvm.Cond.code ({ cls := "com/example/evconv/evconv/format/http/HttpFields", name := "isTokenChar", desc := "(C)Z" } : Jvm.MethodName) prog_26_method_4_code (1 : Nat) (Option.some Jvm.ClassFile.FieldType.boolean), Jvm.Cond.code ({ cls := "java/lang/String", name := "indexOf", desc := "(I)I" } : Jvm.MethodName) jdk_42_method_79_code (2 : Nat) (Option.some Jvm.ClassFile.FieldType.int), Jvm.Cond.code ({ cls := "java/lang/String", name := "indexOf", desc := "(II)I" } : Jvm.MethodName) jdk_42_method_80_code (3 : Nat) (Option.some Jvm.ClassFile.FieldType.int), Jvm.Cond.code ({ cls := "java/lang/String", name := "isLatin1", desc := "()Z" } : Jvm.MethodName) jdk_42_method_154_code (1 : Nat) (Option.some Jvm.ClassFile.FieldType.boolean), Jvm.Cond.code ({ cls := "java/lang/String", name := "length", desc := "()I" } : Jvm.MethodName) jdk_42_method_54_code (1 : Nat) (Option.some Jvm.ClassFile.FieldType.int), Jvm.Cond.code ({ cls := "java/lang/String", name := "coder", desc := "()B" } : Jvm.MethodName) jdk_42_method_152_code (1 : Nat) (Option.some Jvm.ClassFile.FieldType.byte), Jvm.Cond.code ({ cls := "java/lang/StringLatin1", name := "indexOf", desc := "([BIII)I" } : Jvm.MethodName) jdk_43_method_22_code (4 : Nat) (Option.some Jvm.ClassFile.FieldType.int), Jvm.Cond.code ({ cls := "java/lang/StringLatin1", name := "canEncode", desc := "(I)Z" } : Jvm.MethodName) jdk_43_method_4_code (1 : Nat) (Option.some Jvm.ClassFile.FieldType.boolean), Jvm.Cond.code ({ cls := "java/lang/Math", name := "max", desc := "(II)I" } : Jvm.MethodName) jdk_29_method_65_code (2 : Nat) (Option.some Jvm.ClassFile.FieldType.int), Jvm.Cond.code ({ cls := "java/lang/Math", name := "min", desc := "(II)I" } : Jvm.MethodName) jdk_29_method_69_code (2 : Nat) (Option.some Jvm.ClassFile.FieldType.int), Jvm.Cond.code ({ cls := "java/lang/StringLatin1", name := "indexOfChar", desc := "([BIII)I" } : Jvm.MethodName) jdk_43_method_23_code (6 : Nat) (Option.some Jvm.ClassFile.FieldType.int), Jvm.Cond.code ({ cls := "com/example/evconv/evconv/format/http/HttpFieldsIsTokenCharPinLaw", name := "expected", desc := "(C)Z" } : Jvm.MethodName) method_3_code (1 : Nat) (Option.some Jvm.ClassFile.FieldType.boolean), Jvm.Cond.code ({ cls := "com/example/evconv/evconv/format/http/HttpFieldsIsTokenCharPinLaw", name := "isDelimiter", desc := "(C)Z" } : Jvm.MethodName) method_2_code (1 : Nat) (Option.some Jvm.ClassFile.FieldType.boolean)]
set_option maxRecDepth 65536 in
theorem codes_eq : words1.filter isCode = codes1 := rfl
theorem w_codes : ∀ c ∈ words1.filter isCode, c.before args0 about1 = true := by
  rw [codes_eq]
  intro c hc
  simp only [codes1, List.mem_cons, List.not_mem_nil, or_false] at hc
  rcases hc with rfl | rfl | rfl | rfl | rfl | rfl | rfl | rfl | rfl | rfl | rfl | rfl | rfl | rfl
  · exact w_c0
  · exact w_c1
  · exact w_c2
  · exact w_c3
  · exact w_c4
  · exact w_c5
  · exact w_c6
  · exact w_c7
  · exact w_c8
  · exact w_c9
  · exact w_c10
  · exact w_c11
  · exact w_c12
  · exact w_c13
set_option maxRecDepth 65536 in
theorem w_t1 : (words1.take 24).all (fun c => isCode c || c.before args0 about1) = true := by decide +kernel
set_option maxRecDepth 65536 in
theorem w_t2 : ((words1.drop 24).take 24).all (fun c => isCode c || c.before args0 about1) = true := by decide +kernel
set_option maxRecDepth 65536 in
theorem w_t3 : ((words1.drop 24).drop 24).all (fun c => isCode c || c.before args0 about1) = true := by decide +kernel
theorem w_tables : (allAtoms (Jvm.Cond.code x code maxLocals ret :: tables_1)).before args0 about1 = true := by
  rw [allAtoms_all]
  show words1.all (fun c => c.before args0 about1) = true
  refine all_split ?_ w_codes
  rw [← List.take_append_drop 24 words1, List.all_append, w_t1, ← List.take_append_drop 24 (words1.drop 24), List.all_append, w_t2, w_t3]
  rfl
set_option maxRecDepth 65536 in
theorem w_rest : rest_1_c.before args0 about1 = true := by decide +kernel
set_option maxRecDepth 65536 in
theorem w_case : (Jvm.Cond.and given_1 narrow_1).before args0 about1 = true := by decide +kernel
set_option maxRecDepth 65536 in
theorem w_consts : constsHeld consts_1 about1 := Jvm.Lit.constsHeldB_iff.mp (by decide +kernel)
theorem w_applies : (headSpec (Jvm.Cond.code x code maxLocals ret :: tables_1) room_1).applies x e0.platform about1 = true :=
  (Spec.applies_iff w_frames).mpr ⟨w_running, w_runnable, w_alone, w_named, w_hears, w_ripe, w_room, w_tables⟩
theorem atStart : AtStart classFile x code maxLocals ret World_1 tables_1 room_1 Calls_1 rest_1 Pre_1 launch0 p0 e0 about1 theMethod args0 below0 :=
  ⟨lists_1, trivial, launch0.admits_env _ _ _, launch0.least_env, fairChoices_fair.cas, fairChoices_fair.clock, w_frames, w_args, w_heap, w_applies, ⟨w_consts, trivial⟩, w_rest, w_case⟩
end start1
theorem witness_1 : WitnessClaimed_1 := ⟨start1.p0, start1.e0, start1.about1, start1.theMethod, start1.args0, start1.below0, start1.atStart⟩
end Jvm.Pilot.@@N@@
