import JvmDerived
import JvmDerived.Pilot.@@N@@Statement
import JvmDerived.Pilot.@@N@@Code
set_option linter.unusedVariables false
set_option linter.unusedSimpArgs false
namespace Jvm.RoadKit
open Sem ClassFile Op Lib Jvm.Stand Jvm.Free Jvm.LawKit
section New
variable {p : Program} {l : Launch} {e : Env} {R : Room} {s : State} {m : MethodId} {args : Array Value} {below : List Frame} {meth : Method} {c : Code} {T : State} {locs : List Loc} {cells slots : Nat}
theorem retI (X : Stand p l e R s m args below meth c T locs cells slots) (hx : p.tables.exec = Jvm.exec) {pc : Nat} {Ls : Array Slot} {z : Int32} {rest : List Value} (hret : meth.sig.returnType = some .int) (hd : decode c.code pc = .ok (.ireturn, 1)) {fs : List Frame}
    (hl : ∀ (f : JFrame) (acts : List Action), f.method = m → f.locked = none → f.entered = [] → (doReturn e (T.setTop f) acts (some (.int z))).1 = T.setFrames fs) : Steps p.tables e below (T.setTop (mkF m pc Ls (.int z :: rest))) (T.setFrames fs) := by
  have hm' : T.vm.method? m = some meth := X.method'
  have hn : narrow .int (.int z) = .int z := rfl
  show Steps p.tables e below (T.setTop { method := m, pc := pc, locals := Ls, stack := _ :: rest, locked := none }) _
  jvm_step X.here [X.here.top, hx, hd, hm', hret, hn]
  first | (intro acts; rw [hl _ acts rfl rfl rfl]) | rw [hl _ _ rfl rfl rfl]
  exact Steps.refl _
end New
end Jvm.RoadKit
namespace Jvm.Pilot.@@N@@
open Jvm Jvm.ClassFile Sem Op Lib Jvm.Free Jvm.Stand Jvm.LawKit Jvm.RoadKit Bundle Jvm.Pilot.@@N@@.Jvm.D
def own_m1 (q : Int64) : Int64 := ((q.toUInt64 >>> ((7 : Int32) &&& 0x3f).toInt64.toUInt64).toInt64)
def own_c0 (q : Int64) : Int64 := (own_m1 q) * 72340172838076673 - (own_m1 q)
def own_r0 (w q : Int64) : Int64 := w &&& (((own_m1 q) * 255) ^^^ (-1))
def own_kk (c : Int64) (i : Int32) : Int64 := (((c.toUInt64 >>> (i &&& 0x3f).toInt64.toUInt64).toInt64) &&& 72340172838076673) * 255
def own_sh (i : Int32) : Int32 := 8 <<< (i &&& 31)
def own_nx (v k : Int64) (s : Int32) : Int64 := (v &&& (k ^^^ (-1))) ||| (((v &&& k).toUInt64 >>> (s &&& 0x3f).toInt64.toUInt64).toInt64)
def own_k0 (q : Int64) : Int64 := own_kk (own_c0 q) 0
def own_c1 (q : Int64) : Int64 := own_nx (own_c0 q) (own_k0 q) (own_sh 0)
def own_r1 (w q : Int64) : Int64 := own_nx (own_r0 w q) (own_k0 q) (own_sh 0)
def own_k1 (q : Int64) : Int64 := own_kk (own_c1 q) 1
def own_c2 (q : Int64) : Int64 := own_nx (own_c1 q) (own_k1 q) (own_sh 1)
def own_r2 (w q : Int64) : Int64 := own_nx (own_r1 w q) (own_k1 q) (own_sh 1)
def own_k2 (q : Int64) : Int64 := own_kk (own_c2 q) 2
def own_c3 (q : Int64) : Int64 := own_nx (own_c2 q) (own_k2 q) (own_sh 2)
def own_r3 (w q : Int64) : Int64 := own_nx (own_r2 w q) (own_k2 q) (own_sh 2)
theorem pd_1 : parseMethodDescriptor "(JJ)J" = some ⟨[.long, .long], some .long⟩ := by decide +kernel
theorem d1_0 : decode prog_97_method_21_code 0 = .ok (.lload_n 2, 1) := by decide +kernel
theorem d1_1 : decode prog_97_method_21_code 1 = .ok (.bipush 7, 2) := by decide +kernel
theorem d1_3 : decode prog_97_method_21_code 3 = .ok (.lushr, 1) := by decide +kernel
theorem d1_4 : decode prog_97_method_21_code 4 = .ok (.lstore 4, 2) := by decide +kernel
theorem d1_6 : decode prog_97_method_21_code 6 = .ok (.lload 4, 2) := by decide +kernel
theorem d1_8 : decode prog_97_method_21_code 8 = .ok (.ldc2_w 36, 3) := by decide +kernel
theorem d1_11 : decode prog_97_method_21_code 11 = .ok (.lmul, 1) := by decide +kernel
theorem d1_12 : decode prog_97_method_21_code 12 = .ok (.lload 4, 2) := by decide +kernel
theorem d1_14 : decode prog_97_method_21_code 14 = .ok (.lsub, 1) := by decide +kernel
theorem d1_15 : decode prog_97_method_21_code 15 = .ok (.lstore 6, 2) := by decide +kernel
theorem d1_17 : decode prog_97_method_21_code 17 = .ok (.lload_n 0, 1) := by decide +kernel
theorem d1_18 : decode prog_97_method_21_code 18 = .ok (.lload 4, 2) := by decide +kernel
theorem d1_20 : decode prog_97_method_21_code 20 = .ok (.ldc2_w 84, 3) := by decide +kernel
theorem d1_23 : decode prog_97_method_21_code 23 = .ok (.lmul, 1) := by decide +kernel
theorem d1_24 : decode prog_97_method_21_code 24 = .ok (.ldc2_w 34, 3) := by decide +kernel
theorem d1_27 : decode prog_97_method_21_code 27 = .ok (.lxor, 1) := by decide +kernel
theorem d1_28 : decode prog_97_method_21_code 28 = .ok (.land, 1) := by decide +kernel
theorem d1_29 : decode prog_97_method_21_code 29 = .ok (.lstore 8, 2) := by decide +kernel
theorem d1_31 : decode prog_97_method_21_code 31 = .ok (.iconst 0, 1) := by decide +kernel
theorem d1_32 : decode prog_97_method_21_code 32 = .ok (.istore 10, 2) := by decide +kernel
theorem d1_34 : decode prog_97_method_21_code 34 = .ok (.iload 10, 2) := by decide +kernel
theorem d1_36 : decode prog_97_method_21_code 36 = .ok (.iconst 3, 1) := by decide +kernel
theorem d1_37 : decode prog_97_method_21_code 37 = .ok (.if_icmp .ge 71, 3) := by decide +kernel
theorem d1_40 : decode prog_97_method_21_code 40 = .ok (.lload 6, 2) := by decide +kernel
theorem d1_42 : decode prog_97_method_21_code 42 = .ok (.iload 10, 2) := by decide +kernel
theorem d1_44 : decode prog_97_method_21_code 44 = .ok (.lushr, 1) := by decide +kernel
theorem d1_45 : decode prog_97_method_21_code 45 = .ok (.ldc2_w 36, 3) := by decide +kernel
theorem d1_48 : decode prog_97_method_21_code 48 = .ok (.land, 1) := by decide +kernel
theorem d1_49 : decode prog_97_method_21_code 49 = .ok (.ldc2_w 84, 3) := by decide +kernel
theorem d1_52 : decode prog_97_method_21_code 52 = .ok (.lmul, 1) := by decide +kernel
theorem d1_53 : decode prog_97_method_21_code 53 = .ok (.lstore 11, 2) := by decide +kernel
theorem d1_55 : decode prog_97_method_21_code 55 = .ok (.bipush 8, 2) := by decide +kernel
theorem d1_57 : decode prog_97_method_21_code 57 = .ok (.iload 10, 2) := by decide +kernel
theorem d1_59 : decode prog_97_method_21_code 59 = .ok (.ishl, 1) := by decide +kernel
theorem d1_60 : decode prog_97_method_21_code 60 = .ok (.istore 13, 2) := by decide +kernel
theorem d1_62 : decode prog_97_method_21_code 62 = .ok (.lload 8, 2) := by decide +kernel
theorem d1_64 : decode prog_97_method_21_code 64 = .ok (.lload 11, 2) := by decide +kernel
theorem d1_66 : decode prog_97_method_21_code 66 = .ok (.ldc2_w 34, 3) := by decide +kernel
theorem d1_69 : decode prog_97_method_21_code 69 = .ok (.lxor, 1) := by decide +kernel
theorem d1_70 : decode prog_97_method_21_code 70 = .ok (.land, 1) := by decide +kernel
theorem d1_71 : decode prog_97_method_21_code 71 = .ok (.lload 8, 2) := by decide +kernel
theorem d1_73 : decode prog_97_method_21_code 73 = .ok (.lload 11, 2) := by decide +kernel
theorem d1_75 : decode prog_97_method_21_code 75 = .ok (.land, 1) := by decide +kernel
theorem d1_76 : decode prog_97_method_21_code 76 = .ok (.iload 13, 2) := by decide +kernel
theorem d1_78 : decode prog_97_method_21_code 78 = .ok (.lushr, 1) := by decide +kernel
theorem d1_79 : decode prog_97_method_21_code 79 = .ok (.lor, 1) := by decide +kernel
theorem d1_80 : decode prog_97_method_21_code 80 = .ok (.lstore 8, 2) := by decide +kernel
theorem d1_82 : decode prog_97_method_21_code 82 = .ok (.lload 6, 2) := by decide +kernel
theorem d1_84 : decode prog_97_method_21_code 84 = .ok (.lload 11, 2) := by decide +kernel
theorem d1_86 : decode prog_97_method_21_code 86 = .ok (.ldc2_w 34, 3) := by decide +kernel
theorem d1_89 : decode prog_97_method_21_code 89 = .ok (.lxor, 1) := by decide +kernel
theorem d1_90 : decode prog_97_method_21_code 90 = .ok (.land, 1) := by decide +kernel
theorem d1_91 : decode prog_97_method_21_code 91 = .ok (.lload 6, 2) := by decide +kernel
theorem d1_93 : decode prog_97_method_21_code 93 = .ok (.lload 11, 2) := by decide +kernel
theorem d1_95 : decode prog_97_method_21_code 95 = .ok (.land, 1) := by decide +kernel
theorem d1_96 : decode prog_97_method_21_code 96 = .ok (.iload 13, 2) := by decide +kernel
theorem d1_98 : decode prog_97_method_21_code 98 = .ok (.lushr, 1) := by decide +kernel
theorem d1_99 : decode prog_97_method_21_code 99 = .ok (.lor, 1) := by decide +kernel
theorem d1_100 : decode prog_97_method_21_code 100 = .ok (.lstore 6, 2) := by decide +kernel
theorem d1_102 : decode prog_97_method_21_code 102 = .ok (.iinc 10 1, 3) := by decide +kernel
theorem d1_105 : decode prog_97_method_21_code 105 = .ok (.goto (-71), 3) := by decide +kernel
theorem d1_108 : decode prog_97_method_21_code 108 = .ok (.lload 8, 2) := by decide +kernel
theorem d1_110 : decode prog_97_method_21_code 110 = .ok (.lreturn, 1) := by decide +kernel
theorem pn_1 : plainName "com/example/widthwise/widthwise/runtime/Bytes" = true := by first | (simp [plainName, overriddenIn]; done) | decide +kernel
theorem pf_1 : plainFor (⟨"com/example/widthwise/widthwise/runtime/Bytes", "withoutMarked", "(JJ)J"⟩ : MethodName) = true := plainFor_of_name pn_1
theorem ef_1 (m : MethodId) (x0 : Int64) (x1 : Int64) : entryFrame m #[(.long x0), (.long x1)] 14 = mkF m 0 #[.val (.long x0), .second, .val (.long x1), .second, .unset, .unset, .unset, .unset, .unset, .unset, .unset, .unset, .unset, .unset] [] := by first | (simp [entryFrame, mkF, argsToLocals, Value.category, maxLocals]; done) | rfl
def F1 (q1 : Int64) (q2 : Int64) : Int64 := (own_r3 q1 q2)
def Q1 (q1 : Int64) (q2 : Int64) (h0 : Heap) (n0 : Nat) (v : Option Value) (h : Heap) (L : List Loc) : Prop := v = some (.long (F1 q1 q2)) ∧ Fr n0 L ∧ h = h0
set_option maxRecDepth 65536 in
set_option maxHeartbeats 40000000 in
theorem rm1 (l : Launch) (Z : State) (a0 : Array Value) (hw : ∀ d ∈ tables_1, d.before a0 Z = true) (ws : List Jvm.Cond) (q1 : Int64) (q2 : Int64) (h0 : Heap) (n0 : Nat) (Z0 : n0 ≤ h0.size)  :
    MetFree l (⟨"com/example/widthwise/widthwise/runtime/Bytes", "withoutMarked", "(JJ)J"⟩ : MethodName) (head1 (Jvm.Cond.code (⟨"com/example/widthwise/widthwise/runtime/Bytes", "withoutMarked", "(JJ)J"⟩ : MethodName) prog_97_method_21_code 14 (some .long) :: ws) ({ frames := 0, cells := 0, slots := 0, locals := 0 } : Room)) (fun aA uU => aA = #[(.long q1), (.long q2)] ∧ Z.Warmed39 uU.vm ∧ uU.heap = h0) (fun _ _ _ _ _ => True) (fun _ uU oO uV => ∃ vV lL, oO = .returned vV ∧ Q1 q1 q2 h0 n0 vV uV.heap lL ∧ FrameEnd uU oO uV lL ({ frames := 0, cells := 0, slots := 0, locals := 0 } : Room).cells ({ frames := 0, cells := 0, slots := 0, locals := 0 } : Room).slots) := by
  refine MetFree.of_bodySF pf_1 hisR ?_
  intro p e s m args below meth c s₁ Bd hml0 hP hK
  obtain ⟨rfl, hZ, hh⟩ := hP
  have hx := Bd.exec
  have hby := Bd.bytes
  have hml : c.maxLocals = 14 := hml0
  have hown : s.vm.findClass "com/example/widthwise/widthwise/runtime/Bytes" = some m.cls := findClass_of_methodNamed Bd.named
  have hnm := (name_of_methodNamed Bd.named Bd.method).1
  have X0 : Stand p l e ({ frames := 0, cells := 0, slots := 0, locals := 0 } : Room) s m #[(.long q1), (.long q2)] below meth c s₁ [] 0 0 := Stand.of_body Bd
  have e0 : s₁.heap = h0 := by rw [← hh, Bd.state]; rfl
  have N0 := Fr.nil n0
  have pre0 : ∀ t, Steps p.tables e below (s₁.setTop (mkF m 0 #[.val (.long q1), .second, .val (.long q2), .second, .unset, .unset, .unset, .unset, .unset, .unset, .unset, .unset, .unset, .unset] [])) t → Steps p.tables e below (s₁.setTop (entryFrame m #[(.long q1), (.long q2)] 14)) t := fun t k => castTop (ef_1 m q1 q2) k
  obtain ⟨fs, hr, hrun, hended, hW, hsame⟩ := X0.leave (v := some (.long (F1 q1 q2))) (fun h => by rw [Bd.returns] at h; cases h)
  refine ⟨_, _, pre0 _ ?_, hrun, hended, _, _, rfl, ?_, ⟨_, rfl⟩, hW, hsame.mono (by decide) (by decide)⟩
  · show Steps p.tables e below (s₁.setTop (mkF m 0 #[.val (.long q1), .second, .val (.long q2), .second, .unset, .unset, .unset, .unset, .unset, .unset, .unset, .unset, .unset, .unset] [])) _
    refine XS.lloadN X0.here hx rfl (hb hby d1_0) rfl ?_
    show Steps p.tables e below (s₁.setTop (mkF m 1 #[.val (.long q1), .second, .val (.long q2), .second, .unset, .unset, .unset, .unset, .unset, .unset, .unset, .unset, .unset, .unset] [(.long q2)])) _
    refine XS.bipush X0.here hx rfl (hb hby d1_1) ?_
    show Steps p.tables e below (s₁.setTop (mkF m 3 #[.val (.long q1), .second, .val (.long q2), .second, .unset, .unset, .unset, .unset, .unset, .unset, .unset, .unset, .unset, .unset] [(.int (7 : Int32)), (.long q2)])) _
    refine XS.lushr X0.here hx rfl (hb hby d1_3) rfl ?_
    show Steps p.tables e below (s₁.setTop (mkF m 4 #[.val (.long q1), .second, .val (.long q2), .second, .unset, .unset, .unset, .unset, .unset, .unset, .unset, .unset, .unset, .unset] [(.long ((q2.toUInt64 >>> ((7 : Int32) &&& 0x3f).toInt64.toUInt64).toInt64))])) _
    refine XS.lstore X0.here hx rfl (hb hby d1_4) rfl (l' := #[.val (.long q1), .second, .val (.long q2), .second, .val (.long (own_m1 q2)), .second, .unset, .unset, .unset, .unset, .unset, .unset, .unset, .unset]) rfl ?_
    show Steps p.tables e below (s₁.setTop (mkF m 6 #[.val (.long q1), .second, .val (.long q2), .second, .val (.long (own_m1 q2)), .second, .unset, .unset, .unset, .unset, .unset, .unset, .unset, .unset] [])) _
    refine XS.lload X0.here hx rfl (hb hby d1_6) rfl ?_
    show Steps p.tables e below (s₁.setTop (mkF m 8 #[.val (.long q1), .second, .val (.long q2), .second, .val (.long (own_m1 q2)), .second, .unset, .unset, .unset, .unset, .unset, .unset, .unset, .unset] [(.long (own_m1 q2))])) _
    refine X0.ldc2Long hx hown (mvT hZ (hw _ (List.mem_of_getElem? (i := 6) rfl))) (g := (mkF m 8 #[.val (.long q1), .second, .val (.long q2), .second, .val (.long (own_m1 q2)), .second, .unset, .unset, .unset, .unset, .unset, .unset, .unset, .unset] [(.long (own_m1 q2))])) rfl (hb hby d1_8) _ ?_
    show Steps p.tables e below (s₁.setTop (mkF m 11 #[.val (.long q1), .second, .val (.long q2), .second, .val (.long (own_m1 q2)), .second, .unset, .unset, .unset, .unset, .unset, .unset, .unset, .unset] [(.long (72340172838076673 : Int64)), (.long (own_m1 q2))])) _
    refine XS.lmul X0.here hx rfl (hb hby d1_11) rfl ?_
    show Steps p.tables e below (s₁.setTop (mkF m 12 #[.val (.long q1), .second, .val (.long q2), .second, .val (.long (own_m1 q2)), .second, .unset, .unset, .unset, .unset, .unset, .unset, .unset, .unset] [(.long ((own_m1 q2) * (72340172838076673 : Int64)))])) _
    refine XS.lload X0.here hx rfl (hb hby d1_12) rfl ?_
    show Steps p.tables e below (s₁.setTop (mkF m 14 #[.val (.long q1), .second, .val (.long q2), .second, .val (.long (own_m1 q2)), .second, .unset, .unset, .unset, .unset, .unset, .unset, .unset, .unset] [(.long (own_m1 q2)), (.long ((own_m1 q2) * (72340172838076673 : Int64)))])) _
    refine XS.lsub X0.here hx rfl (hb hby d1_14) rfl ?_
    show Steps p.tables e below (s₁.setTop (mkF m 15 #[.val (.long q1), .second, .val (.long q2), .second, .val (.long (own_m1 q2)), .second, .unset, .unset, .unset, .unset, .unset, .unset, .unset, .unset] [(.long (((own_m1 q2) * (72340172838076673 : Int64)) - (own_m1 q2)))])) _
    refine XS.lstore X0.here hx rfl (hb hby d1_15) rfl (l' := #[.val (.long q1), .second, .val (.long q2), .second, .val (.long (own_m1 q2)), .second, .val (.long (own_c0 q2)), .second, .unset, .unset, .unset, .unset, .unset, .unset]) rfl ?_
    show Steps p.tables e below (s₁.setTop (mkF m 17 #[.val (.long q1), .second, .val (.long q2), .second, .val (.long (own_m1 q2)), .second, .val (.long (own_c0 q2)), .second, .unset, .unset, .unset, .unset, .unset, .unset] [])) _
    refine XS.lloadN X0.here hx rfl (hb hby d1_17) rfl ?_
    show Steps p.tables e below (s₁.setTop (mkF m 18 #[.val (.long q1), .second, .val (.long q2), .second, .val (.long (own_m1 q2)), .second, .val (.long (own_c0 q2)), .second, .unset, .unset, .unset, .unset, .unset, .unset] [(.long q1)])) _
    refine XS.lload X0.here hx rfl (hb hby d1_18) rfl ?_
    show Steps p.tables e below (s₁.setTop (mkF m 20 #[.val (.long q1), .second, .val (.long q2), .second, .val (.long (own_m1 q2)), .second, .val (.long (own_c0 q2)), .second, .unset, .unset, .unset, .unset, .unset, .unset] [(.long (own_m1 q2)), (.long q1)])) _
    refine X0.ldc2Long hx hown (mvT hZ (hw _ (List.mem_of_getElem? (i := 7) rfl))) (g := (mkF m 20 #[.val (.long q1), .second, .val (.long q2), .second, .val (.long (own_m1 q2)), .second, .val (.long (own_c0 q2)), .second, .unset, .unset, .unset, .unset, .unset, .unset] [(.long (own_m1 q2)), (.long q1)])) rfl (hb hby d1_20) _ ?_
    show Steps p.tables e below (s₁.setTop (mkF m 23 #[.val (.long q1), .second, .val (.long q2), .second, .val (.long (own_m1 q2)), .second, .val (.long (own_c0 q2)), .second, .unset, .unset, .unset, .unset, .unset, .unset] [(.long (255 : Int64)), (.long (own_m1 q2)), (.long q1)])) _
    refine XS.lmul X0.here hx rfl (hb hby d1_23) rfl ?_
    show Steps p.tables e below (s₁.setTop (mkF m 24 #[.val (.long q1), .second, .val (.long q2), .second, .val (.long (own_m1 q2)), .second, .val (.long (own_c0 q2)), .second, .unset, .unset, .unset, .unset, .unset, .unset] [(.long ((own_m1 q2) * (255 : Int64))), (.long q1)])) _
    refine X0.ldc2Long hx hown (mvT hZ (hw _ (List.mem_of_getElem? (i := 8) rfl))) (g := (mkF m 24 #[.val (.long q1), .second, .val (.long q2), .second, .val (.long (own_m1 q2)), .second, .val (.long (own_c0 q2)), .second, .unset, .unset, .unset, .unset, .unset, .unset] [(.long ((own_m1 q2) * (255 : Int64))), (.long q1)])) rfl (hb hby d1_24) _ ?_
    show Steps p.tables e below (s₁.setTop (mkF m 27 #[.val (.long q1), .second, .val (.long q2), .second, .val (.long (own_m1 q2)), .second, .val (.long (own_c0 q2)), .second, .unset, .unset, .unset, .unset, .unset, .unset] [(.long (-1 : Int64)), (.long ((own_m1 q2) * (255 : Int64))), (.long q1)])) _
    refine XS.lxor X0.here hx rfl (hb hby d1_27) rfl ?_
    show Steps p.tables e below (s₁.setTop (mkF m 28 #[.val (.long q1), .second, .val (.long q2), .second, .val (.long (own_m1 q2)), .second, .val (.long (own_c0 q2)), .second, .unset, .unset, .unset, .unset, .unset, .unset] [(.long (((own_m1 q2) * (255 : Int64)) ^^^ (-1 : Int64))), (.long q1)])) _
    refine XS.land X0.here hx rfl (hb hby d1_28) rfl ?_
    show Steps p.tables e below (s₁.setTop (mkF m 29 #[.val (.long q1), .second, .val (.long q2), .second, .val (.long (own_m1 q2)), .second, .val (.long (own_c0 q2)), .second, .unset, .unset, .unset, .unset, .unset, .unset] [(.long (q1 &&& (((own_m1 q2) * (255 : Int64)) ^^^ (-1 : Int64))))])) _
    refine XS.lstore X0.here hx rfl (hb hby d1_29) rfl (l' := #[.val (.long q1), .second, .val (.long q2), .second, .val (.long (own_m1 q2)), .second, .val (.long (own_c0 q2)), .second, .val (.long (own_r0 q1 q2)), .second, .unset, .unset, .unset, .unset]) rfl ?_
    show Steps p.tables e below (s₁.setTop (mkF m 31 #[.val (.long q1), .second, .val (.long q2), .second, .val (.long (own_m1 q2)), .second, .val (.long (own_c0 q2)), .second, .val (.long (own_r0 q1 q2)), .second, .unset, .unset, .unset, .unset] [])) _
    refine XS.iconst X0.here hx rfl (hb hby d1_31) ?_
    show Steps p.tables e below (s₁.setTop (mkF m 32 #[.val (.long q1), .second, .val (.long q2), .second, .val (.long (own_m1 q2)), .second, .val (.long (own_c0 q2)), .second, .val (.long (own_r0 q1 q2)), .second, .unset, .unset, .unset, .unset] [(.int (0 : Int32))])) _
    refine XS.istore X0.here hx rfl (hb hby d1_32) rfl (l' := #[.val (.long q1), .second, .val (.long q2), .second, .val (.long (own_m1 q2)), .second, .val (.long (own_c0 q2)), .second, .val (.long (own_r0 q1 q2)), .second, .val (.int (0 : Int32)), .unset, .unset, .unset]) rfl ?_
    show Steps p.tables e below (s₁.setTop (mkF m 34 #[.val (.long q1), .second, .val (.long q2), .second, .val (.long (own_m1 q2)), .second, .val (.long (own_c0 q2)), .second, .val (.long (own_r0 q1 q2)), .second, .val (.int (0 : Int32)), .unset, .unset, .unset] [])) _
    refine XS.iload X0.here hx rfl (hb hby d1_34) rfl ?_
    show Steps p.tables e below (s₁.setTop (mkF m 36 #[.val (.long q1), .second, .val (.long q2), .second, .val (.long (own_m1 q2)), .second, .val (.long (own_c0 q2)), .second, .val (.long (own_r0 q1 q2)), .second, .val (.int (0 : Int32)), .unset, .unset, .unset] [(.int (0 : Int32))])) _
    refine XS.iconst X0.here hx rfl (hb hby d1_36) ?_
    show Steps p.tables e below (s₁.setTop (mkF m 37 #[.val (.long q1), .second, .val (.long q2), .second, .val (.long (own_m1 q2)), .second, .val (.long (own_c0 q2)), .second, .val (.long (own_r0 q1 q2)), .second, .val (.int (0 : Int32)), .unset, .unset, .unset] [(.int (3 : Int32)), (.int (0 : Int32))])) _
    refine XS.icmpNo X0.here hx rfl (hb hby d1_37) rfl (tlt (by decide : (0 : Int32) < (3 : Int32))).2.1 ?_
    show Steps p.tables e below (s₁.setTop (mkF m 40 #[.val (.long q1), .second, .val (.long q2), .second, .val (.long (own_m1 q2)), .second, .val (.long (own_c0 q2)), .second, .val (.long (own_r0 q1 q2)), .second, .val (.int (0 : Int32)), .unset, .unset, .unset] [])) _
    refine XS.lload X0.here hx rfl (hb hby d1_40) rfl ?_
    show Steps p.tables e below (s₁.setTop (mkF m 42 #[.val (.long q1), .second, .val (.long q2), .second, .val (.long (own_m1 q2)), .second, .val (.long (own_c0 q2)), .second, .val (.long (own_r0 q1 q2)), .second, .val (.int (0 : Int32)), .unset, .unset, .unset] [(.long (own_c0 q2))])) _
    refine XS.iload X0.here hx rfl (hb hby d1_42) rfl ?_
    show Steps p.tables e below (s₁.setTop (mkF m 44 #[.val (.long q1), .second, .val (.long q2), .second, .val (.long (own_m1 q2)), .second, .val (.long (own_c0 q2)), .second, .val (.long (own_r0 q1 q2)), .second, .val (.int (0 : Int32)), .unset, .unset, .unset] [(.int (0 : Int32)), (.long (own_c0 q2))])) _
    refine XS.lushr X0.here hx rfl (hb hby d1_44) rfl ?_
    show Steps p.tables e below (s₁.setTop (mkF m 45 #[.val (.long q1), .second, .val (.long q2), .second, .val (.long (own_m1 q2)), .second, .val (.long (own_c0 q2)), .second, .val (.long (own_r0 q1 q2)), .second, .val (.int (0 : Int32)), .unset, .unset, .unset] [(.long (((own_c0 q2).toUInt64 >>> ((0 : Int32) &&& 0x3f).toInt64.toUInt64).toInt64))])) _
    refine X0.ldc2Long hx hown (mvT hZ (hw _ (List.mem_of_getElem? (i := 6) rfl))) (g := (mkF m 45 #[.val (.long q1), .second, .val (.long q2), .second, .val (.long (own_m1 q2)), .second, .val (.long (own_c0 q2)), .second, .val (.long (own_r0 q1 q2)), .second, .val (.int (0 : Int32)), .unset, .unset, .unset] [(.long (((own_c0 q2).toUInt64 >>> ((0 : Int32) &&& 0x3f).toInt64.toUInt64).toInt64))])) rfl (hb hby d1_45) _ ?_
    show Steps p.tables e below (s₁.setTop (mkF m 48 #[.val (.long q1), .second, .val (.long q2), .second, .val (.long (own_m1 q2)), .second, .val (.long (own_c0 q2)), .second, .val (.long (own_r0 q1 q2)), .second, .val (.int (0 : Int32)), .unset, .unset, .unset] [(.long (72340172838076673 : Int64)), (.long (((own_c0 q2).toUInt64 >>> ((0 : Int32) &&& 0x3f).toInt64.toUInt64).toInt64))])) _
    refine XS.land X0.here hx rfl (hb hby d1_48) rfl ?_
    show Steps p.tables e below (s₁.setTop (mkF m 49 #[.val (.long q1), .second, .val (.long q2), .second, .val (.long (own_m1 q2)), .second, .val (.long (own_c0 q2)), .second, .val (.long (own_r0 q1 q2)), .second, .val (.int (0 : Int32)), .unset, .unset, .unset] [(.long ((((own_c0 q2).toUInt64 >>> ((0 : Int32) &&& 0x3f).toInt64.toUInt64).toInt64) &&& (72340172838076673 : Int64)))])) _
    refine X0.ldc2Long hx hown (mvT hZ (hw _ (List.mem_of_getElem? (i := 7) rfl))) (g := (mkF m 49 #[.val (.long q1), .second, .val (.long q2), .second, .val (.long (own_m1 q2)), .second, .val (.long (own_c0 q2)), .second, .val (.long (own_r0 q1 q2)), .second, .val (.int (0 : Int32)), .unset, .unset, .unset] [(.long ((((own_c0 q2).toUInt64 >>> ((0 : Int32) &&& 0x3f).toInt64.toUInt64).toInt64) &&& (72340172838076673 : Int64)))])) rfl (hb hby d1_49) _ ?_
    show Steps p.tables e below (s₁.setTop (mkF m 52 #[.val (.long q1), .second, .val (.long q2), .second, .val (.long (own_m1 q2)), .second, .val (.long (own_c0 q2)), .second, .val (.long (own_r0 q1 q2)), .second, .val (.int (0 : Int32)), .unset, .unset, .unset] [(.long (255 : Int64)), (.long ((((own_c0 q2).toUInt64 >>> ((0 : Int32) &&& 0x3f).toInt64.toUInt64).toInt64) &&& (72340172838076673 : Int64)))])) _
    refine XS.lmul X0.here hx rfl (hb hby d1_52) rfl ?_
    show Steps p.tables e below (s₁.setTop (mkF m 53 #[.val (.long q1), .second, .val (.long q2), .second, .val (.long (own_m1 q2)), .second, .val (.long (own_c0 q2)), .second, .val (.long (own_r0 q1 q2)), .second, .val (.int (0 : Int32)), .unset, .unset, .unset] [(.long (((((own_c0 q2).toUInt64 >>> ((0 : Int32) &&& 0x3f).toInt64.toUInt64).toInt64) &&& (72340172838076673 : Int64)) * (255 : Int64)))])) _
    refine XS.lstore X0.here hx rfl (hb hby d1_53) rfl (l' := #[.val (.long q1), .second, .val (.long q2), .second, .val (.long (own_m1 q2)), .second, .val (.long (own_c0 q2)), .second, .val (.long (own_r0 q1 q2)), .second, .val (.int (0 : Int32)), .val (.long (own_k0 q2)), .second, .unset]) rfl ?_
    show Steps p.tables e below (s₁.setTop (mkF m 55 #[.val (.long q1), .second, .val (.long q2), .second, .val (.long (own_m1 q2)), .second, .val (.long (own_c0 q2)), .second, .val (.long (own_r0 q1 q2)), .second, .val (.int (0 : Int32)), .val (.long (own_k0 q2)), .second, .unset] [])) _
    refine XS.bipush X0.here hx rfl (hb hby d1_55) ?_
    show Steps p.tables e below (s₁.setTop (mkF m 57 #[.val (.long q1), .second, .val (.long q2), .second, .val (.long (own_m1 q2)), .second, .val (.long (own_c0 q2)), .second, .val (.long (own_r0 q1 q2)), .second, .val (.int (0 : Int32)), .val (.long (own_k0 q2)), .second, .unset] [(.int (8 : Int32))])) _
    refine XS.iload X0.here hx rfl (hb hby d1_57) rfl ?_
    show Steps p.tables e below (s₁.setTop (mkF m 59 #[.val (.long q1), .second, .val (.long q2), .second, .val (.long (own_m1 q2)), .second, .val (.long (own_c0 q2)), .second, .val (.long (own_r0 q1 q2)), .second, .val (.int (0 : Int32)), .val (.long (own_k0 q2)), .second, .unset] [(.int (0 : Int32)), (.int (8 : Int32))])) _
    refine XS.ishl X0.here hx rfl (hb hby d1_59) rfl ?_
    show Steps p.tables e below (s₁.setTop (mkF m 60 #[.val (.long q1), .second, .val (.long q2), .second, .val (.long (own_m1 q2)), .second, .val (.long (own_c0 q2)), .second, .val (.long (own_r0 q1 q2)), .second, .val (.int (0 : Int32)), .val (.long (own_k0 q2)), .second, .unset] [(.int ((8 : Int32) <<< ((0 : Int32) &&& 31)))])) _
    refine XS.istore X0.here hx rfl (hb hby d1_60) rfl (l' := #[.val (.long q1), .second, .val (.long q2), .second, .val (.long (own_m1 q2)), .second, .val (.long (own_c0 q2)), .second, .val (.long (own_r0 q1 q2)), .second, .val (.int (0 : Int32)), .val (.long (own_k0 q2)), .second, .val (.int (own_sh 0))]) rfl ?_
    show Steps p.tables e below (s₁.setTop (mkF m 62 #[.val (.long q1), .second, .val (.long q2), .second, .val (.long (own_m1 q2)), .second, .val (.long (own_c0 q2)), .second, .val (.long (own_r0 q1 q2)), .second, .val (.int (0 : Int32)), .val (.long (own_k0 q2)), .second, .val (.int (own_sh 0))] [])) _
    refine XS.lload X0.here hx rfl (hb hby d1_62) rfl ?_
    show Steps p.tables e below (s₁.setTop (mkF m 64 #[.val (.long q1), .second, .val (.long q2), .second, .val (.long (own_m1 q2)), .second, .val (.long (own_c0 q2)), .second, .val (.long (own_r0 q1 q2)), .second, .val (.int (0 : Int32)), .val (.long (own_k0 q2)), .second, .val (.int (own_sh 0))] [(.long (own_r0 q1 q2))])) _
    refine XS.lload X0.here hx rfl (hb hby d1_64) rfl ?_
    show Steps p.tables e below (s₁.setTop (mkF m 66 #[.val (.long q1), .second, .val (.long q2), .second, .val (.long (own_m1 q2)), .second, .val (.long (own_c0 q2)), .second, .val (.long (own_r0 q1 q2)), .second, .val (.int (0 : Int32)), .val (.long (own_k0 q2)), .second, .val (.int (own_sh 0))] [(.long (own_k0 q2)), (.long (own_r0 q1 q2))])) _
    refine X0.ldc2Long hx hown (mvT hZ (hw _ (List.mem_of_getElem? (i := 8) rfl))) (g := (mkF m 66 #[.val (.long q1), .second, .val (.long q2), .second, .val (.long (own_m1 q2)), .second, .val (.long (own_c0 q2)), .second, .val (.long (own_r0 q1 q2)), .second, .val (.int (0 : Int32)), .val (.long (own_k0 q2)), .second, .val (.int (own_sh 0))] [(.long (own_k0 q2)), (.long (own_r0 q1 q2))])) rfl (hb hby d1_66) _ ?_
    show Steps p.tables e below (s₁.setTop (mkF m 69 #[.val (.long q1), .second, .val (.long q2), .second, .val (.long (own_m1 q2)), .second, .val (.long (own_c0 q2)), .second, .val (.long (own_r0 q1 q2)), .second, .val (.int (0 : Int32)), .val (.long (own_k0 q2)), .second, .val (.int (own_sh 0))] [(.long (-1 : Int64)), (.long (own_k0 q2)), (.long (own_r0 q1 q2))])) _
    refine XS.lxor X0.here hx rfl (hb hby d1_69) rfl ?_
    show Steps p.tables e below (s₁.setTop (mkF m 70 #[.val (.long q1), .second, .val (.long q2), .second, .val (.long (own_m1 q2)), .second, .val (.long (own_c0 q2)), .second, .val (.long (own_r0 q1 q2)), .second, .val (.int (0 : Int32)), .val (.long (own_k0 q2)), .second, .val (.int (own_sh 0))] [(.long ((own_k0 q2) ^^^ (-1 : Int64))), (.long (own_r0 q1 q2))])) _
    refine XS.land X0.here hx rfl (hb hby d1_70) rfl ?_
    show Steps p.tables e below (s₁.setTop (mkF m 71 #[.val (.long q1), .second, .val (.long q2), .second, .val (.long (own_m1 q2)), .second, .val (.long (own_c0 q2)), .second, .val (.long (own_r0 q1 q2)), .second, .val (.int (0 : Int32)), .val (.long (own_k0 q2)), .second, .val (.int (own_sh 0))] [(.long ((own_r0 q1 q2) &&& ((own_k0 q2) ^^^ (-1 : Int64))))])) _
    refine XS.lload X0.here hx rfl (hb hby d1_71) rfl ?_
    show Steps p.tables e below (s₁.setTop (mkF m 73 #[.val (.long q1), .second, .val (.long q2), .second, .val (.long (own_m1 q2)), .second, .val (.long (own_c0 q2)), .second, .val (.long (own_r0 q1 q2)), .second, .val (.int (0 : Int32)), .val (.long (own_k0 q2)), .second, .val (.int (own_sh 0))] [(.long (own_r0 q1 q2)), (.long ((own_r0 q1 q2) &&& ((own_k0 q2) ^^^ (-1 : Int64))))])) _
    refine XS.lload X0.here hx rfl (hb hby d1_73) rfl ?_
    show Steps p.tables e below (s₁.setTop (mkF m 75 #[.val (.long q1), .second, .val (.long q2), .second, .val (.long (own_m1 q2)), .second, .val (.long (own_c0 q2)), .second, .val (.long (own_r0 q1 q2)), .second, .val (.int (0 : Int32)), .val (.long (own_k0 q2)), .second, .val (.int (own_sh 0))] [(.long (own_k0 q2)), (.long (own_r0 q1 q2)), (.long ((own_r0 q1 q2) &&& ((own_k0 q2) ^^^ (-1 : Int64))))])) _
    refine XS.land X0.here hx rfl (hb hby d1_75) rfl ?_
    show Steps p.tables e below (s₁.setTop (mkF m 76 #[.val (.long q1), .second, .val (.long q2), .second, .val (.long (own_m1 q2)), .second, .val (.long (own_c0 q2)), .second, .val (.long (own_r0 q1 q2)), .second, .val (.int (0 : Int32)), .val (.long (own_k0 q2)), .second, .val (.int (own_sh 0))] [(.long ((own_r0 q1 q2) &&& (own_k0 q2))), (.long ((own_r0 q1 q2) &&& ((own_k0 q2) ^^^ (-1 : Int64))))])) _
    refine XS.iload X0.here hx rfl (hb hby d1_76) rfl ?_
    show Steps p.tables e below (s₁.setTop (mkF m 78 #[.val (.long q1), .second, .val (.long q2), .second, .val (.long (own_m1 q2)), .second, .val (.long (own_c0 q2)), .second, .val (.long (own_r0 q1 q2)), .second, .val (.int (0 : Int32)), .val (.long (own_k0 q2)), .second, .val (.int (own_sh 0))] [(.int (own_sh 0)), (.long ((own_r0 q1 q2) &&& (own_k0 q2))), (.long ((own_r0 q1 q2) &&& ((own_k0 q2) ^^^ (-1 : Int64))))])) _
    refine XS.lushr X0.here hx rfl (hb hby d1_78) rfl ?_
    show Steps p.tables e below (s₁.setTop (mkF m 79 #[.val (.long q1), .second, .val (.long q2), .second, .val (.long (own_m1 q2)), .second, .val (.long (own_c0 q2)), .second, .val (.long (own_r0 q1 q2)), .second, .val (.int (0 : Int32)), .val (.long (own_k0 q2)), .second, .val (.int (own_sh 0))] [(.long ((((own_r0 q1 q2) &&& (own_k0 q2)).toUInt64 >>> ((own_sh 0) &&& 0x3f).toInt64.toUInt64).toInt64)), (.long ((own_r0 q1 q2) &&& ((own_k0 q2) ^^^ (-1 : Int64))))])) _
    refine XS.lor X0.here hx rfl (hb hby d1_79) rfl ?_
    show Steps p.tables e below (s₁.setTop (mkF m 80 #[.val (.long q1), .second, .val (.long q2), .second, .val (.long (own_m1 q2)), .second, .val (.long (own_c0 q2)), .second, .val (.long (own_r0 q1 q2)), .second, .val (.int (0 : Int32)), .val (.long (own_k0 q2)), .second, .val (.int (own_sh 0))] [(.long (((own_r0 q1 q2) &&& ((own_k0 q2) ^^^ (-1 : Int64))) ||| ((((own_r0 q1 q2) &&& (own_k0 q2)).toUInt64 >>> ((own_sh 0) &&& 0x3f).toInt64.toUInt64).toInt64)))])) _
    refine XS.lstore X0.here hx rfl (hb hby d1_80) rfl (l' := #[.val (.long q1), .second, .val (.long q2), .second, .val (.long (own_m1 q2)), .second, .val (.long (own_c0 q2)), .second, .val (.long (own_r1 q1 q2)), .second, .val (.int (0 : Int32)), .val (.long (own_k0 q2)), .second, .val (.int (own_sh 0))]) rfl ?_
    show Steps p.tables e below (s₁.setTop (mkF m 82 #[.val (.long q1), .second, .val (.long q2), .second, .val (.long (own_m1 q2)), .second, .val (.long (own_c0 q2)), .second, .val (.long (own_r1 q1 q2)), .second, .val (.int (0 : Int32)), .val (.long (own_k0 q2)), .second, .val (.int (own_sh 0))] [])) _
    refine XS.lload X0.here hx rfl (hb hby d1_82) rfl ?_
    show Steps p.tables e below (s₁.setTop (mkF m 84 #[.val (.long q1), .second, .val (.long q2), .second, .val (.long (own_m1 q2)), .second, .val (.long (own_c0 q2)), .second, .val (.long (own_r1 q1 q2)), .second, .val (.int (0 : Int32)), .val (.long (own_k0 q2)), .second, .val (.int (own_sh 0))] [(.long (own_c0 q2))])) _
    refine XS.lload X0.here hx rfl (hb hby d1_84) rfl ?_
    show Steps p.tables e below (s₁.setTop (mkF m 86 #[.val (.long q1), .second, .val (.long q2), .second, .val (.long (own_m1 q2)), .second, .val (.long (own_c0 q2)), .second, .val (.long (own_r1 q1 q2)), .second, .val (.int (0 : Int32)), .val (.long (own_k0 q2)), .second, .val (.int (own_sh 0))] [(.long (own_k0 q2)), (.long (own_c0 q2))])) _
    refine X0.ldc2Long hx hown (mvT hZ (hw _ (List.mem_of_getElem? (i := 8) rfl))) (g := (mkF m 86 #[.val (.long q1), .second, .val (.long q2), .second, .val (.long (own_m1 q2)), .second, .val (.long (own_c0 q2)), .second, .val (.long (own_r1 q1 q2)), .second, .val (.int (0 : Int32)), .val (.long (own_k0 q2)), .second, .val (.int (own_sh 0))] [(.long (own_k0 q2)), (.long (own_c0 q2))])) rfl (hb hby d1_86) _ ?_
    show Steps p.tables e below (s₁.setTop (mkF m 89 #[.val (.long q1), .second, .val (.long q2), .second, .val (.long (own_m1 q2)), .second, .val (.long (own_c0 q2)), .second, .val (.long (own_r1 q1 q2)), .second, .val (.int (0 : Int32)), .val (.long (own_k0 q2)), .second, .val (.int (own_sh 0))] [(.long (-1 : Int64)), (.long (own_k0 q2)), (.long (own_c0 q2))])) _
    refine XS.lxor X0.here hx rfl (hb hby d1_89) rfl ?_
    show Steps p.tables e below (s₁.setTop (mkF m 90 #[.val (.long q1), .second, .val (.long q2), .second, .val (.long (own_m1 q2)), .second, .val (.long (own_c0 q2)), .second, .val (.long (own_r1 q1 q2)), .second, .val (.int (0 : Int32)), .val (.long (own_k0 q2)), .second, .val (.int (own_sh 0))] [(.long ((own_k0 q2) ^^^ (-1 : Int64))), (.long (own_c0 q2))])) _
    refine XS.land X0.here hx rfl (hb hby d1_90) rfl ?_
    show Steps p.tables e below (s₁.setTop (mkF m 91 #[.val (.long q1), .second, .val (.long q2), .second, .val (.long (own_m1 q2)), .second, .val (.long (own_c0 q2)), .second, .val (.long (own_r1 q1 q2)), .second, .val (.int (0 : Int32)), .val (.long (own_k0 q2)), .second, .val (.int (own_sh 0))] [(.long ((own_c0 q2) &&& ((own_k0 q2) ^^^ (-1 : Int64))))])) _
    refine XS.lload X0.here hx rfl (hb hby d1_91) rfl ?_
    show Steps p.tables e below (s₁.setTop (mkF m 93 #[.val (.long q1), .second, .val (.long q2), .second, .val (.long (own_m1 q2)), .second, .val (.long (own_c0 q2)), .second, .val (.long (own_r1 q1 q2)), .second, .val (.int (0 : Int32)), .val (.long (own_k0 q2)), .second, .val (.int (own_sh 0))] [(.long (own_c0 q2)), (.long ((own_c0 q2) &&& ((own_k0 q2) ^^^ (-1 : Int64))))])) _
    refine XS.lload X0.here hx rfl (hb hby d1_93) rfl ?_
    show Steps p.tables e below (s₁.setTop (mkF m 95 #[.val (.long q1), .second, .val (.long q2), .second, .val (.long (own_m1 q2)), .second, .val (.long (own_c0 q2)), .second, .val (.long (own_r1 q1 q2)), .second, .val (.int (0 : Int32)), .val (.long (own_k0 q2)), .second, .val (.int (own_sh 0))] [(.long (own_k0 q2)), (.long (own_c0 q2)), (.long ((own_c0 q2) &&& ((own_k0 q2) ^^^ (-1 : Int64))))])) _
    refine XS.land X0.here hx rfl (hb hby d1_95) rfl ?_
    show Steps p.tables e below (s₁.setTop (mkF m 96 #[.val (.long q1), .second, .val (.long q2), .second, .val (.long (own_m1 q2)), .second, .val (.long (own_c0 q2)), .second, .val (.long (own_r1 q1 q2)), .second, .val (.int (0 : Int32)), .val (.long (own_k0 q2)), .second, .val (.int (own_sh 0))] [(.long ((own_c0 q2) &&& (own_k0 q2))), (.long ((own_c0 q2) &&& ((own_k0 q2) ^^^ (-1 : Int64))))])) _
    refine XS.iload X0.here hx rfl (hb hby d1_96) rfl ?_
    show Steps p.tables e below (s₁.setTop (mkF m 98 #[.val (.long q1), .second, .val (.long q2), .second, .val (.long (own_m1 q2)), .second, .val (.long (own_c0 q2)), .second, .val (.long (own_r1 q1 q2)), .second, .val (.int (0 : Int32)), .val (.long (own_k0 q2)), .second, .val (.int (own_sh 0))] [(.int (own_sh 0)), (.long ((own_c0 q2) &&& (own_k0 q2))), (.long ((own_c0 q2) &&& ((own_k0 q2) ^^^ (-1 : Int64))))])) _
    refine XS.lushr X0.here hx rfl (hb hby d1_98) rfl ?_
    show Steps p.tables e below (s₁.setTop (mkF m 99 #[.val (.long q1), .second, .val (.long q2), .second, .val (.long (own_m1 q2)), .second, .val (.long (own_c0 q2)), .second, .val (.long (own_r1 q1 q2)), .second, .val (.int (0 : Int32)), .val (.long (own_k0 q2)), .second, .val (.int (own_sh 0))] [(.long ((((own_c0 q2) &&& (own_k0 q2)).toUInt64 >>> ((own_sh 0) &&& 0x3f).toInt64.toUInt64).toInt64)), (.long ((own_c0 q2) &&& ((own_k0 q2) ^^^ (-1 : Int64))))])) _
    refine XS.lor X0.here hx rfl (hb hby d1_99) rfl ?_
    show Steps p.tables e below (s₁.setTop (mkF m 100 #[.val (.long q1), .second, .val (.long q2), .second, .val (.long (own_m1 q2)), .second, .val (.long (own_c0 q2)), .second, .val (.long (own_r1 q1 q2)), .second, .val (.int (0 : Int32)), .val (.long (own_k0 q2)), .second, .val (.int (own_sh 0))] [(.long (((own_c0 q2) &&& ((own_k0 q2) ^^^ (-1 : Int64))) ||| ((((own_c0 q2) &&& (own_k0 q2)).toUInt64 >>> ((own_sh 0) &&& 0x3f).toInt64.toUInt64).toInt64)))])) _
    refine XS.lstore X0.here hx rfl (hb hby d1_100) rfl (l' := #[.val (.long q1), .second, .val (.long q2), .second, .val (.long (own_m1 q2)), .second, .val (.long (own_c1 q2)), .second, .val (.long (own_r1 q1 q2)), .second, .val (.int (0 : Int32)), .val (.long (own_k0 q2)), .second, .val (.int (own_sh 0))]) rfl ?_
    show Steps p.tables e below (s₁.setTop (mkF m 102 #[.val (.long q1), .second, .val (.long q2), .second, .val (.long (own_m1 q2)), .second, .val (.long (own_c1 q2)), .second, .val (.long (own_r1 q1 q2)), .second, .val (.int (0 : Int32)), .val (.long (own_k0 q2)), .second, .val (.int (own_sh 0))] [])) _
    refine XS.iinc X0.here hx rfl (hb hby d1_102) rfl (l' := #[.val (.long q1), .second, .val (.long q2), .second, .val (.long (own_m1 q2)), .second, .val (.long (own_c1 q2)), .second, .val (.long (own_r1 q1 q2)), .second, .val (.int (1 : Int32)), .val (.long (own_k0 q2)), .second, .val (.int (own_sh 0))]) rfl ?_
    show Steps p.tables e below (s₁.setTop (mkF m 105 #[.val (.long q1), .second, .val (.long q2), .second, .val (.long (own_m1 q2)), .second, .val (.long (own_c1 q2)), .second, .val (.long (own_r1 q1 q2)), .second, .val (.int (1 : Int32)), .val (.long (own_k0 q2)), .second, .val (.int (own_sh 0))] [])) _
    refine XS.goto X0.here hx rfl (pc0 := 105) (pc' := 34) rfl (hb hby d1_105) (by decide) (by decide) ?_
    show Steps p.tables e below (s₁.setTop (mkF m 34 #[.val (.long q1), .second, .val (.long q2), .second, .val (.long (own_m1 q2)), .second, .val (.long (own_c1 q2)), .second, .val (.long (own_r1 q1 q2)), .second, .val (.int (1 : Int32)), .val (.long (own_k0 q2)), .second, .val (.int (own_sh 0))] [])) _
    refine XS.iload X0.here hx rfl (hb hby d1_34) rfl ?_
    show Steps p.tables e below (s₁.setTop (mkF m 36 #[.val (.long q1), .second, .val (.long q2), .second, .val (.long (own_m1 q2)), .second, .val (.long (own_c1 q2)), .second, .val (.long (own_r1 q1 q2)), .second, .val (.int (1 : Int32)), .val (.long (own_k0 q2)), .second, .val (.int (own_sh 0))] [(.int (1 : Int32))])) _
    refine XS.iconst X0.here hx rfl (hb hby d1_36) ?_
    show Steps p.tables e below (s₁.setTop (mkF m 37 #[.val (.long q1), .second, .val (.long q2), .second, .val (.long (own_m1 q2)), .second, .val (.long (own_c1 q2)), .second, .val (.long (own_r1 q1 q2)), .second, .val (.int (1 : Int32)), .val (.long (own_k0 q2)), .second, .val (.int (own_sh 0))] [(.int (3 : Int32)), (.int (1 : Int32))])) _
    refine XS.icmpNo X0.here hx rfl (hb hby d1_37) rfl (tlt (by decide : (1 : Int32) < (3 : Int32))).2.1 ?_
    show Steps p.tables e below (s₁.setTop (mkF m 40 #[.val (.long q1), .second, .val (.long q2), .second, .val (.long (own_m1 q2)), .second, .val (.long (own_c1 q2)), .second, .val (.long (own_r1 q1 q2)), .second, .val (.int (1 : Int32)), .val (.long (own_k0 q2)), .second, .val (.int (own_sh 0))] [])) _
    refine XS.lload X0.here hx rfl (hb hby d1_40) rfl ?_
    show Steps p.tables e below (s₁.setTop (mkF m 42 #[.val (.long q1), .second, .val (.long q2), .second, .val (.long (own_m1 q2)), .second, .val (.long (own_c1 q2)), .second, .val (.long (own_r1 q1 q2)), .second, .val (.int (1 : Int32)), .val (.long (own_k0 q2)), .second, .val (.int (own_sh 0))] [(.long (own_c1 q2))])) _
    refine XS.iload X0.here hx rfl (hb hby d1_42) rfl ?_
    show Steps p.tables e below (s₁.setTop (mkF m 44 #[.val (.long q1), .second, .val (.long q2), .second, .val (.long (own_m1 q2)), .second, .val (.long (own_c1 q2)), .second, .val (.long (own_r1 q1 q2)), .second, .val (.int (1 : Int32)), .val (.long (own_k0 q2)), .second, .val (.int (own_sh 0))] [(.int (1 : Int32)), (.long (own_c1 q2))])) _
    refine XS.lushr X0.here hx rfl (hb hby d1_44) rfl ?_
    show Steps p.tables e below (s₁.setTop (mkF m 45 #[.val (.long q1), .second, .val (.long q2), .second, .val (.long (own_m1 q2)), .second, .val (.long (own_c1 q2)), .second, .val (.long (own_r1 q1 q2)), .second, .val (.int (1 : Int32)), .val (.long (own_k0 q2)), .second, .val (.int (own_sh 0))] [(.long (((own_c1 q2).toUInt64 >>> ((1 : Int32) &&& 0x3f).toInt64.toUInt64).toInt64))])) _
    refine X0.ldc2Long hx hown (mvT hZ (hw _ (List.mem_of_getElem? (i := 6) rfl))) (g := (mkF m 45 #[.val (.long q1), .second, .val (.long q2), .second, .val (.long (own_m1 q2)), .second, .val (.long (own_c1 q2)), .second, .val (.long (own_r1 q1 q2)), .second, .val (.int (1 : Int32)), .val (.long (own_k0 q2)), .second, .val (.int (own_sh 0))] [(.long (((own_c1 q2).toUInt64 >>> ((1 : Int32) &&& 0x3f).toInt64.toUInt64).toInt64))])) rfl (hb hby d1_45) _ ?_
    show Steps p.tables e below (s₁.setTop (mkF m 48 #[.val (.long q1), .second, .val (.long q2), .second, .val (.long (own_m1 q2)), .second, .val (.long (own_c1 q2)), .second, .val (.long (own_r1 q1 q2)), .second, .val (.int (1 : Int32)), .val (.long (own_k0 q2)), .second, .val (.int (own_sh 0))] [(.long (72340172838076673 : Int64)), (.long (((own_c1 q2).toUInt64 >>> ((1 : Int32) &&& 0x3f).toInt64.toUInt64).toInt64))])) _
    refine XS.land X0.here hx rfl (hb hby d1_48) rfl ?_
    show Steps p.tables e below (s₁.setTop (mkF m 49 #[.val (.long q1), .second, .val (.long q2), .second, .val (.long (own_m1 q2)), .second, .val (.long (own_c1 q2)), .second, .val (.long (own_r1 q1 q2)), .second, .val (.int (1 : Int32)), .val (.long (own_k0 q2)), .second, .val (.int (own_sh 0))] [(.long ((((own_c1 q2).toUInt64 >>> ((1 : Int32) &&& 0x3f).toInt64.toUInt64).toInt64) &&& (72340172838076673 : Int64)))])) _
    refine X0.ldc2Long hx hown (mvT hZ (hw _ (List.mem_of_getElem? (i := 7) rfl))) (g := (mkF m 49 #[.val (.long q1), .second, .val (.long q2), .second, .val (.long (own_m1 q2)), .second, .val (.long (own_c1 q2)), .second, .val (.long (own_r1 q1 q2)), .second, .val (.int (1 : Int32)), .val (.long (own_k0 q2)), .second, .val (.int (own_sh 0))] [(.long ((((own_c1 q2).toUInt64 >>> ((1 : Int32) &&& 0x3f).toInt64.toUInt64).toInt64) &&& (72340172838076673 : Int64)))])) rfl (hb hby d1_49) _ ?_
    show Steps p.tables e below (s₁.setTop (mkF m 52 #[.val (.long q1), .second, .val (.long q2), .second, .val (.long (own_m1 q2)), .second, .val (.long (own_c1 q2)), .second, .val (.long (own_r1 q1 q2)), .second, .val (.int (1 : Int32)), .val (.long (own_k0 q2)), .second, .val (.int (own_sh 0))] [(.long (255 : Int64)), (.long ((((own_c1 q2).toUInt64 >>> ((1 : Int32) &&& 0x3f).toInt64.toUInt64).toInt64) &&& (72340172838076673 : Int64)))])) _
    refine XS.lmul X0.here hx rfl (hb hby d1_52) rfl ?_
    show Steps p.tables e below (s₁.setTop (mkF m 53 #[.val (.long q1), .second, .val (.long q2), .second, .val (.long (own_m1 q2)), .second, .val (.long (own_c1 q2)), .second, .val (.long (own_r1 q1 q2)), .second, .val (.int (1 : Int32)), .val (.long (own_k0 q2)), .second, .val (.int (own_sh 0))] [(.long (((((own_c1 q2).toUInt64 >>> ((1 : Int32) &&& 0x3f).toInt64.toUInt64).toInt64) &&& (72340172838076673 : Int64)) * (255 : Int64)))])) _
    refine XS.lstore X0.here hx rfl (hb hby d1_53) rfl (l' := #[.val (.long q1), .second, .val (.long q2), .second, .val (.long (own_m1 q2)), .second, .val (.long (own_c1 q2)), .second, .val (.long (own_r1 q1 q2)), .second, .val (.int (1 : Int32)), .val (.long (own_k1 q2)), .second, .val (.int (own_sh 0))]) rfl ?_
    show Steps p.tables e below (s₁.setTop (mkF m 55 #[.val (.long q1), .second, .val (.long q2), .second, .val (.long (own_m1 q2)), .second, .val (.long (own_c1 q2)), .second, .val (.long (own_r1 q1 q2)), .second, .val (.int (1 : Int32)), .val (.long (own_k1 q2)), .second, .val (.int (own_sh 0))] [])) _
    refine XS.bipush X0.here hx rfl (hb hby d1_55) ?_
    show Steps p.tables e below (s₁.setTop (mkF m 57 #[.val (.long q1), .second, .val (.long q2), .second, .val (.long (own_m1 q2)), .second, .val (.long (own_c1 q2)), .second, .val (.long (own_r1 q1 q2)), .second, .val (.int (1 : Int32)), .val (.long (own_k1 q2)), .second, .val (.int (own_sh 0))] [(.int (8 : Int32))])) _
    refine XS.iload X0.here hx rfl (hb hby d1_57) rfl ?_
    show Steps p.tables e below (s₁.setTop (mkF m 59 #[.val (.long q1), .second, .val (.long q2), .second, .val (.long (own_m1 q2)), .second, .val (.long (own_c1 q2)), .second, .val (.long (own_r1 q1 q2)), .second, .val (.int (1 : Int32)), .val (.long (own_k1 q2)), .second, .val (.int (own_sh 0))] [(.int (1 : Int32)), (.int (8 : Int32))])) _
    refine XS.ishl X0.here hx rfl (hb hby d1_59) rfl ?_
    show Steps p.tables e below (s₁.setTop (mkF m 60 #[.val (.long q1), .second, .val (.long q2), .second, .val (.long (own_m1 q2)), .second, .val (.long (own_c1 q2)), .second, .val (.long (own_r1 q1 q2)), .second, .val (.int (1 : Int32)), .val (.long (own_k1 q2)), .second, .val (.int (own_sh 0))] [(.int ((8 : Int32) <<< ((1 : Int32) &&& 31)))])) _
    refine XS.istore X0.here hx rfl (hb hby d1_60) rfl (l' := #[.val (.long q1), .second, .val (.long q2), .second, .val (.long (own_m1 q2)), .second, .val (.long (own_c1 q2)), .second, .val (.long (own_r1 q1 q2)), .second, .val (.int (1 : Int32)), .val (.long (own_k1 q2)), .second, .val (.int (own_sh 1))]) rfl ?_
    show Steps p.tables e below (s₁.setTop (mkF m 62 #[.val (.long q1), .second, .val (.long q2), .second, .val (.long (own_m1 q2)), .second, .val (.long (own_c1 q2)), .second, .val (.long (own_r1 q1 q2)), .second, .val (.int (1 : Int32)), .val (.long (own_k1 q2)), .second, .val (.int (own_sh 1))] [])) _
    refine XS.lload X0.here hx rfl (hb hby d1_62) rfl ?_
    show Steps p.tables e below (s₁.setTop (mkF m 64 #[.val (.long q1), .second, .val (.long q2), .second, .val (.long (own_m1 q2)), .second, .val (.long (own_c1 q2)), .second, .val (.long (own_r1 q1 q2)), .second, .val (.int (1 : Int32)), .val (.long (own_k1 q2)), .second, .val (.int (own_sh 1))] [(.long (own_r1 q1 q2))])) _
    refine XS.lload X0.here hx rfl (hb hby d1_64) rfl ?_
    show Steps p.tables e below (s₁.setTop (mkF m 66 #[.val (.long q1), .second, .val (.long q2), .second, .val (.long (own_m1 q2)), .second, .val (.long (own_c1 q2)), .second, .val (.long (own_r1 q1 q2)), .second, .val (.int (1 : Int32)), .val (.long (own_k1 q2)), .second, .val (.int (own_sh 1))] [(.long (own_k1 q2)), (.long (own_r1 q1 q2))])) _
    refine X0.ldc2Long hx hown (mvT hZ (hw _ (List.mem_of_getElem? (i := 8) rfl))) (g := (mkF m 66 #[.val (.long q1), .second, .val (.long q2), .second, .val (.long (own_m1 q2)), .second, .val (.long (own_c1 q2)), .second, .val (.long (own_r1 q1 q2)), .second, .val (.int (1 : Int32)), .val (.long (own_k1 q2)), .second, .val (.int (own_sh 1))] [(.long (own_k1 q2)), (.long (own_r1 q1 q2))])) rfl (hb hby d1_66) _ ?_
    show Steps p.tables e below (s₁.setTop (mkF m 69 #[.val (.long q1), .second, .val (.long q2), .second, .val (.long (own_m1 q2)), .second, .val (.long (own_c1 q2)), .second, .val (.long (own_r1 q1 q2)), .second, .val (.int (1 : Int32)), .val (.long (own_k1 q2)), .second, .val (.int (own_sh 1))] [(.long (-1 : Int64)), (.long (own_k1 q2)), (.long (own_r1 q1 q2))])) _
    refine XS.lxor X0.here hx rfl (hb hby d1_69) rfl ?_
    show Steps p.tables e below (s₁.setTop (mkF m 70 #[.val (.long q1), .second, .val (.long q2), .second, .val (.long (own_m1 q2)), .second, .val (.long (own_c1 q2)), .second, .val (.long (own_r1 q1 q2)), .second, .val (.int (1 : Int32)), .val (.long (own_k1 q2)), .second, .val (.int (own_sh 1))] [(.long ((own_k1 q2) ^^^ (-1 : Int64))), (.long (own_r1 q1 q2))])) _
    refine XS.land X0.here hx rfl (hb hby d1_70) rfl ?_
    show Steps p.tables e below (s₁.setTop (mkF m 71 #[.val (.long q1), .second, .val (.long q2), .second, .val (.long (own_m1 q2)), .second, .val (.long (own_c1 q2)), .second, .val (.long (own_r1 q1 q2)), .second, .val (.int (1 : Int32)), .val (.long (own_k1 q2)), .second, .val (.int (own_sh 1))] [(.long ((own_r1 q1 q2) &&& ((own_k1 q2) ^^^ (-1 : Int64))))])) _
    refine XS.lload X0.here hx rfl (hb hby d1_71) rfl ?_
    show Steps p.tables e below (s₁.setTop (mkF m 73 #[.val (.long q1), .second, .val (.long q2), .second, .val (.long (own_m1 q2)), .second, .val (.long (own_c1 q2)), .second, .val (.long (own_r1 q1 q2)), .second, .val (.int (1 : Int32)), .val (.long (own_k1 q2)), .second, .val (.int (own_sh 1))] [(.long (own_r1 q1 q2)), (.long ((own_r1 q1 q2) &&& ((own_k1 q2) ^^^ (-1 : Int64))))])) _
    refine XS.lload X0.here hx rfl (hb hby d1_73) rfl ?_
    show Steps p.tables e below (s₁.setTop (mkF m 75 #[.val (.long q1), .second, .val (.long q2), .second, .val (.long (own_m1 q2)), .second, .val (.long (own_c1 q2)), .second, .val (.long (own_r1 q1 q2)), .second, .val (.int (1 : Int32)), .val (.long (own_k1 q2)), .second, .val (.int (own_sh 1))] [(.long (own_k1 q2)), (.long (own_r1 q1 q2)), (.long ((own_r1 q1 q2) &&& ((own_k1 q2) ^^^ (-1 : Int64))))])) _
    refine XS.land X0.here hx rfl (hb hby d1_75) rfl ?_
    show Steps p.tables e below (s₁.setTop (mkF m 76 #[.val (.long q1), .second, .val (.long q2), .second, .val (.long (own_m1 q2)), .second, .val (.long (own_c1 q2)), .second, .val (.long (own_r1 q1 q2)), .second, .val (.int (1 : Int32)), .val (.long (own_k1 q2)), .second, .val (.int (own_sh 1))] [(.long ((own_r1 q1 q2) &&& (own_k1 q2))), (.long ((own_r1 q1 q2) &&& ((own_k1 q2) ^^^ (-1 : Int64))))])) _
    refine XS.iload X0.here hx rfl (hb hby d1_76) rfl ?_
    show Steps p.tables e below (s₁.setTop (mkF m 78 #[.val (.long q1), .second, .val (.long q2), .second, .val (.long (own_m1 q2)), .second, .val (.long (own_c1 q2)), .second, .val (.long (own_r1 q1 q2)), .second, .val (.int (1 : Int32)), .val (.long (own_k1 q2)), .second, .val (.int (own_sh 1))] [(.int (own_sh 1)), (.long ((own_r1 q1 q2) &&& (own_k1 q2))), (.long ((own_r1 q1 q2) &&& ((own_k1 q2) ^^^ (-1 : Int64))))])) _
    refine XS.lushr X0.here hx rfl (hb hby d1_78) rfl ?_
    show Steps p.tables e below (s₁.setTop (mkF m 79 #[.val (.long q1), .second, .val (.long q2), .second, .val (.long (own_m1 q2)), .second, .val (.long (own_c1 q2)), .second, .val (.long (own_r1 q1 q2)), .second, .val (.int (1 : Int32)), .val (.long (own_k1 q2)), .second, .val (.int (own_sh 1))] [(.long ((((own_r1 q1 q2) &&& (own_k1 q2)).toUInt64 >>> ((own_sh 1) &&& 0x3f).toInt64.toUInt64).toInt64)), (.long ((own_r1 q1 q2) &&& ((own_k1 q2) ^^^ (-1 : Int64))))])) _
    refine XS.lor X0.here hx rfl (hb hby d1_79) rfl ?_
    show Steps p.tables e below (s₁.setTop (mkF m 80 #[.val (.long q1), .second, .val (.long q2), .second, .val (.long (own_m1 q2)), .second, .val (.long (own_c1 q2)), .second, .val (.long (own_r1 q1 q2)), .second, .val (.int (1 : Int32)), .val (.long (own_k1 q2)), .second, .val (.int (own_sh 1))] [(.long (((own_r1 q1 q2) &&& ((own_k1 q2) ^^^ (-1 : Int64))) ||| ((((own_r1 q1 q2) &&& (own_k1 q2)).toUInt64 >>> ((own_sh 1) &&& 0x3f).toInt64.toUInt64).toInt64)))])) _
    refine XS.lstore X0.here hx rfl (hb hby d1_80) rfl (l' := #[.val (.long q1), .second, .val (.long q2), .second, .val (.long (own_m1 q2)), .second, .val (.long (own_c1 q2)), .second, .val (.long (own_r2 q1 q2)), .second, .val (.int (1 : Int32)), .val (.long (own_k1 q2)), .second, .val (.int (own_sh 1))]) rfl ?_
    show Steps p.tables e below (s₁.setTop (mkF m 82 #[.val (.long q1), .second, .val (.long q2), .second, .val (.long (own_m1 q2)), .second, .val (.long (own_c1 q2)), .second, .val (.long (own_r2 q1 q2)), .second, .val (.int (1 : Int32)), .val (.long (own_k1 q2)), .second, .val (.int (own_sh 1))] [])) _
    refine XS.lload X0.here hx rfl (hb hby d1_82) rfl ?_
    show Steps p.tables e below (s₁.setTop (mkF m 84 #[.val (.long q1), .second, .val (.long q2), .second, .val (.long (own_m1 q2)), .second, .val (.long (own_c1 q2)), .second, .val (.long (own_r2 q1 q2)), .second, .val (.int (1 : Int32)), .val (.long (own_k1 q2)), .second, .val (.int (own_sh 1))] [(.long (own_c1 q2))])) _
    refine XS.lload X0.here hx rfl (hb hby d1_84) rfl ?_
    show Steps p.tables e below (s₁.setTop (mkF m 86 #[.val (.long q1), .second, .val (.long q2), .second, .val (.long (own_m1 q2)), .second, .val (.long (own_c1 q2)), .second, .val (.long (own_r2 q1 q2)), .second, .val (.int (1 : Int32)), .val (.long (own_k1 q2)), .second, .val (.int (own_sh 1))] [(.long (own_k1 q2)), (.long (own_c1 q2))])) _
    refine X0.ldc2Long hx hown (mvT hZ (hw _ (List.mem_of_getElem? (i := 8) rfl))) (g := (mkF m 86 #[.val (.long q1), .second, .val (.long q2), .second, .val (.long (own_m1 q2)), .second, .val (.long (own_c1 q2)), .second, .val (.long (own_r2 q1 q2)), .second, .val (.int (1 : Int32)), .val (.long (own_k1 q2)), .second, .val (.int (own_sh 1))] [(.long (own_k1 q2)), (.long (own_c1 q2))])) rfl (hb hby d1_86) _ ?_
    show Steps p.tables e below (s₁.setTop (mkF m 89 #[.val (.long q1), .second, .val (.long q2), .second, .val (.long (own_m1 q2)), .second, .val (.long (own_c1 q2)), .second, .val (.long (own_r2 q1 q2)), .second, .val (.int (1 : Int32)), .val (.long (own_k1 q2)), .second, .val (.int (own_sh 1))] [(.long (-1 : Int64)), (.long (own_k1 q2)), (.long (own_c1 q2))])) _
    refine XS.lxor X0.here hx rfl (hb hby d1_89) rfl ?_
    show Steps p.tables e below (s₁.setTop (mkF m 90 #[.val (.long q1), .second, .val (.long q2), .second, .val (.long (own_m1 q2)), .second, .val (.long (own_c1 q2)), .second, .val (.long (own_r2 q1 q2)), .second, .val (.int (1 : Int32)), .val (.long (own_k1 q2)), .second, .val (.int (own_sh 1))] [(.long ((own_k1 q2) ^^^ (-1 : Int64))), (.long (own_c1 q2))])) _
    refine XS.land X0.here hx rfl (hb hby d1_90) rfl ?_
    show Steps p.tables e below (s₁.setTop (mkF m 91 #[.val (.long q1), .second, .val (.long q2), .second, .val (.long (own_m1 q2)), .second, .val (.long (own_c1 q2)), .second, .val (.long (own_r2 q1 q2)), .second, .val (.int (1 : Int32)), .val (.long (own_k1 q2)), .second, .val (.int (own_sh 1))] [(.long ((own_c1 q2) &&& ((own_k1 q2) ^^^ (-1 : Int64))))])) _
    refine XS.lload X0.here hx rfl (hb hby d1_91) rfl ?_
    show Steps p.tables e below (s₁.setTop (mkF m 93 #[.val (.long q1), .second, .val (.long q2), .second, .val (.long (own_m1 q2)), .second, .val (.long (own_c1 q2)), .second, .val (.long (own_r2 q1 q2)), .second, .val (.int (1 : Int32)), .val (.long (own_k1 q2)), .second, .val (.int (own_sh 1))] [(.long (own_c1 q2)), (.long ((own_c1 q2) &&& ((own_k1 q2) ^^^ (-1 : Int64))))])) _
    refine XS.lload X0.here hx rfl (hb hby d1_93) rfl ?_
    show Steps p.tables e below (s₁.setTop (mkF m 95 #[.val (.long q1), .second, .val (.long q2), .second, .val (.long (own_m1 q2)), .second, .val (.long (own_c1 q2)), .second, .val (.long (own_r2 q1 q2)), .second, .val (.int (1 : Int32)), .val (.long (own_k1 q2)), .second, .val (.int (own_sh 1))] [(.long (own_k1 q2)), (.long (own_c1 q2)), (.long ((own_c1 q2) &&& ((own_k1 q2) ^^^ (-1 : Int64))))])) _
    refine XS.land X0.here hx rfl (hb hby d1_95) rfl ?_
    show Steps p.tables e below (s₁.setTop (mkF m 96 #[.val (.long q1), .second, .val (.long q2), .second, .val (.long (own_m1 q2)), .second, .val (.long (own_c1 q2)), .second, .val (.long (own_r2 q1 q2)), .second, .val (.int (1 : Int32)), .val (.long (own_k1 q2)), .second, .val (.int (own_sh 1))] [(.long ((own_c1 q2) &&& (own_k1 q2))), (.long ((own_c1 q2) &&& ((own_k1 q2) ^^^ (-1 : Int64))))])) _
    refine XS.iload X0.here hx rfl (hb hby d1_96) rfl ?_
    show Steps p.tables e below (s₁.setTop (mkF m 98 #[.val (.long q1), .second, .val (.long q2), .second, .val (.long (own_m1 q2)), .second, .val (.long (own_c1 q2)), .second, .val (.long (own_r2 q1 q2)), .second, .val (.int (1 : Int32)), .val (.long (own_k1 q2)), .second, .val (.int (own_sh 1))] [(.int (own_sh 1)), (.long ((own_c1 q2) &&& (own_k1 q2))), (.long ((own_c1 q2) &&& ((own_k1 q2) ^^^ (-1 : Int64))))])) _
    refine XS.lushr X0.here hx rfl (hb hby d1_98) rfl ?_
    show Steps p.tables e below (s₁.setTop (mkF m 99 #[.val (.long q1), .second, .val (.long q2), .second, .val (.long (own_m1 q2)), .second, .val (.long (own_c1 q2)), .second, .val (.long (own_r2 q1 q2)), .second, .val (.int (1 : Int32)), .val (.long (own_k1 q2)), .second, .val (.int (own_sh 1))] [(.long ((((own_c1 q2) &&& (own_k1 q2)).toUInt64 >>> ((own_sh 1) &&& 0x3f).toInt64.toUInt64).toInt64)), (.long ((own_c1 q2) &&& ((own_k1 q2) ^^^ (-1 : Int64))))])) _
    refine XS.lor X0.here hx rfl (hb hby d1_99) rfl ?_
    show Steps p.tables e below (s₁.setTop (mkF m 100 #[.val (.long q1), .second, .val (.long q2), .second, .val (.long (own_m1 q2)), .second, .val (.long (own_c1 q2)), .second, .val (.long (own_r2 q1 q2)), .second, .val (.int (1 : Int32)), .val (.long (own_k1 q2)), .second, .val (.int (own_sh 1))] [(.long (((own_c1 q2) &&& ((own_k1 q2) ^^^ (-1 : Int64))) ||| ((((own_c1 q2) &&& (own_k1 q2)).toUInt64 >>> ((own_sh 1) &&& 0x3f).toInt64.toUInt64).toInt64)))])) _
    refine XS.lstore X0.here hx rfl (hb hby d1_100) rfl (l' := #[.val (.long q1), .second, .val (.long q2), .second, .val (.long (own_m1 q2)), .second, .val (.long (own_c2 q2)), .second, .val (.long (own_r2 q1 q2)), .second, .val (.int (1 : Int32)), .val (.long (own_k1 q2)), .second, .val (.int (own_sh 1))]) rfl ?_
    show Steps p.tables e below (s₁.setTop (mkF m 102 #[.val (.long q1), .second, .val (.long q2), .second, .val (.long (own_m1 q2)), .second, .val (.long (own_c2 q2)), .second, .val (.long (own_r2 q1 q2)), .second, .val (.int (1 : Int32)), .val (.long (own_k1 q2)), .second, .val (.int (own_sh 1))] [])) _
    refine XS.iinc X0.here hx rfl (hb hby d1_102) rfl (l' := #[.val (.long q1), .second, .val (.long q2), .second, .val (.long (own_m1 q2)), .second, .val (.long (own_c2 q2)), .second, .val (.long (own_r2 q1 q2)), .second, .val (.int (2 : Int32)), .val (.long (own_k1 q2)), .second, .val (.int (own_sh 1))]) rfl ?_
    show Steps p.tables e below (s₁.setTop (mkF m 105 #[.val (.long q1), .second, .val (.long q2), .second, .val (.long (own_m1 q2)), .second, .val (.long (own_c2 q2)), .second, .val (.long (own_r2 q1 q2)), .second, .val (.int (2 : Int32)), .val (.long (own_k1 q2)), .second, .val (.int (own_sh 1))] [])) _
    refine XS.goto X0.here hx rfl (pc0 := 105) (pc' := 34) rfl (hb hby d1_105) (by decide) (by decide) ?_
    show Steps p.tables e below (s₁.setTop (mkF m 34 #[.val (.long q1), .second, .val (.long q2), .second, .val (.long (own_m1 q2)), .second, .val (.long (own_c2 q2)), .second, .val (.long (own_r2 q1 q2)), .second, .val (.int (2 : Int32)), .val (.long (own_k1 q2)), .second, .val (.int (own_sh 1))] [])) _
    refine XS.iload X0.here hx rfl (hb hby d1_34) rfl ?_
    show Steps p.tables e below (s₁.setTop (mkF m 36 #[.val (.long q1), .second, .val (.long q2), .second, .val (.long (own_m1 q2)), .second, .val (.long (own_c2 q2)), .second, .val (.long (own_r2 q1 q2)), .second, .val (.int (2 : Int32)), .val (.long (own_k1 q2)), .second, .val (.int (own_sh 1))] [(.int (2 : Int32))])) _
    refine XS.iconst X0.here hx rfl (hb hby d1_36) ?_
    show Steps p.tables e below (s₁.setTop (mkF m 37 #[.val (.long q1), .second, .val (.long q2), .second, .val (.long (own_m1 q2)), .second, .val (.long (own_c2 q2)), .second, .val (.long (own_r2 q1 q2)), .second, .val (.int (2 : Int32)), .val (.long (own_k1 q2)), .second, .val (.int (own_sh 1))] [(.int (3 : Int32)), (.int (2 : Int32))])) _
    refine XS.icmpNo X0.here hx rfl (hb hby d1_37) rfl (tlt (by decide : (2 : Int32) < (3 : Int32))).2.1 ?_
    show Steps p.tables e below (s₁.setTop (mkF m 40 #[.val (.long q1), .second, .val (.long q2), .second, .val (.long (own_m1 q2)), .second, .val (.long (own_c2 q2)), .second, .val (.long (own_r2 q1 q2)), .second, .val (.int (2 : Int32)), .val (.long (own_k1 q2)), .second, .val (.int (own_sh 1))] [])) _
    refine XS.lload X0.here hx rfl (hb hby d1_40) rfl ?_
    show Steps p.tables e below (s₁.setTop (mkF m 42 #[.val (.long q1), .second, .val (.long q2), .second, .val (.long (own_m1 q2)), .second, .val (.long (own_c2 q2)), .second, .val (.long (own_r2 q1 q2)), .second, .val (.int (2 : Int32)), .val (.long (own_k1 q2)), .second, .val (.int (own_sh 1))] [(.long (own_c2 q2))])) _
    refine XS.iload X0.here hx rfl (hb hby d1_42) rfl ?_
    show Steps p.tables e below (s₁.setTop (mkF m 44 #[.val (.long q1), .second, .val (.long q2), .second, .val (.long (own_m1 q2)), .second, .val (.long (own_c2 q2)), .second, .val (.long (own_r2 q1 q2)), .second, .val (.int (2 : Int32)), .val (.long (own_k1 q2)), .second, .val (.int (own_sh 1))] [(.int (2 : Int32)), (.long (own_c2 q2))])) _
    refine XS.lushr X0.here hx rfl (hb hby d1_44) rfl ?_
    show Steps p.tables e below (s₁.setTop (mkF m 45 #[.val (.long q1), .second, .val (.long q2), .second, .val (.long (own_m1 q2)), .second, .val (.long (own_c2 q2)), .second, .val (.long (own_r2 q1 q2)), .second, .val (.int (2 : Int32)), .val (.long (own_k1 q2)), .second, .val (.int (own_sh 1))] [(.long (((own_c2 q2).toUInt64 >>> ((2 : Int32) &&& 0x3f).toInt64.toUInt64).toInt64))])) _
    refine X0.ldc2Long hx hown (mvT hZ (hw _ (List.mem_of_getElem? (i := 6) rfl))) (g := (mkF m 45 #[.val (.long q1), .second, .val (.long q2), .second, .val (.long (own_m1 q2)), .second, .val (.long (own_c2 q2)), .second, .val (.long (own_r2 q1 q2)), .second, .val (.int (2 : Int32)), .val (.long (own_k1 q2)), .second, .val (.int (own_sh 1))] [(.long (((own_c2 q2).toUInt64 >>> ((2 : Int32) &&& 0x3f).toInt64.toUInt64).toInt64))])) rfl (hb hby d1_45) _ ?_
    show Steps p.tables e below (s₁.setTop (mkF m 48 #[.val (.long q1), .second, .val (.long q2), .second, .val (.long (own_m1 q2)), .second, .val (.long (own_c2 q2)), .second, .val (.long (own_r2 q1 q2)), .second, .val (.int (2 : Int32)), .val (.long (own_k1 q2)), .second, .val (.int (own_sh 1))] [(.long (72340172838076673 : Int64)), (.long (((own_c2 q2).toUInt64 >>> ((2 : Int32) &&& 0x3f).toInt64.toUInt64).toInt64))])) _
    refine XS.land X0.here hx rfl (hb hby d1_48) rfl ?_
    show Steps p.tables e below (s₁.setTop (mkF m 49 #[.val (.long q1), .second, .val (.long q2), .second, .val (.long (own_m1 q2)), .second, .val (.long (own_c2 q2)), .second, .val (.long (own_r2 q1 q2)), .second, .val (.int (2 : Int32)), .val (.long (own_k1 q2)), .second, .val (.int (own_sh 1))] [(.long ((((own_c2 q2).toUInt64 >>> ((2 : Int32) &&& 0x3f).toInt64.toUInt64).toInt64) &&& (72340172838076673 : Int64)))])) _
    refine X0.ldc2Long hx hown (mvT hZ (hw _ (List.mem_of_getElem? (i := 7) rfl))) (g := (mkF m 49 #[.val (.long q1), .second, .val (.long q2), .second, .val (.long (own_m1 q2)), .second, .val (.long (own_c2 q2)), .second, .val (.long (own_r2 q1 q2)), .second, .val (.int (2 : Int32)), .val (.long (own_k1 q2)), .second, .val (.int (own_sh 1))] [(.long ((((own_c2 q2).toUInt64 >>> ((2 : Int32) &&& 0x3f).toInt64.toUInt64).toInt64) &&& (72340172838076673 : Int64)))])) rfl (hb hby d1_49) _ ?_
    show Steps p.tables e below (s₁.setTop (mkF m 52 #[.val (.long q1), .second, .val (.long q2), .second, .val (.long (own_m1 q2)), .second, .val (.long (own_c2 q2)), .second, .val (.long (own_r2 q1 q2)), .second, .val (.int (2 : Int32)), .val (.long (own_k1 q2)), .second, .val (.int (own_sh 1))] [(.long (255 : Int64)), (.long ((((own_c2 q2).toUInt64 >>> ((2 : Int32) &&& 0x3f).toInt64.toUInt64).toInt64) &&& (72340172838076673 : Int64)))])) _
    refine XS.lmul X0.here hx rfl (hb hby d1_52) rfl ?_
    show Steps p.tables e below (s₁.setTop (mkF m 53 #[.val (.long q1), .second, .val (.long q2), .second, .val (.long (own_m1 q2)), .second, .val (.long (own_c2 q2)), .second, .val (.long (own_r2 q1 q2)), .second, .val (.int (2 : Int32)), .val (.long (own_k1 q2)), .second, .val (.int (own_sh 1))] [(.long (((((own_c2 q2).toUInt64 >>> ((2 : Int32) &&& 0x3f).toInt64.toUInt64).toInt64) &&& (72340172838076673 : Int64)) * (255 : Int64)))])) _
    refine XS.lstore X0.here hx rfl (hb hby d1_53) rfl (l' := #[.val (.long q1), .second, .val (.long q2), .second, .val (.long (own_m1 q2)), .second, .val (.long (own_c2 q2)), .second, .val (.long (own_r2 q1 q2)), .second, .val (.int (2 : Int32)), .val (.long (own_k2 q2)), .second, .val (.int (own_sh 1))]) rfl ?_
    show Steps p.tables e below (s₁.setTop (mkF m 55 #[.val (.long q1), .second, .val (.long q2), .second, .val (.long (own_m1 q2)), .second, .val (.long (own_c2 q2)), .second, .val (.long (own_r2 q1 q2)), .second, .val (.int (2 : Int32)), .val (.long (own_k2 q2)), .second, .val (.int (own_sh 1))] [])) _
    refine XS.bipush X0.here hx rfl (hb hby d1_55) ?_
    show Steps p.tables e below (s₁.setTop (mkF m 57 #[.val (.long q1), .second, .val (.long q2), .second, .val (.long (own_m1 q2)), .second, .val (.long (own_c2 q2)), .second, .val (.long (own_r2 q1 q2)), .second, .val (.int (2 : Int32)), .val (.long (own_k2 q2)), .second, .val (.int (own_sh 1))] [(.int (8 : Int32))])) _
    refine XS.iload X0.here hx rfl (hb hby d1_57) rfl ?_
    show Steps p.tables e below (s₁.setTop (mkF m 59 #[.val (.long q1), .second, .val (.long q2), .second, .val (.long (own_m1 q2)), .second, .val (.long (own_c2 q2)), .second, .val (.long (own_r2 q1 q2)), .second, .val (.int (2 : Int32)), .val (.long (own_k2 q2)), .second, .val (.int (own_sh 1))] [(.int (2 : Int32)), (.int (8 : Int32))])) _
    refine XS.ishl X0.here hx rfl (hb hby d1_59) rfl ?_
    show Steps p.tables e below (s₁.setTop (mkF m 60 #[.val (.long q1), .second, .val (.long q2), .second, .val (.long (own_m1 q2)), .second, .val (.long (own_c2 q2)), .second, .val (.long (own_r2 q1 q2)), .second, .val (.int (2 : Int32)), .val (.long (own_k2 q2)), .second, .val (.int (own_sh 1))] [(.int ((8 : Int32) <<< ((2 : Int32) &&& 31)))])) _
    refine XS.istore X0.here hx rfl (hb hby d1_60) rfl (l' := #[.val (.long q1), .second, .val (.long q2), .second, .val (.long (own_m1 q2)), .second, .val (.long (own_c2 q2)), .second, .val (.long (own_r2 q1 q2)), .second, .val (.int (2 : Int32)), .val (.long (own_k2 q2)), .second, .val (.int (own_sh 2))]) rfl ?_
    show Steps p.tables e below (s₁.setTop (mkF m 62 #[.val (.long q1), .second, .val (.long q2), .second, .val (.long (own_m1 q2)), .second, .val (.long (own_c2 q2)), .second, .val (.long (own_r2 q1 q2)), .second, .val (.int (2 : Int32)), .val (.long (own_k2 q2)), .second, .val (.int (own_sh 2))] [])) _
    refine XS.lload X0.here hx rfl (hb hby d1_62) rfl ?_
    show Steps p.tables e below (s₁.setTop (mkF m 64 #[.val (.long q1), .second, .val (.long q2), .second, .val (.long (own_m1 q2)), .second, .val (.long (own_c2 q2)), .second, .val (.long (own_r2 q1 q2)), .second, .val (.int (2 : Int32)), .val (.long (own_k2 q2)), .second, .val (.int (own_sh 2))] [(.long (own_r2 q1 q2))])) _
    refine XS.lload X0.here hx rfl (hb hby d1_64) rfl ?_
    show Steps p.tables e below (s₁.setTop (mkF m 66 #[.val (.long q1), .second, .val (.long q2), .second, .val (.long (own_m1 q2)), .second, .val (.long (own_c2 q2)), .second, .val (.long (own_r2 q1 q2)), .second, .val (.int (2 : Int32)), .val (.long (own_k2 q2)), .second, .val (.int (own_sh 2))] [(.long (own_k2 q2)), (.long (own_r2 q1 q2))])) _
    refine X0.ldc2Long hx hown (mvT hZ (hw _ (List.mem_of_getElem? (i := 8) rfl))) (g := (mkF m 66 #[.val (.long q1), .second, .val (.long q2), .second, .val (.long (own_m1 q2)), .second, .val (.long (own_c2 q2)), .second, .val (.long (own_r2 q1 q2)), .second, .val (.int (2 : Int32)), .val (.long (own_k2 q2)), .second, .val (.int (own_sh 2))] [(.long (own_k2 q2)), (.long (own_r2 q1 q2))])) rfl (hb hby d1_66) _ ?_
    show Steps p.tables e below (s₁.setTop (mkF m 69 #[.val (.long q1), .second, .val (.long q2), .second, .val (.long (own_m1 q2)), .second, .val (.long (own_c2 q2)), .second, .val (.long (own_r2 q1 q2)), .second, .val (.int (2 : Int32)), .val (.long (own_k2 q2)), .second, .val (.int (own_sh 2))] [(.long (-1 : Int64)), (.long (own_k2 q2)), (.long (own_r2 q1 q2))])) _
    refine XS.lxor X0.here hx rfl (hb hby d1_69) rfl ?_
    show Steps p.tables e below (s₁.setTop (mkF m 70 #[.val (.long q1), .second, .val (.long q2), .second, .val (.long (own_m1 q2)), .second, .val (.long (own_c2 q2)), .second, .val (.long (own_r2 q1 q2)), .second, .val (.int (2 : Int32)), .val (.long (own_k2 q2)), .second, .val (.int (own_sh 2))] [(.long ((own_k2 q2) ^^^ (-1 : Int64))), (.long (own_r2 q1 q2))])) _
    refine XS.land X0.here hx rfl (hb hby d1_70) rfl ?_
    show Steps p.tables e below (s₁.setTop (mkF m 71 #[.val (.long q1), .second, .val (.long q2), .second, .val (.long (own_m1 q2)), .second, .val (.long (own_c2 q2)), .second, .val (.long (own_r2 q1 q2)), .second, .val (.int (2 : Int32)), .val (.long (own_k2 q2)), .second, .val (.int (own_sh 2))] [(.long ((own_r2 q1 q2) &&& ((own_k2 q2) ^^^ (-1 : Int64))))])) _
    refine XS.lload X0.here hx rfl (hb hby d1_71) rfl ?_
    show Steps p.tables e below (s₁.setTop (mkF m 73 #[.val (.long q1), .second, .val (.long q2), .second, .val (.long (own_m1 q2)), .second, .val (.long (own_c2 q2)), .second, .val (.long (own_r2 q1 q2)), .second, .val (.int (2 : Int32)), .val (.long (own_k2 q2)), .second, .val (.int (own_sh 2))] [(.long (own_r2 q1 q2)), (.long ((own_r2 q1 q2) &&& ((own_k2 q2) ^^^ (-1 : Int64))))])) _
    refine XS.lload X0.here hx rfl (hb hby d1_73) rfl ?_
    show Steps p.tables e below (s₁.setTop (mkF m 75 #[.val (.long q1), .second, .val (.long q2), .second, .val (.long (own_m1 q2)), .second, .val (.long (own_c2 q2)), .second, .val (.long (own_r2 q1 q2)), .second, .val (.int (2 : Int32)), .val (.long (own_k2 q2)), .second, .val (.int (own_sh 2))] [(.long (own_k2 q2)), (.long (own_r2 q1 q2)), (.long ((own_r2 q1 q2) &&& ((own_k2 q2) ^^^ (-1 : Int64))))])) _
    refine XS.land X0.here hx rfl (hb hby d1_75) rfl ?_
    show Steps p.tables e below (s₁.setTop (mkF m 76 #[.val (.long q1), .second, .val (.long q2), .second, .val (.long (own_m1 q2)), .second, .val (.long (own_c2 q2)), .second, .val (.long (own_r2 q1 q2)), .second, .val (.int (2 : Int32)), .val (.long (own_k2 q2)), .second, .val (.int (own_sh 2))] [(.long ((own_r2 q1 q2) &&& (own_k2 q2))), (.long ((own_r2 q1 q2) &&& ((own_k2 q2) ^^^ (-1 : Int64))))])) _
    refine XS.iload X0.here hx rfl (hb hby d1_76) rfl ?_
    show Steps p.tables e below (s₁.setTop (mkF m 78 #[.val (.long q1), .second, .val (.long q2), .second, .val (.long (own_m1 q2)), .second, .val (.long (own_c2 q2)), .second, .val (.long (own_r2 q1 q2)), .second, .val (.int (2 : Int32)), .val (.long (own_k2 q2)), .second, .val (.int (own_sh 2))] [(.int (own_sh 2)), (.long ((own_r2 q1 q2) &&& (own_k2 q2))), (.long ((own_r2 q1 q2) &&& ((own_k2 q2) ^^^ (-1 : Int64))))])) _
    refine XS.lushr X0.here hx rfl (hb hby d1_78) rfl ?_
    show Steps p.tables e below (s₁.setTop (mkF m 79 #[.val (.long q1), .second, .val (.long q2), .second, .val (.long (own_m1 q2)), .second, .val (.long (own_c2 q2)), .second, .val (.long (own_r2 q1 q2)), .second, .val (.int (2 : Int32)), .val (.long (own_k2 q2)), .second, .val (.int (own_sh 2))] [(.long ((((own_r2 q1 q2) &&& (own_k2 q2)).toUInt64 >>> ((own_sh 2) &&& 0x3f).toInt64.toUInt64).toInt64)), (.long ((own_r2 q1 q2) &&& ((own_k2 q2) ^^^ (-1 : Int64))))])) _
    refine XS.lor X0.here hx rfl (hb hby d1_79) rfl ?_
    show Steps p.tables e below (s₁.setTop (mkF m 80 #[.val (.long q1), .second, .val (.long q2), .second, .val (.long (own_m1 q2)), .second, .val (.long (own_c2 q2)), .second, .val (.long (own_r2 q1 q2)), .second, .val (.int (2 : Int32)), .val (.long (own_k2 q2)), .second, .val (.int (own_sh 2))] [(.long (((own_r2 q1 q2) &&& ((own_k2 q2) ^^^ (-1 : Int64))) ||| ((((own_r2 q1 q2) &&& (own_k2 q2)).toUInt64 >>> ((own_sh 2) &&& 0x3f).toInt64.toUInt64).toInt64)))])) _
    refine XS.lstore X0.here hx rfl (hb hby d1_80) rfl (l' := #[.val (.long q1), .second, .val (.long q2), .second, .val (.long (own_m1 q2)), .second, .val (.long (own_c2 q2)), .second, .val (.long (own_r3 q1 q2)), .second, .val (.int (2 : Int32)), .val (.long (own_k2 q2)), .second, .val (.int (own_sh 2))]) rfl ?_
    show Steps p.tables e below (s₁.setTop (mkF m 82 #[.val (.long q1), .second, .val (.long q2), .second, .val (.long (own_m1 q2)), .second, .val (.long (own_c2 q2)), .second, .val (.long (own_r3 q1 q2)), .second, .val (.int (2 : Int32)), .val (.long (own_k2 q2)), .second, .val (.int (own_sh 2))] [])) _
    refine XS.lload X0.here hx rfl (hb hby d1_82) rfl ?_
    show Steps p.tables e below (s₁.setTop (mkF m 84 #[.val (.long q1), .second, .val (.long q2), .second, .val (.long (own_m1 q2)), .second, .val (.long (own_c2 q2)), .second, .val (.long (own_r3 q1 q2)), .second, .val (.int (2 : Int32)), .val (.long (own_k2 q2)), .second, .val (.int (own_sh 2))] [(.long (own_c2 q2))])) _
    refine XS.lload X0.here hx rfl (hb hby d1_84) rfl ?_
    show Steps p.tables e below (s₁.setTop (mkF m 86 #[.val (.long q1), .second, .val (.long q2), .second, .val (.long (own_m1 q2)), .second, .val (.long (own_c2 q2)), .second, .val (.long (own_r3 q1 q2)), .second, .val (.int (2 : Int32)), .val (.long (own_k2 q2)), .second, .val (.int (own_sh 2))] [(.long (own_k2 q2)), (.long (own_c2 q2))])) _
    refine X0.ldc2Long hx hown (mvT hZ (hw _ (List.mem_of_getElem? (i := 8) rfl))) (g := (mkF m 86 #[.val (.long q1), .second, .val (.long q2), .second, .val (.long (own_m1 q2)), .second, .val (.long (own_c2 q2)), .second, .val (.long (own_r3 q1 q2)), .second, .val (.int (2 : Int32)), .val (.long (own_k2 q2)), .second, .val (.int (own_sh 2))] [(.long (own_k2 q2)), (.long (own_c2 q2))])) rfl (hb hby d1_86) _ ?_
    show Steps p.tables e below (s₁.setTop (mkF m 89 #[.val (.long q1), .second, .val (.long q2), .second, .val (.long (own_m1 q2)), .second, .val (.long (own_c2 q2)), .second, .val (.long (own_r3 q1 q2)), .second, .val (.int (2 : Int32)), .val (.long (own_k2 q2)), .second, .val (.int (own_sh 2))] [(.long (-1 : Int64)), (.long (own_k2 q2)), (.long (own_c2 q2))])) _
    refine XS.lxor X0.here hx rfl (hb hby d1_89) rfl ?_
    show Steps p.tables e below (s₁.setTop (mkF m 90 #[.val (.long q1), .second, .val (.long q2), .second, .val (.long (own_m1 q2)), .second, .val (.long (own_c2 q2)), .second, .val (.long (own_r3 q1 q2)), .second, .val (.int (2 : Int32)), .val (.long (own_k2 q2)), .second, .val (.int (own_sh 2))] [(.long ((own_k2 q2) ^^^ (-1 : Int64))), (.long (own_c2 q2))])) _
    refine XS.land X0.here hx rfl (hb hby d1_90) rfl ?_
    show Steps p.tables e below (s₁.setTop (mkF m 91 #[.val (.long q1), .second, .val (.long q2), .second, .val (.long (own_m1 q2)), .second, .val (.long (own_c2 q2)), .second, .val (.long (own_r3 q1 q2)), .second, .val (.int (2 : Int32)), .val (.long (own_k2 q2)), .second, .val (.int (own_sh 2))] [(.long ((own_c2 q2) &&& ((own_k2 q2) ^^^ (-1 : Int64))))])) _
    refine XS.lload X0.here hx rfl (hb hby d1_91) rfl ?_
    show Steps p.tables e below (s₁.setTop (mkF m 93 #[.val (.long q1), .second, .val (.long q2), .second, .val (.long (own_m1 q2)), .second, .val (.long (own_c2 q2)), .second, .val (.long (own_r3 q1 q2)), .second, .val (.int (2 : Int32)), .val (.long (own_k2 q2)), .second, .val (.int (own_sh 2))] [(.long (own_c2 q2)), (.long ((own_c2 q2) &&& ((own_k2 q2) ^^^ (-1 : Int64))))])) _
    refine XS.lload X0.here hx rfl (hb hby d1_93) rfl ?_
    show Steps p.tables e below (s₁.setTop (mkF m 95 #[.val (.long q1), .second, .val (.long q2), .second, .val (.long (own_m1 q2)), .second, .val (.long (own_c2 q2)), .second, .val (.long (own_r3 q1 q2)), .second, .val (.int (2 : Int32)), .val (.long (own_k2 q2)), .second, .val (.int (own_sh 2))] [(.long (own_k2 q2)), (.long (own_c2 q2)), (.long ((own_c2 q2) &&& ((own_k2 q2) ^^^ (-1 : Int64))))])) _
    refine XS.land X0.here hx rfl (hb hby d1_95) rfl ?_
    show Steps p.tables e below (s₁.setTop (mkF m 96 #[.val (.long q1), .second, .val (.long q2), .second, .val (.long (own_m1 q2)), .second, .val (.long (own_c2 q2)), .second, .val (.long (own_r3 q1 q2)), .second, .val (.int (2 : Int32)), .val (.long (own_k2 q2)), .second, .val (.int (own_sh 2))] [(.long ((own_c2 q2) &&& (own_k2 q2))), (.long ((own_c2 q2) &&& ((own_k2 q2) ^^^ (-1 : Int64))))])) _
    refine XS.iload X0.here hx rfl (hb hby d1_96) rfl ?_
    show Steps p.tables e below (s₁.setTop (mkF m 98 #[.val (.long q1), .second, .val (.long q2), .second, .val (.long (own_m1 q2)), .second, .val (.long (own_c2 q2)), .second, .val (.long (own_r3 q1 q2)), .second, .val (.int (2 : Int32)), .val (.long (own_k2 q2)), .second, .val (.int (own_sh 2))] [(.int (own_sh 2)), (.long ((own_c2 q2) &&& (own_k2 q2))), (.long ((own_c2 q2) &&& ((own_k2 q2) ^^^ (-1 : Int64))))])) _
    refine XS.lushr X0.here hx rfl (hb hby d1_98) rfl ?_
    show Steps p.tables e below (s₁.setTop (mkF m 99 #[.val (.long q1), .second, .val (.long q2), .second, .val (.long (own_m1 q2)), .second, .val (.long (own_c2 q2)), .second, .val (.long (own_r3 q1 q2)), .second, .val (.int (2 : Int32)), .val (.long (own_k2 q2)), .second, .val (.int (own_sh 2))] [(.long ((((own_c2 q2) &&& (own_k2 q2)).toUInt64 >>> ((own_sh 2) &&& 0x3f).toInt64.toUInt64).toInt64)), (.long ((own_c2 q2) &&& ((own_k2 q2) ^^^ (-1 : Int64))))])) _
    refine XS.lor X0.here hx rfl (hb hby d1_99) rfl ?_
    show Steps p.tables e below (s₁.setTop (mkF m 100 #[.val (.long q1), .second, .val (.long q2), .second, .val (.long (own_m1 q2)), .second, .val (.long (own_c2 q2)), .second, .val (.long (own_r3 q1 q2)), .second, .val (.int (2 : Int32)), .val (.long (own_k2 q2)), .second, .val (.int (own_sh 2))] [(.long (((own_c2 q2) &&& ((own_k2 q2) ^^^ (-1 : Int64))) ||| ((((own_c2 q2) &&& (own_k2 q2)).toUInt64 >>> ((own_sh 2) &&& 0x3f).toInt64.toUInt64).toInt64)))])) _
    refine XS.lstore X0.here hx rfl (hb hby d1_100) rfl (l' := #[.val (.long q1), .second, .val (.long q2), .second, .val (.long (own_m1 q2)), .second, .val (.long (own_c3 q2)), .second, .val (.long (own_r3 q1 q2)), .second, .val (.int (2 : Int32)), .val (.long (own_k2 q2)), .second, .val (.int (own_sh 2))]) rfl ?_
    show Steps p.tables e below (s₁.setTop (mkF m 102 #[.val (.long q1), .second, .val (.long q2), .second, .val (.long (own_m1 q2)), .second, .val (.long (own_c3 q2)), .second, .val (.long (own_r3 q1 q2)), .second, .val (.int (2 : Int32)), .val (.long (own_k2 q2)), .second, .val (.int (own_sh 2))] [])) _
    refine XS.iinc X0.here hx rfl (hb hby d1_102) rfl (l' := #[.val (.long q1), .second, .val (.long q2), .second, .val (.long (own_m1 q2)), .second, .val (.long (own_c3 q2)), .second, .val (.long (own_r3 q1 q2)), .second, .val (.int (3 : Int32)), .val (.long (own_k2 q2)), .second, .val (.int (own_sh 2))]) rfl ?_
    show Steps p.tables e below (s₁.setTop (mkF m 105 #[.val (.long q1), .second, .val (.long q2), .second, .val (.long (own_m1 q2)), .second, .val (.long (own_c3 q2)), .second, .val (.long (own_r3 q1 q2)), .second, .val (.int (3 : Int32)), .val (.long (own_k2 q2)), .second, .val (.int (own_sh 2))] [])) _
    refine XS.goto X0.here hx rfl (pc0 := 105) (pc' := 34) rfl (hb hby d1_105) (by decide) (by decide) ?_
    show Steps p.tables e below (s₁.setTop (mkF m 34 #[.val (.long q1), .second, .val (.long q2), .second, .val (.long (own_m1 q2)), .second, .val (.long (own_c3 q2)), .second, .val (.long (own_r3 q1 q2)), .second, .val (.int (3 : Int32)), .val (.long (own_k2 q2)), .second, .val (.int (own_sh 2))] [])) _
    refine XS.iload X0.here hx rfl (hb hby d1_34) rfl ?_
    show Steps p.tables e below (s₁.setTop (mkF m 36 #[.val (.long q1), .second, .val (.long q2), .second, .val (.long (own_m1 q2)), .second, .val (.long (own_c3 q2)), .second, .val (.long (own_r3 q1 q2)), .second, .val (.int (3 : Int32)), .val (.long (own_k2 q2)), .second, .val (.int (own_sh 2))] [(.int (3 : Int32))])) _
    refine XS.iconst X0.here hx rfl (hb hby d1_36) ?_
    show Steps p.tables e below (s₁.setTop (mkF m 37 #[.val (.long q1), .second, .val (.long q2), .second, .val (.long (own_m1 q2)), .second, .val (.long (own_c3 q2)), .second, .val (.long (own_r3 q1 q2)), .second, .val (.int (3 : Int32)), .val (.long (own_k2 q2)), .second, .val (.int (own_sh 2))] [(.int (3 : Int32)), (.int (3 : Int32))])) _
    refine XS.icmpYes X0.here hx rfl (pc0 := 37) (pc' := 108) rfl (hb hby d1_37) rfl (flt (by decide : ¬ ((3 : Int32) < (3 : Int32)))).2.1 (by decide) (by decide) ?_
    show Steps p.tables e below (s₁.setTop (mkF m 108 #[.val (.long q1), .second, .val (.long q2), .second, .val (.long (own_m1 q2)), .second, .val (.long (own_c3 q2)), .second, .val (.long (own_r3 q1 q2)), .second, .val (.int (3 : Int32)), .val (.long (own_k2 q2)), .second, .val (.int (own_sh 2))] [])) _
    refine XS.lload X0.here hx rfl (hb hby d1_108) rfl ?_
    show Steps p.tables e below (s₁.setTop (mkF m 110 #[.val (.long q1), .second, .val (.long q2), .second, .val (.long (own_m1 q2)), .second, .val (.long (own_c3 q2)), .second, .val (.long (own_r3 q1 q2)), .second, .val (.int (3 : Int32)), .val (.long (own_k2 q2)), .second, .val (.int (own_sh 2))] [(.long (own_r3 q1 q2))])) _
    rw [show F1 q1 q2 = (own_r3 q1 q2) from rfl] at hr
    exact X0.lreturnOut hx Bd.returns (hb hby d1_110) hr
  · show Q1 q1 q2 h0 n0 _ s₁.heap _
    rw [e0]
    exact ⟨rfl, N0, rfl⟩
def own_M (m : Int64) : Int64 := m &&& (-9187201950435737472)
def g_r0 (w M : Int64) : Int64 := 0
def g_p0 (M : Int64) : Int32 := 0
def g_v0 (w : Int64) : Int64 := (w &&& 255)
def g_t0 (w M : Int64) : Int64 := (g_r0 w M) ||| ((g_v0 w) <<< (((g_p0 M) <<< ((3 : Int32) &&& 31)) &&& 0x3f).toInt64)
def g_r1 (w M : Int64) : Int64 := if (lcmpW ((((M).toUInt64 >>> ((7 : Int32) &&& 0x3f).toInt64.toUInt64).toInt64) &&& 1) 0) = 0 then g_t0 w M else g_r0 w M
def g_p1 (M : Int64) : Int32 := if (lcmpW ((((M).toUInt64 >>> ((7 : Int32) &&& 0x3f).toInt64.toUInt64).toInt64) &&& 1) 0) = 0 then g_p0 M + 1 else g_p0 M
def g_v1 (w : Int64) : Int64 := ((((w).toUInt64 >>> ((8 : Int32) &&& 0x3f).toInt64.toUInt64).toInt64) &&& 255)
def g_t1 (w M : Int64) : Int64 := (g_r1 w M) ||| ((g_v1 w) <<< (((g_p1 M) <<< ((3 : Int32) &&& 31)) &&& 0x3f).toInt64)
def g_r2 (w M : Int64) : Int64 := if (lcmpW ((((M).toUInt64 >>> ((15 : Int32) &&& 0x3f).toInt64.toUInt64).toInt64) &&& 1) 0) = 0 then g_t1 w M else g_r1 w M
def g_p2 (M : Int64) : Int32 := if (lcmpW ((((M).toUInt64 >>> ((15 : Int32) &&& 0x3f).toInt64.toUInt64).toInt64) &&& 1) 0) = 0 then g_p1 M + 1 else g_p1 M
def g_v2 (w : Int64) : Int64 := ((((w).toUInt64 >>> ((16 : Int32) &&& 0x3f).toInt64.toUInt64).toInt64) &&& 255)
def g_t2 (w M : Int64) : Int64 := (g_r2 w M) ||| ((g_v2 w) <<< (((g_p2 M) <<< ((3 : Int32) &&& 31)) &&& 0x3f).toInt64)
def g_r3 (w M : Int64) : Int64 := if (lcmpW ((((M).toUInt64 >>> ((23 : Int32) &&& 0x3f).toInt64.toUInt64).toInt64) &&& 1) 0) = 0 then g_t2 w M else g_r2 w M
def g_p3 (M : Int64) : Int32 := if (lcmpW ((((M).toUInt64 >>> ((23 : Int32) &&& 0x3f).toInt64.toUInt64).toInt64) &&& 1) 0) = 0 then g_p2 M + 1 else g_p2 M
def g_v3 (w : Int64) : Int64 := ((((w).toUInt64 >>> ((24 : Int32) &&& 0x3f).toInt64.toUInt64).toInt64) &&& 255)
def g_t3 (w M : Int64) : Int64 := (g_r3 w M) ||| ((g_v3 w) <<< (((g_p3 M) <<< ((3 : Int32) &&& 31)) &&& 0x3f).toInt64)
def g_r4 (w M : Int64) : Int64 := if (lcmpW ((((M).toUInt64 >>> ((31 : Int32) &&& 0x3f).toInt64.toUInt64).toInt64) &&& 1) 0) = 0 then g_t3 w M else g_r3 w M
def g_p4 (M : Int64) : Int32 := if (lcmpW ((((M).toUInt64 >>> ((31 : Int32) &&& 0x3f).toInt64.toUInt64).toInt64) &&& 1) 0) = 0 then g_p3 M + 1 else g_p3 M
def g_v4 (w : Int64) : Int64 := ((((w).toUInt64 >>> ((32 : Int32) &&& 0x3f).toInt64.toUInt64).toInt64) &&& 255)
def g_t4 (w M : Int64) : Int64 := (g_r4 w M) ||| ((g_v4 w) <<< (((g_p4 M) <<< ((3 : Int32) &&& 31)) &&& 0x3f).toInt64)
def g_r5 (w M : Int64) : Int64 := if (lcmpW ((((M).toUInt64 >>> ((39 : Int32) &&& 0x3f).toInt64.toUInt64).toInt64) &&& 1) 0) = 0 then g_t4 w M else g_r4 w M
def g_p5 (M : Int64) : Int32 := if (lcmpW ((((M).toUInt64 >>> ((39 : Int32) &&& 0x3f).toInt64.toUInt64).toInt64) &&& 1) 0) = 0 then g_p4 M + 1 else g_p4 M
def g_v5 (w : Int64) : Int64 := ((((w).toUInt64 >>> ((40 : Int32) &&& 0x3f).toInt64.toUInt64).toInt64) &&& 255)
def g_t5 (w M : Int64) : Int64 := (g_r5 w M) ||| ((g_v5 w) <<< (((g_p5 M) <<< ((3 : Int32) &&& 31)) &&& 0x3f).toInt64)
def g_r6 (w M : Int64) : Int64 := if (lcmpW ((((M).toUInt64 >>> ((47 : Int32) &&& 0x3f).toInt64.toUInt64).toInt64) &&& 1) 0) = 0 then g_t5 w M else g_r5 w M
def g_p6 (M : Int64) : Int32 := if (lcmpW ((((M).toUInt64 >>> ((47 : Int32) &&& 0x3f).toInt64.toUInt64).toInt64) &&& 1) 0) = 0 then g_p5 M + 1 else g_p5 M
def g_v6 (w : Int64) : Int64 := ((((w).toUInt64 >>> ((48 : Int32) &&& 0x3f).toInt64.toUInt64).toInt64) &&& 255)
def g_t6 (w M : Int64) : Int64 := (g_r6 w M) ||| ((g_v6 w) <<< (((g_p6 M) <<< ((3 : Int32) &&& 31)) &&& 0x3f).toInt64)
def g_r7 (w M : Int64) : Int64 := if (lcmpW ((((M).toUInt64 >>> ((55 : Int32) &&& 0x3f).toInt64.toUInt64).toInt64) &&& 1) 0) = 0 then g_t6 w M else g_r6 w M
def g_p7 (M : Int64) : Int32 := if (lcmpW ((((M).toUInt64 >>> ((55 : Int32) &&& 0x3f).toInt64.toUInt64).toInt64) &&& 1) 0) = 0 then g_p6 M + 1 else g_p6 M
def g_v7 (w : Int64) : Int64 := ((((w).toUInt64 >>> ((56 : Int32) &&& 0x3f).toInt64.toUInt64).toInt64) &&& 255)
def g_t7 (w M : Int64) : Int64 := (g_r7 w M) ||| ((g_v7 w) <<< (((g_p7 M) <<< ((3 : Int32) &&& 31)) &&& 0x3f).toInt64)
def g_r8 (w M : Int64) : Int64 := if (lcmpW ((((M).toUInt64 >>> ((63 : Int32) &&& 0x3f).toInt64.toUInt64).toInt64) &&& 1) 0) = 0 then g_t7 w M else g_r7 w M
def g_p8 (M : Int64) : Int32 := if (lcmpW ((((M).toUInt64 >>> ((63 : Int32) &&& 0x3f).toInt64.toUInt64).toInt64) &&& 1) 0) = 0 then g_p7 M + 1 else g_p7 M
/-! the plain law: both sides are sums of the word's bits -/
theorem own_bv_or (x y : Int64) : (x ||| y).toBitVec = x.toBitVec ||| y.toBitVec := rfl
theorem own_bv_and (x y : Int64) : (x &&& y).toBitVec = x.toBitVec &&& y.toBitVec := rfl
theorem own_inj {x y : Int64} (h : x.toBitVec = y.toBitVec) : x = y := Int64.toBitVec_inj.mp h
theorem own_and_or (x y k : Int64) : (x ||| y) &&& k = (x &&& k) ||| (y &&& k) := by
  apply own_inj
  rw [own_bv_and, own_bv_or, own_bv_or, own_bv_and, own_bv_and]
  ext i hi
  simp only [BitVec.getElem_and, BitVec.getElem_or]
  cases x.toBitVec[i] <;> cases y.toBitVec[i] <;> cases k.toBitVec[i] <;> rfl
theorem own_shr_or (x y : Int64) (s : UInt64) : ((x ||| y).toUInt64 >>> s).toInt64 = (x.toUInt64 >>> s).toInt64 ||| (y.toUInt64 >>> s).toInt64 := by
  apply own_inj
  show (x.toBitVec ||| y.toBitVec) >>> (s.toBitVec % 64) = (x.toBitVec >>> (s.toBitVec % 64)) ||| (y.toBitVec >>> (s.toBitVec % 64))
  generalize s.toBitVec % 64 = n
  show (x.toBitVec ||| y.toBitVec) >>> n.toNat = (x.toBitVec >>> n.toNat) ||| (y.toBitVec >>> n.toNat)
  exact BitVec.ushiftRight_or_distrib _ _ _
theorem own_shl_or (x y s : Int64) : (x ||| y) <<< s = (x <<< s) ||| (y <<< s) := by
  apply own_inj
  show (x.toBitVec ||| y.toBitVec) <<< (s.toBitVec.smod 64) = (x.toBitVec <<< (s.toBitVec.smod 64)) ||| (y.toBitVec <<< (s.toBitVec.smod 64))
  generalize s.toBitVec.smod 64 = n
  show (x.toBitVec ||| y.toBitVec) <<< n.toNat = (x.toBitVec <<< n.toNat) ||| (y.toBitVec <<< n.toNat)
  exact BitVec.shiftLeft_or_distrib _ _ _
theorem own_or4 (a b c d : Int64) : (a ||| b) ||| (c ||| d) = (a ||| c) ||| (b ||| d) := by
  apply own_inj
  simp only [own_bv_or]
  ext i hi
  simp only [BitVec.getElem_or]
  cases a.toBitVec[i] <;> cases b.toBitVec[i] <;> cases c.toBitVec[i] <;> cases d.toBitVec[i] <;> rfl
theorem own_nx_or (x y k : Int64) (s : Int32) : own_nx (x ||| y) k s = own_nx x k s ||| own_nx y k s := by
  unfold own_nx
  rw [own_and_or, own_and_or, own_shr_or, own_or4]
theorem own_r3_or (x y q : Int64) : own_r3 (x ||| y) q = own_r3 x q ||| own_r3 y q := by
  unfold own_r3 own_r2 own_r1 own_r0
  rw [own_and_or, own_nx_or, own_nx_or, own_nx_or]
def OrLin (f : Int64 → Int64) : Prop := ∀ x y, f (x ||| y) = f x ||| f y
theorem own_v (s : UInt64) : OrLin (fun w => ((w.toUInt64 >>> s).toInt64 &&& 255)) := fun x y => by
  show ((x ||| y).toUInt64 >>> s).toInt64 &&& 255 = _
  rw [own_shr_or, own_and_or]
theorem own_step {c : Prop} [Decidable c] {f g : Int64 → Int64} (hf : OrLin f) (hg : OrLin g) (s : Int64) : OrLin (fun w => if c then f w ||| (g w <<< s) else f w) := fun x y => by
  by_cases h : c
  · simp only [if_pos h]
    rw [hf, hg, own_shl_or, own_or4]
  · simp only [if_neg h]
    exact hf x y
theorem g_lin0 (M : Int64) : OrLin (fun w => g_r0 w M) := fun x y => (show (0 : Int64) = 0 ||| 0 by decide)
theorem g_lin1 (M : Int64) : OrLin (fun w => g_r1 w M) := own_step (g_lin0 M) (fun x y => own_and_or x y 255) _
theorem g_lin2 (M : Int64) : OrLin (fun w => g_r2 w M) := own_step (g_lin1 M) (own_v _) _
theorem g_lin3 (M : Int64) : OrLin (fun w => g_r3 w M) := own_step (g_lin2 M) (own_v _) _
theorem g_lin4 (M : Int64) : OrLin (fun w => g_r4 w M) := own_step (g_lin3 M) (own_v _) _
theorem g_lin5 (M : Int64) : OrLin (fun w => g_r5 w M) := own_step (g_lin4 M) (own_v _) _
theorem g_lin6 (M : Int64) : OrLin (fun w => g_r6 w M) := own_step (g_lin5 M) (own_v _) _
theorem g_lin7 (M : Int64) : OrLin (fun w => g_r7 w M) := own_step (g_lin6 M) (own_v _) _
theorem g_lin8 (M : Int64) : OrLin (fun w => g_r8 w M) := own_step (g_lin7 M) (own_v _) _
def own_N (n : Nat) : Int64 := Int64.ofBitVec (BitVec.ofNat 64 n)
theorem own_N_or (a b : Nat) : own_N (a ||| b) = own_N a ||| own_N b := by
  apply own_inj
  show BitVec.ofNat 64 (a ||| b) = BitVec.ofNat 64 a ||| BitVec.ofNat 64 b
  apply BitVec.eq_of_toNat_eq
  rw [BitVec.toNat_or, BitVec.toNat_ofNat, BitVec.toNat_ofNat, BitVec.toNat_ofNat, Nat.or_mod_two_pow]
theorem own_N_self (w : Int64) : own_N w.toBitVec.toNat = w := by
  apply own_inj
  show BitVec.ofNat 64 w.toBitVec.toNat = w.toBitVec
  apply BitVec.eq_of_toNat_eq
  rw [BitVec.toNat_ofNat, Nat.mod_eq_of_lt w.toBitVec.isLt]
/-- every number below 2^n is 0 or made of bits -/
theorem own_bits {P : Nat → Prop} (h0 : P 0) (hs : ∀ n, n < 64 → ∀ x, x < 2 ^ n → P x → P (2 ^ n ||| x)) : ∀ n, n ≤ 64 → ∀ x, x < 2 ^ n → P x := by
  intro n
  induction n with
  | zero => intro _ x hx; have : x = 0 := by omega
            rw [this]; exact h0
  | succ n ih =>
    intro hn x hx
    by_cases h : x < 2 ^ n
    · exact ih (by omega) x h
    · have hx' : x - 2 ^ n < 2 ^ n := by rw [Nat.pow_succ] at hx; omega
      have e : x = 2 ^ n ||| (x - 2 ^ n) := by
        have q := Nat.two_pow_add_eq_or_of_lt hx' 1
        rw [Nat.mul_one] at q
        rw [← q]; omega
      rw [e]
      exact hs n (by omega) _ hx' (ih (by omega) _ hx')
/-- the marks by their number -/
def own_tab (j : Nat) : Int64 := own_N ((j % 2) * 2 ^ 7 + ((j >>> 1) % 2) * 2 ^ 15 + ((j >>> 2) % 2) * 2 ^ 23 + ((j >>> 3) % 2) * 2 ^ 31 + ((j >>> 4) % 2) * 2 ^ 39 + ((j >>> 5) % 2) * 2 ^ 47 + ((j >>> 6) % 2) * 2 ^ 55 + ((j >>> 7) % 2) * 2 ^ 63)
def own_jx (n j : Nat) : Nat := if n % 8 = 7 then j ||| 2 ^ (n / 8) else j
def allB (p : Nat → Bool) : Nat → Bool
  | 0 => true
  | n + 1 => p n && allB p n
theorem allB_spec {p : Nat → Bool} : ∀ {n : Nat}, allB p n = true → ∀ k, k < n → p k = true := by
  intro n
  induction n with
  | zero => intro _ k hk; omega
  | succ n ih =>
    intro h k hk
    have h' : (p n && allB p n) = true := h
    rw [Bool.and_eq_true] at h'
    by_cases e : k = n
    · rw [e]; exact h'.1
    · exact ih h'.2 k (by omega)
theorem own_cl : allB (fun n => allB (fun j => decide ((own_N (2 ^ n) &&& (-9187201950435737472)) ||| own_tab j = own_tab (own_jx n j)) && decide (own_jx n j < 256)) 256) 64 = true := by decide +kernel
theorem own_marks (m : Int64) : ∃ j, j < 256 ∧ own_M m = own_tab j := by
  have h := own_bits (P := fun x => ∃ j, j < 256 ∧ own_N x &&& (-9187201950435737472) = own_tab j) ⟨0, by decide, by decide⟩ (fun n hn x hx ⟨j, hj, e⟩ => by
    have q := allB_spec (allB_spec own_cl n hn) j hj
    rw [Bool.and_eq_true] at q
    refine ⟨own_jx n j, of_decide_eq_true q.2, ?_⟩
    rw [own_N_or, own_and_or, e]
    exact of_decide_eq_true q.1) 64 (Nat.le_refl _) m.toBitVec.toNat m.toBitVec.isLt
  rw [own_N_self] at h
  exact h
def own_chk (j : Nat) : Bool := decide (own_r3 0 (own_tab j) = g_r8 0 (own_tab j)) && allB (fun i => decide (own_r3 (own_N (2 ^ i)) (own_tab j) = g_r8 (own_N (2 ^ i)) (own_tab j))) 64
theorem own_ck0 : allB (fun j => own_chk j) 256 = true := by decide +kernel
theorem own_thm (w m : Int64) : own_r3 w (own_M m) = g_r8 w (own_M m) := by
  obtain ⟨j, hj, e⟩ := own_marks m
  rw [e]
  have q := allB_spec own_ck0 j hj
  unfold own_chk at q
  rw [Bool.and_eq_true] at q
  have h := own_bits (P := fun x => own_r3 (own_N x) (own_tab j) = g_r8 (own_N x) (own_tab j)) (of_decide_eq_true q.1) (fun n hn x hx ih => by
    have k := of_decide_eq_true (allB_spec q.2 n hn)
    rw [own_N_or, own_r3_or, ih, k]
    exact (g_lin8 (own_tab j) _ _).symm) 64 (Nat.le_refl _) w.toBitVec.toNat w.toBitVec.isLt
  rw [own_N_self] at h
  exact h
theorem pn_0 : plainName "com/example/widthwise/widthwise/runtime/BytesWithoutMarkedPinLaw" = true := by first | (simp [plainName, overriddenIn]; done) | decide +kernel
theorem pf_0 : plainFor x = true := plainFor_of_name pn_0
theorem ef_0 (m : MethodId) (x0 : Int64) (x1 : Int64) : entryFrame m #[(.long x0), (.long x1)] maxLocals = mkF m 0 #[.val (.long x0), .second, .val (.long x1), .second, .unset, .unset, .unset, .unset, .unset] [] := by first | (simp [entryFrame, mkF, argsToLocals, Value.category, maxLocals]; done) | rfl
def Q0 (p1 p2 : Int64) (h0 : Heap) (n0 : Nat) (v : Option Value) (h : Heap) (L : List Loc) : Prop := v = some (.int 1) ∧ Fr n0 L
set_option maxRecDepth 65536 in
set_option maxHeartbeats 40000000 in
theorem rm0 (l : Launch) (Z : State) (a0 : Array Value) (hw : ∀ d ∈ tables_1, d.before a0 Z = true) (ws : List Jvm.Cond) (p1 : Int64) (p2 : Int64) (h0 : Heap) (n0 : Nat) (Z0 : n0 ≤ h0.size)  :
    MetFree l x (head1 (Jvm.Cond.code x code maxLocals ret :: ws) room_1) (fun aA uU => aA = #[(.long p1), (.long p2)] ∧ Z.Warmed39 uU.vm ∧ uU.heap = h0) (fun _ _ _ _ _ => True) (fun _ uU oO uV => ∃ vV lL, oO = .returned vV ∧ Q0 p1 p2 h0 n0 vV uV.heap lL ∧ FrameEnd uU oO uV lL 0 0) := by
  refine MetFree.of_bodySF pf_0 hisR ?_
  intro p e s m args below meth c s₁ Bd hml0 hP hK
  obtain ⟨rfl, hZ, hh⟩ := hP
  have hx := Bd.exec
  have hby := Bd.bytes
  have hml : c.maxLocals = 9 := hml0
  have hown : s.vm.findClass "com/example/widthwise/widthwise/runtime/BytesWithoutMarkedPinLaw" = some m.cls := findClass_of_methodNamed Bd.named
  have hnm := (name_of_methodNamed Bd.named Bd.method).1
  have X0 : Stand p l e room_1 s m #[(.long p1), (.long p2)] below meth c s₁ [] 0 0 := Stand.of_body Bd
  have e0 : s₁.heap = h0 := by rw [← hh, Bd.state]; rfl
  have N0 := Fr.nil n0
  have pre0 : ∀ t, Steps p.tables e below (s₁.setTop (mkF m 0 #[.val (.long p1), .second, .val (.long p2), .second, .unset, .unset, .unset, .unset, .unset] [])) t → Steps p.tables e below (s₁.setTop (entryFrame m #[(.long p1), (.long p2)] maxLocals)) t := fun t k => castTop (ef_0 m p1 p2) k
  have sg0 : ∀ t, Steps p.tables e below (s₁.setTop (mkF m 13 #[.val (.long p1), .second, .val (.long p2), .second, .val (.long (own_M p2)), .second, .val (.long (g_r0 p1 (own_M p2))), .second, .val (.int (g_p0 (own_M p2)))] [])) t → Steps p.tables e below (s₁.setTop (mkF m 0 #[.val (.long p1), .second, .val (.long p2), .second, .unset, .unset, .unset, .unset, .unset] [])) t := by
    intro t k
    show Steps p.tables e below (s₁.setTop (mkF m 0 #[.val (.long p1), .second, .val (.long p2), .second, .unset, .unset, .unset, .unset, .unset] [])) _
    refine XS.lloadN X0.here hx rfl (hb hby at_0) rfl ?_
    show Steps p.tables e below (s₁.setTop (mkF m 1 #[.val (.long p1), .second, .val (.long p2), .second, .unset, .unset, .unset, .unset, .unset] [(.long p2)])) _
    refine X0.ldc2Long hx hown (mvT hZ (hw _ (List.mem_of_getElem? (i := 0) rfl))) (g := (mkF m 1 #[.val (.long p1), .second, .val (.long p2), .second, .unset, .unset, .unset, .unset, .unset] [(.long p2)])) rfl (hb hby at_1) _ ?_
    show Steps p.tables e below (s₁.setTop (mkF m 4 #[.val (.long p1), .second, .val (.long p2), .second, .unset, .unset, .unset, .unset, .unset] [(.long (-9187201950435737472 : Int64)), (.long p2)])) _
    refine XS.land X0.here hx rfl (hb hby at_4) rfl ?_
    show Steps p.tables e below (s₁.setTop (mkF m 5 #[.val (.long p1), .second, .val (.long p2), .second, .unset, .unset, .unset, .unset, .unset] [(.long (p2 &&& (-9187201950435737472 : Int64)))])) _
    refine XS.lstore X0.here hx rfl (hb hby at_5) rfl (l' := #[.val (.long p1), .second, .val (.long p2), .second, .val (.long (own_M p2)), .second, .unset, .unset, .unset]) rfl ?_
    show Steps p.tables e below (s₁.setTop (mkF m 7 #[.val (.long p1), .second, .val (.long p2), .second, .val (.long (own_M p2)), .second, .unset, .unset, .unset] [])) _
    refine XS.lconst X0.here hx rfl (hb hby at_7) ?_
    show Steps p.tables e below (s₁.setTop (mkF m 8 #[.val (.long p1), .second, .val (.long p2), .second, .val (.long (own_M p2)), .second, .unset, .unset, .unset] [(.long (0 : Int64))])) _
    refine XS.lstore X0.here hx rfl (hb hby at_8) rfl (l' := #[.val (.long p1), .second, .val (.long p2), .second, .val (.long (own_M p2)), .second, .val (.long (g_r0 p1 (own_M p2))), .second, .unset]) rfl ?_
    show Steps p.tables e below (s₁.setTop (mkF m 10 #[.val (.long p1), .second, .val (.long p2), .second, .val (.long (own_M p2)), .second, .val (.long (g_r0 p1 (own_M p2))), .second, .unset] [])) _
    refine XS.iconst X0.here hx rfl (hb hby at_10) ?_
    show Steps p.tables e below (s₁.setTop (mkF m 11 #[.val (.long p1), .second, .val (.long p2), .second, .val (.long (own_M p2)), .second, .val (.long (g_r0 p1 (own_M p2))), .second, .unset] [(.int (0 : Int32))])) _
    refine XS.istore X0.here hx rfl (hb hby at_11) rfl (l' := #[.val (.long p1), .second, .val (.long p2), .second, .val (.long (own_M p2)), .second, .val (.long (g_r0 p1 (own_M p2))), .second, .val (.int (g_p0 (own_M p2)))]) rfl ?_
    exact k
  have sg1 : ∀ t, Steps p.tables e below (s₁.setTop (mkF m 43 #[.val (.long p1), .second, .val (.long p2), .second, .val (.long (own_M p2)), .second, .val (.long (g_r1 p1 (own_M p2))), .second, .val (.int (g_p1 (own_M p2)))] [])) t → Steps p.tables e below (s₁.setTop (mkF m 13 #[.val (.long p1), .second, .val (.long p2), .second, .val (.long (own_M p2)), .second, .val (.long (g_r0 p1 (own_M p2))), .second, .val (.int (g_p0 (own_M p2)))] [])) t := by
    intro t k
    show Steps p.tables e below (s₁.setTop (mkF m 13 #[.val (.long p1), .second, .val (.long p2), .second, .val (.long (own_M p2)), .second, .val (.long (g_r0 p1 (own_M p2))), .second, .val (.int (g_p0 (own_M p2)))] [])) _
    refine XS.lload X0.here hx rfl (hb hby at_13) rfl ?_
    show Steps p.tables e below (s₁.setTop (mkF m 15 #[.val (.long p1), .second, .val (.long p2), .second, .val (.long (own_M p2)), .second, .val (.long (g_r0 p1 (own_M p2))), .second, .val (.int (g_p0 (own_M p2)))] [(.long (own_M p2))])) _
    refine XS.bipush X0.here hx rfl (hb hby at_15) ?_
    show Steps p.tables e below (s₁.setTop (mkF m 17 #[.val (.long p1), .second, .val (.long p2), .second, .val (.long (own_M p2)), .second, .val (.long (g_r0 p1 (own_M p2))), .second, .val (.int (g_p0 (own_M p2)))] [(.int (7 : Int32)), (.long (own_M p2))])) _
    refine XS.lushr X0.here hx rfl (hb hby at_17) rfl ?_
    show Steps p.tables e below (s₁.setTop (mkF m 18 #[.val (.long p1), .second, .val (.long p2), .second, .val (.long (own_M p2)), .second, .val (.long (g_r0 p1 (own_M p2))), .second, .val (.int (g_p0 (own_M p2)))] [(.long (((own_M p2).toUInt64 >>> ((7 : Int32) &&& 0x3f).toInt64.toUInt64).toInt64))])) _
    refine XS.lconst X0.here hx rfl (hb hby at_18) ?_
    show Steps p.tables e below (s₁.setTop (mkF m 19 #[.val (.long p1), .second, .val (.long p2), .second, .val (.long (own_M p2)), .second, .val (.long (g_r0 p1 (own_M p2))), .second, .val (.int (g_p0 (own_M p2)))] [(.long (1 : Int64)), (.long (((own_M p2).toUInt64 >>> ((7 : Int32) &&& 0x3f).toInt64.toUInt64).toInt64))])) _
    refine XS.land X0.here hx rfl (hb hby at_19) rfl ?_
    show Steps p.tables e below (s₁.setTop (mkF m 20 #[.val (.long p1), .second, .val (.long p2), .second, .val (.long (own_M p2)), .second, .val (.long (g_r0 p1 (own_M p2))), .second, .val (.int (g_p0 (own_M p2)))] [(.long ((((own_M p2).toUInt64 >>> ((7 : Int32) &&& 0x3f).toInt64.toUInt64).toInt64) &&& (1 : Int64)))])) _
    refine XS.lconst X0.here hx rfl (hb hby at_20) ?_
    show Steps p.tables e below (s₁.setTop (mkF m 21 #[.val (.long p1), .second, .val (.long p2), .second, .val (.long (own_M p2)), .second, .val (.long (g_r0 p1 (own_M p2))), .second, .val (.int (g_p0 (own_M p2)))] [(.long (0 : Int64)), (.long ((((own_M p2).toUInt64 >>> ((7 : Int32) &&& 0x3f).toInt64.toUInt64).toInt64) &&& (1 : Int64)))])) _
    refine XS.lcmp X0.here hx rfl (hb hby at_21) rfl ?_
    show Steps p.tables e below (s₁.setTop (mkF m 22 #[.val (.long p1), .second, .val (.long p2), .second, .val (.long (own_M p2)), .second, .val (.long (g_r0 p1 (own_M p2))), .second, .val (.int (g_p0 (own_M p2)))] [(.int (lcmpW ((((own_M p2).toUInt64 >>> ((7 : Int32) &&& 0x3f).toInt64.toUInt64).toInt64) &&& (1 : Int64)) (0 : Int64)))])) _
    by_cases hcs0_1 : (lcmpW ((((own_M p2).toUInt64 >>> ((7 : Int32) &&& 0x3f).toInt64.toUInt64).toInt64) &&& (1 : Int64)) (0 : Int64)) = (0 : Int32)
    · refine XS.ifNo X0.here hx rfl (hb hby at_22) rfl ((if0 _ _).trans (teq hcs0_1).2) ?_
      show Steps p.tables e below (s₁.setTop (mkF m 25 #[.val (.long p1), .second, .val (.long p2), .second, .val (.long (own_M p2)), .second, .val (.long (g_r0 p1 (own_M p2))), .second, .val (.int (g_p0 (own_M p2)))] [])) _
      refine XS.lload X0.here hx rfl (hb hby at_25) rfl ?_
      show Steps p.tables e below (s₁.setTop (mkF m 27 #[.val (.long p1), .second, .val (.long p2), .second, .val (.long (own_M p2)), .second, .val (.long (g_r0 p1 (own_M p2))), .second, .val (.int (g_p0 (own_M p2)))] [(.long (g_r0 p1 (own_M p2)))])) _
      refine XS.lloadN X0.here hx rfl (hb hby at_27) rfl ?_
      show Steps p.tables e below (s₁.setTop (mkF m 28 #[.val (.long p1), .second, .val (.long p2), .second, .val (.long (own_M p2)), .second, .val (.long (g_r0 p1 (own_M p2))), .second, .val (.int (g_p0 (own_M p2)))] [(.long p1), (.long (g_r0 p1 (own_M p2)))])) _
      refine X0.ldc2Long hx hown (mvT hZ (hw _ (List.mem_of_getElem? (i := 1) rfl))) (g := (mkF m 28 #[.val (.long p1), .second, .val (.long p2), .second, .val (.long (own_M p2)), .second, .val (.long (g_r0 p1 (own_M p2))), .second, .val (.int (g_p0 (own_M p2)))] [(.long p1), (.long (g_r0 p1 (own_M p2)))])) rfl (hb hby at_28) _ ?_
      show Steps p.tables e below (s₁.setTop (mkF m 31 #[.val (.long p1), .second, .val (.long p2), .second, .val (.long (own_M p2)), .second, .val (.long (g_r0 p1 (own_M p2))), .second, .val (.int (g_p0 (own_M p2)))] [(.long (255 : Int64)), (.long p1), (.long (g_r0 p1 (own_M p2)))])) _
      refine XS.land X0.here hx rfl (hb hby at_31) rfl ?_
      show Steps p.tables e below (s₁.setTop (mkF m 32 #[.val (.long p1), .second, .val (.long p2), .second, .val (.long (own_M p2)), .second, .val (.long (g_r0 p1 (own_M p2))), .second, .val (.int (g_p0 (own_M p2)))] [(.long (g_v0 p1)), (.long (g_r0 p1 (own_M p2)))])) _
      refine XS.iload X0.here hx rfl (hb hby at_32) rfl ?_
      show Steps p.tables e below (s₁.setTop (mkF m 34 #[.val (.long p1), .second, .val (.long p2), .second, .val (.long (own_M p2)), .second, .val (.long (g_r0 p1 (own_M p2))), .second, .val (.int (g_p0 (own_M p2)))] [(.int (g_p0 (own_M p2))), (.long (g_v0 p1)), (.long (g_r0 p1 (own_M p2)))])) _
      refine XS.iconst X0.here hx rfl (hb hby at_34) ?_
      show Steps p.tables e below (s₁.setTop (mkF m 35 #[.val (.long p1), .second, .val (.long p2), .second, .val (.long (own_M p2)), .second, .val (.long (g_r0 p1 (own_M p2))), .second, .val (.int (g_p0 (own_M p2)))] [(.int (3 : Int32)), (.int (g_p0 (own_M p2))), (.long (g_v0 p1)), (.long (g_r0 p1 (own_M p2)))])) _
      refine XS.ishl X0.here hx rfl (hb hby at_35) rfl ?_
      show Steps p.tables e below (s₁.setTop (mkF m 36 #[.val (.long p1), .second, .val (.long p2), .second, .val (.long (own_M p2)), .second, .val (.long (g_r0 p1 (own_M p2))), .second, .val (.int (g_p0 (own_M p2)))] [(.int ((g_p0 (own_M p2)) <<< ((3 : Int32) &&& 31))), (.long (g_v0 p1)), (.long (g_r0 p1 (own_M p2)))])) _
      refine XS.lshl X0.here hx rfl (hb hby at_36) rfl ?_
      show Steps p.tables e below (s₁.setTop (mkF m 37 #[.val (.long p1), .second, .val (.long p2), .second, .val (.long (own_M p2)), .second, .val (.long (g_r0 p1 (own_M p2))), .second, .val (.int (g_p0 (own_M p2)))] [(.long ((g_v0 p1) <<< (((g_p0 (own_M p2)) <<< ((3 : Int32) &&& 31)) &&& 0x3f).toInt64)), (.long (g_r0 p1 (own_M p2)))])) _
      refine XS.lor X0.here hx rfl (hb hby at_37) rfl ?_
      show Steps p.tables e below (s₁.setTop (mkF m 38 #[.val (.long p1), .second, .val (.long p2), .second, .val (.long (own_M p2)), .second, .val (.long (g_r0 p1 (own_M p2))), .second, .val (.int (g_p0 (own_M p2)))] [(.long ((g_r0 p1 (own_M p2)) ||| ((g_v0 p1) <<< (((g_p0 (own_M p2)) <<< ((3 : Int32) &&& 31)) &&& 0x3f).toInt64)))])) _
      refine XS.lstore X0.here hx rfl (hb hby at_38) rfl (l' := #[.val (.long p1), .second, .val (.long p2), .second, .val (.long (own_M p2)), .second, .val (.long (g_t0 p1 (own_M p2))), .second, .val (.int (g_p0 (own_M p2)))]) rfl ?_
      show Steps p.tables e below (s₁.setTop (mkF m 40 #[.val (.long p1), .second, .val (.long p2), .second, .val (.long (own_M p2)), .second, .val (.long (g_t0 p1 (own_M p2))), .second, .val (.int (g_p0 (own_M p2)))] [])) _
      refine XS.iinc X0.here hx rfl (hb hby at_40) rfl (l' := #[.val (.long p1), .second, .val (.long p2), .second, .val (.long (own_M p2)), .second, .val (.long (g_t0 p1 (own_M p2))), .second, .val (.int ((g_p0 (own_M p2)) + (1 : Int32)))]) rfl ?_
      rw [show g_r1 p1 (own_M p2) = g_t0 p1 (own_M p2) from if_pos hcs0_1, show g_p1 (own_M p2) = g_p0 (own_M p2) + 1 from if_pos hcs0_1] at k
      exact k
    · refine XS.ifYes X0.here hx rfl (pc0 := 22) (pc' := 43) rfl (hb hby at_22) rfl ((if0 _ _).trans (feq hcs0_1).2) (by decide) (by decide) ?_
      rw [show g_r1 p1 (own_M p2) = g_r0 p1 (own_M p2) from if_neg hcs0_1, show g_p1 (own_M p2) = g_p0 (own_M p2) from if_neg hcs0_1] at k
      exact k
  have sg2 : ∀ t, Steps p.tables e below (s₁.setTop (mkF m 76 #[.val (.long p1), .second, .val (.long p2), .second, .val (.long (own_M p2)), .second, .val (.long (g_r2 p1 (own_M p2))), .second, .val (.int (g_p2 (own_M p2)))] [])) t → Steps p.tables e below (s₁.setTop (mkF m 43 #[.val (.long p1), .second, .val (.long p2), .second, .val (.long (own_M p2)), .second, .val (.long (g_r1 p1 (own_M p2))), .second, .val (.int (g_p1 (own_M p2)))] [])) t := by
    intro t k
    show Steps p.tables e below (s₁.setTop (mkF m 43 #[.val (.long p1), .second, .val (.long p2), .second, .val (.long (own_M p2)), .second, .val (.long (g_r1 p1 (own_M p2))), .second, .val (.int (g_p1 (own_M p2)))] [])) _
    refine XS.lload X0.here hx rfl (hb hby at_43) rfl ?_
    show Steps p.tables e below (s₁.setTop (mkF m 45 #[.val (.long p1), .second, .val (.long p2), .second, .val (.long (own_M p2)), .second, .val (.long (g_r1 p1 (own_M p2))), .second, .val (.int (g_p1 (own_M p2)))] [(.long (own_M p2))])) _
    refine XS.bipush X0.here hx rfl (hb hby at_45) ?_
    show Steps p.tables e below (s₁.setTop (mkF m 47 #[.val (.long p1), .second, .val (.long p2), .second, .val (.long (own_M p2)), .second, .val (.long (g_r1 p1 (own_M p2))), .second, .val (.int (g_p1 (own_M p2)))] [(.int (15 : Int32)), (.long (own_M p2))])) _
    refine XS.lushr X0.here hx rfl (hb hby at_47) rfl ?_
    show Steps p.tables e below (s₁.setTop (mkF m 48 #[.val (.long p1), .second, .val (.long p2), .second, .val (.long (own_M p2)), .second, .val (.long (g_r1 p1 (own_M p2))), .second, .val (.int (g_p1 (own_M p2)))] [(.long (((own_M p2).toUInt64 >>> ((15 : Int32) &&& 0x3f).toInt64.toUInt64).toInt64))])) _
    refine XS.lconst X0.here hx rfl (hb hby at_48) ?_
    show Steps p.tables e below (s₁.setTop (mkF m 49 #[.val (.long p1), .second, .val (.long p2), .second, .val (.long (own_M p2)), .second, .val (.long (g_r1 p1 (own_M p2))), .second, .val (.int (g_p1 (own_M p2)))] [(.long (1 : Int64)), (.long (((own_M p2).toUInt64 >>> ((15 : Int32) &&& 0x3f).toInt64.toUInt64).toInt64))])) _
    refine XS.land X0.here hx rfl (hb hby at_49) rfl ?_
    show Steps p.tables e below (s₁.setTop (mkF m 50 #[.val (.long p1), .second, .val (.long p2), .second, .val (.long (own_M p2)), .second, .val (.long (g_r1 p1 (own_M p2))), .second, .val (.int (g_p1 (own_M p2)))] [(.long ((((own_M p2).toUInt64 >>> ((15 : Int32) &&& 0x3f).toInt64.toUInt64).toInt64) &&& (1 : Int64)))])) _
    refine XS.lconst X0.here hx rfl (hb hby at_50) ?_
    show Steps p.tables e below (s₁.setTop (mkF m 51 #[.val (.long p1), .second, .val (.long p2), .second, .val (.long (own_M p2)), .second, .val (.long (g_r1 p1 (own_M p2))), .second, .val (.int (g_p1 (own_M p2)))] [(.long (0 : Int64)), (.long ((((own_M p2).toUInt64 >>> ((15 : Int32) &&& 0x3f).toInt64.toUInt64).toInt64) &&& (1 : Int64)))])) _
    refine XS.lcmp X0.here hx rfl (hb hby at_51) rfl ?_
    show Steps p.tables e below (s₁.setTop (mkF m 52 #[.val (.long p1), .second, .val (.long p2), .second, .val (.long (own_M p2)), .second, .val (.long (g_r1 p1 (own_M p2))), .second, .val (.int (g_p1 (own_M p2)))] [(.int (lcmpW ((((own_M p2).toUInt64 >>> ((15 : Int32) &&& 0x3f).toInt64.toUInt64).toInt64) &&& (1 : Int64)) (0 : Int64)))])) _
    by_cases hcs1_1 : (lcmpW ((((own_M p2).toUInt64 >>> ((15 : Int32) &&& 0x3f).toInt64.toUInt64).toInt64) &&& (1 : Int64)) (0 : Int64)) = (0 : Int32)
    · refine XS.ifNo X0.here hx rfl (hb hby at_52) rfl ((if0 _ _).trans (teq hcs1_1).2) ?_
      show Steps p.tables e below (s₁.setTop (mkF m 55 #[.val (.long p1), .second, .val (.long p2), .second, .val (.long (own_M p2)), .second, .val (.long (g_r1 p1 (own_M p2))), .second, .val (.int (g_p1 (own_M p2)))] [])) _
      refine XS.lload X0.here hx rfl (hb hby at_55) rfl ?_
      show Steps p.tables e below (s₁.setTop (mkF m 57 #[.val (.long p1), .second, .val (.long p2), .second, .val (.long (own_M p2)), .second, .val (.long (g_r1 p1 (own_M p2))), .second, .val (.int (g_p1 (own_M p2)))] [(.long (g_r1 p1 (own_M p2)))])) _
      refine XS.lloadN X0.here hx rfl (hb hby at_57) rfl ?_
      show Steps p.tables e below (s₁.setTop (mkF m 58 #[.val (.long p1), .second, .val (.long p2), .second, .val (.long (own_M p2)), .second, .val (.long (g_r1 p1 (own_M p2))), .second, .val (.int (g_p1 (own_M p2)))] [(.long p1), (.long (g_r1 p1 (own_M p2)))])) _
      refine XS.bipush X0.here hx rfl (hb hby at_58) ?_
      show Steps p.tables e below (s₁.setTop (mkF m 60 #[.val (.long p1), .second, .val (.long p2), .second, .val (.long (own_M p2)), .second, .val (.long (g_r1 p1 (own_M p2))), .second, .val (.int (g_p1 (own_M p2)))] [(.int (8 : Int32)), (.long p1), (.long (g_r1 p1 (own_M p2)))])) _
      refine XS.lushr X0.here hx rfl (hb hby at_60) rfl ?_
      show Steps p.tables e below (s₁.setTop (mkF m 61 #[.val (.long p1), .second, .val (.long p2), .second, .val (.long (own_M p2)), .second, .val (.long (g_r1 p1 (own_M p2))), .second, .val (.int (g_p1 (own_M p2)))] [(.long ((p1.toUInt64 >>> ((8 : Int32) &&& 0x3f).toInt64.toUInt64).toInt64)), (.long (g_r1 p1 (own_M p2)))])) _
      refine X0.ldc2Long hx hown (mvT hZ (hw _ (List.mem_of_getElem? (i := 1) rfl))) (g := (mkF m 61 #[.val (.long p1), .second, .val (.long p2), .second, .val (.long (own_M p2)), .second, .val (.long (g_r1 p1 (own_M p2))), .second, .val (.int (g_p1 (own_M p2)))] [(.long ((p1.toUInt64 >>> ((8 : Int32) &&& 0x3f).toInt64.toUInt64).toInt64)), (.long (g_r1 p1 (own_M p2)))])) rfl (hb hby at_61) _ ?_
      show Steps p.tables e below (s₁.setTop (mkF m 64 #[.val (.long p1), .second, .val (.long p2), .second, .val (.long (own_M p2)), .second, .val (.long (g_r1 p1 (own_M p2))), .second, .val (.int (g_p1 (own_M p2)))] [(.long (255 : Int64)), (.long ((p1.toUInt64 >>> ((8 : Int32) &&& 0x3f).toInt64.toUInt64).toInt64)), (.long (g_r1 p1 (own_M p2)))])) _
      refine XS.land X0.here hx rfl (hb hby at_64) rfl ?_
      show Steps p.tables e below (s₁.setTop (mkF m 65 #[.val (.long p1), .second, .val (.long p2), .second, .val (.long (own_M p2)), .second, .val (.long (g_r1 p1 (own_M p2))), .second, .val (.int (g_p1 (own_M p2)))] [(.long (g_v1 p1)), (.long (g_r1 p1 (own_M p2)))])) _
      refine XS.iload X0.here hx rfl (hb hby at_65) rfl ?_
      show Steps p.tables e below (s₁.setTop (mkF m 67 #[.val (.long p1), .second, .val (.long p2), .second, .val (.long (own_M p2)), .second, .val (.long (g_r1 p1 (own_M p2))), .second, .val (.int (g_p1 (own_M p2)))] [(.int (g_p1 (own_M p2))), (.long (g_v1 p1)), (.long (g_r1 p1 (own_M p2)))])) _
      refine XS.iconst X0.here hx rfl (hb hby at_67) ?_
      show Steps p.tables e below (s₁.setTop (mkF m 68 #[.val (.long p1), .second, .val (.long p2), .second, .val (.long (own_M p2)), .second, .val (.long (g_r1 p1 (own_M p2))), .second, .val (.int (g_p1 (own_M p2)))] [(.int (3 : Int32)), (.int (g_p1 (own_M p2))), (.long (g_v1 p1)), (.long (g_r1 p1 (own_M p2)))])) _
      refine XS.ishl X0.here hx rfl (hb hby at_68) rfl ?_
      show Steps p.tables e below (s₁.setTop (mkF m 69 #[.val (.long p1), .second, .val (.long p2), .second, .val (.long (own_M p2)), .second, .val (.long (g_r1 p1 (own_M p2))), .second, .val (.int (g_p1 (own_M p2)))] [(.int ((g_p1 (own_M p2)) <<< ((3 : Int32) &&& 31))), (.long (g_v1 p1)), (.long (g_r1 p1 (own_M p2)))])) _
      refine XS.lshl X0.here hx rfl (hb hby at_69) rfl ?_
      show Steps p.tables e below (s₁.setTop (mkF m 70 #[.val (.long p1), .second, .val (.long p2), .second, .val (.long (own_M p2)), .second, .val (.long (g_r1 p1 (own_M p2))), .second, .val (.int (g_p1 (own_M p2)))] [(.long ((g_v1 p1) <<< (((g_p1 (own_M p2)) <<< ((3 : Int32) &&& 31)) &&& 0x3f).toInt64)), (.long (g_r1 p1 (own_M p2)))])) _
      refine XS.lor X0.here hx rfl (hb hby at_70) rfl ?_
      show Steps p.tables e below (s₁.setTop (mkF m 71 #[.val (.long p1), .second, .val (.long p2), .second, .val (.long (own_M p2)), .second, .val (.long (g_r1 p1 (own_M p2))), .second, .val (.int (g_p1 (own_M p2)))] [(.long ((g_r1 p1 (own_M p2)) ||| ((g_v1 p1) <<< (((g_p1 (own_M p2)) <<< ((3 : Int32) &&& 31)) &&& 0x3f).toInt64)))])) _
      refine XS.lstore X0.here hx rfl (hb hby at_71) rfl (l' := #[.val (.long p1), .second, .val (.long p2), .second, .val (.long (own_M p2)), .second, .val (.long (g_t1 p1 (own_M p2))), .second, .val (.int (g_p1 (own_M p2)))]) rfl ?_
      show Steps p.tables e below (s₁.setTop (mkF m 73 #[.val (.long p1), .second, .val (.long p2), .second, .val (.long (own_M p2)), .second, .val (.long (g_t1 p1 (own_M p2))), .second, .val (.int (g_p1 (own_M p2)))] [])) _
      refine XS.iinc X0.here hx rfl (hb hby at_73) rfl (l' := #[.val (.long p1), .second, .val (.long p2), .second, .val (.long (own_M p2)), .second, .val (.long (g_t1 p1 (own_M p2))), .second, .val (.int ((g_p1 (own_M p2)) + (1 : Int32)))]) rfl ?_
      rw [show g_r2 p1 (own_M p2) = g_t1 p1 (own_M p2) from if_pos hcs1_1, show g_p2 (own_M p2) = g_p1 (own_M p2) + 1 from if_pos hcs1_1] at k
      exact k
    · refine XS.ifYes X0.here hx rfl (pc0 := 52) (pc' := 76) rfl (hb hby at_52) rfl ((if0 _ _).trans (feq hcs1_1).2) (by decide) (by decide) ?_
      rw [show g_r2 p1 (own_M p2) = g_r1 p1 (own_M p2) from if_neg hcs1_1, show g_p2 (own_M p2) = g_p1 (own_M p2) from if_neg hcs1_1] at k
      exact k
  have sg3 : ∀ t, Steps p.tables e below (s₁.setTop (mkF m 109 #[.val (.long p1), .second, .val (.long p2), .second, .val (.long (own_M p2)), .second, .val (.long (g_r3 p1 (own_M p2))), .second, .val (.int (g_p3 (own_M p2)))] [])) t → Steps p.tables e below (s₁.setTop (mkF m 76 #[.val (.long p1), .second, .val (.long p2), .second, .val (.long (own_M p2)), .second, .val (.long (g_r2 p1 (own_M p2))), .second, .val (.int (g_p2 (own_M p2)))] [])) t := by
    intro t k
    show Steps p.tables e below (s₁.setTop (mkF m 76 #[.val (.long p1), .second, .val (.long p2), .second, .val (.long (own_M p2)), .second, .val (.long (g_r2 p1 (own_M p2))), .second, .val (.int (g_p2 (own_M p2)))] [])) _
    refine XS.lload X0.here hx rfl (hb hby at_76) rfl ?_
    show Steps p.tables e below (s₁.setTop (mkF m 78 #[.val (.long p1), .second, .val (.long p2), .second, .val (.long (own_M p2)), .second, .val (.long (g_r2 p1 (own_M p2))), .second, .val (.int (g_p2 (own_M p2)))] [(.long (own_M p2))])) _
    refine XS.bipush X0.here hx rfl (hb hby at_78) ?_
    show Steps p.tables e below (s₁.setTop (mkF m 80 #[.val (.long p1), .second, .val (.long p2), .second, .val (.long (own_M p2)), .second, .val (.long (g_r2 p1 (own_M p2))), .second, .val (.int (g_p2 (own_M p2)))] [(.int (23 : Int32)), (.long (own_M p2))])) _
    refine XS.lushr X0.here hx rfl (hb hby at_80) rfl ?_
    show Steps p.tables e below (s₁.setTop (mkF m 81 #[.val (.long p1), .second, .val (.long p2), .second, .val (.long (own_M p2)), .second, .val (.long (g_r2 p1 (own_M p2))), .second, .val (.int (g_p2 (own_M p2)))] [(.long (((own_M p2).toUInt64 >>> ((23 : Int32) &&& 0x3f).toInt64.toUInt64).toInt64))])) _
    refine XS.lconst X0.here hx rfl (hb hby at_81) ?_
    show Steps p.tables e below (s₁.setTop (mkF m 82 #[.val (.long p1), .second, .val (.long p2), .second, .val (.long (own_M p2)), .second, .val (.long (g_r2 p1 (own_M p2))), .second, .val (.int (g_p2 (own_M p2)))] [(.long (1 : Int64)), (.long (((own_M p2).toUInt64 >>> ((23 : Int32) &&& 0x3f).toInt64.toUInt64).toInt64))])) _
    refine XS.land X0.here hx rfl (hb hby at_82) rfl ?_
    show Steps p.tables e below (s₁.setTop (mkF m 83 #[.val (.long p1), .second, .val (.long p2), .second, .val (.long (own_M p2)), .second, .val (.long (g_r2 p1 (own_M p2))), .second, .val (.int (g_p2 (own_M p2)))] [(.long ((((own_M p2).toUInt64 >>> ((23 : Int32) &&& 0x3f).toInt64.toUInt64).toInt64) &&& (1 : Int64)))])) _
    refine XS.lconst X0.here hx rfl (hb hby at_83) ?_
    show Steps p.tables e below (s₁.setTop (mkF m 84 #[.val (.long p1), .second, .val (.long p2), .second, .val (.long (own_M p2)), .second, .val (.long (g_r2 p1 (own_M p2))), .second, .val (.int (g_p2 (own_M p2)))] [(.long (0 : Int64)), (.long ((((own_M p2).toUInt64 >>> ((23 : Int32) &&& 0x3f).toInt64.toUInt64).toInt64) &&& (1 : Int64)))])) _
    refine XS.lcmp X0.here hx rfl (hb hby at_84) rfl ?_
    show Steps p.tables e below (s₁.setTop (mkF m 85 #[.val (.long p1), .second, .val (.long p2), .second, .val (.long (own_M p2)), .second, .val (.long (g_r2 p1 (own_M p2))), .second, .val (.int (g_p2 (own_M p2)))] [(.int (lcmpW ((((own_M p2).toUInt64 >>> ((23 : Int32) &&& 0x3f).toInt64.toUInt64).toInt64) &&& (1 : Int64)) (0 : Int64)))])) _
    by_cases hcs2_1 : (lcmpW ((((own_M p2).toUInt64 >>> ((23 : Int32) &&& 0x3f).toInt64.toUInt64).toInt64) &&& (1 : Int64)) (0 : Int64)) = (0 : Int32)
    · refine XS.ifNo X0.here hx rfl (hb hby at_85) rfl ((if0 _ _).trans (teq hcs2_1).2) ?_
      show Steps p.tables e below (s₁.setTop (mkF m 88 #[.val (.long p1), .second, .val (.long p2), .second, .val (.long (own_M p2)), .second, .val (.long (g_r2 p1 (own_M p2))), .second, .val (.int (g_p2 (own_M p2)))] [])) _
      refine XS.lload X0.here hx rfl (hb hby at_88) rfl ?_
      show Steps p.tables e below (s₁.setTop (mkF m 90 #[.val (.long p1), .second, .val (.long p2), .second, .val (.long (own_M p2)), .second, .val (.long (g_r2 p1 (own_M p2))), .second, .val (.int (g_p2 (own_M p2)))] [(.long (g_r2 p1 (own_M p2)))])) _
      refine XS.lloadN X0.here hx rfl (hb hby at_90) rfl ?_
      show Steps p.tables e below (s₁.setTop (mkF m 91 #[.val (.long p1), .second, .val (.long p2), .second, .val (.long (own_M p2)), .second, .val (.long (g_r2 p1 (own_M p2))), .second, .val (.int (g_p2 (own_M p2)))] [(.long p1), (.long (g_r2 p1 (own_M p2)))])) _
      refine XS.bipush X0.here hx rfl (hb hby at_91) ?_
      show Steps p.tables e below (s₁.setTop (mkF m 93 #[.val (.long p1), .second, .val (.long p2), .second, .val (.long (own_M p2)), .second, .val (.long (g_r2 p1 (own_M p2))), .second, .val (.int (g_p2 (own_M p2)))] [(.int (16 : Int32)), (.long p1), (.long (g_r2 p1 (own_M p2)))])) _
      refine XS.lushr X0.here hx rfl (hb hby at_93) rfl ?_
      show Steps p.tables e below (s₁.setTop (mkF m 94 #[.val (.long p1), .second, .val (.long p2), .second, .val (.long (own_M p2)), .second, .val (.long (g_r2 p1 (own_M p2))), .second, .val (.int (g_p2 (own_M p2)))] [(.long ((p1.toUInt64 >>> ((16 : Int32) &&& 0x3f).toInt64.toUInt64).toInt64)), (.long (g_r2 p1 (own_M p2)))])) _
      refine X0.ldc2Long hx hown (mvT hZ (hw _ (List.mem_of_getElem? (i := 1) rfl))) (g := (mkF m 94 #[.val (.long p1), .second, .val (.long p2), .second, .val (.long (own_M p2)), .second, .val (.long (g_r2 p1 (own_M p2))), .second, .val (.int (g_p2 (own_M p2)))] [(.long ((p1.toUInt64 >>> ((16 : Int32) &&& 0x3f).toInt64.toUInt64).toInt64)), (.long (g_r2 p1 (own_M p2)))])) rfl (hb hby at_94) _ ?_
      show Steps p.tables e below (s₁.setTop (mkF m 97 #[.val (.long p1), .second, .val (.long p2), .second, .val (.long (own_M p2)), .second, .val (.long (g_r2 p1 (own_M p2))), .second, .val (.int (g_p2 (own_M p2)))] [(.long (255 : Int64)), (.long ((p1.toUInt64 >>> ((16 : Int32) &&& 0x3f).toInt64.toUInt64).toInt64)), (.long (g_r2 p1 (own_M p2)))])) _
      refine XS.land X0.here hx rfl (hb hby at_97) rfl ?_
      show Steps p.tables e below (s₁.setTop (mkF m 98 #[.val (.long p1), .second, .val (.long p2), .second, .val (.long (own_M p2)), .second, .val (.long (g_r2 p1 (own_M p2))), .second, .val (.int (g_p2 (own_M p2)))] [(.long (g_v2 p1)), (.long (g_r2 p1 (own_M p2)))])) _
      refine XS.iload X0.here hx rfl (hb hby at_98) rfl ?_
      show Steps p.tables e below (s₁.setTop (mkF m 100 #[.val (.long p1), .second, .val (.long p2), .second, .val (.long (own_M p2)), .second, .val (.long (g_r2 p1 (own_M p2))), .second, .val (.int (g_p2 (own_M p2)))] [(.int (g_p2 (own_M p2))), (.long (g_v2 p1)), (.long (g_r2 p1 (own_M p2)))])) _
      refine XS.iconst X0.here hx rfl (hb hby at_100) ?_
      show Steps p.tables e below (s₁.setTop (mkF m 101 #[.val (.long p1), .second, .val (.long p2), .second, .val (.long (own_M p2)), .second, .val (.long (g_r2 p1 (own_M p2))), .second, .val (.int (g_p2 (own_M p2)))] [(.int (3 : Int32)), (.int (g_p2 (own_M p2))), (.long (g_v2 p1)), (.long (g_r2 p1 (own_M p2)))])) _
      refine XS.ishl X0.here hx rfl (hb hby at_101) rfl ?_
      show Steps p.tables e below (s₁.setTop (mkF m 102 #[.val (.long p1), .second, .val (.long p2), .second, .val (.long (own_M p2)), .second, .val (.long (g_r2 p1 (own_M p2))), .second, .val (.int (g_p2 (own_M p2)))] [(.int ((g_p2 (own_M p2)) <<< ((3 : Int32) &&& 31))), (.long (g_v2 p1)), (.long (g_r2 p1 (own_M p2)))])) _
      refine XS.lshl X0.here hx rfl (hb hby at_102) rfl ?_
      show Steps p.tables e below (s₁.setTop (mkF m 103 #[.val (.long p1), .second, .val (.long p2), .second, .val (.long (own_M p2)), .second, .val (.long (g_r2 p1 (own_M p2))), .second, .val (.int (g_p2 (own_M p2)))] [(.long ((g_v2 p1) <<< (((g_p2 (own_M p2)) <<< ((3 : Int32) &&& 31)) &&& 0x3f).toInt64)), (.long (g_r2 p1 (own_M p2)))])) _
      refine XS.lor X0.here hx rfl (hb hby at_103) rfl ?_
      show Steps p.tables e below (s₁.setTop (mkF m 104 #[.val (.long p1), .second, .val (.long p2), .second, .val (.long (own_M p2)), .second, .val (.long (g_r2 p1 (own_M p2))), .second, .val (.int (g_p2 (own_M p2)))] [(.long ((g_r2 p1 (own_M p2)) ||| ((g_v2 p1) <<< (((g_p2 (own_M p2)) <<< ((3 : Int32) &&& 31)) &&& 0x3f).toInt64)))])) _
      refine XS.lstore X0.here hx rfl (hb hby at_104) rfl (l' := #[.val (.long p1), .second, .val (.long p2), .second, .val (.long (own_M p2)), .second, .val (.long (g_t2 p1 (own_M p2))), .second, .val (.int (g_p2 (own_M p2)))]) rfl ?_
      show Steps p.tables e below (s₁.setTop (mkF m 106 #[.val (.long p1), .second, .val (.long p2), .second, .val (.long (own_M p2)), .second, .val (.long (g_t2 p1 (own_M p2))), .second, .val (.int (g_p2 (own_M p2)))] [])) _
      refine XS.iinc X0.here hx rfl (hb hby at_106) rfl (l' := #[.val (.long p1), .second, .val (.long p2), .second, .val (.long (own_M p2)), .second, .val (.long (g_t2 p1 (own_M p2))), .second, .val (.int ((g_p2 (own_M p2)) + (1 : Int32)))]) rfl ?_
      rw [show g_r3 p1 (own_M p2) = g_t2 p1 (own_M p2) from if_pos hcs2_1, show g_p3 (own_M p2) = g_p2 (own_M p2) + 1 from if_pos hcs2_1] at k
      exact k
    · refine XS.ifYes X0.here hx rfl (pc0 := 85) (pc' := 109) rfl (hb hby at_85) rfl ((if0 _ _).trans (feq hcs2_1).2) (by decide) (by decide) ?_
      rw [show g_r3 p1 (own_M p2) = g_r2 p1 (own_M p2) from if_neg hcs2_1, show g_p3 (own_M p2) = g_p2 (own_M p2) from if_neg hcs2_1] at k
      exact k
  have sg4 : ∀ t, Steps p.tables e below (s₁.setTop (mkF m 142 #[.val (.long p1), .second, .val (.long p2), .second, .val (.long (own_M p2)), .second, .val (.long (g_r4 p1 (own_M p2))), .second, .val (.int (g_p4 (own_M p2)))] [])) t → Steps p.tables e below (s₁.setTop (mkF m 109 #[.val (.long p1), .second, .val (.long p2), .second, .val (.long (own_M p2)), .second, .val (.long (g_r3 p1 (own_M p2))), .second, .val (.int (g_p3 (own_M p2)))] [])) t := by
    intro t k
    show Steps p.tables e below (s₁.setTop (mkF m 109 #[.val (.long p1), .second, .val (.long p2), .second, .val (.long (own_M p2)), .second, .val (.long (g_r3 p1 (own_M p2))), .second, .val (.int (g_p3 (own_M p2)))] [])) _
    refine XS.lload X0.here hx rfl (hb hby at_109) rfl ?_
    show Steps p.tables e below (s₁.setTop (mkF m 111 #[.val (.long p1), .second, .val (.long p2), .second, .val (.long (own_M p2)), .second, .val (.long (g_r3 p1 (own_M p2))), .second, .val (.int (g_p3 (own_M p2)))] [(.long (own_M p2))])) _
    refine XS.bipush X0.here hx rfl (hb hby at_111) ?_
    show Steps p.tables e below (s₁.setTop (mkF m 113 #[.val (.long p1), .second, .val (.long p2), .second, .val (.long (own_M p2)), .second, .val (.long (g_r3 p1 (own_M p2))), .second, .val (.int (g_p3 (own_M p2)))] [(.int (31 : Int32)), (.long (own_M p2))])) _
    refine XS.lushr X0.here hx rfl (hb hby at_113) rfl ?_
    show Steps p.tables e below (s₁.setTop (mkF m 114 #[.val (.long p1), .second, .val (.long p2), .second, .val (.long (own_M p2)), .second, .val (.long (g_r3 p1 (own_M p2))), .second, .val (.int (g_p3 (own_M p2)))] [(.long (((own_M p2).toUInt64 >>> ((31 : Int32) &&& 0x3f).toInt64.toUInt64).toInt64))])) _
    refine XS.lconst X0.here hx rfl (hb hby at_114) ?_
    show Steps p.tables e below (s₁.setTop (mkF m 115 #[.val (.long p1), .second, .val (.long p2), .second, .val (.long (own_M p2)), .second, .val (.long (g_r3 p1 (own_M p2))), .second, .val (.int (g_p3 (own_M p2)))] [(.long (1 : Int64)), (.long (((own_M p2).toUInt64 >>> ((31 : Int32) &&& 0x3f).toInt64.toUInt64).toInt64))])) _
    refine XS.land X0.here hx rfl (hb hby at_115) rfl ?_
    show Steps p.tables e below (s₁.setTop (mkF m 116 #[.val (.long p1), .second, .val (.long p2), .second, .val (.long (own_M p2)), .second, .val (.long (g_r3 p1 (own_M p2))), .second, .val (.int (g_p3 (own_M p2)))] [(.long ((((own_M p2).toUInt64 >>> ((31 : Int32) &&& 0x3f).toInt64.toUInt64).toInt64) &&& (1 : Int64)))])) _
    refine XS.lconst X0.here hx rfl (hb hby at_116) ?_
    show Steps p.tables e below (s₁.setTop (mkF m 117 #[.val (.long p1), .second, .val (.long p2), .second, .val (.long (own_M p2)), .second, .val (.long (g_r3 p1 (own_M p2))), .second, .val (.int (g_p3 (own_M p2)))] [(.long (0 : Int64)), (.long ((((own_M p2).toUInt64 >>> ((31 : Int32) &&& 0x3f).toInt64.toUInt64).toInt64) &&& (1 : Int64)))])) _
    refine XS.lcmp X0.here hx rfl (hb hby at_117) rfl ?_
    show Steps p.tables e below (s₁.setTop (mkF m 118 #[.val (.long p1), .second, .val (.long p2), .second, .val (.long (own_M p2)), .second, .val (.long (g_r3 p1 (own_M p2))), .second, .val (.int (g_p3 (own_M p2)))] [(.int (lcmpW ((((own_M p2).toUInt64 >>> ((31 : Int32) &&& 0x3f).toInt64.toUInt64).toInt64) &&& (1 : Int64)) (0 : Int64)))])) _
    by_cases hcs3_1 : (lcmpW ((((own_M p2).toUInt64 >>> ((31 : Int32) &&& 0x3f).toInt64.toUInt64).toInt64) &&& (1 : Int64)) (0 : Int64)) = (0 : Int32)
    · refine XS.ifNo X0.here hx rfl (hb hby at_118) rfl ((if0 _ _).trans (teq hcs3_1).2) ?_
      show Steps p.tables e below (s₁.setTop (mkF m 121 #[.val (.long p1), .second, .val (.long p2), .second, .val (.long (own_M p2)), .second, .val (.long (g_r3 p1 (own_M p2))), .second, .val (.int (g_p3 (own_M p2)))] [])) _
      refine XS.lload X0.here hx rfl (hb hby at_121) rfl ?_
      show Steps p.tables e below (s₁.setTop (mkF m 123 #[.val (.long p1), .second, .val (.long p2), .second, .val (.long (own_M p2)), .second, .val (.long (g_r3 p1 (own_M p2))), .second, .val (.int (g_p3 (own_M p2)))] [(.long (g_r3 p1 (own_M p2)))])) _
      refine XS.lloadN X0.here hx rfl (hb hby at_123) rfl ?_
      show Steps p.tables e below (s₁.setTop (mkF m 124 #[.val (.long p1), .second, .val (.long p2), .second, .val (.long (own_M p2)), .second, .val (.long (g_r3 p1 (own_M p2))), .second, .val (.int (g_p3 (own_M p2)))] [(.long p1), (.long (g_r3 p1 (own_M p2)))])) _
      refine XS.bipush X0.here hx rfl (hb hby at_124) ?_
      show Steps p.tables e below (s₁.setTop (mkF m 126 #[.val (.long p1), .second, .val (.long p2), .second, .val (.long (own_M p2)), .second, .val (.long (g_r3 p1 (own_M p2))), .second, .val (.int (g_p3 (own_M p2)))] [(.int (24 : Int32)), (.long p1), (.long (g_r3 p1 (own_M p2)))])) _
      refine XS.lushr X0.here hx rfl (hb hby at_126) rfl ?_
      show Steps p.tables e below (s₁.setTop (mkF m 127 #[.val (.long p1), .second, .val (.long p2), .second, .val (.long (own_M p2)), .second, .val (.long (g_r3 p1 (own_M p2))), .second, .val (.int (g_p3 (own_M p2)))] [(.long ((p1.toUInt64 >>> ((24 : Int32) &&& 0x3f).toInt64.toUInt64).toInt64)), (.long (g_r3 p1 (own_M p2)))])) _
      refine X0.ldc2Long hx hown (mvT hZ (hw _ (List.mem_of_getElem? (i := 1) rfl))) (g := (mkF m 127 #[.val (.long p1), .second, .val (.long p2), .second, .val (.long (own_M p2)), .second, .val (.long (g_r3 p1 (own_M p2))), .second, .val (.int (g_p3 (own_M p2)))] [(.long ((p1.toUInt64 >>> ((24 : Int32) &&& 0x3f).toInt64.toUInt64).toInt64)), (.long (g_r3 p1 (own_M p2)))])) rfl (hb hby at_127) _ ?_
      show Steps p.tables e below (s₁.setTop (mkF m 130 #[.val (.long p1), .second, .val (.long p2), .second, .val (.long (own_M p2)), .second, .val (.long (g_r3 p1 (own_M p2))), .second, .val (.int (g_p3 (own_M p2)))] [(.long (255 : Int64)), (.long ((p1.toUInt64 >>> ((24 : Int32) &&& 0x3f).toInt64.toUInt64).toInt64)), (.long (g_r3 p1 (own_M p2)))])) _
      refine XS.land X0.here hx rfl (hb hby at_130) rfl ?_
      show Steps p.tables e below (s₁.setTop (mkF m 131 #[.val (.long p1), .second, .val (.long p2), .second, .val (.long (own_M p2)), .second, .val (.long (g_r3 p1 (own_M p2))), .second, .val (.int (g_p3 (own_M p2)))] [(.long (g_v3 p1)), (.long (g_r3 p1 (own_M p2)))])) _
      refine XS.iload X0.here hx rfl (hb hby at_131) rfl ?_
      show Steps p.tables e below (s₁.setTop (mkF m 133 #[.val (.long p1), .second, .val (.long p2), .second, .val (.long (own_M p2)), .second, .val (.long (g_r3 p1 (own_M p2))), .second, .val (.int (g_p3 (own_M p2)))] [(.int (g_p3 (own_M p2))), (.long (g_v3 p1)), (.long (g_r3 p1 (own_M p2)))])) _
      refine XS.iconst X0.here hx rfl (hb hby at_133) ?_
      show Steps p.tables e below (s₁.setTop (mkF m 134 #[.val (.long p1), .second, .val (.long p2), .second, .val (.long (own_M p2)), .second, .val (.long (g_r3 p1 (own_M p2))), .second, .val (.int (g_p3 (own_M p2)))] [(.int (3 : Int32)), (.int (g_p3 (own_M p2))), (.long (g_v3 p1)), (.long (g_r3 p1 (own_M p2)))])) _
      refine XS.ishl X0.here hx rfl (hb hby at_134) rfl ?_
      show Steps p.tables e below (s₁.setTop (mkF m 135 #[.val (.long p1), .second, .val (.long p2), .second, .val (.long (own_M p2)), .second, .val (.long (g_r3 p1 (own_M p2))), .second, .val (.int (g_p3 (own_M p2)))] [(.int ((g_p3 (own_M p2)) <<< ((3 : Int32) &&& 31))), (.long (g_v3 p1)), (.long (g_r3 p1 (own_M p2)))])) _
      refine XS.lshl X0.here hx rfl (hb hby at_135) rfl ?_
      show Steps p.tables e below (s₁.setTop (mkF m 136 #[.val (.long p1), .second, .val (.long p2), .second, .val (.long (own_M p2)), .second, .val (.long (g_r3 p1 (own_M p2))), .second, .val (.int (g_p3 (own_M p2)))] [(.long ((g_v3 p1) <<< (((g_p3 (own_M p2)) <<< ((3 : Int32) &&& 31)) &&& 0x3f).toInt64)), (.long (g_r3 p1 (own_M p2)))])) _
      refine XS.lor X0.here hx rfl (hb hby at_136) rfl ?_
      show Steps p.tables e below (s₁.setTop (mkF m 137 #[.val (.long p1), .second, .val (.long p2), .second, .val (.long (own_M p2)), .second, .val (.long (g_r3 p1 (own_M p2))), .second, .val (.int (g_p3 (own_M p2)))] [(.long ((g_r3 p1 (own_M p2)) ||| ((g_v3 p1) <<< (((g_p3 (own_M p2)) <<< ((3 : Int32) &&& 31)) &&& 0x3f).toInt64)))])) _
      refine XS.lstore X0.here hx rfl (hb hby at_137) rfl (l' := #[.val (.long p1), .second, .val (.long p2), .second, .val (.long (own_M p2)), .second, .val (.long (g_t3 p1 (own_M p2))), .second, .val (.int (g_p3 (own_M p2)))]) rfl ?_
      show Steps p.tables e below (s₁.setTop (mkF m 139 #[.val (.long p1), .second, .val (.long p2), .second, .val (.long (own_M p2)), .second, .val (.long (g_t3 p1 (own_M p2))), .second, .val (.int (g_p3 (own_M p2)))] [])) _
      refine XS.iinc X0.here hx rfl (hb hby at_139) rfl (l' := #[.val (.long p1), .second, .val (.long p2), .second, .val (.long (own_M p2)), .second, .val (.long (g_t3 p1 (own_M p2))), .second, .val (.int ((g_p3 (own_M p2)) + (1 : Int32)))]) rfl ?_
      rw [show g_r4 p1 (own_M p2) = g_t3 p1 (own_M p2) from if_pos hcs3_1, show g_p4 (own_M p2) = g_p3 (own_M p2) + 1 from if_pos hcs3_1] at k
      exact k
    · refine XS.ifYes X0.here hx rfl (pc0 := 118) (pc' := 142) rfl (hb hby at_118) rfl ((if0 _ _).trans (feq hcs3_1).2) (by decide) (by decide) ?_
      rw [show g_r4 p1 (own_M p2) = g_r3 p1 (own_M p2) from if_neg hcs3_1, show g_p4 (own_M p2) = g_p3 (own_M p2) from if_neg hcs3_1] at k
      exact k
  have sg5 : ∀ t, Steps p.tables e below (s₁.setTop (mkF m 175 #[.val (.long p1), .second, .val (.long p2), .second, .val (.long (own_M p2)), .second, .val (.long (g_r5 p1 (own_M p2))), .second, .val (.int (g_p5 (own_M p2)))] [])) t → Steps p.tables e below (s₁.setTop (mkF m 142 #[.val (.long p1), .second, .val (.long p2), .second, .val (.long (own_M p2)), .second, .val (.long (g_r4 p1 (own_M p2))), .second, .val (.int (g_p4 (own_M p2)))] [])) t := by
    intro t k
    show Steps p.tables e below (s₁.setTop (mkF m 142 #[.val (.long p1), .second, .val (.long p2), .second, .val (.long (own_M p2)), .second, .val (.long (g_r4 p1 (own_M p2))), .second, .val (.int (g_p4 (own_M p2)))] [])) _
    refine XS.lload X0.here hx rfl (hb hby at_142) rfl ?_
    show Steps p.tables e below (s₁.setTop (mkF m 144 #[.val (.long p1), .second, .val (.long p2), .second, .val (.long (own_M p2)), .second, .val (.long (g_r4 p1 (own_M p2))), .second, .val (.int (g_p4 (own_M p2)))] [(.long (own_M p2))])) _
    refine XS.bipush X0.here hx rfl (hb hby at_144) ?_
    show Steps p.tables e below (s₁.setTop (mkF m 146 #[.val (.long p1), .second, .val (.long p2), .second, .val (.long (own_M p2)), .second, .val (.long (g_r4 p1 (own_M p2))), .second, .val (.int (g_p4 (own_M p2)))] [(.int (39 : Int32)), (.long (own_M p2))])) _
    refine XS.lushr X0.here hx rfl (hb hby at_146) rfl ?_
    show Steps p.tables e below (s₁.setTop (mkF m 147 #[.val (.long p1), .second, .val (.long p2), .second, .val (.long (own_M p2)), .second, .val (.long (g_r4 p1 (own_M p2))), .second, .val (.int (g_p4 (own_M p2)))] [(.long (((own_M p2).toUInt64 >>> ((39 : Int32) &&& 0x3f).toInt64.toUInt64).toInt64))])) _
    refine XS.lconst X0.here hx rfl (hb hby at_147) ?_
    show Steps p.tables e below (s₁.setTop (mkF m 148 #[.val (.long p1), .second, .val (.long p2), .second, .val (.long (own_M p2)), .second, .val (.long (g_r4 p1 (own_M p2))), .second, .val (.int (g_p4 (own_M p2)))] [(.long (1 : Int64)), (.long (((own_M p2).toUInt64 >>> ((39 : Int32) &&& 0x3f).toInt64.toUInt64).toInt64))])) _
    refine XS.land X0.here hx rfl (hb hby at_148) rfl ?_
    show Steps p.tables e below (s₁.setTop (mkF m 149 #[.val (.long p1), .second, .val (.long p2), .second, .val (.long (own_M p2)), .second, .val (.long (g_r4 p1 (own_M p2))), .second, .val (.int (g_p4 (own_M p2)))] [(.long ((((own_M p2).toUInt64 >>> ((39 : Int32) &&& 0x3f).toInt64.toUInt64).toInt64) &&& (1 : Int64)))])) _
    refine XS.lconst X0.here hx rfl (hb hby at_149) ?_
    show Steps p.tables e below (s₁.setTop (mkF m 150 #[.val (.long p1), .second, .val (.long p2), .second, .val (.long (own_M p2)), .second, .val (.long (g_r4 p1 (own_M p2))), .second, .val (.int (g_p4 (own_M p2)))] [(.long (0 : Int64)), (.long ((((own_M p2).toUInt64 >>> ((39 : Int32) &&& 0x3f).toInt64.toUInt64).toInt64) &&& (1 : Int64)))])) _
    refine XS.lcmp X0.here hx rfl (hb hby at_150) rfl ?_
    show Steps p.tables e below (s₁.setTop (mkF m 151 #[.val (.long p1), .second, .val (.long p2), .second, .val (.long (own_M p2)), .second, .val (.long (g_r4 p1 (own_M p2))), .second, .val (.int (g_p4 (own_M p2)))] [(.int (lcmpW ((((own_M p2).toUInt64 >>> ((39 : Int32) &&& 0x3f).toInt64.toUInt64).toInt64) &&& (1 : Int64)) (0 : Int64)))])) _
    by_cases hcs4_1 : (lcmpW ((((own_M p2).toUInt64 >>> ((39 : Int32) &&& 0x3f).toInt64.toUInt64).toInt64) &&& (1 : Int64)) (0 : Int64)) = (0 : Int32)
    · refine XS.ifNo X0.here hx rfl (hb hby at_151) rfl ((if0 _ _).trans (teq hcs4_1).2) ?_
      show Steps p.tables e below (s₁.setTop (mkF m 154 #[.val (.long p1), .second, .val (.long p2), .second, .val (.long (own_M p2)), .second, .val (.long (g_r4 p1 (own_M p2))), .second, .val (.int (g_p4 (own_M p2)))] [])) _
      refine XS.lload X0.here hx rfl (hb hby at_154) rfl ?_
      show Steps p.tables e below (s₁.setTop (mkF m 156 #[.val (.long p1), .second, .val (.long p2), .second, .val (.long (own_M p2)), .second, .val (.long (g_r4 p1 (own_M p2))), .second, .val (.int (g_p4 (own_M p2)))] [(.long (g_r4 p1 (own_M p2)))])) _
      refine XS.lloadN X0.here hx rfl (hb hby at_156) rfl ?_
      show Steps p.tables e below (s₁.setTop (mkF m 157 #[.val (.long p1), .second, .val (.long p2), .second, .val (.long (own_M p2)), .second, .val (.long (g_r4 p1 (own_M p2))), .second, .val (.int (g_p4 (own_M p2)))] [(.long p1), (.long (g_r4 p1 (own_M p2)))])) _
      refine XS.bipush X0.here hx rfl (hb hby at_157) ?_
      show Steps p.tables e below (s₁.setTop (mkF m 159 #[.val (.long p1), .second, .val (.long p2), .second, .val (.long (own_M p2)), .second, .val (.long (g_r4 p1 (own_M p2))), .second, .val (.int (g_p4 (own_M p2)))] [(.int (32 : Int32)), (.long p1), (.long (g_r4 p1 (own_M p2)))])) _
      refine XS.lushr X0.here hx rfl (hb hby at_159) rfl ?_
      show Steps p.tables e below (s₁.setTop (mkF m 160 #[.val (.long p1), .second, .val (.long p2), .second, .val (.long (own_M p2)), .second, .val (.long (g_r4 p1 (own_M p2))), .second, .val (.int (g_p4 (own_M p2)))] [(.long ((p1.toUInt64 >>> ((32 : Int32) &&& 0x3f).toInt64.toUInt64).toInt64)), (.long (g_r4 p1 (own_M p2)))])) _
      refine X0.ldc2Long hx hown (mvT hZ (hw _ (List.mem_of_getElem? (i := 1) rfl))) (g := (mkF m 160 #[.val (.long p1), .second, .val (.long p2), .second, .val (.long (own_M p2)), .second, .val (.long (g_r4 p1 (own_M p2))), .second, .val (.int (g_p4 (own_M p2)))] [(.long ((p1.toUInt64 >>> ((32 : Int32) &&& 0x3f).toInt64.toUInt64).toInt64)), (.long (g_r4 p1 (own_M p2)))])) rfl (hb hby at_160) _ ?_
      show Steps p.tables e below (s₁.setTop (mkF m 163 #[.val (.long p1), .second, .val (.long p2), .second, .val (.long (own_M p2)), .second, .val (.long (g_r4 p1 (own_M p2))), .second, .val (.int (g_p4 (own_M p2)))] [(.long (255 : Int64)), (.long ((p1.toUInt64 >>> ((32 : Int32) &&& 0x3f).toInt64.toUInt64).toInt64)), (.long (g_r4 p1 (own_M p2)))])) _
      refine XS.land X0.here hx rfl (hb hby at_163) rfl ?_
      show Steps p.tables e below (s₁.setTop (mkF m 164 #[.val (.long p1), .second, .val (.long p2), .second, .val (.long (own_M p2)), .second, .val (.long (g_r4 p1 (own_M p2))), .second, .val (.int (g_p4 (own_M p2)))] [(.long (g_v4 p1)), (.long (g_r4 p1 (own_M p2)))])) _
      refine XS.iload X0.here hx rfl (hb hby at_164) rfl ?_
      show Steps p.tables e below (s₁.setTop (mkF m 166 #[.val (.long p1), .second, .val (.long p2), .second, .val (.long (own_M p2)), .second, .val (.long (g_r4 p1 (own_M p2))), .second, .val (.int (g_p4 (own_M p2)))] [(.int (g_p4 (own_M p2))), (.long (g_v4 p1)), (.long (g_r4 p1 (own_M p2)))])) _
      refine XS.iconst X0.here hx rfl (hb hby at_166) ?_
      show Steps p.tables e below (s₁.setTop (mkF m 167 #[.val (.long p1), .second, .val (.long p2), .second, .val (.long (own_M p2)), .second, .val (.long (g_r4 p1 (own_M p2))), .second, .val (.int (g_p4 (own_M p2)))] [(.int (3 : Int32)), (.int (g_p4 (own_M p2))), (.long (g_v4 p1)), (.long (g_r4 p1 (own_M p2)))])) _
      refine XS.ishl X0.here hx rfl (hb hby at_167) rfl ?_
      show Steps p.tables e below (s₁.setTop (mkF m 168 #[.val (.long p1), .second, .val (.long p2), .second, .val (.long (own_M p2)), .second, .val (.long (g_r4 p1 (own_M p2))), .second, .val (.int (g_p4 (own_M p2)))] [(.int ((g_p4 (own_M p2)) <<< ((3 : Int32) &&& 31))), (.long (g_v4 p1)), (.long (g_r4 p1 (own_M p2)))])) _
      refine XS.lshl X0.here hx rfl (hb hby at_168) rfl ?_
      show Steps p.tables e below (s₁.setTop (mkF m 169 #[.val (.long p1), .second, .val (.long p2), .second, .val (.long (own_M p2)), .second, .val (.long (g_r4 p1 (own_M p2))), .second, .val (.int (g_p4 (own_M p2)))] [(.long ((g_v4 p1) <<< (((g_p4 (own_M p2)) <<< ((3 : Int32) &&& 31)) &&& 0x3f).toInt64)), (.long (g_r4 p1 (own_M p2)))])) _
      refine XS.lor X0.here hx rfl (hb hby at_169) rfl ?_
      show Steps p.tables e below (s₁.setTop (mkF m 170 #[.val (.long p1), .second, .val (.long p2), .second, .val (.long (own_M p2)), .second, .val (.long (g_r4 p1 (own_M p2))), .second, .val (.int (g_p4 (own_M p2)))] [(.long ((g_r4 p1 (own_M p2)) ||| ((g_v4 p1) <<< (((g_p4 (own_M p2)) <<< ((3 : Int32) &&& 31)) &&& 0x3f).toInt64)))])) _
      refine XS.lstore X0.here hx rfl (hb hby at_170) rfl (l' := #[.val (.long p1), .second, .val (.long p2), .second, .val (.long (own_M p2)), .second, .val (.long (g_t4 p1 (own_M p2))), .second, .val (.int (g_p4 (own_M p2)))]) rfl ?_
      show Steps p.tables e below (s₁.setTop (mkF m 172 #[.val (.long p1), .second, .val (.long p2), .second, .val (.long (own_M p2)), .second, .val (.long (g_t4 p1 (own_M p2))), .second, .val (.int (g_p4 (own_M p2)))] [])) _
      refine XS.iinc X0.here hx rfl (hb hby at_172) rfl (l' := #[.val (.long p1), .second, .val (.long p2), .second, .val (.long (own_M p2)), .second, .val (.long (g_t4 p1 (own_M p2))), .second, .val (.int ((g_p4 (own_M p2)) + (1 : Int32)))]) rfl ?_
      rw [show g_r5 p1 (own_M p2) = g_t4 p1 (own_M p2) from if_pos hcs4_1, show g_p5 (own_M p2) = g_p4 (own_M p2) + 1 from if_pos hcs4_1] at k
      exact k
    · refine XS.ifYes X0.here hx rfl (pc0 := 151) (pc' := 175) rfl (hb hby at_151) rfl ((if0 _ _).trans (feq hcs4_1).2) (by decide) (by decide) ?_
      rw [show g_r5 p1 (own_M p2) = g_r4 p1 (own_M p2) from if_neg hcs4_1, show g_p5 (own_M p2) = g_p4 (own_M p2) from if_neg hcs4_1] at k
      exact k
  have sg6 : ∀ t, Steps p.tables e below (s₁.setTop (mkF m 208 #[.val (.long p1), .second, .val (.long p2), .second, .val (.long (own_M p2)), .second, .val (.long (g_r6 p1 (own_M p2))), .second, .val (.int (g_p6 (own_M p2)))] [])) t → Steps p.tables e below (s₁.setTop (mkF m 175 #[.val (.long p1), .second, .val (.long p2), .second, .val (.long (own_M p2)), .second, .val (.long (g_r5 p1 (own_M p2))), .second, .val (.int (g_p5 (own_M p2)))] [])) t := by
    intro t k
    show Steps p.tables e below (s₁.setTop (mkF m 175 #[.val (.long p1), .second, .val (.long p2), .second, .val (.long (own_M p2)), .second, .val (.long (g_r5 p1 (own_M p2))), .second, .val (.int (g_p5 (own_M p2)))] [])) _
    refine XS.lload X0.here hx rfl (hb hby at_175) rfl ?_
    show Steps p.tables e below (s₁.setTop (mkF m 177 #[.val (.long p1), .second, .val (.long p2), .second, .val (.long (own_M p2)), .second, .val (.long (g_r5 p1 (own_M p2))), .second, .val (.int (g_p5 (own_M p2)))] [(.long (own_M p2))])) _
    refine XS.bipush X0.here hx rfl (hb hby at_177) ?_
    show Steps p.tables e below (s₁.setTop (mkF m 179 #[.val (.long p1), .second, .val (.long p2), .second, .val (.long (own_M p2)), .second, .val (.long (g_r5 p1 (own_M p2))), .second, .val (.int (g_p5 (own_M p2)))] [(.int (47 : Int32)), (.long (own_M p2))])) _
    refine XS.lushr X0.here hx rfl (hb hby at_179) rfl ?_
    show Steps p.tables e below (s₁.setTop (mkF m 180 #[.val (.long p1), .second, .val (.long p2), .second, .val (.long (own_M p2)), .second, .val (.long (g_r5 p1 (own_M p2))), .second, .val (.int (g_p5 (own_M p2)))] [(.long (((own_M p2).toUInt64 >>> ((47 : Int32) &&& 0x3f).toInt64.toUInt64).toInt64))])) _
    refine XS.lconst X0.here hx rfl (hb hby at_180) ?_
    show Steps p.tables e below (s₁.setTop (mkF m 181 #[.val (.long p1), .second, .val (.long p2), .second, .val (.long (own_M p2)), .second, .val (.long (g_r5 p1 (own_M p2))), .second, .val (.int (g_p5 (own_M p2)))] [(.long (1 : Int64)), (.long (((own_M p2).toUInt64 >>> ((47 : Int32) &&& 0x3f).toInt64.toUInt64).toInt64))])) _
    refine XS.land X0.here hx rfl (hb hby at_181) rfl ?_
    show Steps p.tables e below (s₁.setTop (mkF m 182 #[.val (.long p1), .second, .val (.long p2), .second, .val (.long (own_M p2)), .second, .val (.long (g_r5 p1 (own_M p2))), .second, .val (.int (g_p5 (own_M p2)))] [(.long ((((own_M p2).toUInt64 >>> ((47 : Int32) &&& 0x3f).toInt64.toUInt64).toInt64) &&& (1 : Int64)))])) _
    refine XS.lconst X0.here hx rfl (hb hby at_182) ?_
    show Steps p.tables e below (s₁.setTop (mkF m 183 #[.val (.long p1), .second, .val (.long p2), .second, .val (.long (own_M p2)), .second, .val (.long (g_r5 p1 (own_M p2))), .second, .val (.int (g_p5 (own_M p2)))] [(.long (0 : Int64)), (.long ((((own_M p2).toUInt64 >>> ((47 : Int32) &&& 0x3f).toInt64.toUInt64).toInt64) &&& (1 : Int64)))])) _
    refine XS.lcmp X0.here hx rfl (hb hby at_183) rfl ?_
    show Steps p.tables e below (s₁.setTop (mkF m 184 #[.val (.long p1), .second, .val (.long p2), .second, .val (.long (own_M p2)), .second, .val (.long (g_r5 p1 (own_M p2))), .second, .val (.int (g_p5 (own_M p2)))] [(.int (lcmpW ((((own_M p2).toUInt64 >>> ((47 : Int32) &&& 0x3f).toInt64.toUInt64).toInt64) &&& (1 : Int64)) (0 : Int64)))])) _
    by_cases hcs5_1 : (lcmpW ((((own_M p2).toUInt64 >>> ((47 : Int32) &&& 0x3f).toInt64.toUInt64).toInt64) &&& (1 : Int64)) (0 : Int64)) = (0 : Int32)
    · refine XS.ifNo X0.here hx rfl (hb hby at_184) rfl ((if0 _ _).trans (teq hcs5_1).2) ?_
      show Steps p.tables e below (s₁.setTop (mkF m 187 #[.val (.long p1), .second, .val (.long p2), .second, .val (.long (own_M p2)), .second, .val (.long (g_r5 p1 (own_M p2))), .second, .val (.int (g_p5 (own_M p2)))] [])) _
      refine XS.lload X0.here hx rfl (hb hby at_187) rfl ?_
      show Steps p.tables e below (s₁.setTop (mkF m 189 #[.val (.long p1), .second, .val (.long p2), .second, .val (.long (own_M p2)), .second, .val (.long (g_r5 p1 (own_M p2))), .second, .val (.int (g_p5 (own_M p2)))] [(.long (g_r5 p1 (own_M p2)))])) _
      refine XS.lloadN X0.here hx rfl (hb hby at_189) rfl ?_
      show Steps p.tables e below (s₁.setTop (mkF m 190 #[.val (.long p1), .second, .val (.long p2), .second, .val (.long (own_M p2)), .second, .val (.long (g_r5 p1 (own_M p2))), .second, .val (.int (g_p5 (own_M p2)))] [(.long p1), (.long (g_r5 p1 (own_M p2)))])) _
      refine XS.bipush X0.here hx rfl (hb hby at_190) ?_
      show Steps p.tables e below (s₁.setTop (mkF m 192 #[.val (.long p1), .second, .val (.long p2), .second, .val (.long (own_M p2)), .second, .val (.long (g_r5 p1 (own_M p2))), .second, .val (.int (g_p5 (own_M p2)))] [(.int (40 : Int32)), (.long p1), (.long (g_r5 p1 (own_M p2)))])) _
      refine XS.lushr X0.here hx rfl (hb hby at_192) rfl ?_
      show Steps p.tables e below (s₁.setTop (mkF m 193 #[.val (.long p1), .second, .val (.long p2), .second, .val (.long (own_M p2)), .second, .val (.long (g_r5 p1 (own_M p2))), .second, .val (.int (g_p5 (own_M p2)))] [(.long ((p1.toUInt64 >>> ((40 : Int32) &&& 0x3f).toInt64.toUInt64).toInt64)), (.long (g_r5 p1 (own_M p2)))])) _
      refine X0.ldc2Long hx hown (mvT hZ (hw _ (List.mem_of_getElem? (i := 1) rfl))) (g := (mkF m 193 #[.val (.long p1), .second, .val (.long p2), .second, .val (.long (own_M p2)), .second, .val (.long (g_r5 p1 (own_M p2))), .second, .val (.int (g_p5 (own_M p2)))] [(.long ((p1.toUInt64 >>> ((40 : Int32) &&& 0x3f).toInt64.toUInt64).toInt64)), (.long (g_r5 p1 (own_M p2)))])) rfl (hb hby at_193) _ ?_
      show Steps p.tables e below (s₁.setTop (mkF m 196 #[.val (.long p1), .second, .val (.long p2), .second, .val (.long (own_M p2)), .second, .val (.long (g_r5 p1 (own_M p2))), .second, .val (.int (g_p5 (own_M p2)))] [(.long (255 : Int64)), (.long ((p1.toUInt64 >>> ((40 : Int32) &&& 0x3f).toInt64.toUInt64).toInt64)), (.long (g_r5 p1 (own_M p2)))])) _
      refine XS.land X0.here hx rfl (hb hby at_196) rfl ?_
      show Steps p.tables e below (s₁.setTop (mkF m 197 #[.val (.long p1), .second, .val (.long p2), .second, .val (.long (own_M p2)), .second, .val (.long (g_r5 p1 (own_M p2))), .second, .val (.int (g_p5 (own_M p2)))] [(.long (g_v5 p1)), (.long (g_r5 p1 (own_M p2)))])) _
      refine XS.iload X0.here hx rfl (hb hby at_197) rfl ?_
      show Steps p.tables e below (s₁.setTop (mkF m 199 #[.val (.long p1), .second, .val (.long p2), .second, .val (.long (own_M p2)), .second, .val (.long (g_r5 p1 (own_M p2))), .second, .val (.int (g_p5 (own_M p2)))] [(.int (g_p5 (own_M p2))), (.long (g_v5 p1)), (.long (g_r5 p1 (own_M p2)))])) _
      refine XS.iconst X0.here hx rfl (hb hby at_199) ?_
      show Steps p.tables e below (s₁.setTop (mkF m 200 #[.val (.long p1), .second, .val (.long p2), .second, .val (.long (own_M p2)), .second, .val (.long (g_r5 p1 (own_M p2))), .second, .val (.int (g_p5 (own_M p2)))] [(.int (3 : Int32)), (.int (g_p5 (own_M p2))), (.long (g_v5 p1)), (.long (g_r5 p1 (own_M p2)))])) _
      refine XS.ishl X0.here hx rfl (hb hby at_200) rfl ?_
      show Steps p.tables e below (s₁.setTop (mkF m 201 #[.val (.long p1), .second, .val (.long p2), .second, .val (.long (own_M p2)), .second, .val (.long (g_r5 p1 (own_M p2))), .second, .val (.int (g_p5 (own_M p2)))] [(.int ((g_p5 (own_M p2)) <<< ((3 : Int32) &&& 31))), (.long (g_v5 p1)), (.long (g_r5 p1 (own_M p2)))])) _
      refine XS.lshl X0.here hx rfl (hb hby at_201) rfl ?_
      show Steps p.tables e below (s₁.setTop (mkF m 202 #[.val (.long p1), .second, .val (.long p2), .second, .val (.long (own_M p2)), .second, .val (.long (g_r5 p1 (own_M p2))), .second, .val (.int (g_p5 (own_M p2)))] [(.long ((g_v5 p1) <<< (((g_p5 (own_M p2)) <<< ((3 : Int32) &&& 31)) &&& 0x3f).toInt64)), (.long (g_r5 p1 (own_M p2)))])) _
      refine XS.lor X0.here hx rfl (hb hby at_202) rfl ?_
      show Steps p.tables e below (s₁.setTop (mkF m 203 #[.val (.long p1), .second, .val (.long p2), .second, .val (.long (own_M p2)), .second, .val (.long (g_r5 p1 (own_M p2))), .second, .val (.int (g_p5 (own_M p2)))] [(.long ((g_r5 p1 (own_M p2)) ||| ((g_v5 p1) <<< (((g_p5 (own_M p2)) <<< ((3 : Int32) &&& 31)) &&& 0x3f).toInt64)))])) _
      refine XS.lstore X0.here hx rfl (hb hby at_203) rfl (l' := #[.val (.long p1), .second, .val (.long p2), .second, .val (.long (own_M p2)), .second, .val (.long (g_t5 p1 (own_M p2))), .second, .val (.int (g_p5 (own_M p2)))]) rfl ?_
      show Steps p.tables e below (s₁.setTop (mkF m 205 #[.val (.long p1), .second, .val (.long p2), .second, .val (.long (own_M p2)), .second, .val (.long (g_t5 p1 (own_M p2))), .second, .val (.int (g_p5 (own_M p2)))] [])) _
      refine XS.iinc X0.here hx rfl (hb hby at_205) rfl (l' := #[.val (.long p1), .second, .val (.long p2), .second, .val (.long (own_M p2)), .second, .val (.long (g_t5 p1 (own_M p2))), .second, .val (.int ((g_p5 (own_M p2)) + (1 : Int32)))]) rfl ?_
      rw [show g_r6 p1 (own_M p2) = g_t5 p1 (own_M p2) from if_pos hcs5_1, show g_p6 (own_M p2) = g_p5 (own_M p2) + 1 from if_pos hcs5_1] at k
      exact k
    · refine XS.ifYes X0.here hx rfl (pc0 := 184) (pc' := 208) rfl (hb hby at_184) rfl ((if0 _ _).trans (feq hcs5_1).2) (by decide) (by decide) ?_
      rw [show g_r6 p1 (own_M p2) = g_r5 p1 (own_M p2) from if_neg hcs5_1, show g_p6 (own_M p2) = g_p5 (own_M p2) from if_neg hcs5_1] at k
      exact k
  have sg7 : ∀ t, Steps p.tables e below (s₁.setTop (mkF m 241 #[.val (.long p1), .second, .val (.long p2), .second, .val (.long (own_M p2)), .second, .val (.long (g_r7 p1 (own_M p2))), .second, .val (.int (g_p7 (own_M p2)))] [])) t → Steps p.tables e below (s₁.setTop (mkF m 208 #[.val (.long p1), .second, .val (.long p2), .second, .val (.long (own_M p2)), .second, .val (.long (g_r6 p1 (own_M p2))), .second, .val (.int (g_p6 (own_M p2)))] [])) t := by
    intro t k
    show Steps p.tables e below (s₁.setTop (mkF m 208 #[.val (.long p1), .second, .val (.long p2), .second, .val (.long (own_M p2)), .second, .val (.long (g_r6 p1 (own_M p2))), .second, .val (.int (g_p6 (own_M p2)))] [])) _
    refine XS.lload X0.here hx rfl (hb hby at_208) rfl ?_
    show Steps p.tables e below (s₁.setTop (mkF m 210 #[.val (.long p1), .second, .val (.long p2), .second, .val (.long (own_M p2)), .second, .val (.long (g_r6 p1 (own_M p2))), .second, .val (.int (g_p6 (own_M p2)))] [(.long (own_M p2))])) _
    refine XS.bipush X0.here hx rfl (hb hby at_210) ?_
    show Steps p.tables e below (s₁.setTop (mkF m 212 #[.val (.long p1), .second, .val (.long p2), .second, .val (.long (own_M p2)), .second, .val (.long (g_r6 p1 (own_M p2))), .second, .val (.int (g_p6 (own_M p2)))] [(.int (55 : Int32)), (.long (own_M p2))])) _
    refine XS.lushr X0.here hx rfl (hb hby at_212) rfl ?_
    show Steps p.tables e below (s₁.setTop (mkF m 213 #[.val (.long p1), .second, .val (.long p2), .second, .val (.long (own_M p2)), .second, .val (.long (g_r6 p1 (own_M p2))), .second, .val (.int (g_p6 (own_M p2)))] [(.long (((own_M p2).toUInt64 >>> ((55 : Int32) &&& 0x3f).toInt64.toUInt64).toInt64))])) _
    refine XS.lconst X0.here hx rfl (hb hby at_213) ?_
    show Steps p.tables e below (s₁.setTop (mkF m 214 #[.val (.long p1), .second, .val (.long p2), .second, .val (.long (own_M p2)), .second, .val (.long (g_r6 p1 (own_M p2))), .second, .val (.int (g_p6 (own_M p2)))] [(.long (1 : Int64)), (.long (((own_M p2).toUInt64 >>> ((55 : Int32) &&& 0x3f).toInt64.toUInt64).toInt64))])) _
    refine XS.land X0.here hx rfl (hb hby at_214) rfl ?_
    show Steps p.tables e below (s₁.setTop (mkF m 215 #[.val (.long p1), .second, .val (.long p2), .second, .val (.long (own_M p2)), .second, .val (.long (g_r6 p1 (own_M p2))), .second, .val (.int (g_p6 (own_M p2)))] [(.long ((((own_M p2).toUInt64 >>> ((55 : Int32) &&& 0x3f).toInt64.toUInt64).toInt64) &&& (1 : Int64)))])) _
    refine XS.lconst X0.here hx rfl (hb hby at_215) ?_
    show Steps p.tables e below (s₁.setTop (mkF m 216 #[.val (.long p1), .second, .val (.long p2), .second, .val (.long (own_M p2)), .second, .val (.long (g_r6 p1 (own_M p2))), .second, .val (.int (g_p6 (own_M p2)))] [(.long (0 : Int64)), (.long ((((own_M p2).toUInt64 >>> ((55 : Int32) &&& 0x3f).toInt64.toUInt64).toInt64) &&& (1 : Int64)))])) _
    refine XS.lcmp X0.here hx rfl (hb hby at_216) rfl ?_
    show Steps p.tables e below (s₁.setTop (mkF m 217 #[.val (.long p1), .second, .val (.long p2), .second, .val (.long (own_M p2)), .second, .val (.long (g_r6 p1 (own_M p2))), .second, .val (.int (g_p6 (own_M p2)))] [(.int (lcmpW ((((own_M p2).toUInt64 >>> ((55 : Int32) &&& 0x3f).toInt64.toUInt64).toInt64) &&& (1 : Int64)) (0 : Int64)))])) _
    by_cases hcs6_1 : (lcmpW ((((own_M p2).toUInt64 >>> ((55 : Int32) &&& 0x3f).toInt64.toUInt64).toInt64) &&& (1 : Int64)) (0 : Int64)) = (0 : Int32)
    · refine XS.ifNo X0.here hx rfl (hb hby at_217) rfl ((if0 _ _).trans (teq hcs6_1).2) ?_
      show Steps p.tables e below (s₁.setTop (mkF m 220 #[.val (.long p1), .second, .val (.long p2), .second, .val (.long (own_M p2)), .second, .val (.long (g_r6 p1 (own_M p2))), .second, .val (.int (g_p6 (own_M p2)))] [])) _
      refine XS.lload X0.here hx rfl (hb hby at_220) rfl ?_
      show Steps p.tables e below (s₁.setTop (mkF m 222 #[.val (.long p1), .second, .val (.long p2), .second, .val (.long (own_M p2)), .second, .val (.long (g_r6 p1 (own_M p2))), .second, .val (.int (g_p6 (own_M p2)))] [(.long (g_r6 p1 (own_M p2)))])) _
      refine XS.lloadN X0.here hx rfl (hb hby at_222) rfl ?_
      show Steps p.tables e below (s₁.setTop (mkF m 223 #[.val (.long p1), .second, .val (.long p2), .second, .val (.long (own_M p2)), .second, .val (.long (g_r6 p1 (own_M p2))), .second, .val (.int (g_p6 (own_M p2)))] [(.long p1), (.long (g_r6 p1 (own_M p2)))])) _
      refine XS.bipush X0.here hx rfl (hb hby at_223) ?_
      show Steps p.tables e below (s₁.setTop (mkF m 225 #[.val (.long p1), .second, .val (.long p2), .second, .val (.long (own_M p2)), .second, .val (.long (g_r6 p1 (own_M p2))), .second, .val (.int (g_p6 (own_M p2)))] [(.int (48 : Int32)), (.long p1), (.long (g_r6 p1 (own_M p2)))])) _
      refine XS.lushr X0.here hx rfl (hb hby at_225) rfl ?_
      show Steps p.tables e below (s₁.setTop (mkF m 226 #[.val (.long p1), .second, .val (.long p2), .second, .val (.long (own_M p2)), .second, .val (.long (g_r6 p1 (own_M p2))), .second, .val (.int (g_p6 (own_M p2)))] [(.long ((p1.toUInt64 >>> ((48 : Int32) &&& 0x3f).toInt64.toUInt64).toInt64)), (.long (g_r6 p1 (own_M p2)))])) _
      refine X0.ldc2Long hx hown (mvT hZ (hw _ (List.mem_of_getElem? (i := 1) rfl))) (g := (mkF m 226 #[.val (.long p1), .second, .val (.long p2), .second, .val (.long (own_M p2)), .second, .val (.long (g_r6 p1 (own_M p2))), .second, .val (.int (g_p6 (own_M p2)))] [(.long ((p1.toUInt64 >>> ((48 : Int32) &&& 0x3f).toInt64.toUInt64).toInt64)), (.long (g_r6 p1 (own_M p2)))])) rfl (hb hby at_226) _ ?_
      show Steps p.tables e below (s₁.setTop (mkF m 229 #[.val (.long p1), .second, .val (.long p2), .second, .val (.long (own_M p2)), .second, .val (.long (g_r6 p1 (own_M p2))), .second, .val (.int (g_p6 (own_M p2)))] [(.long (255 : Int64)), (.long ((p1.toUInt64 >>> ((48 : Int32) &&& 0x3f).toInt64.toUInt64).toInt64)), (.long (g_r6 p1 (own_M p2)))])) _
      refine XS.land X0.here hx rfl (hb hby at_229) rfl ?_
      show Steps p.tables e below (s₁.setTop (mkF m 230 #[.val (.long p1), .second, .val (.long p2), .second, .val (.long (own_M p2)), .second, .val (.long (g_r6 p1 (own_M p2))), .second, .val (.int (g_p6 (own_M p2)))] [(.long (g_v6 p1)), (.long (g_r6 p1 (own_M p2)))])) _
      refine XS.iload X0.here hx rfl (hb hby at_230) rfl ?_
      show Steps p.tables e below (s₁.setTop (mkF m 232 #[.val (.long p1), .second, .val (.long p2), .second, .val (.long (own_M p2)), .second, .val (.long (g_r6 p1 (own_M p2))), .second, .val (.int (g_p6 (own_M p2)))] [(.int (g_p6 (own_M p2))), (.long (g_v6 p1)), (.long (g_r6 p1 (own_M p2)))])) _
      refine XS.iconst X0.here hx rfl (hb hby at_232) ?_
      show Steps p.tables e below (s₁.setTop (mkF m 233 #[.val (.long p1), .second, .val (.long p2), .second, .val (.long (own_M p2)), .second, .val (.long (g_r6 p1 (own_M p2))), .second, .val (.int (g_p6 (own_M p2)))] [(.int (3 : Int32)), (.int (g_p6 (own_M p2))), (.long (g_v6 p1)), (.long (g_r6 p1 (own_M p2)))])) _
      refine XS.ishl X0.here hx rfl (hb hby at_233) rfl ?_
      show Steps p.tables e below (s₁.setTop (mkF m 234 #[.val (.long p1), .second, .val (.long p2), .second, .val (.long (own_M p2)), .second, .val (.long (g_r6 p1 (own_M p2))), .second, .val (.int (g_p6 (own_M p2)))] [(.int ((g_p6 (own_M p2)) <<< ((3 : Int32) &&& 31))), (.long (g_v6 p1)), (.long (g_r6 p1 (own_M p2)))])) _
      refine XS.lshl X0.here hx rfl (hb hby at_234) rfl ?_
      show Steps p.tables e below (s₁.setTop (mkF m 235 #[.val (.long p1), .second, .val (.long p2), .second, .val (.long (own_M p2)), .second, .val (.long (g_r6 p1 (own_M p2))), .second, .val (.int (g_p6 (own_M p2)))] [(.long ((g_v6 p1) <<< (((g_p6 (own_M p2)) <<< ((3 : Int32) &&& 31)) &&& 0x3f).toInt64)), (.long (g_r6 p1 (own_M p2)))])) _
      refine XS.lor X0.here hx rfl (hb hby at_235) rfl ?_
      show Steps p.tables e below (s₁.setTop (mkF m 236 #[.val (.long p1), .second, .val (.long p2), .second, .val (.long (own_M p2)), .second, .val (.long (g_r6 p1 (own_M p2))), .second, .val (.int (g_p6 (own_M p2)))] [(.long ((g_r6 p1 (own_M p2)) ||| ((g_v6 p1) <<< (((g_p6 (own_M p2)) <<< ((3 : Int32) &&& 31)) &&& 0x3f).toInt64)))])) _
      refine XS.lstore X0.here hx rfl (hb hby at_236) rfl (l' := #[.val (.long p1), .second, .val (.long p2), .second, .val (.long (own_M p2)), .second, .val (.long (g_t6 p1 (own_M p2))), .second, .val (.int (g_p6 (own_M p2)))]) rfl ?_
      show Steps p.tables e below (s₁.setTop (mkF m 238 #[.val (.long p1), .second, .val (.long p2), .second, .val (.long (own_M p2)), .second, .val (.long (g_t6 p1 (own_M p2))), .second, .val (.int (g_p6 (own_M p2)))] [])) _
      refine XS.iinc X0.here hx rfl (hb hby at_238) rfl (l' := #[.val (.long p1), .second, .val (.long p2), .second, .val (.long (own_M p2)), .second, .val (.long (g_t6 p1 (own_M p2))), .second, .val (.int ((g_p6 (own_M p2)) + (1 : Int32)))]) rfl ?_
      rw [show g_r7 p1 (own_M p2) = g_t6 p1 (own_M p2) from if_pos hcs6_1, show g_p7 (own_M p2) = g_p6 (own_M p2) + 1 from if_pos hcs6_1] at k
      exact k
    · refine XS.ifYes X0.here hx rfl (pc0 := 217) (pc' := 241) rfl (hb hby at_217) rfl ((if0 _ _).trans (feq hcs6_1).2) (by decide) (by decide) ?_
      rw [show g_r7 p1 (own_M p2) = g_r6 p1 (own_M p2) from if_neg hcs6_1, show g_p7 (own_M p2) = g_p6 (own_M p2) from if_neg hcs6_1] at k
      exact k
  have sg8 : ∀ t, Steps p.tables e below (s₁.setTop (mkF m 274 #[.val (.long p1), .second, .val (.long p2), .second, .val (.long (own_M p2)), .second, .val (.long (g_r8 p1 (own_M p2))), .second, .val (.int (g_p8 (own_M p2)))] [])) t → Steps p.tables e below (s₁.setTop (mkF m 241 #[.val (.long p1), .second, .val (.long p2), .second, .val (.long (own_M p2)), .second, .val (.long (g_r7 p1 (own_M p2))), .second, .val (.int (g_p7 (own_M p2)))] [])) t := by
    intro t k
    show Steps p.tables e below (s₁.setTop (mkF m 241 #[.val (.long p1), .second, .val (.long p2), .second, .val (.long (own_M p2)), .second, .val (.long (g_r7 p1 (own_M p2))), .second, .val (.int (g_p7 (own_M p2)))] [])) _
    refine XS.lload X0.here hx rfl (hb hby at_241) rfl ?_
    show Steps p.tables e below (s₁.setTop (mkF m 243 #[.val (.long p1), .second, .val (.long p2), .second, .val (.long (own_M p2)), .second, .val (.long (g_r7 p1 (own_M p2))), .second, .val (.int (g_p7 (own_M p2)))] [(.long (own_M p2))])) _
    refine XS.bipush X0.here hx rfl (hb hby at_243) ?_
    show Steps p.tables e below (s₁.setTop (mkF m 245 #[.val (.long p1), .second, .val (.long p2), .second, .val (.long (own_M p2)), .second, .val (.long (g_r7 p1 (own_M p2))), .second, .val (.int (g_p7 (own_M p2)))] [(.int (63 : Int32)), (.long (own_M p2))])) _
    refine XS.lushr X0.here hx rfl (hb hby at_245) rfl ?_
    show Steps p.tables e below (s₁.setTop (mkF m 246 #[.val (.long p1), .second, .val (.long p2), .second, .val (.long (own_M p2)), .second, .val (.long (g_r7 p1 (own_M p2))), .second, .val (.int (g_p7 (own_M p2)))] [(.long (((own_M p2).toUInt64 >>> ((63 : Int32) &&& 0x3f).toInt64.toUInt64).toInt64))])) _
    refine XS.lconst X0.here hx rfl (hb hby at_246) ?_
    show Steps p.tables e below (s₁.setTop (mkF m 247 #[.val (.long p1), .second, .val (.long p2), .second, .val (.long (own_M p2)), .second, .val (.long (g_r7 p1 (own_M p2))), .second, .val (.int (g_p7 (own_M p2)))] [(.long (1 : Int64)), (.long (((own_M p2).toUInt64 >>> ((63 : Int32) &&& 0x3f).toInt64.toUInt64).toInt64))])) _
    refine XS.land X0.here hx rfl (hb hby at_247) rfl ?_
    show Steps p.tables e below (s₁.setTop (mkF m 248 #[.val (.long p1), .second, .val (.long p2), .second, .val (.long (own_M p2)), .second, .val (.long (g_r7 p1 (own_M p2))), .second, .val (.int (g_p7 (own_M p2)))] [(.long ((((own_M p2).toUInt64 >>> ((63 : Int32) &&& 0x3f).toInt64.toUInt64).toInt64) &&& (1 : Int64)))])) _
    refine XS.lconst X0.here hx rfl (hb hby at_248) ?_
    show Steps p.tables e below (s₁.setTop (mkF m 249 #[.val (.long p1), .second, .val (.long p2), .second, .val (.long (own_M p2)), .second, .val (.long (g_r7 p1 (own_M p2))), .second, .val (.int (g_p7 (own_M p2)))] [(.long (0 : Int64)), (.long ((((own_M p2).toUInt64 >>> ((63 : Int32) &&& 0x3f).toInt64.toUInt64).toInt64) &&& (1 : Int64)))])) _
    refine XS.lcmp X0.here hx rfl (hb hby at_249) rfl ?_
    show Steps p.tables e below (s₁.setTop (mkF m 250 #[.val (.long p1), .second, .val (.long p2), .second, .val (.long (own_M p2)), .second, .val (.long (g_r7 p1 (own_M p2))), .second, .val (.int (g_p7 (own_M p2)))] [(.int (lcmpW ((((own_M p2).toUInt64 >>> ((63 : Int32) &&& 0x3f).toInt64.toUInt64).toInt64) &&& (1 : Int64)) (0 : Int64)))])) _
    by_cases hcs7_1 : (lcmpW ((((own_M p2).toUInt64 >>> ((63 : Int32) &&& 0x3f).toInt64.toUInt64).toInt64) &&& (1 : Int64)) (0 : Int64)) = (0 : Int32)
    · refine XS.ifNo X0.here hx rfl (hb hby at_250) rfl ((if0 _ _).trans (teq hcs7_1).2) ?_
      show Steps p.tables e below (s₁.setTop (mkF m 253 #[.val (.long p1), .second, .val (.long p2), .second, .val (.long (own_M p2)), .second, .val (.long (g_r7 p1 (own_M p2))), .second, .val (.int (g_p7 (own_M p2)))] [])) _
      refine XS.lload X0.here hx rfl (hb hby at_253) rfl ?_
      show Steps p.tables e below (s₁.setTop (mkF m 255 #[.val (.long p1), .second, .val (.long p2), .second, .val (.long (own_M p2)), .second, .val (.long (g_r7 p1 (own_M p2))), .second, .val (.int (g_p7 (own_M p2)))] [(.long (g_r7 p1 (own_M p2)))])) _
      refine XS.lloadN X0.here hx rfl (hb hby at_255) rfl ?_
      show Steps p.tables e below (s₁.setTop (mkF m 256 #[.val (.long p1), .second, .val (.long p2), .second, .val (.long (own_M p2)), .second, .val (.long (g_r7 p1 (own_M p2))), .second, .val (.int (g_p7 (own_M p2)))] [(.long p1), (.long (g_r7 p1 (own_M p2)))])) _
      refine XS.bipush X0.here hx rfl (hb hby at_256) ?_
      show Steps p.tables e below (s₁.setTop (mkF m 258 #[.val (.long p1), .second, .val (.long p2), .second, .val (.long (own_M p2)), .second, .val (.long (g_r7 p1 (own_M p2))), .second, .val (.int (g_p7 (own_M p2)))] [(.int (56 : Int32)), (.long p1), (.long (g_r7 p1 (own_M p2)))])) _
      refine XS.lushr X0.here hx rfl (hb hby at_258) rfl ?_
      show Steps p.tables e below (s₁.setTop (mkF m 259 #[.val (.long p1), .second, .val (.long p2), .second, .val (.long (own_M p2)), .second, .val (.long (g_r7 p1 (own_M p2))), .second, .val (.int (g_p7 (own_M p2)))] [(.long ((p1.toUInt64 >>> ((56 : Int32) &&& 0x3f).toInt64.toUInt64).toInt64)), (.long (g_r7 p1 (own_M p2)))])) _
      refine X0.ldc2Long hx hown (mvT hZ (hw _ (List.mem_of_getElem? (i := 1) rfl))) (g := (mkF m 259 #[.val (.long p1), .second, .val (.long p2), .second, .val (.long (own_M p2)), .second, .val (.long (g_r7 p1 (own_M p2))), .second, .val (.int (g_p7 (own_M p2)))] [(.long ((p1.toUInt64 >>> ((56 : Int32) &&& 0x3f).toInt64.toUInt64).toInt64)), (.long (g_r7 p1 (own_M p2)))])) rfl (hb hby at_259) _ ?_
      show Steps p.tables e below (s₁.setTop (mkF m 262 #[.val (.long p1), .second, .val (.long p2), .second, .val (.long (own_M p2)), .second, .val (.long (g_r7 p1 (own_M p2))), .second, .val (.int (g_p7 (own_M p2)))] [(.long (255 : Int64)), (.long ((p1.toUInt64 >>> ((56 : Int32) &&& 0x3f).toInt64.toUInt64).toInt64)), (.long (g_r7 p1 (own_M p2)))])) _
      refine XS.land X0.here hx rfl (hb hby at_262) rfl ?_
      show Steps p.tables e below (s₁.setTop (mkF m 263 #[.val (.long p1), .second, .val (.long p2), .second, .val (.long (own_M p2)), .second, .val (.long (g_r7 p1 (own_M p2))), .second, .val (.int (g_p7 (own_M p2)))] [(.long (g_v7 p1)), (.long (g_r7 p1 (own_M p2)))])) _
      refine XS.iload X0.here hx rfl (hb hby at_263) rfl ?_
      show Steps p.tables e below (s₁.setTop (mkF m 265 #[.val (.long p1), .second, .val (.long p2), .second, .val (.long (own_M p2)), .second, .val (.long (g_r7 p1 (own_M p2))), .second, .val (.int (g_p7 (own_M p2)))] [(.int (g_p7 (own_M p2))), (.long (g_v7 p1)), (.long (g_r7 p1 (own_M p2)))])) _
      refine XS.iconst X0.here hx rfl (hb hby at_265) ?_
      show Steps p.tables e below (s₁.setTop (mkF m 266 #[.val (.long p1), .second, .val (.long p2), .second, .val (.long (own_M p2)), .second, .val (.long (g_r7 p1 (own_M p2))), .second, .val (.int (g_p7 (own_M p2)))] [(.int (3 : Int32)), (.int (g_p7 (own_M p2))), (.long (g_v7 p1)), (.long (g_r7 p1 (own_M p2)))])) _
      refine XS.ishl X0.here hx rfl (hb hby at_266) rfl ?_
      show Steps p.tables e below (s₁.setTop (mkF m 267 #[.val (.long p1), .second, .val (.long p2), .second, .val (.long (own_M p2)), .second, .val (.long (g_r7 p1 (own_M p2))), .second, .val (.int (g_p7 (own_M p2)))] [(.int ((g_p7 (own_M p2)) <<< ((3 : Int32) &&& 31))), (.long (g_v7 p1)), (.long (g_r7 p1 (own_M p2)))])) _
      refine XS.lshl X0.here hx rfl (hb hby at_267) rfl ?_
      show Steps p.tables e below (s₁.setTop (mkF m 268 #[.val (.long p1), .second, .val (.long p2), .second, .val (.long (own_M p2)), .second, .val (.long (g_r7 p1 (own_M p2))), .second, .val (.int (g_p7 (own_M p2)))] [(.long ((g_v7 p1) <<< (((g_p7 (own_M p2)) <<< ((3 : Int32) &&& 31)) &&& 0x3f).toInt64)), (.long (g_r7 p1 (own_M p2)))])) _
      refine XS.lor X0.here hx rfl (hb hby at_268) rfl ?_
      show Steps p.tables e below (s₁.setTop (mkF m 269 #[.val (.long p1), .second, .val (.long p2), .second, .val (.long (own_M p2)), .second, .val (.long (g_r7 p1 (own_M p2))), .second, .val (.int (g_p7 (own_M p2)))] [(.long ((g_r7 p1 (own_M p2)) ||| ((g_v7 p1) <<< (((g_p7 (own_M p2)) <<< ((3 : Int32) &&& 31)) &&& 0x3f).toInt64)))])) _
      refine XS.lstore X0.here hx rfl (hb hby at_269) rfl (l' := #[.val (.long p1), .second, .val (.long p2), .second, .val (.long (own_M p2)), .second, .val (.long (g_t7 p1 (own_M p2))), .second, .val (.int (g_p7 (own_M p2)))]) rfl ?_
      show Steps p.tables e below (s₁.setTop (mkF m 271 #[.val (.long p1), .second, .val (.long p2), .second, .val (.long (own_M p2)), .second, .val (.long (g_t7 p1 (own_M p2))), .second, .val (.int (g_p7 (own_M p2)))] [])) _
      refine XS.iinc X0.here hx rfl (hb hby at_271) rfl (l' := #[.val (.long p1), .second, .val (.long p2), .second, .val (.long (own_M p2)), .second, .val (.long (g_t7 p1 (own_M p2))), .second, .val (.int ((g_p7 (own_M p2)) + (1 : Int32)))]) rfl ?_
      rw [show g_r8 p1 (own_M p2) = g_t7 p1 (own_M p2) from if_pos hcs7_1, show g_p8 (own_M p2) = g_p7 (own_M p2) + 1 from if_pos hcs7_1] at k
      exact k
    · refine XS.ifYes X0.here hx rfl (pc0 := 250) (pc' := 274) rfl (hb hby at_250) rfl ((if0 _ _).trans (feq hcs7_1).2) (by decide) (by decide) ?_
      rw [show g_r8 p1 (own_M p2) = g_r7 p1 (own_M p2) from if_neg hcs7_1, show g_p8 (own_M p2) = g_p7 (own_M p2) from if_neg hcs7_1] at k
      exact k
  obtain ⟨_, _, ⟨T1, L1, k1, n1⟩, -, X1, ⟨Lc1, hQ1, l1, y1, z1⟩, st1⟩ := Jvm.LawKit.callS X0 hx (y := (⟨"com/example/widthwise/widthwise/runtime/Bytes", "withoutMarked", "(JJ)J"⟩ : MethodName)) hown (mvT hZ (hw _ (List.mem_of_getElem? (i := 2) rfl))) (mvT hZ (hw _ (List.mem_of_getElem? (i := 3) rfl))) (mvT hZ (hw _ (List.mem_of_getElem? (i := 4) rfl))) (mvT hZ (hw _ (List.mem_of_getElem? (i := 5) rfl))) (by decide) (backOf (W := 0) (rm1 l Z a0 hw [] p1 (own_M p2) h0 n0 Z0 ) hZ (hw _ (List.mem_of_getElem? (i := 5) rfl)) (hw _ (List.mem_of_getElem? (i := 4) rfl)) (by decide) (by decide)) (g := (mkF m 277 #[.val (.long p1), .second, .val (.long p2), .second, .val (.long (own_M p2)), .second, .val (.long (g_r8 p1 (own_M p2))), .second, .val (.int (g_p8 (own_M p2)))] [(.long (own_M p2)), (.long p1)])) rfl (by rw [hml]; rfl) (argsL := [(.long p1), (.long (own_M p2))]) (rest := []) (lenOf pd_1 rfl) rfl (by show 2 * 0 + _ ≤ _; exact Nat.le_of_eq rfl) (hb hby at_277) (fun _ _ => ⟨rfl, e0, (by decide : 0 + 0 ≤ _), (by decide : 0 + 0 ≤ _)⟩)
  dsimp only [Pt.U, Pt.locs, Pt.cells, Pt.slots] at X1 l1 y1 z1 st1 hQ1
  subst l1 y1 z1
  obtain ⟨rfl, N1q, e1⟩ := hQ1
  have N1 := Fr.app N0 N1q
  obtain ⟨fs, hr, hrun, hended, hW, hsame⟩ := X1.leave (v := some (.int (1 : Int32))) (fun h => by rw [Bd.returns] at h; cases h)
  refine ⟨_, _, pre0 _ (sg0 _ (sg1 _ (sg2 _ (sg3 _ (sg4 _ (sg5 _ (sg6 _ (sg7 _ (sg8 _ ?_))))))))), hrun, hended, _, _, rfl, ?_, ⟨_, rfl⟩, hW, hsame.mono (by decide) (by decide)⟩
  · show Steps p.tables e below (s₁.setTop (mkF m 274 #[.val (.long p1), .second, .val (.long p2), .second, .val (.long (own_M p2)), .second, .val (.long (g_r8 p1 (own_M p2))), .second, .val (.int (g_p8 (own_M p2)))] [])) _
    refine XS.lloadN X0.here hx rfl (hb hby at_274) rfl ?_
    show Steps p.tables e below (s₁.setTop (mkF m 275 #[.val (.long p1), .second, .val (.long p2), .second, .val (.long (own_M p2)), .second, .val (.long (g_r8 p1 (own_M p2))), .second, .val (.int (g_p8 (own_M p2)))] [(.long p1)])) _
    refine XS.lload X0.here hx rfl (hb hby at_275) rfl ?_
    show Steps p.tables e below (s₁.setTop (mkF m 277 #[.val (.long p1), .second, .val (.long p2), .second, .val (.long (own_M p2)), .second, .val (.long (g_r8 p1 (own_M p2))), .second, .val (.int (g_p8 (own_M p2)))] [(.long (own_M p2)), (.long p1)])) _
    refine st1 _ ?_
    show Steps p.tables e below (T1.setTop (mkF m 280 #[.val (.long p1), .second, .val (.long p2), .second, .val (.long (own_M p2)), .second, .val (.long (g_r8 p1 (own_M p2))), .second, .val (.int (g_p8 (own_M p2)))] [(.long (F1 p1 (own_M p2)))])) _
    refine XS.lload X1.here hx rfl (hb hby at_280) rfl ?_
    show Steps p.tables e below (T1.setTop (mkF m 282 #[.val (.long p1), .second, .val (.long p2), .second, .val (.long (own_M p2)), .second, .val (.long (g_r8 p1 (own_M p2))), .second, .val (.int (g_p8 (own_M p2)))] [(.long (g_r8 p1 (own_M p2))), (.long (F1 p1 (own_M p2)))])) _
    refine XS.lcmp X1.here hx rfl (hb hby at_282) rfl ?_
    show Steps p.tables e below (T1.setTop (mkF m 283 #[.val (.long p1), .second, .val (.long p2), .second, .val (.long (own_M p2)), .second, .val (.long (g_r8 p1 (own_M p2))), .second, .val (.int (g_p8 (own_M p2)))] [(.int (lcmpW (F1 p1 (own_M p2)) (g_r8 p1 (own_M p2))))])) _
    refine XS.ifNo X1.here hx rfl (hb hby at_283) rfl ((if0 _ _).trans (teq ((lw_eq _ _).mpr (own_thm p1 p2) : (lcmpW (F1 p1 (own_M p2)) (g_r8 p1 (own_M p2))) = (0 : Int32))).2) ?_
    show Steps p.tables e below (T1.setTop (mkF m 286 #[.val (.long p1), .second, .val (.long p2), .second, .val (.long (own_M p2)), .second, .val (.long (g_r8 p1 (own_M p2))), .second, .val (.int (g_p8 (own_M p2)))] [])) _
    refine XS.iconst X1.here hx rfl (hb hby at_286) ?_
    show Steps p.tables e below (T1.setTop (mkF m 287 #[.val (.long p1), .second, .val (.long p2), .second, .val (.long (own_M p2)), .second, .val (.long (g_r8 p1 (own_M p2))), .second, .val (.int (g_p8 (own_M p2)))] [(.int (1 : Int32))])) _
    refine XS.goto X1.here hx rfl (pc0 := 287) (pc' := 291) rfl (hb hby at_287) (by decide) (by decide) ?_
    show Steps p.tables e below (T1.setTop (mkF m 291 #[.val (.long p1), .second, .val (.long p2), .second, .val (.long (own_M p2)), .second, .val (.long (g_r8 p1 (own_M p2))), .second, .val (.int (g_p8 (own_M p2)))] [(.int (1 : Int32))])) _
    exact retN X1 hx (t := .boolean) Bd.returns (by simp) (hb hby at_291) hr
  · exact ⟨rfl, N1⟩
set_option maxRecDepth 65536 in
set_option maxHeartbeats 40000000 in
theorem comes_1 {Post : Tables → Env → Array Value → State → Outcome → State → Prop} (hpost : ∀ tb e args s v u, (limb_1_1.after args s (.returned v) u = true ∧ limb_1_2.after args s (.returned v) u = true ∧ True) → FrameEnd s (.returned v) u (Jvm.fieldLocs frame_1_writes args s ++ Jvm.arrayLocs frame_1_arrays args s ++ Jvm.staticLocs frame_1_statics s) 0 0 → Post tb e args s (.returned v) u) :
    ArmFor flags0 classFile x code maxLocals ret World_1 tables_1 room_1 Calls_1 rest_1 Pre_1 Post := by
  intro l hfl _ _ p e ha hc hk s m args below hf hA hF happ hP
  obtain ⟨hcalls, hrest, hpre⟩ := hP
  obtain ⟨-, -, -, hnamed, -, -, -, hat⟩ := (Spec.applies_iff hf).mp happ
  obtain ⟨hg, hn⟩ := and_e (Cond.before_iff.mp (show (Jvm.Cond.and given_1 narrow_1).before args s = true from hpre))
  obtain ⟨g1, c0⟩ := and_e hg
  obtain ⟨b0, c1⟩ := and_e c0
  obtain ⟨w0, w1, rfl⟩ : ∃ w0 w1 : Value, args = #[w0, w1] := by
    have hs : args.size = 2 := by simpa [Cond.value, given_1] using g1
    obtain ⟨L⟩ := args
    match L, hs with
    | [w0, w1], _ => exact ⟨w0, w1, rfl⟩
  have hw := fun d (hd : d ∈ tables_1) => atoms_spec (ws := Jvm.Cond.code x code maxLocals ret :: tables_1) hat d (List.mem_cons_of_mem _ hd)
  obtain ⟨i0, ee0⟩ := isL_v b0
  obtain rfl : w0 = (.long i0) := Option.some.inj ee0
  obtain ⟨i1, ee1⟩ := isL_v c1
  obtain rfl : w1 = (.long i1) := Option.some.inj ee1
  obtain ⟨n, o, h1, h2, h3, _, L, rfl, ⟨rfl, N⟩, hq⟩ := rm0 l s _ hw tables_1 i0 i1 s.heap s.heap.size (Nat.le_refl _) p e ha hc hk s m _ below hf ((Spec.applies_iff_loose hf).mp happ).1 ⟨rfl, State.Warmed39.refl s, rfl⟩ trivial
  refine ⟨n, _, h1, h2, h3, hpost _ _ _ _ _ _ ⟨Cond.after_iff.mpr rfl, Cond.after_iff.mpr (eq_i res_at (Term.int_eval (1)) rfl), trivial⟩ ⟨hq.1, hq.2.1, (hq.2.2.sift fun y hy => Or.inr (N y hy)).mono (by decide) (by decide)⟩⟩
theorem main_1_1 : Claimed_1_1 := comes_1 fun _ _ _ _ _ _ h hF => ⟨h.1, hF⟩
theorem main_1_2 : Claimed_1_2 := comes_1 fun _ _ _ _ _ _ h hF => ⟨h.2.1, hF⟩
end Jvm.Pilot.@@N@@
namespace Jvm.Pilot.@@N@@
open Jvm Jvm.ClassFile Sem Op Lib Jvm.Free Jvm.Stand Jvm.Pilot.@@N@@.Jvm.D
/-! MADE BY PROGRAM (witnessworld.py) out of the Statement's table words and the real class files: 9 classes; the members and pool entries that the words name. The judged class is class 1, her method 1. -/
namespace start1
open Jvm.ClassFile
def u (s : String) : CpInfo := .utf8 (stringToUtf16 s)
/-- a pool by its gaps: so many unusable entries, then the entry; so many at the end -/
def gap : Nat → List CpInfo → List CpInfo
  | 0, r => r
  | n + 1, r => .unusable :: gap n r
def poolList (es : List (Nat × CpInfo)) (last : Nat) : List CpInfo := es.foldr (fun e r => gap e.1 (e.2 :: r)) (gap last [])
def pool (es : List (Nat × CpInfo)) (last : Nat) : Array CpInfo := ⟨poolList es last⟩
def fileOf (pool : Array CpInfo) (this : Nat) (attrs : Array Attribute := #[]) (ms : Array MethodInfo := #[]) (fl : Nat := 33) (sup : Nat := 0) (ifs : Array Nat := #[]) (fds : Array FieldInfo := #[]) : ClassFile where
  minorVersion := 0
  majorVersion := 65
  constantPool := pool
  accessFlags := fl
  thisClass := this
  superClass := sup
  interfaces := ifs
  fields := fds
  methods := ms
  attributes := attrs
def plain (name : String) (sup : Option ClassId) : Class where
  name := name
  kind := .ordinary
  loader := none
  accessFlags := 33
  super := sup
  interfaces := #[]
  cf := none
  fields := #[]
  methods := #[]
  instanceTypes := #[]
  staticTypes := #[]
  resolved := #[]
  callSites := []
  init := .initialized
  statics := none
  mirror := none

def pool0 : Array CpInfo := pool [(5, u "<init>"), (0, u "()V"), (1, .class_ 10), (1, u "java/lang/Object")] 113

def k0m0 : Method := { name := "<init>", desc := "()V", sig := { parameters := [], returnType := none }, accessFlags := 1, code := none }
/-- java/lang/Object -/
def k0 : Class := { plain "java/lang/Object" none with
  accessFlags := 33
  interfaces := #[]
  cf := some (fileOf pool0 8 #[] #[{ accessFlags := 1, nameIndex := 5, descriptorIndex := 6, attributes := #[] }] 33 0 #[] #[])
  fields := #[]
  methods := #[k0m0]
  instanceTypes := #[]
  staticTypes := #[]
  resolved := Array.replicate 124 none
  statics := none }

def pool1 : Array CpInfo := pool [(2, .class_ 4), (1, u "java/lang/Object"), (0, u "<init>"), (0, u "()V"), (0, .long 9259542123273814144), (1, .long 255), (1, .methodref 12 13), (0, .class_ 14), (0, .nameAndType 15 16), (0, u "com/example/widthwise/widthwise/runtime/Bytes"), (0, u "withoutMarked"), (0, u "(JJ)J"), (0, .class_ 18), (0, u "com/example/widthwise/widthwise/runtime/BytesWithoutMarkedPinLaw"), (2, u "law"), (0, u "(JJ)Z")] 3

def k1m0 : Method := { name := "<init>", desc := "()V", sig := { parameters := [], returnType := none }, accessFlags := 2, code := none }
def k1c1 : Code := { maxStack := 6, maxLocals := 9, code := code, exceptionTable := #[], attributes := #[] }
def k1m1 : Method := { name := "law", desc := "(JJ)Z", sig := { parameters := [.long, .long], returnType := some .boolean }, accessFlags := 9, code := some k1c1 }
/-- com/example/widthwise/widthwise/runtime/BytesWithoutMarkedPinLaw -/
def k1 : Class := { plain "com/example/widthwise/widthwise/runtime/BytesWithoutMarkedPinLaw" (some 0) with
  accessFlags := 49
  interfaces := #[]
  cf := some (fileOf pool1 17 #[] #[{ accessFlags := 2, nameIndex := 5, descriptorIndex := 6, attributes := #[] }, { accessFlags := 9, nameIndex := 21, descriptorIndex := 22, attributes := #[] }] 49 2 #[] #[])
  fields := #[]
  methods := #[k1m0, k1m1]
  instanceTypes := #[]
  staticTypes := #[]
  resolved := Array.replicate 26 none
  statics := none }

def pool2 : Array CpInfo := pool [(2, .class_ 4), (1, u "java/lang/Object"), (0, u "<init>"), (0, u "()V"), (1, .class_ 10), (1, u "com/example/widthwise/widthwise/runtime/Bytes"), (0, u "LONGS"), (0, u "Ljava/lang/invoke/VarHandle;"), (21, .long 18446744073709551615), (1, .long 72340172838076673), (47, .long 255), (23, u "HIGH_BITS"), (0, u "J"), (1, u "LOW_BITS"), (0, u "EVEN_BYTES"), (0, u "ONES"), (0, u "GATHER"), (19, u "withoutMarked"), (0, u "(JJ)J")] 6

def k2m0 : Method := { name := "<init>", desc := "()V", sig := { parameters := [], returnType := none }, accessFlags := 2, code := none }
def k2c1 : Code := { maxStack := 6, maxLocals := 14, code := prog_97_method_21_code, exceptionTable := #[], attributes := #[] }
def k2m1 : Method := { name := "withoutMarked", desc := "(JJ)J", sig := { parameters := [.long, .long], returnType := some .long }, accessFlags := 8, code := some k2c1 }
/-- com/example/widthwise/widthwise/runtime/Bytes -/
def k2 : Class := { plain "com/example/widthwise/widthwise/runtime/Bytes" (some 0) with
  accessFlags := 48
  interfaces := #[]
  cf := some (fileOf pool2 8 #[] #[{ accessFlags := 2, nameIndex := 5, descriptorIndex := 6, attributes := #[] }, { accessFlags := 8, nameIndex := 134, descriptorIndex := 135, attributes := #[] }] 48 2 #[] #[{ accessFlags := 26, nameIndex := 11, descriptorIndex := 12, attributes := #[] }, { accessFlags := 24, nameIndex := 108, descriptorIndex := 109, attributes := #[] }, { accessFlags := 26, nameIndex := 111, descriptorIndex := 109, attributes := #[] }, { accessFlags := 26, nameIndex := 112, descriptorIndex := 109, attributes := #[] }, { accessFlags := 26, nameIndex := 113, descriptorIndex := 109, attributes := #[] }, { accessFlags := 26, nameIndex := 114, descriptorIndex := 109, attributes := #[] }])
  fields := #[{ name := "LONGS", type := (.object "java/lang/invoke/VarHandle"), accessFlags := 26, slot := 0, constantValue := 0 }, { name := "HIGH_BITS", type := .long, accessFlags := 24, slot := 1, constantValue := 0 }, { name := "LOW_BITS", type := .long, accessFlags := 26, slot := 2, constantValue := 0 }, { name := "EVEN_BYTES", type := .long, accessFlags := 26, slot := 3, constantValue := 0 }, { name := "ONES", type := .long, accessFlags := 26, slot := 4, constantValue := 0 }, { name := "GATHER", type := .long, accessFlags := 26, slot := 5, constantValue := 0 }]
  methods := #[k2m0, k2m1]
  instanceTypes := #[]
  staticTypes := #[(.object "java/lang/invoke/VarHandle"), .long, .long, .long, .long, .long]
  resolved := Array.replicate 142 none
  statics := none }

def pool3 : Array CpInfo := pool [(1, u "java/lang/Cloneable"), (0, .class_ 1), (0, u "java/lang/Object"), (0, .class_ 3)] 3

/-- java/lang/Cloneable -/
def k3 : Class := { plain "java/lang/Cloneable" (some 0) with
  accessFlags := 1537
  interfaces := #[]
  cf := some (fileOf pool3 2 #[] #[] 1537 4 #[] #[])
  fields := #[]
  methods := #[]
  instanceTypes := #[]
  staticTypes := #[]
  resolved := Array.replicate 8 none
  statics := none }

def pool4 : Array CpInfo := pool [(1, u "java/io/Serializable"), (0, .class_ 1), (0, u "java/lang/Object"), (0, .class_ 3)] 3

/-- java/io/Serializable -/
def k4 : Class := { plain "java/io/Serializable" (some 0) with
  accessFlags := 1537
  interfaces := #[]
  cf := some (fileOf pool4 2 #[] #[] 1537 4 #[] #[])
  fields := #[]
  methods := #[]
  instanceTypes := #[]
  staticTypes := #[]
  resolved := Array.replicate 8 none
  statics := none }

/-- the primitive byte -/
def k5 : Class := { plain "byte" none with kind := .primitive 'B', accessFlags := 0x411 }
/-- [B -/
def k6 : Class := { plain "[B" (some 0) with kind := .array 5 .byte, interfaces := #[3, 4], accessFlags := 1041 }

/-- the primitive int -/
def k7 : Class := { plain "int" none with kind := .primitive 'I', accessFlags := 0x411 }
/-- [I -/
def k8 : Class := { plain "[I" (some 0) with kind := .array 7 .int, interfaces := #[3, 4], accessFlags := 1041 }

def heap : Heap := #[]
def classes : Array Class := #[k0, k1, k2, k3, k4, k5, k6, k7, k8]
def interned : List (Array UInt16 × Addr) := []
def slotsUsed : Nat := 0
def theMethod : MethodId := ⟨1, 1⟩
def args0 : Array Value := #[.long 5, .long 128]
def aboutOver (below : List Frame) : State where
  vm := { classes := classes, interned := interned.toArray }
  heap := heap
  slotsUsed := slotsUsed
  threads := #[{ frames := .invoking theMethod args0 :: below }]
def below0 : List Frame := [.native { method := ⟨0, 0⟩, args := #[] }]
def about1 : State := aboutOver below0
def p0 : Program := .bare "" "" ""
def e0 : Env := launch0.env 0 0 0
theorem w_frames : about1.frames = Frame.invoking theMethod args0 :: below0 := rfl
set_option maxRecDepth 65536 in
theorem w_args : argsFit about1.vm theMethod args0 = true := by decide +kernel
set_option maxRecDepth 65536 in
theorem w_heap : heapFits about1 = true := by decide +kernel
set_option maxRecDepth 65536 in
theorem w_runnable : about1.curStatus? = some .runnable := by decide +kernel
set_option maxRecDepth 65536 in
theorem w_alone : about1.alone = true := by decide +kernel
set_option maxRecDepth 65536 in
theorem w_named : about1.methodNamed? x = some theMethod := by decide +kernel
set_option maxRecDepth 65536 in
theorem w_hears : about1.hears theMethod below0 = true := by decide +kernel
set_option maxRecDepth 65536 in
theorem w_ripe : about1.ripe theMethod args0 below0 = true := by decide +kernel
theorem w_running : about1.status = .running := rfl
set_option maxRecDepth 65536 in
theorem w_room : about1.hasRoom e0.platform room_1 = true :=
  launch0.hasRoom_least _ room_1 (by decide +kernel) (by decide +kernel) (by decide +kernel) (by decide +kernel) (by decide +kernel) (by decide +kernel)
theorem allAtoms_all (ts : List Jvm.Cond) (a : Array Jvm.Value) (st : Jvm.State) : (allAtoms ts).before a st = ts.all (fun c => c.before a st) := by
  induction ts with
  | nil => rfl
  | cons c t ih =>
    show (Jvm.Cond.and c (allAtoms t)).before a st = _
    rw [Jvm.Cond.before_and, ih, List.all_cons]
def words1 : List Jvm.Cond := Jvm.Cond.code x code maxLocals ret :: tables_1
/-- a 'code' word, met by the world's own term for the bytes: nothing is compared byte by byte -/
theorem code_word {y : MethodName} {bytes : ByteArray} {mx : Nat} {rt : Option FieldType} {a : Array Value} {s : State} {m : MethodId} {meth : Method} {c : Code} (h1 : s.methodNamed? y = some m) (h2 : s.vm.method? m = some meth) (h3 : meth.code = some c) (h4 : c.code = bytes)
    (h5 : (c.maxLocals == mx && c.exceptionTable.isEmpty && decide (c.maxStack ≤ mostOperands) && decide (meth.sig.returnType = rt) && !meth.locks && decide (parseMethodDescriptor y.desc = some meth.sig)) = true) : (Jvm.Cond.code y bytes mx rt).before a s = true := by
  simp only [Bool.and_eq_true, beq_iff_eq, Bool.not_eq_true', decide_eq_true_eq] at h5
  obtain ⟨⟨⟨⟨⟨g1, g2⟩, g3⟩, g4⟩, g5⟩, g6⟩ := h5
  simp [Cond.before, Cond.holds, Cond.value, h1, h2, h3, h4, g1, g2, g3, g4, g5, g6]
def isCode : Jvm.Cond → Bool
  | .code _ _ _ _ => true
  | _ => false
theorem all_split {L : List Jvm.Cond} {P : Jvm.Cond → Bool} (h1 : L.all (fun c => isCode c || P c) = true) (h2 : ∀ c ∈ L.filter isCode, P c = true) : L.all P = true := by
  refine List.all_eq_true.mpr fun c hc => ?_
  have h := List.all_eq_true.mp h1 c hc
  rcases Bool.eq_false_or_eq_true (isCode c) with hi | hi
  · exact h2 c (List.mem_filter.mpr ⟨hc, hi⟩)
  · simpa [hi] using h
set_option maxRecDepth 65536 in
theorem w_c0 : (Jvm.Cond.code x code maxLocals ret).before args0 about1 = true := code_word (m := ⟨1, 1⟩) (meth := k1m1) (c := k1c1) (by decide +kernel) rfl rfl rfl (by decide +kernel)
set_option maxRecDepth 65536 in
theorem w_c1 : (Jvm.Cond.code ({ cls := "com/example/widthwise/widthwise/runtime/Bytes", name := "withoutMarked", desc := "(JJ)J" } : Jvm.MethodName) prog_97_method_21_code (14 : Nat) (Option.some Jvm.ClassFile.FieldType.long)).before args0 about1 = true := code_word (m := ⟨2, 1⟩) (meth := k2m1) (c := k2c1) (by decide +kernel) rfl rfl rfl (by decide +kernel)
def codes1 : List Jvm.Cond := [Jvm.Cond.code x code maxLocals ret, Jvm.Cond.code ({ cls := "com/example/widthwise/widthwise/runtime/Bytes", name := "withoutMarked", desc := "(JJ)J" } : Jvm.MethodName) prog_97_method_21_code (14 : Nat) (Option.some Jvm.ClassFile.FieldType.long)]
set_option maxRecDepth 65536 in
theorem codes_eq : words1.filter isCode = codes1 := rfl
theorem w_codes : ∀ c ∈ words1.filter isCode, c.before args0 about1 = true := by
  rw [codes_eq]
  intro c hc
  simp only [codes1, List.mem_cons, List.not_mem_nil, or_false] at hc
  rcases hc with rfl | rfl
  · exact w_c0
  · exact w_c1
set_option maxRecDepth 65536 in
theorem w_t1 : words1.all (fun c => isCode c || c.before args0 about1) = true := by decide +kernel
theorem w_tables : (allAtoms (Jvm.Cond.code x code maxLocals ret :: tables_1)).before args0 about1 = true := by
  rw [allAtoms_all]
  show words1.all (fun c => c.before args0 about1) = true
  refine all_split ?_ w_codes
  rw [w_t1]
set_option maxRecDepth 65536 in
theorem w_case : (Jvm.Cond.and given_1 narrow_1).before args0 about1 = true := by decide +kernel
theorem w_applies : (headSpec (Jvm.Cond.code x code maxLocals ret :: tables_1) room_1).applies x e0.platform about1 = true :=
  (Spec.applies_iff w_frames).mpr ⟨w_running, w_runnable, w_alone, w_named, w_hears, w_ripe, w_room, w_tables⟩
theorem atStart : AtStart classFile x code maxLocals ret World_1 tables_1 room_1 Calls_1 rest_1 Pre_1 launch0 p0 e0 about1 theMethod args0 below0 :=
  ⟨lists_1, trivial, launch0.admits_env _ _ _, launch0.least_env, fairChoices_fair.cas, fairChoices_fair.clock, w_frames, w_args, w_heap, w_applies, trivial, trivial, w_case⟩
end start1
theorem witness_1 : WitnessClaimed_1 := ⟨start1.p0, start1.e0, start1.about1, start1.theMethod, start1.args0, start1.below0, start1.atStart⟩
end Jvm.Pilot.@@N@@
