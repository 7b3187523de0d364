import JvmDerived
import JvmDerived.Pilot.@@N@@Statement
import JvmDerived.Pilot.@@N@@Code
set_option linter.unusedVariables false
set_option linter.unusedSimpArgs false
namespace Jvm.RoadKit
open Sem ClassFile Op Lib Jvm.Stand Jvm.Free Jvm.LawKit
section New
variable {p : Program} {l : Launch} {e : Env} {R : Room} {s : State} {m : MethodId} {args : Array Value} {below : List Frame} {meth : Method} {c : Code} {T : State} {locs : List Loc} {cells slots : Nat}
theorem retI (X : Stand p l e R s m args below meth c T locs cells slots) (hx : p.tables.exec = Jvm.exec) {pc : Nat} {Ls : Array Slot} {z : Int32} {rest : List Value} (hret : meth.sig.returnType = some .int) (hd : decode c.code pc = .ok (.ireturn, 1)) {fs : List Frame}
    (hl : ∀ (f : JFrame) (acts : List Action), f.method = m → f.locked = none → f.entered = [] → (doReturn e (T.setTop f) acts (some (.int z))).1 = T.setFrames fs) : Steps p.tables e below (T.setTop (mkF m pc Ls (.int z :: rest))) (T.setFrames fs) := by
  have hm' : T.vm.method? m = some meth := X.method'
  have hn : narrow .int (.int z) = .int z := rfl
  show Steps p.tables e below (T.setTop { method := m, pc := pc, locals := Ls, stack := _ :: rest, locked := none }) _
  jvm_step X.here [X.here.top, hx, hd, hm', hret, hn]
  first | (intro acts; rw [hl _ acts rfl rfl rfl]) | rw [hl _ _ rfl rfl rfl]
  exact Steps.refl _
end New
end Jvm.RoadKit
namespace Jvm.Pilot.@@N@@
open Jvm Jvm.ClassFile Sem Op Lib Jvm.Free Jvm.Stand Jvm.LawKit Jvm.RoadKit Bundle Jvm.Pilot.@@N@@.Jvm.D
/-! an array of two ints; the whole object -/
def OwnAI (Z : State) (h : Heap) (b : Addr) (vs : List Value) : Prop := ∃ k, Arv Z h b k .int 2 vs (.int (0 : Int32))
theorem OwnAI.lt {Z : State} {h : Heap} {b : Addr} {vs : List Value} (A : OwnAI Z h b vs) : b < h.size := by obtain ⟨k, V⟩ := A; exact V.lt
theorem OwnAI.ext {Z : State} {h h' : Heap} {b : Addr} {vs : List Value} (A : OwnAI Z h b vs) (E : Ext h h') : OwnAI Z h' b vs := by obtain ⟨k, V⟩ := A; exact ⟨k, V.ext E⟩
theorem OwnAI.other {Z : State} {h h' : Heap} {a b : Addr} {sl : Nat} {v : Value} {vs : List Value} (A : OwnAI Z h b vs) (W : Wr h h' a sl v) (q : b ≠ a) : OwnAI Z h' b vs := by obtain ⟨k, V⟩ := A; exact ⟨k, V.other W q⟩
theorem OwnAI.keep {Z : State} {h h' : Heap} {b : Addr} {vs : List Value} {ws : List Addr} (A : OwnAI Z h b vs) (K : Keep h h' ws) (q : b ∉ ws) : OwnAI Z h' b vs := by obtain ⟨k, V⟩ := A; exact ⟨k, V.keep K q⟩
theorem own_ne {x y : Nat} (h : x < y ∨ y < x) : x ≠ y := by omega
def OwnOrd (a bA bS bN bF bL : Nat) : Prop := a < bA ∧ bA < bS ∧ bS < bN ∧ bN < bF ∧ bF < bL
def OwnObj (Z : State) (h : Heap) (a bA bS bN bF bL : Addr) (sz lc : Int32) (vA vS vN vF vL : List Value) : Prop := Exa Z h a "com/example/meticulous_handshake/meticuloushandshake/bisimulation/ArcsByLabel" ∧ Fld Z h a "com/example/meticulous_handshake/meticuloushandshake/bisimulation/ArcsByLabel" "arcs" "[I" (.ref bA) ∧ Fld Z h a "com/example/meticulous_handshake/meticuloushandshake/bisimulation/ArcsByLabel" "sources" "[I" (.ref bS) ∧ Fld Z h a "com/example/meticulous_handshake/meticuloushandshake/bisimulation/ArcsByLabel" "next" "[I" (.ref bN) ∧ Fld Z h a "com/example/meticulous_handshake/meticuloushandshake/bisimulation/ArcsByLabel" "firsts" "[I" (.ref bF) ∧ Fld Z h a "com/example/meticulous_handshake/meticuloushandshake/bisimulation/ArcsByLabel" "labels" "[I" (.ref bL) ∧ Fld Z h a "com/example/meticulous_handshake/meticuloushandshake/bisimulation/ArcsByLabel" "size" "I" (.int sz) ∧ Fld Z h a "com/example/meticulous_handshake/meticuloushandshake/bisimulation/ArcsByLabel" "labelCount" "I" (.int lc) ∧ OwnAI Z h bA vA ∧ OwnAI Z h bS vS ∧ OwnAI Z h bN vN ∧ OwnAI Z h bF vF ∧ OwnAI Z h bL vL
theorem OwnObj.w0 {Z : State} {h h' : Heap} {a bA bS bN bF bL : Addr} {sz lc : Int32} {vA vS vN vF vL : List Value} {w : List Value} {sl : Nat} {v : Value} (O : OwnObj Z h a bA bS bN bF bL sz lc vA vS vN vF vL) (od : OwnOrd a bA bS bN bF bL) (W : Wr h h' bA sl v) (n : OwnAI Z h' bA w) : OwnObj Z h' a bA bS bN bF bL sz lc w vS vN vF vL := by
  obtain ⟨E, F0, F1, F2, F3, F4, F5, F6, A0, A1, A2, A3, A4⟩ := O
  obtain ⟨o1, o2, o3, o4, o5⟩ := od
  exact ⟨E.wr W, F0.other W (Or.inl (own_ne (by omega))), F1.other W (Or.inl (own_ne (by omega))), F2.other W (Or.inl (own_ne (by omega))), F3.other W (Or.inl (own_ne (by omega))), F4.other W (Or.inl (own_ne (by omega))), F5.other W (Or.inl (own_ne (by omega))), F6.other W (Or.inl (own_ne (by omega))), n, A1.other W (own_ne (by omega)), A2.other W (own_ne (by omega)), A3.other W (own_ne (by omega)), A4.other W (own_ne (by omega))⟩
theorem OwnObj.w1 {Z : State} {h h' : Heap} {a bA bS bN bF bL : Addr} {sz lc : Int32} {vA vS vN vF vL : List Value} {w : List Value} {sl : Nat} {v : Value} (O : OwnObj Z h a bA bS bN bF bL sz lc vA vS vN vF vL) (od : OwnOrd a bA bS bN bF bL) (W : Wr h h' bS sl v) (n : OwnAI Z h' bS w) : OwnObj Z h' a bA bS bN bF bL sz lc vA w vN vF vL := by
  obtain ⟨E, F0, F1, F2, F3, F4, F5, F6, A0, A1, A2, A3, A4⟩ := O
  obtain ⟨o1, o2, o3, o4, o5⟩ := od
  exact ⟨E.wr W, F0.other W (Or.inl (own_ne (by omega))), F1.other W (Or.inl (own_ne (by omega))), F2.other W (Or.inl (own_ne (by omega))), F3.other W (Or.inl (own_ne (by omega))), F4.other W (Or.inl (own_ne (by omega))), F5.other W (Or.inl (own_ne (by omega))), F6.other W (Or.inl (own_ne (by omega))), A0.other W (own_ne (by omega)), n, A2.other W (own_ne (by omega)), A3.other W (own_ne (by omega)), A4.other W (own_ne (by omega))⟩
theorem OwnObj.w2 {Z : State} {h h' : Heap} {a bA bS bN bF bL : Addr} {sz lc : Int32} {vA vS vN vF vL : List Value} {w : List Value} {sl : Nat} {v : Value} (O : OwnObj Z h a bA bS bN bF bL sz lc vA vS vN vF vL) (od : OwnOrd a bA bS bN bF bL) (W : Wr h h' bN sl v) (n : OwnAI Z h' bN w) : OwnObj Z h' a bA bS bN bF bL sz lc vA vS w vF vL := by
  obtain ⟨E, F0, F1, F2, F3, F4, F5, F6, A0, A1, A2, A3, A4⟩ := O
  obtain ⟨o1, o2, o3, o4, o5⟩ := od
  exact ⟨E.wr W, F0.other W (Or.inl (own_ne (by omega))), F1.other W (Or.inl (own_ne (by omega))), F2.other W (Or.inl (own_ne (by omega))), F3.other W (Or.inl (own_ne (by omega))), F4.other W (Or.inl (own_ne (by omega))), F5.other W (Or.inl (own_ne (by omega))), F6.other W (Or.inl (own_ne (by omega))), A0.other W (own_ne (by omega)), A1.other W (own_ne (by omega)), n, A3.other W (own_ne (by omega)), A4.other W (own_ne (by omega))⟩
theorem OwnObj.w3 {Z : State} {h h' : Heap} {a bA bS bN bF bL : Addr} {sz lc : Int32} {vA vS vN vF vL : List Value} {w : List Value} {sl : Nat} {v : Value} (O : OwnObj Z h a bA bS bN bF bL sz lc vA vS vN vF vL) (od : OwnOrd a bA bS bN bF bL) (W : Wr h h' bF sl v) (n : OwnAI Z h' bF w) : OwnObj Z h' a bA bS bN bF bL sz lc vA vS vN w vL := by
  obtain ⟨E, F0, F1, F2, F3, F4, F5, F6, A0, A1, A2, A3, A4⟩ := O
  obtain ⟨o1, o2, o3, o4, o5⟩ := od
  exact ⟨E.wr W, F0.other W (Or.inl (own_ne (by omega))), F1.other W (Or.inl (own_ne (by omega))), F2.other W (Or.inl (own_ne (by omega))), F3.other W (Or.inl (own_ne (by omega))), F4.other W (Or.inl (own_ne (by omega))), F5.other W (Or.inl (own_ne (by omega))), F6.other W (Or.inl (own_ne (by omega))), A0.other W (own_ne (by omega)), A1.other W (own_ne (by omega)), A2.other W (own_ne (by omega)), n, A4.other W (own_ne (by omega))⟩
theorem OwnObj.w4 {Z : State} {h h' : Heap} {a bA bS bN bF bL : Addr} {sz lc : Int32} {vA vS vN vF vL : List Value} {w : List Value} {sl : Nat} {v : Value} (O : OwnObj Z h a bA bS bN bF bL sz lc vA vS vN vF vL) (od : OwnOrd a bA bS bN bF bL) (W : Wr h h' bL sl v) (n : OwnAI Z h' bL w) : OwnObj Z h' a bA bS bN bF bL sz lc vA vS vN vF w := by
  obtain ⟨E, F0, F1, F2, F3, F4, F5, F6, A0, A1, A2, A3, A4⟩ := O
  obtain ⟨o1, o2, o3, o4, o5⟩ := od
  exact ⟨E.wr W, F0.other W (Or.inl (own_ne (by omega))), F1.other W (Or.inl (own_ne (by omega))), F2.other W (Or.inl (own_ne (by omega))), F3.other W (Or.inl (own_ne (by omega))), F4.other W (Or.inl (own_ne (by omega))), F5.other W (Or.inl (own_ne (by omega))), F6.other W (Or.inl (own_ne (by omega))), A0.other W (own_ne (by omega)), A1.other W (own_ne (by omega)), A2.other W (own_ne (by omega)), A3.other W (own_ne (by omega)), n⟩
theorem OwnObj.p5 {Z : State} {h h' : Heap} {a bA bS bN bF bL : Addr} {sz lc : Int32} {vA vS vN vF vL : List Value} {a0 : Array Value} (hw : ∀ d ∈ tables_1, d.before a0 Z = true) {sz' : Int32} (O : OwnObj Z h a bA bS bN bF bL sz lc vA vS vN vF vL) (od : OwnOrd a bA bS bN bF bL) (W : Wr h h' a (Jvm.RoadKit.slotOf Z "com/example/meticulous_handshake/meticuloushandshake/bisimulation/ArcsByLabel" "size" "I") (.int sz')) : OwnObj Z h' a bA bS bN bF bL sz' lc vA vS vN vF vL := by
  obtain ⟨E, F0, F1, F2, F3, F4, F5, F6, A0, A1, A2, A3, A4⟩ := O
  obtain ⟨o1, o2, o3, o4, o5⟩ := od
  exact ⟨E.wr W, F0.other W (Or.inr (slot_ne (Or.inr (hw _ (List.mem_of_getElem? (i := 11) rfl))) (Or.inl (hw _ (List.mem_of_getElem? (i := 30) rfl))) (by decide) (t := (.array .int)) (t' := .int) (by decide) (by decide))), F1.other W (Or.inr (slot_ne (Or.inr (hw _ (List.mem_of_getElem? (i := 13) rfl))) (Or.inl (hw _ (List.mem_of_getElem? (i := 30) rfl))) (by decide) (t := (.array .int)) (t' := .int) (by decide) (by decide))), F2.other W (Or.inr (slot_ne (Or.inr (hw _ (List.mem_of_getElem? (i := 15) rfl))) (Or.inl (hw _ (List.mem_of_getElem? (i := 30) rfl))) (by decide) (t := (.array .int)) (t' := .int) (by decide) (by decide))), F3.other W (Or.inr (slot_ne (Or.inr (hw _ (List.mem_of_getElem? (i := 17) rfl))) (Or.inl (hw _ (List.mem_of_getElem? (i := 30) rfl))) (by decide) (t := (.array .int)) (t' := .int) (by decide) (by decide))), F4.other W (Or.inr (slot_ne (Or.inr (hw _ (List.mem_of_getElem? (i := 23) rfl))) (Or.inl (hw _ (List.mem_of_getElem? (i := 30) rfl))) (by decide) (t := (.array .int)) (t' := .int) (by decide) (by decide))), F5.same W, F6.other W (Or.inr (slot_ne (Or.inl (hw _ (List.mem_of_getElem? (i := 32) rfl))) (Or.inl (hw _ (List.mem_of_getElem? (i := 30) rfl))) (by decide) (t := .int) (t' := .int) (by decide) (by decide))), A0.other W (own_ne (by omega)), A1.other W (own_ne (by omega)), A2.other W (own_ne (by omega)), A3.other W (own_ne (by omega)), A4.other W (own_ne (by omega))⟩
theorem OwnObj.p6 {Z : State} {h h' : Heap} {a bA bS bN bF bL : Addr} {sz lc : Int32} {vA vS vN vF vL : List Value} {a0 : Array Value} (hw : ∀ d ∈ tables_1, d.before a0 Z = true) {lc' : Int32} (O : OwnObj Z h a bA bS bN bF bL sz lc vA vS vN vF vL) (od : OwnOrd a bA bS bN bF bL) (W : Wr h h' a (Jvm.RoadKit.slotOf Z "com/example/meticulous_handshake/meticuloushandshake/bisimulation/ArcsByLabel" "labelCount" "I") (.int lc')) : OwnObj Z h' a bA bS bN bF bL sz lc' vA vS vN vF vL := by
  obtain ⟨E, F0, F1, F2, F3, F4, F5, F6, A0, A1, A2, A3, A4⟩ := O
  obtain ⟨o1, o2, o3, o4, o5⟩ := od
  exact ⟨E.wr W, F0.other W (Or.inr (slot_ne (Or.inr (hw _ (List.mem_of_getElem? (i := 11) rfl))) (Or.inl (hw _ (List.mem_of_getElem? (i := 32) rfl))) (by decide) (t := (.array .int)) (t' := .int) (by decide) (by decide))), F1.other W (Or.inr (slot_ne (Or.inr (hw _ (List.mem_of_getElem? (i := 13) rfl))) (Or.inl (hw _ (List.mem_of_getElem? (i := 32) rfl))) (by decide) (t := (.array .int)) (t' := .int) (by decide) (by decide))), F2.other W (Or.inr (slot_ne (Or.inr (hw _ (List.mem_of_getElem? (i := 15) rfl))) (Or.inl (hw _ (List.mem_of_getElem? (i := 32) rfl))) (by decide) (t := (.array .int)) (t' := .int) (by decide) (by decide))), F3.other W (Or.inr (slot_ne (Or.inr (hw _ (List.mem_of_getElem? (i := 17) rfl))) (Or.inl (hw _ (List.mem_of_getElem? (i := 32) rfl))) (by decide) (t := (.array .int)) (t' := .int) (by decide) (by decide))), F4.other W (Or.inr (slot_ne (Or.inr (hw _ (List.mem_of_getElem? (i := 23) rfl))) (Or.inl (hw _ (List.mem_of_getElem? (i := 32) rfl))) (by decide) (t := (.array .int)) (t' := .int) (by decide) (by decide))), F5.other W (Or.inr (slot_ne (Or.inl (hw _ (List.mem_of_getElem? (i := 30) rfl))) (Or.inl (hw _ (List.mem_of_getElem? (i := 32) rfl))) (by decide) (t := .int) (t' := .int) (by decide) (by decide))), F6.same W, A0.other W (own_ne (by omega)), A1.other W (own_ne (by omega)), A2.other W (own_ne (by omega)), A3.other W (own_ne (by omega)), A4.other W (own_ne (by omega))⟩
theorem d3_0 : decode jdk_65_method_103_code 0 = .ok (.iconst 0, 1) := by decide +kernel
theorem d3_1 : decode jdk_65_method_103_code 1 = .ok (.istore_n 2, 1) := by decide +kernel
theorem d3_2 : decode jdk_65_method_103_code 2 = .ok (.aload_n 0, 1) := by decide +kernel
theorem d3_3 : decode jdk_65_method_103_code 3 = .ok (.arraylength, 1) := by decide +kernel
theorem d3_4 : decode jdk_65_method_103_code 4 = .ok (.istore_n 3, 1) := by decide +kernel
theorem d3_5 : decode jdk_65_method_103_code 5 = .ok (.iload_n 2, 1) := by decide +kernel
theorem d3_6 : decode jdk_65_method_103_code 6 = .ok (.iload_n 3, 1) := by decide +kernel
theorem d3_7 : decode jdk_65_method_103_code 7 = .ok (.if_icmp .ge 13, 3) := by decide +kernel
theorem d3_10 : decode jdk_65_method_103_code 10 = .ok (.aload_n 0, 1) := by decide +kernel
theorem d3_11 : decode jdk_65_method_103_code 11 = .ok (.iload_n 2, 1) := by decide +kernel
theorem d3_12 : decode jdk_65_method_103_code 12 = .ok (.iload_n 1, 1) := by decide +kernel
theorem d3_13 : decode jdk_65_method_103_code 13 = .ok (.iastore, 1) := by decide +kernel
theorem d3_14 : decode jdk_65_method_103_code 14 = .ok (.iinc 2 1, 3) := by decide +kernel
theorem d3_17 : decode jdk_65_method_103_code 17 = .ok (.goto (-12), 3) := by decide +kernel
theorem d3_20 : decode jdk_65_method_103_code 20 = .ok (.return_, 1) := by decide +kernel
theorem pn_3 : plainName "java/util/Arrays" = true := by first | (simp [plainName, overriddenIn]; done) | decide +kernel
theorem pf_3 : plainFor (⟨"java/util/Arrays", "fill", "([II)V"⟩ : MethodName) = true := plainFor_of_name pn_3
theorem ef_3 (m : MethodId) (x0 : Addr) (x1 : Int32) : entryFrame m #[(.ref x0), (.int x1)] 4 = mkF m 0 #[.val (.ref x0), .val (.int x1), .unset, .unset] [] := by first | (simp [entryFrame, mkF, argsToLocals, Value.category, maxLocals]; done) | rfl
def Q3 (Z : State) (a1 : Addr) (p2 : Int32) (h0 : Heap) (n0 : Nat) (v : Option Value) (h : Heap) (L : List Loc) : Prop := v = none ∧ Fr n0 L ∧ Keep h0 h [a1] ∧ OwnAI Z h a1 [.int p2, .int p2]
set_option maxRecDepth 65536 in
set_option maxHeartbeats 40000000 in
theorem rm3 (l : Launch) (Z : State) (a0 : Array Value) (hw : ∀ d ∈ tables_1, d.before a0 Z = true) (ws : List Jvm.Cond) (a1 : Addr) (p2 : Int32) (x0 x1 : Value) (h0 : Heap) (n0 : Nat) (Z0 : n0 ≤ h0.size) (A : OwnAI Z h0 a1 [x0, x1]) (g_a1 : n0 ≤ a1) :
    MetFree l (⟨"java/util/Arrays", "fill", "([II)V"⟩ : MethodName) (head1 (Jvm.Cond.code (⟨"java/util/Arrays", "fill", "([II)V"⟩ : MethodName) jdk_65_method_103_code 4 none :: ws) ({ frames := 0, cells := 0, slots := 0, locals := 0 } : Room)) (fun aA uU => aA = #[(.ref a1), (.int p2)] ∧ Z.Warmed39 uU.vm ∧ uU.heap = h0) (fun _ _ _ _ _ => True) (fun _ uU oO uV => ∃ vV lL, oO = .returned vV ∧ Q3 Z a1 p2 h0 n0 vV uV.heap lL ∧ FrameEnd uU oO uV lL ({ frames := 0, cells := 0, slots := 0, locals := 0 } : Room).cells ({ frames := 0, cells := 0, slots := 0, locals := 0 } : Room).slots) := by
  refine MetFree.of_bodySF pf_3 hisR ?_
  intro p e s m args below meth c s₁ Bd hml0 hP hK
  obtain ⟨rfl, hZ, hh⟩ := hP
  have hx := Bd.exec
  have hby := Bd.bytes
  have hml : c.maxLocals = 4 := hml0
  have hown : s.vm.findClass "java/util/Arrays" = some m.cls := findClass_of_methodNamed Bd.named
  have hnm := (name_of_methodNamed Bd.named Bd.method).1
  have X0 : Stand p l e ({ frames := 0, cells := 0, slots := 0, locals := 0 } : Room) s m #[(.ref a1), (.int p2)] below meth c s₁ [] 0 0 := Stand.of_body Bd
  have e0 : s₁.heap = h0 := by rw [← hh, Bd.state]; rfl
  have N0 := Fr.nil n0
  have pre0 : ∀ t, Steps p.tables e below (s₁.setTop (mkF m 0 #[.val (.ref a1), .val (.int p2), .unset, .unset] [])) t → Steps p.tables e below (s₁.setTop (entryFrame m #[(.ref a1), (.int p2)] 4)) t := fun t k => castTop (ef_3 m a1 p2) k
  obtain ⟨ka, cl, Ar, q1, S, M, H, U⟩ := A
  obtain ⟨T1, h1, X1, e1, W1, st1⟩ := stI X0 hx hZ e0 Ar (j := (0 : Int32)) (inb_of S ⟨by decide, by decide⟩) (g := (mkF m 13 #[.val (.ref a1), .val (.int p2), .val (.int (0 : Int32)), .val (.int (2 : Int32))] [(.int p2), (.int (0 : Int32)), (.ref a1)])) rfl rfl (hb hby d3_13)
  have V1 := Arv.set Ar q1 S M H U rfl W1 0 rfl (by show _ < 2; decide)
  have N1 := Fr.snoc X1 N0 g_a1
  have K1 := (Keep.refl h0 [a1]).wr W1 (Or.inl (List.mem_of_getElem? (i := 0) rfl))
  obtain ⟨cl1, Ar1, q1, S1, M1, H1, U1⟩ := V1
  obtain ⟨T2, h2, X2, e2, W2, st2⟩ := stI X1 hx hZ e1 Ar1 (j := (1 : Int32)) (inb_of S1 ⟨by decide, by decide⟩) (g := (mkF m 13 #[.val (.ref a1), .val (.int p2), .val (.int (1 : Int32)), .val (.int (2 : Int32))] [(.int p2), (.int (1 : Int32)), (.ref a1)])) rfl rfl (hb hby d3_13)
  have V2 := Arv.set Ar1 q1 S1 M1 H1 U1 rfl W2 1 rfl (by show _ < 2; decide)
  have N2 := Fr.snoc X2 N1 g_a1
  have K2 := K1.wr W2 (Or.inl (List.mem_of_getElem? (i := 0) rfl))
  obtain ⟨cl2, Ar2, q2, S2, M2, H2, U2⟩ := V2
  obtain ⟨fs, hr, hrun, hended, hW, hsame⟩ := X2.leave (v := none) (fun _ => rfl)
  refine ⟨_, _, pre0 _ ?_, hrun, hended, _, _, rfl, ?_, ⟨_, rfl⟩, hW, hsame.mono (by decide) (by decide)⟩
  · show Steps p.tables e below (s₁.setTop (mkF m 0 #[.val (.ref a1), .val (.int p2), .unset, .unset] [])) _
    refine XS.iconst X0.here hx rfl (hb hby d3_0) ?_
    show Steps p.tables e below (s₁.setTop (mkF m 1 #[.val (.ref a1), .val (.int p2), .unset, .unset] [(.int (0 : Int32))])) _
    refine XS.istoreN X0.here hx rfl (hb hby d3_1) rfl (l' := #[.val (.ref a1), .val (.int p2), .val (.int (0 : Int32)), .unset]) rfl ?_
    show Steps p.tables e below (s₁.setTop (mkF m 2 #[.val (.ref a1), .val (.int p2), .val (.int (0 : Int32)), .unset] [])) _
    refine XS.aloadN X0.here hx rfl (hb hby d3_2) rfl rfl ?_
    show Steps p.tables e below (s₁.setTop (mkF m 3 #[.val (.ref a1), .val (.int p2), .val (.int (0 : Int32)), .unset] [(.ref a1)])) _
    refine X0.arraylength hx (by rw [e0]; exact Ar.1) (State.isArrayOf_alike hZ.alike Ar.2.1) (g := (mkF m 3 #[.val (.ref a1), .val (.int p2), .val (.int (0 : Int32)), .unset] [(.ref a1)])) rfl rfl (hb hby d3_3) _ ?_
    rw [len_of S M]
    show Steps p.tables e below (s₁.setTop (mkF m 4 #[.val (.ref a1), .val (.int p2), .val (.int (0 : Int32)), .unset] [(.int (2 : Int32))])) _
    refine XS.istoreN X0.here hx rfl (hb hby d3_4) rfl (l' := #[.val (.ref a1), .val (.int p2), .val (.int (0 : Int32)), .val (.int (2 : Int32))]) rfl ?_
    show Steps p.tables e below (s₁.setTop (mkF m 5 #[.val (.ref a1), .val (.int p2), .val (.int (0 : Int32)), .val (.int (2 : Int32))] [])) _
    refine XS.iloadN X0.here hx rfl (hb hby d3_5) rfl ?_
    show Steps p.tables e below (s₁.setTop (mkF m 6 #[.val (.ref a1), .val (.int p2), .val (.int (0 : Int32)), .val (.int (2 : Int32))] [(.int (0 : Int32))])) _
    refine XS.iloadN X0.here hx rfl (hb hby d3_6) rfl ?_
    show Steps p.tables e below (s₁.setTop (mkF m 7 #[.val (.ref a1), .val (.int p2), .val (.int (0 : Int32)), .val (.int (2 : Int32))] [(.int (2 : Int32)), (.int (0 : Int32))])) _
    refine XS.icmpNo X0.here hx rfl (hb hby d3_7) rfl (tlt (by decide : (0 : Int32) < (2 : Int32))).2.1 ?_
    show Steps p.tables e below (s₁.setTop (mkF m 10 #[.val (.ref a1), .val (.int p2), .val (.int (0 : Int32)), .val (.int (2 : Int32))] [])) _
    refine XS.aloadN X0.here hx rfl (hb hby d3_10) rfl rfl ?_
    show Steps p.tables e below (s₁.setTop (mkF m 11 #[.val (.ref a1), .val (.int p2), .val (.int (0 : Int32)), .val (.int (2 : Int32))] [(.ref a1)])) _
    refine XS.iloadN X0.here hx rfl (hb hby d3_11) rfl ?_
    show Steps p.tables e below (s₁.setTop (mkF m 12 #[.val (.ref a1), .val (.int p2), .val (.int (0 : Int32)), .val (.int (2 : Int32))] [(.int (0 : Int32)), (.ref a1)])) _
    refine XS.iloadN X0.here hx rfl (hb hby d3_12) rfl ?_
    show Steps p.tables e below (s₁.setTop (mkF m 13 #[.val (.ref a1), .val (.int p2), .val (.int (0 : Int32)), .val (.int (2 : Int32))] [(.int p2), (.int (0 : Int32)), (.ref a1)])) _
    refine st1 _ ?_
    show Steps p.tables e below (T1.setTop (mkF m 14 #[.val (.ref a1), .val (.int p2), .val (.int (0 : Int32)), .val (.int (2 : Int32))] [])) _
    refine XS.iinc X1.here hx rfl (hb hby d3_14) rfl (l' := #[.val (.ref a1), .val (.int p2), .val (.int (1 : Int32)), .val (.int (2 : Int32))]) rfl ?_
    show Steps p.tables e below (T1.setTop (mkF m 17 #[.val (.ref a1), .val (.int p2), .val (.int (1 : Int32)), .val (.int (2 : Int32))] [])) _
    refine XS.goto X1.here hx rfl (pc0 := 17) (pc' := 5) rfl (hb hby d3_17) (by decide) (by decide) ?_
    show Steps p.tables e below (T1.setTop (mkF m 5 #[.val (.ref a1), .val (.int p2), .val (.int (1 : Int32)), .val (.int (2 : Int32))] [])) _
    refine XS.iloadN X1.here hx rfl (hb hby d3_5) rfl ?_
    show Steps p.tables e below (T1.setTop (mkF m 6 #[.val (.ref a1), .val (.int p2), .val (.int (1 : Int32)), .val (.int (2 : Int32))] [(.int (1 : Int32))])) _
    refine XS.iloadN X1.here hx rfl (hb hby d3_6) rfl ?_
    show Steps p.tables e below (T1.setTop (mkF m 7 #[.val (.ref a1), .val (.int p2), .val (.int (1 : Int32)), .val (.int (2 : Int32))] [(.int (2 : Int32)), (.int (1 : Int32))])) _
    refine XS.icmpNo X1.here hx rfl (hb hby d3_7) rfl (tlt (by decide : (1 : Int32) < (2 : Int32))).2.1 ?_
    show Steps p.tables e below (T1.setTop (mkF m 10 #[.val (.ref a1), .val (.int p2), .val (.int (1 : Int32)), .val (.int (2 : Int32))] [])) _
    refine XS.aloadN X1.here hx rfl (hb hby d3_10) rfl rfl ?_
    show Steps p.tables e below (T1.setTop (mkF m 11 #[.val (.ref a1), .val (.int p2), .val (.int (1 : Int32)), .val (.int (2 : Int32))] [(.ref a1)])) _
    refine XS.iloadN X1.here hx rfl (hb hby d3_11) rfl ?_
    show Steps p.tables e below (T1.setTop (mkF m 12 #[.val (.ref a1), .val (.int p2), .val (.int (1 : Int32)), .val (.int (2 : Int32))] [(.int (1 : Int32)), (.ref a1)])) _
    refine XS.iloadN X1.here hx rfl (hb hby d3_12) rfl ?_
    show Steps p.tables e below (T1.setTop (mkF m 13 #[.val (.ref a1), .val (.int p2), .val (.int (1 : Int32)), .val (.int (2 : Int32))] [(.int p2), (.int (1 : Int32)), (.ref a1)])) _
    refine st2 _ ?_
    show Steps p.tables e below (T2.setTop (mkF m 14 #[.val (.ref a1), .val (.int p2), .val (.int (1 : Int32)), .val (.int (2 : Int32))] [])) _
    refine XS.iinc X2.here hx rfl (hb hby d3_14) rfl (l' := #[.val (.ref a1), .val (.int p2), .val (.int (2 : Int32)), .val (.int (2 : Int32))]) rfl ?_
    show Steps p.tables e below (T2.setTop (mkF m 17 #[.val (.ref a1), .val (.int p2), .val (.int (2 : Int32)), .val (.int (2 : Int32))] [])) _
    refine XS.goto X2.here hx rfl (pc0 := 17) (pc' := 5) rfl (hb hby d3_17) (by decide) (by decide) ?_
    show Steps p.tables e below (T2.setTop (mkF m 5 #[.val (.ref a1), .val (.int p2), .val (.int (2 : Int32)), .val (.int (2 : Int32))] [])) _
    refine XS.iloadN X2.here hx rfl (hb hby d3_5) rfl ?_
    show Steps p.tables e below (T2.setTop (mkF m 6 #[.val (.ref a1), .val (.int p2), .val (.int (2 : Int32)), .val (.int (2 : Int32))] [(.int (2 : Int32))])) _
    refine XS.iloadN X2.here hx rfl (hb hby d3_6) rfl ?_
    show Steps p.tables e below (T2.setTop (mkF m 7 #[.val (.ref a1), .val (.int p2), .val (.int (2 : Int32)), .val (.int (2 : Int32))] [(.int (2 : Int32)), (.int (2 : Int32))])) _
    refine XS.icmpYes X2.here hx rfl (pc0 := 7) (pc' := 20) rfl (hb hby d3_7) rfl (flt (by decide : ¬ ((2 : Int32) < (2 : Int32)))).2.1 (by decide) (by decide) ?_
    show Steps p.tables e below (T2.setTop (mkF m 20 #[.val (.ref a1), .val (.int p2), .val (.int (2 : Int32)), .val (.int (2 : Int32))] [])) _
    exact X2.returnOut hx Bd.returns (hb hby d3_20) hr
  · show Q3 Z a1 p2 h0 n0 _ T2.heap _
    rw [e2]
    exact ⟨rfl, N2, K2, ⟨_, cl2, Ar2, q2, S2, M2, H2, U2⟩⟩
theorem d1_0 : decode prog_7_method_1_code 0 = .ok (.aload_n 0, 1) := by decide +kernel
theorem d1_1 : decode prog_7_method_1_code 1 = .ok (.invokespecial 1, 3) := by decide +kernel
theorem d1_4 : decode prog_7_method_1_code 4 = .ok (.aload_n 0, 1) := by decide +kernel
theorem d1_5 : decode prog_7_method_1_code 5 = .ok (.iload_n 1, 1) := by decide +kernel
theorem d1_6 : decode prog_7_method_1_code 6 = .ok (.newarray .int, 2) := by decide +kernel
theorem d1_8 : decode prog_7_method_1_code 8 = .ok (.putfield 7, 3) := by decide +kernel
theorem d1_11 : decode prog_7_method_1_code 11 = .ok (.aload_n 0, 1) := by decide +kernel
theorem d1_12 : decode prog_7_method_1_code 12 = .ok (.iload_n 1, 1) := by decide +kernel
theorem d1_13 : decode prog_7_method_1_code 13 = .ok (.newarray .int, 2) := by decide +kernel
theorem d1_15 : decode prog_7_method_1_code 15 = .ok (.putfield 13, 3) := by decide +kernel
theorem d1_18 : decode prog_7_method_1_code 18 = .ok (.aload_n 0, 1) := by decide +kernel
theorem d1_19 : decode prog_7_method_1_code 19 = .ok (.iload_n 1, 1) := by decide +kernel
theorem d1_20 : decode prog_7_method_1_code 20 = .ok (.newarray .int, 2) := by decide +kernel
theorem d1_22 : decode prog_7_method_1_code 22 = .ok (.putfield 16, 3) := by decide +kernel
theorem d1_25 : decode prog_7_method_1_code 25 = .ok (.aload_n 0, 1) := by decide +kernel
theorem d1_26 : decode prog_7_method_1_code 26 = .ok (.iload_n 2, 1) := by decide +kernel
theorem d1_27 : decode prog_7_method_1_code 27 = .ok (.newarray .int, 2) := by decide +kernel
theorem d1_29 : decode prog_7_method_1_code 29 = .ok (.putfield 19, 3) := by decide +kernel
theorem d1_32 : decode prog_7_method_1_code 32 = .ok (.aload_n 0, 1) := by decide +kernel
theorem d1_33 : decode prog_7_method_1_code 33 = .ok (.getfield 19, 3) := by decide +kernel
theorem d1_36 : decode prog_7_method_1_code 36 = .ok (.iconst (-1), 1) := by decide +kernel
theorem d1_37 : decode prog_7_method_1_code 37 = .ok (.invokestatic 22, 3) := by decide +kernel
theorem d1_40 : decode prog_7_method_1_code 40 = .ok (.aload_n 0, 1) := by decide +kernel
theorem d1_41 : decode prog_7_method_1_code 41 = .ok (.iload_n 2, 1) := by decide +kernel
theorem d1_42 : decode prog_7_method_1_code 42 = .ok (.newarray .int, 2) := by decide +kernel
theorem d1_44 : decode prog_7_method_1_code 44 = .ok (.putfield 28, 3) := by decide +kernel
theorem d1_47 : decode prog_7_method_1_code 47 = .ok (.return_, 1) := by decide +kernel
theorem pn_1 : plainName "com/example/meticulous_handshake/meticuloushandshake/bisimulation/ArcsByLabel" = true := by first | (simp [plainName, overriddenIn]; done) | decide +kernel
theorem pf_1 : plainFor (⟨"com/example/meticulous_handshake/meticuloushandshake/bisimulation/ArcsByLabel", "<init>", "(II)V"⟩ : MethodName) = true := plainFor_of_name pn_1
theorem ef_1 (m : MethodId) (x0 : Addr) (x1 : Int32) (x2 : Int32) : entryFrame m #[(.ref x0), (.int x1), (.int x2)] 3 = mkF m 0 #[.val (.ref x0), .val (.int x1), .val (.int x2)] [] := by first | (simp [entryFrame, mkF, argsToLocals, Value.category, maxLocals]; done) | rfl
theorem pd_fill : parseMethodDescriptor "([II)V" = some ⟨[(.array .int), .int], none⟩ := by decide +kernel
def Q1 (Z : State) (a : Addr) (h0 : Heap) (n0 : Nat) (v : Option Value) (h : Heap) (L : List Loc) : Prop := v = none ∧ Fr n0 L ∧ n0 ≤ h.size ∧ ∃ bA bS bN bF bL, OwnOrd a bA bS bN bF bL ∧ OwnObj Z h a bA bS bN bF bL 0 0 [(.int (0 : Int32)), (.int (0 : Int32))] [(.int (0 : Int32)), (.int (0 : Int32))] [(.int (0 : Int32)), (.int (0 : Int32))] [(.int (-1 : Int32)), (.int (-1 : Int32))] [(.int (0 : Int32)), (.int (0 : Int32))]
set_option maxRecDepth 65536 in
set_option maxHeartbeats 40000000 in
theorem rm1 (l : Launch) (Z : State) (a0 : Array Value) (hw : ∀ d ∈ tables_1, d.before a0 Z = true) (ws : List Jvm.Cond) (a : Addr) (h0 : Heap) (n0 : Nat) (Z0 : n0 ≤ h0.size) (E : Exa Z h0 a "com/example/meticulous_handshake/meticuloushandshake/bisimulation/ArcsByLabel") (F0 : Fld Z h0 a "com/example/meticulous_handshake/meticuloushandshake/bisimulation/ArcsByLabel" "arcs" "[I" .null) (F1 : Fld Z h0 a "com/example/meticulous_handshake/meticuloushandshake/bisimulation/ArcsByLabel" "sources" "[I" .null) (F2 : Fld Z h0 a "com/example/meticulous_handshake/meticuloushandshake/bisimulation/ArcsByLabel" "next" "[I" .null) (F3 : Fld Z h0 a "com/example/meticulous_handshake/meticuloushandshake/bisimulation/ArcsByLabel" "firsts" "[I" .null) (F4 : Fld Z h0 a "com/example/meticulous_handshake/meticuloushandshake/bisimulation/ArcsByLabel" "labels" "[I" .null) (F5 : Fld Z h0 a "com/example/meticulous_handshake/meticuloushandshake/bisimulation/ArcsByLabel" "size" "I" (.int (0 : Int32))) (F6 : Fld Z h0 a "com/example/meticulous_handshake/meticuloushandshake/bisimulation/ArcsByLabel" "labelCount" "I" (.int (0 : Int32))) (g_a : n0 ≤ a) :
    MetFree l (⟨"com/example/meticulous_handshake/meticuloushandshake/bisimulation/ArcsByLabel", "<init>", "(II)V"⟩ : MethodName) (head1 (Jvm.Cond.code (⟨"com/example/meticulous_handshake/meticuloushandshake/bisimulation/ArcsByLabel", "<init>", "(II)V"⟩ : MethodName) prog_7_method_1_code 3 none :: ws) ({ frames := 1, cells := 5, slots := 10, locals := 15 } : Room)) (fun aA uU => aA = #[(.ref a), (.int (2 : Int32)), (.int (2 : Int32))] ∧ Z.Warmed39 uU.vm ∧ uU.heap = h0) (fun _ _ _ _ _ => True) (fun _ uU oO uV => ∃ vV lL, oO = .returned vV ∧ Q1 Z a h0 n0 vV uV.heap lL ∧ FrameEnd uU oO uV lL ({ frames := 1, cells := 5, slots := 10, locals := 15 } : Room).cells ({ frames := 1, cells := 5, slots := 10, locals := 15 } : Room).slots) := by
  refine MetFree.of_bodySF pf_1 hisR ?_
  intro p e s m args below meth c s₁ Bd hml0 hP hK
  obtain ⟨rfl, hZ, hh⟩ := hP
  have hx := Bd.exec
  have hby := Bd.bytes
  have hml : c.maxLocals = 3 := hml0
  have hown : s.vm.findClass "com/example/meticulous_handshake/meticuloushandshake/bisimulation/ArcsByLabel" = some m.cls := findClass_of_methodNamed Bd.named
  have hnm := (name_of_methodNamed Bd.named Bd.method).1
  have X0 : Stand p l e ({ frames := 1, cells := 5, slots := 10, locals := 15 } : Room) s m #[(.ref a), (.int (2 : Int32)), (.int (2 : Int32))] below meth c s₁ [] 0 0 := Stand.of_body Bd
  have e0 : s₁.heap = h0 := by rw [← hh, Bd.state]; rfl
  have N0 := Fr.nil n0
  have pre0 : ∀ t, Steps p.tables e below (s₁.setTop (mkF m 0 #[.val (.ref a), .val (.int (2 : Int32)), .val (.int (2 : Int32))] [])) t → Steps p.tables e below (s₁.setTop (entryFrame m #[(.ref a), (.int (2 : Int32)), (.int (2 : Int32))] 3)) t := fun t k => castTop (ef_1 m a (2 : Int32) (2 : Int32)) k
  obtain ⟨T1, X1, e1, st1⟩ := initO X0 hx hZ hown (hw _ (List.mem_of_getElem? (i := 6) rfl)) (hw _ (List.mem_of_getElem? (i := 7) rfl)) (hw _ (List.mem_of_getElem? (i := 8) rfl)) e0 (g := (mkF m 1 #[.val (.ref a), .val (.int (2 : Int32)), .val (.int (2 : Int32))] [(.ref a)])) rfl (by rw [hml]; rfl) rfl (hb hby d1_1) (by decide) (W := 0) (by show 2 * 0 + _ ≤ _; exact Nat.le_of_eq rfl) (by decide)
  obtain ⟨T2, h2, k2, X2, e2, E2, AA2, st2⟩ := newP X1 hx hZ (hw _ (List.mem_of_getElem? (i := 9) rfl)) e1 (g := (mkF m 6 #[.val (.ref a), .val (.int (2 : Int32)), .val (.int (2 : Int32))] [(.int (2 : Int32)), (.ref a)])) rfl (hb hby d1_6) rfl (by decide) (cap := 2) (by decide) (by decide) (by decide) (by decide)
  obtain ⟨bA, g2⟩ : ∃ z, z = h0.size := ⟨_, rfl⟩
  rw [← g2] at AA2 st2
  have o_bA : @LT.lt Nat _ a bA := by rw [g2]; exact E.lt
  have F0_2 := F0.ext E2
  have F1_2 := F1.ext E2
  have F2_2 := F2.ext E2
  have F3_2 := F3.ext E2
  have F4_2 := F4.ext E2
  have F5_2 := F5.ext E2
  have F6_2 := F6.ext E2
  have Ex_2 := E.ext E2
  have A_bA_2 : OwnAI Z h2 bA [(.int (0 : Int32)), (.int (0 : Int32))] := ⟨_, (Arv.new AA2 (by decide)).pad (pad_rep [] (.int (0 : Int32)) 2)⟩
  have Z2 := Nat.le_trans Z0 E2.1
  have g_bA : n0 ≤ bA := Nat.le_trans g_a (by omega)
  obtain ⟨T3, h3, X3, e3, W3, st3⟩ := putF X2 hx hZ hown (host := "") (Or.inl (hw _ (List.mem_of_getElem? (i := 10) rfl))) Via.refl e2 F0_2 Ex_2 (Or.inr ⟨(hw _ (List.mem_of_getElem? (i := 11) rfl)), rfl, hnm⟩) (hw _ (List.mem_of_getElem? (i := 1) rfl)) (ty := (.array .int)) (by decide) rfl rfl (g := (mkF m 8 #[.val (.ref a), .val (.int (2 : Int32)), .val (.int (2 : Int32))] [(.ref bA), (.ref a)])) rfl rfl (hb hby d1_8)
  have F0_3 := F0_2.same W3
  have F1_3 := F1_2.other W3 (Or.inr (slot_ne (Or.inr (hw _ (List.mem_of_getElem? (i := 13) rfl))) (Or.inr (hw _ (List.mem_of_getElem? (i := 11) rfl))) (by decide) (t := (.array .int)) (t' := (.array .int)) (by decide) (by decide)))
  have F2_3 := F2_2.other W3 (Or.inr (slot_ne (Or.inr (hw _ (List.mem_of_getElem? (i := 15) rfl))) (Or.inr (hw _ (List.mem_of_getElem? (i := 11) rfl))) (by decide) (t := (.array .int)) (t' := (.array .int)) (by decide) (by decide)))
  have F3_3 := F3_2.other W3 (Or.inr (slot_ne (Or.inr (hw _ (List.mem_of_getElem? (i := 17) rfl))) (Or.inr (hw _ (List.mem_of_getElem? (i := 11) rfl))) (by decide) (t := (.array .int)) (t' := (.array .int)) (by decide) (by decide)))
  have F4_3 := F4_2.other W3 (Or.inr (slot_ne (Or.inr (hw _ (List.mem_of_getElem? (i := 23) rfl))) (Or.inr (hw _ (List.mem_of_getElem? (i := 11) rfl))) (by decide) (t := (.array .int)) (t' := (.array .int)) (by decide) (by decide)))
  have F5_3 := F5_2.other W3 (Or.inr (slot_ne (Or.inl (hw _ (List.mem_of_getElem? (i := 30) rfl))) (Or.inr (hw _ (List.mem_of_getElem? (i := 11) rfl))) (by decide) (t := .int) (t' := (.array .int)) (by decide) (by decide)))
  have F6_3 := F6_2.other W3 (Or.inr (slot_ne (Or.inl (hw _ (List.mem_of_getElem? (i := 32) rfl))) (Or.inr (hw _ (List.mem_of_getElem? (i := 11) rfl))) (by decide) (t := .int) (t' := (.array .int)) (by decide) (by decide)))
  have Ex_3 := Ex_2.wr W3
  have A_bA_3 := A_bA_2.other W3 (own_ne (by omega))
  have N3 := Fr.snoc X3 N0 g_a
  have Z3 := Nat.le_trans Z2 (Keep.of_wr W3).1
  obtain ⟨T4, h4, k4, X4, e4, E4, AA4, st4⟩ := newP X3 hx hZ (hw _ (List.mem_of_getElem? (i := 9) rfl)) e3 (g := (mkF m 13 #[.val (.ref a), .val (.int (2 : Int32)), .val (.int (2 : Int32))] [(.int (2 : Int32)), (.ref a)])) rfl (hb hby d1_13) rfl (by decide) (cap := 2) (by decide) (by decide) (by decide) (by decide)
  obtain ⟨bS, g4⟩ : ∃ z, z = h3.size := ⟨_, rfl⟩
  rw [← g4] at AA4 st4
  have o_bS : @LT.lt Nat _ bA bS := by rw [g4]; exact A_bA_3.lt
  have F0_4 := F0_3.ext E4
  have F1_4 := F1_3.ext E4
  have F2_4 := F2_3.ext E4
  have F3_4 := F3_3.ext E4
  have F4_4 := F4_3.ext E4
  have F5_4 := F5_3.ext E4
  have F6_4 := F6_3.ext E4
  have Ex_4 := Ex_3.ext E4
  have A_bA_4 := A_bA_3.ext E4
  have A_bS_4 : OwnAI Z h4 bS [(.int (0 : Int32)), (.int (0 : Int32))] := ⟨_, (Arv.new AA4 (by decide)).pad (pad_rep [] (.int (0 : Int32)) 2)⟩
  have Z4 := Nat.le_trans Z3 E4.1
  have g_bS : n0 ≤ bS := Nat.le_trans g_a (by omega)
  obtain ⟨T5, h5, X5, e5, W5, st5⟩ := putF X4 hx hZ hown (host := "") (Or.inl (hw _ (List.mem_of_getElem? (i := 12) rfl))) Via.refl e4 F1_4 Ex_4 (Or.inr ⟨(hw _ (List.mem_of_getElem? (i := 13) rfl)), rfl, hnm⟩) (hw _ (List.mem_of_getElem? (i := 1) rfl)) (ty := (.array .int)) (by decide) rfl rfl (g := (mkF m 15 #[.val (.ref a), .val (.int (2 : Int32)), .val (.int (2 : Int32))] [(.ref bS), (.ref a)])) rfl rfl (hb hby d1_15)
  have F0_5 := F0_4.other W5 (Or.inr (slot_ne (Or.inr (hw _ (List.mem_of_getElem? (i := 11) rfl))) (Or.inr (hw _ (List.mem_of_getElem? (i := 13) rfl))) (by decide) (t := (.array .int)) (t' := (.array .int)) (by decide) (by decide)))
  have F1_5 := F1_4.same W5
  have F2_5 := F2_4.other W5 (Or.inr (slot_ne (Or.inr (hw _ (List.mem_of_getElem? (i := 15) rfl))) (Or.inr (hw _ (List.mem_of_getElem? (i := 13) rfl))) (by decide) (t := (.array .int)) (t' := (.array .int)) (by decide) (by decide)))
  have F3_5 := F3_4.other W5 (Or.inr (slot_ne (Or.inr (hw _ (List.mem_of_getElem? (i := 17) rfl))) (Or.inr (hw _ (List.mem_of_getElem? (i := 13) rfl))) (by decide) (t := (.array .int)) (t' := (.array .int)) (by decide) (by decide)))
  have F4_5 := F4_4.other W5 (Or.inr (slot_ne (Or.inr (hw _ (List.mem_of_getElem? (i := 23) rfl))) (Or.inr (hw _ (List.mem_of_getElem? (i := 13) rfl))) (by decide) (t := (.array .int)) (t' := (.array .int)) (by decide) (by decide)))
  have F5_5 := F5_4.other W5 (Or.inr (slot_ne (Or.inl (hw _ (List.mem_of_getElem? (i := 30) rfl))) (Or.inr (hw _ (List.mem_of_getElem? (i := 13) rfl))) (by decide) (t := .int) (t' := (.array .int)) (by decide) (by decide)))
  have F6_5 := F6_4.other W5 (Or.inr (slot_ne (Or.inl (hw _ (List.mem_of_getElem? (i := 32) rfl))) (Or.inr (hw _ (List.mem_of_getElem? (i := 13) rfl))) (by decide) (t := .int) (t' := (.array .int)) (by decide) (by decide)))
  have Ex_5 := Ex_4.wr W5
  have A_bA_5 := A_bA_4.other W5 (own_ne (by omega))
  have A_bS_5 := A_bS_4.other W5 (own_ne (by omega))
  have N5 := Fr.snoc X5 N3 g_a
  have Z5 := Nat.le_trans Z4 (Keep.of_wr W5).1
  obtain ⟨T6, h6, k6, X6, e6, E6, AA6, st6⟩ := newP X5 hx hZ (hw _ (List.mem_of_getElem? (i := 9) rfl)) e5 (g := (mkF m 20 #[.val (.ref a), .val (.int (2 : Int32)), .val (.int (2 : Int32))] [(.int (2 : Int32)), (.ref a)])) rfl (hb hby d1_20) rfl (by decide) (cap := 2) (by decide) (by decide) (by decide) (by decide)
  obtain ⟨bN, g6⟩ : ∃ z, z = h5.size := ⟨_, rfl⟩
  rw [← g6] at AA6 st6
  have o_bN : @LT.lt Nat _ bS bN := by rw [g6]; exact A_bS_5.lt
  have F0_6 := F0_5.ext E6
  have F1_6 := F1_5.ext E6
  have F2_6 := F2_5.ext E6
  have F3_6 := F3_5.ext E6
  have F4_6 := F4_5.ext E6
  have F5_6 := F5_5.ext E6
  have F6_6 := F6_5.ext E6
  have Ex_6 := Ex_5.ext E6
  have A_bA_6 := A_bA_5.ext E6
  have A_bS_6 := A_bS_5.ext E6
  have A_bN_6 : OwnAI Z h6 bN [(.int (0 : Int32)), (.int (0 : Int32))] := ⟨_, (Arv.new AA6 (by decide)).pad (pad_rep [] (.int (0 : Int32)) 2)⟩
  have Z6 := Nat.le_trans Z5 E6.1
  have g_bN : n0 ≤ bN := Nat.le_trans g_a (by omega)
  obtain ⟨T7, h7, X7, e7, W7, st7⟩ := putF X6 hx hZ hown (host := "") (Or.inl (hw _ (List.mem_of_getElem? (i := 14) rfl))) Via.refl e6 F2_6 Ex_6 (Or.inr ⟨(hw _ (List.mem_of_getElem? (i := 15) rfl)), rfl, hnm⟩) (hw _ (List.mem_of_getElem? (i := 1) rfl)) (ty := (.array .int)) (by decide) rfl rfl (g := (mkF m 22 #[.val (.ref a), .val (.int (2 : Int32)), .val (.int (2 : Int32))] [(.ref bN), (.ref a)])) rfl rfl (hb hby d1_22)
  have F0_7 := F0_6.other W7 (Or.inr (slot_ne (Or.inr (hw _ (List.mem_of_getElem? (i := 11) rfl))) (Or.inr (hw _ (List.mem_of_getElem? (i := 15) rfl))) (by decide) (t := (.array .int)) (t' := (.array .int)) (by decide) (by decide)))
  have F1_7 := F1_6.other W7 (Or.inr (slot_ne (Or.inr (hw _ (List.mem_of_getElem? (i := 13) rfl))) (Or.inr (hw _ (List.mem_of_getElem? (i := 15) rfl))) (by decide) (t := (.array .int)) (t' := (.array .int)) (by decide) (by decide)))
  have F2_7 := F2_6.same W7
  have F3_7 := F3_6.other W7 (Or.inr (slot_ne (Or.inr (hw _ (List.mem_of_getElem? (i := 17) rfl))) (Or.inr (hw _ (List.mem_of_getElem? (i := 15) rfl))) (by decide) (t := (.array .int)) (t' := (.array .int)) (by decide) (by decide)))
  have F4_7 := F4_6.other W7 (Or.inr (slot_ne (Or.inr (hw _ (List.mem_of_getElem? (i := 23) rfl))) (Or.inr (hw _ (List.mem_of_getElem? (i := 15) rfl))) (by decide) (t := (.array .int)) (t' := (.array .int)) (by decide) (by decide)))
  have F5_7 := F5_6.other W7 (Or.inr (slot_ne (Or.inl (hw _ (List.mem_of_getElem? (i := 30) rfl))) (Or.inr (hw _ (List.mem_of_getElem? (i := 15) rfl))) (by decide) (t := .int) (t' := (.array .int)) (by decide) (by decide)))
  have F6_7 := F6_6.other W7 (Or.inr (slot_ne (Or.inl (hw _ (List.mem_of_getElem? (i := 32) rfl))) (Or.inr (hw _ (List.mem_of_getElem? (i := 15) rfl))) (by decide) (t := .int) (t' := (.array .int)) (by decide) (by decide)))
  have Ex_7 := Ex_6.wr W7
  have A_bA_7 := A_bA_6.other W7 (own_ne (by omega))
  have A_bS_7 := A_bS_6.other W7 (own_ne (by omega))
  have A_bN_7 := A_bN_6.other W7 (own_ne (by omega))
  have N7 := Fr.snoc X7 N5 g_a
  have Z7 := Nat.le_trans Z6 (Keep.of_wr W7).1
  obtain ⟨T8, h8, k8, X8, e8, E8, AA8, st8⟩ := newP X7 hx hZ (hw _ (List.mem_of_getElem? (i := 9) rfl)) e7 (g := (mkF m 27 #[.val (.ref a), .val (.int (2 : Int32)), .val (.int (2 : Int32))] [(.int (2 : Int32)), (.ref a)])) rfl (hb hby d1_27) rfl (by decide) (cap := 2) (by decide) (by decide) (by decide) (by decide)
  obtain ⟨bF, g8⟩ : ∃ z, z = h7.size := ⟨_, rfl⟩
  rw [← g8] at AA8 st8
  have o_bF : @LT.lt Nat _ bN bF := by rw [g8]; exact A_bN_7.lt
  have F0_8 := F0_7.ext E8
  have F1_8 := F1_7.ext E8
  have F2_8 := F2_7.ext E8
  have F3_8 := F3_7.ext E8
  have F4_8 := F4_7.ext E8
  have F5_8 := F5_7.ext E8
  have F6_8 := F6_7.ext E8
  have Ex_8 := Ex_7.ext E8
  have A_bA_8 := A_bA_7.ext E8
  have A_bS_8 := A_bS_7.ext E8
  have A_bN_8 := A_bN_7.ext E8
  have A_bF_8 : OwnAI Z h8 bF [(.int (0 : Int32)), (.int (0 : Int32))] := ⟨_, (Arv.new AA8 (by decide)).pad (pad_rep [] (.int (0 : Int32)) 2)⟩
  have Z8 := Nat.le_trans Z7 E8.1
  have g_bF : n0 ≤ bF := Nat.le_trans g_a (by omega)
  obtain ⟨T9, h9, X9, e9, W9, st9⟩ := putF X8 hx hZ hown (host := "") (Or.inl (hw _ (List.mem_of_getElem? (i := 16) rfl))) Via.refl e8 F3_8 Ex_8 (Or.inr ⟨(hw _ (List.mem_of_getElem? (i := 17) rfl)), rfl, hnm⟩) (hw _ (List.mem_of_getElem? (i := 1) rfl)) (ty := (.array .int)) (by decide) rfl rfl (g := (mkF m 29 #[.val (.ref a), .val (.int (2 : Int32)), .val (.int (2 : Int32))] [(.ref bF), (.ref a)])) rfl rfl (hb hby d1_29)
  have F0_9 := F0_8.other W9 (Or.inr (slot_ne (Or.inr (hw _ (List.mem_of_getElem? (i := 11) rfl))) (Or.inr (hw _ (List.mem_of_getElem? (i := 17) rfl))) (by decide) (t := (.array .int)) (t' := (.array .int)) (by decide) (by decide)))
  have F1_9 := F1_8.other W9 (Or.inr (slot_ne (Or.inr (hw _ (List.mem_of_getElem? (i := 13) rfl))) (Or.inr (hw _ (List.mem_of_getElem? (i := 17) rfl))) (by decide) (t := (.array .int)) (t' := (.array .int)) (by decide) (by decide)))
  have F2_9 := F2_8.other W9 (Or.inr (slot_ne (Or.inr (hw _ (List.mem_of_getElem? (i := 15) rfl))) (Or.inr (hw _ (List.mem_of_getElem? (i := 17) rfl))) (by decide) (t := (.array .int)) (t' := (.array .int)) (by decide) (by decide)))
  have F3_9 := F3_8.same W9
  have F4_9 := F4_8.other W9 (Or.inr (slot_ne (Or.inr (hw _ (List.mem_of_getElem? (i := 23) rfl))) (Or.inr (hw _ (List.mem_of_getElem? (i := 17) rfl))) (by decide) (t := (.array .int)) (t' := (.array .int)) (by decide) (by decide)))
  have F5_9 := F5_8.other W9 (Or.inr (slot_ne (Or.inl (hw _ (List.mem_of_getElem? (i := 30) rfl))) (Or.inr (hw _ (List.mem_of_getElem? (i := 17) rfl))) (by decide) (t := .int) (t' := (.array .int)) (by decide) (by decide)))
  have F6_9 := F6_8.other W9 (Or.inr (slot_ne (Or.inl (hw _ (List.mem_of_getElem? (i := 32) rfl))) (Or.inr (hw _ (List.mem_of_getElem? (i := 17) rfl))) (by decide) (t := .int) (t' := (.array .int)) (by decide) (by decide)))
  have Ex_9 := Ex_8.wr W9
  have A_bA_9 := A_bA_8.other W9 (own_ne (by omega))
  have A_bS_9 := A_bS_8.other W9 (own_ne (by omega))
  have A_bN_9 := A_bN_8.other W9 (own_ne (by omega))
  have A_bF_9 := A_bF_8.other W9 (own_ne (by omega))
  have N9 := Fr.snoc X9 N7 g_a
  have Z9 := Nat.le_trans Z8 (Keep.of_wr W9).1
  obtain ⟨T10, X10, e10, st10⟩ := getF X9 hx hZ hown (host := "") (Or.inl (hw _ (List.mem_of_getElem? (i := 16) rfl))) Via.refl e9 F3_9 (g := (mkF m 33 #[.val (.ref a), .val (.int (2 : Int32)), .val (.int (2 : Int32))] [(.ref a)])) rfl rfl (hb hby d1_33)
  obtain ⟨_, _, ⟨T11, L11, k11, n11⟩, -, X11, ⟨Lc11, hQ11, l11, y11, z11⟩, st11⟩ := Jvm.LawKit.callS X10 hx (y := (⟨"java/util/Arrays", "fill", "([II)V"⟩ : MethodName)) hown (mvT hZ (hw _ (List.mem_of_getElem? (i := 18) rfl))) (mvT hZ (hw _ (List.mem_of_getElem? (i := 19) rfl))) (mvT hZ (hw _ (List.mem_of_getElem? (i := 20) rfl))) (mvT hZ (hw _ (List.mem_of_getElem? (i := 21) rfl))) (by decide) (backOf (W := 0) (rm3 l Z a0 hw [] bF (-1 : Int32) _ _ h9 n0 Z9 A_bF_9 g_bF) hZ (hw _ (List.mem_of_getElem? (i := 21) rfl)) (hw _ (List.mem_of_getElem? (i := 20) rfl)) (by decide) (by decide)) (g := (mkF m 37 #[.val (.ref a), .val (.int (2 : Int32)), .val (.int (2 : Int32))] [(.int (-1 : Int32)), (.ref bF)])) rfl (by rw [hml]; rfl) (argsL := [(.ref bF), (.int (-1 : Int32))]) (rest := []) (lenOf pd_fill rfl) rfl (by show 2 * 0 + _ ≤ _; exact Nat.le_of_eq rfl) (hb hby d1_37) (fun _ _ => ⟨rfl, e10, (by decide : 4 + 0 ≤ _), (by decide : 8 + 0 ≤ _)⟩)
  dsimp only [Pt.U, Pt.locs, Pt.cells, Pt.slots] at X11 l11 y11 z11 st11 hQ11
  subst l11 y11 z11
  obtain ⟨rfl, N11q, K11, A_bF_11⟩ := hQ11
  have N11 := Fr.app N9 N11q
  have F0_11 := F0_9.keep K11 (ninS (own_ne (by omega)) nin0)
  have F1_11 := F1_9.keep K11 (ninS (own_ne (by omega)) nin0)
  have F2_11 := F2_9.keep K11 (ninS (own_ne (by omega)) nin0)
  have F3_11 := F3_9.keep K11 (ninS (own_ne (by omega)) nin0)
  have F4_11 := F4_9.keep K11 (ninS (own_ne (by omega)) nin0)
  have F5_11 := F5_9.keep K11 (ninS (own_ne (by omega)) nin0)
  have F6_11 := F6_9.keep K11 (ninS (own_ne (by omega)) nin0)
  have Ex_11 := Ex_9.keep K11
  have A_bA_11 := A_bA_9.keep K11 (ninS (own_ne (by omega)) nin0)
  have A_bS_11 := A_bS_9.keep K11 (ninS (own_ne (by omega)) nin0)
  have A_bN_11 := A_bN_9.keep K11 (ninS (own_ne (by omega)) nin0)
  have Z11 := Nat.le_trans Z9 K11.1
  obtain ⟨T12, h12, k12, X12, e12, E12, AA12, st12⟩ := newP X11 hx hZ (hw _ (List.mem_of_getElem? (i := 9) rfl)) rfl (g := (mkF m 42 #[.val (.ref a), .val (.int (2 : Int32)), .val (.int (2 : Int32))] [(.int (2 : Int32)), (.ref a)])) rfl (hb hby d1_42) rfl (by decide) (cap := 2) (by decide) (by decide) (by decide) (by decide)
  obtain ⟨bL, g12⟩ : ∃ z, z = T11.heap.size := ⟨_, rfl⟩
  rw [← g12] at AA12 st12
  have o_bL : @LT.lt Nat _ bF bL := by rw [g12]; exact A_bF_11.lt
  have F0_12 := F0_11.ext E12
  have F1_12 := F1_11.ext E12
  have F2_12 := F2_11.ext E12
  have F3_12 := F3_11.ext E12
  have F4_12 := F4_11.ext E12
  have F5_12 := F5_11.ext E12
  have F6_12 := F6_11.ext E12
  have Ex_12 := Ex_11.ext E12
  have A_bA_12 := A_bA_11.ext E12
  have A_bS_12 := A_bS_11.ext E12
  have A_bN_12 := A_bN_11.ext E12
  have A_bF_12 := A_bF_11.ext E12
  have A_bL_12 : OwnAI Z h12 bL [(.int (0 : Int32)), (.int (0 : Int32))] := ⟨_, (Arv.new AA12 (by decide)).pad (pad_rep [] (.int (0 : Int32)) 2)⟩
  have Z12 := Nat.le_trans Z11 E12.1
  have g_bL : n0 ≤ bL := Nat.le_trans g_a (by omega)
  obtain ⟨T13, h13, X13, e13, W13, st13⟩ := putF X12 hx hZ hown (host := "") (Or.inl (hw _ (List.mem_of_getElem? (i := 22) rfl))) Via.refl e12 F4_12 Ex_12 (Or.inr ⟨(hw _ (List.mem_of_getElem? (i := 23) rfl)), rfl, hnm⟩) (hw _ (List.mem_of_getElem? (i := 1) rfl)) (ty := (.array .int)) (by decide) rfl rfl (g := (mkF m 44 #[.val (.ref a), .val (.int (2 : Int32)), .val (.int (2 : Int32))] [(.ref bL), (.ref a)])) rfl rfl (hb hby d1_44)
  have F0_13 := F0_12.other W13 (Or.inr (slot_ne (Or.inr (hw _ (List.mem_of_getElem? (i := 11) rfl))) (Or.inr (hw _ (List.mem_of_getElem? (i := 23) rfl))) (by decide) (t := (.array .int)) (t' := (.array .int)) (by decide) (by decide)))
  have F1_13 := F1_12.other W13 (Or.inr (slot_ne (Or.inr (hw _ (List.mem_of_getElem? (i := 13) rfl))) (Or.inr (hw _ (List.mem_of_getElem? (i := 23) rfl))) (by decide) (t := (.array .int)) (t' := (.array .int)) (by decide) (by decide)))
  have F2_13 := F2_12.other W13 (Or.inr (slot_ne (Or.inr (hw _ (List.mem_of_getElem? (i := 15) rfl))) (Or.inr (hw _ (List.mem_of_getElem? (i := 23) rfl))) (by decide) (t := (.array .int)) (t' := (.array .int)) (by decide) (by decide)))
  have F3_13 := F3_12.other W13 (Or.inr (slot_ne (Or.inr (hw _ (List.mem_of_getElem? (i := 17) rfl))) (Or.inr (hw _ (List.mem_of_getElem? (i := 23) rfl))) (by decide) (t := (.array .int)) (t' := (.array .int)) (by decide) (by decide)))
  have F4_13 := F4_12.same W13
  have F5_13 := F5_12.other W13 (Or.inr (slot_ne (Or.inl (hw _ (List.mem_of_getElem? (i := 30) rfl))) (Or.inr (hw _ (List.mem_of_getElem? (i := 23) rfl))) (by decide) (t := .int) (t' := (.array .int)) (by decide) (by decide)))
  have F6_13 := F6_12.other W13 (Or.inr (slot_ne (Or.inl (hw _ (List.mem_of_getElem? (i := 32) rfl))) (Or.inr (hw _ (List.mem_of_getElem? (i := 23) rfl))) (by decide) (t := .int) (t' := (.array .int)) (by decide) (by decide)))
  have Ex_13 := Ex_12.wr W13
  have A_bA_13 := A_bA_12.other W13 (own_ne (by omega))
  have A_bS_13 := A_bS_12.other W13 (own_ne (by omega))
  have A_bN_13 := A_bN_12.other W13 (own_ne (by omega))
  have A_bF_13 := A_bF_12.other W13 (own_ne (by omega))
  have A_bL_13 := A_bL_12.other W13 (own_ne (by omega))
  have N13 := Fr.snoc X13 N11 g_a
  have Z13 := Nat.le_trans Z12 (Keep.of_wr W13).1
  obtain ⟨fs, hr, hrun, hended, hW, hsame⟩ := X13.leave (v := none) (fun _ => rfl)
  refine ⟨_, _, pre0 _ ?_, hrun, hended, _, _, rfl, ?_, ⟨_, rfl⟩, hW, hsame.mono (by decide) (by decide)⟩
  · show Steps p.tables e below (s₁.setTop (mkF m 0 #[.val (.ref a), .val (.int (2 : Int32)), .val (.int (2 : Int32))] [])) _
    refine XS.aloadN X0.here hx rfl (hb hby d1_0) rfl rfl ?_
    show Steps p.tables e below (s₁.setTop (mkF m 1 #[.val (.ref a), .val (.int (2 : Int32)), .val (.int (2 : Int32))] [(.ref a)])) _
    refine st1 _ ?_
    show Steps p.tables e below (T1.setTop (mkF m 4 #[.val (.ref a), .val (.int (2 : Int32)), .val (.int (2 : Int32))] [])) _
    refine XS.aloadN X1.here hx rfl (hb hby d1_4) rfl rfl ?_
    show Steps p.tables e below (T1.setTop (mkF m 5 #[.val (.ref a), .val (.int (2 : Int32)), .val (.int (2 : Int32))] [(.ref a)])) _
    refine XS.iloadN X1.here hx rfl (hb hby d1_5) rfl ?_
    show Steps p.tables e below (T1.setTop (mkF m 6 #[.val (.ref a), .val (.int (2 : Int32)), .val (.int (2 : Int32))] [(.int (2 : Int32)), (.ref a)])) _
    refine st2 _ ?_
    show Steps p.tables e below (T2.setTop (mkF m 8 #[.val (.ref a), .val (.int (2 : Int32)), .val (.int (2 : Int32))] [(.ref bA), (.ref a)])) _
    refine st3 _ ?_
    show Steps p.tables e below (T3.setTop (mkF m 11 #[.val (.ref a), .val (.int (2 : Int32)), .val (.int (2 : Int32))] [])) _
    refine XS.aloadN X3.here hx rfl (hb hby d1_11) rfl rfl ?_
    show Steps p.tables e below (T3.setTop (mkF m 12 #[.val (.ref a), .val (.int (2 : Int32)), .val (.int (2 : Int32))] [(.ref a)])) _
    refine XS.iloadN X3.here hx rfl (hb hby d1_12) rfl ?_
    show Steps p.tables e below (T3.setTop (mkF m 13 #[.val (.ref a), .val (.int (2 : Int32)), .val (.int (2 : Int32))] [(.int (2 : Int32)), (.ref a)])) _
    refine st4 _ ?_
    show Steps p.tables e below (T4.setTop (mkF m 15 #[.val (.ref a), .val (.int (2 : Int32)), .val (.int (2 : Int32))] [(.ref bS), (.ref a)])) _
    refine st5 _ ?_
    show Steps p.tables e below (T5.setTop (mkF m 18 #[.val (.ref a), .val (.int (2 : Int32)), .val (.int (2 : Int32))] [])) _
    refine XS.aloadN X5.here hx rfl (hb hby d1_18) rfl rfl ?_
    show Steps p.tables e below (T5.setTop (mkF m 19 #[.val (.ref a), .val (.int (2 : Int32)), .val (.int (2 : Int32))] [(.ref a)])) _
    refine XS.iloadN X5.here hx rfl (hb hby d1_19) rfl ?_
    show Steps p.tables e below (T5.setTop (mkF m 20 #[.val (.ref a), .val (.int (2 : Int32)), .val (.int (2 : Int32))] [(.int (2 : Int32)), (.ref a)])) _
    refine st6 _ ?_
    show Steps p.tables e below (T6.setTop (mkF m 22 #[.val (.ref a), .val (.int (2 : Int32)), .val (.int (2 : Int32))] [(.ref bN), (.ref a)])) _
    refine st7 _ ?_
    show Steps p.tables e below (T7.setTop (mkF m 25 #[.val (.ref a), .val (.int (2 : Int32)), .val (.int (2 : Int32))] [])) _
    refine XS.aloadN X7.here hx rfl (hb hby d1_25) rfl rfl ?_
    show Steps p.tables e below (T7.setTop (mkF m 26 #[.val (.ref a), .val (.int (2 : Int32)), .val (.int (2 : Int32))] [(.ref a)])) _
    refine XS.iloadN X7.here hx rfl (hb hby d1_26) rfl ?_
    show Steps p.tables e below (T7.setTop (mkF m 27 #[.val (.ref a), .val (.int (2 : Int32)), .val (.int (2 : Int32))] [(.int (2 : Int32)), (.ref a)])) _
    refine st8 _ ?_
    show Steps p.tables e below (T8.setTop (mkF m 29 #[.val (.ref a), .val (.int (2 : Int32)), .val (.int (2 : Int32))] [(.ref bF), (.ref a)])) _
    refine st9 _ ?_
    show Steps p.tables e below (T9.setTop (mkF m 32 #[.val (.ref a), .val (.int (2 : Int32)), .val (.int (2 : Int32))] [])) _
    refine XS.aloadN X9.here hx rfl (hb hby d1_32) rfl rfl ?_
    show Steps p.tables e below (T9.setTop (mkF m 33 #[.val (.ref a), .val (.int (2 : Int32)), .val (.int (2 : Int32))] [(.ref a)])) _
    refine st10 _ ?_
    show Steps p.tables e below (T10.setTop (mkF m 36 #[.val (.ref a), .val (.int (2 : Int32)), .val (.int (2 : Int32))] [(.ref bF)])) _
    refine XS.iconst X10.here hx rfl (hb hby d1_36) ?_
    show Steps p.tables e below (T10.setTop (mkF m 37 #[.val (.ref a), .val (.int (2 : Int32)), .val (.int (2 : Int32))] [(.int (-1 : Int32)), (.ref bF)])) _
    refine st11 _ ?_
    show Steps p.tables e below (T11.setTop (mkF m 40 #[.val (.ref a), .val (.int (2 : Int32)), .val (.int (2 : Int32))] [])) _
    refine XS.aloadN X11.here hx rfl (hb hby d1_40) rfl rfl ?_
    show Steps p.tables e below (T11.setTop (mkF m 41 #[.val (.ref a), .val (.int (2 : Int32)), .val (.int (2 : Int32))] [(.ref a)])) _
    refine XS.iloadN X11.here hx rfl (hb hby d1_41) rfl ?_
    show Steps p.tables e below (T11.setTop (mkF m 42 #[.val (.ref a), .val (.int (2 : Int32)), .val (.int (2 : Int32))] [(.int (2 : Int32)), (.ref a)])) _
    refine st12 _ ?_
    show Steps p.tables e below (T12.setTop (mkF m 44 #[.val (.ref a), .val (.int (2 : Int32)), .val (.int (2 : Int32))] [(.ref bL), (.ref a)])) _
    refine st13 _ ?_
    show Steps p.tables e below (T13.setTop (mkF m 47 #[.val (.ref a), .val (.int (2 : Int32)), .val (.int (2 : Int32))] [])) _
    exact X13.returnOut hx Bd.returns (hb hby d1_47) hr
  · show Q1 Z a h0 n0 _ T13.heap _
    rw [e13]
    exact ⟨rfl, N13, Z13, bA, bS, bN, bF, bL, ⟨o_bA, o_bS, o_bN, o_bF, o_bL⟩, Ex_13, F0_13, F1_13, F2_13, F3_13, F4_13, F5_13, F6_13, A_bA_13, A_bS_13, A_bN_13, A_bF_13, A_bL_13⟩
theorem d4_0 : decode prog_7_method_2_code 0 = .ok (.aload_n 0, 1) := by decide +kernel
theorem d4_1 : decode prog_7_method_2_code 1 = .ok (.getfield 7, 3) := by decide +kernel
theorem d4_4 : decode prog_7_method_2_code 4 = .ok (.aload_n 0, 1) := by decide +kernel
theorem d4_5 : decode prog_7_method_2_code 5 = .ok (.getfield 31, 3) := by decide +kernel
theorem d4_8 : decode prog_7_method_2_code 8 = .ok (.iload_n 1, 1) := by decide +kernel
theorem d4_9 : decode prog_7_method_2_code 9 = .ok (.iastore, 1) := by decide +kernel
theorem d4_10 : decode prog_7_method_2_code 10 = .ok (.aload_n 0, 1) := by decide +kernel
theorem d4_11 : decode prog_7_method_2_code 11 = .ok (.getfield 13, 3) := by decide +kernel
theorem d4_14 : decode prog_7_method_2_code 14 = .ok (.aload_n 0, 1) := by decide +kernel
theorem d4_15 : decode prog_7_method_2_code 15 = .ok (.getfield 31, 3) := by decide +kernel
theorem d4_18 : decode prog_7_method_2_code 18 = .ok (.iload_n 2, 1) := by decide +kernel
theorem d4_19 : decode prog_7_method_2_code 19 = .ok (.iastore, 1) := by decide +kernel
theorem d4_20 : decode prog_7_method_2_code 20 = .ok (.aload_n 0, 1) := by decide +kernel
theorem d4_21 : decode prog_7_method_2_code 21 = .ok (.getfield 16, 3) := by decide +kernel
theorem d4_24 : decode prog_7_method_2_code 24 = .ok (.aload_n 0, 1) := by decide +kernel
theorem d4_25 : decode prog_7_method_2_code 25 = .ok (.getfield 31, 3) := by decide +kernel
theorem d4_28 : decode prog_7_method_2_code 28 = .ok (.aload_n 0, 1) := by decide +kernel
theorem d4_29 : decode prog_7_method_2_code 29 = .ok (.getfield 19, 3) := by decide +kernel
theorem d4_32 : decode prog_7_method_2_code 32 = .ok (.iload_n 3, 1) := by decide +kernel
theorem d4_33 : decode prog_7_method_2_code 33 = .ok (.iaload, 1) := by decide +kernel
theorem d4_34 : decode prog_7_method_2_code 34 = .ok (.iastore, 1) := by decide +kernel
theorem d4_35 : decode prog_7_method_2_code 35 = .ok (.aload_n 0, 1) := by decide +kernel
theorem d4_36 : decode prog_7_method_2_code 36 = .ok (.getfield 19, 3) := by decide +kernel
theorem d4_39 : decode prog_7_method_2_code 39 = .ok (.iload_n 3, 1) := by decide +kernel
theorem d4_40 : decode prog_7_method_2_code 40 = .ok (.iaload, 1) := by decide +kernel
theorem d4_41 : decode prog_7_method_2_code 41 = .ok (.iconst (-1), 1) := by decide +kernel
theorem d4_42 : decode prog_7_method_2_code 42 = .ok (.if_icmp .ne 20, 3) := by decide +kernel
theorem d4_45 : decode prog_7_method_2_code 45 = .ok (.aload_n 0, 1) := by decide +kernel
theorem d4_46 : decode prog_7_method_2_code 46 = .ok (.getfield 28, 3) := by decide +kernel
theorem d4_49 : decode prog_7_method_2_code 49 = .ok (.aload_n 0, 1) := by decide +kernel
theorem d4_50 : decode prog_7_method_2_code 50 = .ok (.dup, 1) := by decide +kernel
theorem d4_51 : decode prog_7_method_2_code 51 = .ok (.getfield 35, 3) := by decide +kernel
theorem d4_54 : decode prog_7_method_2_code 54 = .ok (.dup_x1, 1) := by decide +kernel
theorem d4_55 : decode prog_7_method_2_code 55 = .ok (.iconst 1, 1) := by decide +kernel
theorem d4_56 : decode prog_7_method_2_code 56 = .ok (.iadd, 1) := by decide +kernel
theorem d4_57 : decode prog_7_method_2_code 57 = .ok (.putfield 35, 3) := by decide +kernel
theorem d4_60 : decode prog_7_method_2_code 60 = .ok (.iload_n 3, 1) := by decide +kernel
theorem d4_61 : decode prog_7_method_2_code 61 = .ok (.iastore, 1) := by decide +kernel
theorem d4_62 : decode prog_7_method_2_code 62 = .ok (.aload_n 0, 1) := by decide +kernel
theorem d4_63 : decode prog_7_method_2_code 63 = .ok (.getfield 19, 3) := by decide +kernel
theorem d4_66 : decode prog_7_method_2_code 66 = .ok (.iload_n 3, 1) := by decide +kernel
theorem d4_67 : decode prog_7_method_2_code 67 = .ok (.aload_n 0, 1) := by decide +kernel
theorem d4_68 : decode prog_7_method_2_code 68 = .ok (.getfield 31, 3) := by decide +kernel
theorem d4_71 : decode prog_7_method_2_code 71 = .ok (.iastore, 1) := by decide +kernel
theorem d4_72 : decode prog_7_method_2_code 72 = .ok (.aload_n 0, 1) := by decide +kernel
theorem d4_73 : decode prog_7_method_2_code 73 = .ok (.dup, 1) := by decide +kernel
theorem d4_74 : decode prog_7_method_2_code 74 = .ok (.getfield 31, 3) := by decide +kernel
theorem d4_77 : decode prog_7_method_2_code 77 = .ok (.iconst 1, 1) := by decide +kernel
theorem d4_78 : decode prog_7_method_2_code 78 = .ok (.iadd, 1) := by decide +kernel
theorem d4_79 : decode prog_7_method_2_code 79 = .ok (.putfield 31, 3) := by decide +kernel
theorem d4_82 : decode prog_7_method_2_code 82 = .ok (.return_, 1) := by decide +kernel
theorem pn_4 : plainName "com/example/meticulous_handshake/meticuloushandshake/bisimulation/ArcsByLabel" = true := by first | (simp [plainName, overriddenIn]; done) | decide +kernel
theorem pf_4 : plainFor (⟨"com/example/meticulous_handshake/meticuloushandshake/bisimulation/ArcsByLabel", "add", "(III)V"⟩ : MethodName) = true := plainFor_of_name pn_4
theorem ef_4 (m : MethodId) (x0 : Addr) (x1 : Int32) (x2 : Int32) (x3 : Int32) : entryFrame m #[(.ref x0), (.int x1), (.int x2), (.int x3)] 4 = mkF m 0 #[.val (.ref x0), .val (.int x1), .val (.int x2), .val (.int x3)] [] := by first | (simp [entryFrame, mkF, argsToLocals, Value.category, maxLocals]; done) | rfl
def Q4A (Z : State) (a bA bS bN bF bL : Addr) (arc src lab sz lc f : Int32) (vA vS vN vF vL : List Value) (si li ci : Nat) (h0 : Heap) (n0 : Nat) (v : Option Value) (h : Heap) (L : List Loc) : Prop := v = none ∧ Fr n0 L ∧ n0 ≤ h.size ∧ OwnObj Z h a bA bS bN bF bL (sz + (1 : Int32)) (lc + (1 : Int32)) (vA.set si (.int arc)) (vS.set si (.int src)) (vN.set si (.int f)) (vF.set li (.int sz)) (vL.set ci (.int lab))
set_option maxRecDepth 65536 in
set_option maxHeartbeats 40000000 in
theorem rm4A (l : Launch) (Z : State) (a0 : Array Value) (hw : ∀ d ∈ tables_1, d.before a0 Z = true) (ws : List Jvm.Cond) (a bA bS bN bF bL : Addr) (arc src lab sz lc f : Int32) (vA vS vN vF vL : List Value) (si li ci : Nat) (h0 : Heap) (n0 : Nat) (Z0 : n0 ≤ h0.size) (O : OwnObj Z h0 a bA bS bN bF bL sz lc vA vS vN vF vL) (od : OwnOrd a bA bS bN bF bL) (g_a : n0 ≤ a) (P1 : ¬ sz < 0 ∧ sz < 2) (P1' : sz.toNatClampNeg = si) (P2 : ¬ lab < 0 ∧ lab < 2) (P2' : lab.toNatClampNeg = li) (P3 : ¬ lc < 0 ∧ lc < 2) (P3' : lc.toNatClampNeg = ci) (ls : si < 2 ∧ li < 2 ∧ ci < 2 ∧ vA.length = 2 ∧ vS.length = 2 ∧ vN.length = 2 ∧ vF.length = 2 ∧ vL.length = 2) (hf : vF.getD li (.int (0 : Int32)) = .int f) (hroad : f = (-1 : Int32)) :
    MetFree l (⟨"com/example/meticulous_handshake/meticuloushandshake/bisimulation/ArcsByLabel", "add", "(III)V"⟩ : MethodName) (head1 (Jvm.Cond.code (⟨"com/example/meticulous_handshake/meticuloushandshake/bisimulation/ArcsByLabel", "add", "(III)V"⟩ : MethodName) prog_7_method_2_code 4 none :: ws) ({ frames := 0, cells := 0, slots := 0, locals := 0 } : Room)) (fun aA uU => aA = #[(.ref a), (.int arc), (.int src), (.int lab)] ∧ Z.Warmed39 uU.vm ∧ uU.heap = h0) (fun _ _ _ _ _ => True) (fun _ uU oO uV => ∃ vV lL, oO = .returned vV ∧ Q4A Z a bA bS bN bF bL arc src lab sz lc f vA vS vN vF vL si li ci h0 n0 vV uV.heap lL ∧ FrameEnd uU oO uV lL ({ frames := 0, cells := 0, slots := 0, locals := 0 } : Room).cells ({ frames := 0, cells := 0, slots := 0, locals := 0 } : Room).slots) := by
  refine MetFree.of_bodySF pf_4 hisR ?_
  intro p e s m args below meth c s₁ Bd hml0 hP hK
  obtain ⟨rfl, hZ, hh⟩ := hP
  have hx := Bd.exec
  have hby := Bd.bytes
  have hml : c.maxLocals = 4 := hml0
  have hown : s.vm.findClass "com/example/meticulous_handshake/meticuloushandshake/bisimulation/ArcsByLabel" = some m.cls := findClass_of_methodNamed Bd.named
  have hnm := (name_of_methodNamed Bd.named Bd.method).1
  have X0 : Stand p l e ({ frames := 0, cells := 0, slots := 0, locals := 0 } : Room) s m #[(.ref a), (.int arc), (.int src), (.int lab)] below meth c s₁ [] 0 0 := Stand.of_body Bd
  have e0 : s₁.heap = h0 := by rw [← hh, Bd.state]; rfl
  have N0 := Fr.nil n0
  have pre0 : ∀ t, Steps p.tables e below (s₁.setTop (mkF m 0 #[.val (.ref a), .val (.int arc), .val (.int src), .val (.int lab)] [])) t → Steps p.tables e below (s₁.setTop (entryFrame m #[(.ref a), (.int arc), (.int src), (.int lab)] 4)) t := fun t k => castTop (ef_4 m a arc src lab) k
  have od' := od
  unfold OwnOrd at od'
  obtain ⟨T1, X1, e1, st1⟩ := getF X0 hx hZ hown (host := "") (Or.inl (hw _ (List.mem_of_getElem? (i := 10) rfl))) Via.refl e0 O.2.1 (g := (mkF m 1 #[.val (.ref a), .val (.int arc), .val (.int src), .val (.int lab)] [(.ref a)])) rfl rfl (hb hby d4_1)
  obtain ⟨T2, X2, e2, st2⟩ := getF X1 hx hZ hown (host := "") (Or.inl (hw _ (List.mem_of_getElem? (i := 29) rfl))) Via.refl e1 O.2.2.2.2.2.2.1 (g := (mkF m 5 #[.val (.ref a), .val (.int arc), .val (.int src), .val (.int lab)] [(.ref a), (.ref bA)])) rfl rfl (hb hby d4_5)
  obtain ⟨kk3, cl3, Ar3, q3, S3, M3, H3, U3⟩ := O.2.2.2.2.2.2.2.2.1
  obtain ⟨T3, h3, X3, e3, W3, st3⟩ := stI X2 hx hZ e2 Ar3 (j := sz) (inb_of S3 P1) (g := (mkF m 9 #[.val (.ref a), .val (.int arc), .val (.int src), .val (.int lab)] [(.int arc), (.int sz), (.ref bA)])) rfl rfl (hb hby d4_9)
  have O3 := OwnObj.w0 O od W3 ⟨_, Arv.set Ar3 q3 S3 M3 H3 U3 rfl W3 si P1' (by omega)⟩
  have N3 := Fr.snoc X3 N0 (Nat.le_trans g_a (by omega))
  have Z3 := Nat.le_trans Z0 (Keep.of_wr W3).1
  obtain ⟨T4, X4, e4, st4⟩ := getF X3 hx hZ hown (host := "") (Or.inl (hw _ (List.mem_of_getElem? (i := 12) rfl))) Via.refl e3 O3.2.2.1 (g := (mkF m 11 #[.val (.ref a), .val (.int arc), .val (.int src), .val (.int lab)] [(.ref a)])) rfl rfl (hb hby d4_11)
  obtain ⟨T5, X5, e5, st5⟩ := getF X4 hx hZ hown (host := "") (Or.inl (hw _ (List.mem_of_getElem? (i := 29) rfl))) Via.refl e4 O3.2.2.2.2.2.2.1 (g := (mkF m 15 #[.val (.ref a), .val (.int arc), .val (.int src), .val (.int lab)] [(.ref a), (.ref bS)])) rfl rfl (hb hby d4_15)
  obtain ⟨kk6, cl6, Ar6, q6, S6, M6, H6, U6⟩ := O3.2.2.2.2.2.2.2.2.2.1
  obtain ⟨T6, h6, X6, e6, W6, st6⟩ := stI X5 hx hZ e5 Ar6 (j := sz) (inb_of S6 P1) (g := (mkF m 19 #[.val (.ref a), .val (.int arc), .val (.int src), .val (.int lab)] [(.int src), (.int sz), (.ref bS)])) rfl rfl (hb hby d4_19)
  have O6 := OwnObj.w1 O3 od W6 ⟨_, Arv.set Ar6 q6 S6 M6 H6 U6 rfl W6 si P1' (by omega)⟩
  have N6 := Fr.snoc X6 N3 (Nat.le_trans g_a (by omega))
  have Z6 := Nat.le_trans Z3 (Keep.of_wr W6).1
  obtain ⟨T7, X7, e7, st7⟩ := getF X6 hx hZ hown (host := "") (Or.inl (hw _ (List.mem_of_getElem? (i := 14) rfl))) Via.refl e6 O6.2.2.2.1 (g := (mkF m 21 #[.val (.ref a), .val (.int arc), .val (.int src), .val (.int lab)] [(.ref a)])) rfl rfl (hb hby d4_21)
  obtain ⟨T8, X8, e8, st8⟩ := getF X7 hx hZ hown (host := "") (Or.inl (hw _ (List.mem_of_getElem? (i := 29) rfl))) Via.refl e7 O6.2.2.2.2.2.2.1 (g := (mkF m 25 #[.val (.ref a), .val (.int arc), .val (.int src), .val (.int lab)] [(.ref a), (.ref bN)])) rfl rfl (hb hby d4_25)
  obtain ⟨T9, X9, e9, st9⟩ := getF X8 hx hZ hown (host := "") (Or.inl (hw _ (List.mem_of_getElem? (i := 16) rfl))) Via.refl e8 O6.2.2.2.2.1 (g := (mkF m 29 #[.val (.ref a), .val (.int arc), .val (.int src), .val (.int lab)] [(.ref a), (.int sz), (.ref bN)])) rfl rfl (hb hby d4_29)
  obtain ⟨kF10, cl10, Ar10, -, S10, M10, H10, -⟩ := O6.2.2.2.2.2.2.2.2.2.2.2.1
  obtain ⟨kk11, cl11, Ar11, q11, S11, M11, H11, U11⟩ := O6.2.2.2.2.2.2.2.2.2.2.1
  obtain ⟨T11, h11, X11, e11, W11, st11⟩ := stI X9 hx hZ e9 Ar11 (j := sz) (inb_of S11 P1) (g := (mkF m 34 #[.val (.ref a), .val (.int arc), .val (.int src), .val (.int lab)] [(.int f), (.int sz), (.ref bN)])) rfl rfl (hb hby d4_34)
  have O11 := OwnObj.w2 O6 od W11 ⟨_, Arv.set Ar11 q11 S11 M11 H11 U11 rfl W11 si P1' (by omega)⟩
  have N11 := Fr.snoc X11 N6 (Nat.le_trans g_a (by omega))
  have Z11 := Nat.le_trans Z6 (Keep.of_wr W11).1
  obtain ⟨T12, X12, e12, st12⟩ := getF X11 hx hZ hown (host := "") (Or.inl (hw _ (List.mem_of_getElem? (i := 16) rfl))) Via.refl e11 O11.2.2.2.2.1 (g := (mkF m 36 #[.val (.ref a), .val (.int arc), .val (.int src), .val (.int lab)] [(.ref a)])) rfl rfl (hb hby d4_36)
  obtain ⟨kF13, cl13, Ar13, -, S13, M13, H13, -⟩ := O11.2.2.2.2.2.2.2.2.2.2.2.1
  obtain ⟨T14, X14, e14, st14⟩ := getF X12 hx hZ hown (host := "") (Or.inl (hw _ (List.mem_of_getElem? (i := 22) rfl))) Via.refl e12 O11.2.2.2.2.2.1 (g := (mkF m 46 #[.val (.ref a), .val (.int arc), .val (.int src), .val (.int lab)] [(.ref a)])) rfl rfl (hb hby d4_46)
  obtain ⟨T15, X15, e15, st15⟩ := getF X14 hx hZ hown (host := "") (Or.inl (hw _ (List.mem_of_getElem? (i := 31) rfl))) Via.refl e14 O11.2.2.2.2.2.2.2.1 (g := (mkF m 51 #[.val (.ref a), .val (.int arc), .val (.int src), .val (.int lab)] [(.ref a), (.ref a), (.ref bL)])) rfl rfl (hb hby d4_51)
  obtain ⟨T16, h16, X16, e16, W16, st16⟩ := putF X15 hx hZ hown (host := "") (Or.inl (hw _ (List.mem_of_getElem? (i := 31) rfl))) Via.refl e15 O11.2.2.2.2.2.2.2.1 O11.1 (Or.inl (hw _ (List.mem_of_getElem? (i := 32) rfl))) (hw _ (List.mem_of_getElem? (i := 1) rfl)) (ty := .int) (by decide) rfl rfl (g := (mkF m 57 #[.val (.ref a), .val (.int arc), .val (.int src), .val (.int lab)] [(.int (lc + (1 : Int32))), (.ref a), (.int lc), (.ref bL)])) rfl rfl (hb hby d4_57)
  have O16 := OwnObj.p6 hw O11 od W16
  have N16 := Fr.snoc X16 N11 g_a
  have Z16 := Nat.le_trans Z11 (Keep.of_wr W16).1
  obtain ⟨kk17, cl17, Ar17, q17, S17, M17, H17, U17⟩ := O16.2.2.2.2.2.2.2.2.2.2.2.2
  obtain ⟨T17, h17, X17, e17, W17, st17⟩ := stI X16 hx hZ e16 Ar17 (j := lc) (inb_of S17 P3) (g := (mkF m 61 #[.val (.ref a), .val (.int arc), .val (.int src), .val (.int lab)] [(.int lab), (.int lc), (.ref bL)])) rfl rfl (hb hby d4_61)
  have O17 := OwnObj.w4 O16 od W17 ⟨_, Arv.set Ar17 q17 S17 M17 H17 U17 rfl W17 ci P3' (by omega)⟩
  have N17 := Fr.snoc X17 N16 (Nat.le_trans g_a (by omega))
  have Z17 := Nat.le_trans Z16 (Keep.of_wr W17).1
  obtain ⟨T18, X18, e18, st18⟩ := getF X17 hx hZ hown (host := "") (Or.inl (hw _ (List.mem_of_getElem? (i := 16) rfl))) Via.refl e17 O17.2.2.2.2.1 (g := (mkF m 63 #[.val (.ref a), .val (.int arc), .val (.int src), .val (.int lab)] [(.ref a)])) rfl rfl (hb hby d4_63)
  obtain ⟨T19, X19, e19, st19⟩ := getF X18 hx hZ hown (host := "") (Or.inl (hw _ (List.mem_of_getElem? (i := 29) rfl))) Via.refl e18 O17.2.2.2.2.2.2.1 (g := (mkF m 68 #[.val (.ref a), .val (.int arc), .val (.int src), .val (.int lab)] [(.ref a), (.int lab), (.ref bF)])) rfl rfl (hb hby d4_68)
  obtain ⟨kk20, cl20, Ar20, q20, S20, M20, H20, U20⟩ := O17.2.2.2.2.2.2.2.2.2.2.2.1
  obtain ⟨T20, h20, X20, e20, W20, st20⟩ := stI X19 hx hZ e19 Ar20 (j := lab) (inb_of S20 P2) (g := (mkF m 71 #[.val (.ref a), .val (.int arc), .val (.int src), .val (.int lab)] [(.int sz), (.int lab), (.ref bF)])) rfl rfl (hb hby d4_71)
  have O20 := OwnObj.w3 O17 od W20 ⟨_, Arv.set Ar20 q20 S20 M20 H20 U20 rfl W20 li P2' (by omega)⟩
  have N20 := Fr.snoc X20 N17 (Nat.le_trans g_a (by omega))
  have Z20 := Nat.le_trans Z17 (Keep.of_wr W20).1
  obtain ⟨T21, X21, e21, st21⟩ := getF X20 hx hZ hown (host := "") (Or.inl (hw _ (List.mem_of_getElem? (i := 29) rfl))) Via.refl e20 O20.2.2.2.2.2.2.1 (g := (mkF m 74 #[.val (.ref a), .val (.int arc), .val (.int src), .val (.int lab)] [(.ref a), (.ref a)])) rfl rfl (hb hby d4_74)
  obtain ⟨T22, h22, X22, e22, W22, st22⟩ := putF X21 hx hZ hown (host := "") (Or.inl (hw _ (List.mem_of_getElem? (i := 29) rfl))) Via.refl e21 O20.2.2.2.2.2.2.1 O20.1 (Or.inl (hw _ (List.mem_of_getElem? (i := 30) rfl))) (hw _ (List.mem_of_getElem? (i := 1) rfl)) (ty := .int) (by decide) rfl rfl (g := (mkF m 79 #[.val (.ref a), .val (.int arc), .val (.int src), .val (.int lab)] [(.int (sz + (1 : Int32))), (.ref a)])) rfl rfl (hb hby d4_79)
  have O22 := OwnObj.p5 hw O20 od W22
  have N22 := Fr.snoc X22 N20 g_a
  have Z22 := Nat.le_trans Z20 (Keep.of_wr W22).1
  obtain ⟨fs, hr, hrun, hended, hW, hsame⟩ := X22.leave (v := none) (fun _ => rfl)
  refine ⟨_, _, pre0 _ ?_, hrun, hended, _, _, rfl, ?_, ⟨_, rfl⟩, hW, hsame.mono (by decide) (by decide)⟩
  · show Steps p.tables e below (s₁.setTop (mkF m 0 #[.val (.ref a), .val (.int arc), .val (.int src), .val (.int lab)] [])) _
    refine XS.aloadN X0.here hx rfl (hb hby d4_0) rfl rfl ?_
    show Steps p.tables e below (s₁.setTop (mkF m 1 #[.val (.ref a), .val (.int arc), .val (.int src), .val (.int lab)] [(.ref a)])) _
    refine st1 _ ?_
    show Steps p.tables e below (T1.setTop (mkF m 4 #[.val (.ref a), .val (.int arc), .val (.int src), .val (.int lab)] [(.ref bA)])) _
    refine XS.aloadN X1.here hx rfl (hb hby d4_4) rfl rfl ?_
    show Steps p.tables e below (T1.setTop (mkF m 5 #[.val (.ref a), .val (.int arc), .val (.int src), .val (.int lab)] [(.ref a), (.ref bA)])) _
    refine st2 _ ?_
    show Steps p.tables e below (T2.setTop (mkF m 8 #[.val (.ref a), .val (.int arc), .val (.int src), .val (.int lab)] [(.int sz), (.ref bA)])) _
    refine XS.iloadN X2.here hx rfl (hb hby d4_8) rfl ?_
    show Steps p.tables e below (T2.setTop (mkF m 9 #[.val (.ref a), .val (.int arc), .val (.int src), .val (.int lab)] [(.int arc), (.int sz), (.ref bA)])) _
    refine st3 _ ?_
    show Steps p.tables e below (T3.setTop (mkF m 10 #[.val (.ref a), .val (.int arc), .val (.int src), .val (.int lab)] [])) _
    refine XS.aloadN X3.here hx rfl (hb hby d4_10) rfl rfl ?_
    show Steps p.tables e below (T3.setTop (mkF m 11 #[.val (.ref a), .val (.int arc), .val (.int src), .val (.int lab)] [(.ref a)])) _
    refine st4 _ ?_
    show Steps p.tables e below (T4.setTop (mkF m 14 #[.val (.ref a), .val (.int arc), .val (.int src), .val (.int lab)] [(.ref bS)])) _
    refine XS.aloadN X4.here hx rfl (hb hby d4_14) rfl rfl ?_
    show Steps p.tables e below (T4.setTop (mkF m 15 #[.val (.ref a), .val (.int arc), .val (.int src), .val (.int lab)] [(.ref a), (.ref bS)])) _
    refine st5 _ ?_
    show Steps p.tables e below (T5.setTop (mkF m 18 #[.val (.ref a), .val (.int arc), .val (.int src), .val (.int lab)] [(.int sz), (.ref bS)])) _
    refine XS.iloadN X5.here hx rfl (hb hby d4_18) rfl ?_
    show Steps p.tables e below (T5.setTop (mkF m 19 #[.val (.ref a), .val (.int arc), .val (.int src), .val (.int lab)] [(.int src), (.int sz), (.ref bS)])) _
    refine st6 _ ?_
    show Steps p.tables e below (T6.setTop (mkF m 20 #[.val (.ref a), .val (.int arc), .val (.int src), .val (.int lab)] [])) _
    refine XS.aloadN X6.here hx rfl (hb hby d4_20) rfl rfl ?_
    show Steps p.tables e below (T6.setTop (mkF m 21 #[.val (.ref a), .val (.int arc), .val (.int src), .val (.int lab)] [(.ref a)])) _
    refine st7 _ ?_
    show Steps p.tables e below (T7.setTop (mkF m 24 #[.val (.ref a), .val (.int arc), .val (.int src), .val (.int lab)] [(.ref bN)])) _
    refine XS.aloadN X7.here hx rfl (hb hby d4_24) rfl rfl ?_
    show Steps p.tables e below (T7.setTop (mkF m 25 #[.val (.ref a), .val (.int arc), .val (.int src), .val (.int lab)] [(.ref a), (.ref bN)])) _
    refine st8 _ ?_
    show Steps p.tables e below (T8.setTop (mkF m 28 #[.val (.ref a), .val (.int arc), .val (.int src), .val (.int lab)] [(.int sz), (.ref bN)])) _
    refine XS.aloadN X8.here hx rfl (hb hby d4_28) rfl rfl ?_
    show Steps p.tables e below (T8.setTop (mkF m 29 #[.val (.ref a), .val (.int arc), .val (.int src), .val (.int lab)] [(.ref a), (.int sz), (.ref bN)])) _
    refine st9 _ ?_
    show Steps p.tables e below (T9.setTop (mkF m 32 #[.val (.ref a), .val (.int arc), .val (.int src), .val (.int lab)] [(.ref bF), (.int sz), (.ref bN)])) _
    refine XS.iloadN X9.here hx rfl (hb hby d4_32) rfl ?_
    show Steps p.tables e below (T9.setTop (mkF m 33 #[.val (.ref a), .val (.int arc), .val (.int src), .val (.int lab)] [(.int lab), (.ref bF), (.int sz), (.ref bN)])) _
    refine X9.iaload hx (j := lab) (v := (.int f)) (by rw [e9]; exact Ar10.1) (State.isArrayOf_alike hZ.alike Ar10.2.1) Ar10.2.2 (inb_of S10 P2) (Has.at H10 (inb_of S10 P2) (by rw [P2']; exact hf)) (g := (mkF m 33 #[.val (.ref a), .val (.int arc), .val (.int src), .val (.int lab)] [(.int lab), (.ref bF), (.int sz), (.ref bN)])) rfl rfl (hb hby d4_33) _ ?_
    show Steps p.tables e below (T9.setTop (mkF m 34 #[.val (.ref a), .val (.int arc), .val (.int src), .val (.int lab)] [(.int f), (.int sz), (.ref bN)])) _
    refine st11 _ ?_
    show Steps p.tables e below (T11.setTop (mkF m 35 #[.val (.ref a), .val (.int arc), .val (.int src), .val (.int lab)] [])) _
    refine XS.aloadN X11.here hx rfl (hb hby d4_35) rfl rfl ?_
    show Steps p.tables e below (T11.setTop (mkF m 36 #[.val (.ref a), .val (.int arc), .val (.int src), .val (.int lab)] [(.ref a)])) _
    refine st12 _ ?_
    show Steps p.tables e below (T12.setTop (mkF m 39 #[.val (.ref a), .val (.int arc), .val (.int src), .val (.int lab)] [(.ref bF)])) _
    refine XS.iloadN X12.here hx rfl (hb hby d4_39) rfl ?_
    show Steps p.tables e below (T12.setTop (mkF m 40 #[.val (.ref a), .val (.int arc), .val (.int src), .val (.int lab)] [(.int lab), (.ref bF)])) _
    refine X12.iaload hx (j := lab) (v := (.int f)) (by rw [e12]; exact Ar13.1) (State.isArrayOf_alike hZ.alike Ar13.2.1) Ar13.2.2 (inb_of S13 P2) (Has.at H13 (inb_of S13 P2) (by rw [P2']; exact hf)) (g := (mkF m 40 #[.val (.ref a), .val (.int arc), .val (.int src), .val (.int lab)] [(.int lab), (.ref bF)])) rfl rfl (hb hby d4_40) _ ?_
    show Steps p.tables e below (T12.setTop (mkF m 41 #[.val (.ref a), .val (.int arc), .val (.int src), .val (.int lab)] [(.int f)])) _
    refine XS.iconst X12.here hx rfl (hb hby d4_41) ?_
    show Steps p.tables e below (T12.setTop (mkF m 42 #[.val (.ref a), .val (.int arc), .val (.int src), .val (.int lab)] [(.int (-1 : Int32)), (.int f)])) _
    refine XS.icmpNo X12.here hx rfl (hb hby d4_42) rfl (teq (hroad : f = (-1 : Int32))).2 ?_
    show Steps p.tables e below (T12.setTop (mkF m 45 #[.val (.ref a), .val (.int arc), .val (.int src), .val (.int lab)] [])) _
    refine XS.aloadN X12.here hx rfl (hb hby d4_45) rfl rfl ?_
    show Steps p.tables e below (T12.setTop (mkF m 46 #[.val (.ref a), .val (.int arc), .val (.int src), .val (.int lab)] [(.ref a)])) _
    refine st14 _ ?_
    show Steps p.tables e below (T14.setTop (mkF m 49 #[.val (.ref a), .val (.int arc), .val (.int src), .val (.int lab)] [(.ref bL)])) _
    refine XS.aloadN X14.here hx rfl (hb hby d4_49) rfl rfl ?_
    show Steps p.tables e below (T14.setTop (mkF m 50 #[.val (.ref a), .val (.int arc), .val (.int src), .val (.int lab)] [(.ref a), (.ref bL)])) _
    refine XS.dup X14.here hx rfl (hb hby d4_50) rfl rfl ?_
    show Steps p.tables e below (T14.setTop (mkF m 51 #[.val (.ref a), .val (.int arc), .val (.int src), .val (.int lab)] [(.ref a), (.ref a), (.ref bL)])) _
    refine st15 _ ?_
    show Steps p.tables e below (T15.setTop (mkF m 54 #[.val (.ref a), .val (.int arc), .val (.int src), .val (.int lab)] [(.int lc), (.ref a), (.ref bL)])) _
    refine XS.dupX1 X15.here hx rfl (hb hby d4_54) rfl rfl rfl ?_
    show Steps p.tables e below (T15.setTop (mkF m 55 #[.val (.ref a), .val (.int arc), .val (.int src), .val (.int lab)] [(.int lc), (.ref a), (.int lc), (.ref bL)])) _
    refine XS.iconst X15.here hx rfl (hb hby d4_55) ?_
    show Steps p.tables e below (T15.setTop (mkF m 56 #[.val (.ref a), .val (.int arc), .val (.int src), .val (.int lab)] [(.int (1 : Int32)), (.int lc), (.ref a), (.int lc), (.ref bL)])) _
    refine XS.iadd X15.here hx rfl (hb hby d4_56) rfl ?_
    show Steps p.tables e below (T15.setTop (mkF m 57 #[.val (.ref a), .val (.int arc), .val (.int src), .val (.int lab)] [(.int (lc + (1 : Int32))), (.ref a), (.int lc), (.ref bL)])) _
    refine st16 _ ?_
    show Steps p.tables e below (T16.setTop (mkF m 60 #[.val (.ref a), .val (.int arc), .val (.int src), .val (.int lab)] [(.int lc), (.ref bL)])) _
    refine XS.iloadN X16.here hx rfl (hb hby d4_60) rfl ?_
    show Steps p.tables e below (T16.setTop (mkF m 61 #[.val (.ref a), .val (.int arc), .val (.int src), .val (.int lab)] [(.int lab), (.int lc), (.ref bL)])) _
    refine st17 _ ?_
    show Steps p.tables e below (T17.setTop (mkF m 62 #[.val (.ref a), .val (.int arc), .val (.int src), .val (.int lab)] [])) _
    refine XS.aloadN X17.here hx rfl (hb hby d4_62) rfl rfl ?_
    show Steps p.tables e below (T17.setTop (mkF m 63 #[.val (.ref a), .val (.int arc), .val (.int src), .val (.int lab)] [(.ref a)])) _
    refine st18 _ ?_
    show Steps p.tables e below (T18.setTop (mkF m 66 #[.val (.ref a), .val (.int arc), .val (.int src), .val (.int lab)] [(.ref bF)])) _
    refine XS.iloadN X18.here hx rfl (hb hby d4_66) rfl ?_
    show Steps p.tables e below (T18.setTop (mkF m 67 #[.val (.ref a), .val (.int arc), .val (.int src), .val (.int lab)] [(.int lab), (.ref bF)])) _
    refine XS.aloadN X18.here hx rfl (hb hby d4_67) rfl rfl ?_
    show Steps p.tables e below (T18.setTop (mkF m 68 #[.val (.ref a), .val (.int arc), .val (.int src), .val (.int lab)] [(.ref a), (.int lab), (.ref bF)])) _
    refine st19 _ ?_
    show Steps p.tables e below (T19.setTop (mkF m 71 #[.val (.ref a), .val (.int arc), .val (.int src), .val (.int lab)] [(.int sz), (.int lab), (.ref bF)])) _
    refine st20 _ ?_
    show Steps p.tables e below (T20.setTop (mkF m 72 #[.val (.ref a), .val (.int arc), .val (.int src), .val (.int lab)] [])) _
    refine XS.aloadN X20.here hx rfl (hb hby d4_72) rfl rfl ?_
    show Steps p.tables e below (T20.setTop (mkF m 73 #[.val (.ref a), .val (.int arc), .val (.int src), .val (.int lab)] [(.ref a)])) _
    refine XS.dup X20.here hx rfl (hb hby d4_73) rfl rfl ?_
    show Steps p.tables e below (T20.setTop (mkF m 74 #[.val (.ref a), .val (.int arc), .val (.int src), .val (.int lab)] [(.ref a), (.ref a)])) _
    refine st21 _ ?_
    show Steps p.tables e below (T21.setTop (mkF m 77 #[.val (.ref a), .val (.int arc), .val (.int src), .val (.int lab)] [(.int sz), (.ref a)])) _
    refine XS.iconst X21.here hx rfl (hb hby d4_77) ?_
    show Steps p.tables e below (T21.setTop (mkF m 78 #[.val (.ref a), .val (.int arc), .val (.int src), .val (.int lab)] [(.int (1 : Int32)), (.int sz), (.ref a)])) _
    refine XS.iadd X21.here hx rfl (hb hby d4_78) rfl ?_
    show Steps p.tables e below (T21.setTop (mkF m 79 #[.val (.ref a), .val (.int arc), .val (.int src), .val (.int lab)] [(.int (sz + (1 : Int32))), (.ref a)])) _
    refine st22 _ ?_
    show Steps p.tables e below (T22.setTop (mkF m 82 #[.val (.ref a), .val (.int arc), .val (.int src), .val (.int lab)] [])) _
    exact X22.returnOut hx Bd.returns (hb hby d4_82) hr
  · show Q4A Z a bA bS bN bF bL arc src lab sz lc f vA vS vN vF vL si li ci h0 n0 _ T22.heap _
    rw [e22]
    exact ⟨rfl, N22, Z22, O22⟩
def Q4B (Z : State) (a bA bS bN bF bL : Addr) (arc src lab sz lc f : Int32) (vA vS vN vF vL : List Value) (si li ci : Nat) (h0 : Heap) (n0 : Nat) (v : Option Value) (h : Heap) (L : List Loc) : Prop := v = none ∧ Fr n0 L ∧ n0 ≤ h.size ∧ OwnObj Z h a bA bS bN bF bL (sz + (1 : Int32)) lc (vA.set si (.int arc)) (vS.set si (.int src)) (vN.set si (.int f)) (vF.set li (.int sz)) vL
set_option maxRecDepth 65536 in
set_option maxHeartbeats 40000000 in
theorem rm4B (l : Launch) (Z : State) (a0 : Array Value) (hw : ∀ d ∈ tables_1, d.before a0 Z = true) (ws : List Jvm.Cond) (a bA bS bN bF bL : Addr) (arc src lab sz lc f : Int32) (vA vS vN vF vL : List Value) (si li ci : Nat) (h0 : Heap) (n0 : Nat) (Z0 : n0 ≤ h0.size) (O : OwnObj Z h0 a bA bS bN bF bL sz lc vA vS vN vF vL) (od : OwnOrd a bA bS bN bF bL) (g_a : n0 ≤ a) (P1 : ¬ sz < 0 ∧ sz < 2) (P1' : sz.toNatClampNeg = si) (P2 : ¬ lab < 0 ∧ lab < 2) (P2' : lab.toNatClampNeg = li) (P3 : ¬ lc < 0 ∧ lc < 2) (P3' : lc.toNatClampNeg = ci) (ls : si < 2 ∧ li < 2 ∧ ci < 2 ∧ vA.length = 2 ∧ vS.length = 2 ∧ vN.length = 2 ∧ vF.length = 2 ∧ vL.length = 2) (hf : vF.getD li (.int (0 : Int32)) = .int f) (hroad : ¬ (f = (-1 : Int32))) :
    MetFree l (⟨"com/example/meticulous_handshake/meticuloushandshake/bisimulation/ArcsByLabel", "add", "(III)V"⟩ : MethodName) (head1 (Jvm.Cond.code (⟨"com/example/meticulous_handshake/meticuloushandshake/bisimulation/ArcsByLabel", "add", "(III)V"⟩ : MethodName) prog_7_method_2_code 4 none :: ws) ({ frames := 0, cells := 0, slots := 0, locals := 0 } : Room)) (fun aA uU => aA = #[(.ref a), (.int arc), (.int src), (.int lab)] ∧ Z.Warmed39 uU.vm ∧ uU.heap = h0) (fun _ _ _ _ _ => True) (fun _ uU oO uV => ∃ vV lL, oO = .returned vV ∧ Q4B Z a bA bS bN bF bL arc src lab sz lc f vA vS vN vF vL si li ci h0 n0 vV uV.heap lL ∧ FrameEnd uU oO uV lL ({ frames := 0, cells := 0, slots := 0, locals := 0 } : Room).cells ({ frames := 0, cells := 0, slots := 0, locals := 0 } : Room).slots) := by
  refine MetFree.of_bodySF pf_4 hisR ?_
  intro p e s m args below meth c s₁ Bd hml0 hP hK
  obtain ⟨rfl, hZ, hh⟩ := hP
  have hx := Bd.exec
  have hby := Bd.bytes
  have hml : c.maxLocals = 4 := hml0
  have hown : s.vm.findClass "com/example/meticulous_handshake/meticuloushandshake/bisimulation/ArcsByLabel" = some m.cls := findClass_of_methodNamed Bd.named
  have hnm := (name_of_methodNamed Bd.named Bd.method).1
  have X0 : Stand p l e ({ frames := 0, cells := 0, slots := 0, locals := 0 } : Room) s m #[(.ref a), (.int arc), (.int src), (.int lab)] below meth c s₁ [] 0 0 := Stand.of_body Bd
  have e0 : s₁.heap = h0 := by rw [← hh, Bd.state]; rfl
  have N0 := Fr.nil n0
  have pre0 : ∀ t, Steps p.tables e below (s₁.setTop (mkF m 0 #[.val (.ref a), .val (.int arc), .val (.int src), .val (.int lab)] [])) t → Steps p.tables e below (s₁.setTop (entryFrame m #[(.ref a), (.int arc), (.int src), (.int lab)] 4)) t := fun t k => castTop (ef_4 m a arc src lab) k
  have od' := od
  unfold OwnOrd at od'
  obtain ⟨T1, X1, e1, st1⟩ := getF X0 hx hZ hown (host := "") (Or.inl (hw _ (List.mem_of_getElem? (i := 10) rfl))) Via.refl e0 O.2.1 (g := (mkF m 1 #[.val (.ref a), .val (.int arc), .val (.int src), .val (.int lab)] [(.ref a)])) rfl rfl (hb hby d4_1)
  obtain ⟨T2, X2, e2, st2⟩ := getF X1 hx hZ hown (host := "") (Or.inl (hw _ (List.mem_of_getElem? (i := 29) rfl))) Via.refl e1 O.2.2.2.2.2.2.1 (g := (mkF m 5 #[.val (.ref a), .val (.int arc), .val (.int src), .val (.int lab)] [(.ref a), (.ref bA)])) rfl rfl (hb hby d4_5)
  obtain ⟨kk3, cl3, Ar3, q3, S3, M3, H3, U3⟩ := O.2.2.2.2.2.2.2.2.1
  obtain ⟨T3, h3, X3, e3, W3, st3⟩ := stI X2 hx hZ e2 Ar3 (j := sz) (inb_of S3 P1) (g := (mkF m 9 #[.val (.ref a), .val (.int arc), .val (.int src), .val (.int lab)] [(.int arc), (.int sz), (.ref bA)])) rfl rfl (hb hby d4_9)
  have O3 := OwnObj.w0 O od W3 ⟨_, Arv.set Ar3 q3 S3 M3 H3 U3 rfl W3 si P1' (by omega)⟩
  have N3 := Fr.snoc X3 N0 (Nat.le_trans g_a (by omega))
  have Z3 := Nat.le_trans Z0 (Keep.of_wr W3).1
  obtain ⟨T4, X4, e4, st4⟩ := getF X3 hx hZ hown (host := "") (Or.inl (hw _ (List.mem_of_getElem? (i := 12) rfl))) Via.refl e3 O3.2.2.1 (g := (mkF m 11 #[.val (.ref a), .val (.int arc), .val (.int src), .val (.int lab)] [(.ref a)])) rfl rfl (hb hby d4_11)
  obtain ⟨T5, X5, e5, st5⟩ := getF X4 hx hZ hown (host := "") (Or.inl (hw _ (List.mem_of_getElem? (i := 29) rfl))) Via.refl e4 O3.2.2.2.2.2.2.1 (g := (mkF m 15 #[.val (.ref a), .val (.int arc), .val (.int src), .val (.int lab)] [(.ref a), (.ref bS)])) rfl rfl (hb hby d4_15)
  obtain ⟨kk6, cl6, Ar6, q6, S6, M6, H6, U6⟩ := O3.2.2.2.2.2.2.2.2.2.1
  obtain ⟨T6, h6, X6, e6, W6, st6⟩ := stI X5 hx hZ e5 Ar6 (j := sz) (inb_of S6 P1) (g := (mkF m 19 #[.val (.ref a), .val (.int arc), .val (.int src), .val (.int lab)] [(.int src), (.int sz), (.ref bS)])) rfl rfl (hb hby d4_19)
  have O6 := OwnObj.w1 O3 od W6 ⟨_, Arv.set Ar6 q6 S6 M6 H6 U6 rfl W6 si P1' (by omega)⟩
  have N6 := Fr.snoc X6 N3 (Nat.le_trans g_a (by omega))
  have Z6 := Nat.le_trans Z3 (Keep.of_wr W6).1
  obtain ⟨T7, X7, e7, st7⟩ := getF X6 hx hZ hown (host := "") (Or.inl (hw _ (List.mem_of_getElem? (i := 14) rfl))) Via.refl e6 O6.2.2.2.1 (g := (mkF m 21 #[.val (.ref a), .val (.int arc), .val (.int src), .val (.int lab)] [(.ref a)])) rfl rfl (hb hby d4_21)
  obtain ⟨T8, X8, e8, st8⟩ := getF X7 hx hZ hown (host := "") (Or.inl (hw _ (List.mem_of_getElem? (i := 29) rfl))) Via.refl e7 O6.2.2.2.2.2.2.1 (g := (mkF m 25 #[.val (.ref a), .val (.int arc), .val (.int src), .val (.int lab)] [(.ref a), (.ref bN)])) rfl rfl (hb hby d4_25)
  obtain ⟨T9, X9, e9, st9⟩ := getF X8 hx hZ hown (host := "") (Or.inl (hw _ (List.mem_of_getElem? (i := 16) rfl))) Via.refl e8 O6.2.2.2.2.1 (g := (mkF m 29 #[.val (.ref a), .val (.int arc), .val (.int src), .val (.int lab)] [(.ref a), (.int sz), (.ref bN)])) rfl rfl (hb hby d4_29)
  obtain ⟨kF10, cl10, Ar10, -, S10, M10, H10, -⟩ := O6.2.2.2.2.2.2.2.2.2.2.2.1
  obtain ⟨kk11, cl11, Ar11, q11, S11, M11, H11, U11⟩ := O6.2.2.2.2.2.2.2.2.2.2.1
  obtain ⟨T11, h11, X11, e11, W11, st11⟩ := stI X9 hx hZ e9 Ar11 (j := sz) (inb_of S11 P1) (g := (mkF m 34 #[.val (.ref a), .val (.int arc), .val (.int src), .val (.int lab)] [(.int f), (.int sz), (.ref bN)])) rfl rfl (hb hby d4_34)
  have O11 := OwnObj.w2 O6 od W11 ⟨_, Arv.set Ar11 q11 S11 M11 H11 U11 rfl W11 si P1' (by omega)⟩
  have N11 := Fr.snoc X11 N6 (Nat.le_trans g_a (by omega))
  have Z11 := Nat.le_trans Z6 (Keep.of_wr W11).1
  obtain ⟨T12, X12, e12, st12⟩ := getF X11 hx hZ hown (host := "") (Or.inl (hw _ (List.mem_of_getElem? (i := 16) rfl))) Via.refl e11 O11.2.2.2.2.1 (g := (mkF m 36 #[.val (.ref a), .val (.int arc), .val (.int src), .val (.int lab)] [(.ref a)])) rfl rfl (hb hby d4_36)
  obtain ⟨kF13, cl13, Ar13, -, S13, M13, H13, -⟩ := O11.2.2.2.2.2.2.2.2.2.2.2.1
  obtain ⟨T14, X14, e14, st14⟩ := getF X12 hx hZ hown (host := "") (Or.inl (hw _ (List.mem_of_getElem? (i := 16) rfl))) Via.refl e12 O11.2.2.2.2.1 (g := (mkF m 63 #[.val (.ref a), .val (.int arc), .val (.int src), .val (.int lab)] [(.ref a)])) rfl rfl (hb hby d4_63)
  obtain ⟨T15, X15, e15, st15⟩ := getF X14 hx hZ hown (host := "") (Or.inl (hw _ (List.mem_of_getElem? (i := 29) rfl))) Via.refl e14 O11.2.2.2.2.2.2.1 (g := (mkF m 68 #[.val (.ref a), .val (.int arc), .val (.int src), .val (.int lab)] [(.ref a), (.int lab), (.ref bF)])) rfl rfl (hb hby d4_68)
  obtain ⟨kk16, cl16, Ar16, q16, S16, M16, H16, U16⟩ := O11.2.2.2.2.2.2.2.2.2.2.2.1
  obtain ⟨T16, h16, X16, e16, W16, st16⟩ := stI X15 hx hZ e15 Ar16 (j := lab) (inb_of S16 P2) (g := (mkF m 71 #[.val (.ref a), .val (.int arc), .val (.int src), .val (.int lab)] [(.int sz), (.int lab), (.ref bF)])) rfl rfl (hb hby d4_71)
  have O16 := OwnObj.w3 O11 od W16 ⟨_, Arv.set Ar16 q16 S16 M16 H16 U16 rfl W16 li P2' (by omega)⟩
  have N16 := Fr.snoc X16 N11 (Nat.le_trans g_a (by omega))
  have Z16 := Nat.le_trans Z11 (Keep.of_wr W16).1
  obtain ⟨T17, X17, e17, st17⟩ := getF X16 hx hZ hown (host := "") (Or.inl (hw _ (List.mem_of_getElem? (i := 29) rfl))) Via.refl e16 O16.2.2.2.2.2.2.1 (g := (mkF m 74 #[.val (.ref a), .val (.int arc), .val (.int src), .val (.int lab)] [(.ref a), (.ref a)])) rfl rfl (hb hby d4_74)
  obtain ⟨T18, h18, X18, e18, W18, st18⟩ := putF X17 hx hZ hown (host := "") (Or.inl (hw _ (List.mem_of_getElem? (i := 29) rfl))) Via.refl e17 O16.2.2.2.2.2.2.1 O16.1 (Or.inl (hw _ (List.mem_of_getElem? (i := 30) rfl))) (hw _ (List.mem_of_getElem? (i := 1) rfl)) (ty := .int) (by decide) rfl rfl (g := (mkF m 79 #[.val (.ref a), .val (.int arc), .val (.int src), .val (.int lab)] [(.int (sz + (1 : Int32))), (.ref a)])) rfl rfl (hb hby d4_79)
  have O18 := OwnObj.p5 hw O16 od W18
  have N18 := Fr.snoc X18 N16 g_a
  have Z18 := Nat.le_trans Z16 (Keep.of_wr W18).1
  obtain ⟨fs, hr, hrun, hended, hW, hsame⟩ := X18.leave (v := none) (fun _ => rfl)
  refine ⟨_, _, pre0 _ ?_, hrun, hended, _, _, rfl, ?_, ⟨_, rfl⟩, hW, hsame.mono (by decide) (by decide)⟩
  · show Steps p.tables e below (s₁.setTop (mkF m 0 #[.val (.ref a), .val (.int arc), .val (.int src), .val (.int lab)] [])) _
    refine XS.aloadN X0.here hx rfl (hb hby d4_0) rfl rfl ?_
    show Steps p.tables e below (s₁.setTop (mkF m 1 #[.val (.ref a), .val (.int arc), .val (.int src), .val (.int lab)] [(.ref a)])) _
    refine st1 _ ?_
    show Steps p.tables e below (T1.setTop (mkF m 4 #[.val (.ref a), .val (.int arc), .val (.int src), .val (.int lab)] [(.ref bA)])) _
    refine XS.aloadN X1.here hx rfl (hb hby d4_4) rfl rfl ?_
    show Steps p.tables e below (T1.setTop (mkF m 5 #[.val (.ref a), .val (.int arc), .val (.int src), .val (.int lab)] [(.ref a), (.ref bA)])) _
    refine st2 _ ?_
    show Steps p.tables e below (T2.setTop (mkF m 8 #[.val (.ref a), .val (.int arc), .val (.int src), .val (.int lab)] [(.int sz), (.ref bA)])) _
    refine XS.iloadN X2.here hx rfl (hb hby d4_8) rfl ?_
    show Steps p.tables e below (T2.setTop (mkF m 9 #[.val (.ref a), .val (.int arc), .val (.int src), .val (.int lab)] [(.int arc), (.int sz), (.ref bA)])) _
    refine st3 _ ?_
    show Steps p.tables e below (T3.setTop (mkF m 10 #[.val (.ref a), .val (.int arc), .val (.int src), .val (.int lab)] [])) _
    refine XS.aloadN X3.here hx rfl (hb hby d4_10) rfl rfl ?_
    show Steps p.tables e below (T3.setTop (mkF m 11 #[.val (.ref a), .val (.int arc), .val (.int src), .val (.int lab)] [(.ref a)])) _
    refine st4 _ ?_
    show Steps p.tables e below (T4.setTop (mkF m 14 #[.val (.ref a), .val (.int arc), .val (.int src), .val (.int lab)] [(.ref bS)])) _
    refine XS.aloadN X4.here hx rfl (hb hby d4_14) rfl rfl ?_
    show Steps p.tables e below (T4.setTop (mkF m 15 #[.val (.ref a), .val (.int arc), .val (.int src), .val (.int lab)] [(.ref a), (.ref bS)])) _
    refine st5 _ ?_
    show Steps p.tables e below (T5.setTop (mkF m 18 #[.val (.ref a), .val (.int arc), .val (.int src), .val (.int lab)] [(.int sz), (.ref bS)])) _
    refine XS.iloadN X5.here hx rfl (hb hby d4_18) rfl ?_
    show Steps p.tables e below (T5.setTop (mkF m 19 #[.val (.ref a), .val (.int arc), .val (.int src), .val (.int lab)] [(.int src), (.int sz), (.ref bS)])) _
    refine st6 _ ?_
    show Steps p.tables e below (T6.setTop (mkF m 20 #[.val (.ref a), .val (.int arc), .val (.int src), .val (.int lab)] [])) _
    refine XS.aloadN X6.here hx rfl (hb hby d4_20) rfl rfl ?_
    show Steps p.tables e below (T6.setTop (mkF m 21 #[.val (.ref a), .val (.int arc), .val (.int src), .val (.int lab)] [(.ref a)])) _
    refine st7 _ ?_
    show Steps p.tables e below (T7.setTop (mkF m 24 #[.val (.ref a), .val (.int arc), .val (.int src), .val (.int lab)] [(.ref bN)])) _
    refine XS.aloadN X7.here hx rfl (hb hby d4_24) rfl rfl ?_
    show Steps p.tables e below (T7.setTop (mkF m 25 #[.val (.ref a), .val (.int arc), .val (.int src), .val (.int lab)] [(.ref a), (.ref bN)])) _
    refine st8 _ ?_
    show Steps p.tables e below (T8.setTop (mkF m 28 #[.val (.ref a), .val (.int arc), .val (.int src), .val (.int lab)] [(.int sz), (.ref bN)])) _
    refine XS.aloadN X8.here hx rfl (hb hby d4_28) rfl rfl ?_
    show Steps p.tables e below (T8.setTop (mkF m 29 #[.val (.ref a), .val (.int arc), .val (.int src), .val (.int lab)] [(.ref a), (.int sz), (.ref bN)])) _
    refine st9 _ ?_
    show Steps p.tables e below (T9.setTop (mkF m 32 #[.val (.ref a), .val (.int arc), .val (.int src), .val (.int lab)] [(.ref bF), (.int sz), (.ref bN)])) _
    refine XS.iloadN X9.here hx rfl (hb hby d4_32) rfl ?_
    show Steps p.tables e below (T9.setTop (mkF m 33 #[.val (.ref a), .val (.int arc), .val (.int src), .val (.int lab)] [(.int lab), (.ref bF), (.int sz), (.ref bN)])) _
    refine X9.iaload hx (j := lab) (v := (.int f)) (by rw [e9]; exact Ar10.1) (State.isArrayOf_alike hZ.alike Ar10.2.1) Ar10.2.2 (inb_of S10 P2) (Has.at H10 (inb_of S10 P2) (by rw [P2']; exact hf)) (g := (mkF m 33 #[.val (.ref a), .val (.int arc), .val (.int src), .val (.int lab)] [(.int lab), (.ref bF), (.int sz), (.ref bN)])) rfl rfl (hb hby d4_33) _ ?_
    show Steps p.tables e below (T9.setTop (mkF m 34 #[.val (.ref a), .val (.int arc), .val (.int src), .val (.int lab)] [(.int f), (.int sz), (.ref bN)])) _
    refine st11 _ ?_
    show Steps p.tables e below (T11.setTop (mkF m 35 #[.val (.ref a), .val (.int arc), .val (.int src), .val (.int lab)] [])) _
    refine XS.aloadN X11.here hx rfl (hb hby d4_35) rfl rfl ?_
    show Steps p.tables e below (T11.setTop (mkF m 36 #[.val (.ref a), .val (.int arc), .val (.int src), .val (.int lab)] [(.ref a)])) _
    refine st12 _ ?_
    show Steps p.tables e below (T12.setTop (mkF m 39 #[.val (.ref a), .val (.int arc), .val (.int src), .val (.int lab)] [(.ref bF)])) _
    refine XS.iloadN X12.here hx rfl (hb hby d4_39) rfl ?_
    show Steps p.tables e below (T12.setTop (mkF m 40 #[.val (.ref a), .val (.int arc), .val (.int src), .val (.int lab)] [(.int lab), (.ref bF)])) _
    refine X12.iaload hx (j := lab) (v := (.int f)) (by rw [e12]; exact Ar13.1) (State.isArrayOf_alike hZ.alike Ar13.2.1) Ar13.2.2 (inb_of S13 P2) (Has.at H13 (inb_of S13 P2) (by rw [P2']; exact hf)) (g := (mkF m 40 #[.val (.ref a), .val (.int arc), .val (.int src), .val (.int lab)] [(.int lab), (.ref bF)])) rfl rfl (hb hby d4_40) _ ?_
    show Steps p.tables e below (T12.setTop (mkF m 41 #[.val (.ref a), .val (.int arc), .val (.int src), .val (.int lab)] [(.int f)])) _
    refine XS.iconst X12.here hx rfl (hb hby d4_41) ?_
    show Steps p.tables e below (T12.setTop (mkF m 42 #[.val (.ref a), .val (.int arc), .val (.int src), .val (.int lab)] [(.int (-1 : Int32)), (.int f)])) _
    refine XS.icmpYes X12.here hx rfl (pc0 := 42) (pc' := 62) rfl (hb hby d4_42) rfl (feq (hroad : ¬ (f = (-1 : Int32)))).2 (by decide) (by decide) ?_
    show Steps p.tables e below (T12.setTop (mkF m 62 #[.val (.ref a), .val (.int arc), .val (.int src), .val (.int lab)] [])) _
    refine XS.aloadN X12.here hx rfl (hb hby d4_62) rfl rfl ?_
    show Steps p.tables e below (T12.setTop (mkF m 63 #[.val (.ref a), .val (.int arc), .val (.int src), .val (.int lab)] [(.ref a)])) _
    refine st14 _ ?_
    show Steps p.tables e below (T14.setTop (mkF m 66 #[.val (.ref a), .val (.int arc), .val (.int src), .val (.int lab)] [(.ref bF)])) _
    refine XS.iloadN X14.here hx rfl (hb hby d4_66) rfl ?_
    show Steps p.tables e below (T14.setTop (mkF m 67 #[.val (.ref a), .val (.int arc), .val (.int src), .val (.int lab)] [(.int lab), (.ref bF)])) _
    refine XS.aloadN X14.here hx rfl (hb hby d4_67) rfl rfl ?_
    show Steps p.tables e below (T14.setTop (mkF m 68 #[.val (.ref a), .val (.int arc), .val (.int src), .val (.int lab)] [(.ref a), (.int lab), (.ref bF)])) _
    refine st15 _ ?_
    show Steps p.tables e below (T15.setTop (mkF m 71 #[.val (.ref a), .val (.int arc), .val (.int src), .val (.int lab)] [(.int sz), (.int lab), (.ref bF)])) _
    refine st16 _ ?_
    show Steps p.tables e below (T16.setTop (mkF m 72 #[.val (.ref a), .val (.int arc), .val (.int src), .val (.int lab)] [])) _
    refine XS.aloadN X16.here hx rfl (hb hby d4_72) rfl rfl ?_
    show Steps p.tables e below (T16.setTop (mkF m 73 #[.val (.ref a), .val (.int arc), .val (.int src), .val (.int lab)] [(.ref a)])) _
    refine XS.dup X16.here hx rfl (hb hby d4_73) rfl rfl ?_
    show Steps p.tables e below (T16.setTop (mkF m 74 #[.val (.ref a), .val (.int arc), .val (.int src), .val (.int lab)] [(.ref a), (.ref a)])) _
    refine st17 _ ?_
    show Steps p.tables e below (T17.setTop (mkF m 77 #[.val (.ref a), .val (.int arc), .val (.int src), .val (.int lab)] [(.int sz), (.ref a)])) _
    refine XS.iconst X17.here hx rfl (hb hby d4_77) ?_
    show Steps p.tables e below (T17.setTop (mkF m 78 #[.val (.ref a), .val (.int arc), .val (.int src), .val (.int lab)] [(.int (1 : Int32)), (.int sz), (.ref a)])) _
    refine XS.iadd X17.here hx rfl (hb hby d4_78) rfl ?_
    show Steps p.tables e below (T17.setTop (mkF m 79 #[.val (.ref a), .val (.int arc), .val (.int src), .val (.int lab)] [(.int (sz + (1 : Int32))), (.ref a)])) _
    refine st18 _ ?_
    show Steps p.tables e below (T18.setTop (mkF m 82 #[.val (.ref a), .val (.int arc), .val (.int src), .val (.int lab)] [])) _
    exact X18.returnOut hx Bd.returns (hb hby d4_82) hr
  · show Q4B Z a bA bS bN bF bL arc src lab sz lc f vA vS vN vF vL si li ci h0 n0 _ T18.heap _
    rw [e18]
    exact ⟨rfl, N18, Z18, O18⟩
theorem d5_0 : decode prog_7_method_4_code 0 = .ok (.aload_n 0, 1) := by decide +kernel
theorem d5_1 : decode prog_7_method_4_code 1 = .ok (.getfield 35, 3) := by decide +kernel
theorem d5_4 : decode prog_7_method_4_code 4 = .ok (.ireturn, 1) := by decide +kernel
theorem pn_5 : plainName "com/example/meticulous_handshake/meticuloushandshake/bisimulation/ArcsByLabel" = true := by first | (simp [plainName, overriddenIn]; done) | decide +kernel
theorem pf_5 : plainFor (⟨"com/example/meticulous_handshake/meticuloushandshake/bisimulation/ArcsByLabel", "labelCount", "()I"⟩ : MethodName) = true := plainFor_of_name pn_5
theorem ef_5 (m : MethodId) (x0 : Addr) : entryFrame m #[(.ref x0)] 1 = mkF m 0 #[.val (.ref x0)] [] := by first | (simp [entryFrame, mkF, argsToLocals, Value.category, maxLocals]; done) | rfl
def Q5 (x : Int32) (h0 : Heap) (n0 : Nat) (v : Option Value) (h : Heap) (L : List Loc) : Prop := v = some (.int x) ∧ Fr n0 L ∧ h = h0
set_option maxRecDepth 65536 in
set_option maxHeartbeats 40000000 in
theorem rm5 (l : Launch) (Z : State) (a0 : Array Value) (hw : ∀ d ∈ tables_1, d.before a0 Z = true) (ws : List Jvm.Cond) (a : Addr) (x : Int32) (h0 : Heap) (n0 : Nat) (Z0 : n0 ≤ h0.size) (F : Fld Z h0 a "com/example/meticulous_handshake/meticuloushandshake/bisimulation/ArcsByLabel" "labelCount" "I" (.int x)) :
    MetFree l (⟨"com/example/meticulous_handshake/meticuloushandshake/bisimulation/ArcsByLabel", "labelCount", "()I"⟩ : MethodName) (head1 (Jvm.Cond.code (⟨"com/example/meticulous_handshake/meticuloushandshake/bisimulation/ArcsByLabel", "labelCount", "()I"⟩ : MethodName) prog_7_method_4_code 1 (some .int) :: ws) ({ frames := 0, cells := 0, slots := 0, locals := 0 } : Room)) (fun aA uU => aA = #[(.ref a)] ∧ Z.Warmed39 uU.vm ∧ uU.heap = h0) (fun _ _ _ _ _ => True) (fun _ uU oO uV => ∃ vV lL, oO = .returned vV ∧ Q5 x h0 n0 vV uV.heap lL ∧ FrameEnd uU oO uV lL ({ frames := 0, cells := 0, slots := 0, locals := 0 } : Room).cells ({ frames := 0, cells := 0, slots := 0, locals := 0 } : Room).slots) := by
  refine MetFree.of_bodySF pf_5 hisR ?_
  intro p e s m args below meth c s₁ Bd hml0 hP hK
  obtain ⟨rfl, hZ, hh⟩ := hP
  have hx := Bd.exec
  have hby := Bd.bytes
  have hml : c.maxLocals = 1 := hml0
  have hown : s.vm.findClass "com/example/meticulous_handshake/meticuloushandshake/bisimulation/ArcsByLabel" = some m.cls := findClass_of_methodNamed Bd.named
  have hnm := (name_of_methodNamed Bd.named Bd.method).1
  have X0 : Stand p l e ({ frames := 0, cells := 0, slots := 0, locals := 0 } : Room) s m #[(.ref a)] below meth c s₁ [] 0 0 := Stand.of_body Bd
  have e0 : s₁.heap = h0 := by rw [← hh, Bd.state]; rfl
  have N0 := Fr.nil n0
  have pre0 : ∀ t, Steps p.tables e below (s₁.setTop (mkF m 0 #[.val (.ref a)] [])) t → Steps p.tables e below (s₁.setTop (entryFrame m #[(.ref a)] 1)) t := fun t k => castTop (ef_5 m a) k
  obtain ⟨T1, X1, e1, st1⟩ := getF X0 hx hZ hown (host := "") (Or.inl (hw _ (List.mem_of_getElem? (i := 31) rfl))) Via.refl e0 F (g := (mkF m 1 #[.val (.ref a)] [(.ref a)])) rfl rfl (hb hby d5_1)
  obtain ⟨fs, hr, hrun, hended, hW, hsame⟩ := X1.leave (v := some (.int x)) (fun h => by rw [Bd.returns] at h; cases h)
  refine ⟨_, _, pre0 _ ?_, hrun, hended, _, _, rfl, ?_, ⟨_, rfl⟩, hW, hsame.mono (by decide) (by decide)⟩
  · show Steps p.tables e below (s₁.setTop (mkF m 0 #[.val (.ref a)] [])) _
    refine XS.aloadN X0.here hx rfl (hb hby d5_0) rfl rfl ?_
    show Steps p.tables e below (s₁.setTop (mkF m 1 #[.val (.ref a)] [(.ref a)])) _
    refine st1 _ ?_
    show Steps p.tables e below (T1.setTop (mkF m 4 #[.val (.ref a)] [(.int x)])) _
    exact retI X1 hx Bd.returns (hb hby d5_4) hr
  · show Q5 x h0 n0 _ T1.heap _
    rw [e1]
    exact ⟨rfl, N0, rfl⟩
theorem d6_0 : decode prog_7_method_5_code 0 = .ok (.aload_n 0, 1) := by decide +kernel
theorem d6_1 : decode prog_7_method_5_code 1 = .ok (.getfield 28, 3) := by decide +kernel
theorem d6_4 : decode prog_7_method_5_code 4 = .ok (.iload_n 1, 1) := by decide +kernel
theorem d6_5 : decode prog_7_method_5_code 5 = .ok (.iaload, 1) := by decide +kernel
theorem d6_6 : decode prog_7_method_5_code 6 = .ok (.ireturn, 1) := by decide +kernel
theorem pn_6 : plainName "com/example/meticulous_handshake/meticuloushandshake/bisimulation/ArcsByLabel" = true := by first | (simp [plainName, overriddenIn]; done) | decide +kernel
theorem pf_6 : plainFor (⟨"com/example/meticulous_handshake/meticuloushandshake/bisimulation/ArcsByLabel", "label", "(I)I"⟩ : MethodName) = true := plainFor_of_name pn_6
theorem ef_6 (m : MethodId) (x0 : Addr) (x1 : Int32) : entryFrame m #[(.ref x0), (.int x1)] 2 = mkF m 0 #[.val (.ref x0), .val (.int x1)] [] := by first | (simp [entryFrame, mkF, argsToLocals, Value.category, maxLocals]; done) | rfl
def Q6 (x : Int32) (h0 : Heap) (n0 : Nat) (v : Option Value) (h : Heap) (L : List Loc) : Prop := v = some (.int x) ∧ Fr n0 L ∧ h = h0
set_option maxRecDepth 65536 in
set_option maxHeartbeats 40000000 in
theorem rm6 (l : Launch) (Z : State) (a0 : Array Value) (hw : ∀ d ∈ tables_1, d.before a0 Z = true) (ws : List Jvm.Cond) (a : Addr) (i : Int32) (b : Addr) (vs : List Value) (ii : Nat) (x : Int32) (h0 : Heap) (n0 : Nat) (Z0 : n0 ≤ h0.size) (F : Fld Z h0 a "com/example/meticulous_handshake/meticuloushandshake/bisimulation/ArcsByLabel" "labels" "[I" (.ref b)) (A : OwnAI Z h0 b vs) (P : ¬ i < 0 ∧ i < 2) (P' : i.toNatClampNeg = ii) (hv : vs.getD ii (.int (0 : Int32)) = .int x) :
    MetFree l (⟨"com/example/meticulous_handshake/meticuloushandshake/bisimulation/ArcsByLabel", "label", "(I)I"⟩ : MethodName) (head1 (Jvm.Cond.code (⟨"com/example/meticulous_handshake/meticuloushandshake/bisimulation/ArcsByLabel", "label", "(I)I"⟩ : MethodName) prog_7_method_5_code 2 (some .int) :: ws) ({ frames := 0, cells := 0, slots := 0, locals := 0 } : Room)) (fun aA uU => aA = #[(.ref a), (.int i)] ∧ Z.Warmed39 uU.vm ∧ uU.heap = h0) (fun _ _ _ _ _ => True) (fun _ uU oO uV => ∃ vV lL, oO = .returned vV ∧ Q6 x h0 n0 vV uV.heap lL ∧ FrameEnd uU oO uV lL ({ frames := 0, cells := 0, slots := 0, locals := 0 } : Room).cells ({ frames := 0, cells := 0, slots := 0, locals := 0 } : Room).slots) := by
  refine MetFree.of_bodySF pf_6 hisR ?_
  intro p e s m args below meth c s₁ Bd hml0 hP hK
  obtain ⟨rfl, hZ, hh⟩ := hP
  have hx := Bd.exec
  have hby := Bd.bytes
  have hml : c.maxLocals = 2 := hml0
  have hown : s.vm.findClass "com/example/meticulous_handshake/meticuloushandshake/bisimulation/ArcsByLabel" = some m.cls := findClass_of_methodNamed Bd.named
  have hnm := (name_of_methodNamed Bd.named Bd.method).1
  have X0 : Stand p l e ({ frames := 0, cells := 0, slots := 0, locals := 0 } : Room) s m #[(.ref a), (.int i)] below meth c s₁ [] 0 0 := Stand.of_body Bd
  have e0 : s₁.heap = h0 := by rw [← hh, Bd.state]; rfl
  have N0 := Fr.nil n0
  have pre0 : ∀ t, Steps p.tables e below (s₁.setTop (mkF m 0 #[.val (.ref a), .val (.int i)] [])) t → Steps p.tables e below (s₁.setTop (entryFrame m #[(.ref a), (.int i)] 2)) t := fun t k => castTop (ef_6 m a i) k
  obtain ⟨ka, cl, Ar, -, S, M, H, -⟩ := A
  obtain ⟨T1, X1, e1, st1⟩ := getF X0 hx hZ hown (host := "") (Or.inl (hw _ (List.mem_of_getElem? (i := 22) rfl))) Via.refl e0 F (g := (mkF m 1 #[.val (.ref a), .val (.int i)] [(.ref a)])) rfl rfl (hb hby d6_1)
  obtain ⟨fs, hr, hrun, hended, hW, hsame⟩ := X1.leave (v := some (.int x)) (fun h => by rw [Bd.returns] at h; cases h)
  refine ⟨_, _, pre0 _ ?_, hrun, hended, _, _, rfl, ?_, ⟨_, rfl⟩, hW, hsame.mono (by decide) (by decide)⟩
  · show Steps p.tables e below (s₁.setTop (mkF m 0 #[.val (.ref a), .val (.int i)] [])) _
    refine XS.aloadN X0.here hx rfl (hb hby d6_0) rfl rfl ?_
    show Steps p.tables e below (s₁.setTop (mkF m 1 #[.val (.ref a), .val (.int i)] [(.ref a)])) _
    refine st1 _ ?_
    show Steps p.tables e below (T1.setTop (mkF m 4 #[.val (.ref a), .val (.int i)] [(.ref b)])) _
    refine XS.iloadN X1.here hx rfl (hb hby d6_4) rfl ?_
    show Steps p.tables e below (T1.setTop (mkF m 5 #[.val (.ref a), .val (.int i)] [(.int i), (.ref b)])) _
    refine X1.iaload hx (j := i) (v := (.int x)) (by rw [e1]; exact Ar.1) (State.isArrayOf_alike hZ.alike Ar.2.1) Ar.2.2 (inb_of S P) (Has.at H (inb_of S P) (by rw [P']; exact hv)) (g := (mkF m 5 #[.val (.ref a), .val (.int i)] [(.int i), (.ref b)])) rfl rfl (hb hby d6_5) _ ?_
    show Steps p.tables e below (T1.setTop (mkF m 6 #[.val (.ref a), .val (.int i)] [(.int x)])) _
    exact retI X1 hx Bd.returns (hb hby d6_6) hr
  · show Q6 x h0 n0 _ T1.heap _
    rw [e1]
    exact ⟨rfl, N0, rfl⟩
theorem d7_0 : decode prog_7_method_6_code 0 = .ok (.aload_n 0, 1) := by decide +kernel
theorem d7_1 : decode prog_7_method_6_code 1 = .ok (.getfield 19, 3) := by decide +kernel
theorem d7_4 : decode prog_7_method_6_code 4 = .ok (.iload_n 1, 1) := by decide +kernel
theorem d7_5 : decode prog_7_method_6_code 5 = .ok (.iaload, 1) := by decide +kernel
theorem d7_6 : decode prog_7_method_6_code 6 = .ok (.ireturn, 1) := by decide +kernel
theorem pn_7 : plainName "com/example/meticulous_handshake/meticuloushandshake/bisimulation/ArcsByLabel" = true := by first | (simp [plainName, overriddenIn]; done) | decide +kernel
theorem pf_7 : plainFor (⟨"com/example/meticulous_handshake/meticuloushandshake/bisimulation/ArcsByLabel", "first", "(I)I"⟩ : MethodName) = true := plainFor_of_name pn_7
theorem ef_7 (m : MethodId) (x0 : Addr) (x1 : Int32) : entryFrame m #[(.ref x0), (.int x1)] 2 = mkF m 0 #[.val (.ref x0), .val (.int x1)] [] := by first | (simp [entryFrame, mkF, argsToLocals, Value.category, maxLocals]; done) | rfl
def Q7 (x : Int32) (h0 : Heap) (n0 : Nat) (v : Option Value) (h : Heap) (L : List Loc) : Prop := v = some (.int x) ∧ Fr n0 L ∧ h = h0
set_option maxRecDepth 65536 in
set_option maxHeartbeats 40000000 in
theorem rm7 (l : Launch) (Z : State) (a0 : Array Value) (hw : ∀ d ∈ tables_1, d.before a0 Z = true) (ws : List Jvm.Cond) (a : Addr) (i : Int32) (b : Addr) (vs : List Value) (ii : Nat) (x : Int32) (h0 : Heap) (n0 : Nat) (Z0 : n0 ≤ h0.size) (F : Fld Z h0 a "com/example/meticulous_handshake/meticuloushandshake/bisimulation/ArcsByLabel" "firsts" "[I" (.ref b)) (A : OwnAI Z h0 b vs) (P : ¬ i < 0 ∧ i < 2) (P' : i.toNatClampNeg = ii) (hv : vs.getD ii (.int (0 : Int32)) = .int x) :
    MetFree l (⟨"com/example/meticulous_handshake/meticuloushandshake/bisimulation/ArcsByLabel", "first", "(I)I"⟩ : MethodName) (head1 (Jvm.Cond.code (⟨"com/example/meticulous_handshake/meticuloushandshake/bisimulation/ArcsByLabel", "first", "(I)I"⟩ : MethodName) prog_7_method_6_code 2 (some .int) :: ws) ({ frames := 0, cells := 0, slots := 0, locals := 0 } : Room)) (fun aA uU => aA = #[(.ref a), (.int i)] ∧ Z.Warmed39 uU.vm ∧ uU.heap = h0) (fun _ _ _ _ _ => True) (fun _ uU oO uV => ∃ vV lL, oO = .returned vV ∧ Q7 x h0 n0 vV uV.heap lL ∧ FrameEnd uU oO uV lL ({ frames := 0, cells := 0, slots := 0, locals := 0 } : Room).cells ({ frames := 0, cells := 0, slots := 0, locals := 0 } : Room).slots) := by
  refine MetFree.of_bodySF pf_7 hisR ?_
  intro p e s m args below meth c s₁ Bd hml0 hP hK
  obtain ⟨rfl, hZ, hh⟩ := hP
  have hx := Bd.exec
  have hby := Bd.bytes
  have hml : c.maxLocals = 2 := hml0
  have hown : s.vm.findClass "com/example/meticulous_handshake/meticuloushandshake/bisimulation/ArcsByLabel" = some m.cls := findClass_of_methodNamed Bd.named
  have hnm := (name_of_methodNamed Bd.named Bd.method).1
  have X0 : Stand p l e ({ frames := 0, cells := 0, slots := 0, locals := 0 } : Room) s m #[(.ref a), (.int i)] below meth c s₁ [] 0 0 := Stand.of_body Bd
  have e0 : s₁.heap = h0 := by rw [← hh, Bd.state]; rfl
  have N0 := Fr.nil n0
  have pre0 : ∀ t, Steps p.tables e below (s₁.setTop (mkF m 0 #[.val (.ref a), .val (.int i)] [])) t → Steps p.tables e below (s₁.setTop (entryFrame m #[(.ref a), (.int i)] 2)) t := fun t k => castTop (ef_7 m a i) k
  obtain ⟨ka, cl, Ar, -, S, M, H, -⟩ := A
  obtain ⟨T1, X1, e1, st1⟩ := getF X0 hx hZ hown (host := "") (Or.inl (hw _ (List.mem_of_getElem? (i := 16) rfl))) Via.refl e0 F (g := (mkF m 1 #[.val (.ref a), .val (.int i)] [(.ref a)])) rfl rfl (hb hby d7_1)
  obtain ⟨fs, hr, hrun, hended, hW, hsame⟩ := X1.leave (v := some (.int x)) (fun h => by rw [Bd.returns] at h; cases h)
  refine ⟨_, _, pre0 _ ?_, hrun, hended, _, _, rfl, ?_, ⟨_, rfl⟩, hW, hsame.mono (by decide) (by decide)⟩
  · show Steps p.tables e below (s₁.setTop (mkF m 0 #[.val (.ref a), .val (.int i)] [])) _
    refine XS.aloadN X0.here hx rfl (hb hby d7_0) rfl rfl ?_
    show Steps p.tables e below (s₁.setTop (mkF m 1 #[.val (.ref a), .val (.int i)] [(.ref a)])) _
    refine st1 _ ?_
    show Steps p.tables e below (T1.setTop (mkF m 4 #[.val (.ref a), .val (.int i)] [(.ref b)])) _
    refine XS.iloadN X1.here hx rfl (hb hby d7_4) rfl ?_
    show Steps p.tables e below (T1.setTop (mkF m 5 #[.val (.ref a), .val (.int i)] [(.int i), (.ref b)])) _
    refine X1.iaload hx (j := i) (v := (.int x)) (by rw [e1]; exact Ar.1) (State.isArrayOf_alike hZ.alike Ar.2.1) Ar.2.2 (inb_of S P) (Has.at H (inb_of S P) (by rw [P']; exact hv)) (g := (mkF m 5 #[.val (.ref a), .val (.int i)] [(.int i), (.ref b)])) rfl rfl (hb hby d7_5) _ ?_
    show Steps p.tables e below (T1.setTop (mkF m 6 #[.val (.ref a), .val (.int i)] [(.int x)])) _
    exact retI X1 hx Bd.returns (hb hby d7_6) hr
  · show Q7 x h0 n0 _ T1.heap _
    rw [e1]
    exact ⟨rfl, N0, rfl⟩
theorem d8_0 : decode prog_7_method_7_code 0 = .ok (.aload_n 0, 1) := by decide +kernel
theorem d8_1 : decode prog_7_method_7_code 1 = .ok (.getfield 16, 3) := by decide +kernel
theorem d8_4 : decode prog_7_method_7_code 4 = .ok (.iload_n 1, 1) := by decide +kernel
theorem d8_5 : decode prog_7_method_7_code 5 = .ok (.iaload, 1) := by decide +kernel
theorem d8_6 : decode prog_7_method_7_code 6 = .ok (.ireturn, 1) := by decide +kernel
theorem pn_8 : plainName "com/example/meticulous_handshake/meticuloushandshake/bisimulation/ArcsByLabel" = true := by first | (simp [plainName, overriddenIn]; done) | decide +kernel
theorem pf_8 : plainFor (⟨"com/example/meticulous_handshake/meticuloushandshake/bisimulation/ArcsByLabel", "next", "(I)I"⟩ : MethodName) = true := plainFor_of_name pn_8
theorem ef_8 (m : MethodId) (x0 : Addr) (x1 : Int32) : entryFrame m #[(.ref x0), (.int x1)] 2 = mkF m 0 #[.val (.ref x0), .val (.int x1)] [] := by first | (simp [entryFrame, mkF, argsToLocals, Value.category, maxLocals]; done) | rfl
def Q8 (x : Int32) (h0 : Heap) (n0 : Nat) (v : Option Value) (h : Heap) (L : List Loc) : Prop := v = some (.int x) ∧ Fr n0 L ∧ h = h0
set_option maxRecDepth 65536 in
set_option maxHeartbeats 40000000 in
theorem rm8 (l : Launch) (Z : State) (a0 : Array Value) (hw : ∀ d ∈ tables_1, d.before a0 Z = true) (ws : List Jvm.Cond) (a : Addr) (i : Int32) (b : Addr) (vs : List Value) (ii : Nat) (x : Int32) (h0 : Heap) (n0 : Nat) (Z0 : n0 ≤ h0.size) (F : Fld Z h0 a "com/example/meticulous_handshake/meticuloushandshake/bisimulation/ArcsByLabel" "next" "[I" (.ref b)) (A : OwnAI Z h0 b vs) (P : ¬ i < 0 ∧ i < 2) (P' : i.toNatClampNeg = ii) (hv : vs.getD ii (.int (0 : Int32)) = .int x) :
    MetFree l (⟨"com/example/meticulous_handshake/meticuloushandshake/bisimulation/ArcsByLabel", "next", "(I)I"⟩ : MethodName) (head1 (Jvm.Cond.code (⟨"com/example/meticulous_handshake/meticuloushandshake/bisimulation/ArcsByLabel", "next", "(I)I"⟩ : MethodName) prog_7_method_7_code 2 (some .int) :: ws) ({ frames := 0, cells := 0, slots := 0, locals := 0 } : Room)) (fun aA uU => aA = #[(.ref a), (.int i)] ∧ Z.Warmed39 uU.vm ∧ uU.heap = h0) (fun _ _ _ _ _ => True) (fun _ uU oO uV => ∃ vV lL, oO = .returned vV ∧ Q8 x h0 n0 vV uV.heap lL ∧ FrameEnd uU oO uV lL ({ frames := 0, cells := 0, slots := 0, locals := 0 } : Room).cells ({ frames := 0, cells := 0, slots := 0, locals := 0 } : Room).slots) := by
  refine MetFree.of_bodySF pf_8 hisR ?_
  intro p e s m args below meth c s₁ Bd hml0 hP hK
  obtain ⟨rfl, hZ, hh⟩ := hP
  have hx := Bd.exec
  have hby := Bd.bytes
  have hml : c.maxLocals = 2 := hml0
  have hown : s.vm.findClass "com/example/meticulous_handshake/meticuloushandshake/bisimulation/ArcsByLabel" = some m.cls := findClass_of_methodNamed Bd.named
  have hnm := (name_of_methodNamed Bd.named Bd.method).1
  have X0 : Stand p l e ({ frames := 0, cells := 0, slots := 0, locals := 0 } : Room) s m #[(.ref a), (.int i)] below meth c s₁ [] 0 0 := Stand.of_body Bd
  have e0 : s₁.heap = h0 := by rw [← hh, Bd.state]; rfl
  have N0 := Fr.nil n0
  have pre0 : ∀ t, Steps p.tables e below (s₁.setTop (mkF m 0 #[.val (.ref a), .val (.int i)] [])) t → Steps p.tables e below (s₁.setTop (entryFrame m #[(.ref a), (.int i)] 2)) t := fun t k => castTop (ef_8 m a i) k
  obtain ⟨ka, cl, Ar, -, S, M, H, -⟩ := A
  obtain ⟨T1, X1, e1, st1⟩ := getF X0 hx hZ hown (host := "") (Or.inl (hw _ (List.mem_of_getElem? (i := 14) rfl))) Via.refl e0 F (g := (mkF m 1 #[.val (.ref a), .val (.int i)] [(.ref a)])) rfl rfl (hb hby d8_1)
  obtain ⟨fs, hr, hrun, hended, hW, hsame⟩ := X1.leave (v := some (.int x)) (fun h => by rw [Bd.returns] at h; cases h)
  refine ⟨_, _, pre0 _ ?_, hrun, hended, _, _, rfl, ?_, ⟨_, rfl⟩, hW, hsame.mono (by decide) (by decide)⟩
  · show Steps p.tables e below (s₁.setTop (mkF m 0 #[.val (.ref a), .val (.int i)] [])) _
    refine XS.aloadN X0.here hx rfl (hb hby d8_0) rfl rfl ?_
    show Steps p.tables e below (s₁.setTop (mkF m 1 #[.val (.ref a), .val (.int i)] [(.ref a)])) _
    refine st1 _ ?_
    show Steps p.tables e below (T1.setTop (mkF m 4 #[.val (.ref a), .val (.int i)] [(.ref b)])) _
    refine XS.iloadN X1.here hx rfl (hb hby d8_4) rfl ?_
    show Steps p.tables e below (T1.setTop (mkF m 5 #[.val (.ref a), .val (.int i)] [(.int i), (.ref b)])) _
    refine X1.iaload hx (j := i) (v := (.int x)) (by rw [e1]; exact Ar.1) (State.isArrayOf_alike hZ.alike Ar.2.1) Ar.2.2 (inb_of S P) (Has.at H (inb_of S P) (by rw [P']; exact hv)) (g := (mkF m 5 #[.val (.ref a), .val (.int i)] [(.int i), (.ref b)])) rfl rfl (hb hby d8_5) _ ?_
    show Steps p.tables e below (T1.setTop (mkF m 6 #[.val (.ref a), .val (.int i)] [(.int x)])) _
    exact retI X1 hx Bd.returns (hb hby d8_6) hr
  · show Q8 x h0 n0 _ T1.heap _
    rw [e1]
    exact ⟨rfl, N0, rfl⟩
theorem d9_0 : decode prog_7_method_8_code 0 = .ok (.aload_n 0, 1) := by decide +kernel
theorem d9_1 : decode prog_7_method_8_code 1 = .ok (.getfield 7, 3) := by decide +kernel
theorem d9_4 : decode prog_7_method_8_code 4 = .ok (.iload_n 1, 1) := by decide +kernel
theorem d9_5 : decode prog_7_method_8_code 5 = .ok (.iaload, 1) := by decide +kernel
theorem d9_6 : decode prog_7_method_8_code 6 = .ok (.ireturn, 1) := by decide +kernel
theorem pn_9 : plainName "com/example/meticulous_handshake/meticuloushandshake/bisimulation/ArcsByLabel" = true := by first | (simp [plainName, overriddenIn]; done) | decide +kernel
theorem pf_9 : plainFor (⟨"com/example/meticulous_handshake/meticuloushandshake/bisimulation/ArcsByLabel", "arc", "(I)I"⟩ : MethodName) = true := plainFor_of_name pn_9
theorem ef_9 (m : MethodId) (x0 : Addr) (x1 : Int32) : entryFrame m #[(.ref x0), (.int x1)] 2 = mkF m 0 #[.val (.ref x0), .val (.int x1)] [] := by first | (simp [entryFrame, mkF, argsToLocals, Value.category, maxLocals]; done) | rfl
def Q9 (x : Int32) (h0 : Heap) (n0 : Nat) (v : Option Value) (h : Heap) (L : List Loc) : Prop := v = some (.int x) ∧ Fr n0 L ∧ h = h0
set_option maxRecDepth 65536 in
set_option maxHeartbeats 40000000 in
theorem rm9 (l : Launch) (Z : State) (a0 : Array Value) (hw : ∀ d ∈ tables_1, d.before a0 Z = true) (ws : List Jvm.Cond) (a : Addr) (i : Int32) (b : Addr) (vs : List Value) (ii : Nat) (x : Int32) (h0 : Heap) (n0 : Nat) (Z0 : n0 ≤ h0.size) (F : Fld Z h0 a "com/example/meticulous_handshake/meticuloushandshake/bisimulation/ArcsByLabel" "arcs" "[I" (.ref b)) (A : OwnAI Z h0 b vs) (P : ¬ i < 0 ∧ i < 2) (P' : i.toNatClampNeg = ii) (hv : vs.getD ii (.int (0 : Int32)) = .int x) :
    MetFree l (⟨"com/example/meticulous_handshake/meticuloushandshake/bisimulation/ArcsByLabel", "arc", "(I)I"⟩ : MethodName) (head1 (Jvm.Cond.code (⟨"com/example/meticulous_handshake/meticuloushandshake/bisimulation/ArcsByLabel", "arc", "(I)I"⟩ : MethodName) prog_7_method_8_code 2 (some .int) :: ws) ({ frames := 0, cells := 0, slots := 0, locals := 0 } : Room)) (fun aA uU => aA = #[(.ref a), (.int i)] ∧ Z.Warmed39 uU.vm ∧ uU.heap = h0) (fun _ _ _ _ _ => True) (fun _ uU oO uV => ∃ vV lL, oO = .returned vV ∧ Q9 x h0 n0 vV uV.heap lL ∧ FrameEnd uU oO uV lL ({ frames := 0, cells := 0, slots := 0, locals := 0 } : Room).cells ({ frames := 0, cells := 0, slots := 0, locals := 0 } : Room).slots) := by
  refine MetFree.of_bodySF pf_9 hisR ?_
  intro p e s m args below meth c s₁ Bd hml0 hP hK
  obtain ⟨rfl, hZ, hh⟩ := hP
  have hx := Bd.exec
  have hby := Bd.bytes
  have hml : c.maxLocals = 2 := hml0
  have hown : s.vm.findClass "com/example/meticulous_handshake/meticuloushandshake/bisimulation/ArcsByLabel" = some m.cls := findClass_of_methodNamed Bd.named
  have hnm := (name_of_methodNamed Bd.named Bd.method).1
  have X0 : Stand p l e ({ frames := 0, cells := 0, slots := 0, locals := 0 } : Room) s m #[(.ref a), (.int i)] below meth c s₁ [] 0 0 := Stand.of_body Bd
  have e0 : s₁.heap = h0 := by rw [← hh, Bd.state]; rfl
  have N0 := Fr.nil n0
  have pre0 : ∀ t, Steps p.tables e below (s₁.setTop (mkF m 0 #[.val (.ref a), .val (.int i)] [])) t → Steps p.tables e below (s₁.setTop (entryFrame m #[(.ref a), (.int i)] 2)) t := fun t k => castTop (ef_9 m a i) k
  obtain ⟨ka, cl, Ar, -, S, M, H, -⟩ := A
  obtain ⟨T1, X1, e1, st1⟩ := getF X0 hx hZ hown (host := "") (Or.inl (hw _ (List.mem_of_getElem? (i := 10) rfl))) Via.refl e0 F (g := (mkF m 1 #[.val (.ref a), .val (.int i)] [(.ref a)])) rfl rfl (hb hby d9_1)
  obtain ⟨fs, hr, hrun, hended, hW, hsame⟩ := X1.leave (v := some (.int x)) (fun h => by rw [Bd.returns] at h; cases h)
  refine ⟨_, _, pre0 _ ?_, hrun, hended, _, _, rfl, ?_, ⟨_, rfl⟩, hW, hsame.mono (by decide) (by decide)⟩
  · show Steps p.tables e below (s₁.setTop (mkF m 0 #[.val (.ref a), .val (.int i)] [])) _
    refine XS.aloadN X0.here hx rfl (hb hby d9_0) rfl rfl ?_
    show Steps p.tables e below (s₁.setTop (mkF m 1 #[.val (.ref a), .val (.int i)] [(.ref a)])) _
    refine st1 _ ?_
    show Steps p.tables e below (T1.setTop (mkF m 4 #[.val (.ref a), .val (.int i)] [(.ref b)])) _
    refine XS.iloadN X1.here hx rfl (hb hby d9_4) rfl ?_
    show Steps p.tables e below (T1.setTop (mkF m 5 #[.val (.ref a), .val (.int i)] [(.int i), (.ref b)])) _
    refine X1.iaload hx (j := i) (v := (.int x)) (by rw [e1]; exact Ar.1) (State.isArrayOf_alike hZ.alike Ar.2.1) Ar.2.2 (inb_of S P) (Has.at H (inb_of S P) (by rw [P']; exact hv)) (g := (mkF m 5 #[.val (.ref a), .val (.int i)] [(.int i), (.ref b)])) rfl rfl (hb hby d9_5) _ ?_
    show Steps p.tables e below (T1.setTop (mkF m 6 #[.val (.ref a), .val (.int i)] [(.int x)])) _
    exact retI X1 hx Bd.returns (hb hby d9_6) hr
  · show Q9 x h0 n0 _ T1.heap _
    rw [e1]
    exact ⟨rfl, N0, rfl⟩
theorem d10_0 : decode prog_7_method_9_code 0 = .ok (.aload_n 0, 1) := by decide +kernel
theorem d10_1 : decode prog_7_method_9_code 1 = .ok (.getfield 13, 3) := by decide +kernel
theorem d10_4 : decode prog_7_method_9_code 4 = .ok (.iload_n 1, 1) := by decide +kernel
theorem d10_5 : decode prog_7_method_9_code 5 = .ok (.iaload, 1) := by decide +kernel
theorem d10_6 : decode prog_7_method_9_code 6 = .ok (.ireturn, 1) := by decide +kernel
theorem pn_10 : plainName "com/example/meticulous_handshake/meticuloushandshake/bisimulation/ArcsByLabel" = true := by first | (simp [plainName, overriddenIn]; done) | decide +kernel
theorem pf_10 : plainFor (⟨"com/example/meticulous_handshake/meticuloushandshake/bisimulation/ArcsByLabel", "source", "(I)I"⟩ : MethodName) = true := plainFor_of_name pn_10
theorem ef_10 (m : MethodId) (x0 : Addr) (x1 : Int32) : entryFrame m #[(.ref x0), (.int x1)] 2 = mkF m 0 #[.val (.ref x0), .val (.int x1)] [] := by first | (simp [entryFrame, mkF, argsToLocals, Value.category, maxLocals]; done) | rfl
def Q10 (x : Int32) (h0 : Heap) (n0 : Nat) (v : Option Value) (h : Heap) (L : List Loc) : Prop := v = some (.int x) ∧ Fr n0 L ∧ h = h0
set_option maxRecDepth 65536 in
set_option maxHeartbeats 40000000 in
theorem rm10 (l : Launch) (Z : State) (a0 : Array Value) (hw : ∀ d ∈ tables_1, d.before a0 Z = true) (ws : List Jvm.Cond) (a : Addr) (i : Int32) (b : Addr) (vs : List Value) (ii : Nat) (x : Int32) (h0 : Heap) (n0 : Nat) (Z0 : n0 ≤ h0.size) (F : Fld Z h0 a "com/example/meticulous_handshake/meticuloushandshake/bisimulation/ArcsByLabel" "sources" "[I" (.ref b)) (A : OwnAI Z h0 b vs) (P : ¬ i < 0 ∧ i < 2) (P' : i.toNatClampNeg = ii) (hv : vs.getD ii (.int (0 : Int32)) = .int x) :
    MetFree l (⟨"com/example/meticulous_handshake/meticuloushandshake/bisimulation/ArcsByLabel", "source", "(I)I"⟩ : MethodName) (head1 (Jvm.Cond.code (⟨"com/example/meticulous_handshake/meticuloushandshake/bisimulation/ArcsByLabel", "source", "(I)I"⟩ : MethodName) prog_7_method_9_code 2 (some .int) :: ws) ({ frames := 0, cells := 0, slots := 0, locals := 0 } : Room)) (fun aA uU => aA = #[(.ref a), (.int i)] ∧ Z.Warmed39 uU.vm ∧ uU.heap = h0) (fun _ _ _ _ _ => True) (fun _ uU oO uV => ∃ vV lL, oO = .returned vV ∧ Q10 x h0 n0 vV uV.heap lL ∧ FrameEnd uU oO uV lL ({ frames := 0, cells := 0, slots := 0, locals := 0 } : Room).cells ({ frames := 0, cells := 0, slots := 0, locals := 0 } : Room).slots) := by
  refine MetFree.of_bodySF pf_10 hisR ?_
  intro p e s m args below meth c s₁ Bd hml0 hP hK
  obtain ⟨rfl, hZ, hh⟩ := hP
  have hx := Bd.exec
  have hby := Bd.bytes
  have hml : c.maxLocals = 2 := hml0
  have hown : s.vm.findClass "com/example/meticulous_handshake/meticuloushandshake/bisimulation/ArcsByLabel" = some m.cls := findClass_of_methodNamed Bd.named
  have hnm := (name_of_methodNamed Bd.named Bd.method).1
  have X0 : Stand p l e ({ frames := 0, cells := 0, slots := 0, locals := 0 } : Room) s m #[(.ref a), (.int i)] below meth c s₁ [] 0 0 := Stand.of_body Bd
  have e0 : s₁.heap = h0 := by rw [← hh, Bd.state]; rfl
  have N0 := Fr.nil n0
  have pre0 : ∀ t, Steps p.tables e below (s₁.setTop (mkF m 0 #[.val (.ref a), .val (.int i)] [])) t → Steps p.tables e below (s₁.setTop (entryFrame m #[(.ref a), (.int i)] 2)) t := fun t k => castTop (ef_10 m a i) k
  obtain ⟨ka, cl, Ar, -, S, M, H, -⟩ := A
  obtain ⟨T1, X1, e1, st1⟩ := getF X0 hx hZ hown (host := "") (Or.inl (hw _ (List.mem_of_getElem? (i := 12) rfl))) Via.refl e0 F (g := (mkF m 1 #[.val (.ref a), .val (.int i)] [(.ref a)])) rfl rfl (hb hby d10_1)
  obtain ⟨fs, hr, hrun, hended, hW, hsame⟩ := X1.leave (v := some (.int x)) (fun h => by rw [Bd.returns] at h; cases h)
  refine ⟨_, _, pre0 _ ?_, hrun, hended, _, _, rfl, ?_, ⟨_, rfl⟩, hW, hsame.mono (by decide) (by decide)⟩
  · show Steps p.tables e below (s₁.setTop (mkF m 0 #[.val (.ref a), .val (.int i)] [])) _
    refine XS.aloadN X0.here hx rfl (hb hby d10_0) rfl rfl ?_
    show Steps p.tables e below (s₁.setTop (mkF m 1 #[.val (.ref a), .val (.int i)] [(.ref a)])) _
    refine st1 _ ?_
    show Steps p.tables e below (T1.setTop (mkF m 4 #[.val (.ref a), .val (.int i)] [(.ref b)])) _
    refine XS.iloadN X1.here hx rfl (hb hby d10_4) rfl ?_
    show Steps p.tables e below (T1.setTop (mkF m 5 #[.val (.ref a), .val (.int i)] [(.int i), (.ref b)])) _
    refine X1.iaload hx (j := i) (v := (.int x)) (by rw [e1]; exact Ar.1) (State.isArrayOf_alike hZ.alike Ar.2.1) Ar.2.2 (inb_of S P) (Has.at H (inb_of S P) (by rw [P']; exact hv)) (g := (mkF m 5 #[.val (.ref a), .val (.int i)] [(.int i), (.ref b)])) rfl rfl (hb hby d10_5) _ ?_
    show Steps p.tables e below (T1.setTop (mkF m 6 #[.val (.ref a), .val (.int i)] [(.int x)])) _
    exact retI X1 hx Bd.returns (hb hby d10_6) hr
  · show Q10 x h0 n0 _ T1.heap _
    rw [e1]
    exact ⟨rfl, N0, rfl⟩
theorem pd_ini : parseMethodDescriptor "(II)V" = some ⟨[.int, .int], none⟩ := by decide +kernel
theorem pd_add : parseMethodDescriptor "(III)V" = some ⟨[.int, .int, .int], none⟩ := by decide +kernel
theorem pd_lc : parseMethodDescriptor "()I" = some ⟨[], some .int⟩ := by decide +kernel
theorem pd_get : parseMethodDescriptor "(I)I" = some ⟨[.int], some .int⟩ := by decide +kernel
def own_a (x : Int32) : Int32 := x &&& 1
def own_b (x : Int32) : Int32 := ((x.toUInt32 >>> ((1 : Int32) &&& 31).toUInt32).toInt32) &&& 1
theorem own_bit (x : Int32) : (x &&& 1) = 0 ∨ (x &&& 1) = 1 := by
  have h := c_mask x 1 1 (by decide) (by decide)
  have h0 : (0 : Int32).toInt = 0 := by decide
  have h1 : (1 : Int32).toInt = 1 := by decide
  have : (x &&& 1).toInt = 0 ∨ (x &&& 1).toInt = 1 := by omega
  rcases this with h | h
  · exact Or.inl (Int32.toInt_inj.mp (by omega))
  · exact Or.inr (Int32.toInt_inj.mp (by omega))
theorem pn_0 : plainName "com/example/meticulous_handshake/meticuloushandshake/bisimulation/ArcsByLabelAddPinLaw" = true := by first | (simp [plainName, overriddenIn]; done) | decide +kernel
theorem pf_0 : plainFor x = true := plainFor_of_name pn_0
theorem ef_0 (m : MethodId) (x0 : Int32) (x1 : Int32) (x2 : Int32) (x3 : Int32) (x4 : Int32) : entryFrame m #[(.int x0), (.int x1), (.int x2), (.int x3), (.int x4)] maxLocals = mkF m 0 #[.val (.int x0), .val (.int x1), .val (.int x2), .val (.int x3), .val (.int x4), .unset, .unset, .unset, .unset] [] := by first | (simp [entryFrame, mkF, argsToLocals, Value.category, maxLocals]; done) | rfl
def Q0 (h0 : Heap) (n0 : Nat) (v : Option Value) (h : Heap) (L : List Loc) : Prop := v = some (.int 1) ∧ Fr n0 L
set_option maxRecDepth 65536 in
set_option maxHeartbeats 40000000 in
theorem rm0 (l : Launch) (Z : State) (a0 : Array Value) (hw : ∀ d ∈ tables_1, d.before a0 Z = true) (ws : List Jvm.Cond) (p1 p2 p3 p4 p5 : Int32) (h0 : Heap) (n0 : Nat) (Z0 : n0 ≤ h0.size)  :
    MetFree l x (head1 (Jvm.Cond.code x code maxLocals ret :: ws) room_1) (fun aA uU => aA = #[(.int p1), (.int p2), (.int p3), (.int p4), (.int p5)] ∧ Z.Warmed39 uU.vm ∧ uU.heap = h0) (fun _ _ _ _ _ => True) (fun _ uU oO uV => ∃ vV lL, oO = .returned vV ∧ Q0 h0 n0 vV uV.heap lL ∧ FrameEnd uU oO uV lL 24 128) := by
  refine MetFree.of_bodySF pf_0 hisR ?_
  intro p e s m args below meth c s₁ Bd hml0 hP hK
  obtain ⟨rfl, hZ, hh⟩ := hP
  have hx := Bd.exec
  have hby := Bd.bytes
  have hml : c.maxLocals = 9 := hml0
  have hown : s.vm.findClass "com/example/meticulous_handshake/meticuloushandshake/bisimulation/ArcsByLabelAddPinLaw" = some m.cls := findClass_of_methodNamed Bd.named
  have hnm := (name_of_methodNamed Bd.named Bd.method).1
  have X0 : Stand p l e room_1 s m #[(.int p1), (.int p2), (.int p3), (.int p4), (.int p5)] below meth c s₁ [] 0 0 := Stand.of_body Bd
  have e0 : s₁.heap = h0 := by rw [← hh, Bd.state]; rfl
  have N0 := Fr.nil n0
  have pre0 : ∀ t, Steps p.tables e below (s₁.setTop (mkF m 0 #[.val (.int p1), .val (.int p2), .val (.int p3), .val (.int p4), .val (.int p5), .unset, .unset, .unset, .unset] [])) t → Steps p.tables e below (s₁.setTop (entryFrame m #[(.int p1), (.int p2), (.int p3), (.int p4), (.int p5)] maxLocals)) t := fun t k => castTop (ef_0 m p1 p2 p3 p4 p5) k
  have sg0 : ∀ t, Steps p.tables e below (s₁.setTop (mkF m 14 #[.val (.int p1), .val (.int p2), .val (.int p3), .val (.int p4), .val (.int p5), .val (.int (own_a p5)), .val (.int (own_b p5)), .unset, .unset] [])) t → Steps p.tables e below (s₁.setTop (mkF m 0 #[.val (.int p1), .val (.int p2), .val (.int p3), .val (.int p4), .val (.int p5), .unset, .unset, .unset, .unset] [])) t := by
    intro t kt
    show Steps p.tables e below (s₁.setTop (mkF m 0 #[.val (.int p1), .val (.int p2), .val (.int p3), .val (.int p4), .val (.int p5), .unset, .unset, .unset, .unset] [])) _
    refine XS.iload X0.here hx rfl (hb hby at_0) rfl ?_
    show Steps p.tables e below (s₁.setTop (mkF m 2 #[.val (.int p1), .val (.int p2), .val (.int p3), .val (.int p4), .val (.int p5), .unset, .unset, .unset, .unset] [(.int p5)])) _
    refine XS.iconst X0.here hx rfl (hb hby at_2) ?_
    show Steps p.tables e below (s₁.setTop (mkF m 3 #[.val (.int p1), .val (.int p2), .val (.int p3), .val (.int p4), .val (.int p5), .unset, .unset, .unset, .unset] [(.int (1 : Int32)), (.int p5)])) _
    refine XS.iand X0.here hx rfl (hb hby at_3) rfl ?_
    show Steps p.tables e below (s₁.setTop (mkF m 4 #[.val (.int p1), .val (.int p2), .val (.int p3), .val (.int p4), .val (.int p5), .unset, .unset, .unset, .unset] [(.int (p5 &&& (1 : Int32)))])) _
    refine XS.istore X0.here hx rfl (hb hby at_4) rfl (l' := #[.val (.int p1), .val (.int p2), .val (.int p3), .val (.int p4), .val (.int p5), .val (.int (own_a p5)), .unset, .unset, .unset]) rfl ?_
    show Steps p.tables e below (s₁.setTop (mkF m 6 #[.val (.int p1), .val (.int p2), .val (.int p3), .val (.int p4), .val (.int p5), .val (.int (own_a p5)), .unset, .unset, .unset] [])) _
    refine XS.iload X0.here hx rfl (hb hby at_6) rfl ?_
    show Steps p.tables e below (s₁.setTop (mkF m 8 #[.val (.int p1), .val (.int p2), .val (.int p3), .val (.int p4), .val (.int p5), .val (.int (own_a p5)), .unset, .unset, .unset] [(.int p5)])) _
    refine XS.iconst X0.here hx rfl (hb hby at_8) ?_
    show Steps p.tables e below (s₁.setTop (mkF m 9 #[.val (.int p1), .val (.int p2), .val (.int p3), .val (.int p4), .val (.int p5), .val (.int (own_a p5)), .unset, .unset, .unset] [(.int (1 : Int32)), (.int p5)])) _
    refine XS.iushr X0.here hx rfl (hb hby at_9) rfl ?_
    show Steps p.tables e below (s₁.setTop (mkF m 10 #[.val (.int p1), .val (.int p2), .val (.int p3), .val (.int p4), .val (.int p5), .val (.int (own_a p5)), .unset, .unset, .unset] [(.int ((p5.toUInt32 >>> ((1 : Int32) &&& 31).toUInt32).toInt32))])) _
    refine XS.iconst X0.here hx rfl (hb hby at_10) ?_
    show Steps p.tables e below (s₁.setTop (mkF m 11 #[.val (.int p1), .val (.int p2), .val (.int p3), .val (.int p4), .val (.int p5), .val (.int (own_a p5)), .unset, .unset, .unset] [(.int (1 : Int32)), (.int ((p5.toUInt32 >>> ((1 : Int32) &&& 31).toUInt32).toInt32))])) _
    refine XS.iand X0.here hx rfl (hb hby at_11) rfl ?_
    show Steps p.tables e below (s₁.setTop (mkF m 12 #[.val (.int p1), .val (.int p2), .val (.int p3), .val (.int p4), .val (.int p5), .val (.int (own_a p5)), .unset, .unset, .unset] [(.int (((p5.toUInt32 >>> ((1 : Int32) &&& 31).toUInt32).toInt32) &&& (1 : Int32)))])) _
    refine XS.istore X0.here hx rfl (hb hby at_12) rfl (l' := #[.val (.int p1), .val (.int p2), .val (.int p3), .val (.int p4), .val (.int p5), .val (.int (own_a p5)), .val (.int (own_b p5)), .unset, .unset]) rfl ?_
    exact kt
  rcases own_bit p5 with ha | ha <;> rcases own_bit ((p5.toUInt32 >>> ((1 : Int32) &&& 31).toUInt32).toInt32) with hb' | hb'
  · rw [show own_a p5 = (0 : Int32) from ha, show own_b p5 = (0 : Int32) from hb'] at sg0
    obtain ⟨TO, hO, XO, eO, EO, AO, DO, -, stO⟩ := newO X0 hx hZ hown (hw _ (List.mem_of_getElem? (i := 0) rfl)) (hw _ (List.mem_of_getElem? (i := 1) rfl)) (hw _ (List.mem_of_getElem? (i := 2) rfl)) e0 (g := (mkF m 28 #[.val (.int p1), .val (.int p2), .val (.int p3), .val (.int p4), .val (.int p5), .val (.int (0 : Int32)), .val (.int (0 : Int32)), .val (.int (1 : Int32)), .unset] [])) rfl (hb hby at_28) (by decide) (by decide)
    obtain ⟨a, gO⟩ : ∃ z, z = h0.size := ⟨_, rfl⟩
    rw [← gO] at AO DO stO
    have g_a : n0 ≤ a := Nat.le_trans Z0 (Nat.le_of_eq gO.symm)
    have ZO : n0 ≤ hO.size := Nat.le_trans Z0 EO.1
    obtain ⟨_, _, ⟨TC, LC, kC, nC⟩, -, XC, ⟨LcC, hQC, lC, yC, zC⟩, stC⟩ := XO.specialBack hx (y := (⟨"com/example/meticulous_handshake/meticuloushandshake/bisimulation/ArcsByLabel", "<init>", "(II)V"⟩ : MethodName)) rfl hown (mvT hZ (hw _ (List.mem_of_getElem? (i := 3) rfl))) (mvT hZ (hw _ (List.mem_of_getElem? (i := 4) rfl))) (mvT hZ (hw _ (List.mem_of_getElem? (i := 5) rfl))) (by decide) (backOf (W := 1) (rm1 l Z a0 hw [] a hO n0 ZO AO (DO (Or.inr (hw _ (List.mem_of_getElem? (i := 11) rfl))) (ty := (.array .int)) (by decide)) (DO (Or.inr (hw _ (List.mem_of_getElem? (i := 13) rfl))) (ty := (.array .int)) (by decide)) (DO (Or.inr (hw _ (List.mem_of_getElem? (i := 15) rfl))) (ty := (.array .int)) (by decide)) (DO (Or.inr (hw _ (List.mem_of_getElem? (i := 17) rfl))) (ty := (.array .int)) (by decide)) (DO (Or.inr (hw _ (List.mem_of_getElem? (i := 23) rfl))) (ty := (.array .int)) (by decide)) (DO (Or.inl (hw _ (List.mem_of_getElem? (i := 30) rfl))) (ty := .int) (by decide)) (DO (Or.inl (hw _ (List.mem_of_getElem? (i := 32) rfl))) (ty := .int) (by decide)) g_a) hZ (hw _ (List.mem_of_getElem? (i := 5) rfl)) (hw _ (List.mem_of_getElem? (i := 2) rfl)) (by decide) (by decide)) (g := (mkF m 34 #[.val (.int p1), .val (.int p2), .val (.int p3), .val (.int p4), .val (.int p5), .val (.int (0 : Int32)), .val (.int (0 : Int32)), .val (.int (1 : Int32)), .unset] [(.int (2 : Int32)), (.int (2 : Int32)), (.ref a), (.ref a)])) rfl (by rw [hml]; rfl) (Steps.refl _) (a := a) (argsL := [(.int (2 : Int32)), (.int (2 : Int32))]) (rest := [(.ref a)]) (lenOf pd_ini rfl) rfl (by show 2 * 0 + _ ≤ _; exact Nat.le_of_eq rfl) (hb hby at_34) (fun _ _ => ⟨rfl, eO, (by decide : 1 + 5 ≤ _), (by decide : 7 + 10 ≤ _)⟩)
    dsimp only [Pt.U, Pt.locs, Pt.cells, Pt.slots] at XC lC yC zC stC hQC
    subst lC yC zC
    obtain ⟨rfl, NCq, ZC, bA, bS, bN, bF, bL, od, OC⟩ := hQC
    have NC := Fr.app N0 NCq
    obtain ⟨cq1, kq1, qa1, qb1, qc1⟩ := isOf hZ rfl OC.1
    obtain ⟨_, _, ⟨T1, L1, k1, n1⟩, -, X1, ⟨Lc1, hQ1, l1, y1, z1⟩, st1⟩ := XC.virtualBack hx (y := (⟨"com/example/meticulous_handshake/meticuloushandshake/bisimulation/ArcsByLabel", "add", "(III)V"⟩ : MethodName)) (z := (⟨"com/example/meticulous_handshake/meticuloushandshake/bisimulation/ArcsByLabel", "add", "(III)V"⟩ : MethodName)) hown (mvT hZ (hw _ (List.mem_of_getElem? (i := 24) rfl))) (mvT hZ (hw _ (List.mem_of_getElem? (i := 25) rfl))) (notFace_of_selects (args := #[]) (mvT hZ (hw _ (List.mem_of_getElem? (i := 27) rfl)))) (mvT hZ (hw _ (List.mem_of_getElem? (i := 27) rfl))) (mvT hZ (hw _ (List.mem_of_getElem? (i := 26) rfl))) (by decide) (backOf (W := 0) (rm4A l Z a0 hw [] a bA bS bN bF bL p1 p2 (0 : Int32) (0 : Int32) (0 : Int32) (-1 : Int32) [(.int (0 : Int32)), (.int (0 : Int32))] [(.int (0 : Int32)), (.int (0 : Int32))] [(.int (0 : Int32)), (.int (0 : Int32))] [(.int (-1 : Int32)), (.int (-1 : Int32))] [(.int (0 : Int32)), (.int (0 : Int32))] 0 0 0 TC.heap n0 ZC OC od g_a (by decide) rfl (by decide) rfl (by decide) rfl ⟨by decide, by decide, by decide, rfl, rfl, rfl, rfl, rfl⟩ rfl (by decide)) hZ (hw _ (List.mem_of_getElem? (i := 28) rfl)) (hw _ (List.mem_of_getElem? (i := 2) rfl)) (by decide) (by decide)) qa1 qc1 (g := (mkF m 45 #[.val (.int p1), .val (.int p2), .val (.int p3), .val (.int p4), .val (.int p5), .val (.int (0 : Int32)), .val (.int (0 : Int32)), .val (.int (1 : Int32)), .val (.ref a)] [(.int (0 : Int32)), (.int p2), (.int p1), (.ref a)])) rfl (by rw [hml]; rfl) (Steps.refl _) (argsL := [(.int p1), (.int p2), (.int (0 : Int32))]) (rest := []) (lenOf pd_add rfl) rfl (by show 2 * 0 + _ ≤ _; exact Nat.le_of_eq rfl) (hb hby at_45) (fun _ _ => ⟨rfl, rfl, (by decide : 6 + 0 ≤ _), (by decide : 17 + 0 ≤ _)⟩)
    dsimp only [Pt.U, Pt.locs, Pt.cells, Pt.slots] at X1 l1 y1 z1 st1 hQ1
    subst l1 y1 z1
    obtain ⟨rfl, N1q, Z1, OO1⟩ := hQ1
    have N1 := Fr.app NC N1q
    have O1 : OwnObj Z T1.heap a bA bS bN bF bL (1 : Int32) (1 : Int32) [(.int p1), (.int (0 : Int32))] [(.int p2), (.int (0 : Int32))] [(.int (-1 : Int32)), (.int (0 : Int32))] [(.int (0 : Int32)), (.int (-1 : Int32))] [(.int (0 : Int32)), (.int (0 : Int32))] := OO1
    obtain ⟨cq2, kq2, qa2, qb2, qc2⟩ := isOf hZ rfl O1.1
    obtain ⟨_, _, ⟨T2, L2, k2, n2⟩, -, X2, ⟨Lc2, hQ2, l2, y2, z2⟩, st2⟩ := X1.virtualBack hx (y := (⟨"com/example/meticulous_handshake/meticuloushandshake/bisimulation/ArcsByLabel", "add", "(III)V"⟩ : MethodName)) (z := (⟨"com/example/meticulous_handshake/meticuloushandshake/bisimulation/ArcsByLabel", "add", "(III)V"⟩ : MethodName)) hown (mvT hZ (hw _ (List.mem_of_getElem? (i := 24) rfl))) (mvT hZ (hw _ (List.mem_of_getElem? (i := 25) rfl))) (notFace_of_selects (args := #[]) (mvT hZ (hw _ (List.mem_of_getElem? (i := 27) rfl)))) (mvT hZ (hw _ (List.mem_of_getElem? (i := 27) rfl))) (mvT hZ (hw _ (List.mem_of_getElem? (i := 26) rfl))) (by decide) (backOf (W := 0) (rm4B l Z a0 hw [] a bA bS bN bF bL p3 p4 (0 : Int32) (1 : Int32) (1 : Int32) (0 : Int32) [(.int p1), (.int (0 : Int32))] [(.int p2), (.int (0 : Int32))] [(.int (-1 : Int32)), (.int (0 : Int32))] [(.int (0 : Int32)), (.int (-1 : Int32))] [(.int (0 : Int32)), (.int (0 : Int32))] 1 0 1 T1.heap n0 Z1 O1 od g_a (by decide) rfl (by decide) rfl (by decide) rfl ⟨by decide, by decide, by decide, rfl, rfl, rfl, rfl, rfl⟩ rfl (by decide)) hZ (hw _ (List.mem_of_getElem? (i := 28) rfl)) (hw _ (List.mem_of_getElem? (i := 2) rfl)) (by decide) (by decide)) qa2 qc2 (g := (mkF m 54 #[.val (.int p1), .val (.int p2), .val (.int p3), .val (.int p4), .val (.int p5), .val (.int (0 : Int32)), .val (.int (0 : Int32)), .val (.int (1 : Int32)), .val (.ref a)] [(.int (0 : Int32)), (.int p4), (.int p3), (.ref a)])) rfl (by rw [hml]; rfl) (Steps.refl _) (argsL := [(.int p3), (.int p4), (.int (0 : Int32))]) (rest := []) (lenOf pd_add rfl) rfl (by show 2 * 0 + _ ≤ _; exact Nat.le_of_eq rfl) (hb hby at_54) (fun _ _ => ⟨rfl, rfl, (by decide : 6 + 0 ≤ _), (by decide : 17 + 0 ≤ _)⟩)
    dsimp only [Pt.U, Pt.locs, Pt.cells, Pt.slots] at X2 l2 y2 z2 st2 hQ2
    subst l2 y2 z2
    obtain ⟨rfl, N2q, Z2, OO2⟩ := hQ2
    have N2 := Fr.app N1 N2q
    have O2 : OwnObj Z T2.heap a bA bS bN bF bL (2 : Int32) (1 : Int32) [(.int p1), (.int p3)] [(.int p2), (.int p4)] [(.int (-1 : Int32)), (.int (0 : Int32))] [(.int (1 : Int32)), (.int (-1 : Int32))] [(.int (0 : Int32)), (.int (0 : Int32))] := OO2
    obtain ⟨cq3, kq3, qa3, qb3, qc3⟩ := isOf hZ rfl O2.1
    obtain ⟨_, _, ⟨T3, L3, k3, n3⟩, -, X3, ⟨Lc3, hQ3, l3, y3, z3⟩, st3⟩ := X2.virtualBack hx (y := (⟨"com/example/meticulous_handshake/meticuloushandshake/bisimulation/ArcsByLabel", "labelCount", "()I"⟩ : MethodName)) (z := (⟨"com/example/meticulous_handshake/meticuloushandshake/bisimulation/ArcsByLabel", "labelCount", "()I"⟩ : MethodName)) hown (mvT hZ (hw _ (List.mem_of_getElem? (i := 33) rfl))) (mvT hZ (hw _ (List.mem_of_getElem? (i := 34) rfl))) (notFace_of_selects (args := #[]) (mvT hZ (hw _ (List.mem_of_getElem? (i := 36) rfl)))) (mvT hZ (hw _ (List.mem_of_getElem? (i := 36) rfl))) (mvT hZ (hw _ (List.mem_of_getElem? (i := 35) rfl))) (by decide) (backOf (W := 0) (rm5 l Z a0 hw [] a (1 : Int32) T2.heap n0 Z2 O2.2.2.2.2.2.2.2.1) hZ (hw _ (List.mem_of_getElem? (i := 37) rfl)) (hw _ (List.mem_of_getElem? (i := 2) rfl)) (by decide) (by decide)) qa3 qc3 (g := (mkF m 59 #[.val (.int p1), .val (.int p2), .val (.int p3), .val (.int p4), .val (.int p5), .val (.int (0 : Int32)), .val (.int (0 : Int32)), .val (.int (1 : Int32)), .val (.ref a)] [(.ref a)])) rfl (by rw [hml]; rfl) (Steps.refl _) (argsL := []) (rest := []) (lenOf pd_lc rfl) rfl (by show 2 * 0 + _ ≤ _; exact Nat.le_of_eq rfl) (hb hby at_59) (fun _ _ => ⟨rfl, rfl, (by decide : 6 + 0 ≤ _), (by decide : 17 + 0 ≤ _)⟩)
    dsimp only [Pt.U, Pt.locs, Pt.cells, Pt.slots] at X3 l3 y3 z3 st3 hQ3
    subst l3 y3 z3
    obtain ⟨rfl, N3q, e3⟩ := hQ3
    have N3 := Fr.app N2 N3q
    obtain ⟨cq4, kq4, qa4, qb4, qc4⟩ := isOf hZ e3 O2.1
    obtain ⟨_, _, ⟨T4, L4, k4, n4⟩, -, X4, ⟨Lc4, hQ4, l4, y4, z4⟩, st4⟩ := X3.virtualBack hx (y := (⟨"com/example/meticulous_handshake/meticuloushandshake/bisimulation/ArcsByLabel", "label", "(I)I"⟩ : MethodName)) (z := (⟨"com/example/meticulous_handshake/meticuloushandshake/bisimulation/ArcsByLabel", "label", "(I)I"⟩ : MethodName)) hown (mvT hZ (hw _ (List.mem_of_getElem? (i := 38) rfl))) (mvT hZ (hw _ (List.mem_of_getElem? (i := 39) rfl))) (notFace_of_selects (args := #[]) (mvT hZ (hw _ (List.mem_of_getElem? (i := 41) rfl)))) (mvT hZ (hw _ (List.mem_of_getElem? (i := 41) rfl))) (mvT hZ (hw _ (List.mem_of_getElem? (i := 40) rfl))) (by decide) (backOf (W := 0) (rm6 l Z a0 hw [] a (0 : Int32) bL [(.int (0 : Int32)), (.int (0 : Int32))] 0 (0 : Int32) T2.heap n0 Z2 O2.2.2.2.2.2.1 O2.2.2.2.2.2.2.2.2.2.2.2.2 (by decide) rfl rfl) hZ (hw _ (List.mem_of_getElem? (i := 42) rfl)) (hw _ (List.mem_of_getElem? (i := 2) rfl)) (by decide) (by decide)) qa4 qc4 (g := (mkF m 80 #[.val (.int p1), .val (.int p2), .val (.int p3), .val (.int p4), .val (.int p5), .val (.int (0 : Int32)), .val (.int (0 : Int32)), .val (.int (1 : Int32)), .val (.ref a)] [(.int (0 : Int32)), (.ref a)])) rfl (by rw [hml]; rfl) (Steps.refl _) (argsL := [(.int (0 : Int32))]) (rest := []) (lenOf pd_get rfl) rfl (by show 2 * 0 + _ ≤ _; exact Nat.le_of_eq rfl) (hb hby at_80) (fun _ _ => ⟨rfl, e3, (by decide : 6 + 0 ≤ _), (by decide : 17 + 0 ≤ _)⟩)
    dsimp only [Pt.U, Pt.locs, Pt.cells, Pt.slots] at X4 l4 y4 z4 st4 hQ4
    subst l4 y4 z4
    obtain ⟨rfl, N4q, e4⟩ := hQ4
    have N4 := Fr.app N3 N4q
    obtain ⟨cq5, kq5, qa5, qb5, qc5⟩ := isOf hZ e4 O2.1
    obtain ⟨_, _, ⟨T5, L5, k5, n5⟩, -, X5, ⟨Lc5, hQ5, l5, y5, z5⟩, st5⟩ := X4.virtualBack hx (y := (⟨"com/example/meticulous_handshake/meticuloushandshake/bisimulation/ArcsByLabel", "first", "(I)I"⟩ : MethodName)) (z := (⟨"com/example/meticulous_handshake/meticuloushandshake/bisimulation/ArcsByLabel", "first", "(I)I"⟩ : MethodName)) hown (mvT hZ (hw _ (List.mem_of_getElem? (i := 43) rfl))) (mvT hZ (hw _ (List.mem_of_getElem? (i := 44) rfl))) (notFace_of_selects (args := #[]) (mvT hZ (hw _ (List.mem_of_getElem? (i := 46) rfl)))) (mvT hZ (hw _ (List.mem_of_getElem? (i := 46) rfl))) (mvT hZ (hw _ (List.mem_of_getElem? (i := 45) rfl))) (by decide) (backOf (W := 0) (rm7 l Z a0 hw [] a (0 : Int32) bF [(.int (1 : Int32)), (.int (-1 : Int32))] 0 (1 : Int32) T2.heap n0 Z2 O2.2.2.2.2.1 O2.2.2.2.2.2.2.2.2.2.2.2.1 (by decide) rfl rfl) hZ (hw _ (List.mem_of_getElem? (i := 47) rfl)) (hw _ (List.mem_of_getElem? (i := 2) rfl)) (by decide) (by decide)) qa5 qc5 (g := (mkF m 112 #[.val (.int p1), .val (.int p2), .val (.int p3), .val (.int p4), .val (.int p5), .val (.int (0 : Int32)), .val (.int (0 : Int32)), .val (.int (1 : Int32)), .val (.ref a)] [(.int (0 : Int32)), (.ref a)])) rfl (by rw [hml]; rfl) (Steps.refl _) (argsL := [(.int (0 : Int32))]) (rest := []) (lenOf pd_get rfl) rfl (by show 2 * 0 + _ ≤ _; exact Nat.le_of_eq rfl) (hb hby at_112) (fun _ _ => ⟨rfl, e4, (by decide : 6 + 0 ≤ _), (by decide : 17 + 0 ≤ _)⟩)
    dsimp only [Pt.U, Pt.locs, Pt.cells, Pt.slots] at X5 l5 y5 z5 st5 hQ5
    subst l5 y5 z5
    obtain ⟨rfl, N5q, e5⟩ := hQ5
    have N5 := Fr.app N4 N5q
    obtain ⟨cq6, kq6, qa6, qb6, qc6⟩ := isOf hZ e5 O2.1
    obtain ⟨_, _, ⟨T6, L6, k6, n6⟩, -, X6, ⟨Lc6, hQ6, l6, y6, z6⟩, st6⟩ := X5.virtualBack hx (y := (⟨"com/example/meticulous_handshake/meticuloushandshake/bisimulation/ArcsByLabel", "first", "(I)I"⟩ : MethodName)) (z := (⟨"com/example/meticulous_handshake/meticuloushandshake/bisimulation/ArcsByLabel", "first", "(I)I"⟩ : MethodName)) hown (mvT hZ (hw _ (List.mem_of_getElem? (i := 43) rfl))) (mvT hZ (hw _ (List.mem_of_getElem? (i := 44) rfl))) (notFace_of_selects (args := #[]) (mvT hZ (hw _ (List.mem_of_getElem? (i := 46) rfl)))) (mvT hZ (hw _ (List.mem_of_getElem? (i := 46) rfl))) (mvT hZ (hw _ (List.mem_of_getElem? (i := 45) rfl))) (by decide) (backOf (W := 0) (rm7 l Z a0 hw [] a (1 : Int32) bF [(.int (1 : Int32)), (.int (-1 : Int32))] 1 (-1 : Int32) T2.heap n0 Z2 O2.2.2.2.2.1 O2.2.2.2.2.2.2.2.2.2.2.2.1 (by decide) rfl rfl) hZ (hw _ (List.mem_of_getElem? (i := 47) rfl)) (hw _ (List.mem_of_getElem? (i := 2) rfl)) (by decide) (by decide)) qa6 qc6 (g := (mkF m 149 #[.val (.int p1), .val (.int p2), .val (.int p3), .val (.int p4), .val (.int p5), .val (.int (0 : Int32)), .val (.int (0 : Int32)), .val (.int (1 : Int32)), .val (.ref a)] [(.int (1 : Int32)), (.ref a)])) rfl (by rw [hml]; rfl) (Steps.refl _) (argsL := [(.int (1 : Int32))]) (rest := []) (lenOf pd_get rfl) rfl (by show 2 * 0 + _ ≤ _; exact Nat.le_of_eq rfl) (hb hby at_149) (fun _ _ => ⟨rfl, e5, (by decide : 6 + 0 ≤ _), (by decide : 17 + 0 ≤ _)⟩)
    dsimp only [Pt.U, Pt.locs, Pt.cells, Pt.slots] at X6 l6 y6 z6 st6 hQ6
    subst l6 y6 z6
    obtain ⟨rfl, N6q, e6⟩ := hQ6
    have N6 := Fr.app N5 N6q
    obtain ⟨cq7, kq7, qa7, qb7, qc7⟩ := isOf hZ e6 O2.1
    obtain ⟨_, _, ⟨T7, L7, k7, n7⟩, -, X7, ⟨Lc7, hQ7, l7, y7, z7⟩, st7⟩ := X6.virtualBack hx (y := (⟨"com/example/meticulous_handshake/meticuloushandshake/bisimulation/ArcsByLabel", "next", "(I)I"⟩ : MethodName)) (z := (⟨"com/example/meticulous_handshake/meticuloushandshake/bisimulation/ArcsByLabel", "next", "(I)I"⟩ : MethodName)) hown (mvT hZ (hw _ (List.mem_of_getElem? (i := 48) rfl))) (mvT hZ (hw _ (List.mem_of_getElem? (i := 49) rfl))) (notFace_of_selects (args := #[]) (mvT hZ (hw _ (List.mem_of_getElem? (i := 51) rfl)))) (mvT hZ (hw _ (List.mem_of_getElem? (i := 51) rfl))) (mvT hZ (hw _ (List.mem_of_getElem? (i := 50) rfl))) (by decide) (backOf (W := 0) (rm8 l Z a0 hw [] a (1 : Int32) bN [(.int (-1 : Int32)), (.int (0 : Int32))] 1 (0 : Int32) T2.heap n0 Z2 O2.2.2.2.1 O2.2.2.2.2.2.2.2.2.2.2.1 (by decide) rfl rfl) hZ (hw _ (List.mem_of_getElem? (i := 52) rfl)) (hw _ (List.mem_of_getElem? (i := 2) rfl)) (by decide) (by decide)) qa7 qc7 (g := (mkF m 161 #[.val (.int p1), .val (.int p2), .val (.int p3), .val (.int p4), .val (.int p5), .val (.int (0 : Int32)), .val (.int (0 : Int32)), .val (.int (1 : Int32)), .val (.ref a)] [(.int (1 : Int32)), (.ref a)])) rfl (by rw [hml]; rfl) (Steps.refl _) (argsL := [(.int (1 : Int32))]) (rest := []) (lenOf pd_get rfl) rfl (by show 2 * 0 + _ ≤ _; exact Nat.le_of_eq rfl) (hb hby at_161) (fun _ _ => ⟨rfl, e6, (by decide : 6 + 0 ≤ _), (by decide : 17 + 0 ≤ _)⟩)
    dsimp only [Pt.U, Pt.locs, Pt.cells, Pt.slots] at X7 l7 y7 z7 st7 hQ7
    subst l7 y7 z7
    obtain ⟨rfl, N7q, e7⟩ := hQ7
    have N7 := Fr.app N6 N7q
    obtain ⟨cq8, kq8, qa8, qb8, qc8⟩ := isOf hZ e7 O2.1
    obtain ⟨_, _, ⟨T8, L8, k8, n8⟩, -, X8, ⟨Lc8, hQ8, l8, y8, z8⟩, st8⟩ := X7.virtualBack hx (y := (⟨"com/example/meticulous_handshake/meticuloushandshake/bisimulation/ArcsByLabel", "next", "(I)I"⟩ : MethodName)) (z := (⟨"com/example/meticulous_handshake/meticuloushandshake/bisimulation/ArcsByLabel", "next", "(I)I"⟩ : MethodName)) hown (mvT hZ (hw _ (List.mem_of_getElem? (i := 48) rfl))) (mvT hZ (hw _ (List.mem_of_getElem? (i := 49) rfl))) (notFace_of_selects (args := #[]) (mvT hZ (hw _ (List.mem_of_getElem? (i := 51) rfl)))) (mvT hZ (hw _ (List.mem_of_getElem? (i := 51) rfl))) (mvT hZ (hw _ (List.mem_of_getElem? (i := 50) rfl))) (by decide) (backOf (W := 0) (rm8 l Z a0 hw [] a (0 : Int32) bN [(.int (-1 : Int32)), (.int (0 : Int32))] 0 (-1 : Int32) T2.heap n0 Z2 O2.2.2.2.1 O2.2.2.2.2.2.2.2.2.2.2.1 (by decide) rfl rfl) hZ (hw _ (List.mem_of_getElem? (i := 52) rfl)) (hw _ (List.mem_of_getElem? (i := 2) rfl)) (by decide) (by decide)) qa8 qc8 (g := (mkF m 182 #[.val (.int p1), .val (.int p2), .val (.int p3), .val (.int p4), .val (.int p5), .val (.int (0 : Int32)), .val (.int (0 : Int32)), .val (.int (1 : Int32)), .val (.ref a)] [(.int (0 : Int32)), (.ref a)])) rfl (by rw [hml]; rfl) (Steps.refl _) (argsL := [(.int (0 : Int32))]) (rest := []) (lenOf pd_get rfl) rfl (by show 2 * 0 + _ ≤ _; exact Nat.le_of_eq rfl) (hb hby at_182) (fun _ _ => ⟨rfl, e7, (by decide : 6 + 0 ≤ _), (by decide : 17 + 0 ≤ _)⟩)
    dsimp only [Pt.U, Pt.locs, Pt.cells, Pt.slots] at X8 l8 y8 z8 st8 hQ8
    subst l8 y8 z8
    obtain ⟨rfl, N8q, e8⟩ := hQ8
    have N8 := Fr.app N7 N8q
    obtain ⟨cq9, kq9, qa9, qb9, qc9⟩ := isOf hZ e8 O2.1
    obtain ⟨_, _, ⟨T9, L9, k9, n9⟩, -, X9, ⟨Lc9, hQ9, l9, y9, z9⟩, st9⟩ := X8.virtualBack hx (y := (⟨"com/example/meticulous_handshake/meticuloushandshake/bisimulation/ArcsByLabel", "arc", "(I)I"⟩ : MethodName)) (z := (⟨"com/example/meticulous_handshake/meticuloushandshake/bisimulation/ArcsByLabel", "arc", "(I)I"⟩ : MethodName)) hown (mvT hZ (hw _ (List.mem_of_getElem? (i := 53) rfl))) (mvT hZ (hw _ (List.mem_of_getElem? (i := 54) rfl))) (notFace_of_selects (args := #[]) (mvT hZ (hw _ (List.mem_of_getElem? (i := 56) rfl)))) (mvT hZ (hw _ (List.mem_of_getElem? (i := 56) rfl))) (mvT hZ (hw _ (List.mem_of_getElem? (i := 55) rfl))) (by decide) (backOf (W := 0) (rm9 l Z a0 hw [] a (0 : Int32) bA [(.int p1), (.int p3)] 0 p1 T2.heap n0 Z2 O2.2.1 O2.2.2.2.2.2.2.2.2.1 (by decide) rfl rfl) hZ (hw _ (List.mem_of_getElem? (i := 57) rfl)) (hw _ (List.mem_of_getElem? (i := 2) rfl)) (by decide) (by decide)) qa9 qc9 (g := (mkF m 194 #[.val (.int p1), .val (.int p2), .val (.int p3), .val (.int p4), .val (.int p5), .val (.int (0 : Int32)), .val (.int (0 : Int32)), .val (.int (1 : Int32)), .val (.ref a)] [(.int (0 : Int32)), (.ref a)])) rfl (by rw [hml]; rfl) (Steps.refl _) (argsL := [(.int (0 : Int32))]) (rest := []) (lenOf pd_get rfl) rfl (by show 2 * 0 + _ ≤ _; exact Nat.le_of_eq rfl) (hb hby at_194) (fun _ _ => ⟨rfl, e8, (by decide : 6 + 0 ≤ _), (by decide : 17 + 0 ≤ _)⟩)
    dsimp only [Pt.U, Pt.locs, Pt.cells, Pt.slots] at X9 l9 y9 z9 st9 hQ9
    subst l9 y9 z9
    obtain ⟨rfl, N9q, e9⟩ := hQ9
    have N9 := Fr.app N8 N9q
    obtain ⟨cq10, kq10, qa10, qb10, qc10⟩ := isOf hZ e9 O2.1
    obtain ⟨_, _, ⟨T10, L10, k10, n10⟩, -, X10, ⟨Lc10, hQ10, l10, y10, z10⟩, st10⟩ := X9.virtualBack hx (y := (⟨"com/example/meticulous_handshake/meticuloushandshake/bisimulation/ArcsByLabel", "source", "(I)I"⟩ : MethodName)) (z := (⟨"com/example/meticulous_handshake/meticuloushandshake/bisimulation/ArcsByLabel", "source", "(I)I"⟩ : MethodName)) hown (mvT hZ (hw _ (List.mem_of_getElem? (i := 58) rfl))) (mvT hZ (hw _ (List.mem_of_getElem? (i := 59) rfl))) (notFace_of_selects (args := #[]) (mvT hZ (hw _ (List.mem_of_getElem? (i := 61) rfl)))) (mvT hZ (hw _ (List.mem_of_getElem? (i := 61) rfl))) (mvT hZ (hw _ (List.mem_of_getElem? (i := 60) rfl))) (by decide) (backOf (W := 0) (rm10 l Z a0 hw [] a (0 : Int32) bS [(.int p2), (.int p4)] 0 p2 T2.heap n0 Z2 O2.2.2.1 O2.2.2.2.2.2.2.2.2.2.1 (by decide) rfl rfl) hZ (hw _ (List.mem_of_getElem? (i := 62) rfl)) (hw _ (List.mem_of_getElem? (i := 2) rfl)) (by decide) (by decide)) qa10 qc10 (g := (mkF m 204 #[.val (.int p1), .val (.int p2), .val (.int p3), .val (.int p4), .val (.int p5), .val (.int (0 : Int32)), .val (.int (0 : Int32)), .val (.int (1 : Int32)), .val (.ref a)] [(.int (0 : Int32)), (.ref a)])) rfl (by rw [hml]; rfl) (Steps.refl _) (argsL := [(.int (0 : Int32))]) (rest := []) (lenOf pd_get rfl) rfl (by show 2 * 0 + _ ≤ _; exact Nat.le_of_eq rfl) (hb hby at_204) (fun _ _ => ⟨rfl, e9, (by decide : 6 + 0 ≤ _), (by decide : 17 + 0 ≤ _)⟩)
    dsimp only [Pt.U, Pt.locs, Pt.cells, Pt.slots] at X10 l10 y10 z10 st10 hQ10
    subst l10 y10 z10
    obtain ⟨rfl, N10q, e10⟩ := hQ10
    have N10 := Fr.app N9 N10q
    obtain ⟨cq11, kq11, qa11, qb11, qc11⟩ := isOf hZ e10 O2.1
    obtain ⟨_, _, ⟨T11, L11, k11, n11⟩, -, X11, ⟨Lc11, hQ11, l11, y11, z11⟩, st11⟩ := X10.virtualBack hx (y := (⟨"com/example/meticulous_handshake/meticuloushandshake/bisimulation/ArcsByLabel", "arc", "(I)I"⟩ : MethodName)) (z := (⟨"com/example/meticulous_handshake/meticuloushandshake/bisimulation/ArcsByLabel", "arc", "(I)I"⟩ : MethodName)) hown (mvT hZ (hw _ (List.mem_of_getElem? (i := 53) rfl))) (mvT hZ (hw _ (List.mem_of_getElem? (i := 54) rfl))) (notFace_of_selects (args := #[]) (mvT hZ (hw _ (List.mem_of_getElem? (i := 56) rfl)))) (mvT hZ (hw _ (List.mem_of_getElem? (i := 56) rfl))) (mvT hZ (hw _ (List.mem_of_getElem? (i := 55) rfl))) (by decide) (backOf (W := 0) (rm9 l Z a0 hw [] a (1 : Int32) bA [(.int p1), (.int p3)] 1 p3 T2.heap n0 Z2 O2.2.1 O2.2.2.2.2.2.2.2.2.1 (by decide) rfl rfl) hZ (hw _ (List.mem_of_getElem? (i := 57) rfl)) (hw _ (List.mem_of_getElem? (i := 2) rfl)) (by decide) (by decide)) qa11 qc11 (g := (mkF m 214 #[.val (.int p1), .val (.int p2), .val (.int p3), .val (.int p4), .val (.int p5), .val (.int (0 : Int32)), .val (.int (0 : Int32)), .val (.int (1 : Int32)), .val (.ref a)] [(.int (1 : Int32)), (.ref a)])) rfl (by rw [hml]; rfl) (Steps.refl _) (argsL := [(.int (1 : Int32))]) (rest := []) (lenOf pd_get rfl) rfl (by show 2 * 0 + _ ≤ _; exact Nat.le_of_eq rfl) (hb hby at_214) (fun _ _ => ⟨rfl, e10, (by decide : 6 + 0 ≤ _), (by decide : 17 + 0 ≤ _)⟩)
    dsimp only [Pt.U, Pt.locs, Pt.cells, Pt.slots] at X11 l11 y11 z11 st11 hQ11
    subst l11 y11 z11
    obtain ⟨rfl, N11q, e11⟩ := hQ11
    have N11 := Fr.app N10 N11q
    obtain ⟨cq12, kq12, qa12, qb12, qc12⟩ := isOf hZ e11 O2.1
    obtain ⟨_, _, ⟨T12, L12, k12, n12⟩, -, X12, ⟨Lc12, hQ12, l12, y12, z12⟩, st12⟩ := X11.virtualBack hx (y := (⟨"com/example/meticulous_handshake/meticuloushandshake/bisimulation/ArcsByLabel", "source", "(I)I"⟩ : MethodName)) (z := (⟨"com/example/meticulous_handshake/meticuloushandshake/bisimulation/ArcsByLabel", "source", "(I)I"⟩ : MethodName)) hown (mvT hZ (hw _ (List.mem_of_getElem? (i := 58) rfl))) (mvT hZ (hw _ (List.mem_of_getElem? (i := 59) rfl))) (notFace_of_selects (args := #[]) (mvT hZ (hw _ (List.mem_of_getElem? (i := 61) rfl)))) (mvT hZ (hw _ (List.mem_of_getElem? (i := 61) rfl))) (mvT hZ (hw _ (List.mem_of_getElem? (i := 60) rfl))) (by decide) (backOf (W := 0) (rm10 l Z a0 hw [] a (1 : Int32) bS [(.int p2), (.int p4)] 1 p4 T2.heap n0 Z2 O2.2.2.1 O2.2.2.2.2.2.2.2.2.2.1 (by decide) rfl rfl) hZ (hw _ (List.mem_of_getElem? (i := 62) rfl)) (hw _ (List.mem_of_getElem? (i := 2) rfl)) (by decide) (by decide)) qa12 qc12 (g := (mkF m 224 #[.val (.int p1), .val (.int p2), .val (.int p3), .val (.int p4), .val (.int p5), .val (.int (0 : Int32)), .val (.int (0 : Int32)), .val (.int (1 : Int32)), .val (.ref a)] [(.int (1 : Int32)), (.ref a)])) rfl (by rw [hml]; rfl) (Steps.refl _) (argsL := [(.int (1 : Int32))]) (rest := []) (lenOf pd_get rfl) rfl (by show 2 * 0 + _ ≤ _; exact Nat.le_of_eq rfl) (hb hby at_224) (fun _ _ => ⟨rfl, e11, (by decide : 6 + 0 ≤ _), (by decide : 17 + 0 ≤ _)⟩)
    dsimp only [Pt.U, Pt.locs, Pt.cells, Pt.slots] at X12 l12 y12 z12 st12 hQ12
    subst l12 y12 z12
    obtain ⟨rfl, N12q, e12⟩ := hQ12
    have N12 := Fr.app N11 N12q
    obtain ⟨fs, hr, hrun, hended, hW, hsame⟩ := X12.leave (v := some (.int (1 : Int32))) (fun h => by rw [Bd.returns] at h; cases h)
    refine ⟨_, _, pre0 _ (sg0 _ ?_), hrun, hended, _, _, rfl, ?_, ⟨_, rfl⟩, hW, hsame.mono (by decide) (by decide)⟩
    · show Steps p.tables e below (s₁.setTop (mkF m 14 #[.val (.int p1), .val (.int p2), .val (.int p3), .val (.int p4), .val (.int p5), .val (.int (0 : Int32)), .val (.int (0 : Int32)), .unset, .unset] [])) _
      refine XS.iload X0.here hx rfl (hb hby at_14) rfl ?_
      show Steps p.tables e below (s₁.setTop (mkF m 16 #[.val (.int p1), .val (.int p2), .val (.int p3), .val (.int p4), .val (.int p5), .val (.int (0 : Int32)), .val (.int (0 : Int32)), .unset, .unset] [(.int (0 : Int32))])) _
      refine XS.iload X0.here hx rfl (hb hby at_16) rfl ?_
      show Steps p.tables e below (s₁.setTop (mkF m 18 #[.val (.int p1), .val (.int p2), .val (.int p3), .val (.int p4), .val (.int p5), .val (.int (0 : Int32)), .val (.int (0 : Int32)), .unset, .unset] [(.int (0 : Int32)), (.int (0 : Int32))])) _
      refine XS.icmpNo X0.here hx rfl (hb hby at_18) rfl (teq (by decide : (0 : Int32) = (0 : Int32))).2 ?_
      show Steps p.tables e below (s₁.setTop (mkF m 21 #[.val (.int p1), .val (.int p2), .val (.int p3), .val (.int p4), .val (.int p5), .val (.int (0 : Int32)), .val (.int (0 : Int32)), .unset, .unset] [])) _
      refine XS.iconst X0.here hx rfl (hb hby at_21) ?_
      show Steps p.tables e below (s₁.setTop (mkF m 22 #[.val (.int p1), .val (.int p2), .val (.int p3), .val (.int p4), .val (.int p5), .val (.int (0 : Int32)), .val (.int (0 : Int32)), .unset, .unset] [(.int (1 : Int32))])) _
      refine XS.goto X0.here hx rfl (pc0 := 22) (pc' := 26) rfl (hb hby at_22) (by decide) (by decide) ?_
      show Steps p.tables e below (s₁.setTop (mkF m 26 #[.val (.int p1), .val (.int p2), .val (.int p3), .val (.int p4), .val (.int p5), .val (.int (0 : Int32)), .val (.int (0 : Int32)), .unset, .unset] [(.int (1 : Int32))])) _
      refine XS.istore X0.here hx rfl (hb hby at_26) rfl (l' := #[.val (.int p1), .val (.int p2), .val (.int p3), .val (.int p4), .val (.int p5), .val (.int (0 : Int32)), .val (.int (0 : Int32)), .val (.int (1 : Int32)), .unset]) rfl ?_
      show Steps p.tables e below (s₁.setTop (mkF m 28 #[.val (.int p1), .val (.int p2), .val (.int p3), .val (.int p4), .val (.int p5), .val (.int (0 : Int32)), .val (.int (0 : Int32)), .val (.int (1 : Int32)), .unset] [])) _
      refine stO _ ?_
      show Steps p.tables e below (TO.setTop (mkF m 31 #[.val (.int p1), .val (.int p2), .val (.int p3), .val (.int p4), .val (.int p5), .val (.int (0 : Int32)), .val (.int (0 : Int32)), .val (.int (1 : Int32)), .unset] [(.ref a)])) _
      refine XS.dup XO.here hx rfl (hb hby at_31) rfl rfl ?_
      show Steps p.tables e below (TO.setTop (mkF m 32 #[.val (.int p1), .val (.int p2), .val (.int p3), .val (.int p4), .val (.int p5), .val (.int (0 : Int32)), .val (.int (0 : Int32)), .val (.int (1 : Int32)), .unset] [(.ref a), (.ref a)])) _
      refine XS.iconst XO.here hx rfl (hb hby at_32) ?_
      show Steps p.tables e below (TO.setTop (mkF m 33 #[.val (.int p1), .val (.int p2), .val (.int p3), .val (.int p4), .val (.int p5), .val (.int (0 : Int32)), .val (.int (0 : Int32)), .val (.int (1 : Int32)), .unset] [(.int (2 : Int32)), (.ref a), (.ref a)])) _
      refine XS.iconst XO.here hx rfl (hb hby at_33) ?_
      show Steps p.tables e below (TO.setTop (mkF m 34 #[.val (.int p1), .val (.int p2), .val (.int p3), .val (.int p4), .val (.int p5), .val (.int (0 : Int32)), .val (.int (0 : Int32)), .val (.int (1 : Int32)), .unset] [(.int (2 : Int32)), (.int (2 : Int32)), (.ref a), (.ref a)])) _
      refine stC.trans ?_
      show Steps p.tables e below (TC.setTop (mkF m 37 #[.val (.int p1), .val (.int p2), .val (.int p3), .val (.int p4), .val (.int p5), .val (.int (0 : Int32)), .val (.int (0 : Int32)), .val (.int (1 : Int32)), .unset] [(.ref a)])) _
      refine XS.astore XC.here hx rfl (hb hby at_37) rfl rfl (l' := #[.val (.int p1), .val (.int p2), .val (.int p3), .val (.int p4), .val (.int p5), .val (.int (0 : Int32)), .val (.int (0 : Int32)), .val (.int (1 : Int32)), .val (.ref a)]) rfl ?_
      show Steps p.tables e below (TC.setTop (mkF m 39 #[.val (.int p1), .val (.int p2), .val (.int p3), .val (.int p4), .val (.int p5), .val (.int (0 : Int32)), .val (.int (0 : Int32)), .val (.int (1 : Int32)), .val (.ref a)] [])) _
      refine XS.aload XC.here hx rfl (hb hby at_39) rfl rfl ?_
      show Steps p.tables e below (TC.setTop (mkF m 41 #[.val (.int p1), .val (.int p2), .val (.int p3), .val (.int p4), .val (.int p5), .val (.int (0 : Int32)), .val (.int (0 : Int32)), .val (.int (1 : Int32)), .val (.ref a)] [(.ref a)])) _
      refine XS.iloadN XC.here hx rfl (hb hby at_41) rfl ?_
      show Steps p.tables e below (TC.setTop (mkF m 42 #[.val (.int p1), .val (.int p2), .val (.int p3), .val (.int p4), .val (.int p5), .val (.int (0 : Int32)), .val (.int (0 : Int32)), .val (.int (1 : Int32)), .val (.ref a)] [(.int p1), (.ref a)])) _
      refine XS.iloadN XC.here hx rfl (hb hby at_42) rfl ?_
      show Steps p.tables e below (TC.setTop (mkF m 43 #[.val (.int p1), .val (.int p2), .val (.int p3), .val (.int p4), .val (.int p5), .val (.int (0 : Int32)), .val (.int (0 : Int32)), .val (.int (1 : Int32)), .val (.ref a)] [(.int p2), (.int p1), (.ref a)])) _
      refine XS.iload XC.here hx rfl (hb hby at_43) rfl ?_
      show Steps p.tables e below (TC.setTop (mkF m 45 #[.val (.int p1), .val (.int p2), .val (.int p3), .val (.int p4), .val (.int p5), .val (.int (0 : Int32)), .val (.int (0 : Int32)), .val (.int (1 : Int32)), .val (.ref a)] [(.int (0 : Int32)), (.int p2), (.int p1), (.ref a)])) _
      refine st1.trans ?_
      show Steps p.tables e below (T1.setTop (mkF m 48 #[.val (.int p1), .val (.int p2), .val (.int p3), .val (.int p4), .val (.int p5), .val (.int (0 : Int32)), .val (.int (0 : Int32)), .val (.int (1 : Int32)), .val (.ref a)] [])) _
      refine XS.aload X1.here hx rfl (hb hby at_48) rfl rfl ?_
      show Steps p.tables e below (T1.setTop (mkF m 50 #[.val (.int p1), .val (.int p2), .val (.int p3), .val (.int p4), .val (.int p5), .val (.int (0 : Int32)), .val (.int (0 : Int32)), .val (.int (1 : Int32)), .val (.ref a)] [(.ref a)])) _
      refine XS.iloadN X1.here hx rfl (hb hby at_50) rfl ?_
      show Steps p.tables e below (T1.setTop (mkF m 51 #[.val (.int p1), .val (.int p2), .val (.int p3), .val (.int p4), .val (.int p5), .val (.int (0 : Int32)), .val (.int (0 : Int32)), .val (.int (1 : Int32)), .val (.ref a)] [(.int p3), (.ref a)])) _
      refine XS.iloadN X1.here hx rfl (hb hby at_51) rfl ?_
      show Steps p.tables e below (T1.setTop (mkF m 52 #[.val (.int p1), .val (.int p2), .val (.int p3), .val (.int p4), .val (.int p5), .val (.int (0 : Int32)), .val (.int (0 : Int32)), .val (.int (1 : Int32)), .val (.ref a)] [(.int p4), (.int p3), (.ref a)])) _
      refine XS.iload X1.here hx rfl (hb hby at_52) rfl ?_
      show Steps p.tables e below (T1.setTop (mkF m 54 #[.val (.int p1), .val (.int p2), .val (.int p3), .val (.int p4), .val (.int p5), .val (.int (0 : Int32)), .val (.int (0 : Int32)), .val (.int (1 : Int32)), .val (.ref a)] [(.int (0 : Int32)), (.int p4), (.int p3), (.ref a)])) _
      refine st2.trans ?_
      show Steps p.tables e below (T2.setTop (mkF m 57 #[.val (.int p1), .val (.int p2), .val (.int p3), .val (.int p4), .val (.int p5), .val (.int (0 : Int32)), .val (.int (0 : Int32)), .val (.int (1 : Int32)), .val (.ref a)] [])) _
      refine XS.aload X2.here hx rfl (hb hby at_57) rfl rfl ?_
      show Steps p.tables e below (T2.setTop (mkF m 59 #[.val (.int p1), .val (.int p2), .val (.int p3), .val (.int p4), .val (.int p5), .val (.int (0 : Int32)), .val (.int (0 : Int32)), .val (.int (1 : Int32)), .val (.ref a)] [(.ref a)])) _
      refine st3.trans ?_
      show Steps p.tables e below (T3.setTop (mkF m 62 #[.val (.int p1), .val (.int p2), .val (.int p3), .val (.int p4), .val (.int p5), .val (.int (0 : Int32)), .val (.int (0 : Int32)), .val (.int (1 : Int32)), .val (.ref a)] [(.int (1 : Int32))])) _
      refine XS.iload X3.here hx rfl (hb hby at_62) rfl ?_
      show Steps p.tables e below (T3.setTop (mkF m 64 #[.val (.int p1), .val (.int p2), .val (.int p3), .val (.int p4), .val (.int p5), .val (.int (0 : Int32)), .val (.int (0 : Int32)), .val (.int (1 : Int32)), .val (.ref a)] [(.int (1 : Int32)), (.int (1 : Int32))])) _
      refine XS.ifNo X3.here hx rfl (hb hby at_64) rfl ((if0 _ _).trans (feq (by decide : ¬ ((1 : Int32) = (0 : Int32)))).1) ?_
      show Steps p.tables e below (T3.setTop (mkF m 67 #[.val (.int p1), .val (.int p2), .val (.int p3), .val (.int p4), .val (.int p5), .val (.int (0 : Int32)), .val (.int (0 : Int32)), .val (.int (1 : Int32)), .val (.ref a)] [(.int (1 : Int32))])) _
      refine XS.iconst X3.here hx rfl (hb hby at_67) ?_
      show Steps p.tables e below (T3.setTop (mkF m 68 #[.val (.int p1), .val (.int p2), .val (.int p3), .val (.int p4), .val (.int p5), .val (.int (0 : Int32)), .val (.int (0 : Int32)), .val (.int (1 : Int32)), .val (.ref a)] [(.int (1 : Int32)), (.int (1 : Int32))])) _
      refine XS.goto X3.here hx rfl (pc0 := 68) (pc' := 72) rfl (hb hby at_68) (by decide) (by decide) ?_
      show Steps p.tables e below (T3.setTop (mkF m 72 #[.val (.int p1), .val (.int p2), .val (.int p3), .val (.int p4), .val (.int p5), .val (.int (0 : Int32)), .val (.int (0 : Int32)), .val (.int (1 : Int32)), .val (.ref a)] [(.int (1 : Int32)), (.int (1 : Int32))])) _
      refine XS.icmpYes X3.here hx rfl (pc0 := 72) (pc' := 77) rfl (hb hby at_72) rfl (teq (by decide : (1 : Int32) = (1 : Int32))).1 (by decide) (by decide) ?_
      show Steps p.tables e below (T3.setTop (mkF m 77 #[.val (.int p1), .val (.int p2), .val (.int p3), .val (.int p4), .val (.int p5), .val (.int (0 : Int32)), .val (.int (0 : Int32)), .val (.int (1 : Int32)), .val (.ref a)] [])) _
      refine XS.aload X3.here hx rfl (hb hby at_77) rfl rfl ?_
      show Steps p.tables e below (T3.setTop (mkF m 79 #[.val (.int p1), .val (.int p2), .val (.int p3), .val (.int p4), .val (.int p5), .val (.int (0 : Int32)), .val (.int (0 : Int32)), .val (.int (1 : Int32)), .val (.ref a)] [(.ref a)])) _
      refine XS.iconst X3.here hx rfl (hb hby at_79) ?_
      show Steps p.tables e below (T3.setTop (mkF m 80 #[.val (.int p1), .val (.int p2), .val (.int p3), .val (.int p4), .val (.int p5), .val (.int (0 : Int32)), .val (.int (0 : Int32)), .val (.int (1 : Int32)), .val (.ref a)] [(.int (0 : Int32)), (.ref a)])) _
      refine st4.trans ?_
      show Steps p.tables e below (T4.setTop (mkF m 83 #[.val (.int p1), .val (.int p2), .val (.int p3), .val (.int p4), .val (.int p5), .val (.int (0 : Int32)), .val (.int (0 : Int32)), .val (.int (1 : Int32)), .val (.ref a)] [(.int (0 : Int32))])) _
      refine XS.iload X4.here hx rfl (hb hby at_83) rfl ?_
      show Steps p.tables e below (T4.setTop (mkF m 85 #[.val (.int p1), .val (.int p2), .val (.int p3), .val (.int p4), .val (.int p5), .val (.int (0 : Int32)), .val (.int (0 : Int32)), .val (.int (1 : Int32)), .val (.ref a)] [(.int (0 : Int32)), (.int (0 : Int32))])) _
      refine XS.icmpYes X4.here hx rfl (pc0 := 85) (pc' := 90) rfl (hb hby at_85) rfl (teq (by decide : (0 : Int32) = (0 : Int32))).1 (by decide) (by decide) ?_
      show Steps p.tables e below (T4.setTop (mkF m 90 #[.val (.int p1), .val (.int p2), .val (.int p3), .val (.int p4), .val (.int p5), .val (.int (0 : Int32)), .val (.int (0 : Int32)), .val (.int (1 : Int32)), .val (.ref a)] [])) _
      refine XS.iload X4.here hx rfl (hb hby at_90) rfl ?_
      show Steps p.tables e below (T4.setTop (mkF m 92 #[.val (.int p1), .val (.int p2), .val (.int p3), .val (.int p4), .val (.int p5), .val (.int (0 : Int32)), .val (.int (0 : Int32)), .val (.int (1 : Int32)), .val (.ref a)] [(.int (1 : Int32))])) _
      refine XS.ifYes X4.here hx rfl (pc0 := 92) (pc' := 108) rfl (hb hby at_92) rfl ((if0 _ _).trans (feq (by decide : ¬ ((1 : Int32) = (0 : Int32)))).2) (by decide) (by decide) ?_
      show Steps p.tables e below (T4.setTop (mkF m 108 #[.val (.int p1), .val (.int p2), .val (.int p3), .val (.int p4), .val (.int p5), .val (.int (0 : Int32)), .val (.int (0 : Int32)), .val (.int (1 : Int32)), .val (.ref a)] [])) _
      refine XS.aload X4.here hx rfl (hb hby at_108) rfl rfl ?_
      show Steps p.tables e below (T4.setTop (mkF m 110 #[.val (.int p1), .val (.int p2), .val (.int p3), .val (.int p4), .val (.int p5), .val (.int (0 : Int32)), .val (.int (0 : Int32)), .val (.int (1 : Int32)), .val (.ref a)] [(.ref a)])) _
      refine XS.iload X4.here hx rfl (hb hby at_110) rfl ?_
      show Steps p.tables e below (T4.setTop (mkF m 112 #[.val (.int p1), .val (.int p2), .val (.int p3), .val (.int p4), .val (.int p5), .val (.int (0 : Int32)), .val (.int (0 : Int32)), .val (.int (1 : Int32)), .val (.ref a)] [(.int (0 : Int32)), (.ref a)])) _
      refine st5.trans ?_
      show Steps p.tables e below (T5.setTop (mkF m 115 #[.val (.int p1), .val (.int p2), .val (.int p3), .val (.int p4), .val (.int p5), .val (.int (0 : Int32)), .val (.int (0 : Int32)), .val (.int (1 : Int32)), .val (.ref a)] [(.int (1 : Int32))])) _
      refine XS.iconst X5.here hx rfl (hb hby at_115) ?_
      show Steps p.tables e below (T5.setTop (mkF m 116 #[.val (.int p1), .val (.int p2), .val (.int p3), .val (.int p4), .val (.int p5), .val (.int (0 : Int32)), .val (.int (0 : Int32)), .val (.int (1 : Int32)), .val (.ref a)] [(.int (1 : Int32)), (.int (1 : Int32))])) _
      refine XS.icmpYes X5.here hx rfl (pc0 := 116) (pc' := 121) rfl (hb hby at_116) rfl (teq (by decide : (1 : Int32) = (1 : Int32))).1 (by decide) (by decide) ?_
      show Steps p.tables e below (T5.setTop (mkF m 121 #[.val (.int p1), .val (.int p2), .val (.int p3), .val (.int p4), .val (.int p5), .val (.int (0 : Int32)), .val (.int (0 : Int32)), .val (.int (1 : Int32)), .val (.ref a)] [])) _
      refine XS.iload X5.here hx rfl (hb hby at_121) rfl ?_
      show Steps p.tables e below (T5.setTop (mkF m 123 #[.val (.int p1), .val (.int p2), .val (.int p3), .val (.int p4), .val (.int p5), .val (.int (0 : Int32)), .val (.int (0 : Int32)), .val (.int (1 : Int32)), .val (.ref a)] [(.int (1 : Int32))])) _
      refine XS.ifYes X5.here hx rfl (pc0 := 123) (pc' := 138) rfl (hb hby at_123) rfl ((if0 _ _).trans (feq (by decide : ¬ ((1 : Int32) = (0 : Int32)))).2) (by decide) (by decide) ?_
      show Steps p.tables e below (T5.setTop (mkF m 138 #[.val (.int p1), .val (.int p2), .val (.int p3), .val (.int p4), .val (.int p5), .val (.int (0 : Int32)), .val (.int (0 : Int32)), .val (.int (1 : Int32)), .val (.ref a)] [])) _
      refine XS.iload X5.here hx rfl (hb hby at_138) rfl ?_
      show Steps p.tables e below (T5.setTop (mkF m 140 #[.val (.int p1), .val (.int p2), .val (.int p3), .val (.int p4), .val (.int p5), .val (.int (0 : Int32)), .val (.int (0 : Int32)), .val (.int (1 : Int32)), .val (.ref a)] [(.int (1 : Int32))])) _
      refine XS.ifNo X5.here hx rfl (hb hby at_140) rfl ((if0 _ _).trans (feq (by decide : ¬ ((1 : Int32) = (0 : Int32)))).1) ?_
      show Steps p.tables e below (T5.setTop (mkF m 143 #[.val (.int p1), .val (.int p2), .val (.int p3), .val (.int p4), .val (.int p5), .val (.int (0 : Int32)), .val (.int (0 : Int32)), .val (.int (1 : Int32)), .val (.ref a)] [])) _
      refine XS.aload X5.here hx rfl (hb hby at_143) rfl rfl ?_
      show Steps p.tables e below (T5.setTop (mkF m 145 #[.val (.int p1), .val (.int p2), .val (.int p3), .val (.int p4), .val (.int p5), .val (.int (0 : Int32)), .val (.int (0 : Int32)), .val (.int (1 : Int32)), .val (.ref a)] [(.ref a)])) _
      refine XS.iconst X5.here hx rfl (hb hby at_145) ?_
      show Steps p.tables e below (T5.setTop (mkF m 146 #[.val (.int p1), .val (.int p2), .val (.int p3), .val (.int p4), .val (.int p5), .val (.int (0 : Int32)), .val (.int (0 : Int32)), .val (.int (1 : Int32)), .val (.ref a)] [(.int (1 : Int32)), (.ref a)])) _
      refine XS.iload X5.here hx rfl (hb hby at_146) rfl ?_
      show Steps p.tables e below (T5.setTop (mkF m 148 #[.val (.int p1), .val (.int p2), .val (.int p3), .val (.int p4), .val (.int p5), .val (.int (0 : Int32)), .val (.int (0 : Int32)), .val (.int (1 : Int32)), .val (.ref a)] [(.int (0 : Int32)), (.int (1 : Int32)), (.ref a)])) _
      refine XS.isub X5.here hx rfl (hb hby at_148) rfl ?_
      show Steps p.tables e below (T5.setTop (mkF m 149 #[.val (.int p1), .val (.int p2), .val (.int p3), .val (.int p4), .val (.int p5), .val (.int (0 : Int32)), .val (.int (0 : Int32)), .val (.int (1 : Int32)), .val (.ref a)] [(.int (1 : Int32)), (.ref a)])) _
      refine st6.trans ?_
      show Steps p.tables e below (T6.setTop (mkF m 152 #[.val (.int p1), .val (.int p2), .val (.int p3), .val (.int p4), .val (.int p5), .val (.int (0 : Int32)), .val (.int (0 : Int32)), .val (.int (1 : Int32)), .val (.ref a)] [(.int (-1 : Int32))])) _
      refine XS.iconst X6.here hx rfl (hb hby at_152) ?_
      show Steps p.tables e below (T6.setTop (mkF m 153 #[.val (.int p1), .val (.int p2), .val (.int p3), .val (.int p4), .val (.int p5), .val (.int (0 : Int32)), .val (.int (0 : Int32)), .val (.int (1 : Int32)), .val (.ref a)] [(.int (-1 : Int32)), (.int (-1 : Int32))])) _
      refine XS.icmpYes X6.here hx rfl (pc0 := 153) (pc' := 158) rfl (hb hby at_153) rfl (teq (by decide : (-1 : Int32) = (-1 : Int32))).1 (by decide) (by decide) ?_
      show Steps p.tables e below (T6.setTop (mkF m 158 #[.val (.int p1), .val (.int p2), .val (.int p3), .val (.int p4), .val (.int p5), .val (.int (0 : Int32)), .val (.int (0 : Int32)), .val (.int (1 : Int32)), .val (.ref a)] [])) _
      refine XS.aload X6.here hx rfl (hb hby at_158) rfl rfl ?_
      show Steps p.tables e below (T6.setTop (mkF m 160 #[.val (.int p1), .val (.int p2), .val (.int p3), .val (.int p4), .val (.int p5), .val (.int (0 : Int32)), .val (.int (0 : Int32)), .val (.int (1 : Int32)), .val (.ref a)] [(.ref a)])) _
      refine XS.iconst X6.here hx rfl (hb hby at_160) ?_
      show Steps p.tables e below (T6.setTop (mkF m 161 #[.val (.int p1), .val (.int p2), .val (.int p3), .val (.int p4), .val (.int p5), .val (.int (0 : Int32)), .val (.int (0 : Int32)), .val (.int (1 : Int32)), .val (.ref a)] [(.int (1 : Int32)), (.ref a)])) _
      refine st7.trans ?_
      show Steps p.tables e below (T7.setTop (mkF m 164 #[.val (.int p1), .val (.int p2), .val (.int p3), .val (.int p4), .val (.int p5), .val (.int (0 : Int32)), .val (.int (0 : Int32)), .val (.int (1 : Int32)), .val (.ref a)] [(.int (0 : Int32))])) _
      refine XS.iload X7.here hx rfl (hb hby at_164) rfl ?_
      show Steps p.tables e below (T7.setTop (mkF m 166 #[.val (.int p1), .val (.int p2), .val (.int p3), .val (.int p4), .val (.int p5), .val (.int (0 : Int32)), .val (.int (0 : Int32)), .val (.int (1 : Int32)), .val (.ref a)] [(.int (1 : Int32)), (.int (0 : Int32))])) _
      refine XS.ifNo X7.here hx rfl (hb hby at_166) rfl ((if0 _ _).trans (feq (by decide : ¬ ((1 : Int32) = (0 : Int32)))).1) ?_
      show Steps p.tables e below (T7.setTop (mkF m 169 #[.val (.int p1), .val (.int p2), .val (.int p3), .val (.int p4), .val (.int p5), .val (.int (0 : Int32)), .val (.int (0 : Int32)), .val (.int (1 : Int32)), .val (.ref a)] [(.int (0 : Int32))])) _
      refine XS.iconst X7.here hx rfl (hb hby at_169) ?_
      show Steps p.tables e below (T7.setTop (mkF m 170 #[.val (.int p1), .val (.int p2), .val (.int p3), .val (.int p4), .val (.int p5), .val (.int (0 : Int32)), .val (.int (0 : Int32)), .val (.int (1 : Int32)), .val (.ref a)] [(.int (0 : Int32)), (.int (0 : Int32))])) _
      refine XS.goto X7.here hx rfl (pc0 := 170) (pc' := 174) rfl (hb hby at_170) (by decide) (by decide) ?_
      show Steps p.tables e below (T7.setTop (mkF m 174 #[.val (.int p1), .val (.int p2), .val (.int p3), .val (.int p4), .val (.int p5), .val (.int (0 : Int32)), .val (.int (0 : Int32)), .val (.int (1 : Int32)), .val (.ref a)] [(.int (0 : Int32)), (.int (0 : Int32))])) _
      refine XS.icmpYes X7.here hx rfl (pc0 := 174) (pc' := 179) rfl (hb hby at_174) rfl (teq (by decide : (0 : Int32) = (0 : Int32))).1 (by decide) (by decide) ?_
      show Steps p.tables e below (T7.setTop (mkF m 179 #[.val (.int p1), .val (.int p2), .val (.int p3), .val (.int p4), .val (.int p5), .val (.int (0 : Int32)), .val (.int (0 : Int32)), .val (.int (1 : Int32)), .val (.ref a)] [])) _
      refine XS.aload X7.here hx rfl (hb hby at_179) rfl rfl ?_
      show Steps p.tables e below (T7.setTop (mkF m 181 #[.val (.int p1), .val (.int p2), .val (.int p3), .val (.int p4), .val (.int p5), .val (.int (0 : Int32)), .val (.int (0 : Int32)), .val (.int (1 : Int32)), .val (.ref a)] [(.ref a)])) _
      refine XS.iconst X7.here hx rfl (hb hby at_181) ?_
      show Steps p.tables e below (T7.setTop (mkF m 182 #[.val (.int p1), .val (.int p2), .val (.int p3), .val (.int p4), .val (.int p5), .val (.int (0 : Int32)), .val (.int (0 : Int32)), .val (.int (1 : Int32)), .val (.ref a)] [(.int (0 : Int32)), (.ref a)])) _
      refine st8.trans ?_
      show Steps p.tables e below (T8.setTop (mkF m 185 #[.val (.int p1), .val (.int p2), .val (.int p3), .val (.int p4), .val (.int p5), .val (.int (0 : Int32)), .val (.int (0 : Int32)), .val (.int (1 : Int32)), .val (.ref a)] [(.int (-1 : Int32))])) _
      refine XS.iconst X8.here hx rfl (hb hby at_185) ?_
      show Steps p.tables e below (T8.setTop (mkF m 186 #[.val (.int p1), .val (.int p2), .val (.int p3), .val (.int p4), .val (.int p5), .val (.int (0 : Int32)), .val (.int (0 : Int32)), .val (.int (1 : Int32)), .val (.ref a)] [(.int (-1 : Int32)), (.int (-1 : Int32))])) _
      refine XS.icmpYes X8.here hx rfl (pc0 := 186) (pc' := 191) rfl (hb hby at_186) rfl (teq (by decide : (-1 : Int32) = (-1 : Int32))).1 (by decide) (by decide) ?_
      show Steps p.tables e below (T8.setTop (mkF m 191 #[.val (.int p1), .val (.int p2), .val (.int p3), .val (.int p4), .val (.int p5), .val (.int (0 : Int32)), .val (.int (0 : Int32)), .val (.int (1 : Int32)), .val (.ref a)] [])) _
      refine XS.aload X8.here hx rfl (hb hby at_191) rfl rfl ?_
      show Steps p.tables e below (T8.setTop (mkF m 193 #[.val (.int p1), .val (.int p2), .val (.int p3), .val (.int p4), .val (.int p5), .val (.int (0 : Int32)), .val (.int (0 : Int32)), .val (.int (1 : Int32)), .val (.ref a)] [(.ref a)])) _
      refine XS.iconst X8.here hx rfl (hb hby at_193) ?_
      show Steps p.tables e below (T8.setTop (mkF m 194 #[.val (.int p1), .val (.int p2), .val (.int p3), .val (.int p4), .val (.int p5), .val (.int (0 : Int32)), .val (.int (0 : Int32)), .val (.int (1 : Int32)), .val (.ref a)] [(.int (0 : Int32)), (.ref a)])) _
      refine st9.trans ?_
      show Steps p.tables e below (T9.setTop (mkF m 197 #[.val (.int p1), .val (.int p2), .val (.int p3), .val (.int p4), .val (.int p5), .val (.int (0 : Int32)), .val (.int (0 : Int32)), .val (.int (1 : Int32)), .val (.ref a)] [(.int p1)])) _
      refine XS.iloadN X9.here hx rfl (hb hby at_197) rfl ?_
      show Steps p.tables e below (T9.setTop (mkF m 198 #[.val (.int p1), .val (.int p2), .val (.int p3), .val (.int p4), .val (.int p5), .val (.int (0 : Int32)), .val (.int (0 : Int32)), .val (.int (1 : Int32)), .val (.ref a)] [(.int p1), (.int p1)])) _
      refine XS.icmpNo X9.here hx rfl (hb hby at_198) rfl (teq (rfl : p1 = p1)).2 ?_
      show Steps p.tables e below (T9.setTop (mkF m 201 #[.val (.int p1), .val (.int p2), .val (.int p3), .val (.int p4), .val (.int p5), .val (.int (0 : Int32)), .val (.int (0 : Int32)), .val (.int (1 : Int32)), .val (.ref a)] [])) _
      refine XS.aload X9.here hx rfl (hb hby at_201) rfl rfl ?_
      show Steps p.tables e below (T9.setTop (mkF m 203 #[.val (.int p1), .val (.int p2), .val (.int p3), .val (.int p4), .val (.int p5), .val (.int (0 : Int32)), .val (.int (0 : Int32)), .val (.int (1 : Int32)), .val (.ref a)] [(.ref a)])) _
      refine XS.iconst X9.here hx rfl (hb hby at_203) ?_
      show Steps p.tables e below (T9.setTop (mkF m 204 #[.val (.int p1), .val (.int p2), .val (.int p3), .val (.int p4), .val (.int p5), .val (.int (0 : Int32)), .val (.int (0 : Int32)), .val (.int (1 : Int32)), .val (.ref a)] [(.int (0 : Int32)), (.ref a)])) _
      refine st10.trans ?_
      show Steps p.tables e below (T10.setTop (mkF m 207 #[.val (.int p1), .val (.int p2), .val (.int p3), .val (.int p4), .val (.int p5), .val (.int (0 : Int32)), .val (.int (0 : Int32)), .val (.int (1 : Int32)), .val (.ref a)] [(.int p2)])) _
      refine XS.iloadN X10.here hx rfl (hb hby at_207) rfl ?_
      show Steps p.tables e below (T10.setTop (mkF m 208 #[.val (.int p1), .val (.int p2), .val (.int p3), .val (.int p4), .val (.int p5), .val (.int (0 : Int32)), .val (.int (0 : Int32)), .val (.int (1 : Int32)), .val (.ref a)] [(.int p2), (.int p2)])) _
      refine XS.icmpNo X10.here hx rfl (hb hby at_208) rfl (teq (rfl : p2 = p2)).2 ?_
      show Steps p.tables e below (T10.setTop (mkF m 211 #[.val (.int p1), .val (.int p2), .val (.int p3), .val (.int p4), .val (.int p5), .val (.int (0 : Int32)), .val (.int (0 : Int32)), .val (.int (1 : Int32)), .val (.ref a)] [])) _
      refine XS.aload X10.here hx rfl (hb hby at_211) rfl rfl ?_
      show Steps p.tables e below (T10.setTop (mkF m 213 #[.val (.int p1), .val (.int p2), .val (.int p3), .val (.int p4), .val (.int p5), .val (.int (0 : Int32)), .val (.int (0 : Int32)), .val (.int (1 : Int32)), .val (.ref a)] [(.ref a)])) _
      refine XS.iconst X10.here hx rfl (hb hby at_213) ?_
      show Steps p.tables e below (T10.setTop (mkF m 214 #[.val (.int p1), .val (.int p2), .val (.int p3), .val (.int p4), .val (.int p5), .val (.int (0 : Int32)), .val (.int (0 : Int32)), .val (.int (1 : Int32)), .val (.ref a)] [(.int (1 : Int32)), (.ref a)])) _
      refine st11.trans ?_
      show Steps p.tables e below (T11.setTop (mkF m 217 #[.val (.int p1), .val (.int p2), .val (.int p3), .val (.int p4), .val (.int p5), .val (.int (0 : Int32)), .val (.int (0 : Int32)), .val (.int (1 : Int32)), .val (.ref a)] [(.int p3)])) _
      refine XS.iloadN X11.here hx rfl (hb hby at_217) rfl ?_
      show Steps p.tables e below (T11.setTop (mkF m 218 #[.val (.int p1), .val (.int p2), .val (.int p3), .val (.int p4), .val (.int p5), .val (.int (0 : Int32)), .val (.int (0 : Int32)), .val (.int (1 : Int32)), .val (.ref a)] [(.int p3), (.int p3)])) _
      refine XS.icmpNo X11.here hx rfl (hb hby at_218) rfl (teq (rfl : p3 = p3)).2 ?_
      show Steps p.tables e below (T11.setTop (mkF m 221 #[.val (.int p1), .val (.int p2), .val (.int p3), .val (.int p4), .val (.int p5), .val (.int (0 : Int32)), .val (.int (0 : Int32)), .val (.int (1 : Int32)), .val (.ref a)] [])) _
      refine XS.aload X11.here hx rfl (hb hby at_221) rfl rfl ?_
      show Steps p.tables e below (T11.setTop (mkF m 223 #[.val (.int p1), .val (.int p2), .val (.int p3), .val (.int p4), .val (.int p5), .val (.int (0 : Int32)), .val (.int (0 : Int32)), .val (.int (1 : Int32)), .val (.ref a)] [(.ref a)])) _
      refine XS.iconst X11.here hx rfl (hb hby at_223) ?_
      show Steps p.tables e below (T11.setTop (mkF m 224 #[.val (.int p1), .val (.int p2), .val (.int p3), .val (.int p4), .val (.int p5), .val (.int (0 : Int32)), .val (.int (0 : Int32)), .val (.int (1 : Int32)), .val (.ref a)] [(.int (1 : Int32)), (.ref a)])) _
      refine st12.trans ?_
      show Steps p.tables e below (T12.setTop (mkF m 227 #[.val (.int p1), .val (.int p2), .val (.int p3), .val (.int p4), .val (.int p5), .val (.int (0 : Int32)), .val (.int (0 : Int32)), .val (.int (1 : Int32)), .val (.ref a)] [(.int p4)])) _
      refine XS.iloadN X12.here hx rfl (hb hby at_227) rfl ?_
      show Steps p.tables e below (T12.setTop (mkF m 228 #[.val (.int p1), .val (.int p2), .val (.int p3), .val (.int p4), .val (.int p5), .val (.int (0 : Int32)), .val (.int (0 : Int32)), .val (.int (1 : Int32)), .val (.ref a)] [(.int p4), (.int p4)])) _
      refine XS.icmpNo X12.here hx rfl (hb hby at_228) rfl (teq (rfl : p4 = p4)).2 ?_
      show Steps p.tables e below (T12.setTop (mkF m 231 #[.val (.int p1), .val (.int p2), .val (.int p3), .val (.int p4), .val (.int p5), .val (.int (0 : Int32)), .val (.int (0 : Int32)), .val (.int (1 : Int32)), .val (.ref a)] [])) _
      refine XS.iconst X12.here hx rfl (hb hby at_231) ?_
      show Steps p.tables e below (T12.setTop (mkF m 232 #[.val (.int p1), .val (.int p2), .val (.int p3), .val (.int p4), .val (.int p5), .val (.int (0 : Int32)), .val (.int (0 : Int32)), .val (.int (1 : Int32)), .val (.ref a)] [(.int (1 : Int32))])) _
      refine XS.goto X12.here hx rfl (pc0 := 232) (pc' := 236) rfl (hb hby at_232) (by decide) (by decide) ?_
      show Steps p.tables e below (T12.setTop (mkF m 236 #[.val (.int p1), .val (.int p2), .val (.int p3), .val (.int p4), .val (.int p5), .val (.int (0 : Int32)), .val (.int (0 : Int32)), .val (.int (1 : Int32)), .val (.ref a)] [(.int (1 : Int32))])) _
      exact retN X12 hx (t := .boolean) Bd.returns (by simp) (hb hby at_236) hr
    · exact ⟨rfl, N12⟩
  · rw [show own_a p5 = (0 : Int32) from ha, show own_b p5 = (1 : Int32) from hb'] at sg0
    obtain ⟨TO, hO, XO, eO, EO, AO, DO, -, stO⟩ := newO X0 hx hZ hown (hw _ (List.mem_of_getElem? (i := 0) rfl)) (hw _ (List.mem_of_getElem? (i := 1) rfl)) (hw _ (List.mem_of_getElem? (i := 2) rfl)) e0 (g := (mkF m 28 #[.val (.int p1), .val (.int p2), .val (.int p3), .val (.int p4), .val (.int p5), .val (.int (0 : Int32)), .val (.int (1 : Int32)), .val (.int (0 : Int32)), .unset] [])) rfl (hb hby at_28) (by decide) (by decide)
    obtain ⟨a, gO⟩ : ∃ z, z = h0.size := ⟨_, rfl⟩
    rw [← gO] at AO DO stO
    have g_a : n0 ≤ a := Nat.le_trans Z0 (Nat.le_of_eq gO.symm)
    have ZO : n0 ≤ hO.size := Nat.le_trans Z0 EO.1
    obtain ⟨_, _, ⟨TC, LC, kC, nC⟩, -, XC, ⟨LcC, hQC, lC, yC, zC⟩, stC⟩ := XO.specialBack hx (y := (⟨"com/example/meticulous_handshake/meticuloushandshake/bisimulation/ArcsByLabel", "<init>", "(II)V"⟩ : MethodName)) rfl hown (mvT hZ (hw _ (List.mem_of_getElem? (i := 3) rfl))) (mvT hZ (hw _ (List.mem_of_getElem? (i := 4) rfl))) (mvT hZ (hw _ (List.mem_of_getElem? (i := 5) rfl))) (by decide) (backOf (W := 1) (rm1 l Z a0 hw [] a hO n0 ZO AO (DO (Or.inr (hw _ (List.mem_of_getElem? (i := 11) rfl))) (ty := (.array .int)) (by decide)) (DO (Or.inr (hw _ (List.mem_of_getElem? (i := 13) rfl))) (ty := (.array .int)) (by decide)) (DO (Or.inr (hw _ (List.mem_of_getElem? (i := 15) rfl))) (ty := (.array .int)) (by decide)) (DO (Or.inr (hw _ (List.mem_of_getElem? (i := 17) rfl))) (ty := (.array .int)) (by decide)) (DO (Or.inr (hw _ (List.mem_of_getElem? (i := 23) rfl))) (ty := (.array .int)) (by decide)) (DO (Or.inl (hw _ (List.mem_of_getElem? (i := 30) rfl))) (ty := .int) (by decide)) (DO (Or.inl (hw _ (List.mem_of_getElem? (i := 32) rfl))) (ty := .int) (by decide)) g_a) hZ (hw _ (List.mem_of_getElem? (i := 5) rfl)) (hw _ (List.mem_of_getElem? (i := 2) rfl)) (by decide) (by decide)) (g := (mkF m 34 #[.val (.int p1), .val (.int p2), .val (.int p3), .val (.int p4), .val (.int p5), .val (.int (0 : Int32)), .val (.int (1 : Int32)), .val (.int (0 : Int32)), .unset] [(.int (2 : Int32)), (.int (2 : Int32)), (.ref a), (.ref a)])) rfl (by rw [hml]; rfl) (Steps.refl _) (a := a) (argsL := [(.int (2 : Int32)), (.int (2 : Int32))]) (rest := [(.ref a)]) (lenOf pd_ini rfl) rfl (by show 2 * 0 + _ ≤ _; exact Nat.le_of_eq rfl) (hb hby at_34) (fun _ _ => ⟨rfl, eO, (by decide : 1 + 5 ≤ _), (by decide : 7 + 10 ≤ _)⟩)
    dsimp only [Pt.U, Pt.locs, Pt.cells, Pt.slots] at XC lC yC zC stC hQC
    subst lC yC zC
    obtain ⟨rfl, NCq, ZC, bA, bS, bN, bF, bL, od, OC⟩ := hQC
    have NC := Fr.app N0 NCq
    obtain ⟨cq1, kq1, qa1, qb1, qc1⟩ := isOf hZ rfl OC.1
    obtain ⟨_, _, ⟨T1, L1, k1, n1⟩, -, X1, ⟨Lc1, hQ1, l1, y1, z1⟩, st1⟩ := XC.virtualBack hx (y := (⟨"com/example/meticulous_handshake/meticuloushandshake/bisimulation/ArcsByLabel", "add", "(III)V"⟩ : MethodName)) (z := (⟨"com/example/meticulous_handshake/meticuloushandshake/bisimulation/ArcsByLabel", "add", "(III)V"⟩ : MethodName)) hown (mvT hZ (hw _ (List.mem_of_getElem? (i := 24) rfl))) (mvT hZ (hw _ (List.mem_of_getElem? (i := 25) rfl))) (notFace_of_selects (args := #[]) (mvT hZ (hw _ (List.mem_of_getElem? (i := 27) rfl)))) (mvT hZ (hw _ (List.mem_of_getElem? (i := 27) rfl))) (mvT hZ (hw _ (List.mem_of_getElem? (i := 26) rfl))) (by decide) (backOf (W := 0) (rm4A l Z a0 hw [] a bA bS bN bF bL p1 p2 (0 : Int32) (0 : Int32) (0 : Int32) (-1 : Int32) [(.int (0 : Int32)), (.int (0 : Int32))] [(.int (0 : Int32)), (.int (0 : Int32))] [(.int (0 : Int32)), (.int (0 : Int32))] [(.int (-1 : Int32)), (.int (-1 : Int32))] [(.int (0 : Int32)), (.int (0 : Int32))] 0 0 0 TC.heap n0 ZC OC od g_a (by decide) rfl (by decide) rfl (by decide) rfl ⟨by decide, by decide, by decide, rfl, rfl, rfl, rfl, rfl⟩ rfl (by decide)) hZ (hw _ (List.mem_of_getElem? (i := 28) rfl)) (hw _ (List.mem_of_getElem? (i := 2) rfl)) (by decide) (by decide)) qa1 qc1 (g := (mkF m 45 #[.val (.int p1), .val (.int p2), .val (.int p3), .val (.int p4), .val (.int p5), .val (.int (0 : Int32)), .val (.int (1 : Int32)), .val (.int (0 : Int32)), .val (.ref a)] [(.int (0 : Int32)), (.int p2), (.int p1), (.ref a)])) rfl (by rw [hml]; rfl) (Steps.refl _) (argsL := [(.int p1), (.int p2), (.int (0 : Int32))]) (rest := []) (lenOf pd_add rfl) rfl (by show 2 * 0 + _ ≤ _; exact Nat.le_of_eq rfl) (hb hby at_45) (fun _ _ => ⟨rfl, rfl, (by decide : 6 + 0 ≤ _), (by decide : 17 + 0 ≤ _)⟩)
    dsimp only [Pt.U, Pt.locs, Pt.cells, Pt.slots] at X1 l1 y1 z1 st1 hQ1
    subst l1 y1 z1
    obtain ⟨rfl, N1q, Z1, OO1⟩ := hQ1
    have N1 := Fr.app NC N1q
    have O1 : OwnObj Z T1.heap a bA bS bN bF bL (1 : Int32) (1 : Int32) [(.int p1), (.int (0 : Int32))] [(.int p2), (.int (0 : Int32))] [(.int (-1 : Int32)), (.int (0 : Int32))] [(.int (0 : Int32)), (.int (-1 : Int32))] [(.int (0 : Int32)), (.int (0 : Int32))] := OO1
    obtain ⟨cq2, kq2, qa2, qb2, qc2⟩ := isOf hZ rfl O1.1
    obtain ⟨_, _, ⟨T2, L2, k2, n2⟩, -, X2, ⟨Lc2, hQ2, l2, y2, z2⟩, st2⟩ := X1.virtualBack hx (y := (⟨"com/example/meticulous_handshake/meticuloushandshake/bisimulation/ArcsByLabel", "add", "(III)V"⟩ : MethodName)) (z := (⟨"com/example/meticulous_handshake/meticuloushandshake/bisimulation/ArcsByLabel", "add", "(III)V"⟩ : MethodName)) hown (mvT hZ (hw _ (List.mem_of_getElem? (i := 24) rfl))) (mvT hZ (hw _ (List.mem_of_getElem? (i := 25) rfl))) (notFace_of_selects (args := #[]) (mvT hZ (hw _ (List.mem_of_getElem? (i := 27) rfl)))) (mvT hZ (hw _ (List.mem_of_getElem? (i := 27) rfl))) (mvT hZ (hw _ (List.mem_of_getElem? (i := 26) rfl))) (by decide) (backOf (W := 0) (rm4A l Z a0 hw [] a bA bS bN bF bL p3 p4 (1 : Int32) (1 : Int32) (1 : Int32) (-1 : Int32) [(.int p1), (.int (0 : Int32))] [(.int p2), (.int (0 : Int32))] [(.int (-1 : Int32)), (.int (0 : Int32))] [(.int (0 : Int32)), (.int (-1 : Int32))] [(.int (0 : Int32)), (.int (0 : Int32))] 1 1 1 T1.heap n0 Z1 O1 od g_a (by decide) rfl (by decide) rfl (by decide) rfl ⟨by decide, by decide, by decide, rfl, rfl, rfl, rfl, rfl⟩ rfl (by decide)) hZ (hw _ (List.mem_of_getElem? (i := 28) rfl)) (hw _ (List.mem_of_getElem? (i := 2) rfl)) (by decide) (by decide)) qa2 qc2 (g := (mkF m 54 #[.val (.int p1), .val (.int p2), .val (.int p3), .val (.int p4), .val (.int p5), .val (.int (0 : Int32)), .val (.int (1 : Int32)), .val (.int (0 : Int32)), .val (.ref a)] [(.int (1 : Int32)), (.int p4), (.int p3), (.ref a)])) rfl (by rw [hml]; rfl) (Steps.refl _) (argsL := [(.int p3), (.int p4), (.int (1 : Int32))]) (rest := []) (lenOf pd_add rfl) rfl (by show 2 * 0 + _ ≤ _; exact Nat.le_of_eq rfl) (hb hby at_54) (fun _ _ => ⟨rfl, rfl, (by decide : 6 + 0 ≤ _), (by decide : 17 + 0 ≤ _)⟩)
    dsimp only [Pt.U, Pt.locs, Pt.cells, Pt.slots] at X2 l2 y2 z2 st2 hQ2
    subst l2 y2 z2
    obtain ⟨rfl, N2q, Z2, OO2⟩ := hQ2
    have N2 := Fr.app N1 N2q
    have O2 : OwnObj Z T2.heap a bA bS bN bF bL (2 : Int32) (2 : Int32) [(.int p1), (.int p3)] [(.int p2), (.int p4)] [(.int (-1 : Int32)), (.int (-1 : Int32))] [(.int (0 : Int32)), (.int (1 : Int32))] [(.int (0 : Int32)), (.int (1 : Int32))] := OO2
    obtain ⟨cq3, kq3, qa3, qb3, qc3⟩ := isOf hZ rfl O2.1
    obtain ⟨_, _, ⟨T3, L3, k3, n3⟩, -, X3, ⟨Lc3, hQ3, l3, y3, z3⟩, st3⟩ := X2.virtualBack hx (y := (⟨"com/example/meticulous_handshake/meticuloushandshake/bisimulation/ArcsByLabel", "labelCount", "()I"⟩ : MethodName)) (z := (⟨"com/example/meticulous_handshake/meticuloushandshake/bisimulation/ArcsByLabel", "labelCount", "()I"⟩ : MethodName)) hown (mvT hZ (hw _ (List.mem_of_getElem? (i := 33) rfl))) (mvT hZ (hw _ (List.mem_of_getElem? (i := 34) rfl))) (notFace_of_selects (args := #[]) (mvT hZ (hw _ (List.mem_of_getElem? (i := 36) rfl)))) (mvT hZ (hw _ (List.mem_of_getElem? (i := 36) rfl))) (mvT hZ (hw _ (List.mem_of_getElem? (i := 35) rfl))) (by decide) (backOf (W := 0) (rm5 l Z a0 hw [] a (2 : Int32) T2.heap n0 Z2 O2.2.2.2.2.2.2.2.1) hZ (hw _ (List.mem_of_getElem? (i := 37) rfl)) (hw _ (List.mem_of_getElem? (i := 2) rfl)) (by decide) (by decide)) qa3 qc3 (g := (mkF m 59 #[.val (.int p1), .val (.int p2), .val (.int p3), .val (.int p4), .val (.int p5), .val (.int (0 : Int32)), .val (.int (1 : Int32)), .val (.int (0 : Int32)), .val (.ref a)] [(.ref a)])) rfl (by rw [hml]; rfl) (Steps.refl _) (argsL := []) (rest := []) (lenOf pd_lc rfl) rfl (by show 2 * 0 + _ ≤ _; exact Nat.le_of_eq rfl) (hb hby at_59) (fun _ _ => ⟨rfl, rfl, (by decide : 6 + 0 ≤ _), (by decide : 17 + 0 ≤ _)⟩)
    dsimp only [Pt.U, Pt.locs, Pt.cells, Pt.slots] at X3 l3 y3 z3 st3 hQ3
    subst l3 y3 z3
    obtain ⟨rfl, N3q, e3⟩ := hQ3
    have N3 := Fr.app N2 N3q
    obtain ⟨cq4, kq4, qa4, qb4, qc4⟩ := isOf hZ e3 O2.1
    obtain ⟨_, _, ⟨T4, L4, k4, n4⟩, -, X4, ⟨Lc4, hQ4, l4, y4, z4⟩, st4⟩ := X3.virtualBack hx (y := (⟨"com/example/meticulous_handshake/meticuloushandshake/bisimulation/ArcsByLabel", "label", "(I)I"⟩ : MethodName)) (z := (⟨"com/example/meticulous_handshake/meticuloushandshake/bisimulation/ArcsByLabel", "label", "(I)I"⟩ : MethodName)) hown (mvT hZ (hw _ (List.mem_of_getElem? (i := 38) rfl))) (mvT hZ (hw _ (List.mem_of_getElem? (i := 39) rfl))) (notFace_of_selects (args := #[]) (mvT hZ (hw _ (List.mem_of_getElem? (i := 41) rfl)))) (mvT hZ (hw _ (List.mem_of_getElem? (i := 41) rfl))) (mvT hZ (hw _ (List.mem_of_getElem? (i := 40) rfl))) (by decide) (backOf (W := 0) (rm6 l Z a0 hw [] a (0 : Int32) bL [(.int (0 : Int32)), (.int (1 : Int32))] 0 (0 : Int32) T2.heap n0 Z2 O2.2.2.2.2.2.1 O2.2.2.2.2.2.2.2.2.2.2.2.2 (by decide) rfl rfl) hZ (hw _ (List.mem_of_getElem? (i := 42) rfl)) (hw _ (List.mem_of_getElem? (i := 2) rfl)) (by decide) (by decide)) qa4 qc4 (g := (mkF m 80 #[.val (.int p1), .val (.int p2), .val (.int p3), .val (.int p4), .val (.int p5), .val (.int (0 : Int32)), .val (.int (1 : Int32)), .val (.int (0 : Int32)), .val (.ref a)] [(.int (0 : Int32)), (.ref a)])) rfl (by rw [hml]; rfl) (Steps.refl _) (argsL := [(.int (0 : Int32))]) (rest := []) (lenOf pd_get rfl) rfl (by show 2 * 0 + _ ≤ _; exact Nat.le_of_eq rfl) (hb hby at_80) (fun _ _ => ⟨rfl, e3, (by decide : 6 + 0 ≤ _), (by decide : 17 + 0 ≤ _)⟩)
    dsimp only [Pt.U, Pt.locs, Pt.cells, Pt.slots] at X4 l4 y4 z4 st4 hQ4
    subst l4 y4 z4
    obtain ⟨rfl, N4q, e4⟩ := hQ4
    have N4 := Fr.app N3 N4q
    obtain ⟨cq5, kq5, qa5, qb5, qc5⟩ := isOf hZ e4 O2.1
    obtain ⟨_, _, ⟨T5, L5, k5, n5⟩, -, X5, ⟨Lc5, hQ5, l5, y5, z5⟩, st5⟩ := X4.virtualBack hx (y := (⟨"com/example/meticulous_handshake/meticuloushandshake/bisimulation/ArcsByLabel", "label", "(I)I"⟩ : MethodName)) (z := (⟨"com/example/meticulous_handshake/meticuloushandshake/bisimulation/ArcsByLabel", "label", "(I)I"⟩ : MethodName)) hown (mvT hZ (hw _ (List.mem_of_getElem? (i := 38) rfl))) (mvT hZ (hw _ (List.mem_of_getElem? (i := 39) rfl))) (notFace_of_selects (args := #[]) (mvT hZ (hw _ (List.mem_of_getElem? (i := 41) rfl)))) (mvT hZ (hw _ (List.mem_of_getElem? (i := 41) rfl))) (mvT hZ (hw _ (List.mem_of_getElem? (i := 40) rfl))) (by decide) (backOf (W := 0) (rm6 l Z a0 hw [] a (1 : Int32) bL [(.int (0 : Int32)), (.int (1 : Int32))] 1 (1 : Int32) T2.heap n0 Z2 O2.2.2.2.2.2.1 O2.2.2.2.2.2.2.2.2.2.2.2.2 (by decide) rfl rfl) hZ (hw _ (List.mem_of_getElem? (i := 42) rfl)) (hw _ (List.mem_of_getElem? (i := 2) rfl)) (by decide) (by decide)) qa5 qc5 (g := (mkF m 98 #[.val (.int p1), .val (.int p2), .val (.int p3), .val (.int p4), .val (.int p5), .val (.int (0 : Int32)), .val (.int (1 : Int32)), .val (.int (0 : Int32)), .val (.ref a)] [(.int (1 : Int32)), (.ref a)])) rfl (by rw [hml]; rfl) (Steps.refl _) (argsL := [(.int (1 : Int32))]) (rest := []) (lenOf pd_get rfl) rfl (by show 2 * 0 + _ ≤ _; exact Nat.le_of_eq rfl) (hb hby at_98) (fun _ _ => ⟨rfl, e4, (by decide : 6 + 0 ≤ _), (by decide : 17 + 0 ≤ _)⟩)
    dsimp only [Pt.U, Pt.locs, Pt.cells, Pt.slots] at X5 l5 y5 z5 st5 hQ5
    subst l5 y5 z5
    obtain ⟨rfl, N5q, e5⟩ := hQ5
    have N5 := Fr.app N4 N5q
    obtain ⟨cq6, kq6, qa6, qb6, qc6⟩ := isOf hZ e5 O2.1
    obtain ⟨_, _, ⟨T6, L6, k6, n6⟩, -, X6, ⟨Lc6, hQ6, l6, y6, z6⟩, st6⟩ := X5.virtualBack hx (y := (⟨"com/example/meticulous_handshake/meticuloushandshake/bisimulation/ArcsByLabel", "first", "(I)I"⟩ : MethodName)) (z := (⟨"com/example/meticulous_handshake/meticuloushandshake/bisimulation/ArcsByLabel", "first", "(I)I"⟩ : MethodName)) hown (mvT hZ (hw _ (List.mem_of_getElem? (i := 43) rfl))) (mvT hZ (hw _ (List.mem_of_getElem? (i := 44) rfl))) (notFace_of_selects (args := #[]) (mvT hZ (hw _ (List.mem_of_getElem? (i := 46) rfl)))) (mvT hZ (hw _ (List.mem_of_getElem? (i := 46) rfl))) (mvT hZ (hw _ (List.mem_of_getElem? (i := 45) rfl))) (by decide) (backOf (W := 0) (rm7 l Z a0 hw [] a (1 : Int32) bF [(.int (0 : Int32)), (.int (1 : Int32))] 1 (1 : Int32) T2.heap n0 Z2 O2.2.2.2.2.1 O2.2.2.2.2.2.2.2.2.2.2.2.1 (by decide) rfl rfl) hZ (hw _ (List.mem_of_getElem? (i := 47) rfl)) (hw _ (List.mem_of_getElem? (i := 2) rfl)) (by decide) (by decide)) qa6 qc6 (g := (mkF m 112 #[.val (.int p1), .val (.int p2), .val (.int p3), .val (.int p4), .val (.int p5), .val (.int (0 : Int32)), .val (.int (1 : Int32)), .val (.int (0 : Int32)), .val (.ref a)] [(.int (1 : Int32)), (.ref a)])) rfl (by rw [hml]; rfl) (Steps.refl _) (argsL := [(.int (1 : Int32))]) (rest := []) (lenOf pd_get rfl) rfl (by show 2 * 0 + _ ≤ _; exact Nat.le_of_eq rfl) (hb hby at_112) (fun _ _ => ⟨rfl, e5, (by decide : 6 + 0 ≤ _), (by decide : 17 + 0 ≤ _)⟩)
    dsimp only [Pt.U, Pt.locs, Pt.cells, Pt.slots] at X6 l6 y6 z6 st6 hQ6
    subst l6 y6 z6
    obtain ⟨rfl, N6q, e6⟩ := hQ6
    have N6 := Fr.app N5 N6q
    obtain ⟨cq7, kq7, qa7, qb7, qc7⟩ := isOf hZ e6 O2.1
    obtain ⟨_, _, ⟨T7, L7, k7, n7⟩, -, X7, ⟨Lc7, hQ7, l7, y7, z7⟩, st7⟩ := X6.virtualBack hx (y := (⟨"com/example/meticulous_handshake/meticuloushandshake/bisimulation/ArcsByLabel", "first", "(I)I"⟩ : MethodName)) (z := (⟨"com/example/meticulous_handshake/meticuloushandshake/bisimulation/ArcsByLabel", "first", "(I)I"⟩ : MethodName)) hown (mvT hZ (hw _ (List.mem_of_getElem? (i := 43) rfl))) (mvT hZ (hw _ (List.mem_of_getElem? (i := 44) rfl))) (notFace_of_selects (args := #[]) (mvT hZ (hw _ (List.mem_of_getElem? (i := 46) rfl)))) (mvT hZ (hw _ (List.mem_of_getElem? (i := 46) rfl))) (mvT hZ (hw _ (List.mem_of_getElem? (i := 45) rfl))) (by decide) (backOf (W := 0) (rm7 l Z a0 hw [] a (0 : Int32) bF [(.int (0 : Int32)), (.int (1 : Int32))] 0 (0 : Int32) T2.heap n0 Z2 O2.2.2.2.2.1 O2.2.2.2.2.2.2.2.2.2.2.2.1 (by decide) rfl rfl) hZ (hw _ (List.mem_of_getElem? (i := 47) rfl)) (hw _ (List.mem_of_getElem? (i := 2) rfl)) (by decide) (by decide)) qa7 qc7 (g := (mkF m 130 #[.val (.int p1), .val (.int p2), .val (.int p3), .val (.int p4), .val (.int p5), .val (.int (0 : Int32)), .val (.int (1 : Int32)), .val (.int (0 : Int32)), .val (.ref a)] [(.int (0 : Int32)), (.ref a)])) rfl (by rw [hml]; rfl) (Steps.refl _) (argsL := [(.int (0 : Int32))]) (rest := []) (lenOf pd_get rfl) rfl (by show 2 * 0 + _ ≤ _; exact Nat.le_of_eq rfl) (hb hby at_130) (fun _ _ => ⟨rfl, e6, (by decide : 6 + 0 ≤ _), (by decide : 17 + 0 ≤ _)⟩)
    dsimp only [Pt.U, Pt.locs, Pt.cells, Pt.slots] at X7 l7 y7 z7 st7 hQ7
    subst l7 y7 z7
    obtain ⟨rfl, N7q, e7⟩ := hQ7
    have N7 := Fr.app N6 N7q
    obtain ⟨cq8, kq8, qa8, qb8, qc8⟩ := isOf hZ e7 O2.1
    obtain ⟨_, _, ⟨T8, L8, k8, n8⟩, -, X8, ⟨Lc8, hQ8, l8, y8, z8⟩, st8⟩ := X7.virtualBack hx (y := (⟨"com/example/meticulous_handshake/meticuloushandshake/bisimulation/ArcsByLabel", "next", "(I)I"⟩ : MethodName)) (z := (⟨"com/example/meticulous_handshake/meticuloushandshake/bisimulation/ArcsByLabel", "next", "(I)I"⟩ : MethodName)) hown (mvT hZ (hw _ (List.mem_of_getElem? (i := 48) rfl))) (mvT hZ (hw _ (List.mem_of_getElem? (i := 49) rfl))) (notFace_of_selects (args := #[]) (mvT hZ (hw _ (List.mem_of_getElem? (i := 51) rfl)))) (mvT hZ (hw _ (List.mem_of_getElem? (i := 51) rfl))) (mvT hZ (hw _ (List.mem_of_getElem? (i := 50) rfl))) (by decide) (backOf (W := 0) (rm8 l Z a0 hw [] a (1 : Int32) bN [(.int (-1 : Int32)), (.int (-1 : Int32))] 1 (-1 : Int32) T2.heap n0 Z2 O2.2.2.2.1 O2.2.2.2.2.2.2.2.2.2.2.1 (by decide) rfl rfl) hZ (hw _ (List.mem_of_getElem? (i := 52) rfl)) (hw _ (List.mem_of_getElem? (i := 2) rfl)) (by decide) (by decide)) qa8 qc8 (g := (mkF m 161 #[.val (.int p1), .val (.int p2), .val (.int p3), .val (.int p4), .val (.int p5), .val (.int (0 : Int32)), .val (.int (1 : Int32)), .val (.int (0 : Int32)), .val (.ref a)] [(.int (1 : Int32)), (.ref a)])) rfl (by rw [hml]; rfl) (Steps.refl _) (argsL := [(.int (1 : Int32))]) (rest := []) (lenOf pd_get rfl) rfl (by show 2 * 0 + _ ≤ _; exact Nat.le_of_eq rfl) (hb hby at_161) (fun _ _ => ⟨rfl, e7, (by decide : 6 + 0 ≤ _), (by decide : 17 + 0 ≤ _)⟩)
    dsimp only [Pt.U, Pt.locs, Pt.cells, Pt.slots] at X8 l8 y8 z8 st8 hQ8
    subst l8 y8 z8
    obtain ⟨rfl, N8q, e8⟩ := hQ8
    have N8 := Fr.app N7 N8q
    obtain ⟨cq9, kq9, qa9, qb9, qc9⟩ := isOf hZ e8 O2.1
    obtain ⟨_, _, ⟨T9, L9, k9, n9⟩, -, X9, ⟨Lc9, hQ9, l9, y9, z9⟩, st9⟩ := X8.virtualBack hx (y := (⟨"com/example/meticulous_handshake/meticuloushandshake/bisimulation/ArcsByLabel", "next", "(I)I"⟩ : MethodName)) (z := (⟨"com/example/meticulous_handshake/meticuloushandshake/bisimulation/ArcsByLabel", "next", "(I)I"⟩ : MethodName)) hown (mvT hZ (hw _ (List.mem_of_getElem? (i := 48) rfl))) (mvT hZ (hw _ (List.mem_of_getElem? (i := 49) rfl))) (notFace_of_selects (args := #[]) (mvT hZ (hw _ (List.mem_of_getElem? (i := 51) rfl)))) (mvT hZ (hw _ (List.mem_of_getElem? (i := 51) rfl))) (mvT hZ (hw _ (List.mem_of_getElem? (i := 50) rfl))) (by decide) (backOf (W := 0) (rm8 l Z a0 hw [] a (0 : Int32) bN [(.int (-1 : Int32)), (.int (-1 : Int32))] 0 (-1 : Int32) T2.heap n0 Z2 O2.2.2.2.1 O2.2.2.2.2.2.2.2.2.2.2.1 (by decide) rfl rfl) hZ (hw _ (List.mem_of_getElem? (i := 52) rfl)) (hw _ (List.mem_of_getElem? (i := 2) rfl)) (by decide) (by decide)) qa9 qc9 (g := (mkF m 182 #[.val (.int p1), .val (.int p2), .val (.int p3), .val (.int p4), .val (.int p5), .val (.int (0 : Int32)), .val (.int (1 : Int32)), .val (.int (0 : Int32)), .val (.ref a)] [(.int (0 : Int32)), (.ref a)])) rfl (by rw [hml]; rfl) (Steps.refl _) (argsL := [(.int (0 : Int32))]) (rest := []) (lenOf pd_get rfl) rfl (by show 2 * 0 + _ ≤ _; exact Nat.le_of_eq rfl) (hb hby at_182) (fun _ _ => ⟨rfl, e8, (by decide : 6 + 0 ≤ _), (by decide : 17 + 0 ≤ _)⟩)
    dsimp only [Pt.U, Pt.locs, Pt.cells, Pt.slots] at X9 l9 y9 z9 st9 hQ9
    subst l9 y9 z9
    obtain ⟨rfl, N9q, e9⟩ := hQ9
    have N9 := Fr.app N8 N9q
    obtain ⟨cq10, kq10, qa10, qb10, qc10⟩ := isOf hZ e9 O2.1
    obtain ⟨_, _, ⟨T10, L10, k10, n10⟩, -, X10, ⟨Lc10, hQ10, l10, y10, z10⟩, st10⟩ := X9.virtualBack hx (y := (⟨"com/example/meticulous_handshake/meticuloushandshake/bisimulation/ArcsByLabel", "arc", "(I)I"⟩ : MethodName)) (z := (⟨"com/example/meticulous_handshake/meticuloushandshake/bisimulation/ArcsByLabel", "arc", "(I)I"⟩ : MethodName)) hown (mvT hZ (hw _ (List.mem_of_getElem? (i := 53) rfl))) (mvT hZ (hw _ (List.mem_of_getElem? (i := 54) rfl))) (notFace_of_selects (args := #[]) (mvT hZ (hw _ (List.mem_of_getElem? (i := 56) rfl)))) (mvT hZ (hw _ (List.mem_of_getElem? (i := 56) rfl))) (mvT hZ (hw _ (List.mem_of_getElem? (i := 55) rfl))) (by decide) (backOf (W := 0) (rm9 l Z a0 hw [] a (0 : Int32) bA [(.int p1), (.int p3)] 0 p1 T2.heap n0 Z2 O2.2.1 O2.2.2.2.2.2.2.2.2.1 (by decide) rfl rfl) hZ (hw _ (List.mem_of_getElem? (i := 57) rfl)) (hw _ (List.mem_of_getElem? (i := 2) rfl)) (by decide) (by decide)) qa10 qc10 (g := (mkF m 194 #[.val (.int p1), .val (.int p2), .val (.int p3), .val (.int p4), .val (.int p5), .val (.int (0 : Int32)), .val (.int (1 : Int32)), .val (.int (0 : Int32)), .val (.ref a)] [(.int (0 : Int32)), (.ref a)])) rfl (by rw [hml]; rfl) (Steps.refl _) (argsL := [(.int (0 : Int32))]) (rest := []) (lenOf pd_get rfl) rfl (by show 2 * 0 + _ ≤ _; exact Nat.le_of_eq rfl) (hb hby at_194) (fun _ _ => ⟨rfl, e9, (by decide : 6 + 0 ≤ _), (by decide : 17 + 0 ≤ _)⟩)
    dsimp only [Pt.U, Pt.locs, Pt.cells, Pt.slots] at X10 l10 y10 z10 st10 hQ10
    subst l10 y10 z10
    obtain ⟨rfl, N10q, e10⟩ := hQ10
    have N10 := Fr.app N9 N10q
    obtain ⟨cq11, kq11, qa11, qb11, qc11⟩ := isOf hZ e10 O2.1
    obtain ⟨_, _, ⟨T11, L11, k11, n11⟩, -, X11, ⟨Lc11, hQ11, l11, y11, z11⟩, st11⟩ := X10.virtualBack hx (y := (⟨"com/example/meticulous_handshake/meticuloushandshake/bisimulation/ArcsByLabel", "source", "(I)I"⟩ : MethodName)) (z := (⟨"com/example/meticulous_handshake/meticuloushandshake/bisimulation/ArcsByLabel", "source", "(I)I"⟩ : MethodName)) hown (mvT hZ (hw _ (List.mem_of_getElem? (i := 58) rfl))) (mvT hZ (hw _ (List.mem_of_getElem? (i := 59) rfl))) (notFace_of_selects (args := #[]) (mvT hZ (hw _ (List.mem_of_getElem? (i := 61) rfl)))) (mvT hZ (hw _ (List.mem_of_getElem? (i := 61) rfl))) (mvT hZ (hw _ (List.mem_of_getElem? (i := 60) rfl))) (by decide) (backOf (W := 0) (rm10 l Z a0 hw [] a (0 : Int32) bS [(.int p2), (.int p4)] 0 p2 T2.heap n0 Z2 O2.2.2.1 O2.2.2.2.2.2.2.2.2.2.1 (by decide) rfl rfl) hZ (hw _ (List.mem_of_getElem? (i := 62) rfl)) (hw _ (List.mem_of_getElem? (i := 2) rfl)) (by decide) (by decide)) qa11 qc11 (g := (mkF m 204 #[.val (.int p1), .val (.int p2), .val (.int p3), .val (.int p4), .val (.int p5), .val (.int (0 : Int32)), .val (.int (1 : Int32)), .val (.int (0 : Int32)), .val (.ref a)] [(.int (0 : Int32)), (.ref a)])) rfl (by rw [hml]; rfl) (Steps.refl _) (argsL := [(.int (0 : Int32))]) (rest := []) (lenOf pd_get rfl) rfl (by show 2 * 0 + _ ≤ _; exact Nat.le_of_eq rfl) (hb hby at_204) (fun _ _ => ⟨rfl, e10, (by decide : 6 + 0 ≤ _), (by decide : 17 + 0 ≤ _)⟩)
    dsimp only [Pt.U, Pt.locs, Pt.cells, Pt.slots] at X11 l11 y11 z11 st11 hQ11
    subst l11 y11 z11
    obtain ⟨rfl, N11q, e11⟩ := hQ11
    have N11 := Fr.app N10 N11q
    obtain ⟨cq12, kq12, qa12, qb12, qc12⟩ := isOf hZ e11 O2.1
    obtain ⟨_, _, ⟨T12, L12, k12, n12⟩, -, X12, ⟨Lc12, hQ12, l12, y12, z12⟩, st12⟩ := X11.virtualBack hx (y := (⟨"com/example/meticulous_handshake/meticuloushandshake/bisimulation/ArcsByLabel", "arc", "(I)I"⟩ : MethodName)) (z := (⟨"com/example/meticulous_handshake/meticuloushandshake/bisimulation/ArcsByLabel", "arc", "(I)I"⟩ : MethodName)) hown (mvT hZ (hw _ (List.mem_of_getElem? (i := 53) rfl))) (mvT hZ (hw _ (List.mem_of_getElem? (i := 54) rfl))) (notFace_of_selects (args := #[]) (mvT hZ (hw _ (List.mem_of_getElem? (i := 56) rfl)))) (mvT hZ (hw _ (List.mem_of_getElem? (i := 56) rfl))) (mvT hZ (hw _ (List.mem_of_getElem? (i := 55) rfl))) (by decide) (backOf (W := 0) (rm9 l Z a0 hw [] a (1 : Int32) bA [(.int p1), (.int p3)] 1 p3 T2.heap n0 Z2 O2.2.1 O2.2.2.2.2.2.2.2.2.1 (by decide) rfl rfl) hZ (hw _ (List.mem_of_getElem? (i := 57) rfl)) (hw _ (List.mem_of_getElem? (i := 2) rfl)) (by decide) (by decide)) qa12 qc12 (g := (mkF m 214 #[.val (.int p1), .val (.int p2), .val (.int p3), .val (.int p4), .val (.int p5), .val (.int (0 : Int32)), .val (.int (1 : Int32)), .val (.int (0 : Int32)), .val (.ref a)] [(.int (1 : Int32)), (.ref a)])) rfl (by rw [hml]; rfl) (Steps.refl _) (argsL := [(.int (1 : Int32))]) (rest := []) (lenOf pd_get rfl) rfl (by show 2 * 0 + _ ≤ _; exact Nat.le_of_eq rfl) (hb hby at_214) (fun _ _ => ⟨rfl, e11, (by decide : 6 + 0 ≤ _), (by decide : 17 + 0 ≤ _)⟩)
    dsimp only [Pt.U, Pt.locs, Pt.cells, Pt.slots] at X12 l12 y12 z12 st12 hQ12
    subst l12 y12 z12
    obtain ⟨rfl, N12q, e12⟩ := hQ12
    have N12 := Fr.app N11 N12q
    obtain ⟨cq13, kq13, qa13, qb13, qc13⟩ := isOf hZ e12 O2.1
    obtain ⟨_, _, ⟨T13, L13, k13, n13⟩, -, X13, ⟨Lc13, hQ13, l13, y13, z13⟩, st13⟩ := X12.virtualBack hx (y := (⟨"com/example/meticulous_handshake/meticuloushandshake/bisimulation/ArcsByLabel", "source", "(I)I"⟩ : MethodName)) (z := (⟨"com/example/meticulous_handshake/meticuloushandshake/bisimulation/ArcsByLabel", "source", "(I)I"⟩ : MethodName)) hown (mvT hZ (hw _ (List.mem_of_getElem? (i := 58) rfl))) (mvT hZ (hw _ (List.mem_of_getElem? (i := 59) rfl))) (notFace_of_selects (args := #[]) (mvT hZ (hw _ (List.mem_of_getElem? (i := 61) rfl)))) (mvT hZ (hw _ (List.mem_of_getElem? (i := 61) rfl))) (mvT hZ (hw _ (List.mem_of_getElem? (i := 60) rfl))) (by decide) (backOf (W := 0) (rm10 l Z a0 hw [] a (1 : Int32) bS [(.int p2), (.int p4)] 1 p4 T2.heap n0 Z2 O2.2.2.1 O2.2.2.2.2.2.2.2.2.2.1 (by decide) rfl rfl) hZ (hw _ (List.mem_of_getElem? (i := 62) rfl)) (hw _ (List.mem_of_getElem? (i := 2) rfl)) (by decide) (by decide)) qa13 qc13 (g := (mkF m 224 #[.val (.int p1), .val (.int p2), .val (.int p3), .val (.int p4), .val (.int p5), .val (.int (0 : Int32)), .val (.int (1 : Int32)), .val (.int (0 : Int32)), .val (.ref a)] [(.int (1 : Int32)), (.ref a)])) rfl (by rw [hml]; rfl) (Steps.refl _) (argsL := [(.int (1 : Int32))]) (rest := []) (lenOf pd_get rfl) rfl (by show 2 * 0 + _ ≤ _; exact Nat.le_of_eq rfl) (hb hby at_224) (fun _ _ => ⟨rfl, e12, (by decide : 6 + 0 ≤ _), (by decide : 17 + 0 ≤ _)⟩)
    dsimp only [Pt.U, Pt.locs, Pt.cells, Pt.slots] at X13 l13 y13 z13 st13 hQ13
    subst l13 y13 z13
    obtain ⟨rfl, N13q, e13⟩ := hQ13
    have N13 := Fr.app N12 N13q
    obtain ⟨fs, hr, hrun, hended, hW, hsame⟩ := X13.leave (v := some (.int (1 : Int32))) (fun h => by rw [Bd.returns] at h; cases h)
    refine ⟨_, _, pre0 _ (sg0 _ ?_), hrun, hended, _, _, rfl, ?_, ⟨_, rfl⟩, hW, hsame.mono (by decide) (by decide)⟩
    · show Steps p.tables e below (s₁.setTop (mkF m 14 #[.val (.int p1), .val (.int p2), .val (.int p3), .val (.int p4), .val (.int p5), .val (.int (0 : Int32)), .val (.int (1 : Int32)), .unset, .unset] [])) _
      refine XS.iload X0.here hx rfl (hb hby at_14) rfl ?_
      show Steps p.tables e below (s₁.setTop (mkF m 16 #[.val (.int p1), .val (.int p2), .val (.int p3), .val (.int p4), .val (.int p5), .val (.int (0 : Int32)), .val (.int (1 : Int32)), .unset, .unset] [(.int (0 : Int32))])) _
      refine XS.iload X0.here hx rfl (hb hby at_16) rfl ?_
      show Steps p.tables e below (s₁.setTop (mkF m 18 #[.val (.int p1), .val (.int p2), .val (.int p3), .val (.int p4), .val (.int p5), .val (.int (0 : Int32)), .val (.int (1 : Int32)), .unset, .unset] [(.int (1 : Int32)), (.int (0 : Int32))])) _
      refine XS.icmpYes X0.here hx rfl (pc0 := 18) (pc' := 25) rfl (hb hby at_18) rfl (feq (by decide : ¬ ((0 : Int32) = (1 : Int32)))).2 (by decide) (by decide) ?_
      show Steps p.tables e below (s₁.setTop (mkF m 25 #[.val (.int p1), .val (.int p2), .val (.int p3), .val (.int p4), .val (.int p5), .val (.int (0 : Int32)), .val (.int (1 : Int32)), .unset, .unset] [])) _
      refine XS.iconst X0.here hx rfl (hb hby at_25) ?_
      show Steps p.tables e below (s₁.setTop (mkF m 26 #[.val (.int p1), .val (.int p2), .val (.int p3), .val (.int p4), .val (.int p5), .val (.int (0 : Int32)), .val (.int (1 : Int32)), .unset, .unset] [(.int (0 : Int32))])) _
      refine XS.istore X0.here hx rfl (hb hby at_26) rfl (l' := #[.val (.int p1), .val (.int p2), .val (.int p3), .val (.int p4), .val (.int p5), .val (.int (0 : Int32)), .val (.int (1 : Int32)), .val (.int (0 : Int32)), .unset]) rfl ?_
      show Steps p.tables e below (s₁.setTop (mkF m 28 #[.val (.int p1), .val (.int p2), .val (.int p3), .val (.int p4), .val (.int p5), .val (.int (0 : Int32)), .val (.int (1 : Int32)), .val (.int (0 : Int32)), .unset] [])) _
      refine stO _ ?_
      show Steps p.tables e below (TO.setTop (mkF m 31 #[.val (.int p1), .val (.int p2), .val (.int p3), .val (.int p4), .val (.int p5), .val (.int (0 : Int32)), .val (.int (1 : Int32)), .val (.int (0 : Int32)), .unset] [(.ref a)])) _
      refine XS.dup XO.here hx rfl (hb hby at_31) rfl rfl ?_
      show Steps p.tables e below (TO.setTop (mkF m 32 #[.val (.int p1), .val (.int p2), .val (.int p3), .val (.int p4), .val (.int p5), .val (.int (0 : Int32)), .val (.int (1 : Int32)), .val (.int (0 : Int32)), .unset] [(.ref a), (.ref a)])) _
      refine XS.iconst XO.here hx rfl (hb hby at_32) ?_
      show Steps p.tables e below (TO.setTop (mkF m 33 #[.val (.int p1), .val (.int p2), .val (.int p3), .val (.int p4), .val (.int p5), .val (.int (0 : Int32)), .val (.int (1 : Int32)), .val (.int (0 : Int32)), .unset] [(.int (2 : Int32)), (.ref a), (.ref a)])) _
      refine XS.iconst XO.here hx rfl (hb hby at_33) ?_
      show Steps p.tables e below (TO.setTop (mkF m 34 #[.val (.int p1), .val (.int p2), .val (.int p3), .val (.int p4), .val (.int p5), .val (.int (0 : Int32)), .val (.int (1 : Int32)), .val (.int (0 : Int32)), .unset] [(.int (2 : Int32)), (.int (2 : Int32)), (.ref a), (.ref a)])) _
      refine stC.trans ?_
      show Steps p.tables e below (TC.setTop (mkF m 37 #[.val (.int p1), .val (.int p2), .val (.int p3), .val (.int p4), .val (.int p5), .val (.int (0 : Int32)), .val (.int (1 : Int32)), .val (.int (0 : Int32)), .unset] [(.ref a)])) _
      refine XS.astore XC.here hx rfl (hb hby at_37) rfl rfl (l' := #[.val (.int p1), .val (.int p2), .val (.int p3), .val (.int p4), .val (.int p5), .val (.int (0 : Int32)), .val (.int (1 : Int32)), .val (.int (0 : Int32)), .val (.ref a)]) rfl ?_
      show Steps p.tables e below (TC.setTop (mkF m 39 #[.val (.int p1), .val (.int p2), .val (.int p3), .val (.int p4), .val (.int p5), .val (.int (0 : Int32)), .val (.int (1 : Int32)), .val (.int (0 : Int32)), .val (.ref a)] [])) _
      refine XS.aload XC.here hx rfl (hb hby at_39) rfl rfl ?_
      show Steps p.tables e below (TC.setTop (mkF m 41 #[.val (.int p1), .val (.int p2), .val (.int p3), .val (.int p4), .val (.int p5), .val (.int (0 : Int32)), .val (.int (1 : Int32)), .val (.int (0 : Int32)), .val (.ref a)] [(.ref a)])) _
      refine XS.iloadN XC.here hx rfl (hb hby at_41) rfl ?_
      show Steps p.tables e below (TC.setTop (mkF m 42 #[.val (.int p1), .val (.int p2), .val (.int p3), .val (.int p4), .val (.int p5), .val (.int (0 : Int32)), .val (.int (1 : Int32)), .val (.int (0 : Int32)), .val (.ref a)] [(.int p1), (.ref a)])) _
      refine XS.iloadN XC.here hx rfl (hb hby at_42) rfl ?_
      show Steps p.tables e below (TC.setTop (mkF m 43 #[.val (.int p1), .val (.int p2), .val (.int p3), .val (.int p4), .val (.int p5), .val (.int (0 : Int32)), .val (.int (1 : Int32)), .val (.int (0 : Int32)), .val (.ref a)] [(.int p2), (.int p1), (.ref a)])) _
      refine XS.iload XC.here hx rfl (hb hby at_43) rfl ?_
      show Steps p.tables e below (TC.setTop (mkF m 45 #[.val (.int p1), .val (.int p2), .val (.int p3), .val (.int p4), .val (.int p5), .val (.int (0 : Int32)), .val (.int (1 : Int32)), .val (.int (0 : Int32)), .val (.ref a)] [(.int (0 : Int32)), (.int p2), (.int p1), (.ref a)])) _
      refine st1.trans ?_
      show Steps p.tables e below (T1.setTop (mkF m 48 #[.val (.int p1), .val (.int p2), .val (.int p3), .val (.int p4), .val (.int p5), .val (.int (0 : Int32)), .val (.int (1 : Int32)), .val (.int (0 : Int32)), .val (.ref a)] [])) _
      refine XS.aload X1.here hx rfl (hb hby at_48) rfl rfl ?_
      show Steps p.tables e below (T1.setTop (mkF m 50 #[.val (.int p1), .val (.int p2), .val (.int p3), .val (.int p4), .val (.int p5), .val (.int (0 : Int32)), .val (.int (1 : Int32)), .val (.int (0 : Int32)), .val (.ref a)] [(.ref a)])) _
      refine XS.iloadN X1.here hx rfl (hb hby at_50) rfl ?_
      show Steps p.tables e below (T1.setTop (mkF m 51 #[.val (.int p1), .val (.int p2), .val (.int p3), .val (.int p4), .val (.int p5), .val (.int (0 : Int32)), .val (.int (1 : Int32)), .val (.int (0 : Int32)), .val (.ref a)] [(.int p3), (.ref a)])) _
      refine XS.iloadN X1.here hx rfl (hb hby at_51) rfl ?_
      show Steps p.tables e below (T1.setTop (mkF m 52 #[.val (.int p1), .val (.int p2), .val (.int p3), .val (.int p4), .val (.int p5), .val (.int (0 : Int32)), .val (.int (1 : Int32)), .val (.int (0 : Int32)), .val (.ref a)] [(.int p4), (.int p3), (.ref a)])) _
      refine XS.iload X1.here hx rfl (hb hby at_52) rfl ?_
      show Steps p.tables e below (T1.setTop (mkF m 54 #[.val (.int p1), .val (.int p2), .val (.int p3), .val (.int p4), .val (.int p5), .val (.int (0 : Int32)), .val (.int (1 : Int32)), .val (.int (0 : Int32)), .val (.ref a)] [(.int (1 : Int32)), (.int p4), (.int p3), (.ref a)])) _
      refine st2.trans ?_
      show Steps p.tables e below (T2.setTop (mkF m 57 #[.val (.int p1), .val (.int p2), .val (.int p3), .val (.int p4), .val (.int p5), .val (.int (0 : Int32)), .val (.int (1 : Int32)), .val (.int (0 : Int32)), .val (.ref a)] [])) _
      refine XS.aload X2.here hx rfl (hb hby at_57) rfl rfl ?_
      show Steps p.tables e below (T2.setTop (mkF m 59 #[.val (.int p1), .val (.int p2), .val (.int p3), .val (.int p4), .val (.int p5), .val (.int (0 : Int32)), .val (.int (1 : Int32)), .val (.int (0 : Int32)), .val (.ref a)] [(.ref a)])) _
      refine st3.trans ?_
      show Steps p.tables e below (T3.setTop (mkF m 62 #[.val (.int p1), .val (.int p2), .val (.int p3), .val (.int p4), .val (.int p5), .val (.int (0 : Int32)), .val (.int (1 : Int32)), .val (.int (0 : Int32)), .val (.ref a)] [(.int (2 : Int32))])) _
      refine XS.iload X3.here hx rfl (hb hby at_62) rfl ?_
      show Steps p.tables e below (T3.setTop (mkF m 64 #[.val (.int p1), .val (.int p2), .val (.int p3), .val (.int p4), .val (.int p5), .val (.int (0 : Int32)), .val (.int (1 : Int32)), .val (.int (0 : Int32)), .val (.ref a)] [(.int (0 : Int32)), (.int (2 : Int32))])) _
      refine XS.ifYes X3.here hx rfl (pc0 := 64) (pc' := 71) rfl (hb hby at_64) rfl ((if0 _ _).trans (teq (by decide : (0 : Int32) = (0 : Int32))).1) (by decide) (by decide) ?_
      show Steps p.tables e below (T3.setTop (mkF m 71 #[.val (.int p1), .val (.int p2), .val (.int p3), .val (.int p4), .val (.int p5), .val (.int (0 : Int32)), .val (.int (1 : Int32)), .val (.int (0 : Int32)), .val (.ref a)] [(.int (2 : Int32))])) _
      refine XS.iconst X3.here hx rfl (hb hby at_71) ?_
      show Steps p.tables e below (T3.setTop (mkF m 72 #[.val (.int p1), .val (.int p2), .val (.int p3), .val (.int p4), .val (.int p5), .val (.int (0 : Int32)), .val (.int (1 : Int32)), .val (.int (0 : Int32)), .val (.ref a)] [(.int (2 : Int32)), (.int (2 : Int32))])) _
      refine XS.icmpYes X3.here hx rfl (pc0 := 72) (pc' := 77) rfl (hb hby at_72) rfl (teq (by decide : (2 : Int32) = (2 : Int32))).1 (by decide) (by decide) ?_
      show Steps p.tables e below (T3.setTop (mkF m 77 #[.val (.int p1), .val (.int p2), .val (.int p3), .val (.int p4), .val (.int p5), .val (.int (0 : Int32)), .val (.int (1 : Int32)), .val (.int (0 : Int32)), .val (.ref a)] [])) _
      refine XS.aload X3.here hx rfl (hb hby at_77) rfl rfl ?_
      show Steps p.tables e below (T3.setTop (mkF m 79 #[.val (.int p1), .val (.int p2), .val (.int p3), .val (.int p4), .val (.int p5), .val (.int (0 : Int32)), .val (.int (1 : Int32)), .val (.int (0 : Int32)), .val (.ref a)] [(.ref a)])) _
      refine XS.iconst X3.here hx rfl (hb hby at_79) ?_
      show Steps p.tables e below (T3.setTop (mkF m 80 #[.val (.int p1), .val (.int p2), .val (.int p3), .val (.int p4), .val (.int p5), .val (.int (0 : Int32)), .val (.int (1 : Int32)), .val (.int (0 : Int32)), .val (.ref a)] [(.int (0 : Int32)), (.ref a)])) _
      refine st4.trans ?_
      show Steps p.tables e below (T4.setTop (mkF m 83 #[.val (.int p1), .val (.int p2), .val (.int p3), .val (.int p4), .val (.int p5), .val (.int (0 : Int32)), .val (.int (1 : Int32)), .val (.int (0 : Int32)), .val (.ref a)] [(.int (0 : Int32))])) _
      refine XS.iload X4.here hx rfl (hb hby at_83) rfl ?_
      show Steps p.tables e below (T4.setTop (mkF m 85 #[.val (.int p1), .val (.int p2), .val (.int p3), .val (.int p4), .val (.int p5), .val (.int (0 : Int32)), .val (.int (1 : Int32)), .val (.int (0 : Int32)), .val (.ref a)] [(.int (0 : Int32)), (.int (0 : Int32))])) _
      refine XS.icmpYes X4.here hx rfl (pc0 := 85) (pc' := 90) rfl (hb hby at_85) rfl (teq (by decide : (0 : Int32) = (0 : Int32))).1 (by decide) (by decide) ?_
      show Steps p.tables e below (T4.setTop (mkF m 90 #[.val (.int p1), .val (.int p2), .val (.int p3), .val (.int p4), .val (.int p5), .val (.int (0 : Int32)), .val (.int (1 : Int32)), .val (.int (0 : Int32)), .val (.ref a)] [])) _
      refine XS.iload X4.here hx rfl (hb hby at_90) rfl ?_
      show Steps p.tables e below (T4.setTop (mkF m 92 #[.val (.int p1), .val (.int p2), .val (.int p3), .val (.int p4), .val (.int p5), .val (.int (0 : Int32)), .val (.int (1 : Int32)), .val (.int (0 : Int32)), .val (.ref a)] [(.int (0 : Int32))])) _
      refine XS.ifNo X4.here hx rfl (hb hby at_92) rfl ((if0 _ _).trans (teq (by decide : (0 : Int32) = (0 : Int32))).2) ?_
      show Steps p.tables e below (T4.setTop (mkF m 95 #[.val (.int p1), .val (.int p2), .val (.int p3), .val (.int p4), .val (.int p5), .val (.int (0 : Int32)), .val (.int (1 : Int32)), .val (.int (0 : Int32)), .val (.ref a)] [])) _
      refine XS.aload X4.here hx rfl (hb hby at_95) rfl rfl ?_
      show Steps p.tables e below (T4.setTop (mkF m 97 #[.val (.int p1), .val (.int p2), .val (.int p3), .val (.int p4), .val (.int p5), .val (.int (0 : Int32)), .val (.int (1 : Int32)), .val (.int (0 : Int32)), .val (.ref a)] [(.ref a)])) _
      refine XS.iconst X4.here hx rfl (hb hby at_97) ?_
      show Steps p.tables e below (T4.setTop (mkF m 98 #[.val (.int p1), .val (.int p2), .val (.int p3), .val (.int p4), .val (.int p5), .val (.int (0 : Int32)), .val (.int (1 : Int32)), .val (.int (0 : Int32)), .val (.ref a)] [(.int (1 : Int32)), (.ref a)])) _
      refine st5.trans ?_
      show Steps p.tables e below (T5.setTop (mkF m 101 #[.val (.int p1), .val (.int p2), .val (.int p3), .val (.int p4), .val (.int p5), .val (.int (0 : Int32)), .val (.int (1 : Int32)), .val (.int (0 : Int32)), .val (.ref a)] [(.int (1 : Int32))])) _
      refine XS.iload X5.here hx rfl (hb hby at_101) rfl ?_
      show Steps p.tables e below (T5.setTop (mkF m 103 #[.val (.int p1), .val (.int p2), .val (.int p3), .val (.int p4), .val (.int p5), .val (.int (0 : Int32)), .val (.int (1 : Int32)), .val (.int (0 : Int32)), .val (.ref a)] [(.int (1 : Int32)), (.int (1 : Int32))])) _
      refine XS.icmpYes X5.here hx rfl (pc0 := 103) (pc' := 108) rfl (hb hby at_103) rfl (teq (by decide : (1 : Int32) = (1 : Int32))).1 (by decide) (by decide) ?_
      show Steps p.tables e below (T5.setTop (mkF m 108 #[.val (.int p1), .val (.int p2), .val (.int p3), .val (.int p4), .val (.int p5), .val (.int (0 : Int32)), .val (.int (1 : Int32)), .val (.int (0 : Int32)), .val (.ref a)] [])) _
      refine XS.aload X5.here hx rfl (hb hby at_108) rfl rfl ?_
      show Steps p.tables e below (T5.setTop (mkF m 110 #[.val (.int p1), .val (.int p2), .val (.int p3), .val (.int p4), .val (.int p5), .val (.int (0 : Int32)), .val (.int (1 : Int32)), .val (.int (0 : Int32)), .val (.ref a)] [(.ref a)])) _
      refine XS.iload X5.here hx rfl (hb hby at_110) rfl ?_
      show Steps p.tables e below (T5.setTop (mkF m 112 #[.val (.int p1), .val (.int p2), .val (.int p3), .val (.int p4), .val (.int p5), .val (.int (0 : Int32)), .val (.int (1 : Int32)), .val (.int (0 : Int32)), .val (.ref a)] [(.int (1 : Int32)), (.ref a)])) _
      refine st6.trans ?_
      show Steps p.tables e below (T6.setTop (mkF m 115 #[.val (.int p1), .val (.int p2), .val (.int p3), .val (.int p4), .val (.int p5), .val (.int (0 : Int32)), .val (.int (1 : Int32)), .val (.int (0 : Int32)), .val (.ref a)] [(.int (1 : Int32))])) _
      refine XS.iconst X6.here hx rfl (hb hby at_115) ?_
      show Steps p.tables e below (T6.setTop (mkF m 116 #[.val (.int p1), .val (.int p2), .val (.int p3), .val (.int p4), .val (.int p5), .val (.int (0 : Int32)), .val (.int (1 : Int32)), .val (.int (0 : Int32)), .val (.ref a)] [(.int (1 : Int32)), (.int (1 : Int32))])) _
      refine XS.icmpYes X6.here hx rfl (pc0 := 116) (pc' := 121) rfl (hb hby at_116) rfl (teq (by decide : (1 : Int32) = (1 : Int32))).1 (by decide) (by decide) ?_
      show Steps p.tables e below (T6.setTop (mkF m 121 #[.val (.int p1), .val (.int p2), .val (.int p3), .val (.int p4), .val (.int p5), .val (.int (0 : Int32)), .val (.int (1 : Int32)), .val (.int (0 : Int32)), .val (.ref a)] [])) _
      refine XS.iload X6.here hx rfl (hb hby at_121) rfl ?_
      show Steps p.tables e below (T6.setTop (mkF m 123 #[.val (.int p1), .val (.int p2), .val (.int p3), .val (.int p4), .val (.int p5), .val (.int (0 : Int32)), .val (.int (1 : Int32)), .val (.int (0 : Int32)), .val (.ref a)] [(.int (0 : Int32))])) _
      refine XS.ifNo X6.here hx rfl (hb hby at_123) rfl ((if0 _ _).trans (teq (by decide : (0 : Int32) = (0 : Int32))).2) ?_
      show Steps p.tables e below (T6.setTop (mkF m 126 #[.val (.int p1), .val (.int p2), .val (.int p3), .val (.int p4), .val (.int p5), .val (.int (0 : Int32)), .val (.int (1 : Int32)), .val (.int (0 : Int32)), .val (.ref a)] [])) _
      refine XS.aload X6.here hx rfl (hb hby at_126) rfl rfl ?_
      show Steps p.tables e below (T6.setTop (mkF m 128 #[.val (.int p1), .val (.int p2), .val (.int p3), .val (.int p4), .val (.int p5), .val (.int (0 : Int32)), .val (.int (1 : Int32)), .val (.int (0 : Int32)), .val (.ref a)] [(.ref a)])) _
      refine XS.iload X6.here hx rfl (hb hby at_128) rfl ?_
      show Steps p.tables e below (T6.setTop (mkF m 130 #[.val (.int p1), .val (.int p2), .val (.int p3), .val (.int p4), .val (.int p5), .val (.int (0 : Int32)), .val (.int (1 : Int32)), .val (.int (0 : Int32)), .val (.ref a)] [(.int (0 : Int32)), (.ref a)])) _
      refine st7.trans ?_
      show Steps p.tables e below (T7.setTop (mkF m 133 #[.val (.int p1), .val (.int p2), .val (.int p3), .val (.int p4), .val (.int p5), .val (.int (0 : Int32)), .val (.int (1 : Int32)), .val (.int (0 : Int32)), .val (.ref a)] [(.int (0 : Int32))])) _
      refine XS.ifYes X7.here hx rfl (pc0 := 133) (pc' := 138) rfl (hb hby at_133) rfl ((if0 _ _).trans (teq (by decide : (0 : Int32) = (0 : Int32))).1) (by decide) (by decide) ?_
      show Steps p.tables e below (T7.setTop (mkF m 138 #[.val (.int p1), .val (.int p2), .val (.int p3), .val (.int p4), .val (.int p5), .val (.int (0 : Int32)), .val (.int (1 : Int32)), .val (.int (0 : Int32)), .val (.ref a)] [])) _
      refine XS.iload X7.here hx rfl (hb hby at_138) rfl ?_
      show Steps p.tables e below (T7.setTop (mkF m 140 #[.val (.int p1), .val (.int p2), .val (.int p3), .val (.int p4), .val (.int p5), .val (.int (0 : Int32)), .val (.int (1 : Int32)), .val (.int (0 : Int32)), .val (.ref a)] [(.int (0 : Int32))])) _
      refine XS.ifYes X7.here hx rfl (pc0 := 140) (pc' := 158) rfl (hb hby at_140) rfl ((if0 _ _).trans (teq (by decide : (0 : Int32) = (0 : Int32))).1) (by decide) (by decide) ?_
      show Steps p.tables e below (T7.setTop (mkF m 158 #[.val (.int p1), .val (.int p2), .val (.int p3), .val (.int p4), .val (.int p5), .val (.int (0 : Int32)), .val (.int (1 : Int32)), .val (.int (0 : Int32)), .val (.ref a)] [])) _
      refine XS.aload X7.here hx rfl (hb hby at_158) rfl rfl ?_
      show Steps p.tables e below (T7.setTop (mkF m 160 #[.val (.int p1), .val (.int p2), .val (.int p3), .val (.int p4), .val (.int p5), .val (.int (0 : Int32)), .val (.int (1 : Int32)), .val (.int (0 : Int32)), .val (.ref a)] [(.ref a)])) _
      refine XS.iconst X7.here hx rfl (hb hby at_160) ?_
      show Steps p.tables e below (T7.setTop (mkF m 161 #[.val (.int p1), .val (.int p2), .val (.int p3), .val (.int p4), .val (.int p5), .val (.int (0 : Int32)), .val (.int (1 : Int32)), .val (.int (0 : Int32)), .val (.ref a)] [(.int (1 : Int32)), (.ref a)])) _
      refine st8.trans ?_
      show Steps p.tables e below (T8.setTop (mkF m 164 #[.val (.int p1), .val (.int p2), .val (.int p3), .val (.int p4), .val (.int p5), .val (.int (0 : Int32)), .val (.int (1 : Int32)), .val (.int (0 : Int32)), .val (.ref a)] [(.int (-1 : Int32))])) _
      refine XS.iload X8.here hx rfl (hb hby at_164) rfl ?_
      show Steps p.tables e below (T8.setTop (mkF m 166 #[.val (.int p1), .val (.int p2), .val (.int p3), .val (.int p4), .val (.int p5), .val (.int (0 : Int32)), .val (.int (1 : Int32)), .val (.int (0 : Int32)), .val (.ref a)] [(.int (0 : Int32)), (.int (-1 : Int32))])) _
      refine XS.ifYes X8.here hx rfl (pc0 := 166) (pc' := 173) rfl (hb hby at_166) rfl ((if0 _ _).trans (teq (by decide : (0 : Int32) = (0 : Int32))).1) (by decide) (by decide) ?_
      show Steps p.tables e below (T8.setTop (mkF m 173 #[.val (.int p1), .val (.int p2), .val (.int p3), .val (.int p4), .val (.int p5), .val (.int (0 : Int32)), .val (.int (1 : Int32)), .val (.int (0 : Int32)), .val (.ref a)] [(.int (-1 : Int32))])) _
      refine XS.iconst X8.here hx rfl (hb hby at_173) ?_
      show Steps p.tables e below (T8.setTop (mkF m 174 #[.val (.int p1), .val (.int p2), .val (.int p3), .val (.int p4), .val (.int p5), .val (.int (0 : Int32)), .val (.int (1 : Int32)), .val (.int (0 : Int32)), .val (.ref a)] [(.int (-1 : Int32)), (.int (-1 : Int32))])) _
      refine XS.icmpYes X8.here hx rfl (pc0 := 174) (pc' := 179) rfl (hb hby at_174) rfl (teq (by decide : (-1 : Int32) = (-1 : Int32))).1 (by decide) (by decide) ?_
      show Steps p.tables e below (T8.setTop (mkF m 179 #[.val (.int p1), .val (.int p2), .val (.int p3), .val (.int p4), .val (.int p5), .val (.int (0 : Int32)), .val (.int (1 : Int32)), .val (.int (0 : Int32)), .val (.ref a)] [])) _
      refine XS.aload X8.here hx rfl (hb hby at_179) rfl rfl ?_
      show Steps p.tables e below (T8.setTop (mkF m 181 #[.val (.int p1), .val (.int p2), .val (.int p3), .val (.int p4), .val (.int p5), .val (.int (0 : Int32)), .val (.int (1 : Int32)), .val (.int (0 : Int32)), .val (.ref a)] [(.ref a)])) _
      refine XS.iconst X8.here hx rfl (hb hby at_181) ?_
      show Steps p.tables e below (T8.setTop (mkF m 182 #[.val (.int p1), .val (.int p2), .val (.int p3), .val (.int p4), .val (.int p5), .val (.int (0 : Int32)), .val (.int (1 : Int32)), .val (.int (0 : Int32)), .val (.ref a)] [(.int (0 : Int32)), (.ref a)])) _
      refine st9.trans ?_
      show Steps p.tables e below (T9.setTop (mkF m 185 #[.val (.int p1), .val (.int p2), .val (.int p3), .val (.int p4), .val (.int p5), .val (.int (0 : Int32)), .val (.int (1 : Int32)), .val (.int (0 : Int32)), .val (.ref a)] [(.int (-1 : Int32))])) _
      refine XS.iconst X9.here hx rfl (hb hby at_185) ?_
      show Steps p.tables e below (T9.setTop (mkF m 186 #[.val (.int p1), .val (.int p2), .val (.int p3), .val (.int p4), .val (.int p5), .val (.int (0 : Int32)), .val (.int (1 : Int32)), .val (.int (0 : Int32)), .val (.ref a)] [(.int (-1 : Int32)), (.int (-1 : Int32))])) _
      refine XS.icmpYes X9.here hx rfl (pc0 := 186) (pc' := 191) rfl (hb hby at_186) rfl (teq (by decide : (-1 : Int32) = (-1 : Int32))).1 (by decide) (by decide) ?_
      show Steps p.tables e below (T9.setTop (mkF m 191 #[.val (.int p1), .val (.int p2), .val (.int p3), .val (.int p4), .val (.int p5), .val (.int (0 : Int32)), .val (.int (1 : Int32)), .val (.int (0 : Int32)), .val (.ref a)] [])) _
      refine XS.aload X9.here hx rfl (hb hby at_191) rfl rfl ?_
      show Steps p.tables e below (T9.setTop (mkF m 193 #[.val (.int p1), .val (.int p2), .val (.int p3), .val (.int p4), .val (.int p5), .val (.int (0 : Int32)), .val (.int (1 : Int32)), .val (.int (0 : Int32)), .val (.ref a)] [(.ref a)])) _
      refine XS.iconst X9.here hx rfl (hb hby at_193) ?_
      show Steps p.tables e below (T9.setTop (mkF m 194 #[.val (.int p1), .val (.int p2), .val (.int p3), .val (.int p4), .val (.int p5), .val (.int (0 : Int32)), .val (.int (1 : Int32)), .val (.int (0 : Int32)), .val (.ref a)] [(.int (0 : Int32)), (.ref a)])) _
      refine st10.trans ?_
      show Steps p.tables e below (T10.setTop (mkF m 197 #[.val (.int p1), .val (.int p2), .val (.int p3), .val (.int p4), .val (.int p5), .val (.int (0 : Int32)), .val (.int (1 : Int32)), .val (.int (0 : Int32)), .val (.ref a)] [(.int p1)])) _
      refine XS.iloadN X10.here hx rfl (hb hby at_197) rfl ?_
      show Steps p.tables e below (T10.setTop (mkF m 198 #[.val (.int p1), .val (.int p2), .val (.int p3), .val (.int p4), .val (.int p5), .val (.int (0 : Int32)), .val (.int (1 : Int32)), .val (.int (0 : Int32)), .val (.ref a)] [(.int p1), (.int p1)])) _
      refine XS.icmpNo X10.here hx rfl (hb hby at_198) rfl (teq (rfl : p1 = p1)).2 ?_
      show Steps p.tables e below (T10.setTop (mkF m 201 #[.val (.int p1), .val (.int p2), .val (.int p3), .val (.int p4), .val (.int p5), .val (.int (0 : Int32)), .val (.int (1 : Int32)), .val (.int (0 : Int32)), .val (.ref a)] [])) _
      refine XS.aload X10.here hx rfl (hb hby at_201) rfl rfl ?_
      show Steps p.tables e below (T10.setTop (mkF m 203 #[.val (.int p1), .val (.int p2), .val (.int p3), .val (.int p4), .val (.int p5), .val (.int (0 : Int32)), .val (.int (1 : Int32)), .val (.int (0 : Int32)), .val (.ref a)] [(.ref a)])) _
      refine XS.iconst X10.here hx rfl (hb hby at_203) ?_
      show Steps p.tables e below (T10.setTop (mkF m 204 #[.val (.int p1), .val (.int p2), .val (.int p3), .val (.int p4), .val (.int p5), .val (.int (0 : Int32)), .val (.int (1 : Int32)), .val (.int (0 : Int32)), .val (.ref a)] [(.int (0 : Int32)), (.ref a)])) _
      refine st11.trans ?_
      show Steps p.tables e below (T11.setTop (mkF m 207 #[.val (.int p1), .val (.int p2), .val (.int p3), .val (.int p4), .val (.int p5), .val (.int (0 : Int32)), .val (.int (1 : Int32)), .val (.int (0 : Int32)), .val (.ref a)] [(.int p2)])) _
      refine XS.iloadN X11.here hx rfl (hb hby at_207) rfl ?_
      show Steps p.tables e below (T11.setTop (mkF m 208 #[.val (.int p1), .val (.int p2), .val (.int p3), .val (.int p4), .val (.int p5), .val (.int (0 : Int32)), .val (.int (1 : Int32)), .val (.int (0 : Int32)), .val (.ref a)] [(.int p2), (.int p2)])) _
      refine XS.icmpNo X11.here hx rfl (hb hby at_208) rfl (teq (rfl : p2 = p2)).2 ?_
      show Steps p.tables e below (T11.setTop (mkF m 211 #[.val (.int p1), .val (.int p2), .val (.int p3), .val (.int p4), .val (.int p5), .val (.int (0 : Int32)), .val (.int (1 : Int32)), .val (.int (0 : Int32)), .val (.ref a)] [])) _
      refine XS.aload X11.here hx rfl (hb hby at_211) rfl rfl ?_
      show Steps p.tables e below (T11.setTop (mkF m 213 #[.val (.int p1), .val (.int p2), .val (.int p3), .val (.int p4), .val (.int p5), .val (.int (0 : Int32)), .val (.int (1 : Int32)), .val (.int (0 : Int32)), .val (.ref a)] [(.ref a)])) _
      refine XS.iconst X11.here hx rfl (hb hby at_213) ?_
      show Steps p.tables e below (T11.setTop (mkF m 214 #[.val (.int p1), .val (.int p2), .val (.int p3), .val (.int p4), .val (.int p5), .val (.int (0 : Int32)), .val (.int (1 : Int32)), .val (.int (0 : Int32)), .val (.ref a)] [(.int (1 : Int32)), (.ref a)])) _
      refine st12.trans ?_
      show Steps p.tables e below (T12.setTop (mkF m 217 #[.val (.int p1), .val (.int p2), .val (.int p3), .val (.int p4), .val (.int p5), .val (.int (0 : Int32)), .val (.int (1 : Int32)), .val (.int (0 : Int32)), .val (.ref a)] [(.int p3)])) _
      refine XS.iloadN X12.here hx rfl (hb hby at_217) rfl ?_
      show Steps p.tables e below (T12.setTop (mkF m 218 #[.val (.int p1), .val (.int p2), .val (.int p3), .val (.int p4), .val (.int p5), .val (.int (0 : Int32)), .val (.int (1 : Int32)), .val (.int (0 : Int32)), .val (.ref a)] [(.int p3), (.int p3)])) _
      refine XS.icmpNo X12.here hx rfl (hb hby at_218) rfl (teq (rfl : p3 = p3)).2 ?_
      show Steps p.tables e below (T12.setTop (mkF m 221 #[.val (.int p1), .val (.int p2), .val (.int p3), .val (.int p4), .val (.int p5), .val (.int (0 : Int32)), .val (.int (1 : Int32)), .val (.int (0 : Int32)), .val (.ref a)] [])) _
      refine XS.aload X12.here hx rfl (hb hby at_221) rfl rfl ?_
      show Steps p.tables e below (T12.setTop (mkF m 223 #[.val (.int p1), .val (.int p2), .val (.int p3), .val (.int p4), .val (.int p5), .val (.int (0 : Int32)), .val (.int (1 : Int32)), .val (.int (0 : Int32)), .val (.ref a)] [(.ref a)])) _
      refine XS.iconst X12.here hx rfl (hb hby at_223) ?_
      show Steps p.tables e below (T12.setTop (mkF m 224 #[.val (.int p1), .val (.int p2), .val (.int p3), .val (.int p4), .val (.int p5), .val (.int (0 : Int32)), .val (.int (1 : Int32)), .val (.int (0 : Int32)), .val (.ref a)] [(.int (1 : Int32)), (.ref a)])) _
      refine st13.trans ?_
      show Steps p.tables e below (T13.setTop (mkF m 227 #[.val (.int p1), .val (.int p2), .val (.int p3), .val (.int p4), .val (.int p5), .val (.int (0 : Int32)), .val (.int (1 : Int32)), .val (.int (0 : Int32)), .val (.ref a)] [(.int p4)])) _
      refine XS.iloadN X13.here hx rfl (hb hby at_227) rfl ?_
      show Steps p.tables e below (T13.setTop (mkF m 228 #[.val (.int p1), .val (.int p2), .val (.int p3), .val (.int p4), .val (.int p5), .val (.int (0 : Int32)), .val (.int (1 : Int32)), .val (.int (0 : Int32)), .val (.ref a)] [(.int p4), (.int p4)])) _
      refine XS.icmpNo X13.here hx rfl (hb hby at_228) rfl (teq (rfl : p4 = p4)).2 ?_
      show Steps p.tables e below (T13.setTop (mkF m 231 #[.val (.int p1), .val (.int p2), .val (.int p3), .val (.int p4), .val (.int p5), .val (.int (0 : Int32)), .val (.int (1 : Int32)), .val (.int (0 : Int32)), .val (.ref a)] [])) _
      refine XS.iconst X13.here hx rfl (hb hby at_231) ?_
      show Steps p.tables e below (T13.setTop (mkF m 232 #[.val (.int p1), .val (.int p2), .val (.int p3), .val (.int p4), .val (.int p5), .val (.int (0 : Int32)), .val (.int (1 : Int32)), .val (.int (0 : Int32)), .val (.ref a)] [(.int (1 : Int32))])) _
      refine XS.goto X13.here hx rfl (pc0 := 232) (pc' := 236) rfl (hb hby at_232) (by decide) (by decide) ?_
      show Steps p.tables e below (T13.setTop (mkF m 236 #[.val (.int p1), .val (.int p2), .val (.int p3), .val (.int p4), .val (.int p5), .val (.int (0 : Int32)), .val (.int (1 : Int32)), .val (.int (0 : Int32)), .val (.ref a)] [(.int (1 : Int32))])) _
      exact retN X13 hx (t := .boolean) Bd.returns (by simp) (hb hby at_236) hr
    · exact ⟨rfl, N13⟩
  · rw [show own_a p5 = (1 : Int32) from ha, show own_b p5 = (0 : Int32) from hb'] at sg0
    obtain ⟨TO, hO, XO, eO, EO, AO, DO, -, stO⟩ := newO X0 hx hZ hown (hw _ (List.mem_of_getElem? (i := 0) rfl)) (hw _ (List.mem_of_getElem? (i := 1) rfl)) (hw _ (List.mem_of_getElem? (i := 2) rfl)) e0 (g := (mkF m 28 #[.val (.int p1), .val (.int p2), .val (.int p3), .val (.int p4), .val (.int p5), .val (.int (1 : Int32)), .val (.int (0 : Int32)), .val (.int (0 : Int32)), .unset] [])) rfl (hb hby at_28) (by decide) (by decide)
    obtain ⟨a, gO⟩ : ∃ z, z = h0.size := ⟨_, rfl⟩
    rw [← gO] at AO DO stO
    have g_a : n0 ≤ a := Nat.le_trans Z0 (Nat.le_of_eq gO.symm)
    have ZO : n0 ≤ hO.size := Nat.le_trans Z0 EO.1
    obtain ⟨_, _, ⟨TC, LC, kC, nC⟩, -, XC, ⟨LcC, hQC, lC, yC, zC⟩, stC⟩ := XO.specialBack hx (y := (⟨"com/example/meticulous_handshake/meticuloushandshake/bisimulation/ArcsByLabel", "<init>", "(II)V"⟩ : MethodName)) rfl hown (mvT hZ (hw _ (List.mem_of_getElem? (i := 3) rfl))) (mvT hZ (hw _ (List.mem_of_getElem? (i := 4) rfl))) (mvT hZ (hw _ (List.mem_of_getElem? (i := 5) rfl))) (by decide) (backOf (W := 1) (rm1 l Z a0 hw [] a hO n0 ZO AO (DO (Or.inr (hw _ (List.mem_of_getElem? (i := 11) rfl))) (ty := (.array .int)) (by decide)) (DO (Or.inr (hw _ (List.mem_of_getElem? (i := 13) rfl))) (ty := (.array .int)) (by decide)) (DO (Or.inr (hw _ (List.mem_of_getElem? (i := 15) rfl))) (ty := (.array .int)) (by decide)) (DO (Or.inr (hw _ (List.mem_of_getElem? (i := 17) rfl))) (ty := (.array .int)) (by decide)) (DO (Or.inr (hw _ (List.mem_of_getElem? (i := 23) rfl))) (ty := (.array .int)) (by decide)) (DO (Or.inl (hw _ (List.mem_of_getElem? (i := 30) rfl))) (ty := .int) (by decide)) (DO (Or.inl (hw _ (List.mem_of_getElem? (i := 32) rfl))) (ty := .int) (by decide)) g_a) hZ (hw _ (List.mem_of_getElem? (i := 5) rfl)) (hw _ (List.mem_of_getElem? (i := 2) rfl)) (by decide) (by decide)) (g := (mkF m 34 #[.val (.int p1), .val (.int p2), .val (.int p3), .val (.int p4), .val (.int p5), .val (.int (1 : Int32)), .val (.int (0 : Int32)), .val (.int (0 : Int32)), .unset] [(.int (2 : Int32)), (.int (2 : Int32)), (.ref a), (.ref a)])) rfl (by rw [hml]; rfl) (Steps.refl _) (a := a) (argsL := [(.int (2 : Int32)), (.int (2 : Int32))]) (rest := [(.ref a)]) (lenOf pd_ini rfl) rfl (by show 2 * 0 + _ ≤ _; exact Nat.le_of_eq rfl) (hb hby at_34) (fun _ _ => ⟨rfl, eO, (by decide : 1 + 5 ≤ _), (by decide : 7 + 10 ≤ _)⟩)
    dsimp only [Pt.U, Pt.locs, Pt.cells, Pt.slots] at XC lC yC zC stC hQC
    subst lC yC zC
    obtain ⟨rfl, NCq, ZC, bA, bS, bN, bF, bL, od, OC⟩ := hQC
    have NC := Fr.app N0 NCq
    obtain ⟨cq1, kq1, qa1, qb1, qc1⟩ := isOf hZ rfl OC.1
    obtain ⟨_, _, ⟨T1, L1, k1, n1⟩, -, X1, ⟨Lc1, hQ1, l1, y1, z1⟩, st1⟩ := XC.virtualBack hx (y := (⟨"com/example/meticulous_handshake/meticuloushandshake/bisimulation/ArcsByLabel", "add", "(III)V"⟩ : MethodName)) (z := (⟨"com/example/meticulous_handshake/meticuloushandshake/bisimulation/ArcsByLabel", "add", "(III)V"⟩ : MethodName)) hown (mvT hZ (hw _ (List.mem_of_getElem? (i := 24) rfl))) (mvT hZ (hw _ (List.mem_of_getElem? (i := 25) rfl))) (notFace_of_selects (args := #[]) (mvT hZ (hw _ (List.mem_of_getElem? (i := 27) rfl)))) (mvT hZ (hw _ (List.mem_of_getElem? (i := 27) rfl))) (mvT hZ (hw _ (List.mem_of_getElem? (i := 26) rfl))) (by decide) (backOf (W := 0) (rm4A l Z a0 hw [] a bA bS bN bF bL p1 p2 (1 : Int32) (0 : Int32) (0 : Int32) (-1 : Int32) [(.int (0 : Int32)), (.int (0 : Int32))] [(.int (0 : Int32)), (.int (0 : Int32))] [(.int (0 : Int32)), (.int (0 : Int32))] [(.int (-1 : Int32)), (.int (-1 : Int32))] [(.int (0 : Int32)), (.int (0 : Int32))] 0 1 0 TC.heap n0 ZC OC od g_a (by decide) rfl (by decide) rfl (by decide) rfl ⟨by decide, by decide, by decide, rfl, rfl, rfl, rfl, rfl⟩ rfl (by decide)) hZ (hw _ (List.mem_of_getElem? (i := 28) rfl)) (hw _ (List.mem_of_getElem? (i := 2) rfl)) (by decide) (by decide)) qa1 qc1 (g := (mkF m 45 #[.val (.int p1), .val (.int p2), .val (.int p3), .val (.int p4), .val (.int p5), .val (.int (1 : Int32)), .val (.int (0 : Int32)), .val (.int (0 : Int32)), .val (.ref a)] [(.int (1 : Int32)), (.int p2), (.int p1), (.ref a)])) rfl (by rw [hml]; rfl) (Steps.refl _) (argsL := [(.int p1), (.int p2), (.int (1 : Int32))]) (rest := []) (lenOf pd_add rfl) rfl (by show 2 * 0 + _ ≤ _; exact Nat.le_of_eq rfl) (hb hby at_45) (fun _ _ => ⟨rfl, rfl, (by decide : 6 + 0 ≤ _), (by decide : 17 + 0 ≤ _)⟩)
    dsimp only [Pt.U, Pt.locs, Pt.cells, Pt.slots] at X1 l1 y1 z1 st1 hQ1
    subst l1 y1 z1
    obtain ⟨rfl, N1q, Z1, OO1⟩ := hQ1
    have N1 := Fr.app NC N1q
    have O1 : OwnObj Z T1.heap a bA bS bN bF bL (1 : Int32) (1 : Int32) [(.int p1), (.int (0 : Int32))] [(.int p2), (.int (0 : Int32))] [(.int (-1 : Int32)), (.int (0 : Int32))] [(.int (-1 : Int32)), (.int (0 : Int32))] [(.int (1 : Int32)), (.int (0 : Int32))] := OO1
    obtain ⟨cq2, kq2, qa2, qb2, qc2⟩ := isOf hZ rfl O1.1
    obtain ⟨_, _, ⟨T2, L2, k2, n2⟩, -, X2, ⟨Lc2, hQ2, l2, y2, z2⟩, st2⟩ := X1.virtualBack hx (y := (⟨"com/example/meticulous_handshake/meticuloushandshake/bisimulation/ArcsByLabel", "add", "(III)V"⟩ : MethodName)) (z := (⟨"com/example/meticulous_handshake/meticuloushandshake/bisimulation/ArcsByLabel", "add", "(III)V"⟩ : MethodName)) hown (mvT hZ (hw _ (List.mem_of_getElem? (i := 24) rfl))) (mvT hZ (hw _ (List.mem_of_getElem? (i := 25) rfl))) (notFace_of_selects (args := #[]) (mvT hZ (hw _ (List.mem_of_getElem? (i := 27) rfl)))) (mvT hZ (hw _ (List.mem_of_getElem? (i := 27) rfl))) (mvT hZ (hw _ (List.mem_of_getElem? (i := 26) rfl))) (by decide) (backOf (W := 0) (rm4A l Z a0 hw [] a bA bS bN bF bL p3 p4 (0 : Int32) (1 : Int32) (1 : Int32) (-1 : Int32) [(.int p1), (.int (0 : Int32))] [(.int p2), (.int (0 : Int32))] [(.int (-1 : Int32)), (.int (0 : Int32))] [(.int (-1 : Int32)), (.int (0 : Int32))] [(.int (1 : Int32)), (.int (0 : Int32))] 1 0 1 T1.heap n0 Z1 O1 od g_a (by decide) rfl (by decide) rfl (by decide) rfl ⟨by decide, by decide, by decide, rfl, rfl, rfl, rfl, rfl⟩ rfl (by decide)) hZ (hw _ (List.mem_of_getElem? (i := 28) rfl)) (hw _ (List.mem_of_getElem? (i := 2) rfl)) (by decide) (by decide)) qa2 qc2 (g := (mkF m 54 #[.val (.int p1), .val (.int p2), .val (.int p3), .val (.int p4), .val (.int p5), .val (.int (1 : Int32)), .val (.int (0 : Int32)), .val (.int (0 : Int32)), .val (.ref a)] [(.int (0 : Int32)), (.int p4), (.int p3), (.ref a)])) rfl (by rw [hml]; rfl) (Steps.refl _) (argsL := [(.int p3), (.int p4), (.int (0 : Int32))]) (rest := []) (lenOf pd_add rfl) rfl (by show 2 * 0 + _ ≤ _; exact Nat.le_of_eq rfl) (hb hby at_54) (fun _ _ => ⟨rfl, rfl, (by decide : 6 + 0 ≤ _), (by decide : 17 + 0 ≤ _)⟩)
    dsimp only [Pt.U, Pt.locs, Pt.cells, Pt.slots] at X2 l2 y2 z2 st2 hQ2
    subst l2 y2 z2
    obtain ⟨rfl, N2q, Z2, OO2⟩ := hQ2
    have N2 := Fr.app N1 N2q
    have O2 : OwnObj Z T2.heap a bA bS bN bF bL (2 : Int32) (2 : Int32) [(.int p1), (.int p3)] [(.int p2), (.int p4)] [(.int (-1 : Int32)), (.int (-1 : Int32))] [(.int (1 : Int32)), (.int (0 : Int32))] [(.int (1 : Int32)), (.int (0 : Int32))] := OO2
    obtain ⟨cq3, kq3, qa3, qb3, qc3⟩ := isOf hZ rfl O2.1
    obtain ⟨_, _, ⟨T3, L3, k3, n3⟩, -, X3, ⟨Lc3, hQ3, l3, y3, z3⟩, st3⟩ := X2.virtualBack hx (y := (⟨"com/example/meticulous_handshake/meticuloushandshake/bisimulation/ArcsByLabel", "labelCount", "()I"⟩ : MethodName)) (z := (⟨"com/example/meticulous_handshake/meticuloushandshake/bisimulation/ArcsByLabel", "labelCount", "()I"⟩ : MethodName)) hown (mvT hZ (hw _ (List.mem_of_getElem? (i := 33) rfl))) (mvT hZ (hw _ (List.mem_of_getElem? (i := 34) rfl))) (notFace_of_selects (args := #[]) (mvT hZ (hw _ (List.mem_of_getElem? (i := 36) rfl)))) (mvT hZ (hw _ (List.mem_of_getElem? (i := 36) rfl))) (mvT hZ (hw _ (List.mem_of_getElem? (i := 35) rfl))) (by decide) (backOf (W := 0) (rm5 l Z a0 hw [] a (2 : Int32) T2.heap n0 Z2 O2.2.2.2.2.2.2.2.1) hZ (hw _ (List.mem_of_getElem? (i := 37) rfl)) (hw _ (List.mem_of_getElem? (i := 2) rfl)) (by decide) (by decide)) qa3 qc3 (g := (mkF m 59 #[.val (.int p1), .val (.int p2), .val (.int p3), .val (.int p4), .val (.int p5), .val (.int (1 : Int32)), .val (.int (0 : Int32)), .val (.int (0 : Int32)), .val (.ref a)] [(.ref a)])) rfl (by rw [hml]; rfl) (Steps.refl _) (argsL := []) (rest := []) (lenOf pd_lc rfl) rfl (by show 2 * 0 + _ ≤ _; exact Nat.le_of_eq rfl) (hb hby at_59) (fun _ _ => ⟨rfl, rfl, (by decide : 6 + 0 ≤ _), (by decide : 17 + 0 ≤ _)⟩)
    dsimp only [Pt.U, Pt.locs, Pt.cells, Pt.slots] at X3 l3 y3 z3 st3 hQ3
    subst l3 y3 z3
    obtain ⟨rfl, N3q, e3⟩ := hQ3
    have N3 := Fr.app N2 N3q
    obtain ⟨cq4, kq4, qa4, qb4, qc4⟩ := isOf hZ e3 O2.1
    obtain ⟨_, _, ⟨T4, L4, k4, n4⟩, -, X4, ⟨Lc4, hQ4, l4, y4, z4⟩, st4⟩ := X3.virtualBack hx (y := (⟨"com/example/meticulous_handshake/meticuloushandshake/bisimulation/ArcsByLabel", "label", "(I)I"⟩ : MethodName)) (z := (⟨"com/example/meticulous_handshake/meticuloushandshake/bisimulation/ArcsByLabel", "label", "(I)I"⟩ : MethodName)) hown (mvT hZ (hw _ (List.mem_of_getElem? (i := 38) rfl))) (mvT hZ (hw _ (List.mem_of_getElem? (i := 39) rfl))) (notFace_of_selects (args := #[]) (mvT hZ (hw _ (List.mem_of_getElem? (i := 41) rfl)))) (mvT hZ (hw _ (List.mem_of_getElem? (i := 41) rfl))) (mvT hZ (hw _ (List.mem_of_getElem? (i := 40) rfl))) (by decide) (backOf (W := 0) (rm6 l Z a0 hw [] a (0 : Int32) bL [(.int (1 : Int32)), (.int (0 : Int32))] 0 (1 : Int32) T2.heap n0 Z2 O2.2.2.2.2.2.1 O2.2.2.2.2.2.2.2.2.2.2.2.2 (by decide) rfl rfl) hZ (hw _ (List.mem_of_getElem? (i := 42) rfl)) (hw _ (List.mem_of_getElem? (i := 2) rfl)) (by decide) (by decide)) qa4 qc4 (g := (mkF m 80 #[.val (.int p1), .val (.int p2), .val (.int p3), .val (.int p4), .val (.int p5), .val (.int (1 : Int32)), .val (.int (0 : Int32)), .val (.int (0 : Int32)), .val (.ref a)] [(.int (0 : Int32)), (.ref a)])) rfl (by rw [hml]; rfl) (Steps.refl _) (argsL := [(.int (0 : Int32))]) (rest := []) (lenOf pd_get rfl) rfl (by show 2 * 0 + _ ≤ _; exact Nat.le_of_eq rfl) (hb hby at_80) (fun _ _ => ⟨rfl, e3, (by decide : 6 + 0 ≤ _), (by decide : 17 + 0 ≤ _)⟩)
    dsimp only [Pt.U, Pt.locs, Pt.cells, Pt.slots] at X4 l4 y4 z4 st4 hQ4
    subst l4 y4 z4
    obtain ⟨rfl, N4q, e4⟩ := hQ4
    have N4 := Fr.app N3 N4q
    obtain ⟨cq5, kq5, qa5, qb5, qc5⟩ := isOf hZ e4 O2.1
    obtain ⟨_, _, ⟨T5, L5, k5, n5⟩, -, X5, ⟨Lc5, hQ5, l5, y5, z5⟩, st5⟩ := X4.virtualBack hx (y := (⟨"com/example/meticulous_handshake/meticuloushandshake/bisimulation/ArcsByLabel", "label", "(I)I"⟩ : MethodName)) (z := (⟨"com/example/meticulous_handshake/meticuloushandshake/bisimulation/ArcsByLabel", "label", "(I)I"⟩ : MethodName)) hown (mvT hZ (hw _ (List.mem_of_getElem? (i := 38) rfl))) (mvT hZ (hw _ (List.mem_of_getElem? (i := 39) rfl))) (notFace_of_selects (args := #[]) (mvT hZ (hw _ (List.mem_of_getElem? (i := 41) rfl)))) (mvT hZ (hw _ (List.mem_of_getElem? (i := 41) rfl))) (mvT hZ (hw _ (List.mem_of_getElem? (i := 40) rfl))) (by decide) (backOf (W := 0) (rm6 l Z a0 hw [] a (1 : Int32) bL [(.int (1 : Int32)), (.int (0 : Int32))] 1 (0 : Int32) T2.heap n0 Z2 O2.2.2.2.2.2.1 O2.2.2.2.2.2.2.2.2.2.2.2.2 (by decide) rfl rfl) hZ (hw _ (List.mem_of_getElem? (i := 42) rfl)) (hw _ (List.mem_of_getElem? (i := 2) rfl)) (by decide) (by decide)) qa5 qc5 (g := (mkF m 98 #[.val (.int p1), .val (.int p2), .val (.int p3), .val (.int p4), .val (.int p5), .val (.int (1 : Int32)), .val (.int (0 : Int32)), .val (.int (0 : Int32)), .val (.ref a)] [(.int (1 : Int32)), (.ref a)])) rfl (by rw [hml]; rfl) (Steps.refl _) (argsL := [(.int (1 : Int32))]) (rest := []) (lenOf pd_get rfl) rfl (by show 2 * 0 + _ ≤ _; exact Nat.le_of_eq rfl) (hb hby at_98) (fun _ _ => ⟨rfl, e4, (by decide : 6 + 0 ≤ _), (by decide : 17 + 0 ≤ _)⟩)
    dsimp only [Pt.U, Pt.locs, Pt.cells, Pt.slots] at X5 l5 y5 z5 st5 hQ5
    subst l5 y5 z5
    obtain ⟨rfl, N5q, e5⟩ := hQ5
    have N5 := Fr.app N4 N5q
    obtain ⟨cq6, kq6, qa6, qb6, qc6⟩ := isOf hZ e5 O2.1
    obtain ⟨_, _, ⟨T6, L6, k6, n6⟩, -, X6, ⟨Lc6, hQ6, l6, y6, z6⟩, st6⟩ := X5.virtualBack hx (y := (⟨"com/example/meticulous_handshake/meticuloushandshake/bisimulation/ArcsByLabel", "first", "(I)I"⟩ : MethodName)) (z := (⟨"com/example/meticulous_handshake/meticuloushandshake/bisimulation/ArcsByLabel", "first", "(I)I"⟩ : MethodName)) hown (mvT hZ (hw _ (List.mem_of_getElem? (i := 43) rfl))) (mvT hZ (hw _ (List.mem_of_getElem? (i := 44) rfl))) (notFace_of_selects (args := #[]) (mvT hZ (hw _ (List.mem_of_getElem? (i := 46) rfl)))) (mvT hZ (hw _ (List.mem_of_getElem? (i := 46) rfl))) (mvT hZ (hw _ (List.mem_of_getElem? (i := 45) rfl))) (by decide) (backOf (W := 0) (rm7 l Z a0 hw [] a (0 : Int32) bF [(.int (1 : Int32)), (.int (0 : Int32))] 0 (1 : Int32) T2.heap n0 Z2 O2.2.2.2.2.1 O2.2.2.2.2.2.2.2.2.2.2.2.1 (by decide) rfl rfl) hZ (hw _ (List.mem_of_getElem? (i := 47) rfl)) (hw _ (List.mem_of_getElem? (i := 2) rfl)) (by decide) (by decide)) qa6 qc6 (g := (mkF m 112 #[.val (.int p1), .val (.int p2), .val (.int p3), .val (.int p4), .val (.int p5), .val (.int (1 : Int32)), .val (.int (0 : Int32)), .val (.int (0 : Int32)), .val (.ref a)] [(.int (0 : Int32)), (.ref a)])) rfl (by rw [hml]; rfl) (Steps.refl _) (argsL := [(.int (0 : Int32))]) (rest := []) (lenOf pd_get rfl) rfl (by show 2 * 0 + _ ≤ _; exact Nat.le_of_eq rfl) (hb hby at_112) (fun _ _ => ⟨rfl, e5, (by decide : 6 + 0 ≤ _), (by decide : 17 + 0 ≤ _)⟩)
    dsimp only [Pt.U, Pt.locs, Pt.cells, Pt.slots] at X6 l6 y6 z6 st6 hQ6
    subst l6 y6 z6
    obtain ⟨rfl, N6q, e6⟩ := hQ6
    have N6 := Fr.app N5 N6q
    obtain ⟨cq7, kq7, qa7, qb7, qc7⟩ := isOf hZ e6 O2.1
    obtain ⟨_, _, ⟨T7, L7, k7, n7⟩, -, X7, ⟨Lc7, hQ7, l7, y7, z7⟩, st7⟩ := X6.virtualBack hx (y := (⟨"com/example/meticulous_handshake/meticuloushandshake/bisimulation/ArcsByLabel", "first", "(I)I"⟩ : MethodName)) (z := (⟨"com/example/meticulous_handshake/meticuloushandshake/bisimulation/ArcsByLabel", "first", "(I)I"⟩ : MethodName)) hown (mvT hZ (hw _ (List.mem_of_getElem? (i := 43) rfl))) (mvT hZ (hw _ (List.mem_of_getElem? (i := 44) rfl))) (notFace_of_selects (args := #[]) (mvT hZ (hw _ (List.mem_of_getElem? (i := 46) rfl)))) (mvT hZ (hw _ (List.mem_of_getElem? (i := 46) rfl))) (mvT hZ (hw _ (List.mem_of_getElem? (i := 45) rfl))) (by decide) (backOf (W := 0) (rm7 l Z a0 hw [] a (1 : Int32) bF [(.int (1 : Int32)), (.int (0 : Int32))] 1 (0 : Int32) T2.heap n0 Z2 O2.2.2.2.2.1 O2.2.2.2.2.2.2.2.2.2.2.2.1 (by decide) rfl rfl) hZ (hw _ (List.mem_of_getElem? (i := 47) rfl)) (hw _ (List.mem_of_getElem? (i := 2) rfl)) (by decide) (by decide)) qa7 qc7 (g := (mkF m 130 #[.val (.int p1), .val (.int p2), .val (.int p3), .val (.int p4), .val (.int p5), .val (.int (1 : Int32)), .val (.int (0 : Int32)), .val (.int (0 : Int32)), .val (.ref a)] [(.int (1 : Int32)), (.ref a)])) rfl (by rw [hml]; rfl) (Steps.refl _) (argsL := [(.int (1 : Int32))]) (rest := []) (lenOf pd_get rfl) rfl (by show 2 * 0 + _ ≤ _; exact Nat.le_of_eq rfl) (hb hby at_130) (fun _ _ => ⟨rfl, e6, (by decide : 6 + 0 ≤ _), (by decide : 17 + 0 ≤ _)⟩)
    dsimp only [Pt.U, Pt.locs, Pt.cells, Pt.slots] at X7 l7 y7 z7 st7 hQ7
    subst l7 y7 z7
    obtain ⟨rfl, N7q, e7⟩ := hQ7
    have N7 := Fr.app N6 N7q
    obtain ⟨cq8, kq8, qa8, qb8, qc8⟩ := isOf hZ e7 O2.1
    obtain ⟨_, _, ⟨T8, L8, k8, n8⟩, -, X8, ⟨Lc8, hQ8, l8, y8, z8⟩, st8⟩ := X7.virtualBack hx (y := (⟨"com/example/meticulous_handshake/meticuloushandshake/bisimulation/ArcsByLabel", "next", "(I)I"⟩ : MethodName)) (z := (⟨"com/example/meticulous_handshake/meticuloushandshake/bisimulation/ArcsByLabel", "next", "(I)I"⟩ : MethodName)) hown (mvT hZ (hw _ (List.mem_of_getElem? (i := 48) rfl))) (mvT hZ (hw _ (List.mem_of_getElem? (i := 49) rfl))) (notFace_of_selects (args := #[]) (mvT hZ (hw _ (List.mem_of_getElem? (i := 51) rfl)))) (mvT hZ (hw _ (List.mem_of_getElem? (i := 51) rfl))) (mvT hZ (hw _ (List.mem_of_getElem? (i := 50) rfl))) (by decide) (backOf (W := 0) (rm8 l Z a0 hw [] a (1 : Int32) bN [(.int (-1 : Int32)), (.int (-1 : Int32))] 1 (-1 : Int32) T2.heap n0 Z2 O2.2.2.2.1 O2.2.2.2.2.2.2.2.2.2.2.1 (by decide) rfl rfl) hZ (hw _ (List.mem_of_getElem? (i := 52) rfl)) (hw _ (List.mem_of_getElem? (i := 2) rfl)) (by decide) (by decide)) qa8 qc8 (g := (mkF m 161 #[.val (.int p1), .val (.int p2), .val (.int p3), .val (.int p4), .val (.int p5), .val (.int (1 : Int32)), .val (.int (0 : Int32)), .val (.int (0 : Int32)), .val (.ref a)] [(.int (1 : Int32)), (.ref a)])) rfl (by rw [hml]; rfl) (Steps.refl _) (argsL := [(.int (1 : Int32))]) (rest := []) (lenOf pd_get rfl) rfl (by show 2 * 0 + _ ≤ _; exact Nat.le_of_eq rfl) (hb hby at_161) (fun _ _ => ⟨rfl, e7, (by decide : 6 + 0 ≤ _), (by decide : 17 + 0 ≤ _)⟩)
    dsimp only [Pt.U, Pt.locs, Pt.cells, Pt.slots] at X8 l8 y8 z8 st8 hQ8
    subst l8 y8 z8
    obtain ⟨rfl, N8q, e8⟩ := hQ8
    have N8 := Fr.app N7 N8q
    obtain ⟨cq9, kq9, qa9, qb9, qc9⟩ := isOf hZ e8 O2.1
    obtain ⟨_, _, ⟨T9, L9, k9, n9⟩, -, X9, ⟨Lc9, hQ9, l9, y9, z9⟩, st9⟩ := X8.virtualBack hx (y := (⟨"com/example/meticulous_handshake/meticuloushandshake/bisimulation/ArcsByLabel", "next", "(I)I"⟩ : MethodName)) (z := (⟨"com/example/meticulous_handshake/meticuloushandshake/bisimulation/ArcsByLabel", "next", "(I)I"⟩ : MethodName)) hown (mvT hZ (hw _ (List.mem_of_getElem? (i := 48) rfl))) (mvT hZ (hw _ (List.mem_of_getElem? (i := 49) rfl))) (notFace_of_selects (args := #[]) (mvT hZ (hw _ (List.mem_of_getElem? (i := 51) rfl)))) (mvT hZ (hw _ (List.mem_of_getElem? (i := 51) rfl))) (mvT hZ (hw _ (List.mem_of_getElem? (i := 50) rfl))) (by decide) (backOf (W := 0) (rm8 l Z a0 hw [] a (0 : Int32) bN [(.int (-1 : Int32)), (.int (-1 : Int32))] 0 (-1 : Int32) T2.heap n0 Z2 O2.2.2.2.1 O2.2.2.2.2.2.2.2.2.2.2.1 (by decide) rfl rfl) hZ (hw _ (List.mem_of_getElem? (i := 52) rfl)) (hw _ (List.mem_of_getElem? (i := 2) rfl)) (by decide) (by decide)) qa9 qc9 (g := (mkF m 182 #[.val (.int p1), .val (.int p2), .val (.int p3), .val (.int p4), .val (.int p5), .val (.int (1 : Int32)), .val (.int (0 : Int32)), .val (.int (0 : Int32)), .val (.ref a)] [(.int (0 : Int32)), (.ref a)])) rfl (by rw [hml]; rfl) (Steps.refl _) (argsL := [(.int (0 : Int32))]) (rest := []) (lenOf pd_get rfl) rfl (by show 2 * 0 + _ ≤ _; exact Nat.le_of_eq rfl) (hb hby at_182) (fun _ _ => ⟨rfl, e8, (by decide : 6 + 0 ≤ _), (by decide : 17 + 0 ≤ _)⟩)
    dsimp only [Pt.U, Pt.locs, Pt.cells, Pt.slots] at X9 l9 y9 z9 st9 hQ9
    subst l9 y9 z9
    obtain ⟨rfl, N9q, e9⟩ := hQ9
    have N9 := Fr.app N8 N9q
    obtain ⟨cq10, kq10, qa10, qb10, qc10⟩ := isOf hZ e9 O2.1
    obtain ⟨_, _, ⟨T10, L10, k10, n10⟩, -, X10, ⟨Lc10, hQ10, l10, y10, z10⟩, st10⟩ := X9.virtualBack hx (y := (⟨"com/example/meticulous_handshake/meticuloushandshake/bisimulation/ArcsByLabel", "arc", "(I)I"⟩ : MethodName)) (z := (⟨"com/example/meticulous_handshake/meticuloushandshake/bisimulation/ArcsByLabel", "arc", "(I)I"⟩ : MethodName)) hown (mvT hZ (hw _ (List.mem_of_getElem? (i := 53) rfl))) (mvT hZ (hw _ (List.mem_of_getElem? (i := 54) rfl))) (notFace_of_selects (args := #[]) (mvT hZ (hw _ (List.mem_of_getElem? (i := 56) rfl)))) (mvT hZ (hw _ (List.mem_of_getElem? (i := 56) rfl))) (mvT hZ (hw _ (List.mem_of_getElem? (i := 55) rfl))) (by decide) (backOf (W := 0) (rm9 l Z a0 hw [] a (0 : Int32) bA [(.int p1), (.int p3)] 0 p1 T2.heap n0 Z2 O2.2.1 O2.2.2.2.2.2.2.2.2.1 (by decide) rfl rfl) hZ (hw _ (List.mem_of_getElem? (i := 57) rfl)) (hw _ (List.mem_of_getElem? (i := 2) rfl)) (by decide) (by decide)) qa10 qc10 (g := (mkF m 194 #[.val (.int p1), .val (.int p2), .val (.int p3), .val (.int p4), .val (.int p5), .val (.int (1 : Int32)), .val (.int (0 : Int32)), .val (.int (0 : Int32)), .val (.ref a)] [(.int (0 : Int32)), (.ref a)])) rfl (by rw [hml]; rfl) (Steps.refl _) (argsL := [(.int (0 : Int32))]) (rest := []) (lenOf pd_get rfl) rfl (by show 2 * 0 + _ ≤ _; exact Nat.le_of_eq rfl) (hb hby at_194) (fun _ _ => ⟨rfl, e9, (by decide : 6 + 0 ≤ _), (by decide : 17 + 0 ≤ _)⟩)
    dsimp only [Pt.U, Pt.locs, Pt.cells, Pt.slots] at X10 l10 y10 z10 st10 hQ10
    subst l10 y10 z10
    obtain ⟨rfl, N10q, e10⟩ := hQ10
    have N10 := Fr.app N9 N10q
    obtain ⟨cq11, kq11, qa11, qb11, qc11⟩ := isOf hZ e10 O2.1
    obtain ⟨_, _, ⟨T11, L11, k11, n11⟩, -, X11, ⟨Lc11, hQ11, l11, y11, z11⟩, st11⟩ := X10.virtualBack hx (y := (⟨"com/example/meticulous_handshake/meticuloushandshake/bisimulation/ArcsByLabel", "source", "(I)I"⟩ : MethodName)) (z := (⟨"com/example/meticulous_handshake/meticuloushandshake/bisimulation/ArcsByLabel", "source", "(I)I"⟩ : MethodName)) hown (mvT hZ (hw _ (List.mem_of_getElem? (i := 58) rfl))) (mvT hZ (hw _ (List.mem_of_getElem? (i := 59) rfl))) (notFace_of_selects (args := #[]) (mvT hZ (hw _ (List.mem_of_getElem? (i := 61) rfl)))) (mvT hZ (hw _ (List.mem_of_getElem? (i := 61) rfl))) (mvT hZ (hw _ (List.mem_of_getElem? (i := 60) rfl))) (by decide) (backOf (W := 0) (rm10 l Z a0 hw [] a (0 : Int32) bS [(.int p2), (.int p4)] 0 p2 T2.heap n0 Z2 O2.2.2.1 O2.2.2.2.2.2.2.2.2.2.1 (by decide) rfl rfl) hZ (hw _ (List.mem_of_getElem? (i := 62) rfl)) (hw _ (List.mem_of_getElem? (i := 2) rfl)) (by decide) (by decide)) qa11 qc11 (g := (mkF m 204 #[.val (.int p1), .val (.int p2), .val (.int p3), .val (.int p4), .val (.int p5), .val (.int (1 : Int32)), .val (.int (0 : Int32)), .val (.int (0 : Int32)), .val (.ref a)] [(.int (0 : Int32)), (.ref a)])) rfl (by rw [hml]; rfl) (Steps.refl _) (argsL := [(.int (0 : Int32))]) (rest := []) (lenOf pd_get rfl) rfl (by show 2 * 0 + _ ≤ _; exact Nat.le_of_eq rfl) (hb hby at_204) (fun _ _ => ⟨rfl, e10, (by decide : 6 + 0 ≤ _), (by decide : 17 + 0 ≤ _)⟩)
    dsimp only [Pt.U, Pt.locs, Pt.cells, Pt.slots] at X11 l11 y11 z11 st11 hQ11
    subst l11 y11 z11
    obtain ⟨rfl, N11q, e11⟩ := hQ11
    have N11 := Fr.app N10 N11q
    obtain ⟨cq12, kq12, qa12, qb12, qc12⟩ := isOf hZ e11 O2.1
    obtain ⟨_, _, ⟨T12, L12, k12, n12⟩, -, X12, ⟨Lc12, hQ12, l12, y12, z12⟩, st12⟩ := X11.virtualBack hx (y := (⟨"com/example/meticulous_handshake/meticuloushandshake/bisimulation/ArcsByLabel", "arc", "(I)I"⟩ : MethodName)) (z := (⟨"com/example/meticulous_handshake/meticuloushandshake/bisimulation/ArcsByLabel", "arc", "(I)I"⟩ : MethodName)) hown (mvT hZ (hw _ (List.mem_of_getElem? (i := 53) rfl))) (mvT hZ (hw _ (List.mem_of_getElem? (i := 54) rfl))) (notFace_of_selects (args := #[]) (mvT hZ (hw _ (List.mem_of_getElem? (i := 56) rfl)))) (mvT hZ (hw _ (List.mem_of_getElem? (i := 56) rfl))) (mvT hZ (hw _ (List.mem_of_getElem? (i := 55) rfl))) (by decide) (backOf (W := 0) (rm9 l Z a0 hw [] a (1 : Int32) bA [(.int p1), (.int p3)] 1 p3 T2.heap n0 Z2 O2.2.1 O2.2.2.2.2.2.2.2.2.1 (by decide) rfl rfl) hZ (hw _ (List.mem_of_getElem? (i := 57) rfl)) (hw _ (List.mem_of_getElem? (i := 2) rfl)) (by decide) (by decide)) qa12 qc12 (g := (mkF m 214 #[.val (.int p1), .val (.int p2), .val (.int p3), .val (.int p4), .val (.int p5), .val (.int (1 : Int32)), .val (.int (0 : Int32)), .val (.int (0 : Int32)), .val (.ref a)] [(.int (1 : Int32)), (.ref a)])) rfl (by rw [hml]; rfl) (Steps.refl _) (argsL := [(.int (1 : Int32))]) (rest := []) (lenOf pd_get rfl) rfl (by show 2 * 0 + _ ≤ _; exact Nat.le_of_eq rfl) (hb hby at_214) (fun _ _ => ⟨rfl, e11, (by decide : 6 + 0 ≤ _), (by decide : 17 + 0 ≤ _)⟩)
    dsimp only [Pt.U, Pt.locs, Pt.cells, Pt.slots] at X12 l12 y12 z12 st12 hQ12
    subst l12 y12 z12
    obtain ⟨rfl, N12q, e12⟩ := hQ12
    have N12 := Fr.app N11 N12q
    obtain ⟨cq13, kq13, qa13, qb13, qc13⟩ := isOf hZ e12 O2.1
    obtain ⟨_, _, ⟨T13, L13, k13, n13⟩, -, X13, ⟨Lc13, hQ13, l13, y13, z13⟩, st13⟩ := X12.virtualBack hx (y := (⟨"com/example/meticulous_handshake/meticuloushandshake/bisimulation/ArcsByLabel", "source", "(I)I"⟩ : MethodName)) (z := (⟨"com/example/meticulous_handshake/meticuloushandshake/bisimulation/ArcsByLabel", "source", "(I)I"⟩ : MethodName)) hown (mvT hZ (hw _ (List.mem_of_getElem? (i := 58) rfl))) (mvT hZ (hw _ (List.mem_of_getElem? (i := 59) rfl))) (notFace_of_selects (args := #[]) (mvT hZ (hw _ (List.mem_of_getElem? (i := 61) rfl)))) (mvT hZ (hw _ (List.mem_of_getElem? (i := 61) rfl))) (mvT hZ (hw _ (List.mem_of_getElem? (i := 60) rfl))) (by decide) (backOf (W := 0) (rm10 l Z a0 hw [] a (1 : Int32) bS [(.int p2), (.int p4)] 1 p4 T2.heap n0 Z2 O2.2.2.1 O2.2.2.2.2.2.2.2.2.2.1 (by decide) rfl rfl) hZ (hw _ (List.mem_of_getElem? (i := 62) rfl)) (hw _ (List.mem_of_getElem? (i := 2) rfl)) (by decide) (by decide)) qa13 qc13 (g := (mkF m 224 #[.val (.int p1), .val (.int p2), .val (.int p3), .val (.int p4), .val (.int p5), .val (.int (1 : Int32)), .val (.int (0 : Int32)), .val (.int (0 : Int32)), .val (.ref a)] [(.int (1 : Int32)), (.ref a)])) rfl (by rw [hml]; rfl) (Steps.refl _) (argsL := [(.int (1 : Int32))]) (rest := []) (lenOf pd_get rfl) rfl (by show 2 * 0 + _ ≤ _; exact Nat.le_of_eq rfl) (hb hby at_224) (fun _ _ => ⟨rfl, e12, (by decide : 6 + 0 ≤ _), (by decide : 17 + 0 ≤ _)⟩)
    dsimp only [Pt.U, Pt.locs, Pt.cells, Pt.slots] at X13 l13 y13 z13 st13 hQ13
    subst l13 y13 z13
    obtain ⟨rfl, N13q, e13⟩ := hQ13
    have N13 := Fr.app N12 N13q
    obtain ⟨fs, hr, hrun, hended, hW, hsame⟩ := X13.leave (v := some (.int (1 : Int32))) (fun h => by rw [Bd.returns] at h; cases h)
    refine ⟨_, _, pre0 _ (sg0 _ ?_), hrun, hended, _, _, rfl, ?_, ⟨_, rfl⟩, hW, hsame.mono (by decide) (by decide)⟩
    · show Steps p.tables e below (s₁.setTop (mkF m 14 #[.val (.int p1), .val (.int p2), .val (.int p3), .val (.int p4), .val (.int p5), .val (.int (1 : Int32)), .val (.int (0 : Int32)), .unset, .unset] [])) _
      refine XS.iload X0.here hx rfl (hb hby at_14) rfl ?_
      show Steps p.tables e below (s₁.setTop (mkF m 16 #[.val (.int p1), .val (.int p2), .val (.int p3), .val (.int p4), .val (.int p5), .val (.int (1 : Int32)), .val (.int (0 : Int32)), .unset, .unset] [(.int (1 : Int32))])) _
      refine XS.iload X0.here hx rfl (hb hby at_16) rfl ?_
      show Steps p.tables e below (s₁.setTop (mkF m 18 #[.val (.int p1), .val (.int p2), .val (.int p3), .val (.int p4), .val (.int p5), .val (.int (1 : Int32)), .val (.int (0 : Int32)), .unset, .unset] [(.int (0 : Int32)), (.int (1 : Int32))])) _
      refine XS.icmpYes X0.here hx rfl (pc0 := 18) (pc' := 25) rfl (hb hby at_18) rfl (feq (by decide : ¬ ((1 : Int32) = (0 : Int32)))).2 (by decide) (by decide) ?_
      show Steps p.tables e below (s₁.setTop (mkF m 25 #[.val (.int p1), .val (.int p2), .val (.int p3), .val (.int p4), .val (.int p5), .val (.int (1 : Int32)), .val (.int (0 : Int32)), .unset, .unset] [])) _
      refine XS.iconst X0.here hx rfl (hb hby at_25) ?_
      show Steps p.tables e below (s₁.setTop (mkF m 26 #[.val (.int p1), .val (.int p2), .val (.int p3), .val (.int p4), .val (.int p5), .val (.int (1 : Int32)), .val (.int (0 : Int32)), .unset, .unset] [(.int (0 : Int32))])) _
      refine XS.istore X0.here hx rfl (hb hby at_26) rfl (l' := #[.val (.int p1), .val (.int p2), .val (.int p3), .val (.int p4), .val (.int p5), .val (.int (1 : Int32)), .val (.int (0 : Int32)), .val (.int (0 : Int32)), .unset]) rfl ?_
      show Steps p.tables e below (s₁.setTop (mkF m 28 #[.val (.int p1), .val (.int p2), .val (.int p3), .val (.int p4), .val (.int p5), .val (.int (1 : Int32)), .val (.int (0 : Int32)), .val (.int (0 : Int32)), .unset] [])) _
      refine stO _ ?_
      show Steps p.tables e below (TO.setTop (mkF m 31 #[.val (.int p1), .val (.int p2), .val (.int p3), .val (.int p4), .val (.int p5), .val (.int (1 : Int32)), .val (.int (0 : Int32)), .val (.int (0 : Int32)), .unset] [(.ref a)])) _
      refine XS.dup XO.here hx rfl (hb hby at_31) rfl rfl ?_
      show Steps p.tables e below (TO.setTop (mkF m 32 #[.val (.int p1), .val (.int p2), .val (.int p3), .val (.int p4), .val (.int p5), .val (.int (1 : Int32)), .val (.int (0 : Int32)), .val (.int (0 : Int32)), .unset] [(.ref a), (.ref a)])) _
      refine XS.iconst XO.here hx rfl (hb hby at_32) ?_
      show Steps p.tables e below (TO.setTop (mkF m 33 #[.val (.int p1), .val (.int p2), .val (.int p3), .val (.int p4), .val (.int p5), .val (.int (1 : Int32)), .val (.int (0 : Int32)), .val (.int (0 : Int32)), .unset] [(.int (2 : Int32)), (.ref a), (.ref a)])) _
      refine XS.iconst XO.here hx rfl (hb hby at_33) ?_
      show Steps p.tables e below (TO.setTop (mkF m 34 #[.val (.int p1), .val (.int p2), .val (.int p3), .val (.int p4), .val (.int p5), .val (.int (1 : Int32)), .val (.int (0 : Int32)), .val (.int (0 : Int32)), .unset] [(.int (2 : Int32)), (.int (2 : Int32)), (.ref a), (.ref a)])) _
      refine stC.trans ?_
      show Steps p.tables e below (TC.setTop (mkF m 37 #[.val (.int p1), .val (.int p2), .val (.int p3), .val (.int p4), .val (.int p5), .val (.int (1 : Int32)), .val (.int (0 : Int32)), .val (.int (0 : Int32)), .unset] [(.ref a)])) _
      refine XS.astore XC.here hx rfl (hb hby at_37) rfl rfl (l' := #[.val (.int p1), .val (.int p2), .val (.int p3), .val (.int p4), .val (.int p5), .val (.int (1 : Int32)), .val (.int (0 : Int32)), .val (.int (0 : Int32)), .val (.ref a)]) rfl ?_
      show Steps p.tables e below (TC.setTop (mkF m 39 #[.val (.int p1), .val (.int p2), .val (.int p3), .val (.int p4), .val (.int p5), .val (.int (1 : Int32)), .val (.int (0 : Int32)), .val (.int (0 : Int32)), .val (.ref a)] [])) _
      refine XS.aload XC.here hx rfl (hb hby at_39) rfl rfl ?_
      show Steps p.tables e below (TC.setTop (mkF m 41 #[.val (.int p1), .val (.int p2), .val (.int p3), .val (.int p4), .val (.int p5), .val (.int (1 : Int32)), .val (.int (0 : Int32)), .val (.int (0 : Int32)), .val (.ref a)] [(.ref a)])) _
      refine XS.iloadN XC.here hx rfl (hb hby at_41) rfl ?_
      show Steps p.tables e below (TC.setTop (mkF m 42 #[.val (.int p1), .val (.int p2), .val (.int p3), .val (.int p4), .val (.int p5), .val (.int (1 : Int32)), .val (.int (0 : Int32)), .val (.int (0 : Int32)), .val (.ref a)] [(.int p1), (.ref a)])) _
      refine XS.iloadN XC.here hx rfl (hb hby at_42) rfl ?_
      show Steps p.tables e below (TC.setTop (mkF m 43 #[.val (.int p1), .val (.int p2), .val (.int p3), .val (.int p4), .val (.int p5), .val (.int (1 : Int32)), .val (.int (0 : Int32)), .val (.int (0 : Int32)), .val (.ref a)] [(.int p2), (.int p1), (.ref a)])) _
      refine XS.iload XC.here hx rfl (hb hby at_43) rfl ?_
      show Steps p.tables e below (TC.setTop (mkF m 45 #[.val (.int p1), .val (.int p2), .val (.int p3), .val (.int p4), .val (.int p5), .val (.int (1 : Int32)), .val (.int (0 : Int32)), .val (.int (0 : Int32)), .val (.ref a)] [(.int (1 : Int32)), (.int p2), (.int p1), (.ref a)])) _
      refine st1.trans ?_
      show Steps p.tables e below (T1.setTop (mkF m 48 #[.val (.int p1), .val (.int p2), .val (.int p3), .val (.int p4), .val (.int p5), .val (.int (1 : Int32)), .val (.int (0 : Int32)), .val (.int (0 : Int32)), .val (.ref a)] [])) _
      refine XS.aload X1.here hx rfl (hb hby at_48) rfl rfl ?_
      show Steps p.tables e below (T1.setTop (mkF m 50 #[.val (.int p1), .val (.int p2), .val (.int p3), .val (.int p4), .val (.int p5), .val (.int (1 : Int32)), .val (.int (0 : Int32)), .val (.int (0 : Int32)), .val (.ref a)] [(.ref a)])) _
      refine XS.iloadN X1.here hx rfl (hb hby at_50) rfl ?_
      show Steps p.tables e below (T1.setTop (mkF m 51 #[.val (.int p1), .val (.int p2), .val (.int p3), .val (.int p4), .val (.int p5), .val (.int (1 : Int32)), .val (.int (0 : Int32)), .val (.int (0 : Int32)), .val (.ref a)] [(.int p3), (.ref a)])) _
      refine XS.iloadN X1.here hx rfl (hb hby at_51) rfl ?_
      show Steps p.tables e below (T1.setTop (mkF m 52 #[.val (.int p1), .val (.int p2), .val (.int p3), .val (.int p4), .val (.int p5), .val (.int (1 : Int32)), .val (.int (0 : Int32)), .val (.int (0 : Int32)), .val (.ref a)] [(.int p4), (.int p3), (.ref a)])) _
      refine XS.iload X1.here hx rfl (hb hby at_52) rfl ?_
      show Steps p.tables e below (T1.setTop (mkF m 54 #[.val (.int p1), .val (.int p2), .val (.int p3), .val (.int p4), .val (.int p5), .val (.int (1 : Int32)), .val (.int (0 : Int32)), .val (.int (0 : Int32)), .val (.ref a)] [(.int (0 : Int32)), (.int p4), (.int p3), (.ref a)])) _
      refine st2.trans ?_
      show Steps p.tables e below (T2.setTop (mkF m 57 #[.val (.int p1), .val (.int p2), .val (.int p3), .val (.int p4), .val (.int p5), .val (.int (1 : Int32)), .val (.int (0 : Int32)), .val (.int (0 : Int32)), .val (.ref a)] [])) _
      refine XS.aload X2.here hx rfl (hb hby at_57) rfl rfl ?_
      show Steps p.tables e below (T2.setTop (mkF m 59 #[.val (.int p1), .val (.int p2), .val (.int p3), .val (.int p4), .val (.int p5), .val (.int (1 : Int32)), .val (.int (0 : Int32)), .val (.int (0 : Int32)), .val (.ref a)] [(.ref a)])) _
      refine st3.trans ?_
      show Steps p.tables e below (T3.setTop (mkF m 62 #[.val (.int p1), .val (.int p2), .val (.int p3), .val (.int p4), .val (.int p5), .val (.int (1 : Int32)), .val (.int (0 : Int32)), .val (.int (0 : Int32)), .val (.ref a)] [(.int (2 : Int32))])) _
      refine XS.iload X3.here hx rfl (hb hby at_62) rfl ?_
      show Steps p.tables e below (T3.setTop (mkF m 64 #[.val (.int p1), .val (.int p2), .val (.int p3), .val (.int p4), .val (.int p5), .val (.int (1 : Int32)), .val (.int (0 : Int32)), .val (.int (0 : Int32)), .val (.ref a)] [(.int (0 : Int32)), (.int (2 : Int32))])) _
      refine XS.ifYes X3.here hx rfl (pc0 := 64) (pc' := 71) rfl (hb hby at_64) rfl ((if0 _ _).trans (teq (by decide : (0 : Int32) = (0 : Int32))).1) (by decide) (by decide) ?_
      show Steps p.tables e below (T3.setTop (mkF m 71 #[.val (.int p1), .val (.int p2), .val (.int p3), .val (.int p4), .val (.int p5), .val (.int (1 : Int32)), .val (.int (0 : Int32)), .val (.int (0 : Int32)), .val (.ref a)] [(.int (2 : Int32))])) _
      refine XS.iconst X3.here hx rfl (hb hby at_71) ?_
      show Steps p.tables e below (T3.setTop (mkF m 72 #[.val (.int p1), .val (.int p2), .val (.int p3), .val (.int p4), .val (.int p5), .val (.int (1 : Int32)), .val (.int (0 : Int32)), .val (.int (0 : Int32)), .val (.ref a)] [(.int (2 : Int32)), (.int (2 : Int32))])) _
      refine XS.icmpYes X3.here hx rfl (pc0 := 72) (pc' := 77) rfl (hb hby at_72) rfl (teq (by decide : (2 : Int32) = (2 : Int32))).1 (by decide) (by decide) ?_
      show Steps p.tables e below (T3.setTop (mkF m 77 #[.val (.int p1), .val (.int p2), .val (.int p3), .val (.int p4), .val (.int p5), .val (.int (1 : Int32)), .val (.int (0 : Int32)), .val (.int (0 : Int32)), .val (.ref a)] [])) _
      refine XS.aload X3.here hx rfl (hb hby at_77) rfl rfl ?_
      show Steps p.tables e below (T3.setTop (mkF m 79 #[.val (.int p1), .val (.int p2), .val (.int p3), .val (.int p4), .val (.int p5), .val (.int (1 : Int32)), .val (.int (0 : Int32)), .val (.int (0 : Int32)), .val (.ref a)] [(.ref a)])) _
      refine XS.iconst X3.here hx rfl (hb hby at_79) ?_
      show Steps p.tables e below (T3.setTop (mkF m 80 #[.val (.int p1), .val (.int p2), .val (.int p3), .val (.int p4), .val (.int p5), .val (.int (1 : Int32)), .val (.int (0 : Int32)), .val (.int (0 : Int32)), .val (.ref a)] [(.int (0 : Int32)), (.ref a)])) _
      refine st4.trans ?_
      show Steps p.tables e below (T4.setTop (mkF m 83 #[.val (.int p1), .val (.int p2), .val (.int p3), .val (.int p4), .val (.int p5), .val (.int (1 : Int32)), .val (.int (0 : Int32)), .val (.int (0 : Int32)), .val (.ref a)] [(.int (1 : Int32))])) _
      refine XS.iload X4.here hx rfl (hb hby at_83) rfl ?_
      show Steps p.tables e below (T4.setTop (mkF m 85 #[.val (.int p1), .val (.int p2), .val (.int p3), .val (.int p4), .val (.int p5), .val (.int (1 : Int32)), .val (.int (0 : Int32)), .val (.int (0 : Int32)), .val (.ref a)] [(.int (1 : Int32)), (.int (1 : Int32))])) _
      refine XS.icmpYes X4.here hx rfl (pc0 := 85) (pc' := 90) rfl (hb hby at_85) rfl (teq (by decide : (1 : Int32) = (1 : Int32))).1 (by decide) (by decide) ?_
      show Steps p.tables e below (T4.setTop (mkF m 90 #[.val (.int p1), .val (.int p2), .val (.int p3), .val (.int p4), .val (.int p5), .val (.int (1 : Int32)), .val (.int (0 : Int32)), .val (.int (0 : Int32)), .val (.ref a)] [])) _
      refine XS.iload X4.here hx rfl (hb hby at_90) rfl ?_
      show Steps p.tables e below (T4.setTop (mkF m 92 #[.val (.int p1), .val (.int p2), .val (.int p3), .val (.int p4), .val (.int p5), .val (.int (1 : Int32)), .val (.int (0 : Int32)), .val (.int (0 : Int32)), .val (.ref a)] [(.int (0 : Int32))])) _
      refine XS.ifNo X4.here hx rfl (hb hby at_92) rfl ((if0 _ _).trans (teq (by decide : (0 : Int32) = (0 : Int32))).2) ?_
      show Steps p.tables e below (T4.setTop (mkF m 95 #[.val (.int p1), .val (.int p2), .val (.int p3), .val (.int p4), .val (.int p5), .val (.int (1 : Int32)), .val (.int (0 : Int32)), .val (.int (0 : Int32)), .val (.ref a)] [])) _
      refine XS.aload X4.here hx rfl (hb hby at_95) rfl rfl ?_
      show Steps p.tables e below (T4.setTop (mkF m 97 #[.val (.int p1), .val (.int p2), .val (.int p3), .val (.int p4), .val (.int p5), .val (.int (1 : Int32)), .val (.int (0 : Int32)), .val (.int (0 : Int32)), .val (.ref a)] [(.ref a)])) _
      refine XS.iconst X4.here hx rfl (hb hby at_97) ?_
      show Steps p.tables e below (T4.setTop (mkF m 98 #[.val (.int p1), .val (.int p2), .val (.int p3), .val (.int p4), .val (.int p5), .val (.int (1 : Int32)), .val (.int (0 : Int32)), .val (.int (0 : Int32)), .val (.ref a)] [(.int (1 : Int32)), (.ref a)])) _
      refine st5.trans ?_
      show Steps p.tables e below (T5.setTop (mkF m 101 #[.val (.int p1), .val (.int p2), .val (.int p3), .val (.int p4), .val (.int p5), .val (.int (1 : Int32)), .val (.int (0 : Int32)), .val (.int (0 : Int32)), .val (.ref a)] [(.int (0 : Int32))])) _
      refine XS.iload X5.here hx rfl (hb hby at_101) rfl ?_
      show Steps p.tables e below (T5.setTop (mkF m 103 #[.val (.int p1), .val (.int p2), .val (.int p3), .val (.int p4), .val (.int p5), .val (.int (1 : Int32)), .val (.int (0 : Int32)), .val (.int (0 : Int32)), .val (.ref a)] [(.int (0 : Int32)), (.int (0 : Int32))])) _
      refine XS.icmpYes X5.here hx rfl (pc0 := 103) (pc' := 108) rfl (hb hby at_103) rfl (teq (by decide : (0 : Int32) = (0 : Int32))).1 (by decide) (by decide) ?_
      show Steps p.tables e below (T5.setTop (mkF m 108 #[.val (.int p1), .val (.int p2), .val (.int p3), .val (.int p4), .val (.int p5), .val (.int (1 : Int32)), .val (.int (0 : Int32)), .val (.int (0 : Int32)), .val (.ref a)] [])) _
      refine XS.aload X5.here hx rfl (hb hby at_108) rfl rfl ?_
      show Steps p.tables e below (T5.setTop (mkF m 110 #[.val (.int p1), .val (.int p2), .val (.int p3), .val (.int p4), .val (.int p5), .val (.int (1 : Int32)), .val (.int (0 : Int32)), .val (.int (0 : Int32)), .val (.ref a)] [(.ref a)])) _
      refine XS.iload X5.here hx rfl (hb hby at_110) rfl ?_
      show Steps p.tables e below (T5.setTop (mkF m 112 #[.val (.int p1), .val (.int p2), .val (.int p3), .val (.int p4), .val (.int p5), .val (.int (1 : Int32)), .val (.int (0 : Int32)), .val (.int (0 : Int32)), .val (.ref a)] [(.int (0 : Int32)), (.ref a)])) _
      refine st6.trans ?_
      show Steps p.tables e below (T6.setTop (mkF m 115 #[.val (.int p1), .val (.int p2), .val (.int p3), .val (.int p4), .val (.int p5), .val (.int (1 : Int32)), .val (.int (0 : Int32)), .val (.int (0 : Int32)), .val (.ref a)] [(.int (1 : Int32))])) _
      refine XS.iconst X6.here hx rfl (hb hby at_115) ?_
      show Steps p.tables e below (T6.setTop (mkF m 116 #[.val (.int p1), .val (.int p2), .val (.int p3), .val (.int p4), .val (.int p5), .val (.int (1 : Int32)), .val (.int (0 : Int32)), .val (.int (0 : Int32)), .val (.ref a)] [(.int (1 : Int32)), (.int (1 : Int32))])) _
      refine XS.icmpYes X6.here hx rfl (pc0 := 116) (pc' := 121) rfl (hb hby at_116) rfl (teq (by decide : (1 : Int32) = (1 : Int32))).1 (by decide) (by decide) ?_
      show Steps p.tables e below (T6.setTop (mkF m 121 #[.val (.int p1), .val (.int p2), .val (.int p3), .val (.int p4), .val (.int p5), .val (.int (1 : Int32)), .val (.int (0 : Int32)), .val (.int (0 : Int32)), .val (.ref a)] [])) _
      refine XS.iload X6.here hx rfl (hb hby at_121) rfl ?_
      show Steps p.tables e below (T6.setTop (mkF m 123 #[.val (.int p1), .val (.int p2), .val (.int p3), .val (.int p4), .val (.int p5), .val (.int (1 : Int32)), .val (.int (0 : Int32)), .val (.int (0 : Int32)), .val (.ref a)] [(.int (0 : Int32))])) _
      refine XS.ifNo X6.here hx rfl (hb hby at_123) rfl ((if0 _ _).trans (teq (by decide : (0 : Int32) = (0 : Int32))).2) ?_
      show Steps p.tables e below (T6.setTop (mkF m 126 #[.val (.int p1), .val (.int p2), .val (.int p3), .val (.int p4), .val (.int p5), .val (.int (1 : Int32)), .val (.int (0 : Int32)), .val (.int (0 : Int32)), .val (.ref a)] [])) _
      refine XS.aload X6.here hx rfl (hb hby at_126) rfl rfl ?_
      show Steps p.tables e below (T6.setTop (mkF m 128 #[.val (.int p1), .val (.int p2), .val (.int p3), .val (.int p4), .val (.int p5), .val (.int (1 : Int32)), .val (.int (0 : Int32)), .val (.int (0 : Int32)), .val (.ref a)] [(.ref a)])) _
      refine XS.iload X6.here hx rfl (hb hby at_128) rfl ?_
      show Steps p.tables e below (T6.setTop (mkF m 130 #[.val (.int p1), .val (.int p2), .val (.int p3), .val (.int p4), .val (.int p5), .val (.int (1 : Int32)), .val (.int (0 : Int32)), .val (.int (0 : Int32)), .val (.ref a)] [(.int (1 : Int32)), (.ref a)])) _
      refine st7.trans ?_
      show Steps p.tables e below (T7.setTop (mkF m 133 #[.val (.int p1), .val (.int p2), .val (.int p3), .val (.int p4), .val (.int p5), .val (.int (1 : Int32)), .val (.int (0 : Int32)), .val (.int (0 : Int32)), .val (.ref a)] [(.int (0 : Int32))])) _
      refine XS.ifYes X7.here hx rfl (pc0 := 133) (pc' := 138) rfl (hb hby at_133) rfl ((if0 _ _).trans (teq (by decide : (0 : Int32) = (0 : Int32))).1) (by decide) (by decide) ?_
      show Steps p.tables e below (T7.setTop (mkF m 138 #[.val (.int p1), .val (.int p2), .val (.int p3), .val (.int p4), .val (.int p5), .val (.int (1 : Int32)), .val (.int (0 : Int32)), .val (.int (0 : Int32)), .val (.ref a)] [])) _
      refine XS.iload X7.here hx rfl (hb hby at_138) rfl ?_
      show Steps p.tables e below (T7.setTop (mkF m 140 #[.val (.int p1), .val (.int p2), .val (.int p3), .val (.int p4), .val (.int p5), .val (.int (1 : Int32)), .val (.int (0 : Int32)), .val (.int (0 : Int32)), .val (.ref a)] [(.int (0 : Int32))])) _
      refine XS.ifYes X7.here hx rfl (pc0 := 140) (pc' := 158) rfl (hb hby at_140) rfl ((if0 _ _).trans (teq (by decide : (0 : Int32) = (0 : Int32))).1) (by decide) (by decide) ?_
      show Steps p.tables e below (T7.setTop (mkF m 158 #[.val (.int p1), .val (.int p2), .val (.int p3), .val (.int p4), .val (.int p5), .val (.int (1 : Int32)), .val (.int (0 : Int32)), .val (.int (0 : Int32)), .val (.ref a)] [])) _
      refine XS.aload X7.here hx rfl (hb hby at_158) rfl rfl ?_
      show Steps p.tables e below (T7.setTop (mkF m 160 #[.val (.int p1), .val (.int p2), .val (.int p3), .val (.int p4), .val (.int p5), .val (.int (1 : Int32)), .val (.int (0 : Int32)), .val (.int (0 : Int32)), .val (.ref a)] [(.ref a)])) _
      refine XS.iconst X7.here hx rfl (hb hby at_160) ?_
      show Steps p.tables e below (T7.setTop (mkF m 161 #[.val (.int p1), .val (.int p2), .val (.int p3), .val (.int p4), .val (.int p5), .val (.int (1 : Int32)), .val (.int (0 : Int32)), .val (.int (0 : Int32)), .val (.ref a)] [(.int (1 : Int32)), (.ref a)])) _
      refine st8.trans ?_
      show Steps p.tables e below (T8.setTop (mkF m 164 #[.val (.int p1), .val (.int p2), .val (.int p3), .val (.int p4), .val (.int p5), .val (.int (1 : Int32)), .val (.int (0 : Int32)), .val (.int (0 : Int32)), .val (.ref a)] [(.int (-1 : Int32))])) _
      refine XS.iload X8.here hx rfl (hb hby at_164) rfl ?_
      show Steps p.tables e below (T8.setTop (mkF m 166 #[.val (.int p1), .val (.int p2), .val (.int p3), .val (.int p4), .val (.int p5), .val (.int (1 : Int32)), .val (.int (0 : Int32)), .val (.int (0 : Int32)), .val (.ref a)] [(.int (0 : Int32)), (.int (-1 : Int32))])) _
      refine XS.ifYes X8.here hx rfl (pc0 := 166) (pc' := 173) rfl (hb hby at_166) rfl ((if0 _ _).trans (teq (by decide : (0 : Int32) = (0 : Int32))).1) (by decide) (by decide) ?_
      show Steps p.tables e below (T8.setTop (mkF m 173 #[.val (.int p1), .val (.int p2), .val (.int p3), .val (.int p4), .val (.int p5), .val (.int (1 : Int32)), .val (.int (0 : Int32)), .val (.int (0 : Int32)), .val (.ref a)] [(.int (-1 : Int32))])) _
      refine XS.iconst X8.here hx rfl (hb hby at_173) ?_
      show Steps p.tables e below (T8.setTop (mkF m 174 #[.val (.int p1), .val (.int p2), .val (.int p3), .val (.int p4), .val (.int p5), .val (.int (1 : Int32)), .val (.int (0 : Int32)), .val (.int (0 : Int32)), .val (.ref a)] [(.int (-1 : Int32)), (.int (-1 : Int32))])) _
      refine XS.icmpYes X8.here hx rfl (pc0 := 174) (pc' := 179) rfl (hb hby at_174) rfl (teq (by decide : (-1 : Int32) = (-1 : Int32))).1 (by decide) (by decide) ?_
      show Steps p.tables e below (T8.setTop (mkF m 179 #[.val (.int p1), .val (.int p2), .val (.int p3), .val (.int p4), .val (.int p5), .val (.int (1 : Int32)), .val (.int (0 : Int32)), .val (.int (0 : Int32)), .val (.ref a)] [])) _
      refine XS.aload X8.here hx rfl (hb hby at_179) rfl rfl ?_
      show Steps p.tables e below (T8.setTop (mkF m 181 #[.val (.int p1), .val (.int p2), .val (.int p3), .val (.int p4), .val (.int p5), .val (.int (1 : Int32)), .val (.int (0 : Int32)), .val (.int (0 : Int32)), .val (.ref a)] [(.ref a)])) _
      refine XS.iconst X8.here hx rfl (hb hby at_181) ?_
      show Steps p.tables e below (T8.setTop (mkF m 182 #[.val (.int p1), .val (.int p2), .val (.int p3), .val (.int p4), .val (.int p5), .val (.int (1 : Int32)), .val (.int (0 : Int32)), .val (.int (0 : Int32)), .val (.ref a)] [(.int (0 : Int32)), (.ref a)])) _
      refine st9.trans ?_
      show Steps p.tables e below (T9.setTop (mkF m 185 #[.val (.int p1), .val (.int p2), .val (.int p3), .val (.int p4), .val (.int p5), .val (.int (1 : Int32)), .val (.int (0 : Int32)), .val (.int (0 : Int32)), .val (.ref a)] [(.int (-1 : Int32))])) _
      refine XS.iconst X9.here hx rfl (hb hby at_185) ?_
      show Steps p.tables e below (T9.setTop (mkF m 186 #[.val (.int p1), .val (.int p2), .val (.int p3), .val (.int p4), .val (.int p5), .val (.int (1 : Int32)), .val (.int (0 : Int32)), .val (.int (0 : Int32)), .val (.ref a)] [(.int (-1 : Int32)), (.int (-1 : Int32))])) _
      refine XS.icmpYes X9.here hx rfl (pc0 := 186) (pc' := 191) rfl (hb hby at_186) rfl (teq (by decide : (-1 : Int32) = (-1 : Int32))).1 (by decide) (by decide) ?_
      show Steps p.tables e below (T9.setTop (mkF m 191 #[.val (.int p1), .val (.int p2), .val (.int p3), .val (.int p4), .val (.int p5), .val (.int (1 : Int32)), .val (.int (0 : Int32)), .val (.int (0 : Int32)), .val (.ref a)] [])) _
      refine XS.aload X9.here hx rfl (hb hby at_191) rfl rfl ?_
      show Steps p.tables e below (T9.setTop (mkF m 193 #[.val (.int p1), .val (.int p2), .val (.int p3), .val (.int p4), .val (.int p5), .val (.int (1 : Int32)), .val (.int (0 : Int32)), .val (.int (0 : Int32)), .val (.ref a)] [(.ref a)])) _
      refine XS.iconst X9.here hx rfl (hb hby at_193) ?_
      show Steps p.tables e below (T9.setTop (mkF m 194 #[.val (.int p1), .val (.int p2), .val (.int p3), .val (.int p4), .val (.int p5), .val (.int (1 : Int32)), .val (.int (0 : Int32)), .val (.int (0 : Int32)), .val (.ref a)] [(.int (0 : Int32)), (.ref a)])) _
      refine st10.trans ?_
      show Steps p.tables e below (T10.setTop (mkF m 197 #[.val (.int p1), .val (.int p2), .val (.int p3), .val (.int p4), .val (.int p5), .val (.int (1 : Int32)), .val (.int (0 : Int32)), .val (.int (0 : Int32)), .val (.ref a)] [(.int p1)])) _
      refine XS.iloadN X10.here hx rfl (hb hby at_197) rfl ?_
      show Steps p.tables e below (T10.setTop (mkF m 198 #[.val (.int p1), .val (.int p2), .val (.int p3), .val (.int p4), .val (.int p5), .val (.int (1 : Int32)), .val (.int (0 : Int32)), .val (.int (0 : Int32)), .val (.ref a)] [(.int p1), (.int p1)])) _
      refine XS.icmpNo X10.here hx rfl (hb hby at_198) rfl (teq (rfl : p1 = p1)).2 ?_
      show Steps p.tables e below (T10.setTop (mkF m 201 #[.val (.int p1), .val (.int p2), .val (.int p3), .val (.int p4), .val (.int p5), .val (.int (1 : Int32)), .val (.int (0 : Int32)), .val (.int (0 : Int32)), .val (.ref a)] [])) _
      refine XS.aload X10.here hx rfl (hb hby at_201) rfl rfl ?_
      show Steps p.tables e below (T10.setTop (mkF m 203 #[.val (.int p1), .val (.int p2), .val (.int p3), .val (.int p4), .val (.int p5), .val (.int (1 : Int32)), .val (.int (0 : Int32)), .val (.int (0 : Int32)), .val (.ref a)] [(.ref a)])) _
      refine XS.iconst X10.here hx rfl (hb hby at_203) ?_
      show Steps p.tables e below (T10.setTop (mkF m 204 #[.val (.int p1), .val (.int p2), .val (.int p3), .val (.int p4), .val (.int p5), .val (.int (1 : Int32)), .val (.int (0 : Int32)), .val (.int (0 : Int32)), .val (.ref a)] [(.int (0 : Int32)), (.ref a)])) _
      refine st11.trans ?_
      show Steps p.tables e below (T11.setTop (mkF m 207 #[.val (.int p1), .val (.int p2), .val (.int p3), .val (.int p4), .val (.int p5), .val (.int (1 : Int32)), .val (.int (0 : Int32)), .val (.int (0 : Int32)), .val (.ref a)] [(.int p2)])) _
      refine XS.iloadN X11.here hx rfl (hb hby at_207) rfl ?_
      show Steps p.tables e below (T11.setTop (mkF m 208 #[.val (.int p1), .val (.int p2), .val (.int p3), .val (.int p4), .val (.int p5), .val (.int (1 : Int32)), .val (.int (0 : Int32)), .val (.int (0 : Int32)), .val (.ref a)] [(.int p2), (.int p2)])) _
      refine XS.icmpNo X11.here hx rfl (hb hby at_208) rfl (teq (rfl : p2 = p2)).2 ?_
      show Steps p.tables e below (T11.setTop (mkF m 211 #[.val (.int p1), .val (.int p2), .val (.int p3), .val (.int p4), .val (.int p5), .val (.int (1 : Int32)), .val (.int (0 : Int32)), .val (.int (0 : Int32)), .val (.ref a)] [])) _
      refine XS.aload X11.here hx rfl (hb hby at_211) rfl rfl ?_
      show Steps p.tables e below (T11.setTop (mkF m 213 #[.val (.int p1), .val (.int p2), .val (.int p3), .val (.int p4), .val (.int p5), .val (.int (1 : Int32)), .val (.int (0 : Int32)), .val (.int (0 : Int32)), .val (.ref a)] [(.ref a)])) _
      refine XS.iconst X11.here hx rfl (hb hby at_213) ?_
      show Steps p.tables e below (T11.setTop (mkF m 214 #[.val (.int p1), .val (.int p2), .val (.int p3), .val (.int p4), .val (.int p5), .val (.int (1 : Int32)), .val (.int (0 : Int32)), .val (.int (0 : Int32)), .val (.ref a)] [(.int (1 : Int32)), (.ref a)])) _
      refine st12.trans ?_
      show Steps p.tables e below (T12.setTop (mkF m 217 #[.val (.int p1), .val (.int p2), .val (.int p3), .val (.int p4), .val (.int p5), .val (.int (1 : Int32)), .val (.int (0 : Int32)), .val (.int (0 : Int32)), .val (.ref a)] [(.int p3)])) _
      refine XS.iloadN X12.here hx rfl (hb hby at_217) rfl ?_
      show Steps p.tables e below (T12.setTop (mkF m 218 #[.val (.int p1), .val (.int p2), .val (.int p3), .val (.int p4), .val (.int p5), .val (.int (1 : Int32)), .val (.int (0 : Int32)), .val (.int (0 : Int32)), .val (.ref a)] [(.int p3), (.int p3)])) _
      refine XS.icmpNo X12.here hx rfl (hb hby at_218) rfl (teq (rfl : p3 = p3)).2 ?_
      show Steps p.tables e below (T12.setTop (mkF m 221 #[.val (.int p1), .val (.int p2), .val (.int p3), .val (.int p4), .val (.int p5), .val (.int (1 : Int32)), .val (.int (0 : Int32)), .val (.int (0 : Int32)), .val (.ref a)] [])) _
      refine XS.aload X12.here hx rfl (hb hby at_221) rfl rfl ?_
      show Steps p.tables e below (T12.setTop (mkF m 223 #[.val (.int p1), .val (.int p2), .val (.int p3), .val (.int p4), .val (.int p5), .val (.int (1 : Int32)), .val (.int (0 : Int32)), .val (.int (0 : Int32)), .val (.ref a)] [(.ref a)])) _
      refine XS.iconst X12.here hx rfl (hb hby at_223) ?_
      show Steps p.tables e below (T12.setTop (mkF m 224 #[.val (.int p1), .val (.int p2), .val (.int p3), .val (.int p4), .val (.int p5), .val (.int (1 : Int32)), .val (.int (0 : Int32)), .val (.int (0 : Int32)), .val (.ref a)] [(.int (1 : Int32)), (.ref a)])) _
      refine st13.trans ?_
      show Steps p.tables e below (T13.setTop (mkF m 227 #[.val (.int p1), .val (.int p2), .val (.int p3), .val (.int p4), .val (.int p5), .val (.int (1 : Int32)), .val (.int (0 : Int32)), .val (.int (0 : Int32)), .val (.ref a)] [(.int p4)])) _
      refine XS.iloadN X13.here hx rfl (hb hby at_227) rfl ?_
      show Steps p.tables e below (T13.setTop (mkF m 228 #[.val (.int p1), .val (.int p2), .val (.int p3), .val (.int p4), .val (.int p5), .val (.int (1 : Int32)), .val (.int (0 : Int32)), .val (.int (0 : Int32)), .val (.ref a)] [(.int p4), (.int p4)])) _
      refine XS.icmpNo X13.here hx rfl (hb hby at_228) rfl (teq (rfl : p4 = p4)).2 ?_
      show Steps p.tables e below (T13.setTop (mkF m 231 #[.val (.int p1), .val (.int p2), .val (.int p3), .val (.int p4), .val (.int p5), .val (.int (1 : Int32)), .val (.int (0 : Int32)), .val (.int (0 : Int32)), .val (.ref a)] [])) _
      refine XS.iconst X13.here hx rfl (hb hby at_231) ?_
      show Steps p.tables e below (T13.setTop (mkF m 232 #[.val (.int p1), .val (.int p2), .val (.int p3), .val (.int p4), .val (.int p5), .val (.int (1 : Int32)), .val (.int (0 : Int32)), .val (.int (0 : Int32)), .val (.ref a)] [(.int (1 : Int32))])) _
      refine XS.goto X13.here hx rfl (pc0 := 232) (pc' := 236) rfl (hb hby at_232) (by decide) (by decide) ?_
      show Steps p.tables e below (T13.setTop (mkF m 236 #[.val (.int p1), .val (.int p2), .val (.int p3), .val (.int p4), .val (.int p5), .val (.int (1 : Int32)), .val (.int (0 : Int32)), .val (.int (0 : Int32)), .val (.ref a)] [(.int (1 : Int32))])) _
      exact retN X13 hx (t := .boolean) Bd.returns (by simp) (hb hby at_236) hr
    · exact ⟨rfl, N13⟩
  · rw [show own_a p5 = (1 : Int32) from ha, show own_b p5 = (1 : Int32) from hb'] at sg0
    obtain ⟨TO, hO, XO, eO, EO, AO, DO, -, stO⟩ := newO X0 hx hZ hown (hw _ (List.mem_of_getElem? (i := 0) rfl)) (hw _ (List.mem_of_getElem? (i := 1) rfl)) (hw _ (List.mem_of_getElem? (i := 2) rfl)) e0 (g := (mkF m 28 #[.val (.int p1), .val (.int p2), .val (.int p3), .val (.int p4), .val (.int p5), .val (.int (1 : Int32)), .val (.int (1 : Int32)), .val (.int (1 : Int32)), .unset] [])) rfl (hb hby at_28) (by decide) (by decide)
    obtain ⟨a, gO⟩ : ∃ z, z = h0.size := ⟨_, rfl⟩
    rw [← gO] at AO DO stO
    have g_a : n0 ≤ a := Nat.le_trans Z0 (Nat.le_of_eq gO.symm)
    have ZO : n0 ≤ hO.size := Nat.le_trans Z0 EO.1
    obtain ⟨_, _, ⟨TC, LC, kC, nC⟩, -, XC, ⟨LcC, hQC, lC, yC, zC⟩, stC⟩ := XO.specialBack hx (y := (⟨"com/example/meticulous_handshake/meticuloushandshake/bisimulation/ArcsByLabel", "<init>", "(II)V"⟩ : MethodName)) rfl hown (mvT hZ (hw _ (List.mem_of_getElem? (i := 3) rfl))) (mvT hZ (hw _ (List.mem_of_getElem? (i := 4) rfl))) (mvT hZ (hw _ (List.mem_of_getElem? (i := 5) rfl))) (by decide) (backOf (W := 1) (rm1 l Z a0 hw [] a hO n0 ZO AO (DO (Or.inr (hw _ (List.mem_of_getElem? (i := 11) rfl))) (ty := (.array .int)) (by decide)) (DO (Or.inr (hw _ (List.mem_of_getElem? (i := 13) rfl))) (ty := (.array .int)) (by decide)) (DO (Or.inr (hw _ (List.mem_of_getElem? (i := 15) rfl))) (ty := (.array .int)) (by decide)) (DO (Or.inr (hw _ (List.mem_of_getElem? (i := 17) rfl))) (ty := (.array .int)) (by decide)) (DO (Or.inr (hw _ (List.mem_of_getElem? (i := 23) rfl))) (ty := (.array .int)) (by decide)) (DO (Or.inl (hw _ (List.mem_of_getElem? (i := 30) rfl))) (ty := .int) (by decide)) (DO (Or.inl (hw _ (List.mem_of_getElem? (i := 32) rfl))) (ty := .int) (by decide)) g_a) hZ (hw _ (List.mem_of_getElem? (i := 5) rfl)) (hw _ (List.mem_of_getElem? (i := 2) rfl)) (by decide) (by decide)) (g := (mkF m 34 #[.val (.int p1), .val (.int p2), .val (.int p3), .val (.int p4), .val (.int p5), .val (.int (1 : Int32)), .val (.int (1 : Int32)), .val (.int (1 : Int32)), .unset] [(.int (2 : Int32)), (.int (2 : Int32)), (.ref a), (.ref a)])) rfl (by rw [hml]; rfl) (Steps.refl _) (a := a) (argsL := [(.int (2 : Int32)), (.int (2 : Int32))]) (rest := [(.ref a)]) (lenOf pd_ini rfl) rfl (by show 2 * 0 + _ ≤ _; exact Nat.le_of_eq rfl) (hb hby at_34) (fun _ _ => ⟨rfl, eO, (by decide : 1 + 5 ≤ _), (by decide : 7 + 10 ≤ _)⟩)
    dsimp only [Pt.U, Pt.locs, Pt.cells, Pt.slots] at XC lC yC zC stC hQC
    subst lC yC zC
    obtain ⟨rfl, NCq, ZC, bA, bS, bN, bF, bL, od, OC⟩ := hQC
    have NC := Fr.app N0 NCq
    obtain ⟨cq1, kq1, qa1, qb1, qc1⟩ := isOf hZ rfl OC.1
    obtain ⟨_, _, ⟨T1, L1, k1, n1⟩, -, X1, ⟨Lc1, hQ1, l1, y1, z1⟩, st1⟩ := XC.virtualBack hx (y := (⟨"com/example/meticulous_handshake/meticuloushandshake/bisimulation/ArcsByLabel", "add", "(III)V"⟩ : MethodName)) (z := (⟨"com/example/meticulous_handshake/meticuloushandshake/bisimulation/ArcsByLabel", "add", "(III)V"⟩ : MethodName)) hown (mvT hZ (hw _ (List.mem_of_getElem? (i := 24) rfl))) (mvT hZ (hw _ (List.mem_of_getElem? (i := 25) rfl))) (notFace_of_selects (args := #[]) (mvT hZ (hw _ (List.mem_of_getElem? (i := 27) rfl)))) (mvT hZ (hw _ (List.mem_of_getElem? (i := 27) rfl))) (mvT hZ (hw _ (List.mem_of_getElem? (i := 26) rfl))) (by decide) (backOf (W := 0) (rm4A l Z a0 hw [] a bA bS bN bF bL p1 p2 (1 : Int32) (0 : Int32) (0 : Int32) (-1 : Int32) [(.int (0 : Int32)), (.int (0 : Int32))] [(.int (0 : Int32)), (.int (0 : Int32))] [(.int (0 : Int32)), (.int (0 : Int32))] [(.int (-1 : Int32)), (.int (-1 : Int32))] [(.int (0 : Int32)), (.int (0 : Int32))] 0 1 0 TC.heap n0 ZC OC od g_a (by decide) rfl (by decide) rfl (by decide) rfl ⟨by decide, by decide, by decide, rfl, rfl, rfl, rfl, rfl⟩ rfl (by decide)) hZ (hw _ (List.mem_of_getElem? (i := 28) rfl)) (hw _ (List.mem_of_getElem? (i := 2) rfl)) (by decide) (by decide)) qa1 qc1 (g := (mkF m 45 #[.val (.int p1), .val (.int p2), .val (.int p3), .val (.int p4), .val (.int p5), .val (.int (1 : Int32)), .val (.int (1 : Int32)), .val (.int (1 : Int32)), .val (.ref a)] [(.int (1 : Int32)), (.int p2), (.int p1), (.ref a)])) rfl (by rw [hml]; rfl) (Steps.refl _) (argsL := [(.int p1), (.int p2), (.int (1 : Int32))]) (rest := []) (lenOf pd_add rfl) rfl (by show 2 * 0 + _ ≤ _; exact Nat.le_of_eq rfl) (hb hby at_45) (fun _ _ => ⟨rfl, rfl, (by decide : 6 + 0 ≤ _), (by decide : 17 + 0 ≤ _)⟩)
    dsimp only [Pt.U, Pt.locs, Pt.cells, Pt.slots] at X1 l1 y1 z1 st1 hQ1
    subst l1 y1 z1
    obtain ⟨rfl, N1q, Z1, OO1⟩ := hQ1
    have N1 := Fr.app NC N1q
    have O1 : OwnObj Z T1.heap a bA bS bN bF bL (1 : Int32) (1 : Int32) [(.int p1), (.int (0 : Int32))] [(.int p2), (.int (0 : Int32))] [(.int (-1 : Int32)), (.int (0 : Int32))] [(.int (-1 : Int32)), (.int (0 : Int32))] [(.int (1 : Int32)), (.int (0 : Int32))] := OO1
    obtain ⟨cq2, kq2, qa2, qb2, qc2⟩ := isOf hZ rfl O1.1
    obtain ⟨_, _, ⟨T2, L2, k2, n2⟩, -, X2, ⟨Lc2, hQ2, l2, y2, z2⟩, st2⟩ := X1.virtualBack hx (y := (⟨"com/example/meticulous_handshake/meticuloushandshake/bisimulation/ArcsByLabel", "add", "(III)V"⟩ : MethodName)) (z := (⟨"com/example/meticulous_handshake/meticuloushandshake/bisimulation/ArcsByLabel", "add", "(III)V"⟩ : MethodName)) hown (mvT hZ (hw _ (List.mem_of_getElem? (i := 24) rfl))) (mvT hZ (hw _ (List.mem_of_getElem? (i := 25) rfl))) (notFace_of_selects (args := #[]) (mvT hZ (hw _ (List.mem_of_getElem? (i := 27) rfl)))) (mvT hZ (hw _ (List.mem_of_getElem? (i := 27) rfl))) (mvT hZ (hw _ (List.mem_of_getElem? (i := 26) rfl))) (by decide) (backOf (W := 0) (rm4B l Z a0 hw [] a bA bS bN bF bL p3 p4 (1 : Int32) (1 : Int32) (1 : Int32) (0 : Int32) [(.int p1), (.int (0 : Int32))] [(.int p2), (.int (0 : Int32))] [(.int (-1 : Int32)), (.int (0 : Int32))] [(.int (-1 : Int32)), (.int (0 : Int32))] [(.int (1 : Int32)), (.int (0 : Int32))] 1 1 1 T1.heap n0 Z1 O1 od g_a (by decide) rfl (by decide) rfl (by decide) rfl ⟨by decide, by decide, by decide, rfl, rfl, rfl, rfl, rfl⟩ rfl (by decide)) hZ (hw _ (List.mem_of_getElem? (i := 28) rfl)) (hw _ (List.mem_of_getElem? (i := 2) rfl)) (by decide) (by decide)) qa2 qc2 (g := (mkF m 54 #[.val (.int p1), .val (.int p2), .val (.int p3), .val (.int p4), .val (.int p5), .val (.int (1 : Int32)), .val (.int (1 : Int32)), .val (.int (1 : Int32)), .val (.ref a)] [(.int (1 : Int32)), (.int p4), (.int p3), (.ref a)])) rfl (by rw [hml]; rfl) (Steps.refl _) (argsL := [(.int p3), (.int p4), (.int (1 : Int32))]) (rest := []) (lenOf pd_add rfl) rfl (by show 2 * 0 + _ ≤ _; exact Nat.le_of_eq rfl) (hb hby at_54) (fun _ _ => ⟨rfl, rfl, (by decide : 6 + 0 ≤ _), (by decide : 17 + 0 ≤ _)⟩)
    dsimp only [Pt.U, Pt.locs, Pt.cells, Pt.slots] at X2 l2 y2 z2 st2 hQ2
    subst l2 y2 z2
    obtain ⟨rfl, N2q, Z2, OO2⟩ := hQ2
    have N2 := Fr.app N1 N2q
    have O2 : OwnObj Z T2.heap a bA bS bN bF bL (2 : Int32) (1 : Int32) [(.int p1), (.int p3)] [(.int p2), (.int p4)] [(.int (-1 : Int32)), (.int (0 : Int32))] [(.int (-1 : Int32)), (.int (1 : Int32))] [(.int (1 : Int32)), (.int (0 : Int32))] := OO2
    obtain ⟨cq3, kq3, qa3, qb3, qc3⟩ := isOf hZ rfl O2.1
    obtain ⟨_, _, ⟨T3, L3, k3, n3⟩, -, X3, ⟨Lc3, hQ3, l3, y3, z3⟩, st3⟩ := X2.virtualBack hx (y := (⟨"com/example/meticulous_handshake/meticuloushandshake/bisimulation/ArcsByLabel", "labelCount", "()I"⟩ : MethodName)) (z := (⟨"com/example/meticulous_handshake/meticuloushandshake/bisimulation/ArcsByLabel", "labelCount", "()I"⟩ : MethodName)) hown (mvT hZ (hw _ (List.mem_of_getElem? (i := 33) rfl))) (mvT hZ (hw _ (List.mem_of_getElem? (i := 34) rfl))) (notFace_of_selects (args := #[]) (mvT hZ (hw _ (List.mem_of_getElem? (i := 36) rfl)))) (mvT hZ (hw _ (List.mem_of_getElem? (i := 36) rfl))) (mvT hZ (hw _ (List.mem_of_getElem? (i := 35) rfl))) (by decide) (backOf (W := 0) (rm5 l Z a0 hw [] a (1 : Int32) T2.heap n0 Z2 O2.2.2.2.2.2.2.2.1) hZ (hw _ (List.mem_of_getElem? (i := 37) rfl)) (hw _ (List.mem_of_getElem? (i := 2) rfl)) (by decide) (by decide)) qa3 qc3 (g := (mkF m 59 #[.val (.int p1), .val (.int p2), .val (.int p3), .val (.int p4), .val (.int p5), .val (.int (1 : Int32)), .val (.int (1 : Int32)), .val (.int (1 : Int32)), .val (.ref a)] [(.ref a)])) rfl (by rw [hml]; rfl) (Steps.refl _) (argsL := []) (rest := []) (lenOf pd_lc rfl) rfl (by show 2 * 0 + _ ≤ _; exact Nat.le_of_eq rfl) (hb hby at_59) (fun _ _ => ⟨rfl, rfl, (by decide : 6 + 0 ≤ _), (by decide : 17 + 0 ≤ _)⟩)
    dsimp only [Pt.U, Pt.locs, Pt.cells, Pt.slots] at X3 l3 y3 z3 st3 hQ3
    subst l3 y3 z3
    obtain ⟨rfl, N3q, e3⟩ := hQ3
    have N3 := Fr.app N2 N3q
    obtain ⟨cq4, kq4, qa4, qb4, qc4⟩ := isOf hZ e3 O2.1
    obtain ⟨_, _, ⟨T4, L4, k4, n4⟩, -, X4, ⟨Lc4, hQ4, l4, y4, z4⟩, st4⟩ := X3.virtualBack hx (y := (⟨"com/example/meticulous_handshake/meticuloushandshake/bisimulation/ArcsByLabel", "label", "(I)I"⟩ : MethodName)) (z := (⟨"com/example/meticulous_handshake/meticuloushandshake/bisimulation/ArcsByLabel", "label", "(I)I"⟩ : MethodName)) hown (mvT hZ (hw _ (List.mem_of_getElem? (i := 38) rfl))) (mvT hZ (hw _ (List.mem_of_getElem? (i := 39) rfl))) (notFace_of_selects (args := #[]) (mvT hZ (hw _ (List.mem_of_getElem? (i := 41) rfl)))) (mvT hZ (hw _ (List.mem_of_getElem? (i := 41) rfl))) (mvT hZ (hw _ (List.mem_of_getElem? (i := 40) rfl))) (by decide) (backOf (W := 0) (rm6 l Z a0 hw [] a (0 : Int32) bL [(.int (1 : Int32)), (.int (0 : Int32))] 0 (1 : Int32) T2.heap n0 Z2 O2.2.2.2.2.2.1 O2.2.2.2.2.2.2.2.2.2.2.2.2 (by decide) rfl rfl) hZ (hw _ (List.mem_of_getElem? (i := 42) rfl)) (hw _ (List.mem_of_getElem? (i := 2) rfl)) (by decide) (by decide)) qa4 qc4 (g := (mkF m 80 #[.val (.int p1), .val (.int p2), .val (.int p3), .val (.int p4), .val (.int p5), .val (.int (1 : Int32)), .val (.int (1 : Int32)), .val (.int (1 : Int32)), .val (.ref a)] [(.int (0 : Int32)), (.ref a)])) rfl (by rw [hml]; rfl) (Steps.refl _) (argsL := [(.int (0 : Int32))]) (rest := []) (lenOf pd_get rfl) rfl (by show 2 * 0 + _ ≤ _; exact Nat.le_of_eq rfl) (hb hby at_80) (fun _ _ => ⟨rfl, e3, (by decide : 6 + 0 ≤ _), (by decide : 17 + 0 ≤ _)⟩)
    dsimp only [Pt.U, Pt.locs, Pt.cells, Pt.slots] at X4 l4 y4 z4 st4 hQ4
    subst l4 y4 z4
    obtain ⟨rfl, N4q, e4⟩ := hQ4
    have N4 := Fr.app N3 N4q
    obtain ⟨cq5, kq5, qa5, qb5, qc5⟩ := isOf hZ e4 O2.1
    obtain ⟨_, _, ⟨T5, L5, k5, n5⟩, -, X5, ⟨Lc5, hQ5, l5, y5, z5⟩, st5⟩ := X4.virtualBack hx (y := (⟨"com/example/meticulous_handshake/meticuloushandshake/bisimulation/ArcsByLabel", "first", "(I)I"⟩ : MethodName)) (z := (⟨"com/example/meticulous_handshake/meticuloushandshake/bisimulation/ArcsByLabel", "first", "(I)I"⟩ : MethodName)) hown (mvT hZ (hw _ (List.mem_of_getElem? (i := 43) rfl))) (mvT hZ (hw _ (List.mem_of_getElem? (i := 44) rfl))) (notFace_of_selects (args := #[]) (mvT hZ (hw _ (List.mem_of_getElem? (i := 46) rfl)))) (mvT hZ (hw _ (List.mem_of_getElem? (i := 46) rfl))) (mvT hZ (hw _ (List.mem_of_getElem? (i := 45) rfl))) (by decide) (backOf (W := 0) (rm7 l Z a0 hw [] a (1 : Int32) bF [(.int (-1 : Int32)), (.int (1 : Int32))] 1 (1 : Int32) T2.heap n0 Z2 O2.2.2.2.2.1 O2.2.2.2.2.2.2.2.2.2.2.2.1 (by decide) rfl rfl) hZ (hw _ (List.mem_of_getElem? (i := 47) rfl)) (hw _ (List.mem_of_getElem? (i := 2) rfl)) (by decide) (by decide)) qa5 qc5 (g := (mkF m 112 #[.val (.int p1), .val (.int p2), .val (.int p3), .val (.int p4), .val (.int p5), .val (.int (1 : Int32)), .val (.int (1 : Int32)), .val (.int (1 : Int32)), .val (.ref a)] [(.int (1 : Int32)), (.ref a)])) rfl (by rw [hml]; rfl) (Steps.refl _) (argsL := [(.int (1 : Int32))]) (rest := []) (lenOf pd_get rfl) rfl (by show 2 * 0 + _ ≤ _; exact Nat.le_of_eq rfl) (hb hby at_112) (fun _ _ => ⟨rfl, e4, (by decide : 6 + 0 ≤ _), (by decide : 17 + 0 ≤ _)⟩)
    dsimp only [Pt.U, Pt.locs, Pt.cells, Pt.slots] at X5 l5 y5 z5 st5 hQ5
    subst l5 y5 z5
    obtain ⟨rfl, N5q, e5⟩ := hQ5
    have N5 := Fr.app N4 N5q
    obtain ⟨cq6, kq6, qa6, qb6, qc6⟩ := isOf hZ e5 O2.1
    obtain ⟨_, _, ⟨T6, L6, k6, n6⟩, -, X6, ⟨Lc6, hQ6, l6, y6, z6⟩, st6⟩ := X5.virtualBack hx (y := (⟨"com/example/meticulous_handshake/meticuloushandshake/bisimulation/ArcsByLabel", "first", "(I)I"⟩ : MethodName)) (z := (⟨"com/example/meticulous_handshake/meticuloushandshake/bisimulation/ArcsByLabel", "first", "(I)I"⟩ : MethodName)) hown (mvT hZ (hw _ (List.mem_of_getElem? (i := 43) rfl))) (mvT hZ (hw _ (List.mem_of_getElem? (i := 44) rfl))) (notFace_of_selects (args := #[]) (mvT hZ (hw _ (List.mem_of_getElem? (i := 46) rfl)))) (mvT hZ (hw _ (List.mem_of_getElem? (i := 46) rfl))) (mvT hZ (hw _ (List.mem_of_getElem? (i := 45) rfl))) (by decide) (backOf (W := 0) (rm7 l Z a0 hw [] a (0 : Int32) bF [(.int (-1 : Int32)), (.int (1 : Int32))] 0 (-1 : Int32) T2.heap n0 Z2 O2.2.2.2.2.1 O2.2.2.2.2.2.2.2.2.2.2.2.1 (by decide) rfl rfl) hZ (hw _ (List.mem_of_getElem? (i := 47) rfl)) (hw _ (List.mem_of_getElem? (i := 2) rfl)) (by decide) (by decide)) qa6 qc6 (g := (mkF m 149 #[.val (.int p1), .val (.int p2), .val (.int p3), .val (.int p4), .val (.int p5), .val (.int (1 : Int32)), .val (.int (1 : Int32)), .val (.int (1 : Int32)), .val (.ref a)] [(.int (0 : Int32)), (.ref a)])) rfl (by rw [hml]; rfl) (Steps.refl _) (argsL := [(.int (0 : Int32))]) (rest := []) (lenOf pd_get rfl) rfl (by show 2 * 0 + _ ≤ _; exact Nat.le_of_eq rfl) (hb hby at_149) (fun _ _ => ⟨rfl, e5, (by decide : 6 + 0 ≤ _), (by decide : 17 + 0 ≤ _)⟩)
    dsimp only [Pt.U, Pt.locs, Pt.cells, Pt.slots] at X6 l6 y6 z6 st6 hQ6
    subst l6 y6 z6
    obtain ⟨rfl, N6q, e6⟩ := hQ6
    have N6 := Fr.app N5 N6q
    obtain ⟨cq7, kq7, qa7, qb7, qc7⟩ := isOf hZ e6 O2.1
    obtain ⟨_, _, ⟨T7, L7, k7, n7⟩, -, X7, ⟨Lc7, hQ7, l7, y7, z7⟩, st7⟩ := X6.virtualBack hx (y := (⟨"com/example/meticulous_handshake/meticuloushandshake/bisimulation/ArcsByLabel", "next", "(I)I"⟩ : MethodName)) (z := (⟨"com/example/meticulous_handshake/meticuloushandshake/bisimulation/ArcsByLabel", "next", "(I)I"⟩ : MethodName)) hown (mvT hZ (hw _ (List.mem_of_getElem? (i := 48) rfl))) (mvT hZ (hw _ (List.mem_of_getElem? (i := 49) rfl))) (notFace_of_selects (args := #[]) (mvT hZ (hw _ (List.mem_of_getElem? (i := 51) rfl)))) (mvT hZ (hw _ (List.mem_of_getElem? (i := 51) rfl))) (mvT hZ (hw _ (List.mem_of_getElem? (i := 50) rfl))) (by decide) (backOf (W := 0) (rm8 l Z a0 hw [] a (1 : Int32) bN [(.int (-1 : Int32)), (.int (0 : Int32))] 1 (0 : Int32) T2.heap n0 Z2 O2.2.2.2.1 O2.2.2.2.2.2.2.2.2.2.2.1 (by decide) rfl rfl) hZ (hw _ (List.mem_of_getElem? (i := 52) rfl)) (hw _ (List.mem_of_getElem? (i := 2) rfl)) (by decide) (by decide)) qa7 qc7 (g := (mkF m 161 #[.val (.int p1), .val (.int p2), .val (.int p3), .val (.int p4), .val (.int p5), .val (.int (1 : Int32)), .val (.int (1 : Int32)), .val (.int (1 : Int32)), .val (.ref a)] [(.int (1 : Int32)), (.ref a)])) rfl (by rw [hml]; rfl) (Steps.refl _) (argsL := [(.int (1 : Int32))]) (rest := []) (lenOf pd_get rfl) rfl (by show 2 * 0 + _ ≤ _; exact Nat.le_of_eq rfl) (hb hby at_161) (fun _ _ => ⟨rfl, e6, (by decide : 6 + 0 ≤ _), (by decide : 17 + 0 ≤ _)⟩)
    dsimp only [Pt.U, Pt.locs, Pt.cells, Pt.slots] at X7 l7 y7 z7 st7 hQ7
    subst l7 y7 z7
    obtain ⟨rfl, N7q, e7⟩ := hQ7
    have N7 := Fr.app N6 N7q
    obtain ⟨cq8, kq8, qa8, qb8, qc8⟩ := isOf hZ e7 O2.1
    obtain ⟨_, _, ⟨T8, L8, k8, n8⟩, -, X8, ⟨Lc8, hQ8, l8, y8, z8⟩, st8⟩ := X7.virtualBack hx (y := (⟨"com/example/meticulous_handshake/meticuloushandshake/bisimulation/ArcsByLabel", "next", "(I)I"⟩ : MethodName)) (z := (⟨"com/example/meticulous_handshake/meticuloushandshake/bisimulation/ArcsByLabel", "next", "(I)I"⟩ : MethodName)) hown (mvT hZ (hw _ (List.mem_of_getElem? (i := 48) rfl))) (mvT hZ (hw _ (List.mem_of_getElem? (i := 49) rfl))) (notFace_of_selects (args := #[]) (mvT hZ (hw _ (List.mem_of_getElem? (i := 51) rfl)))) (mvT hZ (hw _ (List.mem_of_getElem? (i := 51) rfl))) (mvT hZ (hw _ (List.mem_of_getElem? (i := 50) rfl))) (by decide) (backOf (W := 0) (rm8 l Z a0 hw [] a (0 : Int32) bN [(.int (-1 : Int32)), (.int (0 : Int32))] 0 (-1 : Int32) T2.heap n0 Z2 O2.2.2.2.1 O2.2.2.2.2.2.2.2.2.2.2.1 (by decide) rfl rfl) hZ (hw _ (List.mem_of_getElem? (i := 52) rfl)) (hw _ (List.mem_of_getElem? (i := 2) rfl)) (by decide) (by decide)) qa8 qc8 (g := (mkF m 182 #[.val (.int p1), .val (.int p2), .val (.int p3), .val (.int p4), .val (.int p5), .val (.int (1 : Int32)), .val (.int (1 : Int32)), .val (.int (1 : Int32)), .val (.ref a)] [(.int (0 : Int32)), (.ref a)])) rfl (by rw [hml]; rfl) (Steps.refl _) (argsL := [(.int (0 : Int32))]) (rest := []) (lenOf pd_get rfl) rfl (by show 2 * 0 + _ ≤ _; exact Nat.le_of_eq rfl) (hb hby at_182) (fun _ _ => ⟨rfl, e7, (by decide : 6 + 0 ≤ _), (by decide : 17 + 0 ≤ _)⟩)
    dsimp only [Pt.U, Pt.locs, Pt.cells, Pt.slots] at X8 l8 y8 z8 st8 hQ8
    subst l8 y8 z8
    obtain ⟨rfl, N8q, e8⟩ := hQ8
    have N8 := Fr.app N7 N8q
    obtain ⟨cq9, kq9, qa9, qb9, qc9⟩ := isOf hZ e8 O2.1
    obtain ⟨_, _, ⟨T9, L9, k9, n9⟩, -, X9, ⟨Lc9, hQ9, l9, y9, z9⟩, st9⟩ := X8.virtualBack hx (y := (⟨"com/example/meticulous_handshake/meticuloushandshake/bisimulation/ArcsByLabel", "arc", "(I)I"⟩ : MethodName)) (z := (⟨"com/example/meticulous_handshake/meticuloushandshake/bisimulation/ArcsByLabel", "arc", "(I)I"⟩ : MethodName)) hown (mvT hZ (hw _ (List.mem_of_getElem? (i := 53) rfl))) (mvT hZ (hw _ (List.mem_of_getElem? (i := 54) rfl))) (notFace_of_selects (args := #[]) (mvT hZ (hw _ (List.mem_of_getElem? (i := 56) rfl)))) (mvT hZ (hw _ (List.mem_of_getElem? (i := 56) rfl))) (mvT hZ (hw _ (List.mem_of_getElem? (i := 55) rfl))) (by decide) (backOf (W := 0) (rm9 l Z a0 hw [] a (0 : Int32) bA [(.int p1), (.int p3)] 0 p1 T2.heap n0 Z2 O2.2.1 O2.2.2.2.2.2.2.2.2.1 (by decide) rfl rfl) hZ (hw _ (List.mem_of_getElem? (i := 57) rfl)) (hw _ (List.mem_of_getElem? (i := 2) rfl)) (by decide) (by decide)) qa9 qc9 (g := (mkF m 194 #[.val (.int p1), .val (.int p2), .val (.int p3), .val (.int p4), .val (.int p5), .val (.int (1 : Int32)), .val (.int (1 : Int32)), .val (.int (1 : Int32)), .val (.ref a)] [(.int (0 : Int32)), (.ref a)])) rfl (by rw [hml]; rfl) (Steps.refl _) (argsL := [(.int (0 : Int32))]) (rest := []) (lenOf pd_get rfl) rfl (by show 2 * 0 + _ ≤ _; exact Nat.le_of_eq rfl) (hb hby at_194) (fun _ _ => ⟨rfl, e8, (by decide : 6 + 0 ≤ _), (by decide : 17 + 0 ≤ _)⟩)
    dsimp only [Pt.U, Pt.locs, Pt.cells, Pt.slots] at X9 l9 y9 z9 st9 hQ9
    subst l9 y9 z9
    obtain ⟨rfl, N9q, e9⟩ := hQ9
    have N9 := Fr.app N8 N9q
    obtain ⟨cq10, kq10, qa10, qb10, qc10⟩ := isOf hZ e9 O2.1
    obtain ⟨_, _, ⟨T10, L10, k10, n10⟩, -, X10, ⟨Lc10, hQ10, l10, y10, z10⟩, st10⟩ := X9.virtualBack hx (y := (⟨"com/example/meticulous_handshake/meticuloushandshake/bisimulation/ArcsByLabel", "source", "(I)I"⟩ : MethodName)) (z := (⟨"com/example/meticulous_handshake/meticuloushandshake/bisimulation/ArcsByLabel", "source", "(I)I"⟩ : MethodName)) hown (mvT hZ (hw _ (List.mem_of_getElem? (i := 58) rfl))) (mvT hZ (hw _ (List.mem_of_getElem? (i := 59) rfl))) (notFace_of_selects (args := #[]) (mvT hZ (hw _ (List.mem_of_getElem? (i := 61) rfl)))) (mvT hZ (hw _ (List.mem_of_getElem? (i := 61) rfl))) (mvT hZ (hw _ (List.mem_of_getElem? (i := 60) rfl))) (by decide) (backOf (W := 0) (rm10 l Z a0 hw [] a (0 : Int32) bS [(.int p2), (.int p4)] 0 p2 T2.heap n0 Z2 O2.2.2.1 O2.2.2.2.2.2.2.2.2.2.1 (by decide) rfl rfl) hZ (hw _ (List.mem_of_getElem? (i := 62) rfl)) (hw _ (List.mem_of_getElem? (i := 2) rfl)) (by decide) (by decide)) qa10 qc10 (g := (mkF m 204 #[.val (.int p1), .val (.int p2), .val (.int p3), .val (.int p4), .val (.int p5), .val (.int (1 : Int32)), .val (.int (1 : Int32)), .val (.int (1 : Int32)), .val (.ref a)] [(.int (0 : Int32)), (.ref a)])) rfl (by rw [hml]; rfl) (Steps.refl _) (argsL := [(.int (0 : Int32))]) (rest := []) (lenOf pd_get rfl) rfl (by show 2 * 0 + _ ≤ _; exact Nat.le_of_eq rfl) (hb hby at_204) (fun _ _ => ⟨rfl, e9, (by decide : 6 + 0 ≤ _), (by decide : 17 + 0 ≤ _)⟩)
    dsimp only [Pt.U, Pt.locs, Pt.cells, Pt.slots] at X10 l10 y10 z10 st10 hQ10
    subst l10 y10 z10
    obtain ⟨rfl, N10q, e10⟩ := hQ10
    have N10 := Fr.app N9 N10q
    obtain ⟨cq11, kq11, qa11, qb11, qc11⟩ := isOf hZ e10 O2.1
    obtain ⟨_, _, ⟨T11, L11, k11, n11⟩, -, X11, ⟨Lc11, hQ11, l11, y11, z11⟩, st11⟩ := X10.virtualBack hx (y := (⟨"com/example/meticulous_handshake/meticuloushandshake/bisimulation/ArcsByLabel", "arc", "(I)I"⟩ : MethodName)) (z := (⟨"com/example/meticulous_handshake/meticuloushandshake/bisimulation/ArcsByLabel", "arc", "(I)I"⟩ : MethodName)) hown (mvT hZ (hw _ (List.mem_of_getElem? (i := 53) rfl))) (mvT hZ (hw _ (List.mem_of_getElem? (i := 54) rfl))) (notFace_of_selects (args := #[]) (mvT hZ (hw _ (List.mem_of_getElem? (i := 56) rfl)))) (mvT hZ (hw _ (List.mem_of_getElem? (i := 56) rfl))) (mvT hZ (hw _ (List.mem_of_getElem? (i := 55) rfl))) (by decide) (backOf (W := 0) (rm9 l Z a0 hw [] a (1 : Int32) bA [(.int p1), (.int p3)] 1 p3 T2.heap n0 Z2 O2.2.1 O2.2.2.2.2.2.2.2.2.1 (by decide) rfl rfl) hZ (hw _ (List.mem_of_getElem? (i := 57) rfl)) (hw _ (List.mem_of_getElem? (i := 2) rfl)) (by decide) (by decide)) qa11 qc11 (g := (mkF m 214 #[.val (.int p1), .val (.int p2), .val (.int p3), .val (.int p4), .val (.int p5), .val (.int (1 : Int32)), .val (.int (1 : Int32)), .val (.int (1 : Int32)), .val (.ref a)] [(.int (1 : Int32)), (.ref a)])) rfl (by rw [hml]; rfl) (Steps.refl _) (argsL := [(.int (1 : Int32))]) (rest := []) (lenOf pd_get rfl) rfl (by show 2 * 0 + _ ≤ _; exact Nat.le_of_eq rfl) (hb hby at_214) (fun _ _ => ⟨rfl, e10, (by decide : 6 + 0 ≤ _), (by decide : 17 + 0 ≤ _)⟩)
    dsimp only [Pt.U, Pt.locs, Pt.cells, Pt.slots] at X11 l11 y11 z11 st11 hQ11
    subst l11 y11 z11
    obtain ⟨rfl, N11q, e11⟩ := hQ11
    have N11 := Fr.app N10 N11q
    obtain ⟨cq12, kq12, qa12, qb12, qc12⟩ := isOf hZ e11 O2.1
    obtain ⟨_, _, ⟨T12, L12, k12, n12⟩, -, X12, ⟨Lc12, hQ12, l12, y12, z12⟩, st12⟩ := X11.virtualBack hx (y := (⟨"com/example/meticulous_handshake/meticuloushandshake/bisimulation/ArcsByLabel", "source", "(I)I"⟩ : MethodName)) (z := (⟨"com/example/meticulous_handshake/meticuloushandshake/bisimulation/ArcsByLabel", "source", "(I)I"⟩ : MethodName)) hown (mvT hZ (hw _ (List.mem_of_getElem? (i := 58) rfl))) (mvT hZ (hw _ (List.mem_of_getElem? (i := 59) rfl))) (notFace_of_selects (args := #[]) (mvT hZ (hw _ (List.mem_of_getElem? (i := 61) rfl)))) (mvT hZ (hw _ (List.mem_of_getElem? (i := 61) rfl))) (mvT hZ (hw _ (List.mem_of_getElem? (i := 60) rfl))) (by decide) (backOf (W := 0) (rm10 l Z a0 hw [] a (1 : Int32) bS [(.int p2), (.int p4)] 1 p4 T2.heap n0 Z2 O2.2.2.1 O2.2.2.2.2.2.2.2.2.2.1 (by decide) rfl rfl) hZ (hw _ (List.mem_of_getElem? (i := 62) rfl)) (hw _ (List.mem_of_getElem? (i := 2) rfl)) (by decide) (by decide)) qa12 qc12 (g := (mkF m 224 #[.val (.int p1), .val (.int p2), .val (.int p3), .val (.int p4), .val (.int p5), .val (.int (1 : Int32)), .val (.int (1 : Int32)), .val (.int (1 : Int32)), .val (.ref a)] [(.int (1 : Int32)), (.ref a)])) rfl (by rw [hml]; rfl) (Steps.refl _) (argsL := [(.int (1 : Int32))]) (rest := []) (lenOf pd_get rfl) rfl (by show 2 * 0 + _ ≤ _; exact Nat.le_of_eq rfl) (hb hby at_224) (fun _ _ => ⟨rfl, e11, (by decide : 6 + 0 ≤ _), (by decide : 17 + 0 ≤ _)⟩)
    dsimp only [Pt.U, Pt.locs, Pt.cells, Pt.slots] at X12 l12 y12 z12 st12 hQ12
    subst l12 y12 z12
    obtain ⟨rfl, N12q, e12⟩ := hQ12
    have N12 := Fr.app N11 N12q
    obtain ⟨fs, hr, hrun, hended, hW, hsame⟩ := X12.leave (v := some (.int (1 : Int32))) (fun h => by rw [Bd.returns] at h; cases h)
    refine ⟨_, _, pre0 _ (sg0 _ ?_), hrun, hended, _, _, rfl, ?_, ⟨_, rfl⟩, hW, hsame.mono (by decide) (by decide)⟩
    · show Steps p.tables e below (s₁.setTop (mkF m 14 #[.val (.int p1), .val (.int p2), .val (.int p3), .val (.int p4), .val (.int p5), .val (.int (1 : Int32)), .val (.int (1 : Int32)), .unset, .unset] [])) _
      refine XS.iload X0.here hx rfl (hb hby at_14) rfl ?_
      show Steps p.tables e below (s₁.setTop (mkF m 16 #[.val (.int p1), .val (.int p2), .val (.int p3), .val (.int p4), .val (.int p5), .val (.int (1 : Int32)), .val (.int (1 : Int32)), .unset, .unset] [(.int (1 : Int32))])) _
      refine XS.iload X0.here hx rfl (hb hby at_16) rfl ?_
      show Steps p.tables e below (s₁.setTop (mkF m 18 #[.val (.int p1), .val (.int p2), .val (.int p3), .val (.int p4), .val (.int p5), .val (.int (1 : Int32)), .val (.int (1 : Int32)), .unset, .unset] [(.int (1 : Int32)), (.int (1 : Int32))])) _
      refine XS.icmpNo X0.here hx rfl (hb hby at_18) rfl (teq (by decide : (1 : Int32) = (1 : Int32))).2 ?_
      show Steps p.tables e below (s₁.setTop (mkF m 21 #[.val (.int p1), .val (.int p2), .val (.int p3), .val (.int p4), .val (.int p5), .val (.int (1 : Int32)), .val (.int (1 : Int32)), .unset, .unset] [])) _
      refine XS.iconst X0.here hx rfl (hb hby at_21) ?_
      show Steps p.tables e below (s₁.setTop (mkF m 22 #[.val (.int p1), .val (.int p2), .val (.int p3), .val (.int p4), .val (.int p5), .val (.int (1 : Int32)), .val (.int (1 : Int32)), .unset, .unset] [(.int (1 : Int32))])) _
      refine XS.goto X0.here hx rfl (pc0 := 22) (pc' := 26) rfl (hb hby at_22) (by decide) (by decide) ?_
      show Steps p.tables e below (s₁.setTop (mkF m 26 #[.val (.int p1), .val (.int p2), .val (.int p3), .val (.int p4), .val (.int p5), .val (.int (1 : Int32)), .val (.int (1 : Int32)), .unset, .unset] [(.int (1 : Int32))])) _
      refine XS.istore X0.here hx rfl (hb hby at_26) rfl (l' := #[.val (.int p1), .val (.int p2), .val (.int p3), .val (.int p4), .val (.int p5), .val (.int (1 : Int32)), .val (.int (1 : Int32)), .val (.int (1 : Int32)), .unset]) rfl ?_
      show Steps p.tables e below (s₁.setTop (mkF m 28 #[.val (.int p1), .val (.int p2), .val (.int p3), .val (.int p4), .val (.int p5), .val (.int (1 : Int32)), .val (.int (1 : Int32)), .val (.int (1 : Int32)), .unset] [])) _
      refine stO _ ?_
      show Steps p.tables e below (TO.setTop (mkF m 31 #[.val (.int p1), .val (.int p2), .val (.int p3), .val (.int p4), .val (.int p5), .val (.int (1 : Int32)), .val (.int (1 : Int32)), .val (.int (1 : Int32)), .unset] [(.ref a)])) _
      refine XS.dup XO.here hx rfl (hb hby at_31) rfl rfl ?_
      show Steps p.tables e below (TO.setTop (mkF m 32 #[.val (.int p1), .val (.int p2), .val (.int p3), .val (.int p4), .val (.int p5), .val (.int (1 : Int32)), .val (.int (1 : Int32)), .val (.int (1 : Int32)), .unset] [(.ref a), (.ref a)])) _
      refine XS.iconst XO.here hx rfl (hb hby at_32) ?_
      show Steps p.tables e below (TO.setTop (mkF m 33 #[.val (.int p1), .val (.int p2), .val (.int p3), .val (.int p4), .val (.int p5), .val (.int (1 : Int32)), .val (.int (1 : Int32)), .val (.int (1 : Int32)), .unset] [(.int (2 : Int32)), (.ref a), (.ref a)])) _
      refine XS.iconst XO.here hx rfl (hb hby at_33) ?_
      show Steps p.tables e below (TO.setTop (mkF m 34 #[.val (.int p1), .val (.int p2), .val (.int p3), .val (.int p4), .val (.int p5), .val (.int (1 : Int32)), .val (.int (1 : Int32)), .val (.int (1 : Int32)), .unset] [(.int (2 : Int32)), (.int (2 : Int32)), (.ref a), (.ref a)])) _
      refine stC.trans ?_
      show Steps p.tables e below (TC.setTop (mkF m 37 #[.val (.int p1), .val (.int p2), .val (.int p3), .val (.int p4), .val (.int p5), .val (.int (1 : Int32)), .val (.int (1 : Int32)), .val (.int (1 : Int32)), .unset] [(.ref a)])) _
      refine XS.astore XC.here hx rfl (hb hby at_37) rfl rfl (l' := #[.val (.int p1), .val (.int p2), .val (.int p3), .val (.int p4), .val (.int p5), .val (.int (1 : Int32)), .val (.int (1 : Int32)), .val (.int (1 : Int32)), .val (.ref a)]) rfl ?_
      show Steps p.tables e below (TC.setTop (mkF m 39 #[.val (.int p1), .val (.int p2), .val (.int p3), .val (.int p4), .val (.int p5), .val (.int (1 : Int32)), .val (.int (1 : Int32)), .val (.int (1 : Int32)), .val (.ref a)] [])) _
      refine XS.aload XC.here hx rfl (hb hby at_39) rfl rfl ?_
      show Steps p.tables e below (TC.setTop (mkF m 41 #[.val (.int p1), .val (.int p2), .val (.int p3), .val (.int p4), .val (.int p5), .val (.int (1 : Int32)), .val (.int (1 : Int32)), .val (.int (1 : Int32)), .val (.ref a)] [(.ref a)])) _
      refine XS.iloadN XC.here hx rfl (hb hby at_41) rfl ?_
      show Steps p.tables e below (TC.setTop (mkF m 42 #[.val (.int p1), .val (.int p2), .val (.int p3), .val (.int p4), .val (.int p5), .val (.int (1 : Int32)), .val (.int (1 : Int32)), .val (.int (1 : Int32)), .val (.ref a)] [(.int p1), (.ref a)])) _
      refine XS.iloadN XC.here hx rfl (hb hby at_42) rfl ?_
      show Steps p.tables e below (TC.setTop (mkF m 43 #[.val (.int p1), .val (.int p2), .val (.int p3), .val (.int p4), .val (.int p5), .val (.int (1 : Int32)), .val (.int (1 : Int32)), .val (.int (1 : Int32)), .val (.ref a)] [(.int p2), (.int p1), (.ref a)])) _
      refine XS.iload XC.here hx rfl (hb hby at_43) rfl ?_
      show Steps p.tables e below (TC.setTop (mkF m 45 #[.val (.int p1), .val (.int p2), .val (.int p3), .val (.int p4), .val (.int p5), .val (.int (1 : Int32)), .val (.int (1 : Int32)), .val (.int (1 : Int32)), .val (.ref a)] [(.int (1 : Int32)), (.int p2), (.int p1), (.ref a)])) _
      refine st1.trans ?_
      show Steps p.tables e below (T1.setTop (mkF m 48 #[.val (.int p1), .val (.int p2), .val (.int p3), .val (.int p4), .val (.int p5), .val (.int (1 : Int32)), .val (.int (1 : Int32)), .val (.int (1 : Int32)), .val (.ref a)] [])) _
      refine XS.aload X1.here hx rfl (hb hby at_48) rfl rfl ?_
      show Steps p.tables e below (T1.setTop (mkF m 50 #[.val (.int p1), .val (.int p2), .val (.int p3), .val (.int p4), .val (.int p5), .val (.int (1 : Int32)), .val (.int (1 : Int32)), .val (.int (1 : Int32)), .val (.ref a)] [(.ref a)])) _
      refine XS.iloadN X1.here hx rfl (hb hby at_50) rfl ?_
      show Steps p.tables e below (T1.setTop (mkF m 51 #[.val (.int p1), .val (.int p2), .val (.int p3), .val (.int p4), .val (.int p5), .val (.int (1 : Int32)), .val (.int (1 : Int32)), .val (.int (1 : Int32)), .val (.ref a)] [(.int p3), (.ref a)])) _
      refine XS.iloadN X1.here hx rfl (hb hby at_51) rfl ?_
      show Steps p.tables e below (T1.setTop (mkF m 52 #[.val (.int p1), .val (.int p2), .val (.int p3), .val (.int p4), .val (.int p5), .val (.int (1 : Int32)), .val (.int (1 : Int32)), .val (.int (1 : Int32)), .val (.ref a)] [(.int p4), (.int p3), (.ref a)])) _
      refine XS.iload X1.here hx rfl (hb hby at_52) rfl ?_
      show Steps p.tables e below (T1.setTop (mkF m 54 #[.val (.int p1), .val (.int p2), .val (.int p3), .val (.int p4), .val (.int p5), .val (.int (1 : Int32)), .val (.int (1 : Int32)), .val (.int (1 : Int32)), .val (.ref a)] [(.int (1 : Int32)), (.int p4), (.int p3), (.ref a)])) _
      refine st2.trans ?_
      show Steps p.tables e below (T2.setTop (mkF m 57 #[.val (.int p1), .val (.int p2), .val (.int p3), .val (.int p4), .val (.int p5), .val (.int (1 : Int32)), .val (.int (1 : Int32)), .val (.int (1 : Int32)), .val (.ref a)] [])) _
      refine XS.aload X2.here hx rfl (hb hby at_57) rfl rfl ?_
      show Steps p.tables e below (T2.setTop (mkF m 59 #[.val (.int p1), .val (.int p2), .val (.int p3), .val (.int p4), .val (.int p5), .val (.int (1 : Int32)), .val (.int (1 : Int32)), .val (.int (1 : Int32)), .val (.ref a)] [(.ref a)])) _
      refine st3.trans ?_
      show Steps p.tables e below (T3.setTop (mkF m 62 #[.val (.int p1), .val (.int p2), .val (.int p3), .val (.int p4), .val (.int p5), .val (.int (1 : Int32)), .val (.int (1 : Int32)), .val (.int (1 : Int32)), .val (.ref a)] [(.int (1 : Int32))])) _
      refine XS.iload X3.here hx rfl (hb hby at_62) rfl ?_
      show Steps p.tables e below (T3.setTop (mkF m 64 #[.val (.int p1), .val (.int p2), .val (.int p3), .val (.int p4), .val (.int p5), .val (.int (1 : Int32)), .val (.int (1 : Int32)), .val (.int (1 : Int32)), .val (.ref a)] [(.int (1 : Int32)), (.int (1 : Int32))])) _
      refine XS.ifNo X3.here hx rfl (hb hby at_64) rfl ((if0 _ _).trans (feq (by decide : ¬ ((1 : Int32) = (0 : Int32)))).1) ?_
      show Steps p.tables e below (T3.setTop (mkF m 67 #[.val (.int p1), .val (.int p2), .val (.int p3), .val (.int p4), .val (.int p5), .val (.int (1 : Int32)), .val (.int (1 : Int32)), .val (.int (1 : Int32)), .val (.ref a)] [(.int (1 : Int32))])) _
      refine XS.iconst X3.here hx rfl (hb hby at_67) ?_
      show Steps p.tables e below (T3.setTop (mkF m 68 #[.val (.int p1), .val (.int p2), .val (.int p3), .val (.int p4), .val (.int p5), .val (.int (1 : Int32)), .val (.int (1 : Int32)), .val (.int (1 : Int32)), .val (.ref a)] [(.int (1 : Int32)), (.int (1 : Int32))])) _
      refine XS.goto X3.here hx rfl (pc0 := 68) (pc' := 72) rfl (hb hby at_68) (by decide) (by decide) ?_
      show Steps p.tables e below (T3.setTop (mkF m 72 #[.val (.int p1), .val (.int p2), .val (.int p3), .val (.int p4), .val (.int p5), .val (.int (1 : Int32)), .val (.int (1 : Int32)), .val (.int (1 : Int32)), .val (.ref a)] [(.int (1 : Int32)), (.int (1 : Int32))])) _
      refine XS.icmpYes X3.here hx rfl (pc0 := 72) (pc' := 77) rfl (hb hby at_72) rfl (teq (by decide : (1 : Int32) = (1 : Int32))).1 (by decide) (by decide) ?_
      show Steps p.tables e below (T3.setTop (mkF m 77 #[.val (.int p1), .val (.int p2), .val (.int p3), .val (.int p4), .val (.int p5), .val (.int (1 : Int32)), .val (.int (1 : Int32)), .val (.int (1 : Int32)), .val (.ref a)] [])) _
      refine XS.aload X3.here hx rfl (hb hby at_77) rfl rfl ?_
      show Steps p.tables e below (T3.setTop (mkF m 79 #[.val (.int p1), .val (.int p2), .val (.int p3), .val (.int p4), .val (.int p5), .val (.int (1 : Int32)), .val (.int (1 : Int32)), .val (.int (1 : Int32)), .val (.ref a)] [(.ref a)])) _
      refine XS.iconst X3.here hx rfl (hb hby at_79) ?_
      show Steps p.tables e below (T3.setTop (mkF m 80 #[.val (.int p1), .val (.int p2), .val (.int p3), .val (.int p4), .val (.int p5), .val (.int (1 : Int32)), .val (.int (1 : Int32)), .val (.int (1 : Int32)), .val (.ref a)] [(.int (0 : Int32)), (.ref a)])) _
      refine st4.trans ?_
      show Steps p.tables e below (T4.setTop (mkF m 83 #[.val (.int p1), .val (.int p2), .val (.int p3), .val (.int p4), .val (.int p5), .val (.int (1 : Int32)), .val (.int (1 : Int32)), .val (.int (1 : Int32)), .val (.ref a)] [(.int (1 : Int32))])) _
      refine XS.iload X4.here hx rfl (hb hby at_83) rfl ?_
      show Steps p.tables e below (T4.setTop (mkF m 85 #[.val (.int p1), .val (.int p2), .val (.int p3), .val (.int p4), .val (.int p5), .val (.int (1 : Int32)), .val (.int (1 : Int32)), .val (.int (1 : Int32)), .val (.ref a)] [(.int (1 : Int32)), (.int (1 : Int32))])) _
      refine XS.icmpYes X4.here hx rfl (pc0 := 85) (pc' := 90) rfl (hb hby at_85) rfl (teq (by decide : (1 : Int32) = (1 : Int32))).1 (by decide) (by decide) ?_
      show Steps p.tables e below (T4.setTop (mkF m 90 #[.val (.int p1), .val (.int p2), .val (.int p3), .val (.int p4), .val (.int p5), .val (.int (1 : Int32)), .val (.int (1 : Int32)), .val (.int (1 : Int32)), .val (.ref a)] [])) _
      refine XS.iload X4.here hx rfl (hb hby at_90) rfl ?_
      show Steps p.tables e below (T4.setTop (mkF m 92 #[.val (.int p1), .val (.int p2), .val (.int p3), .val (.int p4), .val (.int p5), .val (.int (1 : Int32)), .val (.int (1 : Int32)), .val (.int (1 : Int32)), .val (.ref a)] [(.int (1 : Int32))])) _
      refine XS.ifYes X4.here hx rfl (pc0 := 92) (pc' := 108) rfl (hb hby at_92) rfl ((if0 _ _).trans (feq (by decide : ¬ ((1 : Int32) = (0 : Int32)))).2) (by decide) (by decide) ?_
      show Steps p.tables e below (T4.setTop (mkF m 108 #[.val (.int p1), .val (.int p2), .val (.int p3), .val (.int p4), .val (.int p5), .val (.int (1 : Int32)), .val (.int (1 : Int32)), .val (.int (1 : Int32)), .val (.ref a)] [])) _
      refine XS.aload X4.here hx rfl (hb hby at_108) rfl rfl ?_
      show Steps p.tables e below (T4.setTop (mkF m 110 #[.val (.int p1), .val (.int p2), .val (.int p3), .val (.int p4), .val (.int p5), .val (.int (1 : Int32)), .val (.int (1 : Int32)), .val (.int (1 : Int32)), .val (.ref a)] [(.ref a)])) _
      refine XS.iload X4.here hx rfl (hb hby at_110) rfl ?_
      show Steps p.tables e below (T4.setTop (mkF m 112 #[.val (.int p1), .val (.int p2), .val (.int p3), .val (.int p4), .val (.int p5), .val (.int (1 : Int32)), .val (.int (1 : Int32)), .val (.int (1 : Int32)), .val (.ref a)] [(.int (1 : Int32)), (.ref a)])) _
      refine st5.trans ?_
      show Steps p.tables e below (T5.setTop (mkF m 115 #[.val (.int p1), .val (.int p2), .val (.int p3), .val (.int p4), .val (.int p5), .val (.int (1 : Int32)), .val (.int (1 : Int32)), .val (.int (1 : Int32)), .val (.ref a)] [(.int (1 : Int32))])) _
      refine XS.iconst X5.here hx rfl (hb hby at_115) ?_
      show Steps p.tables e below (T5.setTop (mkF m 116 #[.val (.int p1), .val (.int p2), .val (.int p3), .val (.int p4), .val (.int p5), .val (.int (1 : Int32)), .val (.int (1 : Int32)), .val (.int (1 : Int32)), .val (.ref a)] [(.int (1 : Int32)), (.int (1 : Int32))])) _
      refine XS.icmpYes X5.here hx rfl (pc0 := 116) (pc' := 121) rfl (hb hby at_116) rfl (teq (by decide : (1 : Int32) = (1 : Int32))).1 (by decide) (by decide) ?_
      show Steps p.tables e below (T5.setTop (mkF m 121 #[.val (.int p1), .val (.int p2), .val (.int p3), .val (.int p4), .val (.int p5), .val (.int (1 : Int32)), .val (.int (1 : Int32)), .val (.int (1 : Int32)), .val (.ref a)] [])) _
      refine XS.iload X5.here hx rfl (hb hby at_121) rfl ?_
      show Steps p.tables e below (T5.setTop (mkF m 123 #[.val (.int p1), .val (.int p2), .val (.int p3), .val (.int p4), .val (.int p5), .val (.int (1 : Int32)), .val (.int (1 : Int32)), .val (.int (1 : Int32)), .val (.ref a)] [(.int (1 : Int32))])) _
      refine XS.ifYes X5.here hx rfl (pc0 := 123) (pc' := 138) rfl (hb hby at_123) rfl ((if0 _ _).trans (feq (by decide : ¬ ((1 : Int32) = (0 : Int32)))).2) (by decide) (by decide) ?_
      show Steps p.tables e below (T5.setTop (mkF m 138 #[.val (.int p1), .val (.int p2), .val (.int p3), .val (.int p4), .val (.int p5), .val (.int (1 : Int32)), .val (.int (1 : Int32)), .val (.int (1 : Int32)), .val (.ref a)] [])) _
      refine XS.iload X5.here hx rfl (hb hby at_138) rfl ?_
      show Steps p.tables e below (T5.setTop (mkF m 140 #[.val (.int p1), .val (.int p2), .val (.int p3), .val (.int p4), .val (.int p5), .val (.int (1 : Int32)), .val (.int (1 : Int32)), .val (.int (1 : Int32)), .val (.ref a)] [(.int (1 : Int32))])) _
      refine XS.ifNo X5.here hx rfl (hb hby at_140) rfl ((if0 _ _).trans (feq (by decide : ¬ ((1 : Int32) = (0 : Int32)))).1) ?_
      show Steps p.tables e below (T5.setTop (mkF m 143 #[.val (.int p1), .val (.int p2), .val (.int p3), .val (.int p4), .val (.int p5), .val (.int (1 : Int32)), .val (.int (1 : Int32)), .val (.int (1 : Int32)), .val (.ref a)] [])) _
      refine XS.aload X5.here hx rfl (hb hby at_143) rfl rfl ?_
      show Steps p.tables e below (T5.setTop (mkF m 145 #[.val (.int p1), .val (.int p2), .val (.int p3), .val (.int p4), .val (.int p5), .val (.int (1 : Int32)), .val (.int (1 : Int32)), .val (.int (1 : Int32)), .val (.ref a)] [(.ref a)])) _
      refine XS.iconst X5.here hx rfl (hb hby at_145) ?_
      show Steps p.tables e below (T5.setTop (mkF m 146 #[.val (.int p1), .val (.int p2), .val (.int p3), .val (.int p4), .val (.int p5), .val (.int (1 : Int32)), .val (.int (1 : Int32)), .val (.int (1 : Int32)), .val (.ref a)] [(.int (1 : Int32)), (.ref a)])) _
      refine XS.iload X5.here hx rfl (hb hby at_146) rfl ?_
      show Steps p.tables e below (T5.setTop (mkF m 148 #[.val (.int p1), .val (.int p2), .val (.int p3), .val (.int p4), .val (.int p5), .val (.int (1 : Int32)), .val (.int (1 : Int32)), .val (.int (1 : Int32)), .val (.ref a)] [(.int (1 : Int32)), (.int (1 : Int32)), (.ref a)])) _
      refine XS.isub X5.here hx rfl (hb hby at_148) rfl ?_
      show Steps p.tables e below (T5.setTop (mkF m 149 #[.val (.int p1), .val (.int p2), .val (.int p3), .val (.int p4), .val (.int p5), .val (.int (1 : Int32)), .val (.int (1 : Int32)), .val (.int (1 : Int32)), .val (.ref a)] [(.int (0 : Int32)), (.ref a)])) _
      refine st6.trans ?_
      show Steps p.tables e below (T6.setTop (mkF m 152 #[.val (.int p1), .val (.int p2), .val (.int p3), .val (.int p4), .val (.int p5), .val (.int (1 : Int32)), .val (.int (1 : Int32)), .val (.int (1 : Int32)), .val (.ref a)] [(.int (-1 : Int32))])) _
      refine XS.iconst X6.here hx rfl (hb hby at_152) ?_
      show Steps p.tables e below (T6.setTop (mkF m 153 #[.val (.int p1), .val (.int p2), .val (.int p3), .val (.int p4), .val (.int p5), .val (.int (1 : Int32)), .val (.int (1 : Int32)), .val (.int (1 : Int32)), .val (.ref a)] [(.int (-1 : Int32)), (.int (-1 : Int32))])) _
      refine XS.icmpYes X6.here hx rfl (pc0 := 153) (pc' := 158) rfl (hb hby at_153) rfl (teq (by decide : (-1 : Int32) = (-1 : Int32))).1 (by decide) (by decide) ?_
      show Steps p.tables e below (T6.setTop (mkF m 158 #[.val (.int p1), .val (.int p2), .val (.int p3), .val (.int p4), .val (.int p5), .val (.int (1 : Int32)), .val (.int (1 : Int32)), .val (.int (1 : Int32)), .val (.ref a)] [])) _
      refine XS.aload X6.here hx rfl (hb hby at_158) rfl rfl ?_
      show Steps p.tables e below (T6.setTop (mkF m 160 #[.val (.int p1), .val (.int p2), .val (.int p3), .val (.int p4), .val (.int p5), .val (.int (1 : Int32)), .val (.int (1 : Int32)), .val (.int (1 : Int32)), .val (.ref a)] [(.ref a)])) _
      refine XS.iconst X6.here hx rfl (hb hby at_160) ?_
      show Steps p.tables e below (T6.setTop (mkF m 161 #[.val (.int p1), .val (.int p2), .val (.int p3), .val (.int p4), .val (.int p5), .val (.int (1 : Int32)), .val (.int (1 : Int32)), .val (.int (1 : Int32)), .val (.ref a)] [(.int (1 : Int32)), (.ref a)])) _
      refine st7.trans ?_
      show Steps p.tables e below (T7.setTop (mkF m 164 #[.val (.int p1), .val (.int p2), .val (.int p3), .val (.int p4), .val (.int p5), .val (.int (1 : Int32)), .val (.int (1 : Int32)), .val (.int (1 : Int32)), .val (.ref a)] [(.int (0 : Int32))])) _
      refine XS.iload X7.here hx rfl (hb hby at_164) rfl ?_
      show Steps p.tables e below (T7.setTop (mkF m 166 #[.val (.int p1), .val (.int p2), .val (.int p3), .val (.int p4), .val (.int p5), .val (.int (1 : Int32)), .val (.int (1 : Int32)), .val (.int (1 : Int32)), .val (.ref a)] [(.int (1 : Int32)), (.int (0 : Int32))])) _
      refine XS.ifNo X7.here hx rfl (hb hby at_166) rfl ((if0 _ _).trans (feq (by decide : ¬ ((1 : Int32) = (0 : Int32)))).1) ?_
      show Steps p.tables e below (T7.setTop (mkF m 169 #[.val (.int p1), .val (.int p2), .val (.int p3), .val (.int p4), .val (.int p5), .val (.int (1 : Int32)), .val (.int (1 : Int32)), .val (.int (1 : Int32)), .val (.ref a)] [(.int (0 : Int32))])) _
      refine XS.iconst X7.here hx rfl (hb hby at_169) ?_
      show Steps p.tables e below (T7.setTop (mkF m 170 #[.val (.int p1), .val (.int p2), .val (.int p3), .val (.int p4), .val (.int p5), .val (.int (1 : Int32)), .val (.int (1 : Int32)), .val (.int (1 : Int32)), .val (.ref a)] [(.int (0 : Int32)), (.int (0 : Int32))])) _
      refine XS.goto X7.here hx rfl (pc0 := 170) (pc' := 174) rfl (hb hby at_170) (by decide) (by decide) ?_
      show Steps p.tables e below (T7.setTop (mkF m 174 #[.val (.int p1), .val (.int p2), .val (.int p3), .val (.int p4), .val (.int p5), .val (.int (1 : Int32)), .val (.int (1 : Int32)), .val (.int (1 : Int32)), .val (.ref a)] [(.int (0 : Int32)), (.int (0 : Int32))])) _
      refine XS.icmpYes X7.here hx rfl (pc0 := 174) (pc' := 179) rfl (hb hby at_174) rfl (teq (by decide : (0 : Int32) = (0 : Int32))).1 (by decide) (by decide) ?_
      show Steps p.tables e below (T7.setTop (mkF m 179 #[.val (.int p1), .val (.int p2), .val (.int p3), .val (.int p4), .val (.int p5), .val (.int (1 : Int32)), .val (.int (1 : Int32)), .val (.int (1 : Int32)), .val (.ref a)] [])) _
      refine XS.aload X7.here hx rfl (hb hby at_179) rfl rfl ?_
      show Steps p.tables e below (T7.setTop (mkF m 181 #[.val (.int p1), .val (.int p2), .val (.int p3), .val (.int p4), .val (.int p5), .val (.int (1 : Int32)), .val (.int (1 : Int32)), .val (.int (1 : Int32)), .val (.ref a)] [(.ref a)])) _
      refine XS.iconst X7.here hx rfl (hb hby at_181) ?_
      show Steps p.tables e below (T7.setTop (mkF m 182 #[.val (.int p1), .val (.int p2), .val (.int p3), .val (.int p4), .val (.int p5), .val (.int (1 : Int32)), .val (.int (1 : Int32)), .val (.int (1 : Int32)), .val (.ref a)] [(.int (0 : Int32)), (.ref a)])) _
      refine st8.trans ?_
      show Steps p.tables e below (T8.setTop (mkF m 185 #[.val (.int p1), .val (.int p2), .val (.int p3), .val (.int p4), .val (.int p5), .val (.int (1 : Int32)), .val (.int (1 : Int32)), .val (.int (1 : Int32)), .val (.ref a)] [(.int (-1 : Int32))])) _
      refine XS.iconst X8.here hx rfl (hb hby at_185) ?_
      show Steps p.tables e below (T8.setTop (mkF m 186 #[.val (.int p1), .val (.int p2), .val (.int p3), .val (.int p4), .val (.int p5), .val (.int (1 : Int32)), .val (.int (1 : Int32)), .val (.int (1 : Int32)), .val (.ref a)] [(.int (-1 : Int32)), (.int (-1 : Int32))])) _
      refine XS.icmpYes X8.here hx rfl (pc0 := 186) (pc' := 191) rfl (hb hby at_186) rfl (teq (by decide : (-1 : Int32) = (-1 : Int32))).1 (by decide) (by decide) ?_
      show Steps p.tables e below (T8.setTop (mkF m 191 #[.val (.int p1), .val (.int p2), .val (.int p3), .val (.int p4), .val (.int p5), .val (.int (1 : Int32)), .val (.int (1 : Int32)), .val (.int (1 : Int32)), .val (.ref a)] [])) _
      refine XS.aload X8.here hx rfl (hb hby at_191) rfl rfl ?_
      show Steps p.tables e below (T8.setTop (mkF m 193 #[.val (.int p1), .val (.int p2), .val (.int p3), .val (.int p4), .val (.int p5), .val (.int (1 : Int32)), .val (.int (1 : Int32)), .val (.int (1 : Int32)), .val (.ref a)] [(.ref a)])) _
      refine XS.iconst X8.here hx rfl (hb hby at_193) ?_
      show Steps p.tables e below (T8.setTop (mkF m 194 #[.val (.int p1), .val (.int p2), .val (.int p3), .val (.int p4), .val (.int p5), .val (.int (1 : Int32)), .val (.int (1 : Int32)), .val (.int (1 : Int32)), .val (.ref a)] [(.int (0 : Int32)), (.ref a)])) _
      refine st9.trans ?_
      show Steps p.tables e below (T9.setTop (mkF m 197 #[.val (.int p1), .val (.int p2), .val (.int p3), .val (.int p4), .val (.int p5), .val (.int (1 : Int32)), .val (.int (1 : Int32)), .val (.int (1 : Int32)), .val (.ref a)] [(.int p1)])) _
      refine XS.iloadN X9.here hx rfl (hb hby at_197) rfl ?_
      show Steps p.tables e below (T9.setTop (mkF m 198 #[.val (.int p1), .val (.int p2), .val (.int p3), .val (.int p4), .val (.int p5), .val (.int (1 : Int32)), .val (.int (1 : Int32)), .val (.int (1 : Int32)), .val (.ref a)] [(.int p1), (.int p1)])) _
      refine XS.icmpNo X9.here hx rfl (hb hby at_198) rfl (teq (rfl : p1 = p1)).2 ?_
      show Steps p.tables e below (T9.setTop (mkF m 201 #[.val (.int p1), .val (.int p2), .val (.int p3), .val (.int p4), .val (.int p5), .val (.int (1 : Int32)), .val (.int (1 : Int32)), .val (.int (1 : Int32)), .val (.ref a)] [])) _
      refine XS.aload X9.here hx rfl (hb hby at_201) rfl rfl ?_
      show Steps p.tables e below (T9.setTop (mkF m 203 #[.val (.int p1), .val (.int p2), .val (.int p3), .val (.int p4), .val (.int p5), .val (.int (1 : Int32)), .val (.int (1 : Int32)), .val (.int (1 : Int32)), .val (.ref a)] [(.ref a)])) _
      refine XS.iconst X9.here hx rfl (hb hby at_203) ?_
      show Steps p.tables e below (T9.setTop (mkF m 204 #[.val (.int p1), .val (.int p2), .val (.int p3), .val (.int p4), .val (.int p5), .val (.int (1 : Int32)), .val (.int (1 : Int32)), .val (.int (1 : Int32)), .val (.ref a)] [(.int (0 : Int32)), (.ref a)])) _
      refine st10.trans ?_
      show Steps p.tables e below (T10.setTop (mkF m 207 #[.val (.int p1), .val (.int p2), .val (.int p3), .val (.int p4), .val (.int p5), .val (.int (1 : Int32)), .val (.int (1 : Int32)), .val (.int (1 : Int32)), .val (.ref a)] [(.int p2)])) _
      refine XS.iloadN X10.here hx rfl (hb hby at_207) rfl ?_
      show Steps p.tables e below (T10.setTop (mkF m 208 #[.val (.int p1), .val (.int p2), .val (.int p3), .val (.int p4), .val (.int p5), .val (.int (1 : Int32)), .val (.int (1 : Int32)), .val (.int (1 : Int32)), .val (.ref a)] [(.int p2), (.int p2)])) _
      refine XS.icmpNo X10.here hx rfl (hb hby at_208) rfl (teq (rfl : p2 = p2)).2 ?_
      show Steps p.tables e below (T10.setTop (mkF m 211 #[.val (.int p1), .val (.int p2), .val (.int p3), .val (.int p4), .val (.int p5), .val (.int (1 : Int32)), .val (.int (1 : Int32)), .val (.int (1 : Int32)), .val (.ref a)] [])) _
      refine XS.aload X10.here hx rfl (hb hby at_211) rfl rfl ?_
      show Steps p.tables e below (T10.setTop (mkF m 213 #[.val (.int p1), .val (.int p2), .val (.int p3), .val (.int p4), .val (.int p5), .val (.int (1 : Int32)), .val (.int (1 : Int32)), .val (.int (1 : Int32)), .val (.ref a)] [(.ref a)])) _
      refine XS.iconst X10.here hx rfl (hb hby at_213) ?_
      show Steps p.tables e below (T10.setTop (mkF m 214 #[.val (.int p1), .val (.int p2), .val (.int p3), .val (.int p4), .val (.int p5), .val (.int (1 : Int32)), .val (.int (1 : Int32)), .val (.int (1 : Int32)), .val (.ref a)] [(.int (1 : Int32)), (.ref a)])) _
      refine st11.trans ?_
      show Steps p.tables e below (T11.setTop (mkF m 217 #[.val (.int p1), .val (.int p2), .val (.int p3), .val (.int p4), .val (.int p5), .val (.int (1 : Int32)), .val (.int (1 : Int32)), .val (.int (1 : Int32)), .val (.ref a)] [(.int p3)])) _
      refine XS.iloadN X11.here hx rfl (hb hby at_217) rfl ?_
      show Steps p.tables e below (T11.setTop (mkF m 218 #[.val (.int p1), .val (.int p2), .val (.int p3), .val (.int p4), .val (.int p5), .val (.int (1 : Int32)), .val (.int (1 : Int32)), .val (.int (1 : Int32)), .val (.ref a)] [(.int p3), (.int p3)])) _
      refine XS.icmpNo X11.here hx rfl (hb hby at_218) rfl (teq (rfl : p3 = p3)).2 ?_
      show Steps p.tables e below (T11.setTop (mkF m 221 #[.val (.int p1), .val (.int p2), .val (.int p3), .val (.int p4), .val (.int p5), .val (.int (1 : Int32)), .val (.int (1 : Int32)), .val (.int (1 : Int32)), .val (.ref a)] [])) _
      refine XS.aload X11.here hx rfl (hb hby at_221) rfl rfl ?_
      show Steps p.tables e below (T11.setTop (mkF m 223 #[.val (.int p1), .val (.int p2), .val (.int p3), .val (.int p4), .val (.int p5), .val (.int (1 : Int32)), .val (.int (1 : Int32)), .val (.int (1 : Int32)), .val (.ref a)] [(.ref a)])) _
      refine XS.iconst X11.here hx rfl (hb hby at_223) ?_
      show Steps p.tables e below (T11.setTop (mkF m 224 #[.val (.int p1), .val (.int p2), .val (.int p3), .val (.int p4), .val (.int p5), .val (.int (1 : Int32)), .val (.int (1 : Int32)), .val (.int (1 : Int32)), .val (.ref a)] [(.int (1 : Int32)), (.ref a)])) _
      refine st12.trans ?_
      show Steps p.tables e below (T12.setTop (mkF m 227 #[.val (.int p1), .val (.int p2), .val (.int p3), .val (.int p4), .val (.int p5), .val (.int (1 : Int32)), .val (.int (1 : Int32)), .val (.int (1 : Int32)), .val (.ref a)] [(.int p4)])) _
      refine XS.iloadN X12.here hx rfl (hb hby at_227) rfl ?_
      show Steps p.tables e below (T12.setTop (mkF m 228 #[.val (.int p1), .val (.int p2), .val (.int p3), .val (.int p4), .val (.int p5), .val (.int (1 : Int32)), .val (.int (1 : Int32)), .val (.int (1 : Int32)), .val (.ref a)] [(.int p4), (.int p4)])) _
      refine XS.icmpNo X12.here hx rfl (hb hby at_228) rfl (teq (rfl : p4 = p4)).2 ?_
      show Steps p.tables e below (T12.setTop (mkF m 231 #[.val (.int p1), .val (.int p2), .val (.int p3), .val (.int p4), .val (.int p5), .val (.int (1 : Int32)), .val (.int (1 : Int32)), .val (.int (1 : Int32)), .val (.ref a)] [])) _
      refine XS.iconst X12.here hx rfl (hb hby at_231) ?_
      show Steps p.tables e below (T12.setTop (mkF m 232 #[.val (.int p1), .val (.int p2), .val (.int p3), .val (.int p4), .val (.int p5), .val (.int (1 : Int32)), .val (.int (1 : Int32)), .val (.int (1 : Int32)), .val (.ref a)] [(.int (1 : Int32))])) _
      refine XS.goto X12.here hx rfl (pc0 := 232) (pc' := 236) rfl (hb hby at_232) (by decide) (by decide) ?_
      show Steps p.tables e below (T12.setTop (mkF m 236 #[.val (.int p1), .val (.int p2), .val (.int p3), .val (.int p4), .val (.int p5), .val (.int (1 : Int32)), .val (.int (1 : Int32)), .val (.int (1 : Int32)), .val (.ref a)] [(.int (1 : Int32))])) _
      exact retN X12 hx (t := .boolean) Bd.returns (by simp) (hb hby at_236) hr
    · exact ⟨rfl, N12⟩
set_option maxRecDepth 65536 in
set_option maxHeartbeats 40000000 in
theorem comes_1 {Post : Tables → Env → Array Value → State → Outcome → State → Prop} (hpost : ∀ tb e args s v u, (limb_1_1.after args s (.returned v) u = true ∧ limb_1_2.after args s (.returned v) u = true ∧ True) → FrameEnd s (.returned v) u (Jvm.fieldLocs frame_1_writes args s ++ Jvm.arrayLocs frame_1_arrays args s ++ Jvm.staticLocs frame_1_statics s) 24 128 → Post tb e args s (.returned v) u) :
    ArmFor flags0 classFile x code maxLocals ret World_1 tables_1 room_1 Calls_1 rest_1 Pre_1 Post := by
  intro l hfl _ _ p e ha hc hk s m args below hf hA hF happ hP
  obtain ⟨hcalls, hrest, hpre⟩ := hP
  obtain ⟨-, -, -, hnamed, -, -, -, hat⟩ := (Spec.applies_iff hf).mp happ
  obtain ⟨hg, hn⟩ := and_e (Cond.before_iff.mp (show (Jvm.Cond.and given_1 narrow_1).before args s = true from hpre))
  obtain ⟨g1, c0⟩ := and_e hg
  obtain ⟨b0, c1⟩ := and_e c0
  obtain ⟨b1, c2⟩ := and_e c1
  obtain ⟨b2, c3⟩ := and_e c2
  obtain ⟨b3, c4⟩ := and_e c3
  obtain ⟨w0, w1, w2, w3, w4, rfl⟩ : ∃ w0 w1 w2 w3 w4 : Value, args = #[w0, w1, w2, w3, w4] := by
    have hs : args.size = 5 := by simpa [Cond.value, given_1] using g1
    obtain ⟨L⟩ := args
    match L, hs with
    | [w0, w1, w2, w3, w4], _ => exact ⟨w0, w1, w2, w3, w4, rfl⟩
  have hw := fun d (hd : d ∈ tables_1) => atoms_spec (ws := Jvm.Cond.code x code maxLocals ret :: tables_1) hat d (List.mem_cons_of_mem _ hd)
  obtain ⟨i0, ee0⟩ := is_v b0
  obtain rfl : w0 = (.int i0) := Option.some.inj ee0
  obtain ⟨i1, ee1⟩ := is_v b1
  obtain rfl : w1 = (.int i1) := Option.some.inj ee1
  obtain ⟨i2, ee2⟩ := is_v b2
  obtain rfl : w2 = (.int i2) := Option.some.inj ee2
  obtain ⟨i3, ee3⟩ := is_v b3
  obtain rfl : w3 = (.int i3) := Option.some.inj ee3
  obtain ⟨i4, ee4⟩ := is_v c4
  obtain rfl : w4 = (.int i4) := Option.some.inj ee4
  obtain ⟨n, o, h1, h2, h3, _, L, rfl, ⟨rfl, N⟩, hq⟩ := rm0 l s _ hw tables_1 i0 i1 i2 i3 i4 s.heap s.heap.size (Nat.le_refl _) p e ha hc hk s m _ below hf ((Spec.applies_iff_loose hf).mp happ).1 ⟨rfl, State.Warmed39.refl s, rfl⟩ trivial
  refine ⟨n, _, h1, h2, h3, hpost _ _ _ _ _ _ ⟨Cond.after_iff.mpr rfl, Cond.after_iff.mpr (eq_i res_at (Term.int_eval (1)) rfl), trivial⟩ ⟨hq.1, hq.2.1, (hq.2.2.sift fun y hy => Or.inr (N y hy)).mono (by decide) (by decide)⟩⟩
theorem main_1_1 : Claimed_1_1 := comes_1 fun _ _ _ _ _ _ h hF => ⟨h.1, hF⟩
theorem main_1_2 : Claimed_1_2 := comes_1 fun _ _ _ _ _ _ h hF => ⟨h.2.1, hF⟩
end Jvm.Pilot.@@N@@
namespace Jvm.Pilot.@@N@@
open Jvm Jvm.ClassFile Sem Op Lib Jvm.Free Jvm.Stand Jvm.Pilot.@@N@@.Jvm.D
/-! MADE BY PROGRAM (witnessworld.py) out of the Statement's table words and the real class files: 10 classes; the members and pool entries that the words name. The judged class is class 1, her method 1. -/
namespace start1
open Jvm.ClassFile
def u (s : String) : CpInfo := .utf8 (stringToUtf16 s)
/-- a pool by its gaps: so many unusable entries, then the entry; so many at the end -/
def gap : Nat → List CpInfo → List CpInfo
  | 0, r => r
  | n + 1, r => .unusable :: gap n r
def poolList (es : List (Nat × CpInfo)) (last : Nat) : List CpInfo := es.foldr (fun e r => gap e.1 (e.2 :: r)) (gap last [])
def pool (es : List (Nat × CpInfo)) (last : Nat) : Array CpInfo := ⟨poolList es last⟩
def fileOf (pool : Array CpInfo) (this : Nat) (attrs : Array Attribute := #[]) (ms : Array MethodInfo := #[]) (fl : Nat := 33) (sup : Nat := 0) (ifs : Array Nat := #[]) (fds : Array FieldInfo := #[]) : ClassFile where
  minorVersion := 0
  majorVersion := 65
  constantPool := pool
  accessFlags := fl
  thisClass := this
  superClass := sup
  interfaces := ifs
  fields := fds
  methods := ms
  attributes := attrs
def plain (name : String) (sup : Option ClassId) : Class where
  name := name
  kind := .ordinary
  loader := none
  accessFlags := 33
  super := sup
  interfaces := #[]
  cf := none
  fields := #[]
  methods := #[]
  instanceTypes := #[]
  staticTypes := #[]
  resolved := #[]
  callSites := []
  init := .initialized
  statics := none
  mirror := none

def pool0 : Array CpInfo := pool [(5, u "<init>"), (0, u "()V"), (1, .class_ 10), (1, u "java/lang/Object")] 113

def k0c0 : Code := { maxStack := 0, maxLocals := 1, code := object_method_1_code, exceptionTable := #[], attributes := #[] }
def k0m0 : Method := { name := "<init>", desc := "()V", sig := { parameters := [], returnType := none }, accessFlags := 1, code := some k0c0 }
/-- java/lang/Object -/
def k0 : Class := { plain "java/lang/Object" none with
  accessFlags := 33
  interfaces := #[]
  cf := some (fileOf pool0 8 #[] #[{ accessFlags := 1, nameIndex := 5, descriptorIndex := 6, attributes := #[] }] 33 0 #[] #[])
  fields := #[]
  methods := #[k0m0]
  instanceTypes := #[]
  staticTypes := #[]
  resolved := Array.replicate 124 none
  statics := none }

def pool1 : Array CpInfo := pool [(2, .class_ 4), (1, u "java/lang/Object"), (0, u "<init>"), (0, u "()V"), (0, .class_ 8), (0, u "com/example/meticulous_handshake/meticuloushandshake/bisimulation/ArcsByLabel"), (0, .methodref 7 10), (0, .nameAndType 5 11), (0, u "(II)V"), (0, .methodref 7 13), (0, .nameAndType 14 15), (0, u "add"), (0, u "(III)V"), (0, .methodref 7 17), (0, .nameAndType 18 19), (0, u "labelCount"), (0, u "()I"), (0, .methodref 7 21), (0, .nameAndType 22 23), (0, u "label"), (0, u "(I)I"), (0, .methodref 7 25), (0, .nameAndType 26 23), (0, u "first"), (0, .methodref 7 28), (0, .nameAndType 29 23), (0, u "next"), (0, .methodref 7 31), (0, .nameAndType 32 23), (0, u "arc"), (0, .methodref 7 34), (0, .nameAndType 35 23), (0, u "source"), (0, .class_ 37), (0, u "com/example/meticulous_handshake/meticuloushandshake/bisimulation/ArcsByLabelAddPinLaw"), (2, u "law"), (0, u "(IIIII)Z")] 3

def k1m0 : Method := { name := "<init>", desc := "()V", sig := { parameters := [], returnType := none }, accessFlags := 1, code := none }
def k1c1 : Code := { maxStack := 4, maxLocals := 9, code := code, exceptionTable := #[], attributes := #[] }
def k1m1 : Method := { name := "law", desc := "(IIIII)Z", sig := { parameters := [.int, .int, .int, .int, .int], returnType := some .boolean }, accessFlags := 9, code := some k1c1 }
/-- com/example/meticulous_handshake/meticuloushandshake/bisimulation/ArcsByLabelAddPinLaw -/
def k1 : Class := { plain "com/example/meticulous_handshake/meticuloushandshake/bisimulation/ArcsByLabelAddPinLaw" (some 0) with
  accessFlags := 49
  interfaces := #[]
  cf := some (fileOf pool1 36 #[] #[{ accessFlags := 1, nameIndex := 5, descriptorIndex := 6, attributes := #[] }, { accessFlags := 9, nameIndex := 40, descriptorIndex := 41, attributes := #[] }] 49 2 #[] #[])
  fields := #[]
  methods := #[k1m0, k1m1]
  instanceTypes := #[]
  staticTypes := #[]
  resolved := Array.replicate 45 none
  statics := none }

def pool2 : Array CpInfo := pool [(1, .methodref 2 3), (0, .class_ 4), (0, .nameAndType 5 6), (0, u "java/lang/Object"), (0, u "<init>"), (0, u "()V"), (0, .fieldref 8 9), (0, .class_ 10), (0, .nameAndType 11 12), (0, u "com/example/meticulous_handshake/meticuloushandshake/bisimulation/ArcsByLabel"), (0, u "arcs"), (0, u "[I"), (0, .fieldref 8 14), (0, .nameAndType 15 12), (0, u "sources"), (0, .fieldref 8 17), (0, .nameAndType 18 12), (0, u "next"), (0, .fieldref 8 20), (0, .nameAndType 21 12), (0, u "firsts"), (0, .methodref 23 24), (0, .class_ 25), (0, .nameAndType 26 27), (0, u "java/util/Arrays"), (0, u "fill"), (0, u "([II)V"), (0, .fieldref 8 29), (0, .nameAndType 30 12), (0, u "labels"), (0, .fieldref 8 32), (0, .nameAndType 33 34), (0, u "size"), (0, u "I"), (0, .fieldref 8 36), (0, .nameAndType 37 34), (0, u "labelCount"), (4, u "first"), (0, u "(I)I"), (11, u "arc"), (2, u "source"), (4, u "label"), (2, u "add"), (0, u "(III)V"), (0, u "NONE"), (2, u "(II)V"), (5, u "()I")] 3

def k2c0 : Code := { maxStack := 2, maxLocals := 3, code := prog_7_method_1_code, exceptionTable := #[], attributes := #[] }
def k2m0 : Method := { name := "<init>", desc := "(II)V", sig := { parameters := [.int, .int], returnType := none }, accessFlags := 0, code := some k2c0 }
def k2c1 : Code := { maxStack := 5, maxLocals := 4, code := prog_7_method_2_code, exceptionTable := #[], attributes := #[] }
def k2m1 : Method := { name := "add", desc := "(III)V", sig := { parameters := [.int, .int, .int], returnType := none }, accessFlags := 0, code := some k2c1 }
def k2c2 : Code := { maxStack := 1, maxLocals := 1, code := prog_7_method_4_code, exceptionTable := #[], attributes := #[] }
def k2m2 : Method := { name := "labelCount", desc := "()I", sig := { parameters := [], returnType := some .int }, accessFlags := 0, code := some k2c2 }
def k2c3 : Code := { maxStack := 2, maxLocals := 2, code := prog_7_method_5_code, exceptionTable := #[], attributes := #[] }
def k2m3 : Method := { name := "label", desc := "(I)I", sig := { parameters := [.int], returnType := some .int }, accessFlags := 0, code := some k2c3 }
def k2c4 : Code := { maxStack := 2, maxLocals := 2, code := prog_7_method_6_code, exceptionTable := #[], attributes := #[] }
def k2m4 : Method := { name := "first", desc := "(I)I", sig := { parameters := [.int], returnType := some .int }, accessFlags := 0, code := some k2c4 }
def k2c5 : Code := { maxStack := 2, maxLocals := 2, code := prog_7_method_7_code, exceptionTable := #[], attributes := #[] }
def k2m5 : Method := { name := "next", desc := "(I)I", sig := { parameters := [.int], returnType := some .int }, accessFlags := 0, code := some k2c5 }
def k2c6 : Code := { maxStack := 2, maxLocals := 2, code := prog_7_method_8_code, exceptionTable := #[], attributes := #[] }
def k2m6 : Method := { name := "arc", desc := "(I)I", sig := { parameters := [.int], returnType := some .int }, accessFlags := 0, code := some k2c6 }
def k2c7 : Code := { maxStack := 2, maxLocals := 2, code := prog_7_method_9_code, exceptionTable := #[], attributes := #[] }
def k2m7 : Method := { name := "source", desc := "(I)I", sig := { parameters := [.int], returnType := some .int }, accessFlags := 0, code := some k2c7 }
/-- com/example/meticulous_handshake/meticuloushandshake/bisimulation/ArcsByLabel -/
def k2 : Class := { plain "com/example/meticulous_handshake/meticuloushandshake/bisimulation/ArcsByLabel" (some 0) with
  accessFlags := 32
  interfaces := #[]
  cf := some (fileOf pool2 8 #[] #[{ accessFlags := 0, nameIndex := 5, descriptorIndex := 71, attributes := #[] }, { accessFlags := 0, nameIndex := 66, descriptorIndex := 67, attributes := #[] }, { accessFlags := 0, nameIndex := 37, descriptorIndex := 77, attributes := #[] }, { accessFlags := 0, nameIndex := 63, descriptorIndex := 43, attributes := #[] }, { accessFlags := 0, nameIndex := 42, descriptorIndex := 43, attributes := #[] }, { accessFlags := 0, nameIndex := 18, descriptorIndex := 43, attributes := #[] }, { accessFlags := 0, nameIndex := 55, descriptorIndex := 43, attributes := #[] }, { accessFlags := 0, nameIndex := 58, descriptorIndex := 43, attributes := #[] }] 32 2 #[] #[{ accessFlags := 24, nameIndex := 68, descriptorIndex := 34, attributes := #[] }, { accessFlags := 18, nameIndex := 11, descriptorIndex := 12, attributes := #[] }, { accessFlags := 18, nameIndex := 15, descriptorIndex := 12, attributes := #[] }, { accessFlags := 18, nameIndex := 18, descriptorIndex := 12, attributes := #[] }, { accessFlags := 18, nameIndex := 21, descriptorIndex := 12, attributes := #[] }, { accessFlags := 18, nameIndex := 30, descriptorIndex := 12, attributes := #[] }, { accessFlags := 2, nameIndex := 37, descriptorIndex := 34, attributes := #[] }, { accessFlags := 2, nameIndex := 33, descriptorIndex := 34, attributes := #[] }])
  fields := #[{ name := "NONE", type := .int, accessFlags := 24, slot := 0, constantValue := 0 }, { name := "arcs", type := (.array .int), accessFlags := 18, slot := 0, constantValue := 0 }, { name := "sources", type := (.array .int), accessFlags := 18, slot := 1, constantValue := 0 }, { name := "next", type := (.array .int), accessFlags := 18, slot := 2, constantValue := 0 }, { name := "firsts", type := (.array .int), accessFlags := 18, slot := 3, constantValue := 0 }, { name := "labels", type := (.array .int), accessFlags := 18, slot := 4, constantValue := 0 }, { name := "labelCount", type := .int, accessFlags := 2, slot := 5, constantValue := 0 }, { name := "size", type := .int, accessFlags := 2, slot := 6, constantValue := 0 }]
  methods := #[k2m0, k2m1, k2m2, k2m3, k2m4, k2m5, k2m6, k2m7]
  instanceTypes := #[(.array .int), (.array .int), (.array .int), (.array .int), (.array .int), .int, .int]
  staticTypes := #[.int]
  resolved := Array.replicate 81 none
  statics := none }

def pool3 : Array CpInfo := pool [(2, .class_ 4), (1, u "java/lang/Object"), (0, u "<init>"), (0, u "()V"), (7, .class_ 16), (1, u "java/util/Arrays"), (57, .class_ 76), (1, u "java/util/Arrays$NaturalOrder"), (36, .class_ 115), (1, u "java/util/Arrays$LegacyMergeSort"), (1, u "Z"), (257, .class_ 376), (0, u "java/util/Arrays$ArrayList"), (68, u "$assertionsDisabled"), (269, u "MIN_ARRAY_SORT_GRAN"), (0, u "I"), (2, u "INSERTIONSORT_THRESHOLD"), (120, u "fill"), (4, u "([II)V"), (129, .class_ 976), (0, u "java/util/Arrays$ArrayItr")] 52

def k3m0 : Method := { name := "<init>", desc := "()V", sig := { parameters := [], returnType := none }, accessFlags := 2, code := none }
def k3c1 : Code := { maxStack := 3, maxLocals := 4, code := jdk_65_method_103_code, exceptionTable := #[], attributes := #[] }
def k3m1 : Method := { name := "fill", desc := "([II)V", sig := { parameters := [(.array .int), .int], returnType := none }, accessFlags := 9, code := some k3c1 }
/-- java/util/Arrays -/
def k3 : Class := { plain "java/util/Arrays" (some 0) with
  accessFlags := 49
  interfaces := #[]
  cf := some (fileOf pool3 14 #[.nestMembers #[975, 375, 113, 74]] #[{ accessFlags := 2, nameIndex := 5, descriptorIndex := 6, attributes := #[] }, { accessFlags := 9, nameIndex := 840, descriptorIndex := 845, attributes := #[] }] 49 2 #[] #[{ accessFlags := 26, nameIndex := 715, descriptorIndex := 716, attributes := #[] }, { accessFlags := 26, nameIndex := 719, descriptorIndex := 716, attributes := #[] }, { accessFlags := 4120, nameIndex := 445, descriptorIndex := 117, attributes := #[] }])
  fields := #[{ name := "MIN_ARRAY_SORT_GRAN", type := .int, accessFlags := 26, slot := 0, constantValue := 0 }, { name := "INSERTIONSORT_THRESHOLD", type := .int, accessFlags := 26, slot := 1, constantValue := 0 }, { name := "$assertionsDisabled", type := .boolean, accessFlags := 4120, slot := 2, constantValue := 0 }]
  methods := #[k3m0, k3m1]
  instanceTypes := #[]
  staticTypes := #[.int, .int, .boolean]
  resolved := Array.replicate 1029 none
  statics := none }

def pool4 : Array CpInfo := pool [(1, u "java/lang/Cloneable"), (0, .class_ 1), (0, u "java/lang/Object"), (0, .class_ 3)] 3

/-- java/lang/Cloneable -/
def k4 : Class := { plain "java/lang/Cloneable" (some 0) with
  accessFlags := 1537
  interfaces := #[]
  cf := some (fileOf pool4 2 #[] #[] 1537 4 #[] #[])
  fields := #[]
  methods := #[]
  instanceTypes := #[]
  staticTypes := #[]
  resolved := Array.replicate 8 none
  statics := none }

def pool5 : Array CpInfo := pool [(1, u "java/io/Serializable"), (0, .class_ 1), (0, u "java/lang/Object"), (0, .class_ 3)] 3

/-- java/io/Serializable -/
def k5 : Class := { plain "java/io/Serializable" (some 0) with
  accessFlags := 1537
  interfaces := #[]
  cf := some (fileOf pool5 2 #[] #[] 1537 4 #[] #[])
  fields := #[]
  methods := #[]
  instanceTypes := #[]
  staticTypes := #[]
  resolved := Array.replicate 8 none
  statics := none }

/-- the primitive byte -/
def k6 : Class := { plain "byte" none with kind := .primitive 'B', accessFlags := 0x411 }
/-- [B -/
def k7 : Class := { plain "[B" (some 0) with kind := .array 6 .byte, interfaces := #[4, 5], accessFlags := 1041 }

/-- the primitive int -/
def k8 : Class := { plain "int" none with kind := .primitive 'I', accessFlags := 0x411 }
/-- [I -/
def k9 : Class := { plain "[I" (some 0) with kind := .array 8 .int, interfaces := #[4, 5], accessFlags := 1041 }

def heap : Heap := #[]
def classes : Array Class := #[k0, k1, k2, k3, k4, k5, k6, k7, k8, k9]
def interned : List (Array UInt16 × Addr) := []
def slotsUsed : Nat := 0
def theMethod : MethodId := ⟨1, 1⟩
def args0 : Array Value := #[.int 5, .int 7, .int 9, .int 11, .int 2]
def aboutOver (below : List Frame) : State where
  vm := { classes := classes, interned := interned.toArray }
  heap := heap
  slotsUsed := slotsUsed
  threads := #[{ frames := .invoking theMethod args0 :: below }]
def below0 : List Frame := [.native { method := ⟨0, 0⟩, args := #[] }]
def about1 : State := aboutOver below0
def p0 : Program := .bare "" "" ""
def e0 : Env := launch0.env 0 0 0
theorem w_frames : about1.frames = Frame.invoking theMethod args0 :: below0 := rfl
set_option maxRecDepth 65536 in
theorem w_args : argsFit about1.vm theMethod args0 = true := by decide +kernel
set_option maxRecDepth 65536 in
theorem w_heap : heapFits about1 = true := by decide +kernel
set_option maxRecDepth 65536 in
theorem w_runnable : about1.curStatus? = some .runnable := by decide +kernel
set_option maxRecDepth 65536 in
theorem w_alone : about1.alone = true := by decide +kernel
set_option maxRecDepth 65536 in
theorem w_named : about1.methodNamed? x = some theMethod := by decide +kernel
set_option maxRecDepth 65536 in
theorem w_hears : about1.hears theMethod below0 = true := by decide +kernel
set_option maxRecDepth 65536 in
theorem w_ripe : about1.ripe theMethod args0 below0 = true := by decide +kernel
theorem w_running : about1.status = .running := rfl
set_option maxRecDepth 65536 in
theorem w_room : about1.hasRoom e0.platform room_1 = true :=
  launch0.hasRoom_least _ room_1 (by decide +kernel) (by decide +kernel) (by decide +kernel) (by decide +kernel) (by decide +kernel) (by decide +kernel)
theorem allAtoms_all (ts : List Jvm.Cond) (a : Array Jvm.Value) (st : Jvm.State) : (allAtoms ts).before a st = ts.all (fun c => c.before a st) := by
  induction ts with
  | nil => rfl
  | cons c t ih =>
    show (Jvm.Cond.and c (allAtoms t)).before a st = _
    rw [Jvm.Cond.before_and, ih, List.all_cons]
def words1 : List Jvm.Cond := Jvm.Cond.code x code maxLocals ret :: tables_1
/-- a 'code' word, met by the world's own term for the bytes: nothing is compared byte by byte -/
theorem code_word {y : MethodName} {bytes : ByteArray} {mx : Nat} {rt : Option FieldType} {a : Array Value} {s : State} {m : MethodId} {meth : Method} {c : Code} (h1 : s.methodNamed? y = some m) (h2 : s.vm.method? m = some meth) (h3 : meth.code = some c) (h4 : c.code = bytes)
    (h5 : (c.maxLocals == mx && c.exceptionTable.isEmpty && decide (c.maxStack ≤ mostOperands) && decide (meth.sig.returnType = rt) && !meth.locks && decide (parseMethodDescriptor y.desc = some meth.sig)) = true) : (Jvm.Cond.code y bytes mx rt).before a s = true := by
  simp only [Bool.and_eq_true, beq_iff_eq, Bool.not_eq_true', decide_eq_true_eq] at h5
  obtain ⟨⟨⟨⟨⟨g1, g2⟩, g3⟩, g4⟩, g5⟩, g6⟩ := h5
  simp [Cond.before, Cond.holds, Cond.value, h1, h2, h3, h4, g1, g2, g3, g4, g5, g6]
def isCode : Jvm.Cond → Bool
  | .code _ _ _ _ => true
  | _ => false
theorem all_split {L : List Jvm.Cond} {P : Jvm.Cond → Bool} (h1 : L.all (fun c => isCode c || P c) = true) (h2 : ∀ c ∈ L.filter isCode, P c = true) : L.all P = true := by
  refine List.all_eq_true.mpr fun c hc => ?_
  have h := List.all_eq_true.mp h1 c hc
  rcases Bool.eq_false_or_eq_true (isCode c) with hi | hi
  · exact h2 c (List.mem_filter.mpr ⟨hc, hi⟩)
  · simpa [hi] using h
set_option maxRecDepth 65536 in
theorem w_c0 : (Jvm.Cond.code x code maxLocals ret).before args0 about1 = true := code_word (m := ⟨1, 1⟩) (meth := k1m1) (c := k1c1) (by decide +kernel) rfl rfl rfl (by decide +kernel)
set_option maxRecDepth 65536 in
theorem w_c1 : (Jvm.Cond.code ({ cls := "com/example/meticulous_handshake/meticuloushandshake/bisimulation/ArcsByLabel", name := "<init>", desc := "(II)V" } : Jvm.MethodName) prog_7_method_1_code (3 : Nat) (Option.none : Option Jvm.ClassFile.FieldType)).before args0 about1 = true := code_word (m := ⟨2, 0⟩) (meth := k2m0) (c := k2c0) (by decide +kernel) rfl rfl rfl (by decide +kernel)
set_option maxRecDepth 65536 in
theorem w_c2 : (Jvm.Cond.code ({ cls := "java/lang/Object", name := "<init>", desc := "()V" } : Jvm.MethodName) object_method_1_code (1 : Nat) (Option.none : Option Jvm.ClassFile.FieldType)).before args0 about1 = true := code_word (m := ⟨0, 0⟩) (meth := k0m0) (c := k0c0) (by decide +kernel) rfl rfl rfl (by decide +kernel)
set_option maxRecDepth 65536 in
theorem w_c3 : (Jvm.Cond.code ({ cls := "java/util/Arrays", name := "fill", desc := "([II)V" } : Jvm.MethodName) jdk_65_method_103_code (4 : Nat) (Option.none : Option Jvm.ClassFile.FieldType)).before args0 about1 = true := code_word (m := ⟨3, 1⟩) (meth := k3m1) (c := k3c1) (by decide +kernel) rfl rfl rfl (by decide +kernel)
set_option maxRecDepth 65536 in
theorem w_c4 : (Jvm.Cond.code ({ cls := "com/example/meticulous_handshake/meticuloushandshake/bisimulation/ArcsByLabel", name := "add", desc := "(III)V" } : Jvm.MethodName) prog_7_method_2_code (4 : Nat) (Option.none : Option Jvm.ClassFile.FieldType)).before args0 about1 = true := code_word (m := ⟨2, 1⟩) (meth := k2m1) (c := k2c1) (by decide +kernel) rfl rfl rfl (by decide +kernel)
set_option maxRecDepth 65536 in
theorem w_c5 : (Jvm.Cond.code ({ cls := "com/example/meticulous_handshake/meticuloushandshake/bisimulation/ArcsByLabel", name := "labelCount", desc := "()I" } : Jvm.MethodName) prog_7_method_4_code (1 : Nat) (Option.some Jvm.ClassFile.FieldType.int)).before args0 about1 = true := code_word (m := ⟨2, 2⟩) (meth := k2m2) (c := k2c2) (by decide +kernel) rfl rfl rfl (by decide +kernel)
set_option maxRecDepth 65536 in
theorem w_c6 : (Jvm.Cond.code ({ cls := "com/example/meticulous_handshake/meticuloushandshake/bisimulation/ArcsByLabel", name := "label", desc := "(I)I" } : Jvm.MethodName) prog_7_method_5_code (2 : Nat) (Option.some Jvm.ClassFile.FieldType.int)).before args0 about1 = true := code_word (m := ⟨2, 3⟩) (meth := k2m3) (c := k2c3) (by decide +kernel) rfl rfl rfl (by decide +kernel)
set_option maxRecDepth 65536 in
theorem w_c7 : (Jvm.Cond.code ({ cls := "com/example/meticulous_handshake/meticuloushandshake/bisimulation/ArcsByLabel", name := "first", desc := "(I)I" } : Jvm.MethodName) prog_7_method_6_code (2 : Nat) (Option.some Jvm.ClassFile.FieldType.int)).before args0 about1 = true := code_word (m := ⟨2, 4⟩) (meth := k2m4) (c := k2c4) (by decide +kernel) rfl rfl rfl (by decide +kernel)
set_option maxRecDepth 65536 in
theorem w_c8 : (Jvm.Cond.code ({ cls := "com/example/meticulous_handshake/meticuloushandshake/bisimulation/ArcsByLabel", name := "next", desc := "(I)I" } : Jvm.MethodName) prog_7_method_7_code (2 : Nat) (Option.some Jvm.ClassFile.FieldType.int)).before args0 about1 = true := code_word (m := ⟨2, 5⟩) (meth := k2m5) (c := k2c5) (by decide +kernel) rfl rfl rfl (by decide +kernel)
set_option maxRecDepth 65536 in
theorem w_c9 : (Jvm.Cond.code ({ cls := "com/example/meticulous_handshake/meticuloushandshake/bisimulation/ArcsByLabel", name := "arc", desc := "(I)I" } : Jvm.MethodName) prog_7_method_8_code (2 : Nat) (Option.some Jvm.ClassFile.FieldType.int)).before args0 about1 = true := code_word (m := ⟨2, 6⟩) (meth := k2m6) (c := k2c6) (by decide +kernel) rfl rfl rfl (by decide +kernel)
set_option maxRecDepth 65536 in
theorem w_c10 : (Jvm.Cond.code ({ cls := "com/example/meticulous_handshake/meticuloushandshake/bisimulation/ArcsByLabel", name := "source", desc := "(I)I" } : Jvm.MethodName) prog_7_method_9_code (2 : Nat) (Option.some Jvm.ClassFile.FieldType.int)).before args0 about1 = true := code_word (m := ⟨2, 7⟩) (meth := k2m7) (c := k2c7) (by decide +kernel) rfl rfl rfl (by decide +kernel)
def codes1 : List Jvm.Cond := [Jvm.Cond.code x code maxLocals ret, Jvm.Cond.code ({ cls := "com/example/meticulous_handshake/meticuloushandshake/bisimulation/ArcsByLabel", name := "<init>", desc := "(II)V" } : Jvm.MethodName) prog_7_method_1_code (3 : Nat) (Option.none : Option Jvm.ClassFile.FieldType), Jvm.Cond.code ({ cls := "java/lang/Object", name := "<init>", desc := "()V" } : Jvm.MethodName) object_method_1_code (1 : Nat) (Option.none : Option Jvm.ClassFile.FieldType), Jvm.Cond.code ({ cls := "java/util/Arrays", name := "fill", desc := "([II)V" } : Jvm.MethodName) jdk_65_method_103_code (4 : Nat) (Option.none : Option Jvm.ClassFile.FieldType), Jvm.Cond.code ({ cls := "com/example/meticulous_handshake/meticuloushandshake/bisimulation/ArcsByLabel", name := "add", desc := "(III)V" } : Jvm.MethodName) prog_7_method_2_code (4 : Nat) (Option.none : Option Jvm.ClassFile.FieldType), Jvm.Cond.code ({ cls := "com/example/meticulous_handshake/meticuloushandshake/bisimulation/ArcsByLabel", name := "labelCount", desc := "()I" } : Jvm.MethodName) prog_7_method_4_code (1 : Nat) (Option.some Jvm.ClassFile.FieldType.int), Jvm.Cond.code ({ cls := "com/example/meticulous_handshake/meticuloushandshake/bisimulation/ArcsByLabel", name := "label", desc := "(I)I" } : Jvm.MethodName) prog_7_method_5_code (2 : Nat) (Option.some Jvm.ClassFile.FieldType.int), Jvm.Cond.code ({ cls := "com/example/meticulous_handshake/meticuloushandshake/bisimulation/ArcsByLabel", name := "first", desc := "(I)I" } : Jvm.MethodName) prog_7_method_6_code (2 : Nat) (Option.some Jvm.ClassFile.FieldType.int), Jvm.Cond.code ({ cls := "com/example/meticulous_handshake/meticuloushandshake/bisimulation/ArcsByLabel", name := "next", desc := "(I)I" } : Jvm.MethodName) prog_7_method_7_code (2 : Nat) (Option.some Jvm.ClassFile.FieldType.int), Jvm.Cond.code ({ cls := "com/example/meticulous_handshake/meticuloushandshake/bisimulation/ArcsByLabel", name := "arc", desc := "(I)I" } : Jvm.MethodName) prog_7_method_8_code (2 : Nat) (Option.some Jvm.ClassFile.FieldType.int), Jvm.Cond.code ({ cls := "com/example/meticulous_handshake/meticuloushandshake/bisimulation/ArcsByLabel", name := "source", desc := "(I)I" } : Jvm.MethodName) prog_7_method_9_code (2 : Nat) (Option.some Jvm.ClassFile.FieldType.int)]
set_option maxRecDepth 65536 in
theorem codes_eq : words1.filter isCode = codes1 := rfl
theorem w_codes : ∀ c ∈ words1.filter isCode, c.before args0 about1 = true := by
  rw [codes_eq]
  intro c hc
  simp only [codes1, List.mem_cons, List.not_mem_nil, or_false] at hc
  rcases hc with rfl | rfl | rfl | rfl | rfl | rfl | rfl | rfl | rfl | rfl | rfl
  · exact w_c0
  · exact w_c1
  · exact w_c2
  · exact w_c3
  · exact w_c4
  · exact w_c5
  · exact w_c6
  · exact w_c7
  · exact w_c8
  · exact w_c9
  · exact w_c10
set_option maxRecDepth 65536 in
theorem w_t1 : (words1.take 24).all (fun c => isCode c || c.before args0 about1) = true := by decide +kernel
set_option maxRecDepth 65536 in
theorem w_t2 : ((words1.drop 24).take 24).all (fun c => isCode c || c.before args0 about1) = true := by decide +kernel
set_option maxRecDepth 65536 in
theorem w_t3 : ((words1.drop 24).drop 24).all (fun c => isCode c || c.before args0 about1) = true := by decide +kernel
theorem w_tables : (allAtoms (Jvm.Cond.code x code maxLocals ret :: tables_1)).before args0 about1 = true := by
  rw [allAtoms_all]
  show words1.all (fun c => c.before args0 about1) = true
  refine all_split ?_ w_codes
  rw [← List.take_append_drop 24 words1, List.all_append, w_t1, ← List.take_append_drop 24 (words1.drop 24), List.all_append, w_t2, w_t3]
  rfl
set_option maxRecDepth 65536 in
theorem w_case : (Jvm.Cond.and given_1 narrow_1).before args0 about1 = true := by decide +kernel
theorem w_applies : (headSpec (Jvm.Cond.code x code maxLocals ret :: tables_1) room_1).applies x e0.platform about1 = true :=
  (Spec.applies_iff w_frames).mpr ⟨w_running, w_runnable, w_alone, w_named, w_hears, w_ripe, w_room, w_tables⟩
theorem atStart : AtStart classFile x code maxLocals ret World_1 tables_1 room_1 Calls_1 rest_1 Pre_1 launch0 p0 e0 about1 theMethod args0 below0 :=
  ⟨lists_1, trivial, launch0.admits_env _ _ _, launch0.least_env, fairChoices_fair.cas, fairChoices_fair.clock, w_frames, w_args, w_heap, w_applies, trivial, trivial, w_case⟩
end start1
theorem witness_1 : WitnessClaimed_1 := ⟨start1.p0, start1.e0, start1.about1, start1.theMethod, start1.args0, start1.below0, start1.atStart⟩
end Jvm.Pilot.@@N@@
