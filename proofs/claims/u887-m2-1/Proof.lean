import JvmDerived
import JvmDerived.Pilot.@@N@@Statement
import JvmDerived.Pilot.@@N@@Code
set_option linter.unusedVariables false
set_option linter.unusedSimpArgs false
namespace Jvm.RoadKit
open Sem ClassFile Op Lib Jvm.Stand Jvm.Free Jvm.LawKit
section New
variable {p : Program} {l : Launch} {e : Env} {R : Room} {s : State} {m : MethodId} {args : Array Value} {below : List Frame} {meth : Method} {c : Code} {T : State} {locs : List Loc} {cells slots : Nat}
theorem retI (X : Stand p l e R s m args below meth c T locs cells slots) (hx : p.tables.exec = Jvm.exec) {pc : Nat} {Ls : Array Slot} {z : Int32} {rest : List Value} (hret : meth.sig.returnType = some .int) (hd : decode c.code pc = .ok (.ireturn, 1)) {fs : List Frame}
    (hl : ∀ (f : JFrame) (acts : List Action), f.method = m → f.locked = none → f.entered = [] → (doReturn e (T.setTop f) acts (some (.int z))).1 = T.setFrames fs) : Steps p.tables e below (T.setTop (mkF m pc Ls (.int z :: rest))) (T.setFrames fs) := by
  have hm' : T.vm.method? m = some meth := X.method'
  have hn : narrow .int (.int z) = .int z := rfl
  show Steps p.tables e below (T.setTop { method := m, pc := pc, locals := Ls, stack := _ :: rest, locked := none }) _
  jvm_step X.here [X.here.top, hx, hd, hm', hret, hn]
  first | (intro acts; rw [hl _ acts rfl rfl rfl]) | rw [hl _ _ rfl rfl rfl]
  exact Steps.refl _
end New
end Jvm.RoadKit
namespace Jvm.Pilot.@@N@@
open Jvm Jvm.ClassFile Sem Op Lib Jvm.Free Jvm.Stand Jvm.LawKit Jvm.RoadKit Bundle Jvm.Pilot.@@N@@.Jvm.D
/-! numbers and lists -/
theorem own_fin7 : ∀ i : Fin 7, ¬ (Int32.ofNat i.val < 0) ∧ Int32.ofNat i.val < 7 ∧ (Int32.ofNat i.val).toNatClampNeg = i.val := by decide +kernel
theorem own_one (i : Nat) : Int32.ofNat i + (1 : Int32) = Int32.ofNat (i + 1) := (Int32.ofNat_add i 1).symm
theorem own_lt {i n : Nat} (h : i < n) (hn : n ≤ 6) : Int32.ofNat i < Int32.ofNat n := by
  rw [Int32.lt_iff_toInt_lt, Int32.toInt_ofNat_of_lt (by omega), Int32.toInt_ofNat_of_lt (by omega)]
  omega
def own_val (fill : Int32) (o : Option Int32) : Value := .int (o.getD fill)
/-- the count and the array's values when p turns are made -/
def runO (q ar : Int32) : Nat → Nat × List (Option Int32)
  | 0 => (0, List.replicate 7 none)
  | p + 1 => if (Int32.ofNat p = q ∧ ¬ ar = 1) then runO q ar p else ((runO q ar p).1 + 1, (runO q ar p).2.set (runO q ar p).1 (some (Int32.ofNat p)))
theorem run_le (q ar : Int32) : ∀ p, (runO q ar p).1 ≤ p ∧ (runO q ar p).2.length = 7 := by
  intro p
  induction p with
  | zero => exact ⟨Nat.le_refl _, rfl⟩
  | succ p ih =>
    unfold runO
    split
    · exact ⟨by omega, ih.2⟩
    · exact ⟨by show _ + 1 ≤ _; omega, by show (List.set _ _ _).length = 7; rw [List.length_set]; exact ih.2⟩
theorem run_skip {q ar : Int32} {p : Nat} (h : Int32.ofNat p = q ∧ ¬ ar = 1) : runO q ar (p + 1) = runO q ar p := by
  show (if _ then _ else _) = _
  rw [if_pos h]
theorem run_put {q ar : Int32} {p : Nat} (h : ¬ (Int32.ofNat p = q ∧ ¬ ar = 1)) : runO q ar (p + 1) = ((runO q ar p).1 + 1, (runO q ar p).2.set (runO q ar p).1 (some (Int32.ofNat p))) := by
  show (if _ then _ else _) = _
  rw [if_neg h]
theorem own_map_set (fill x : Int32) (L : List (Option Int32)) (i : Nat) : (L.map (own_val fill)).set i (.int x) = (L.set i (some x)).map (own_val fill) := by
  rw [List.map_set]; rfl
theorem own_at (fill : Int32) (L : List (Option Int32)) (h : L.length = 7) (i : Nat) (hi : i < 7) (d : Value) : (L.map (own_val fill)).getD i d = .int ((L.getD i none).getD fill) := by
  have h1 : i < L.length := by omega
  simp only [List.getD_eq_getElem?_getD, List.getElem?_map, List.getElem?_eq_getElem h1]
  rfl
theorem d1_0 : decode prog_86_method_3_code 0 = .ok (.iconst 0, 1) := by decide +kernel
theorem d1_1 : decode prog_86_method_3_code 1 = .ok (.istore_n 3, 1) := by decide +kernel
theorem d1_2 : decode prog_86_method_3_code 2 = .ok (.iconst 0, 1) := by decide +kernel
theorem d1_3 : decode prog_86_method_3_code 3 = .ok (.istore 4, 2) := by decide +kernel
theorem d1_5 : decode prog_86_method_3_code 5 = .ok (.iload 4, 2) := by decide +kernel
theorem d1_7 : decode prog_86_method_3_code 7 = .ok (.iload_n 1, 1) := by decide +kernel
theorem d1_8 : decode prog_86_method_3_code 8 = .ok (.if_icmp .ge 28, 3) := by decide +kernel
theorem d1_11 : decode prog_86_method_3_code 11 = .ok (.iload 4, 2) := by decide +kernel
theorem d1_13 : decode prog_86_method_3_code 13 = .ok (.iload_n 0, 1) := by decide +kernel
theorem d1_14 : decode prog_86_method_3_code 14 = .ok (.if_icmp .ne 8, 3) := by decide +kernel
theorem d1_17 : decode prog_86_method_3_code 17 = .ok (.iload_n 1, 1) := by decide +kernel
theorem d1_18 : decode prog_86_method_3_code 18 = .ok (.iconst 1, 1) := by decide +kernel
theorem d1_19 : decode prog_86_method_3_code 19 = .ok (.if_icmp .ne 11, 3) := by decide +kernel
theorem d1_22 : decode prog_86_method_3_code 22 = .ok (.aload_n 2, 1) := by decide +kernel
theorem d1_23 : decode prog_86_method_3_code 23 = .ok (.iload_n 3, 1) := by decide +kernel
theorem d1_24 : decode prog_86_method_3_code 24 = .ok (.iinc 3 1, 3) := by decide +kernel
theorem d1_27 : decode prog_86_method_3_code 27 = .ok (.iload 4, 2) := by decide +kernel
theorem d1_29 : decode prog_86_method_3_code 29 = .ok (.iastore, 1) := by decide +kernel
theorem d1_30 : decode prog_86_method_3_code 30 = .ok (.iinc 4 1, 3) := by decide +kernel
theorem d1_33 : decode prog_86_method_3_code 33 = .ok (.goto (-28), 3) := by decide +kernel
theorem d1_36 : decode prog_86_method_3_code 36 = .ok (.iload_n 3, 1) := by decide +kernel
theorem d1_37 : decode prog_86_method_3_code 37 = .ok (.ireturn, 1) := by decide +kernel
theorem pn_1 : plainName "com/example/noyau/noyau/solver/Propagator" = true := by first | (simp [plainName, overriddenIn]; done) | decide +kernel
theorem pf_1 : plainFor (⟨"com/example/noyau/noyau/solver/Propagator", "everyPlaceBut", "(II[I)I"⟩ : MethodName) = true := plainFor_of_name pn_1
theorem ef_1 (m : MethodId) (x0 x1 : Int32) (x2 : Addr) : entryFrame m #[(.int x0), (.int x1), (.ref x2)] 5 = mkF m 0 #[.val (.int x0), .val (.int x1), .val (.ref x2), .unset, .unset] [] := by first | (simp [entryFrame, mkF, argsToLocals, Value.category]; done) | rfl
set_option maxRecDepth 65536 in
set_option maxHeartbeats 40000000 in
theorem tnA {p : Program} {l : Launch} {e : Env} {R : Room} {s : State} {m : MethodId} {args : Array Value} {below : List Frame} {meth : Method} {c : Code} {T0 : State} {locs : List Loc} {cells slots : Nat} {Z : State} {a0 : Array Value} (q ar : Int32) (o : Addr) (cnt pp : Int32)
    (X0 : Stand p l e R s m args below meth c T0 locs cells slots) (hx : p.tables.exec = Jvm.exec) (hZ : Z.Warmed39 s.vm) (hw : ∀ d ∈ tables_1, d.before a0 Z = true) (hby : c.code = prog_86_method_3_code) (hml : c.maxLocals = 5) (hown : s.vm.findClass "com/example/noyau/noyau/solver/Propagator" = some m.cls) (hc8 : pp < ar) (hg : pp = q ∧ ¬ ar = 1) :
    ∀ target, Steps p.tables e below (T0.setTop (mkF m 5 #[.val (.int q), .val (.int ar), .val (.ref o), .val (.int cnt), .val (.int (pp + (1 : Int32)))] [])) target → Steps p.tables e below (T0.setTop (mkF m 5 #[.val (.int q), .val (.int ar), .val (.ref o), .val (.int cnt), .val (.int pp)] [])) target := by
  intro target kt
  show Steps p.tables e below (T0.setTop (mkF m 5 #[.val (.int q), .val (.int ar), .val (.ref o), .val (.int cnt), .val (.int pp)] [])) _
  refine XS.iload X0.here hx rfl (hb hby d1_5) rfl ?_
  show Steps p.tables e below (T0.setTop (mkF m 7 #[.val (.int q), .val (.int ar), .val (.ref o), .val (.int cnt), .val (.int pp)] [(.int pp)])) _
  refine XS.iloadN X0.here hx rfl (hb hby d1_7) rfl ?_
  show Steps p.tables e below (T0.setTop (mkF m 8 #[.val (.int q), .val (.int ar), .val (.ref o), .val (.int cnt), .val (.int pp)] [(.int ar), (.int pp)])) _
  refine XS.icmpNo X0.here hx rfl (hb hby d1_8) rfl (tlt (hc8 : pp < ar)).2.1 ?_
  show Steps p.tables e below (T0.setTop (mkF m 11 #[.val (.int q), .val (.int ar), .val (.ref o), .val (.int cnt), .val (.int pp)] [])) _
  refine XS.iload X0.here hx rfl (hb hby d1_11) rfl ?_
  show Steps p.tables e below (T0.setTop (mkF m 13 #[.val (.int q), .val (.int ar), .val (.ref o), .val (.int cnt), .val (.int pp)] [(.int pp)])) _
  refine XS.iloadN X0.here hx rfl (hb hby d1_13) rfl ?_
  show Steps p.tables e below (T0.setTop (mkF m 14 #[.val (.int q), .val (.int ar), .val (.ref o), .val (.int cnt), .val (.int pp)] [(.int q), (.int pp)])) _
  refine XS.icmpNo X0.here hx rfl (hb hby d1_14) rfl (teq (hg.1 : pp = q)).2 ?_
  show Steps p.tables e below (T0.setTop (mkF m 17 #[.val (.int q), .val (.int ar), .val (.ref o), .val (.int cnt), .val (.int pp)] [])) _
  refine XS.iloadN X0.here hx rfl (hb hby d1_17) rfl ?_
  show Steps p.tables e below (T0.setTop (mkF m 18 #[.val (.int q), .val (.int ar), .val (.ref o), .val (.int cnt), .val (.int pp)] [(.int ar)])) _
  refine XS.iconst X0.here hx rfl (hb hby d1_18) ?_
  show Steps p.tables e below (T0.setTop (mkF m 19 #[.val (.int q), .val (.int ar), .val (.ref o), .val (.int cnt), .val (.int pp)] [(.int (1 : Int32)), (.int ar)])) _
  refine XS.icmpYes X0.here hx rfl (pc0 := 19) (pc' := 30) rfl (hb hby d1_19) rfl (feq (hg.2 : ¬ (ar = (1 : Int32)))).2 (by decide) (by decide) ?_
  show Steps p.tables e below (T0.setTop (mkF m 30 #[.val (.int q), .val (.int ar), .val (.ref o), .val (.int cnt), .val (.int pp)] [])) _
  refine XS.iinc X0.here hx rfl (hb hby d1_30) rfl (l' := #[.val (.int q), .val (.int ar), .val (.ref o), .val (.int cnt), .val (.int (pp + (1 : Int32)))]) rfl ?_
  show Steps p.tables e below (T0.setTop (mkF m 33 #[.val (.int q), .val (.int ar), .val (.ref o), .val (.int cnt), .val (.int (pp + (1 : Int32)))] [])) _
  refine XS.goto X0.here hx rfl (pc0 := 33) (pc' := 5) rfl (hb hby d1_33) (by decide) (by decide) ?_
  exact kt
set_option maxRecDepth 65536 in
set_option maxHeartbeats 40000000 in
theorem tnB {p : Program} {l : Launch} {e : Env} {R : Room} {s : State} {m : MethodId} {args : Array Value} {below : List Frame} {meth : Method} {c : Code} {T0 : State} {locs : List Loc} {cells slots : Nat} {Z : State} {a0 : Array Value} {h0 : Heap} {hh : Heap} (q ar : Int32) (o : Addr) (cnt pp : Int32) (ka : ClassId) (vs : List Value) (n0 : Nat) (i : Nat)
    (X0 : Stand p l e R s m args below meth c T0 locs cells slots) (hx : p.tables.exec = Jvm.exec) (hZ : Z.Warmed39 s.vm) (hw : ∀ d ∈ tables_1, d.before a0 Z = true) (hby : c.code = prog_86_method_3_code) (hml : c.maxLocals = 5) (hown : s.vm.findClass "com/example/noyau/noyau/solver/Propagator" = some m.cls) (e0 : T0.heap = h0) (hc8 : pp < ar) (hg : ¬ (pp = q ∧ ¬ ar = 1)) (V : Arv Z h0 o ka .int 7 vs (.int (0 : Int32))) (hl : vs.length = 7) (hci : cnt = Int32.ofNat i) (hi : i < 7) (Z0 : n0 ≤ h0.size) (g_o : n0 ≤ o) (N0 : Fr n0 locs) (K0 : Keep hh h0 [o]) :
    ∃ (T' : State) (h' : Heap) (locs' : List Loc), Stand p l e R s m args below meth c T' locs' cells slots ∧ T'.heap = h' ∧ Fr n0 locs' ∧ n0 ≤ h'.size ∧ Keep hh h' [o] ∧ Arv Z h' o ka .int 7 (vs.set i (.int pp)) (.int (0 : Int32)) ∧
      ∀ target, Steps p.tables e below (T'.setTop (mkF m 5 #[.val (.int q), .val (.int ar), .val (.ref o), .val (.int (cnt + (1 : Int32))), .val (.int (pp + (1 : Int32)))] [])) target → Steps p.tables e below (T0.setTop (mkF m 5 #[.val (.int q), .val (.int ar), .val (.ref o), .val (.int cnt), .val (.int pp)] [])) target := by
  obtain ⟨cl, Ar, q1, S, M, H, U⟩ := V
  have f7 := own_fin7 ⟨i, hi⟩
  simp only at f7
  rw [← hci] at f7
  have hin : ¬ (cnt < 0 ∨ cl.slots.size ≤ cnt.toNatClampNeg) := inb_of S ⟨f7.1, f7.2.1⟩
  obtain ⟨T1, h1, X1, e1, W1, st1⟩ := stI X0 hx hZ e0 Ar (j := cnt) hin (g := (mkF m 29 #[.val (.int q), .val (.int ar), .val (.ref o), .val (.int (cnt + (1 : Int32))), .val (.int pp)] [(.int pp), (.int cnt), (.ref o)])) rfl rfl (hb hby d1_29)
  have V1 := Arv.set Ar q1 S M H U rfl W1 i f7.2.2 (by omega)
  refine ⟨T1, _, _, X1, e1, Fr.snoc X1 N0 g_o, Nat.le_trans Z0 (Keep.of_wr W1).1, K0.wr W1 (Or.inl (List.mem_of_getElem? (i := 0) rfl)), V1, fun target kt => ?_⟩
  show Steps p.tables e below (T0.setTop (mkF m 5 #[.val (.int q), .val (.int ar), .val (.ref o), .val (.int cnt), .val (.int pp)] [])) _
  refine XS.iload X0.here hx rfl (hb hby d1_5) rfl ?_
  show Steps p.tables e below (T0.setTop (mkF m 7 #[.val (.int q), .val (.int ar), .val (.ref o), .val (.int cnt), .val (.int pp)] [(.int pp)])) _
  refine XS.iloadN X0.here hx rfl (hb hby d1_7) rfl ?_
  show Steps p.tables e below (T0.setTop (mkF m 8 #[.val (.int q), .val (.int ar), .val (.ref o), .val (.int cnt), .val (.int pp)] [(.int ar), (.int pp)])) _
  refine XS.icmpNo X0.here hx rfl (hb hby d1_8) rfl (tlt (hc8 : pp < ar)).2.1 ?_
  show Steps p.tables e below (T0.setTop (mkF m 11 #[.val (.int q), .val (.int ar), .val (.ref o), .val (.int cnt), .val (.int pp)] [])) _
  refine XS.iload X0.here hx rfl (hb hby d1_11) rfl ?_
  show Steps p.tables e below (T0.setTop (mkF m 13 #[.val (.int q), .val (.int ar), .val (.ref o), .val (.int cnt), .val (.int pp)] [(.int pp)])) _
  refine XS.iloadN X0.here hx rfl (hb hby d1_13) rfl ?_
  show Steps p.tables e below (T0.setTop (mkF m 14 #[.val (.int q), .val (.int ar), .val (.ref o), .val (.int cnt), .val (.int pp)] [(.int q), (.int pp)])) _
  by_cases hc1 : pp = q
  · refine XS.icmpNo X0.here hx rfl (hb hby d1_14) rfl (teq hc1).2 ?_
    show Steps p.tables e below (T0.setTop (mkF m 17 #[.val (.int q), .val (.int ar), .val (.ref o), .val (.int cnt), .val (.int pp)] [])) _
    refine XS.iloadN X0.here hx rfl (hb hby d1_17) rfl ?_
    show Steps p.tables e below (T0.setTop (mkF m 18 #[.val (.int q), .val (.int ar), .val (.ref o), .val (.int cnt), .val (.int pp)] [(.int ar)])) _
    refine XS.iconst X0.here hx rfl (hb hby d1_18) ?_
    show Steps p.tables e below (T0.setTop (mkF m 19 #[.val (.int q), .val (.int ar), .val (.ref o), .val (.int cnt), .val (.int pp)] [(.int (1 : Int32)), (.int ar)])) _
    refine XS.icmpNo X0.here hx rfl (hb hby d1_19) rfl (teq (Classical.byContradiction fun z => hg ⟨hc1, z⟩ : ar = (1 : Int32))).2 ?_
    show Steps p.tables e below (T0.setTop (mkF m 22 #[.val (.int q), .val (.int ar), .val (.ref o), .val (.int cnt), .val (.int pp)] [])) _
    refine XS.aloadN X0.here hx rfl (hb hby d1_22) rfl rfl ?_
    show Steps p.tables e below (T0.setTop (mkF m 23 #[.val (.int q), .val (.int ar), .val (.ref o), .val (.int cnt), .val (.int pp)] [(.ref o)])) _
    refine XS.iloadN X0.here hx rfl (hb hby d1_23) rfl ?_
    show Steps p.tables e below (T0.setTop (mkF m 24 #[.val (.int q), .val (.int ar), .val (.ref o), .val (.int cnt), .val (.int pp)] [(.int cnt), (.ref o)])) _
    refine XS.iinc X0.here hx rfl (hb hby d1_24) rfl (l' := #[.val (.int q), .val (.int ar), .val (.ref o), .val (.int (cnt + (1 : Int32))), .val (.int pp)]) rfl ?_
    show Steps p.tables e below (T0.setTop (mkF m 27 #[.val (.int q), .val (.int ar), .val (.ref o), .val (.int (cnt + (1 : Int32))), .val (.int pp)] [(.int cnt), (.ref o)])) _
    refine XS.iload X0.here hx rfl (hb hby d1_27) rfl ?_
    show Steps p.tables e below (T0.setTop (mkF m 29 #[.val (.int q), .val (.int ar), .val (.ref o), .val (.int (cnt + (1 : Int32))), .val (.int pp)] [(.int pp), (.int cnt), (.ref o)])) _
    refine st1 _ ?_
    show Steps p.tables e below (T1.setTop (mkF m 30 #[.val (.int q), .val (.int ar), .val (.ref o), .val (.int (cnt + (1 : Int32))), .val (.int pp)] [])) _
    refine XS.iinc X1.here hx rfl (hb hby d1_30) rfl (l' := #[.val (.int q), .val (.int ar), .val (.ref o), .val (.int (cnt + (1 : Int32))), .val (.int (pp + (1 : Int32)))]) rfl ?_
    show Steps p.tables e below (T1.setTop (mkF m 33 #[.val (.int q), .val (.int ar), .val (.ref o), .val (.int (cnt + (1 : Int32))), .val (.int (pp + (1 : Int32)))] [])) _
    refine XS.goto X1.here hx rfl (pc0 := 33) (pc' := 5) rfl (hb hby d1_33) (by decide) (by decide) ?_
    exact kt
  · refine XS.icmpYes X0.here hx rfl (pc0 := 14) (pc' := 22) rfl (hb hby d1_14) rfl (feq hc1).2 (by decide) (by decide) ?_
    show Steps p.tables e below (T0.setTop (mkF m 22 #[.val (.int q), .val (.int ar), .val (.ref o), .val (.int cnt), .val (.int pp)] [])) _
    refine XS.aloadN X0.here hx rfl (hb hby d1_22) rfl rfl ?_
    show Steps p.tables e below (T0.setTop (mkF m 23 #[.val (.int q), .val (.int ar), .val (.ref o), .val (.int cnt), .val (.int pp)] [(.ref o)])) _
    refine XS.iloadN X0.here hx rfl (hb hby d1_23) rfl ?_
    show Steps p.tables e below (T0.setTop (mkF m 24 #[.val (.int q), .val (.int ar), .val (.ref o), .val (.int cnt), .val (.int pp)] [(.int cnt), (.ref o)])) _
    refine XS.iinc X0.here hx rfl (hb hby d1_24) rfl (l' := #[.val (.int q), .val (.int ar), .val (.ref o), .val (.int (cnt + (1 : Int32))), .val (.int pp)]) rfl ?_
    show Steps p.tables e below (T0.setTop (mkF m 27 #[.val (.int q), .val (.int ar), .val (.ref o), .val (.int (cnt + (1 : Int32))), .val (.int pp)] [(.int cnt), (.ref o)])) _
    refine XS.iload X0.here hx rfl (hb hby d1_27) rfl ?_
    show Steps p.tables e below (T0.setTop (mkF m 29 #[.val (.int q), .val (.int ar), .val (.ref o), .val (.int (cnt + (1 : Int32))), .val (.int pp)] [(.int pp), (.int cnt), (.ref o)])) _
    refine st1 _ ?_
    show Steps p.tables e below (T1.setTop (mkF m 30 #[.val (.int q), .val (.int ar), .val (.ref o), .val (.int (cnt + (1 : Int32))), .val (.int pp)] [])) _
    refine XS.iinc X1.here hx rfl (hb hby d1_30) rfl (l' := #[.val (.int q), .val (.int ar), .val (.ref o), .val (.int (cnt + (1 : Int32))), .val (.int (pp + (1 : Int32)))]) rfl ?_
    show Steps p.tables e below (T1.setTop (mkF m 33 #[.val (.int q), .val (.int ar), .val (.ref o), .val (.int (cnt + (1 : Int32))), .val (.int (pp + (1 : Int32)))] [])) _
    refine XS.goto X1.here hx rfl (pc0 := 33) (pc' := 5) rfl (hb hby d1_33) (by decide) (by decide) ?_
    exact kt
set_option maxRecDepth 65536 in
set_option maxHeartbeats 40000000 in
theorem tnC {p : Program} {l : Launch} {e : Env} {R : Room} {s : State} {m : MethodId} {args : Array Value} {below : List Frame} {meth : Method} {c : Code} {T0 : State} {locs : List Loc} {cells slots : Nat} {Z : State} {a0 : Array Value} (q ar : Int32) (o : Addr) (cnt pp : Int32)
    (X0 : Stand p l e R s m args below meth c T0 locs cells slots) (hx : p.tables.exec = Jvm.exec) (hZ : Z.Warmed39 s.vm) (hw : ∀ d ∈ tables_1, d.before a0 Z = true) (hby : c.code = prog_86_method_3_code) (hml : c.maxLocals = 5) (hown : s.vm.findClass "com/example/noyau/noyau/solver/Propagator" = some m.cls) (hc8 : ¬ (pp < ar)) :
    ∀ target, Steps p.tables e below (T0.setTop (mkF m 36 #[.val (.int q), .val (.int ar), .val (.ref o), .val (.int cnt), .val (.int pp)] [])) target → Steps p.tables e below (T0.setTop (mkF m 5 #[.val (.int q), .val (.int ar), .val (.ref o), .val (.int cnt), .val (.int pp)] [])) target := by
  intro target kt
  show Steps p.tables e below (T0.setTop (mkF m 5 #[.val (.int q), .val (.int ar), .val (.ref o), .val (.int cnt), .val (.int pp)] [])) _
  refine XS.iload X0.here hx rfl (hb hby d1_5) rfl ?_
  show Steps p.tables e below (T0.setTop (mkF m 7 #[.val (.int q), .val (.int ar), .val (.ref o), .val (.int cnt), .val (.int pp)] [(.int pp)])) _
  refine XS.iloadN X0.here hx rfl (hb hby d1_7) rfl ?_
  show Steps p.tables e below (T0.setTop (mkF m 8 #[.val (.int q), .val (.int ar), .val (.ref o), .val (.int cnt), .val (.int pp)] [(.int ar), (.int pp)])) _
  refine XS.icmpYes X0.here hx rfl (pc0 := 8) (pc' := 36) rfl (hb hby d1_8) rfl (flt (hc8 : ¬ (pp < ar))).2.1 (by decide) (by decide) ?_
  exact kt
theorem loop1 {p : Program} {l : Launch} {e : Env} {R : Room} {s : State} {m : MethodId} {args : Array Value} {below : List Frame} {meth : Method} {c : Code} {cells slots : Nat} {Z : State} {a0 : Array Value} {hh : Heap} (q : Int32) (n : Nat) (hn : n ≤ 6) (o : Addr) (ka : ClassId) (fill : Int32) (n0 : Nat) (g_o : n0 ≤ o) (hx : p.tables.exec = Jvm.exec) (hZ : Z.Warmed39 s.vm) (hw : ∀ d ∈ tables_1, d.before a0 Z = true) (hby : c.code = prog_86_method_3_code) (hml : c.maxLocals = 5) (hown : s.vm.findClass "com/example/noyau/noyau/solver/Propagator" = some m.cls) :
    ∀ (k i : Nat) (T0 : State) (h0 : Heap) (locs : List Loc), i + k = n → Stand p l e R s m args below meth c T0 locs cells slots → T0.heap = h0 → Fr n0 locs → n0 ≤ h0.size → Keep hh h0 [o] → Arv Z h0 o ka .int 7 ((runO q (Int32.ofNat n) i).2.map (own_val fill)) (.int (0 : Int32)) →
      ∃ (T' : State) (h' : Heap) (locs' : List Loc), Stand p l e R s m args below meth c T' locs' cells slots ∧ T'.heap = h' ∧ Fr n0 locs' ∧ n0 ≤ h'.size ∧ Keep hh h' [o] ∧ Arv Z h' o ka .int 7 ((runO q (Int32.ofNat n) n).2.map (own_val fill)) (.int (0 : Int32)) ∧
        ∀ target, Steps p.tables e below (T'.setTop (mkF m 36 #[.val (.int q), .val (.int (Int32.ofNat n)), .val (.ref o), .val (.int (Int32.ofNat (runO q (Int32.ofNat n) n).1)), .val (.int (Int32.ofNat n))] [])) target → Steps p.tables e below (T0.setTop (mkF m 5 #[.val (.int q), .val (.int (Int32.ofNat n)), .val (.ref o), .val (.int (Int32.ofNat (runO q (Int32.ofNat n) i).1)), .val (.int (Int32.ofNat i))] [])) target := by
  intro k
  induction k with
  | zero =>
    intro i T0 h0 locs hi X0 e0 N Z0 K V
    have hi' : i = n := by omega
    subst hi'
    exact ⟨T0, h0, locs, X0, e0, N, Z0, K, V, tnC q _ o _ _ X0 hx hZ hw hby hml hown Int32.lt_irrefl⟩
  | succ k ih =>
    intro i T0 h0 locs hi X0 e0 N Z0 K V
    have hlt : Int32.ofNat i < Int32.ofNat n := own_lt (by omega) hn
    have hle := run_le q (Int32.ofNat n) i
    by_cases hg : Int32.ofNat i = q ∧ ¬ Int32.ofNat n = 1
    · have st1 := tnA q _ o (Int32.ofNat (runO q (Int32.ofNat n) i).1) _ X0 hx hZ hw hby hml hown hlt hg
      rw [own_one] at st1
      obtain ⟨T', h', L', X', e', N', Z', K', V', st⟩ := ih (i + 1) T0 h0 locs (by omega) X0 e0 N Z0 K (by rw [run_skip hg]; exact V)
      rw [run_skip hg] at st
      exact ⟨T', h', L', X', e', N', Z', K', V', fun target h => st1 target (st target h)⟩
    · obtain ⟨T1, h1, L1, X1, e1, N1, Z1, K1, V1, st1⟩ := tnB q _ o (Int32.ofNat (runO q (Int32.ofNat n) i).1) _ ka _ n0 _ X0 hx hZ hw hby hml hown e0 hlt hg V (by rw [List.length_map]; exact hle.2) rfl (by omega) Z0 g_o N K
      rw [own_one, own_one] at st1
      rw [own_map_set] at V1
      obtain ⟨T', h', L', X', e', N', Z', K', V', st⟩ := ih (i + 1) T1 h1 L1 (by omega) X1 e1 N1 Z1 K1 (by rw [run_put hg]; exact V1)
      rw [run_put hg] at st
      exact ⟨T', h', L', X', e', N', Z', K', V', fun target h => st1 target (st target h)⟩
def Q1 (Z : State) (q1 : Int32) (n : Nat) (o : Addr) (ka : ClassId) (fill : Int32) (h0 : Heap) (n0 : Nat) (v : Option Value) (h : Heap) (L : List Loc) : Prop := v = some (.int (Int32.ofNat (runO q1 (Int32.ofNat n) n).1)) ∧ Fr n0 L ∧ Keep h0 h [o] ∧ n0 ≤ h.size ∧ Arv Z h o ka .int 7 ((runO q1 (Int32.ofNat n) n).2.map (own_val fill)) (.int (0 : Int32))
set_option maxRecDepth 65536 in
set_option maxHeartbeats 40000000 in
theorem rm1 (l : Launch) (Z : State) (a0 : Array Value) (hw : ∀ d ∈ tables_1, d.before a0 Z = true) (ws : List Jvm.Cond) (q1 : Int32) (n : Nat) (o : Addr) (ka : ClassId) (fill : Int32) (h0 : Heap) (n0 : Nat) (Z0 : n0 ≤ h0.size) (hn : n ≤ 6) (g_o : n0 ≤ o) (V : Arv Z h0 o ka .int 7 ((runO q1 (Int32.ofNat n) 0).2.map (own_val fill)) (.int (0 : Int32))) :
    MetFree l (⟨"com/example/noyau/noyau/solver/Propagator", "everyPlaceBut", "(II[I)I"⟩ : MethodName) (head1 (Jvm.Cond.code (⟨"com/example/noyau/noyau/solver/Propagator", "everyPlaceBut", "(II[I)I"⟩ : MethodName) prog_86_method_3_code 5 (some .int) :: ws) ({ frames := 0, cells := 0, slots := 0, locals := 0 } : Room)) (fun aA uU => aA = #[(.int q1), (.int (Int32.ofNat n)), (.ref o)] ∧ Z.Warmed39 uU.vm ∧ uU.heap = h0) (fun _ _ _ _ _ => True) (fun _ uU oO uV => ∃ vV lL, oO = .returned vV ∧ Q1 Z q1 n o ka fill h0 n0 vV uV.heap lL ∧ FrameEnd uU oO uV lL ({ frames := 0, cells := 0, slots := 0, locals := 0 } : Room).cells ({ frames := 0, cells := 0, slots := 0, locals := 0 } : Room).slots) := by
  refine MetFree.of_bodySF pf_1 hisR ?_
  intro p e s m args below meth c s₁ Bd hml0 hP hK
  obtain ⟨rfl, hZ, hh⟩ := hP
  have hx := Bd.exec
  have hby := Bd.bytes
  have hml : c.maxLocals = 5 := hml0
  have hown : s.vm.findClass "com/example/noyau/noyau/solver/Propagator" = some m.cls := findClass_of_methodNamed Bd.named
  have hnm := (name_of_methodNamed Bd.named Bd.method).1
  have X0 : Stand p l e ({ frames := 0, cells := 0, slots := 0, locals := 0 } : Room) s m #[(.int q1), (.int (Int32.ofNat n)), (.ref o)] below meth c s₁ [] 0 0 := Stand.of_body Bd
  have e0 : s₁.heap = h0 := by rw [← hh, Bd.state]; rfl
  have N0 := Fr.nil n0
  have pre0 : ∀ t, Steps p.tables e below (s₁.setTop (mkF m 0 #[.val (.int q1), .val (.int (Int32.ofNat n)), .val (.ref o), .unset, .unset] [])) t → Steps p.tables e below (s₁.setTop (entryFrame m #[(.int q1), (.int (Int32.ofNat n)), (.ref o)] 5)) t := fun t k => castTop (ef_1 m q1 (Int32.ofNat n) o) k
  obtain ⟨TL, hL, LL, XL, eL, NL, ZL, KL, VL, stL⟩ := loop1 (hh := h0) q1 n hn o ka fill n0 g_o hx hZ hw hby hml hown n 0 s₁ h0 _ (by omega) X0 e0 N0 Z0 (Keep.refl _ _) V
  obtain ⟨fs, hr, hrun, hended, hW, hsame⟩ := XL.leave (v := some (.int (Int32.ofNat (runO q1 (Int32.ofNat n) n).1))) (fun h => by rw [Bd.returns] at h; cases h)
  refine ⟨_, _, pre0 _ ?_, hrun, hended, _, _, rfl, ?_, ⟨_, rfl⟩, hW, hsame.mono (by decide) (by decide)⟩
  · show Steps p.tables e below (s₁.setTop (mkF m 0 #[.val (.int q1), .val (.int (Int32.ofNat n)), .val (.ref o), .unset, .unset] [])) _
    refine XS.iconst X0.here hx rfl (hb hby d1_0) ?_
    show Steps p.tables e below (s₁.setTop (mkF m 1 #[.val (.int q1), .val (.int (Int32.ofNat n)), .val (.ref o), .unset, .unset] [(.int (0 : Int32))])) _
    refine XS.istoreN X0.here hx rfl (hb hby d1_1) rfl (l' := #[.val (.int q1), .val (.int (Int32.ofNat n)), .val (.ref o), .val (.int (0 : Int32)), .unset]) rfl ?_
    show Steps p.tables e below (s₁.setTop (mkF m 2 #[.val (.int q1), .val (.int (Int32.ofNat n)), .val (.ref o), .val (.int (0 : Int32)), .unset] [])) _
    refine XS.iconst X0.here hx rfl (hb hby d1_2) ?_
    show Steps p.tables e below (s₁.setTop (mkF m 3 #[.val (.int q1), .val (.int (Int32.ofNat n)), .val (.ref o), .val (.int (0 : Int32)), .unset] [(.int (0 : Int32))])) _
    refine XS.istore X0.here hx rfl (hb hby d1_3) rfl (l' := #[.val (.int q1), .val (.int (Int32.ofNat n)), .val (.ref o), .val (.int (0 : Int32)), .val (.int (0 : Int32))]) rfl ?_
    refine stL _ ?_
    show Steps p.tables e below (TL.setTop (mkF m 36 #[.val (.int q1), .val (.int (Int32.ofNat n)), .val (.ref o), .val (.int (Int32.ofNat (runO q1 (Int32.ofNat n) n).1)), .val (.int (Int32.ofNat n))] [])) _
    refine XS.iloadN XL.here hx rfl (hb hby d1_36) rfl ?_
    show Steps p.tables e below (TL.setTop (mkF m 37 #[.val (.int q1), .val (.int (Int32.ofNat n)), .val (.ref o), .val (.int (Int32.ofNat (runO q1 (Int32.ofNat n) n).1)), .val (.int (Int32.ofNat n))] [(.int (Int32.ofNat (runO q1 (Int32.ofNat n) n).1))])) _
    exact retI XL hx Bd.returns (hb hby d1_37) hr
  · show Q1 Z q1 n o ka fill h0 n0 _ TL.heap _
    rw [eL]
    exact ⟨rfl, NL, KL, ZL, VL⟩
theorem d2_0 : decode method_3_code 0 = .ok (.iload_n 1, 1) := by decide +kernel
theorem d2_1 : decode method_3_code 1 = .ok (.iload 4, 2) := by decide +kernel
theorem d2_3 : decode method_3_code 3 = .ok (.if_icmp .lt 10, 3) := by decide +kernel
theorem d2_6 : decode method_3_code 6 = .ok (.iload 5, 2) := by decide +kernel
theorem d2_8 : decode method_3_code 8 = .ok (.istore 6, 2) := by decide +kernel
theorem d2_10 : decode method_3_code 10 = .ok (.goto 33, 3) := by decide +kernel
theorem d2_13 : decode method_3_code 13 = .ok (.iload_n 3, 1) := by decide +kernel
theorem d2_14 : decode method_3_code 14 = .ok (.iconst 1, 1) := by decide +kernel
theorem d2_15 : decode method_3_code 15 = .ok (.if_icmp .eq 25, 3) := by decide +kernel
theorem d2_18 : decode method_3_code 18 = .ok (.iload_n 2, 1) := by decide +kernel
theorem d2_19 : decode method_3_code 19 = .ok (.ifCond .lt 21, 3) := by decide +kernel
theorem d2_22 : decode method_3_code 22 = .ok (.iload_n 2, 1) := by decide +kernel
theorem d2_23 : decode method_3_code 23 = .ok (.iload_n 3, 1) := by decide +kernel
theorem d2_24 : decode method_3_code 24 = .ok (.if_icmp .ge 16, 3) := by decide +kernel
theorem d2_27 : decode method_3_code 27 = .ok (.iload_n 1, 1) := by decide +kernel
theorem d2_28 : decode method_3_code 28 = .ok (.iload_n 2, 1) := by decide +kernel
theorem d2_29 : decode method_3_code 29 = .ok (.if_icmp .lt 11, 3) := by decide +kernel
theorem d2_32 : decode method_3_code 32 = .ok (.iload_n 1, 1) := by decide +kernel
theorem d2_33 : decode method_3_code 33 = .ok (.iconst 1, 1) := by decide +kernel
theorem d2_34 : decode method_3_code 34 = .ok (.iadd, 1) := by decide +kernel
theorem d2_35 : decode method_3_code 35 = .ok (.istore 6, 2) := by decide +kernel
theorem d2_37 : decode method_3_code 37 = .ok (.goto 6, 3) := by decide +kernel
theorem d2_40 : decode method_3_code 40 = .ok (.iload_n 1, 1) := by decide +kernel
theorem d2_41 : decode method_3_code 41 = .ok (.istore 6, 2) := by decide +kernel
theorem d2_43 : decode method_3_code 43 = .ok (.aload_n 0, 1) := by decide +kernel
theorem d2_44 : decode method_3_code 44 = .ok (.iload_n 1, 1) := by decide +kernel
theorem d2_45 : decode method_3_code 45 = .ok (.iaload, 1) := by decide +kernel
theorem d2_46 : decode method_3_code 46 = .ok (.iload 6, 2) := by decide +kernel
theorem d2_48 : decode method_3_code 48 = .ok (.if_icmp .ne 7, 3) := by decide +kernel
theorem d2_51 : decode method_3_code 51 = .ok (.iconst 1, 1) := by decide +kernel
theorem d2_52 : decode method_3_code 52 = .ok (.goto 4, 3) := by decide +kernel
theorem d2_55 : decode method_3_code 55 = .ok (.iconst 0, 1) := by decide +kernel
theorem d2_56 : decode method_3_code 56 = .ok (.ireturn, 1) := by decide +kernel
theorem pn_2 : plainName "com/example/noyau/noyau/solver/PropagatorEveryPlaceButPinLaw" = true := by first | (simp [plainName, overriddenIn]; done) | decide +kernel
theorem pf_2 : plainFor (⟨"com/example/noyau/noyau/solver/PropagatorEveryPlaceButPinLaw", "at", "([IIIIII)Z"⟩ : MethodName) = true := plainFor_of_name pn_2
theorem ef_2 (m : MethodId) (x0 : Addr) (x1 x2 x3 x4 x5 : Int32) : entryFrame m #[(.ref x0), (.int x1), (.int x2), (.int x3), (.int x4), (.int x5)] 7 = mkF m 0 #[.val (.ref x0), .val (.int x1), .val (.int x2), .val (.int x3), .val (.int x4), .val (.int x5), .unset] [] := by first | (simp [entryFrame, mkF, argsToLocals, Value.category]; done) | rfl
def own_want (i q ar cnt fill : Int32) : Int32 := (if i < cnt then (if ar = (1 : Int32) then i else (if q < (0 : Int32) then i else (if q < ar then (if i < q then i else (i + (1 : Int32))) else i))) else fill)
def own_wantO (i q ar cnt : Int32) : Option Int32 := (if i < cnt then (if ar = (1 : Int32) then (some i) else (if q < (0 : Int32) then (some i) else (if q < ar then (if i < q then (some i) else (some (i + (1 : Int32)))) else (some i)))) else none)
theorem own_want_eq (i q ar cnt fill : Int32) : own_want i q ar cnt fill = (own_wantO i q ar cnt).getD fill := by
  unfold own_want own_wantO
  repeat' split
  all_goals rfl
def Q2 (h0 : Heap) (n0 : Nat) (v : Option Value) (h : Heap) (L : List Loc) : Prop := v = some (.int 1) ∧ Fr n0 L ∧ h = h0
set_option maxRecDepth 65536 in
set_option maxHeartbeats 40000000 in
theorem rm2 (l : Launch) (Z : State) (a0 : Array Value) (hw : ∀ d ∈ tables_1, d.before a0 Z = true) (ws : List Jvm.Cond) (o : Addr) (i q ar cnt fill : Int32) (x : Int32) (cl : Cell) (h0 : Heap) (n0 : Nat) (Z0 : n0 ≤ h0.size) (Ar : Arr Z h0 o cl .int) (hin : ¬ (i < 0 ∨ cl.slots.size ≤ i.toNatClampNeg)) (hat : cl.slots[i.toNatClampNeg]? = some (.int x)) (hwant : x = own_want i q ar cnt fill) :
    MetFree l (⟨"com/example/noyau/noyau/solver/PropagatorEveryPlaceButPinLaw", "at", "([IIIIII)Z"⟩ : MethodName) (head1 (Jvm.Cond.code (⟨"com/example/noyau/noyau/solver/PropagatorEveryPlaceButPinLaw", "at", "([IIIIII)Z"⟩ : MethodName) method_3_code 7 (some .boolean) :: ws) ({ frames := 0, cells := 0, slots := 0, locals := 0 } : Room)) (fun aA uU => aA = #[(.ref o), (.int i), (.int q), (.int ar), (.int cnt), (.int fill)] ∧ Z.Warmed39 uU.vm ∧ uU.heap = h0) (fun _ _ _ _ _ => True) (fun _ uU oO uV => ∃ vV lL, oO = .returned vV ∧ Q2 h0 n0 vV uV.heap lL ∧ FrameEnd uU oO uV lL ({ frames := 0, cells := 0, slots := 0, locals := 0 } : Room).cells ({ frames := 0, cells := 0, slots := 0, locals := 0 } : Room).slots) := by
  refine MetFree.of_bodySF pf_2 hisR ?_
  intro p e s m args below meth c s₁ Bd hml0 hP hK
  obtain ⟨rfl, hZ, hh⟩ := hP
  have hx := Bd.exec
  have hby := Bd.bytes
  have hml : c.maxLocals = 7 := hml0
  have hown : s.vm.findClass "com/example/noyau/noyau/solver/PropagatorEveryPlaceButPinLaw" = some m.cls := findClass_of_methodNamed Bd.named
  have hnm := (name_of_methodNamed Bd.named Bd.method).1
  have X0 : Stand p l e ({ frames := 0, cells := 0, slots := 0, locals := 0 } : Room) s m #[(.ref o), (.int i), (.int q), (.int ar), (.int cnt), (.int fill)] below meth c s₁ [] 0 0 := Stand.of_body Bd
  have e0 : s₁.heap = h0 := by rw [← hh, Bd.state]; rfl
  have N0 := Fr.nil n0
  have pre0 : ∀ t, Steps p.tables e below (s₁.setTop (mkF m 0 #[.val (.ref o), .val (.int i), .val (.int q), .val (.int ar), .val (.int cnt), .val (.int fill), .unset] [])) t → Steps p.tables e below (s₁.setTop (entryFrame m #[(.ref o), (.int i), (.int q), (.int ar), (.int cnt), (.int fill)] 7)) t := fun t k => castTop (ef_2 m o i q ar cnt fill) k
  obtain ⟨fs, hr, hrun, hended, hW, hsame⟩ := X0.leave (v := some (.int (1 : Int32))) (fun h => by rw [Bd.returns] at h; cases h)
  refine ⟨_, _, pre0 _ ?_, hrun, hended, _, _, rfl, ?_, ⟨_, rfl⟩, hW, hsame.mono (by decide) (by decide)⟩
  · show Steps p.tables e below (s₁.setTop (mkF m 0 #[.val (.ref o), .val (.int i), .val (.int q), .val (.int ar), .val (.int cnt), .val (.int fill), .unset] [])) _
    refine XS.iloadN X0.here hx rfl (hb hby d2_0) rfl ?_
    show Steps p.tables e below (s₁.setTop (mkF m 1 #[.val (.ref o), .val (.int i), .val (.int q), .val (.int ar), .val (.int cnt), .val (.int fill), .unset] [(.int i)])) _
    refine XS.iload X0.here hx rfl (hb hby d2_1) rfl ?_
    show Steps p.tables e below (s₁.setTop (mkF m 3 #[.val (.ref o), .val (.int i), .val (.int q), .val (.int ar), .val (.int cnt), .val (.int fill), .unset] [(.int cnt), (.int i)])) _
    by_cases hc1 : i < cnt
    · refine XS.icmpYes X0.here hx rfl (pc0 := 3) (pc' := 13) rfl (hb hby d2_3) rfl (tlt hc1).1 (by decide) (by decide) ?_
      show Steps p.tables e below (s₁.setTop (mkF m 13 #[.val (.ref o), .val (.int i), .val (.int q), .val (.int ar), .val (.int cnt), .val (.int fill), .unset] [])) _
      refine XS.iloadN X0.here hx rfl (hb hby d2_13) rfl ?_
      show Steps p.tables e below (s₁.setTop (mkF m 14 #[.val (.ref o), .val (.int i), .val (.int q), .val (.int ar), .val (.int cnt), .val (.int fill), .unset] [(.int ar)])) _
      refine XS.iconst X0.here hx rfl (hb hby d2_14) ?_
      show Steps p.tables e below (s₁.setTop (mkF m 15 #[.val (.ref o), .val (.int i), .val (.int q), .val (.int ar), .val (.int cnt), .val (.int fill), .unset] [(.int (1 : Int32)), (.int ar)])) _
      by_cases hc2 : ar = (1 : Int32)
      · refine XS.icmpYes X0.here hx rfl (pc0 := 15) (pc' := 40) rfl (hb hby d2_15) rfl (teq hc2).1 (by decide) (by decide) ?_
        show Steps p.tables e below (s₁.setTop (mkF m 40 #[.val (.ref o), .val (.int i), .val (.int q), .val (.int ar), .val (.int cnt), .val (.int fill), .unset] [])) _
        refine XS.iloadN X0.here hx rfl (hb hby d2_40) rfl ?_
        show Steps p.tables e below (s₁.setTop (mkF m 41 #[.val (.ref o), .val (.int i), .val (.int q), .val (.int ar), .val (.int cnt), .val (.int fill), .unset] [(.int i)])) _
        refine XS.istore X0.here hx rfl (hb hby d2_41) rfl (l' := #[.val (.ref o), .val (.int i), .val (.int q), .val (.int ar), .val (.int cnt), .val (.int fill), .val (.int i)]) rfl ?_
        have hwn : x = i := hwant.trans (show own_want i q ar cnt fill = i from (if_pos hc1).trans ((if_pos hc2).trans rfl))
        show Steps p.tables e below (s₁.setTop (mkF m 43 #[.val (.ref o), .val (.int i), .val (.int q), .val (.int ar), .val (.int cnt), .val (.int fill), .val (.int i)] [])) _
        refine XS.aloadN X0.here hx rfl (hb hby d2_43) rfl rfl ?_
        show Steps p.tables e below (s₁.setTop (mkF m 44 #[.val (.ref o), .val (.int i), .val (.int q), .val (.int ar), .val (.int cnt), .val (.int fill), .val (.int i)] [(.ref o)])) _
        refine XS.iloadN X0.here hx rfl (hb hby d2_44) rfl ?_
        show Steps p.tables e below (s₁.setTop (mkF m 45 #[.val (.ref o), .val (.int i), .val (.int q), .val (.int ar), .val (.int cnt), .val (.int fill), .val (.int i)] [(.int i), (.ref o)])) _
        refine X0.iaload hx (j := i) (v := (.int x)) (by rw [e0]; exact Ar.1) (State.isArrayOf_alike hZ.alike Ar.2.1) Ar.2.2 hin hat (g := (mkF m 45 #[.val (.ref o), .val (.int i), .val (.int q), .val (.int ar), .val (.int cnt), .val (.int fill), .val (.int i)] [(.int i), (.ref o)])) rfl rfl (hb hby d2_45) _ ?_
        show Steps p.tables e below (s₁.setTop (mkF m 46 #[.val (.ref o), .val (.int i), .val (.int q), .val (.int ar), .val (.int cnt), .val (.int fill), .val (.int i)] [(.int x)])) _
        refine XS.iload X0.here hx rfl (hb hby d2_46) rfl ?_
        show Steps p.tables e below (s₁.setTop (mkF m 48 #[.val (.ref o), .val (.int i), .val (.int q), .val (.int ar), .val (.int cnt), .val (.int fill), .val (.int i)] [(.int i), (.int x)])) _
        refine XS.icmpNo X0.here hx rfl (hb hby d2_48) rfl (teq (hwn : x = i)).2 ?_
        show Steps p.tables e below (s₁.setTop (mkF m 51 #[.val (.ref o), .val (.int i), .val (.int q), .val (.int ar), .val (.int cnt), .val (.int fill), .val (.int i)] [])) _
        refine XS.iconst X0.here hx rfl (hb hby d2_51) ?_
        show Steps p.tables e below (s₁.setTop (mkF m 52 #[.val (.ref o), .val (.int i), .val (.int q), .val (.int ar), .val (.int cnt), .val (.int fill), .val (.int i)] [(.int (1 : Int32))])) _
        refine XS.goto X0.here hx rfl (pc0 := 52) (pc' := 56) rfl (hb hby d2_52) (by decide) (by decide) ?_
        show Steps p.tables e below (s₁.setTop (mkF m 56 #[.val (.ref o), .val (.int i), .val (.int q), .val (.int ar), .val (.int cnt), .val (.int fill), .val (.int i)] [(.int (1 : Int32))])) _
        exact retN X0 hx (t := .boolean) Bd.returns (by simp) (hb hby d2_56) hr
      · refine XS.icmpNo X0.here hx rfl (hb hby d2_15) rfl (feq hc2).1 ?_
        show Steps p.tables e below (s₁.setTop (mkF m 18 #[.val (.ref o), .val (.int i), .val (.int q), .val (.int ar), .val (.int cnt), .val (.int fill), .unset] [])) _
        refine XS.iloadN X0.here hx rfl (hb hby d2_18) rfl ?_
        show Steps p.tables e below (s₁.setTop (mkF m 19 #[.val (.ref o), .val (.int i), .val (.int q), .val (.int ar), .val (.int cnt), .val (.int fill), .unset] [(.int q)])) _
        by_cases hc3 : q < (0 : Int32)
        · refine XS.ifYes X0.here hx rfl (pc0 := 19) (pc' := 40) rfl (hb hby d2_19) rfl ((if0 _ _).trans (tlt hc3).1) (by decide) (by decide) ?_
          show Steps p.tables e below (s₁.setTop (mkF m 40 #[.val (.ref o), .val (.int i), .val (.int q), .val (.int ar), .val (.int cnt), .val (.int fill), .unset] [])) _
          refine XS.iloadN X0.here hx rfl (hb hby d2_40) rfl ?_
          show Steps p.tables e below (s₁.setTop (mkF m 41 #[.val (.ref o), .val (.int i), .val (.int q), .val (.int ar), .val (.int cnt), .val (.int fill), .unset] [(.int i)])) _
          refine XS.istore X0.here hx rfl (hb hby d2_41) rfl (l' := #[.val (.ref o), .val (.int i), .val (.int q), .val (.int ar), .val (.int cnt), .val (.int fill), .val (.int i)]) rfl ?_
          have hwn : x = i := hwant.trans (show own_want i q ar cnt fill = i from (if_pos hc1).trans ((if_neg hc2).trans ((if_pos hc3).trans rfl)))
          show Steps p.tables e below (s₁.setTop (mkF m 43 #[.val (.ref o), .val (.int i), .val (.int q), .val (.int ar), .val (.int cnt), .val (.int fill), .val (.int i)] [])) _
          refine XS.aloadN X0.here hx rfl (hb hby d2_43) rfl rfl ?_
          show Steps p.tables e below (s₁.setTop (mkF m 44 #[.val (.ref o), .val (.int i), .val (.int q), .val (.int ar), .val (.int cnt), .val (.int fill), .val (.int i)] [(.ref o)])) _
          refine XS.iloadN X0.here hx rfl (hb hby d2_44) rfl ?_
          show Steps p.tables e below (s₁.setTop (mkF m 45 #[.val (.ref o), .val (.int i), .val (.int q), .val (.int ar), .val (.int cnt), .val (.int fill), .val (.int i)] [(.int i), (.ref o)])) _
          refine X0.iaload hx (j := i) (v := (.int x)) (by rw [e0]; exact Ar.1) (State.isArrayOf_alike hZ.alike Ar.2.1) Ar.2.2 hin hat (g := (mkF m 45 #[.val (.ref o), .val (.int i), .val (.int q), .val (.int ar), .val (.int cnt), .val (.int fill), .val (.int i)] [(.int i), (.ref o)])) rfl rfl (hb hby d2_45) _ ?_
          show Steps p.tables e below (s₁.setTop (mkF m 46 #[.val (.ref o), .val (.int i), .val (.int q), .val (.int ar), .val (.int cnt), .val (.int fill), .val (.int i)] [(.int x)])) _
          refine XS.iload X0.here hx rfl (hb hby d2_46) rfl ?_
          show Steps p.tables e below (s₁.setTop (mkF m 48 #[.val (.ref o), .val (.int i), .val (.int q), .val (.int ar), .val (.int cnt), .val (.int fill), .val (.int i)] [(.int i), (.int x)])) _
          refine XS.icmpNo X0.here hx rfl (hb hby d2_48) rfl (teq (hwn : x = i)).2 ?_
          show Steps p.tables e below (s₁.setTop (mkF m 51 #[.val (.ref o), .val (.int i), .val (.int q), .val (.int ar), .val (.int cnt), .val (.int fill), .val (.int i)] [])) _
          refine XS.iconst X0.here hx rfl (hb hby d2_51) ?_
          show Steps p.tables e below (s₁.setTop (mkF m 52 #[.val (.ref o), .val (.int i), .val (.int q), .val (.int ar), .val (.int cnt), .val (.int fill), .val (.int i)] [(.int (1 : Int32))])) _
          refine XS.goto X0.here hx rfl (pc0 := 52) (pc' := 56) rfl (hb hby d2_52) (by decide) (by decide) ?_
          show Steps p.tables e below (s₁.setTop (mkF m 56 #[.val (.ref o), .val (.int i), .val (.int q), .val (.int ar), .val (.int cnt), .val (.int fill), .val (.int i)] [(.int (1 : Int32))])) _
          exact retN X0 hx (t := .boolean) Bd.returns (by simp) (hb hby d2_56) hr
        · refine XS.ifNo X0.here hx rfl (hb hby d2_19) rfl ((if0 _ _).trans (flt hc3).1) ?_
          show Steps p.tables e below (s₁.setTop (mkF m 22 #[.val (.ref o), .val (.int i), .val (.int q), .val (.int ar), .val (.int cnt), .val (.int fill), .unset] [])) _
          refine XS.iloadN X0.here hx rfl (hb hby d2_22) rfl ?_
          show Steps p.tables e below (s₁.setTop (mkF m 23 #[.val (.ref o), .val (.int i), .val (.int q), .val (.int ar), .val (.int cnt), .val (.int fill), .unset] [(.int q)])) _
          refine XS.iloadN X0.here hx rfl (hb hby d2_23) rfl ?_
          show Steps p.tables e below (s₁.setTop (mkF m 24 #[.val (.ref o), .val (.int i), .val (.int q), .val (.int ar), .val (.int cnt), .val (.int fill), .unset] [(.int ar), (.int q)])) _
          by_cases hc4 : q < ar
          · refine XS.icmpNo X0.here hx rfl (hb hby d2_24) rfl (tlt hc4).2.1 ?_
            show Steps p.tables e below (s₁.setTop (mkF m 27 #[.val (.ref o), .val (.int i), .val (.int q), .val (.int ar), .val (.int cnt), .val (.int fill), .unset] [])) _
            refine XS.iloadN X0.here hx rfl (hb hby d2_27) rfl ?_
            show Steps p.tables e below (s₁.setTop (mkF m 28 #[.val (.ref o), .val (.int i), .val (.int q), .val (.int ar), .val (.int cnt), .val (.int fill), .unset] [(.int i)])) _
            refine XS.iloadN X0.here hx rfl (hb hby d2_28) rfl ?_
            show Steps p.tables e below (s₁.setTop (mkF m 29 #[.val (.ref o), .val (.int i), .val (.int q), .val (.int ar), .val (.int cnt), .val (.int fill), .unset] [(.int q), (.int i)])) _
            by_cases hc5 : i < q
            · refine XS.icmpYes X0.here hx rfl (pc0 := 29) (pc' := 40) rfl (hb hby d2_29) rfl (tlt hc5).1 (by decide) (by decide) ?_
              show Steps p.tables e below (s₁.setTop (mkF m 40 #[.val (.ref o), .val (.int i), .val (.int q), .val (.int ar), .val (.int cnt), .val (.int fill), .unset] [])) _
              refine XS.iloadN X0.here hx rfl (hb hby d2_40) rfl ?_
              show Steps p.tables e below (s₁.setTop (mkF m 41 #[.val (.ref o), .val (.int i), .val (.int q), .val (.int ar), .val (.int cnt), .val (.int fill), .unset] [(.int i)])) _
              refine XS.istore X0.here hx rfl (hb hby d2_41) rfl (l' := #[.val (.ref o), .val (.int i), .val (.int q), .val (.int ar), .val (.int cnt), .val (.int fill), .val (.int i)]) rfl ?_
              have hwn : x = i := hwant.trans (show own_want i q ar cnt fill = i from (if_pos hc1).trans ((if_neg hc2).trans ((if_neg hc3).trans ((if_pos hc4).trans ((if_pos hc5).trans rfl)))))
              show Steps p.tables e below (s₁.setTop (mkF m 43 #[.val (.ref o), .val (.int i), .val (.int q), .val (.int ar), .val (.int cnt), .val (.int fill), .val (.int i)] [])) _
              refine XS.aloadN X0.here hx rfl (hb hby d2_43) rfl rfl ?_
              show Steps p.tables e below (s₁.setTop (mkF m 44 #[.val (.ref o), .val (.int i), .val (.int q), .val (.int ar), .val (.int cnt), .val (.int fill), .val (.int i)] [(.ref o)])) _
              refine XS.iloadN X0.here hx rfl (hb hby d2_44) rfl ?_
              show Steps p.tables e below (s₁.setTop (mkF m 45 #[.val (.ref o), .val (.int i), .val (.int q), .val (.int ar), .val (.int cnt), .val (.int fill), .val (.int i)] [(.int i), (.ref o)])) _
              refine X0.iaload hx (j := i) (v := (.int x)) (by rw [e0]; exact Ar.1) (State.isArrayOf_alike hZ.alike Ar.2.1) Ar.2.2 hin hat (g := (mkF m 45 #[.val (.ref o), .val (.int i), .val (.int q), .val (.int ar), .val (.int cnt), .val (.int fill), .val (.int i)] [(.int i), (.ref o)])) rfl rfl (hb hby d2_45) _ ?_
              show Steps p.tables e below (s₁.setTop (mkF m 46 #[.val (.ref o), .val (.int i), .val (.int q), .val (.int ar), .val (.int cnt), .val (.int fill), .val (.int i)] [(.int x)])) _
              refine XS.iload X0.here hx rfl (hb hby d2_46) rfl ?_
              show Steps p.tables e below (s₁.setTop (mkF m 48 #[.val (.ref o), .val (.int i), .val (.int q), .val (.int ar), .val (.int cnt), .val (.int fill), .val (.int i)] [(.int i), (.int x)])) _
              refine XS.icmpNo X0.here hx rfl (hb hby d2_48) rfl (teq (hwn : x = i)).2 ?_
              show Steps p.tables e below (s₁.setTop (mkF m 51 #[.val (.ref o), .val (.int i), .val (.int q), .val (.int ar), .val (.int cnt), .val (.int fill), .val (.int i)] [])) _
              refine XS.iconst X0.here hx rfl (hb hby d2_51) ?_
              show Steps p.tables e below (s₁.setTop (mkF m 52 #[.val (.ref o), .val (.int i), .val (.int q), .val (.int ar), .val (.int cnt), .val (.int fill), .val (.int i)] [(.int (1 : Int32))])) _
              refine XS.goto X0.here hx rfl (pc0 := 52) (pc' := 56) rfl (hb hby d2_52) (by decide) (by decide) ?_
              show Steps p.tables e below (s₁.setTop (mkF m 56 #[.val (.ref o), .val (.int i), .val (.int q), .val (.int ar), .val (.int cnt), .val (.int fill), .val (.int i)] [(.int (1 : Int32))])) _
              exact retN X0 hx (t := .boolean) Bd.returns (by simp) (hb hby d2_56) hr
            · refine XS.icmpNo X0.here hx rfl (hb hby d2_29) rfl (flt hc5).1 ?_
              show Steps p.tables e below (s₁.setTop (mkF m 32 #[.val (.ref o), .val (.int i), .val (.int q), .val (.int ar), .val (.int cnt), .val (.int fill), .unset] [])) _
              refine XS.iloadN X0.here hx rfl (hb hby d2_32) rfl ?_
              show Steps p.tables e below (s₁.setTop (mkF m 33 #[.val (.ref o), .val (.int i), .val (.int q), .val (.int ar), .val (.int cnt), .val (.int fill), .unset] [(.int i)])) _
              refine XS.iconst X0.here hx rfl (hb hby d2_33) ?_
              show Steps p.tables e below (s₁.setTop (mkF m 34 #[.val (.ref o), .val (.int i), .val (.int q), .val (.int ar), .val (.int cnt), .val (.int fill), .unset] [(.int (1 : Int32)), (.int i)])) _
              refine XS.iadd X0.here hx rfl (hb hby d2_34) rfl ?_
              show Steps p.tables e below (s₁.setTop (mkF m 35 #[.val (.ref o), .val (.int i), .val (.int q), .val (.int ar), .val (.int cnt), .val (.int fill), .unset] [(.int (i + (1 : Int32)))])) _
              refine XS.istore X0.here hx rfl (hb hby d2_35) rfl (l' := #[.val (.ref o), .val (.int i), .val (.int q), .val (.int ar), .val (.int cnt), .val (.int fill), .val (.int (i + (1 : Int32)))]) rfl ?_
              show Steps p.tables e below (s₁.setTop (mkF m 37 #[.val (.ref o), .val (.int i), .val (.int q), .val (.int ar), .val (.int cnt), .val (.int fill), .val (.int (i + (1 : Int32)))] [])) _
              refine XS.goto X0.here hx rfl (pc0 := 37) (pc' := 43) rfl (hb hby d2_37) (by decide) (by decide) ?_
              have hwn : x = (i + (1 : Int32)) := hwant.trans (show own_want i q ar cnt fill = (i + (1 : Int32)) from (if_pos hc1).trans ((if_neg hc2).trans ((if_neg hc3).trans ((if_pos hc4).trans ((if_neg hc5).trans rfl)))))
              show Steps p.tables e below (s₁.setTop (mkF m 43 #[.val (.ref o), .val (.int i), .val (.int q), .val (.int ar), .val (.int cnt), .val (.int fill), .val (.int (i + (1 : Int32)))] [])) _
              refine XS.aloadN X0.here hx rfl (hb hby d2_43) rfl rfl ?_
              show Steps p.tables e below (s₁.setTop (mkF m 44 #[.val (.ref o), .val (.int i), .val (.int q), .val (.int ar), .val (.int cnt), .val (.int fill), .val (.int (i + (1 : Int32)))] [(.ref o)])) _
              refine XS.iloadN X0.here hx rfl (hb hby d2_44) rfl ?_
              show Steps p.tables e below (s₁.setTop (mkF m 45 #[.val (.ref o), .val (.int i), .val (.int q), .val (.int ar), .val (.int cnt), .val (.int fill), .val (.int (i + (1 : Int32)))] [(.int i), (.ref o)])) _
              refine X0.iaload hx (j := i) (v := (.int x)) (by rw [e0]; exact Ar.1) (State.isArrayOf_alike hZ.alike Ar.2.1) Ar.2.2 hin hat (g := (mkF m 45 #[.val (.ref o), .val (.int i), .val (.int q), .val (.int ar), .val (.int cnt), .val (.int fill), .val (.int (i + (1 : Int32)))] [(.int i), (.ref o)])) rfl rfl (hb hby d2_45) _ ?_
              show Steps p.tables e below (s₁.setTop (mkF m 46 #[.val (.ref o), .val (.int i), .val (.int q), .val (.int ar), .val (.int cnt), .val (.int fill), .val (.int (i + (1 : Int32)))] [(.int x)])) _
              refine XS.iload X0.here hx rfl (hb hby d2_46) rfl ?_
              show Steps p.tables e below (s₁.setTop (mkF m 48 #[.val (.ref o), .val (.int i), .val (.int q), .val (.int ar), .val (.int cnt), .val (.int fill), .val (.int (i + (1 : Int32)))] [(.int (i + (1 : Int32))), (.int x)])) _
              refine XS.icmpNo X0.here hx rfl (hb hby d2_48) rfl (teq (hwn : x = (i + (1 : Int32)))).2 ?_
              show Steps p.tables e below (s₁.setTop (mkF m 51 #[.val (.ref o), .val (.int i), .val (.int q), .val (.int ar), .val (.int cnt), .val (.int fill), .val (.int (i + (1 : Int32)))] [])) _
              refine XS.iconst X0.here hx rfl (hb hby d2_51) ?_
              show Steps p.tables e below (s₁.setTop (mkF m 52 #[.val (.ref o), .val (.int i), .val (.int q), .val (.int ar), .val (.int cnt), .val (.int fill), .val (.int (i + (1 : Int32)))] [(.int (1 : Int32))])) _
              refine XS.goto X0.here hx rfl (pc0 := 52) (pc' := 56) rfl (hb hby d2_52) (by decide) (by decide) ?_
              show Steps p.tables e below (s₁.setTop (mkF m 56 #[.val (.ref o), .val (.int i), .val (.int q), .val (.int ar), .val (.int cnt), .val (.int fill), .val (.int (i + (1 : Int32)))] [(.int (1 : Int32))])) _
              exact retN X0 hx (t := .boolean) Bd.returns (by simp) (hb hby d2_56) hr
          · refine XS.icmpYes X0.here hx rfl (pc0 := 24) (pc' := 40) rfl (hb hby d2_24) rfl (flt hc4).2.1 (by decide) (by decide) ?_
            show Steps p.tables e below (s₁.setTop (mkF m 40 #[.val (.ref o), .val (.int i), .val (.int q), .val (.int ar), .val (.int cnt), .val (.int fill), .unset] [])) _
            refine XS.iloadN X0.here hx rfl (hb hby d2_40) rfl ?_
            show Steps p.tables e below (s₁.setTop (mkF m 41 #[.val (.ref o), .val (.int i), .val (.int q), .val (.int ar), .val (.int cnt), .val (.int fill), .unset] [(.int i)])) _
            refine XS.istore X0.here hx rfl (hb hby d2_41) rfl (l' := #[.val (.ref o), .val (.int i), .val (.int q), .val (.int ar), .val (.int cnt), .val (.int fill), .val (.int i)]) rfl ?_
            have hwn : x = i := hwant.trans (show own_want i q ar cnt fill = i from (if_pos hc1).trans ((if_neg hc2).trans ((if_neg hc3).trans ((if_neg hc4).trans rfl))))
            show Steps p.tables e below (s₁.setTop (mkF m 43 #[.val (.ref o), .val (.int i), .val (.int q), .val (.int ar), .val (.int cnt), .val (.int fill), .val (.int i)] [])) _
            refine XS.aloadN X0.here hx rfl (hb hby d2_43) rfl rfl ?_
            show Steps p.tables e below (s₁.setTop (mkF m 44 #[.val (.ref o), .val (.int i), .val (.int q), .val (.int ar), .val (.int cnt), .val (.int fill), .val (.int i)] [(.ref o)])) _
            refine XS.iloadN X0.here hx rfl (hb hby d2_44) rfl ?_
            show Steps p.tables e below (s₁.setTop (mkF m 45 #[.val (.ref o), .val (.int i), .val (.int q), .val (.int ar), .val (.int cnt), .val (.int fill), .val (.int i)] [(.int i), (.ref o)])) _
            refine X0.iaload hx (j := i) (v := (.int x)) (by rw [e0]; exact Ar.1) (State.isArrayOf_alike hZ.alike Ar.2.1) Ar.2.2 hin hat (g := (mkF m 45 #[.val (.ref o), .val (.int i), .val (.int q), .val (.int ar), .val (.int cnt), .val (.int fill), .val (.int i)] [(.int i), (.ref o)])) rfl rfl (hb hby d2_45) _ ?_
            show Steps p.tables e below (s₁.setTop (mkF m 46 #[.val (.ref o), .val (.int i), .val (.int q), .val (.int ar), .val (.int cnt), .val (.int fill), .val (.int i)] [(.int x)])) _
            refine XS.iload X0.here hx rfl (hb hby d2_46) rfl ?_
            show Steps p.tables e below (s₁.setTop (mkF m 48 #[.val (.ref o), .val (.int i), .val (.int q), .val (.int ar), .val (.int cnt), .val (.int fill), .val (.int i)] [(.int i), (.int x)])) _
            refine XS.icmpNo X0.here hx rfl (hb hby d2_48) rfl (teq (hwn : x = i)).2 ?_
            show Steps p.tables e below (s₁.setTop (mkF m 51 #[.val (.ref o), .val (.int i), .val (.int q), .val (.int ar), .val (.int cnt), .val (.int fill), .val (.int i)] [])) _
            refine XS.iconst X0.here hx rfl (hb hby d2_51) ?_
            show Steps p.tables e below (s₁.setTop (mkF m 52 #[.val (.ref o), .val (.int i), .val (.int q), .val (.int ar), .val (.int cnt), .val (.int fill), .val (.int i)] [(.int (1 : Int32))])) _
            refine XS.goto X0.here hx rfl (pc0 := 52) (pc' := 56) rfl (hb hby d2_52) (by decide) (by decide) ?_
            show Steps p.tables e below (s₁.setTop (mkF m 56 #[.val (.ref o), .val (.int i), .val (.int q), .val (.int ar), .val (.int cnt), .val (.int fill), .val (.int i)] [(.int (1 : Int32))])) _
            exact retN X0 hx (t := .boolean) Bd.returns (by simp) (hb hby d2_56) hr
    · refine XS.icmpNo X0.here hx rfl (hb hby d2_3) rfl (flt hc1).1 ?_
      show Steps p.tables e below (s₁.setTop (mkF m 6 #[.val (.ref o), .val (.int i), .val (.int q), .val (.int ar), .val (.int cnt), .val (.int fill), .unset] [])) _
      refine XS.iload X0.here hx rfl (hb hby d2_6) rfl ?_
      show Steps p.tables e below (s₁.setTop (mkF m 8 #[.val (.ref o), .val (.int i), .val (.int q), .val (.int ar), .val (.int cnt), .val (.int fill), .unset] [(.int fill)])) _
      refine XS.istore X0.here hx rfl (hb hby d2_8) rfl (l' := #[.val (.ref o), .val (.int i), .val (.int q), .val (.int ar), .val (.int cnt), .val (.int fill), .val (.int fill)]) rfl ?_
      show Steps p.tables e below (s₁.setTop (mkF m 10 #[.val (.ref o), .val (.int i), .val (.int q), .val (.int ar), .val (.int cnt), .val (.int fill), .val (.int fill)] [])) _
      refine XS.goto X0.here hx rfl (pc0 := 10) (pc' := 43) rfl (hb hby d2_10) (by decide) (by decide) ?_
      have hwn : x = fill := hwant.trans (show own_want i q ar cnt fill = fill from (if_neg hc1).trans rfl)
      show Steps p.tables e below (s₁.setTop (mkF m 43 #[.val (.ref o), .val (.int i), .val (.int q), .val (.int ar), .val (.int cnt), .val (.int fill), .val (.int fill)] [])) _
      refine XS.aloadN X0.here hx rfl (hb hby d2_43) rfl rfl ?_
      show Steps p.tables e below (s₁.setTop (mkF m 44 #[.val (.ref o), .val (.int i), .val (.int q), .val (.int ar), .val (.int cnt), .val (.int fill), .val (.int fill)] [(.ref o)])) _
      refine XS.iloadN X0.here hx rfl (hb hby d2_44) rfl ?_
      show Steps p.tables e below (s₁.setTop (mkF m 45 #[.val (.ref o), .val (.int i), .val (.int q), .val (.int ar), .val (.int cnt), .val (.int fill), .val (.int fill)] [(.int i), (.ref o)])) _
      refine X0.iaload hx (j := i) (v := (.int x)) (by rw [e0]; exact Ar.1) (State.isArrayOf_alike hZ.alike Ar.2.1) Ar.2.2 hin hat (g := (mkF m 45 #[.val (.ref o), .val (.int i), .val (.int q), .val (.int ar), .val (.int cnt), .val (.int fill), .val (.int fill)] [(.int i), (.ref o)])) rfl rfl (hb hby d2_45) _ ?_
      show Steps p.tables e below (s₁.setTop (mkF m 46 #[.val (.ref o), .val (.int i), .val (.int q), .val (.int ar), .val (.int cnt), .val (.int fill), .val (.int fill)] [(.int x)])) _
      refine XS.iload X0.here hx rfl (hb hby d2_46) rfl ?_
      show Steps p.tables e below (s₁.setTop (mkF m 48 #[.val (.ref o), .val (.int i), .val (.int q), .val (.int ar), .val (.int cnt), .val (.int fill), .val (.int fill)] [(.int fill), (.int x)])) _
      refine XS.icmpNo X0.here hx rfl (hb hby d2_48) rfl (teq (hwn : x = fill)).2 ?_
      show Steps p.tables e below (s₁.setTop (mkF m 51 #[.val (.ref o), .val (.int i), .val (.int q), .val (.int ar), .val (.int cnt), .val (.int fill), .val (.int fill)] [])) _
      refine XS.iconst X0.here hx rfl (hb hby d2_51) ?_
      show Steps p.tables e below (s₁.setTop (mkF m 52 #[.val (.ref o), .val (.int i), .val (.int q), .val (.int ar), .val (.int cnt), .val (.int fill), .val (.int fill)] [(.int (1 : Int32))])) _
      refine XS.goto X0.here hx rfl (pc0 := 52) (pc' := 56) rfl (hb hby d2_52) (by decide) (by decide) ?_
      show Steps p.tables e below (s₁.setTop (mkF m 56 #[.val (.ref o), .val (.int i), .val (.int q), .val (.int ar), .val (.int cnt), .val (.int fill), .val (.int fill)] [(.int (1 : Int32))])) _
      exact retN X0 hx (t := .boolean) Bd.returns (by simp) (hb hby d2_56) hr
  · show Q2 h0 n0 _ s₁.heap _
    rw [e0]
    exact ⟨rfl, N0, rfl⟩
def own_ar (x : Int32) : Int32 := (x &&& 2147483647) % 7
def own_q (x : Int32) : Int32 := (x &&& 7) - 1
theorem own_ar_spec (x : Int32) : ∃ n : Nat, n ≤ 6 ∧ own_ar x = Int32.ofNat n := by
  have e1 := c_mask x 2147483647 31 (by decide) (by decide)
  have e2 := (c_irem (x &&& 2147483647) 7 7 (by decide)).1 (by omega)
  refine ⟨((x &&& 2147483647) % 7).toInt.toNat, by omega, ?_⟩
  unfold own_ar
  apply Int32.toInt_inj.mp
  rw [Int32.toInt_ofNat_of_lt (by omega)]
  omega
theorem own_q_spec (x : Int32) : ∃ k : Nat, k < 8 ∧ own_q x = Int32.ofNat k - 1 := by
  have e1 := c_mask x 7 3 (by decide) (by decide)
  refine ⟨(x &&& 7).toInt.toNat, by omega, ?_⟩
  unfold own_q
  have e : x &&& 7 = Int32.ofNat (x &&& 7).toInt.toNat := by
    apply Int32.toInt_inj.mp
    rw [Int32.toInt_ofNat_of_lt (by omega)]
    omega
  rw [← e]
def own_ins (q ar : Int32) : Int32 := (if q < (0 : Int32) then (if ar = (1 : Int32) then (0 : Int32) else (0 : Int32)) else (if q < ar then (if ar = (1 : Int32) then (1 : Int32) else (1 : Int32)) else (if ar = (1 : Int32) then (0 : Int32) else (0 : Int32))))
def own_exp (q ar : Int32) : Int32 := (if q < (0 : Int32) then (if ar = (1 : Int32) then (1 : Int32) else ar) else (if q < ar then (if ar = (1 : Int32) then (1 : Int32) else (ar - (1 : Int32))) else (if ar = (1 : Int32) then (1 : Int32) else ar)))
def own_ok (n k : Nat) : Bool := decide (Int32.ofNat (runO (Int32.ofNat k - 1) (Int32.ofNat n) n).1 = own_exp (Int32.ofNat k - 1) (Int32.ofNat n)) && (List.range 7).all (fun i => decide ((runO (Int32.ofNat k - 1) (Int32.ofNat n) n).2.getD i none = own_wantO (Int32.ofNat i) (Int32.ofNat k - 1) (Int32.ofNat n) (own_exp (Int32.ofNat k - 1) (Int32.ofNat n))))
theorem own_oks : ∀ n : Fin 7, ∀ k : Fin 8, own_ok n.val k.val = true := by decide +kernel
theorem own_cnt {n k : Nat} (hn : n ≤ 6) (hk : k < 8) : Int32.ofNat (runO (Int32.ofNat k - 1) (Int32.ofNat n) n).1 = own_exp (Int32.ofNat k - 1) (Int32.ofNat n) := by
  have h := own_oks ⟨n, by omega⟩ ⟨k, hk⟩
  simp only [own_ok, Bool.and_eq_true] at h
  exact of_decide_eq_true h.1
theorem own_pl {n k : Nat} (hn : n ≤ 6) (hk : k < 8) (i : Nat) (hi : i < 7) (fill : Int32) : ((runO (Int32.ofNat k - 1) (Int32.ofNat n) n).2.getD i none).getD fill = own_want (Int32.ofNat i) (Int32.ofNat k - 1) (Int32.ofNat n) (own_exp (Int32.ofNat k - 1) (Int32.ofNat n)) fill := by
  have h := own_oks ⟨n, by omega⟩ ⟨k, hk⟩
  simp only [own_ok, Bool.and_eq_true] at h
  have h2 := of_decide_eq_true (List.all_eq_true.mp h.2 i (List.mem_range.mpr hi))
  rw [own_want_eq, h2]
theorem pd_1 : parseMethodDescriptor "(II[I)I" = some ⟨[.int, .int, (.array .int)], some .int⟩ := by decide +kernel
theorem pd_2 : parseMethodDescriptor "([IIIIII)Z" = some ⟨[(.array .int), .int, .int, .int, .int, .int], some .boolean⟩ := by decide +kernel
theorem pn_0 : plainName "com/example/noyau/noyau/solver/PropagatorEveryPlaceButPinLaw" = true := by first | (simp [plainName, overriddenIn]; done) | decide +kernel
theorem pf_0 : plainFor x = true := plainFor_of_name pn_0
theorem ef_0 (m : MethodId) (x0 : Int32) (x1 : Int32) (x2 : Int32) : entryFrame m #[(.int x0), (.int x1), (.int x2)] maxLocals = mkF m 0 #[.val (.int x0), .val (.int x1), .val (.int x2), .unset, .unset, .unset, .unset, .unset, .unset] [] := by first | (simp [entryFrame, mkF, argsToLocals, Value.category, maxLocals]; done) | rfl
def Q0 (h0 : Heap) (n0 : Nat) (v : Option Value) (h : Heap) (L : List Loc) : Prop := v = some (.int 1) ∧ Fr n0 L
set_option maxRecDepth 65536 in
set_option maxHeartbeats 40000000 in
theorem rm0 (l : Launch) (Z : State) (a0 : Array Value) (hw : ∀ d ∈ tables_1, d.before a0 Z = true) (ws : List Jvm.Cond) (p1 p2 p3 : Int32) (h0 : Heap) (n0 : Nat) (Z0 : n0 ≤ h0.size)  :
    MetFree l x (head1 (Jvm.Cond.code x code maxLocals ret :: ws) room_1) (fun aA uU => aA = #[(.int p1), (.int p2), (.int p3)] ∧ Z.Warmed39 uU.vm ∧ uU.heap = h0) (fun _ _ _ _ _ => True) (fun _ uU oO uV => ∃ vV lL, oO = .returned vV ∧ Q0 h0 n0 vV uV.heap lL ∧ FrameEnd uU oO uV lL 1 7) := by
  refine MetFree.of_bodySF pf_0 hisR ?_
  intro p e s m args below meth c s₁ Bd hml0 hP hK
  obtain ⟨rfl, hZ, hh⟩ := hP
  have hx := Bd.exec
  have hby := Bd.bytes
  have hml : c.maxLocals = 9 := hml0
  have hown : s.vm.findClass "com/example/noyau/noyau/solver/PropagatorEveryPlaceButPinLaw" = some m.cls := findClass_of_methodNamed Bd.named
  have hnm := (name_of_methodNamed Bd.named Bd.method).1
  have X0 : Stand p l e room_1 s m #[(.int p1), (.int p2), (.int p3)] below meth c s₁ [] 0 0 := Stand.of_body Bd
  have e0 : s₁.heap = h0 := by rw [← hh, Bd.state]; rfl
  have N0 := Fr.nil n0
  have pre0 : ∀ t, Steps p.tables e below (s₁.setTop (mkF m 0 #[.val (.int p1), .val (.int p2), .val (.int p3), .unset, .unset, .unset, .unset, .unset, .unset] [])) t → Steps p.tables e below (s₁.setTop (entryFrame m #[(.int p1), (.int p2), (.int p3)] maxLocals)) t := fun t k => castTop (ef_0 m p1 p2 p3) k
  have sg0 : ∀ t, Steps p.tables e below (s₁.setTop (mkF m 16 #[.val (.int p1), .val (.int p2), .val (.int p3), .val (.int (own_ar p2)), .val (.int (own_q p1)), .unset, .unset, .unset, .unset] [])) t → Steps p.tables e below (s₁.setTop (mkF m 0 #[.val (.int p1), .val (.int p2), .val (.int p3), .unset, .unset, .unset, .unset, .unset, .unset] [])) t := by
    intro t kt
    show Steps p.tables e below (s₁.setTop (mkF m 0 #[.val (.int p1), .val (.int p2), .val (.int p3), .unset, .unset, .unset, .unset, .unset, .unset] [])) _
    refine XS.iloadN X0.here hx rfl (hb hby at_0) rfl ?_
    show Steps p.tables e below (s₁.setTop (mkF m 1 #[.val (.int p1), .val (.int p2), .val (.int p3), .unset, .unset, .unset, .unset, .unset, .unset] [(.int p2)])) _
    refine X0.ldcInt hx hown (mvT hZ (hw _ (List.mem_of_getElem? (i := 0) rfl))) (g := (mkF m 1 #[.val (.int p1), .val (.int p2), .val (.int p3), .unset, .unset, .unset, .unset, .unset, .unset] [(.int p2)])) rfl (hb hby at_1) _ ?_
    show Steps p.tables e below (s₁.setTop (mkF m 3 #[.val (.int p1), .val (.int p2), .val (.int p3), .unset, .unset, .unset, .unset, .unset, .unset] [(.int (2147483647 : Int32)), (.int p2)])) _
    refine XS.iand X0.here hx rfl (hb hby at_3) rfl ?_
    show Steps p.tables e below (s₁.setTop (mkF m 4 #[.val (.int p1), .val (.int p2), .val (.int p3), .unset, .unset, .unset, .unset, .unset, .unset] [(.int (p2 &&& (2147483647 : Int32)))])) _
    refine XS.bipush X0.here hx rfl (hb hby at_4) ?_
    show Steps p.tables e below (s₁.setTop (mkF m 6 #[.val (.int p1), .val (.int p2), .val (.int p3), .unset, .unset, .unset, .unset, .unset, .unset] [(.int (7 : Int32)), (.int (p2 &&& (2147483647 : Int32)))])) _
    refine iremM X0 hx rfl (hb hby at_6) rfl (by decide) ?_
    show Steps p.tables e below (s₁.setTop (mkF m 7 #[.val (.int p1), .val (.int p2), .val (.int p3), .unset, .unset, .unset, .unset, .unset, .unset] [(.int ((p2 &&& (2147483647 : Int32)) % (7 : Int32)))])) _
    refine XS.istoreN X0.here hx rfl (hb hby at_7) rfl (l' := #[.val (.int p1), .val (.int p2), .val (.int p3), .val (.int (own_ar p2)), .unset, .unset, .unset, .unset, .unset]) rfl ?_
    show Steps p.tables e below (s₁.setTop (mkF m 8 #[.val (.int p1), .val (.int p2), .val (.int p3), .val (.int (own_ar p2)), .unset, .unset, .unset, .unset, .unset] [])) _
    refine XS.iloadN X0.here hx rfl (hb hby at_8) rfl ?_
    show Steps p.tables e below (s₁.setTop (mkF m 9 #[.val (.int p1), .val (.int p2), .val (.int p3), .val (.int (own_ar p2)), .unset, .unset, .unset, .unset, .unset] [(.int p1)])) _
    refine XS.bipush X0.here hx rfl (hb hby at_9) ?_
    show Steps p.tables e below (s₁.setTop (mkF m 11 #[.val (.int p1), .val (.int p2), .val (.int p3), .val (.int (own_ar p2)), .unset, .unset, .unset, .unset, .unset] [(.int (7 : Int32)), (.int p1)])) _
    refine XS.iand X0.here hx rfl (hb hby at_11) rfl ?_
    show Steps p.tables e below (s₁.setTop (mkF m 12 #[.val (.int p1), .val (.int p2), .val (.int p3), .val (.int (own_ar p2)), .unset, .unset, .unset, .unset, .unset] [(.int (p1 &&& (7 : Int32)))])) _
    refine XS.iconst X0.here hx rfl (hb hby at_12) ?_
    show Steps p.tables e below (s₁.setTop (mkF m 13 #[.val (.int p1), .val (.int p2), .val (.int p3), .val (.int (own_ar p2)), .unset, .unset, .unset, .unset, .unset] [(.int (1 : Int32)), (.int (p1 &&& (7 : Int32)))])) _
    refine XS.isub X0.here hx rfl (hb hby at_13) rfl ?_
    show Steps p.tables e below (s₁.setTop (mkF m 14 #[.val (.int p1), .val (.int p2), .val (.int p3), .val (.int (own_ar p2)), .unset, .unset, .unset, .unset, .unset] [(.int ((p1 &&& (7 : Int32)) - (1 : Int32)))])) _
    refine XS.istore X0.here hx rfl (hb hby at_14) rfl (l' := #[.val (.int p1), .val (.int p2), .val (.int p3), .val (.int (own_ar p2)), .val (.int (own_q p1)), .unset, .unset, .unset, .unset]) rfl ?_
    exact kt
  obtain ⟨n, hn, hne⟩ := own_ar_spec p2
  obtain ⟨k, hk, hke⟩ := own_q_spec p1
  rw [hne, hke] at sg0
  obtain ⟨TA, hA, kA, XA, eA, EA, AA, stA⟩ := newP X0 hx hZ (hw _ (List.mem_of_getElem? (i := 1) rfl)) e0 (g := (mkF m 18 #[.val (.int p1), .val (.int p2), .val (.int p3), .val (.int (Int32.ofNat n)), .val (.int (Int32.ofNat k - 1)), .unset, .unset, .unset, .unset] [(.int (7 : Int32))])) rfl (hb hby at_18) rfl (by decide) (cap := 7) (by decide) (by decide) (by decide) (by decide)
  obtain ⟨b0, gA⟩ : ∃ z, z = h0.size := ⟨_, rfl⟩
  rw [← gA] at AA stA
  have V0 : Arv Z hA b0 kA .int 7 (List.replicate 7 (.int (0 : Int32))) (.int (0 : Int32)) := (Arv.new AA (by decide)).pad (pad_rep [] (.int (0 : Int32)) 7)
  have g_b0 : n0 ≤ b0 := Nat.le_trans Z0 (Nat.le_of_eq gA.symm)
  have ZA : n0 ≤ hA.size := Nat.le_trans Z0 EA.1
  obtain ⟨cl1, Ar1, q1, S1, M1, H1, U1⟩ := V0
  obtain ⟨T1, h1, X1, e1, W1, st1⟩ := stI XA hx hZ eA Ar1 (j := (0 : Int32)) (inb_of S1 ⟨by decide, by decide⟩) (g := (mkF m 26 #[.val (.int p1), .val (.int p2), .val (.int p3), .val (.int (Int32.ofNat n)), .val (.int (Int32.ofNat k - 1)), .val (.ref b0), .unset, .unset, .unset] [(.int p3), (.int (0 : Int32)), (.ref b0)])) rfl rfl (hb hby at_26)
  have V1 := Arv.set Ar1 q1 S1 M1 H1 U1 rfl W1 0 rfl (by simp)
  have N1 := Fr.snoc X1 N0 g_b0
  have Z1 := Nat.le_trans ZA (Keep.of_wr W1).1
  obtain ⟨cl2, Ar2, q2, S2, M2, H2, U2⟩ := V1
  obtain ⟨T2, h2, X2, e2, W2, st2⟩ := stI X1 hx hZ e1 Ar2 (j := (1 : Int32)) (inb_of S2 ⟨by decide, by decide⟩) (g := (mkF m 31 #[.val (.int p1), .val (.int p2), .val (.int p3), .val (.int (Int32.ofNat n)), .val (.int (Int32.ofNat k - 1)), .val (.ref b0), .unset, .unset, .unset] [(.int p3), (.int (1 : Int32)), (.ref b0)])) rfl rfl (hb hby at_31)
  have V2 := Arv.set Ar2 q2 S2 M2 H2 U2 rfl W2 1 rfl (by simp)
  have N2 := Fr.snoc X2 N1 g_b0
  have Z2 := Nat.le_trans Z1 (Keep.of_wr W2).1
  obtain ⟨cl3, Ar3, q3, S3, M3, H3, U3⟩ := V2
  obtain ⟨T3, h3, X3, e3, W3, st3⟩ := stI X2 hx hZ e2 Ar3 (j := (2 : Int32)) (inb_of S3 ⟨by decide, by decide⟩) (g := (mkF m 36 #[.val (.int p1), .val (.int p2), .val (.int p3), .val (.int (Int32.ofNat n)), .val (.int (Int32.ofNat k - 1)), .val (.ref b0), .unset, .unset, .unset] [(.int p3), (.int (2 : Int32)), (.ref b0)])) rfl rfl (hb hby at_36)
  have V3 := Arv.set Ar3 q3 S3 M3 H3 U3 rfl W3 2 rfl (by simp)
  have N3 := Fr.snoc X3 N2 g_b0
  have Z3 := Nat.le_trans Z2 (Keep.of_wr W3).1
  obtain ⟨cl4, Ar4, q4, S4, M4, H4, U4⟩ := V3
  obtain ⟨T4, h4, X4, e4, W4, st4⟩ := stI X3 hx hZ e3 Ar4 (j := (3 : Int32)) (inb_of S4 ⟨by decide, by decide⟩) (g := (mkF m 41 #[.val (.int p1), .val (.int p2), .val (.int p3), .val (.int (Int32.ofNat n)), .val (.int (Int32.ofNat k - 1)), .val (.ref b0), .unset, .unset, .unset] [(.int p3), (.int (3 : Int32)), (.ref b0)])) rfl rfl (hb hby at_41)
  have V4 := Arv.set Ar4 q4 S4 M4 H4 U4 rfl W4 3 rfl (by simp)
  have N4 := Fr.snoc X4 N3 g_b0
  have Z4 := Nat.le_trans Z3 (Keep.of_wr W4).1
  obtain ⟨cl5, Ar5, q5, S5, M5, H5, U5⟩ := V4
  obtain ⟨T5, h5, X5, e5, W5, st5⟩ := stI X4 hx hZ e4 Ar5 (j := (4 : Int32)) (inb_of S5 ⟨by decide, by decide⟩) (g := (mkF m 46 #[.val (.int p1), .val (.int p2), .val (.int p3), .val (.int (Int32.ofNat n)), .val (.int (Int32.ofNat k - 1)), .val (.ref b0), .unset, .unset, .unset] [(.int p3), (.int (4 : Int32)), (.ref b0)])) rfl rfl (hb hby at_46)
  have V5 := Arv.set Ar5 q5 S5 M5 H5 U5 rfl W5 4 rfl (by simp)
  have N5 := Fr.snoc X5 N4 g_b0
  have Z5 := Nat.le_trans Z4 (Keep.of_wr W5).1
  obtain ⟨cl6, Ar6, q6, S6, M6, H6, U6⟩ := V5
  obtain ⟨T6, h6, X6, e6, W6, st6⟩ := stI X5 hx hZ e5 Ar6 (j := (5 : Int32)) (inb_of S6 ⟨by decide, by decide⟩) (g := (mkF m 51 #[.val (.int p1), .val (.int p2), .val (.int p3), .val (.int (Int32.ofNat n)), .val (.int (Int32.ofNat k - 1)), .val (.ref b0), .unset, .unset, .unset] [(.int p3), (.int (5 : Int32)), (.ref b0)])) rfl rfl (hb hby at_51)
  have V6 := Arv.set Ar6 q6 S6 M6 H6 U6 rfl W6 5 rfl (by simp)
  have N6 := Fr.snoc X6 N5 g_b0
  have Z6 := Nat.le_trans Z5 (Keep.of_wr W6).1
  obtain ⟨cl7, Ar7, q7, S7, M7, H7, U7⟩ := V6
  obtain ⟨T7, h7, X7, e7, W7, st7⟩ := stI X6 hx hZ e6 Ar7 (j := (6 : Int32)) (inb_of S7 ⟨by decide, by decide⟩) (g := (mkF m 57 #[.val (.int p1), .val (.int p2), .val (.int p3), .val (.int (Int32.ofNat n)), .val (.int (Int32.ofNat k - 1)), .val (.ref b0), .unset, .unset, .unset] [(.int p3), (.int (6 : Int32)), (.ref b0)])) rfl rfl (hb hby at_57)
  have V7 := Arv.set Ar7 q7 S7 M7 H7 U7 rfl W7 6 rfl (by simp)
  have N7 := Fr.snoc X7 N6 g_b0
  have Z7 := Nat.le_trans Z6 (Keep.of_wr W7).1
  have VF : Arv Z h7 b0 kA .int 7 ((runO (Int32.ofNat k - 1) (Int32.ofNat n) 0).2.map (own_val p3)) (.int (0 : Int32)) := V7
  obtain ⟨_, _, ⟨TE, LE, kE, nE⟩, -, XE, ⟨LcE, hQE, lE, yE, zE⟩, stE⟩ := Jvm.LawKit.callS X7 hx (y := (⟨"com/example/noyau/noyau/solver/Propagator", "everyPlaceBut", "(II[I)I"⟩ : MethodName)) hown (mvT hZ (hw _ (List.mem_of_getElem? (i := 2) rfl))) (mvT hZ (hw _ (List.mem_of_getElem? (i := 3) rfl))) (mvT hZ (hw _ (List.mem_of_getElem? (i := 4) rfl))) (mvT hZ (hw _ (List.mem_of_getElem? (i := 5) rfl))) (by decide) (backOf (W := 0) (rm1 l Z a0 hw [] (Int32.ofNat k - 1) n b0 kA p3 h7 n0 Z7 hn g_b0 VF) hZ (hw _ (List.mem_of_getElem? (i := 5) rfl)) (hw _ (List.mem_of_getElem? (i := 4) rfl)) (by decide) (by decide)) (g := (mkF m 63 #[.val (.int p1), .val (.int p2), .val (.int p3), .val (.int (Int32.ofNat n)), .val (.int (Int32.ofNat k - 1)), .val (.ref b0), .unset, .unset, .unset] [(.ref b0), (.int (Int32.ofNat n)), (.int (Int32.ofNat k - 1))])) rfl (by rw [hml]; rfl) (argsL := [(.int (Int32.ofNat k - 1)), (.int (Int32.ofNat n)), (.ref b0)]) (rest := []) (lenOf pd_1 rfl) rfl (by show 2 * 0 + _ ≤ _; exact Nat.le_of_eq rfl) (hb hby at_63) (fun _ _ => ⟨rfl, e7, (by decide : 1 + 0 ≤ _), (by decide : 7 + 0 ≤ _)⟩)
  dsimp only [Pt.U, Pt.locs, Pt.cells, Pt.slots] at XE lE yE zE stE hQE
  subst lE yE zE
  obtain ⟨rfl, NEq, KE, ZE, VE⟩ := hQE
  have NE := Fr.app N7 NEq
  obtain ⟨clE, ArE, -, SE, -, HE, -⟩ := VE
  have sg1 : ∀ t, Steps p.tables e below (TE.setTop (mkF m 113 #[.val (.int p1), .val (.int p2), .val (.int p3), .val (.int (Int32.ofNat n)), .val (.int (Int32.ofNat k - 1)), .val (.ref b0), .val (.int (Int32.ofNat (runO (Int32.ofNat k - 1) (Int32.ofNat n) n).1)), .val (.int (own_ins (Int32.ofNat k - 1) (Int32.ofNat n))), .val (.int (own_exp (Int32.ofNat k - 1) (Int32.ofNat n)))] [])) t → Steps p.tables e below (TE.setTop (mkF m 68 #[.val (.int p1), .val (.int p2), .val (.int p3), .val (.int (Int32.ofNat n)), .val (.int (Int32.ofNat k - 1)), .val (.ref b0), .val (.int (Int32.ofNat (runO (Int32.ofNat k - 1) (Int32.ofNat n) n).1)), .unset, .unset] [])) t := by
    intro t kt
    show Steps p.tables e below (TE.setTop (mkF m 68 #[.val (.int p1), .val (.int p2), .val (.int p3), .val (.int (Int32.ofNat n)), .val (.int (Int32.ofNat k - 1)), .val (.ref b0), .val (.int (Int32.ofNat (runO (Int32.ofNat k - 1) (Int32.ofNat n) n).1)), .unset, .unset] [])) _
    refine XS.iload XE.here hx rfl (hb hby at_68) rfl ?_
    show Steps p.tables e below (TE.setTop (mkF m 70 #[.val (.int p1), .val (.int p2), .val (.int p3), .val (.int (Int32.ofNat n)), .val (.int (Int32.ofNat k - 1)), .val (.ref b0), .val (.int (Int32.ofNat (runO (Int32.ofNat k - 1) (Int32.ofNat n) n).1)), .unset, .unset] [(.int (Int32.ofNat k - 1))])) _
    by_cases hcs1 : (Int32.ofNat k - 1) < (0 : Int32)
    · refine XS.ifYes XE.here hx rfl (pc0 := 70) (pc' := 83) rfl (hb hby at_70) rfl ((if0 _ _).trans (tlt hcs1).1) (by decide) (by decide) ?_
      show Steps p.tables e below (TE.setTop (mkF m 83 #[.val (.int p1), .val (.int p2), .val (.int p3), .val (.int (Int32.ofNat n)), .val (.int (Int32.ofNat k - 1)), .val (.ref b0), .val (.int (Int32.ofNat (runO (Int32.ofNat k - 1) (Int32.ofNat n) n).1)), .unset, .unset] [])) _
      refine XS.iconst XE.here hx rfl (hb hby at_83) ?_
      show Steps p.tables e below (TE.setTop (mkF m 84 #[.val (.int p1), .val (.int p2), .val (.int p3), .val (.int (Int32.ofNat n)), .val (.int (Int32.ofNat k - 1)), .val (.ref b0), .val (.int (Int32.ofNat (runO (Int32.ofNat k - 1) (Int32.ofNat n) n).1)), .unset, .unset] [(.int (0 : Int32))])) _
      refine XS.istore XE.here hx rfl (hb hby at_84) rfl (l' := #[.val (.int p1), .val (.int p2), .val (.int p3), .val (.int (Int32.ofNat n)), .val (.int (Int32.ofNat k - 1)), .val (.ref b0), .val (.int (Int32.ofNat (runO (Int32.ofNat k - 1) (Int32.ofNat n) n).1)), .val (.int (0 : Int32)), .unset]) rfl ?_
      show Steps p.tables e below (TE.setTop (mkF m 86 #[.val (.int p1), .val (.int p2), .val (.int p3), .val (.int (Int32.ofNat n)), .val (.int (Int32.ofNat k - 1)), .val (.ref b0), .val (.int (Int32.ofNat (runO (Int32.ofNat k - 1) (Int32.ofNat n) n).1)), .val (.int (0 : Int32)), .unset] [])) _
      refine XS.iloadN XE.here hx rfl (hb hby at_86) rfl ?_
      show Steps p.tables e below (TE.setTop (mkF m 87 #[.val (.int p1), .val (.int p2), .val (.int p3), .val (.int (Int32.ofNat n)), .val (.int (Int32.ofNat k - 1)), .val (.ref b0), .val (.int (Int32.ofNat (runO (Int32.ofNat k - 1) (Int32.ofNat n) n).1)), .val (.int (0 : Int32)), .unset] [(.int (Int32.ofNat n))])) _
      refine XS.iconst XE.here hx rfl (hb hby at_87) ?_
      show Steps p.tables e below (TE.setTop (mkF m 88 #[.val (.int p1), .val (.int p2), .val (.int p3), .val (.int (Int32.ofNat n)), .val (.int (Int32.ofNat k - 1)), .val (.ref b0), .val (.int (Int32.ofNat (runO (Int32.ofNat k - 1) (Int32.ofNat n) n).1)), .val (.int (0 : Int32)), .unset] [(.int (1 : Int32)), (.int (Int32.ofNat n))])) _
      by_cases hcs2 : (Int32.ofNat n) = (1 : Int32)
      · refine XS.icmpNo XE.here hx rfl (hb hby at_88) rfl (teq hcs2).2 ?_
        show Steps p.tables e below (TE.setTop (mkF m 91 #[.val (.int p1), .val (.int p2), .val (.int p3), .val (.int (Int32.ofNat n)), .val (.int (Int32.ofNat k - 1)), .val (.ref b0), .val (.int (Int32.ofNat (runO (Int32.ofNat k - 1) (Int32.ofNat n) n).1)), .val (.int (0 : Int32)), .unset] [])) _
        refine XS.iconst XE.here hx rfl (hb hby at_91) ?_
        show Steps p.tables e below (TE.setTop (mkF m 92 #[.val (.int p1), .val (.int p2), .val (.int p3), .val (.int (Int32.ofNat n)), .val (.int (Int32.ofNat k - 1)), .val (.ref b0), .val (.int (Int32.ofNat (runO (Int32.ofNat k - 1) (Int32.ofNat n) n).1)), .val (.int (0 : Int32)), .unset] [(.int (1 : Int32))])) _
        refine XS.istore XE.here hx rfl (hb hby at_92) rfl (l' := #[.val (.int p1), .val (.int p2), .val (.int p3), .val (.int (Int32.ofNat n)), .val (.int (Int32.ofNat k - 1)), .val (.ref b0), .val (.int (Int32.ofNat (runO (Int32.ofNat k - 1) (Int32.ofNat n) n).1)), .val (.int (0 : Int32)), .val (.int (1 : Int32))]) rfl ?_
        show Steps p.tables e below (TE.setTop (mkF m 94 #[.val (.int p1), .val (.int p2), .val (.int p3), .val (.int (Int32.ofNat n)), .val (.int (Int32.ofNat k - 1)), .val (.ref b0), .val (.int (Int32.ofNat (runO (Int32.ofNat k - 1) (Int32.ofNat n) n).1)), .val (.int (0 : Int32)), .val (.int (1 : Int32))] [])) _
        refine XS.goto XE.here hx rfl (pc0 := 94) (pc' := 113) rfl (hb hby at_94) (by decide) (by decide) ?_
        rw [show own_ins (Int32.ofNat k - 1) (Int32.ofNat n) = (0 : Int32) from (if_pos hcs1).trans ((if_pos hcs2).trans rfl), show own_exp (Int32.ofNat k - 1) (Int32.ofNat n) = (1 : Int32) from (if_pos hcs1).trans ((if_pos hcs2).trans rfl)] at kt
        exact kt
      · refine XS.icmpYes XE.here hx rfl (pc0 := 88) (pc' := 97) rfl (hb hby at_88) rfl (feq hcs2).2 (by decide) (by decide) ?_
        show Steps p.tables e below (TE.setTop (mkF m 97 #[.val (.int p1), .val (.int p2), .val (.int p3), .val (.int (Int32.ofNat n)), .val (.int (Int32.ofNat k - 1)), .val (.ref b0), .val (.int (Int32.ofNat (runO (Int32.ofNat k - 1) (Int32.ofNat n) n).1)), .val (.int (0 : Int32)), .unset] [])) _
        refine XS.iload XE.here hx rfl (hb hby at_97) rfl ?_
        show Steps p.tables e below (TE.setTop (mkF m 99 #[.val (.int p1), .val (.int p2), .val (.int p3), .val (.int (Int32.ofNat n)), .val (.int (Int32.ofNat k - 1)), .val (.ref b0), .val (.int (Int32.ofNat (runO (Int32.ofNat k - 1) (Int32.ofNat n) n).1)), .val (.int (0 : Int32)), .unset] [(.int (0 : Int32))])) _
        refine XS.ifYes XE.here hx rfl (pc0 := 99) (pc' := 110) rfl (hb hby at_99) rfl ((if0 _ _).trans (teq (by decide : (0 : Int32) = (0 : Int32))).1) (by decide) (by decide) ?_
        show Steps p.tables e below (TE.setTop (mkF m 110 #[.val (.int p1), .val (.int p2), .val (.int p3), .val (.int (Int32.ofNat n)), .val (.int (Int32.ofNat k - 1)), .val (.ref b0), .val (.int (Int32.ofNat (runO (Int32.ofNat k - 1) (Int32.ofNat n) n).1)), .val (.int (0 : Int32)), .unset] [])) _
        refine XS.iloadN XE.here hx rfl (hb hby at_110) rfl ?_
        show Steps p.tables e below (TE.setTop (mkF m 111 #[.val (.int p1), .val (.int p2), .val (.int p3), .val (.int (Int32.ofNat n)), .val (.int (Int32.ofNat k - 1)), .val (.ref b0), .val (.int (Int32.ofNat (runO (Int32.ofNat k - 1) (Int32.ofNat n) n).1)), .val (.int (0 : Int32)), .unset] [(.int (Int32.ofNat n))])) _
        refine XS.istore XE.here hx rfl (hb hby at_111) rfl (l' := #[.val (.int p1), .val (.int p2), .val (.int p3), .val (.int (Int32.ofNat n)), .val (.int (Int32.ofNat k - 1)), .val (.ref b0), .val (.int (Int32.ofNat (runO (Int32.ofNat k - 1) (Int32.ofNat n) n).1)), .val (.int (0 : Int32)), .val (.int (Int32.ofNat n))]) rfl ?_
        rw [show own_ins (Int32.ofNat k - 1) (Int32.ofNat n) = (0 : Int32) from (if_pos hcs1).trans ((if_neg hcs2).trans rfl), show own_exp (Int32.ofNat k - 1) (Int32.ofNat n) = (Int32.ofNat n) from (if_pos hcs1).trans ((if_neg hcs2).trans rfl)] at kt
        exact kt
    · refine XS.ifNo XE.here hx rfl (hb hby at_70) rfl ((if0 _ _).trans (flt hcs1).1) ?_
      show Steps p.tables e below (TE.setTop (mkF m 73 #[.val (.int p1), .val (.int p2), .val (.int p3), .val (.int (Int32.ofNat n)), .val (.int (Int32.ofNat k - 1)), .val (.ref b0), .val (.int (Int32.ofNat (runO (Int32.ofNat k - 1) (Int32.ofNat n) n).1)), .unset, .unset] [])) _
      refine XS.iload XE.here hx rfl (hb hby at_73) rfl ?_
      show Steps p.tables e below (TE.setTop (mkF m 75 #[.val (.int p1), .val (.int p2), .val (.int p3), .val (.int (Int32.ofNat n)), .val (.int (Int32.ofNat k - 1)), .val (.ref b0), .val (.int (Int32.ofNat (runO (Int32.ofNat k - 1) (Int32.ofNat n) n).1)), .unset, .unset] [(.int (Int32.ofNat k - 1))])) _
      refine XS.iloadN XE.here hx rfl (hb hby at_75) rfl ?_
      show Steps p.tables e below (TE.setTop (mkF m 76 #[.val (.int p1), .val (.int p2), .val (.int p3), .val (.int (Int32.ofNat n)), .val (.int (Int32.ofNat k - 1)), .val (.ref b0), .val (.int (Int32.ofNat (runO (Int32.ofNat k - 1) (Int32.ofNat n) n).1)), .unset, .unset] [(.int (Int32.ofNat n)), (.int (Int32.ofNat k - 1))])) _
      by_cases hcs3 : (Int32.ofNat k - 1) < (Int32.ofNat n)
      · refine XS.icmpNo XE.here hx rfl (hb hby at_76) rfl (tlt hcs3).2.1 ?_
        show Steps p.tables e below (TE.setTop (mkF m 79 #[.val (.int p1), .val (.int p2), .val (.int p3), .val (.int (Int32.ofNat n)), .val (.int (Int32.ofNat k - 1)), .val (.ref b0), .val (.int (Int32.ofNat (runO (Int32.ofNat k - 1) (Int32.ofNat n) n).1)), .unset, .unset] [])) _
        refine XS.iconst XE.here hx rfl (hb hby at_79) ?_
        show Steps p.tables e below (TE.setTop (mkF m 80 #[.val (.int p1), .val (.int p2), .val (.int p3), .val (.int (Int32.ofNat n)), .val (.int (Int32.ofNat k - 1)), .val (.ref b0), .val (.int (Int32.ofNat (runO (Int32.ofNat k - 1) (Int32.ofNat n) n).1)), .unset, .unset] [(.int (1 : Int32))])) _
        refine XS.goto XE.here hx rfl (pc0 := 80) (pc' := 84) rfl (hb hby at_80) (by decide) (by decide) ?_
        show Steps p.tables e below (TE.setTop (mkF m 84 #[.val (.int p1), .val (.int p2), .val (.int p3), .val (.int (Int32.ofNat n)), .val (.int (Int32.ofNat k - 1)), .val (.ref b0), .val (.int (Int32.ofNat (runO (Int32.ofNat k - 1) (Int32.ofNat n) n).1)), .unset, .unset] [(.int (1 : Int32))])) _
        refine XS.istore XE.here hx rfl (hb hby at_84) rfl (l' := #[.val (.int p1), .val (.int p2), .val (.int p3), .val (.int (Int32.ofNat n)), .val (.int (Int32.ofNat k - 1)), .val (.ref b0), .val (.int (Int32.ofNat (runO (Int32.ofNat k - 1) (Int32.ofNat n) n).1)), .val (.int (1 : Int32)), .unset]) rfl ?_
        show Steps p.tables e below (TE.setTop (mkF m 86 #[.val (.int p1), .val (.int p2), .val (.int p3), .val (.int (Int32.ofNat n)), .val (.int (Int32.ofNat k - 1)), .val (.ref b0), .val (.int (Int32.ofNat (runO (Int32.ofNat k - 1) (Int32.ofNat n) n).1)), .val (.int (1 : Int32)), .unset] [])) _
        refine XS.iloadN XE.here hx rfl (hb hby at_86) rfl ?_
        show Steps p.tables e below (TE.setTop (mkF m 87 #[.val (.int p1), .val (.int p2), .val (.int p3), .val (.int (Int32.ofNat n)), .val (.int (Int32.ofNat k - 1)), .val (.ref b0), .val (.int (Int32.ofNat (runO (Int32.ofNat k - 1) (Int32.ofNat n) n).1)), .val (.int (1 : Int32)), .unset] [(.int (Int32.ofNat n))])) _
        refine XS.iconst XE.here hx rfl (hb hby at_87) ?_
        show Steps p.tables e below (TE.setTop (mkF m 88 #[.val (.int p1), .val (.int p2), .val (.int p3), .val (.int (Int32.ofNat n)), .val (.int (Int32.ofNat k - 1)), .val (.ref b0), .val (.int (Int32.ofNat (runO (Int32.ofNat k - 1) (Int32.ofNat n) n).1)), .val (.int (1 : Int32)), .unset] [(.int (1 : Int32)), (.int (Int32.ofNat n))])) _
        by_cases hcs4 : (Int32.ofNat n) = (1 : Int32)
        · refine XS.icmpNo XE.here hx rfl (hb hby at_88) rfl (teq hcs4).2 ?_
          show Steps p.tables e below (TE.setTop (mkF m 91 #[.val (.int p1), .val (.int p2), .val (.int p3), .val (.int (Int32.ofNat n)), .val (.int (Int32.ofNat k - 1)), .val (.ref b0), .val (.int (Int32.ofNat (runO (Int32.ofNat k - 1) (Int32.ofNat n) n).1)), .val (.int (1 : Int32)), .unset] [])) _
          refine XS.iconst XE.here hx rfl (hb hby at_91) ?_
          show Steps p.tables e below (TE.setTop (mkF m 92 #[.val (.int p1), .val (.int p2), .val (.int p3), .val (.int (Int32.ofNat n)), .val (.int (Int32.ofNat k - 1)), .val (.ref b0), .val (.int (Int32.ofNat (runO (Int32.ofNat k - 1) (Int32.ofNat n) n).1)), .val (.int (1 : Int32)), .unset] [(.int (1 : Int32))])) _
          refine XS.istore XE.here hx rfl (hb hby at_92) rfl (l' := #[.val (.int p1), .val (.int p2), .val (.int p3), .val (.int (Int32.ofNat n)), .val (.int (Int32.ofNat k - 1)), .val (.ref b0), .val (.int (Int32.ofNat (runO (Int32.ofNat k - 1) (Int32.ofNat n) n).1)), .val (.int (1 : Int32)), .val (.int (1 : Int32))]) rfl ?_
          show Steps p.tables e below (TE.setTop (mkF m 94 #[.val (.int p1), .val (.int p2), .val (.int p3), .val (.int (Int32.ofNat n)), .val (.int (Int32.ofNat k - 1)), .val (.ref b0), .val (.int (Int32.ofNat (runO (Int32.ofNat k - 1) (Int32.ofNat n) n).1)), .val (.int (1 : Int32)), .val (.int (1 : Int32))] [])) _
          refine XS.goto XE.here hx rfl (pc0 := 94) (pc' := 113) rfl (hb hby at_94) (by decide) (by decide) ?_
          rw [show own_ins (Int32.ofNat k - 1) (Int32.ofNat n) = (1 : Int32) from (if_neg hcs1).trans ((if_pos hcs3).trans ((if_pos hcs4).trans rfl)), show own_exp (Int32.ofNat k - 1) (Int32.ofNat n) = (1 : Int32) from (if_neg hcs1).trans ((if_pos hcs3).trans ((if_pos hcs4).trans rfl))] at kt
          exact kt
        · refine XS.icmpYes XE.here hx rfl (pc0 := 88) (pc' := 97) rfl (hb hby at_88) rfl (feq hcs4).2 (by decide) (by decide) ?_
          show Steps p.tables e below (TE.setTop (mkF m 97 #[.val (.int p1), .val (.int p2), .val (.int p3), .val (.int (Int32.ofNat n)), .val (.int (Int32.ofNat k - 1)), .val (.ref b0), .val (.int (Int32.ofNat (runO (Int32.ofNat k - 1) (Int32.ofNat n) n).1)), .val (.int (1 : Int32)), .unset] [])) _
          refine XS.iload XE.here hx rfl (hb hby at_97) rfl ?_
          show Steps p.tables e below (TE.setTop (mkF m 99 #[.val (.int p1), .val (.int p2), .val (.int p3), .val (.int (Int32.ofNat n)), .val (.int (Int32.ofNat k - 1)), .val (.ref b0), .val (.int (Int32.ofNat (runO (Int32.ofNat k - 1) (Int32.ofNat n) n).1)), .val (.int (1 : Int32)), .unset] [(.int (1 : Int32))])) _
          refine XS.ifNo XE.here hx rfl (hb hby at_99) rfl ((if0 _ _).trans (feq (by decide : ¬ ((1 : Int32) = (0 : Int32)))).1) ?_
          show Steps p.tables e below (TE.setTop (mkF m 102 #[.val (.int p1), .val (.int p2), .val (.int p3), .val (.int (Int32.ofNat n)), .val (.int (Int32.ofNat k - 1)), .val (.ref b0), .val (.int (Int32.ofNat (runO (Int32.ofNat k - 1) (Int32.ofNat n) n).1)), .val (.int (1 : Int32)), .unset] [])) _
          refine XS.iloadN XE.here hx rfl (hb hby at_102) rfl ?_
          show Steps p.tables e below (TE.setTop (mkF m 103 #[.val (.int p1), .val (.int p2), .val (.int p3), .val (.int (Int32.ofNat n)), .val (.int (Int32.ofNat k - 1)), .val (.ref b0), .val (.int (Int32.ofNat (runO (Int32.ofNat k - 1) (Int32.ofNat n) n).1)), .val (.int (1 : Int32)), .unset] [(.int (Int32.ofNat n))])) _
          refine XS.iconst XE.here hx rfl (hb hby at_103) ?_
          show Steps p.tables e below (TE.setTop (mkF m 104 #[.val (.int p1), .val (.int p2), .val (.int p3), .val (.int (Int32.ofNat n)), .val (.int (Int32.ofNat k - 1)), .val (.ref b0), .val (.int (Int32.ofNat (runO (Int32.ofNat k - 1) (Int32.ofNat n) n).1)), .val (.int (1 : Int32)), .unset] [(.int (1 : Int32)), (.int (Int32.ofNat n))])) _
          refine XS.isub XE.here hx rfl (hb hby at_104) rfl ?_
          show Steps p.tables e below (TE.setTop (mkF m 105 #[.val (.int p1), .val (.int p2), .val (.int p3), .val (.int (Int32.ofNat n)), .val (.int (Int32.ofNat k - 1)), .val (.ref b0), .val (.int (Int32.ofNat (runO (Int32.ofNat k - 1) (Int32.ofNat n) n).1)), .val (.int (1 : Int32)), .unset] [(.int ((Int32.ofNat n) - (1 : Int32)))])) _
          refine XS.istore XE.here hx rfl (hb hby at_105) rfl (l' := #[.val (.int p1), .val (.int p2), .val (.int p3), .val (.int (Int32.ofNat n)), .val (.int (Int32.ofNat k - 1)), .val (.ref b0), .val (.int (Int32.ofNat (runO (Int32.ofNat k - 1) (Int32.ofNat n) n).1)), .val (.int (1 : Int32)), .val (.int ((Int32.ofNat n) - (1 : Int32)))]) rfl ?_
          show Steps p.tables e below (TE.setTop (mkF m 107 #[.val (.int p1), .val (.int p2), .val (.int p3), .val (.int (Int32.ofNat n)), .val (.int (Int32.ofNat k - 1)), .val (.ref b0), .val (.int (Int32.ofNat (runO (Int32.ofNat k - 1) (Int32.ofNat n) n).1)), .val (.int (1 : Int32)), .val (.int ((Int32.ofNat n) - (1 : Int32)))] [])) _
          refine XS.goto XE.here hx rfl (pc0 := 107) (pc' := 113) rfl (hb hby at_107) (by decide) (by decide) ?_
          rw [show own_ins (Int32.ofNat k - 1) (Int32.ofNat n) = (1 : Int32) from (if_neg hcs1).trans ((if_pos hcs3).trans ((if_neg hcs4).trans rfl)), show own_exp (Int32.ofNat k - 1) (Int32.ofNat n) = ((Int32.ofNat n) - (1 : Int32)) from (if_neg hcs1).trans ((if_pos hcs3).trans ((if_neg hcs4).trans rfl))] at kt
          exact kt
      · refine XS.icmpYes XE.here hx rfl (pc0 := 76) (pc' := 83) rfl (hb hby at_76) rfl (flt hcs3).2.1 (by decide) (by decide) ?_
        show Steps p.tables e below (TE.setTop (mkF m 83 #[.val (.int p1), .val (.int p2), .val (.int p3), .val (.int (Int32.ofNat n)), .val (.int (Int32.ofNat k - 1)), .val (.ref b0), .val (.int (Int32.ofNat (runO (Int32.ofNat k - 1) (Int32.ofNat n) n).1)), .unset, .unset] [])) _
        refine XS.iconst XE.here hx rfl (hb hby at_83) ?_
        show Steps p.tables e below (TE.setTop (mkF m 84 #[.val (.int p1), .val (.int p2), .val (.int p3), .val (.int (Int32.ofNat n)), .val (.int (Int32.ofNat k - 1)), .val (.ref b0), .val (.int (Int32.ofNat (runO (Int32.ofNat k - 1) (Int32.ofNat n) n).1)), .unset, .unset] [(.int (0 : Int32))])) _
        refine XS.istore XE.here hx rfl (hb hby at_84) rfl (l' := #[.val (.int p1), .val (.int p2), .val (.int p3), .val (.int (Int32.ofNat n)), .val (.int (Int32.ofNat k - 1)), .val (.ref b0), .val (.int (Int32.ofNat (runO (Int32.ofNat k - 1) (Int32.ofNat n) n).1)), .val (.int (0 : Int32)), .unset]) rfl ?_
        show Steps p.tables e below (TE.setTop (mkF m 86 #[.val (.int p1), .val (.int p2), .val (.int p3), .val (.int (Int32.ofNat n)), .val (.int (Int32.ofNat k - 1)), .val (.ref b0), .val (.int (Int32.ofNat (runO (Int32.ofNat k - 1) (Int32.ofNat n) n).1)), .val (.int (0 : Int32)), .unset] [])) _
        refine XS.iloadN XE.here hx rfl (hb hby at_86) rfl ?_
        show Steps p.tables e below (TE.setTop (mkF m 87 #[.val (.int p1), .val (.int p2), .val (.int p3), .val (.int (Int32.ofNat n)), .val (.int (Int32.ofNat k - 1)), .val (.ref b0), .val (.int (Int32.ofNat (runO (Int32.ofNat k - 1) (Int32.ofNat n) n).1)), .val (.int (0 : Int32)), .unset] [(.int (Int32.ofNat n))])) _
        refine XS.iconst XE.here hx rfl (hb hby at_87) ?_
        show Steps p.tables e below (TE.setTop (mkF m 88 #[.val (.int p1), .val (.int p2), .val (.int p3), .val (.int (Int32.ofNat n)), .val (.int (Int32.ofNat k - 1)), .val (.ref b0), .val (.int (Int32.ofNat (runO (Int32.ofNat k - 1) (Int32.ofNat n) n).1)), .val (.int (0 : Int32)), .unset] [(.int (1 : Int32)), (.int (Int32.ofNat n))])) _
        by_cases hcs5 : (Int32.ofNat n) = (1 : Int32)
        · refine XS.icmpNo XE.here hx rfl (hb hby at_88) rfl (teq hcs5).2 ?_
          show Steps p.tables e below (TE.setTop (mkF m 91 #[.val (.int p1), .val (.int p2), .val (.int p3), .val (.int (Int32.ofNat n)), .val (.int (Int32.ofNat k - 1)), .val (.ref b0), .val (.int (Int32.ofNat (runO (Int32.ofNat k - 1) (Int32.ofNat n) n).1)), .val (.int (0 : Int32)), .unset] [])) _
          refine XS.iconst XE.here hx rfl (hb hby at_91) ?_
          show Steps p.tables e below (TE.setTop (mkF m 92 #[.val (.int p1), .val (.int p2), .val (.int p3), .val (.int (Int32.ofNat n)), .val (.int (Int32.ofNat k - 1)), .val (.ref b0), .val (.int (Int32.ofNat (runO (Int32.ofNat k - 1) (Int32.ofNat n) n).1)), .val (.int (0 : Int32)), .unset] [(.int (1 : Int32))])) _
          refine XS.istore XE.here hx rfl (hb hby at_92) rfl (l' := #[.val (.int p1), .val (.int p2), .val (.int p3), .val (.int (Int32.ofNat n)), .val (.int (Int32.ofNat k - 1)), .val (.ref b0), .val (.int (Int32.ofNat (runO (Int32.ofNat k - 1) (Int32.ofNat n) n).1)), .val (.int (0 : Int32)), .val (.int (1 : Int32))]) rfl ?_
          show Steps p.tables e below (TE.setTop (mkF m 94 #[.val (.int p1), .val (.int p2), .val (.int p3), .val (.int (Int32.ofNat n)), .val (.int (Int32.ofNat k - 1)), .val (.ref b0), .val (.int (Int32.ofNat (runO (Int32.ofNat k - 1) (Int32.ofNat n) n).1)), .val (.int (0 : Int32)), .val (.int (1 : Int32))] [])) _
          refine XS.goto XE.here hx rfl (pc0 := 94) (pc' := 113) rfl (hb hby at_94) (by decide) (by decide) ?_
          rw [show own_ins (Int32.ofNat k - 1) (Int32.ofNat n) = (0 : Int32) from (if_neg hcs1).trans ((if_neg hcs3).trans ((if_pos hcs5).trans rfl)), show own_exp (Int32.ofNat k - 1) (Int32.ofNat n) = (1 : Int32) from (if_neg hcs1).trans ((if_neg hcs3).trans ((if_pos hcs5).trans rfl))] at kt
          exact kt
        · refine XS.icmpYes XE.here hx rfl (pc0 := 88) (pc' := 97) rfl (hb hby at_88) rfl (feq hcs5).2 (by decide) (by decide) ?_
          show Steps p.tables e below (TE.setTop (mkF m 97 #[.val (.int p1), .val (.int p2), .val (.int p3), .val (.int (Int32.ofNat n)), .val (.int (Int32.ofNat k - 1)), .val (.ref b0), .val (.int (Int32.ofNat (runO (Int32.ofNat k - 1) (Int32.ofNat n) n).1)), .val (.int (0 : Int32)), .unset] [])) _
          refine XS.iload XE.here hx rfl (hb hby at_97) rfl ?_
          show Steps p.tables e below (TE.setTop (mkF m 99 #[.val (.int p1), .val (.int p2), .val (.int p3), .val (.int (Int32.ofNat n)), .val (.int (Int32.ofNat k - 1)), .val (.ref b0), .val (.int (Int32.ofNat (runO (Int32.ofNat k - 1) (Int32.ofNat n) n).1)), .val (.int (0 : Int32)), .unset] [(.int (0 : Int32))])) _
          refine XS.ifYes XE.here hx rfl (pc0 := 99) (pc' := 110) rfl (hb hby at_99) rfl ((if0 _ _).trans (teq (by decide : (0 : Int32) = (0 : Int32))).1) (by decide) (by decide) ?_
          show Steps p.tables e below (TE.setTop (mkF m 110 #[.val (.int p1), .val (.int p2), .val (.int p3), .val (.int (Int32.ofNat n)), .val (.int (Int32.ofNat k - 1)), .val (.ref b0), .val (.int (Int32.ofNat (runO (Int32.ofNat k - 1) (Int32.ofNat n) n).1)), .val (.int (0 : Int32)), .unset] [])) _
          refine XS.iloadN XE.here hx rfl (hb hby at_110) rfl ?_
          show Steps p.tables e below (TE.setTop (mkF m 111 #[.val (.int p1), .val (.int p2), .val (.int p3), .val (.int (Int32.ofNat n)), .val (.int (Int32.ofNat k - 1)), .val (.ref b0), .val (.int (Int32.ofNat (runO (Int32.ofNat k - 1) (Int32.ofNat n) n).1)), .val (.int (0 : Int32)), .unset] [(.int (Int32.ofNat n))])) _
          refine XS.istore XE.here hx rfl (hb hby at_111) rfl (l' := #[.val (.int p1), .val (.int p2), .val (.int p3), .val (.int (Int32.ofNat n)), .val (.int (Int32.ofNat k - 1)), .val (.ref b0), .val (.int (Int32.ofNat (runO (Int32.ofNat k - 1) (Int32.ofNat n) n).1)), .val (.int (0 : Int32)), .val (.int (Int32.ofNat n))]) rfl ?_
          rw [show own_ins (Int32.ofNat k - 1) (Int32.ofNat n) = (0 : Int32) from (if_neg hcs1).trans ((if_neg hcs3).trans ((if_neg hcs5).trans rfl)), show own_exp (Int32.ofNat k - 1) (Int32.ofNat n) = (Int32.ofNat n) from (if_neg hcs1).trans ((if_neg hcs3).trans ((if_neg hcs5).trans rfl))] at kt
          exact kt
  have hat8 : clE.slots[(0 : Int32).toNatClampNeg]? = some (.int (((runO (Int32.ofNat k - 1) (Int32.ofNat n) n).2.getD 0 none).getD p3)) := (HE 0 (by rw [SE]; decide)).trans (congrArg some (own_at p3 _ (run_le _ _ n).2 0 (by decide) _))
  obtain ⟨_, _, ⟨T8, L8, k8, n8⟩, -, X8, ⟨Lc8, hQ8, l8, y8, z8⟩, st8⟩ := Jvm.LawKit.callS XE hx (y := (⟨"com/example/noyau/noyau/solver/PropagatorEveryPlaceButPinLaw", "at", "([IIIIII)Z"⟩ : MethodName)) hown (mvT hZ (hw _ (List.mem_of_getElem? (i := 6) rfl))) (mvT hZ (hw _ (List.mem_of_getElem? (i := 7) rfl))) (mvT hZ (hw _ (List.mem_of_getElem? (i := 8) rfl))) (mvT hZ (hw _ (List.mem_of_getElem? (i := 9) rfl))) (by decide) (backOf (W := 0) (rm2 l Z a0 hw [] b0 (0 : Int32) (Int32.ofNat k - 1) (Int32.ofNat n) (own_exp (Int32.ofNat k - 1) (Int32.ofNat n)) p3 _ clE TE.heap n0 ZE ArE (inb_of SE ⟨by decide, by decide⟩) hat8 (own_pl hn hk 0 (by decide) p3)) hZ (hw _ (List.mem_of_getElem? (i := 9) rfl)) (hw _ (List.mem_of_getElem? (i := 8) rfl)) (by decide) (by decide)) (g := (mkF m 129 #[.val (.int p1), .val (.int p2), .val (.int p3), .val (.int (Int32.ofNat n)), .val (.int (Int32.ofNat k - 1)), .val (.ref b0), .val (.int (Int32.ofNat (runO (Int32.ofNat k - 1) (Int32.ofNat n) n).1)), .val (.int (own_ins (Int32.ofNat k - 1) (Int32.ofNat n))), .val (.int (own_exp (Int32.ofNat k - 1) (Int32.ofNat n)))] [(.int p3), (.int (own_exp (Int32.ofNat k - 1) (Int32.ofNat n))), (.int (Int32.ofNat n)), (.int (Int32.ofNat k - 1)), (.int (0 : Int32)), (.ref b0)])) rfl (by rw [hml]; rfl) (argsL := [(.ref b0), (.int (0 : Int32)), (.int (Int32.ofNat k - 1)), (.int (Int32.ofNat n)), (.int (own_exp (Int32.ofNat k - 1) (Int32.ofNat n))), (.int p3)]) (rest := []) (lenOf pd_2 rfl) rfl (by show 2 * 0 + _ ≤ _; exact Nat.le_of_eq rfl) (hb hby at_129) (fun _ _ => ⟨rfl, rfl, (by decide : 1 + 0 ≤ _), (by decide : 7 + 0 ≤ _)⟩)
  dsimp only [Pt.U, Pt.locs, Pt.cells, Pt.slots] at X8 l8 y8 z8 st8 hQ8
  subst l8 y8 z8
  obtain ⟨rfl, N8q, e8⟩ := hQ8
  have N8 := Fr.app NE N8q
  have hat9 : clE.slots[(1 : Int32).toNatClampNeg]? = some (.int (((runO (Int32.ofNat k - 1) (Int32.ofNat n) n).2.getD 1 none).getD p3)) := (HE 1 (by rw [SE]; decide)).trans (congrArg some (own_at p3 _ (run_le _ _ n).2 1 (by decide) _))
  obtain ⟨_, _, ⟨T9, L9, k9, n9⟩, -, X9, ⟨Lc9, hQ9, l9, y9, z9⟩, st9⟩ := Jvm.LawKit.callS X8 hx (y := (⟨"com/example/noyau/noyau/solver/PropagatorEveryPlaceButPinLaw", "at", "([IIIIII)Z"⟩ : MethodName)) hown (mvT hZ (hw _ (List.mem_of_getElem? (i := 6) rfl))) (mvT hZ (hw _ (List.mem_of_getElem? (i := 7) rfl))) (mvT hZ (hw _ (List.mem_of_getElem? (i := 8) rfl))) (mvT hZ (hw _ (List.mem_of_getElem? (i := 9) rfl))) (by decide) (backOf (W := 0) (rm2 l Z a0 hw [] b0 (1 : Int32) (Int32.ofNat k - 1) (Int32.ofNat n) (own_exp (Int32.ofNat k - 1) (Int32.ofNat n)) p3 _ clE TE.heap n0 ZE ArE (inb_of SE ⟨by decide, by decide⟩) hat9 (own_pl hn hk 1 (by decide) p3)) hZ (hw _ (List.mem_of_getElem? (i := 9) rfl)) (hw _ (List.mem_of_getElem? (i := 8) rfl)) (by decide) (by decide)) (g := (mkF m 144 #[.val (.int p1), .val (.int p2), .val (.int p3), .val (.int (Int32.ofNat n)), .val (.int (Int32.ofNat k - 1)), .val (.ref b0), .val (.int (Int32.ofNat (runO (Int32.ofNat k - 1) (Int32.ofNat n) n).1)), .val (.int (own_ins (Int32.ofNat k - 1) (Int32.ofNat n))), .val (.int (own_exp (Int32.ofNat k - 1) (Int32.ofNat n)))] [(.int p3), (.int (own_exp (Int32.ofNat k - 1) (Int32.ofNat n))), (.int (Int32.ofNat n)), (.int (Int32.ofNat k - 1)), (.int (1 : Int32)), (.ref b0)])) rfl (by rw [hml]; rfl) (argsL := [(.ref b0), (.int (1 : Int32)), (.int (Int32.ofNat k - 1)), (.int (Int32.ofNat n)), (.int (own_exp (Int32.ofNat k - 1) (Int32.ofNat n))), (.int p3)]) (rest := []) (lenOf pd_2 rfl) rfl (by show 2 * 0 + _ ≤ _; exact Nat.le_of_eq rfl) (hb hby at_144) (fun _ _ => ⟨rfl, e8, (by decide : 1 + 0 ≤ _), (by decide : 7 + 0 ≤ _)⟩)
  dsimp only [Pt.U, Pt.locs, Pt.cells, Pt.slots] at X9 l9 y9 z9 st9 hQ9
  subst l9 y9 z9
  obtain ⟨rfl, N9q, e9⟩ := hQ9
  have N9 := Fr.app N8 N9q
  have hat10 : clE.slots[(2 : Int32).toNatClampNeg]? = some (.int (((runO (Int32.ofNat k - 1) (Int32.ofNat n) n).2.getD 2 none).getD p3)) := (HE 2 (by rw [SE]; decide)).trans (congrArg some (own_at p3 _ (run_le _ _ n).2 2 (by decide) _))
  obtain ⟨_, _, ⟨T10, L10, k10, n10⟩, -, X10, ⟨Lc10, hQ10, l10, y10, z10⟩, st10⟩ := Jvm.LawKit.callS X9 hx (y := (⟨"com/example/noyau/noyau/solver/PropagatorEveryPlaceButPinLaw", "at", "([IIIIII)Z"⟩ : MethodName)) hown (mvT hZ (hw _ (List.mem_of_getElem? (i := 6) rfl))) (mvT hZ (hw _ (List.mem_of_getElem? (i := 7) rfl))) (mvT hZ (hw _ (List.mem_of_getElem? (i := 8) rfl))) (mvT hZ (hw _ (List.mem_of_getElem? (i := 9) rfl))) (by decide) (backOf (W := 0) (rm2 l Z a0 hw [] b0 (2 : Int32) (Int32.ofNat k - 1) (Int32.ofNat n) (own_exp (Int32.ofNat k - 1) (Int32.ofNat n)) p3 _ clE TE.heap n0 ZE ArE (inb_of SE ⟨by decide, by decide⟩) hat10 (own_pl hn hk 2 (by decide) p3)) hZ (hw _ (List.mem_of_getElem? (i := 9) rfl)) (hw _ (List.mem_of_getElem? (i := 8) rfl)) (by decide) (by decide)) (g := (mkF m 159 #[.val (.int p1), .val (.int p2), .val (.int p3), .val (.int (Int32.ofNat n)), .val (.int (Int32.ofNat k - 1)), .val (.ref b0), .val (.int (Int32.ofNat (runO (Int32.ofNat k - 1) (Int32.ofNat n) n).1)), .val (.int (own_ins (Int32.ofNat k - 1) (Int32.ofNat n))), .val (.int (own_exp (Int32.ofNat k - 1) (Int32.ofNat n)))] [(.int p3), (.int (own_exp (Int32.ofNat k - 1) (Int32.ofNat n))), (.int (Int32.ofNat n)), (.int (Int32.ofNat k - 1)), (.int (2 : Int32)), (.ref b0)])) rfl (by rw [hml]; rfl) (argsL := [(.ref b0), (.int (2 : Int32)), (.int (Int32.ofNat k - 1)), (.int (Int32.ofNat n)), (.int (own_exp (Int32.ofNat k - 1) (Int32.ofNat n))), (.int p3)]) (rest := []) (lenOf pd_2 rfl) rfl (by show 2 * 0 + _ ≤ _; exact Nat.le_of_eq rfl) (hb hby at_159) (fun _ _ => ⟨rfl, e9, (by decide : 1 + 0 ≤ _), (by decide : 7 + 0 ≤ _)⟩)
  dsimp only [Pt.U, Pt.locs, Pt.cells, Pt.slots] at X10 l10 y10 z10 st10 hQ10
  subst l10 y10 z10
  obtain ⟨rfl, N10q, e10⟩ := hQ10
  have N10 := Fr.app N9 N10q
  have hat11 : clE.slots[(3 : Int32).toNatClampNeg]? = some (.int (((runO (Int32.ofNat k - 1) (Int32.ofNat n) n).2.getD 3 none).getD p3)) := (HE 3 (by rw [SE]; decide)).trans (congrArg some (own_at p3 _ (run_le _ _ n).2 3 (by decide) _))
  obtain ⟨_, _, ⟨T11, L11, k11, n11⟩, -, X11, ⟨Lc11, hQ11, l11, y11, z11⟩, st11⟩ := Jvm.LawKit.callS X10 hx (y := (⟨"com/example/noyau/noyau/solver/PropagatorEveryPlaceButPinLaw", "at", "([IIIIII)Z"⟩ : MethodName)) hown (mvT hZ (hw _ (List.mem_of_getElem? (i := 6) rfl))) (mvT hZ (hw _ (List.mem_of_getElem? (i := 7) rfl))) (mvT hZ (hw _ (List.mem_of_getElem? (i := 8) rfl))) (mvT hZ (hw _ (List.mem_of_getElem? (i := 9) rfl))) (by decide) (backOf (W := 0) (rm2 l Z a0 hw [] b0 (3 : Int32) (Int32.ofNat k - 1) (Int32.ofNat n) (own_exp (Int32.ofNat k - 1) (Int32.ofNat n)) p3 _ clE TE.heap n0 ZE ArE (inb_of SE ⟨by decide, by decide⟩) hat11 (own_pl hn hk 3 (by decide) p3)) hZ (hw _ (List.mem_of_getElem? (i := 9) rfl)) (hw _ (List.mem_of_getElem? (i := 8) rfl)) (by decide) (by decide)) (g := (mkF m 174 #[.val (.int p1), .val (.int p2), .val (.int p3), .val (.int (Int32.ofNat n)), .val (.int (Int32.ofNat k - 1)), .val (.ref b0), .val (.int (Int32.ofNat (runO (Int32.ofNat k - 1) (Int32.ofNat n) n).1)), .val (.int (own_ins (Int32.ofNat k - 1) (Int32.ofNat n))), .val (.int (own_exp (Int32.ofNat k - 1) (Int32.ofNat n)))] [(.int p3), (.int (own_exp (Int32.ofNat k - 1) (Int32.ofNat n))), (.int (Int32.ofNat n)), (.int (Int32.ofNat k - 1)), (.int (3 : Int32)), (.ref b0)])) rfl (by rw [hml]; rfl) (argsL := [(.ref b0), (.int (3 : Int32)), (.int (Int32.ofNat k - 1)), (.int (Int32.ofNat n)), (.int (own_exp (Int32.ofNat k - 1) (Int32.ofNat n))), (.int p3)]) (rest := []) (lenOf pd_2 rfl) rfl (by show 2 * 0 + _ ≤ _; exact Nat.le_of_eq rfl) (hb hby at_174) (fun _ _ => ⟨rfl, e10, (by decide : 1 + 0 ≤ _), (by decide : 7 + 0 ≤ _)⟩)
  dsimp only [Pt.U, Pt.locs, Pt.cells, Pt.slots] at X11 l11 y11 z11 st11 hQ11
  subst l11 y11 z11
  obtain ⟨rfl, N11q, e11⟩ := hQ11
  have N11 := Fr.app N10 N11q
  have hat12 : clE.slots[(4 : Int32).toNatClampNeg]? = some (.int (((runO (Int32.ofNat k - 1) (Int32.ofNat n) n).2.getD 4 none).getD p3)) := (HE 4 (by rw [SE]; decide)).trans (congrArg some (own_at p3 _ (run_le _ _ n).2 4 (by decide) _))
  obtain ⟨_, _, ⟨T12, L12, k12, n12⟩, -, X12, ⟨Lc12, hQ12, l12, y12, z12⟩, st12⟩ := Jvm.LawKit.callS X11 hx (y := (⟨"com/example/noyau/noyau/solver/PropagatorEveryPlaceButPinLaw", "at", "([IIIIII)Z"⟩ : MethodName)) hown (mvT hZ (hw _ (List.mem_of_getElem? (i := 6) rfl))) (mvT hZ (hw _ (List.mem_of_getElem? (i := 7) rfl))) (mvT hZ (hw _ (List.mem_of_getElem? (i := 8) rfl))) (mvT hZ (hw _ (List.mem_of_getElem? (i := 9) rfl))) (by decide) (backOf (W := 0) (rm2 l Z a0 hw [] b0 (4 : Int32) (Int32.ofNat k - 1) (Int32.ofNat n) (own_exp (Int32.ofNat k - 1) (Int32.ofNat n)) p3 _ clE TE.heap n0 ZE ArE (inb_of SE ⟨by decide, by decide⟩) hat12 (own_pl hn hk 4 (by decide) p3)) hZ (hw _ (List.mem_of_getElem? (i := 9) rfl)) (hw _ (List.mem_of_getElem? (i := 8) rfl)) (by decide) (by decide)) (g := (mkF m 189 #[.val (.int p1), .val (.int p2), .val (.int p3), .val (.int (Int32.ofNat n)), .val (.int (Int32.ofNat k - 1)), .val (.ref b0), .val (.int (Int32.ofNat (runO (Int32.ofNat k - 1) (Int32.ofNat n) n).1)), .val (.int (own_ins (Int32.ofNat k - 1) (Int32.ofNat n))), .val (.int (own_exp (Int32.ofNat k - 1) (Int32.ofNat n)))] [(.int p3), (.int (own_exp (Int32.ofNat k - 1) (Int32.ofNat n))), (.int (Int32.ofNat n)), (.int (Int32.ofNat k - 1)), (.int (4 : Int32)), (.ref b0)])) rfl (by rw [hml]; rfl) (argsL := [(.ref b0), (.int (4 : Int32)), (.int (Int32.ofNat k - 1)), (.int (Int32.ofNat n)), (.int (own_exp (Int32.ofNat k - 1) (Int32.ofNat n))), (.int p3)]) (rest := []) (lenOf pd_2 rfl) rfl (by show 2 * 0 + _ ≤ _; exact Nat.le_of_eq rfl) (hb hby at_189) (fun _ _ => ⟨rfl, e11, (by decide : 1 + 0 ≤ _), (by decide : 7 + 0 ≤ _)⟩)
  dsimp only [Pt.U, Pt.locs, Pt.cells, Pt.slots] at X12 l12 y12 z12 st12 hQ12
  subst l12 y12 z12
  obtain ⟨rfl, N12q, e12⟩ := hQ12
  have N12 := Fr.app N11 N12q
  have hat13 : clE.slots[(5 : Int32).toNatClampNeg]? = some (.int (((runO (Int32.ofNat k - 1) (Int32.ofNat n) n).2.getD 5 none).getD p3)) := (HE 5 (by rw [SE]; decide)).trans (congrArg some (own_at p3 _ (run_le _ _ n).2 5 (by decide) _))
  obtain ⟨_, _, ⟨T13, L13, k13, n13⟩, -, X13, ⟨Lc13, hQ13, l13, y13, z13⟩, st13⟩ := Jvm.LawKit.callS X12 hx (y := (⟨"com/example/noyau/noyau/solver/PropagatorEveryPlaceButPinLaw", "at", "([IIIIII)Z"⟩ : MethodName)) hown (mvT hZ (hw _ (List.mem_of_getElem? (i := 6) rfl))) (mvT hZ (hw _ (List.mem_of_getElem? (i := 7) rfl))) (mvT hZ (hw _ (List.mem_of_getElem? (i := 8) rfl))) (mvT hZ (hw _ (List.mem_of_getElem? (i := 9) rfl))) (by decide) (backOf (W := 0) (rm2 l Z a0 hw [] b0 (5 : Int32) (Int32.ofNat k - 1) (Int32.ofNat n) (own_exp (Int32.ofNat k - 1) (Int32.ofNat n)) p3 _ clE TE.heap n0 ZE ArE (inb_of SE ⟨by decide, by decide⟩) hat13 (own_pl hn hk 5 (by decide) p3)) hZ (hw _ (List.mem_of_getElem? (i := 9) rfl)) (hw _ (List.mem_of_getElem? (i := 8) rfl)) (by decide) (by decide)) (g := (mkF m 204 #[.val (.int p1), .val (.int p2), .val (.int p3), .val (.int (Int32.ofNat n)), .val (.int (Int32.ofNat k - 1)), .val (.ref b0), .val (.int (Int32.ofNat (runO (Int32.ofNat k - 1) (Int32.ofNat n) n).1)), .val (.int (own_ins (Int32.ofNat k - 1) (Int32.ofNat n))), .val (.int (own_exp (Int32.ofNat k - 1) (Int32.ofNat n)))] [(.int p3), (.int (own_exp (Int32.ofNat k - 1) (Int32.ofNat n))), (.int (Int32.ofNat n)), (.int (Int32.ofNat k - 1)), (.int (5 : Int32)), (.ref b0)])) rfl (by rw [hml]; rfl) (argsL := [(.ref b0), (.int (5 : Int32)), (.int (Int32.ofNat k - 1)), (.int (Int32.ofNat n)), (.int (own_exp (Int32.ofNat k - 1) (Int32.ofNat n))), (.int p3)]) (rest := []) (lenOf pd_2 rfl) rfl (by show 2 * 0 + _ ≤ _; exact Nat.le_of_eq rfl) (hb hby at_204) (fun _ _ => ⟨rfl, e12, (by decide : 1 + 0 ≤ _), (by decide : 7 + 0 ≤ _)⟩)
  dsimp only [Pt.U, Pt.locs, Pt.cells, Pt.slots] at X13 l13 y13 z13 st13 hQ13
  subst l13 y13 z13
  obtain ⟨rfl, N13q, e13⟩ := hQ13
  have N13 := Fr.app N12 N13q
  have hat14 : clE.slots[(6 : Int32).toNatClampNeg]? = some (.int (((runO (Int32.ofNat k - 1) (Int32.ofNat n) n).2.getD 6 none).getD p3)) := (HE 6 (by rw [SE]; decide)).trans (congrArg some (own_at p3 _ (run_le _ _ n).2 6 (by decide) _))
  obtain ⟨_, _, ⟨T14, L14, k14, n14⟩, -, X14, ⟨Lc14, hQ14, l14, y14, z14⟩, st14⟩ := Jvm.LawKit.callS X13 hx (y := (⟨"com/example/noyau/noyau/solver/PropagatorEveryPlaceButPinLaw", "at", "([IIIIII)Z"⟩ : MethodName)) hown (mvT hZ (hw _ (List.mem_of_getElem? (i := 6) rfl))) (mvT hZ (hw _ (List.mem_of_getElem? (i := 7) rfl))) (mvT hZ (hw _ (List.mem_of_getElem? (i := 8) rfl))) (mvT hZ (hw _ (List.mem_of_getElem? (i := 9) rfl))) (by decide) (backOf (W := 0) (rm2 l Z a0 hw [] b0 (6 : Int32) (Int32.ofNat k - 1) (Int32.ofNat n) (own_exp (Int32.ofNat k - 1) (Int32.ofNat n)) p3 _ clE TE.heap n0 ZE ArE (inb_of SE ⟨by decide, by decide⟩) hat14 (own_pl hn hk 6 (by decide) p3)) hZ (hw _ (List.mem_of_getElem? (i := 9) rfl)) (hw _ (List.mem_of_getElem? (i := 8) rfl)) (by decide) (by decide)) (g := (mkF m 220 #[.val (.int p1), .val (.int p2), .val (.int p3), .val (.int (Int32.ofNat n)), .val (.int (Int32.ofNat k - 1)), .val (.ref b0), .val (.int (Int32.ofNat (runO (Int32.ofNat k - 1) (Int32.ofNat n) n).1)), .val (.int (own_ins (Int32.ofNat k - 1) (Int32.ofNat n))), .val (.int (own_exp (Int32.ofNat k - 1) (Int32.ofNat n)))] [(.int p3), (.int (own_exp (Int32.ofNat k - 1) (Int32.ofNat n))), (.int (Int32.ofNat n)), (.int (Int32.ofNat k - 1)), (.int (6 : Int32)), (.ref b0)])) rfl (by rw [hml]; rfl) (argsL := [(.ref b0), (.int (6 : Int32)), (.int (Int32.ofNat k - 1)), (.int (Int32.ofNat n)), (.int (own_exp (Int32.ofNat k - 1) (Int32.ofNat n))), (.int p3)]) (rest := []) (lenOf pd_2 rfl) rfl (by show 2 * 0 + _ ≤ _; exact Nat.le_of_eq rfl) (hb hby at_220) (fun _ _ => ⟨rfl, e13, (by decide : 1 + 0 ≤ _), (by decide : 7 + 0 ≤ _)⟩)
  dsimp only [Pt.U, Pt.locs, Pt.cells, Pt.slots] at X14 l14 y14 z14 st14 hQ14
  subst l14 y14 z14
  obtain ⟨rfl, N14q, e14⟩ := hQ14
  have N14 := Fr.app N13 N14q
  obtain ⟨fs, hr, hrun, hended, hW, hsame⟩ := X14.leave (v := some (.int (1 : Int32))) (fun h => by rw [Bd.returns] at h; cases h)
  refine ⟨_, _, pre0 _ (sg0 _ ?_), hrun, hended, _, _, rfl, ?_, ⟨_, rfl⟩, hW, hsame.mono (by decide) (by decide)⟩
  · show Steps p.tables e below (s₁.setTop (mkF m 16 #[.val (.int p1), .val (.int p2), .val (.int p3), .val (.int (Int32.ofNat n)), .val (.int (Int32.ofNat k - 1)), .unset, .unset, .unset, .unset] [])) _
    refine XS.bipush X0.here hx rfl (hb hby at_16) ?_
    show Steps p.tables e below (s₁.setTop (mkF m 18 #[.val (.int p1), .val (.int p2), .val (.int p3), .val (.int (Int32.ofNat n)), .val (.int (Int32.ofNat k - 1)), .unset, .unset, .unset, .unset] [(.int (7 : Int32))])) _
    refine stA _ ?_
    show Steps p.tables e below (TA.setTop (mkF m 20 #[.val (.int p1), .val (.int p2), .val (.int p3), .val (.int (Int32.ofNat n)), .val (.int (Int32.ofNat k - 1)), .unset, .unset, .unset, .unset] [(.ref b0)])) _
    refine XS.astore XA.here hx rfl (hb hby at_20) rfl rfl (l' := #[.val (.int p1), .val (.int p2), .val (.int p3), .val (.int (Int32.ofNat n)), .val (.int (Int32.ofNat k - 1)), .val (.ref b0), .unset, .unset, .unset]) rfl ?_
    show Steps p.tables e below (TA.setTop (mkF m 22 #[.val (.int p1), .val (.int p2), .val (.int p3), .val (.int (Int32.ofNat n)), .val (.int (Int32.ofNat k - 1)), .val (.ref b0), .unset, .unset, .unset] [])) _
    refine XS.aload XA.here hx rfl (hb hby at_22) rfl rfl ?_
    show Steps p.tables e below (TA.setTop (mkF m 24 #[.val (.int p1), .val (.int p2), .val (.int p3), .val (.int (Int32.ofNat n)), .val (.int (Int32.ofNat k - 1)), .val (.ref b0), .unset, .unset, .unset] [(.ref b0)])) _
    refine XS.iconst XA.here hx rfl (hb hby at_24) ?_
    show Steps p.tables e below (TA.setTop (mkF m 25 #[.val (.int p1), .val (.int p2), .val (.int p3), .val (.int (Int32.ofNat n)), .val (.int (Int32.ofNat k - 1)), .val (.ref b0), .unset, .unset, .unset] [(.int (0 : Int32)), (.ref b0)])) _
    refine XS.iloadN XA.here hx rfl (hb hby at_25) rfl ?_
    show Steps p.tables e below (TA.setTop (mkF m 26 #[.val (.int p1), .val (.int p2), .val (.int p3), .val (.int (Int32.ofNat n)), .val (.int (Int32.ofNat k - 1)), .val (.ref b0), .unset, .unset, .unset] [(.int p3), (.int (0 : Int32)), (.ref b0)])) _
    refine st1 _ ?_
    show Steps p.tables e below (T1.setTop (mkF m 27 #[.val (.int p1), .val (.int p2), .val (.int p3), .val (.int (Int32.ofNat n)), .val (.int (Int32.ofNat k - 1)), .val (.ref b0), .unset, .unset, .unset] [])) _
    refine XS.aload X1.here hx rfl (hb hby at_27) rfl rfl ?_
    show Steps p.tables e below (T1.setTop (mkF m 29 #[.val (.int p1), .val (.int p2), .val (.int p3), .val (.int (Int32.ofNat n)), .val (.int (Int32.ofNat k - 1)), .val (.ref b0), .unset, .unset, .unset] [(.ref b0)])) _
    refine XS.iconst X1.here hx rfl (hb hby at_29) ?_
    show Steps p.tables e below (T1.setTop (mkF m 30 #[.val (.int p1), .val (.int p2), .val (.int p3), .val (.int (Int32.ofNat n)), .val (.int (Int32.ofNat k - 1)), .val (.ref b0), .unset, .unset, .unset] [(.int (1 : Int32)), (.ref b0)])) _
    refine XS.iloadN X1.here hx rfl (hb hby at_30) rfl ?_
    show Steps p.tables e below (T1.setTop (mkF m 31 #[.val (.int p1), .val (.int p2), .val (.int p3), .val (.int (Int32.ofNat n)), .val (.int (Int32.ofNat k - 1)), .val (.ref b0), .unset, .unset, .unset] [(.int p3), (.int (1 : Int32)), (.ref b0)])) _
    refine st2 _ ?_
    show Steps p.tables e below (T2.setTop (mkF m 32 #[.val (.int p1), .val (.int p2), .val (.int p3), .val (.int (Int32.ofNat n)), .val (.int (Int32.ofNat k - 1)), .val (.ref b0), .unset, .unset, .unset] [])) _
    refine XS.aload X2.here hx rfl (hb hby at_32) rfl rfl ?_
    show Steps p.tables e below (T2.setTop (mkF m 34 #[.val (.int p1), .val (.int p2), .val (.int p3), .val (.int (Int32.ofNat n)), .val (.int (Int32.ofNat k - 1)), .val (.ref b0), .unset, .unset, .unset] [(.ref b0)])) _
    refine XS.iconst X2.here hx rfl (hb hby at_34) ?_
    show Steps p.tables e below (T2.setTop (mkF m 35 #[.val (.int p1), .val (.int p2), .val (.int p3), .val (.int (Int32.ofNat n)), .val (.int (Int32.ofNat k - 1)), .val (.ref b0), .unset, .unset, .unset] [(.int (2 : Int32)), (.ref b0)])) _
    refine XS.iloadN X2.here hx rfl (hb hby at_35) rfl ?_
    show Steps p.tables e below (T2.setTop (mkF m 36 #[.val (.int p1), .val (.int p2), .val (.int p3), .val (.int (Int32.ofNat n)), .val (.int (Int32.ofNat k - 1)), .val (.ref b0), .unset, .unset, .unset] [(.int p3), (.int (2 : Int32)), (.ref b0)])) _
    refine st3 _ ?_
    show Steps p.tables e below (T3.setTop (mkF m 37 #[.val (.int p1), .val (.int p2), .val (.int p3), .val (.int (Int32.ofNat n)), .val (.int (Int32.ofNat k - 1)), .val (.ref b0), .unset, .unset, .unset] [])) _
    refine XS.aload X3.here hx rfl (hb hby at_37) rfl rfl ?_
    show Steps p.tables e below (T3.setTop (mkF m 39 #[.val (.int p1), .val (.int p2), .val (.int p3), .val (.int (Int32.ofNat n)), .val (.int (Int32.ofNat k - 1)), .val (.ref b0), .unset, .unset, .unset] [(.ref b0)])) _
    refine XS.iconst X3.here hx rfl (hb hby at_39) ?_
    show Steps p.tables e below (T3.setTop (mkF m 40 #[.val (.int p1), .val (.int p2), .val (.int p3), .val (.int (Int32.ofNat n)), .val (.int (Int32.ofNat k - 1)), .val (.ref b0), .unset, .unset, .unset] [(.int (3 : Int32)), (.ref b0)])) _
    refine XS.iloadN X3.here hx rfl (hb hby at_40) rfl ?_
    show Steps p.tables e below (T3.setTop (mkF m 41 #[.val (.int p1), .val (.int p2), .val (.int p3), .val (.int (Int32.ofNat n)), .val (.int (Int32.ofNat k - 1)), .val (.ref b0), .unset, .unset, .unset] [(.int p3), (.int (3 : Int32)), (.ref b0)])) _
    refine st4 _ ?_
    show Steps p.tables e below (T4.setTop (mkF m 42 #[.val (.int p1), .val (.int p2), .val (.int p3), .val (.int (Int32.ofNat n)), .val (.int (Int32.ofNat k - 1)), .val (.ref b0), .unset, .unset, .unset] [])) _
    refine XS.aload X4.here hx rfl (hb hby at_42) rfl rfl ?_
    show Steps p.tables e below (T4.setTop (mkF m 44 #[.val (.int p1), .val (.int p2), .val (.int p3), .val (.int (Int32.ofNat n)), .val (.int (Int32.ofNat k - 1)), .val (.ref b0), .unset, .unset, .unset] [(.ref b0)])) _
    refine XS.iconst X4.here hx rfl (hb hby at_44) ?_
    show Steps p.tables e below (T4.setTop (mkF m 45 #[.val (.int p1), .val (.int p2), .val (.int p3), .val (.int (Int32.ofNat n)), .val (.int (Int32.ofNat k - 1)), .val (.ref b0), .unset, .unset, .unset] [(.int (4 : Int32)), (.ref b0)])) _
    refine XS.iloadN X4.here hx rfl (hb hby at_45) rfl ?_
    show Steps p.tables e below (T4.setTop (mkF m 46 #[.val (.int p1), .val (.int p2), .val (.int p3), .val (.int (Int32.ofNat n)), .val (.int (Int32.ofNat k - 1)), .val (.ref b0), .unset, .unset, .unset] [(.int p3), (.int (4 : Int32)), (.ref b0)])) _
    refine st5 _ ?_
    show Steps p.tables e below (T5.setTop (mkF m 47 #[.val (.int p1), .val (.int p2), .val (.int p3), .val (.int (Int32.ofNat n)), .val (.int (Int32.ofNat k - 1)), .val (.ref b0), .unset, .unset, .unset] [])) _
    refine XS.aload X5.here hx rfl (hb hby at_47) rfl rfl ?_
    show Steps p.tables e below (T5.setTop (mkF m 49 #[.val (.int p1), .val (.int p2), .val (.int p3), .val (.int (Int32.ofNat n)), .val (.int (Int32.ofNat k - 1)), .val (.ref b0), .unset, .unset, .unset] [(.ref b0)])) _
    refine XS.iconst X5.here hx rfl (hb hby at_49) ?_
    show Steps p.tables e below (T5.setTop (mkF m 50 #[.val (.int p1), .val (.int p2), .val (.int p3), .val (.int (Int32.ofNat n)), .val (.int (Int32.ofNat k - 1)), .val (.ref b0), .unset, .unset, .unset] [(.int (5 : Int32)), (.ref b0)])) _
    refine XS.iloadN X5.here hx rfl (hb hby at_50) rfl ?_
    show Steps p.tables e below (T5.setTop (mkF m 51 #[.val (.int p1), .val (.int p2), .val (.int p3), .val (.int (Int32.ofNat n)), .val (.int (Int32.ofNat k - 1)), .val (.ref b0), .unset, .unset, .unset] [(.int p3), (.int (5 : Int32)), (.ref b0)])) _
    refine st6 _ ?_
    show Steps p.tables e below (T6.setTop (mkF m 52 #[.val (.int p1), .val (.int p2), .val (.int p3), .val (.int (Int32.ofNat n)), .val (.int (Int32.ofNat k - 1)), .val (.ref b0), .unset, .unset, .unset] [])) _
    refine XS.aload X6.here hx rfl (hb hby at_52) rfl rfl ?_
    show Steps p.tables e below (T6.setTop (mkF m 54 #[.val (.int p1), .val (.int p2), .val (.int p3), .val (.int (Int32.ofNat n)), .val (.int (Int32.ofNat k - 1)), .val (.ref b0), .unset, .unset, .unset] [(.ref b0)])) _
    refine XS.bipush X6.here hx rfl (hb hby at_54) ?_
    show Steps p.tables e below (T6.setTop (mkF m 56 #[.val (.int p1), .val (.int p2), .val (.int p3), .val (.int (Int32.ofNat n)), .val (.int (Int32.ofNat k - 1)), .val (.ref b0), .unset, .unset, .unset] [(.int (6 : Int32)), (.ref b0)])) _
    refine XS.iloadN X6.here hx rfl (hb hby at_56) rfl ?_
    show Steps p.tables e below (T6.setTop (mkF m 57 #[.val (.int p1), .val (.int p2), .val (.int p3), .val (.int (Int32.ofNat n)), .val (.int (Int32.ofNat k - 1)), .val (.ref b0), .unset, .unset, .unset] [(.int p3), (.int (6 : Int32)), (.ref b0)])) _
    refine st7 _ ?_
    show Steps p.tables e below (T7.setTop (mkF m 58 #[.val (.int p1), .val (.int p2), .val (.int p3), .val (.int (Int32.ofNat n)), .val (.int (Int32.ofNat k - 1)), .val (.ref b0), .unset, .unset, .unset] [])) _
    refine XS.iload X7.here hx rfl (hb hby at_58) rfl ?_
    show Steps p.tables e below (T7.setTop (mkF m 60 #[.val (.int p1), .val (.int p2), .val (.int p3), .val (.int (Int32.ofNat n)), .val (.int (Int32.ofNat k - 1)), .val (.ref b0), .unset, .unset, .unset] [(.int (Int32.ofNat k - 1))])) _
    refine XS.iloadN X7.here hx rfl (hb hby at_60) rfl ?_
    show Steps p.tables e below (T7.setTop (mkF m 61 #[.val (.int p1), .val (.int p2), .val (.int p3), .val (.int (Int32.ofNat n)), .val (.int (Int32.ofNat k - 1)), .val (.ref b0), .unset, .unset, .unset] [(.int (Int32.ofNat n)), (.int (Int32.ofNat k - 1))])) _
    refine XS.aload X7.here hx rfl (hb hby at_61) rfl rfl ?_
    show Steps p.tables e below (T7.setTop (mkF m 63 #[.val (.int p1), .val (.int p2), .val (.int p3), .val (.int (Int32.ofNat n)), .val (.int (Int32.ofNat k - 1)), .val (.ref b0), .unset, .unset, .unset] [(.ref b0), (.int (Int32.ofNat n)), (.int (Int32.ofNat k - 1))])) _
    refine stE _ ?_
    show Steps p.tables e below (TE.setTop (mkF m 66 #[.val (.int p1), .val (.int p2), .val (.int p3), .val (.int (Int32.ofNat n)), .val (.int (Int32.ofNat k - 1)), .val (.ref b0), .unset, .unset, .unset] [(.int (Int32.ofNat (runO (Int32.ofNat k - 1) (Int32.ofNat n) n).1))])) _
    refine XS.istore XE.here hx rfl (hb hby at_66) rfl (l' := #[.val (.int p1), .val (.int p2), .val (.int p3), .val (.int (Int32.ofNat n)), .val (.int (Int32.ofNat k - 1)), .val (.ref b0), .val (.int (Int32.ofNat (runO (Int32.ofNat k - 1) (Int32.ofNat n) n).1)), .unset, .unset]) rfl ?_
    refine sg1 _ ?_
    show Steps p.tables e below (TE.setTop (mkF m 113 #[.val (.int p1), .val (.int p2), .val (.int p3), .val (.int (Int32.ofNat n)), .val (.int (Int32.ofNat k - 1)), .val (.ref b0), .val (.int (Int32.ofNat (runO (Int32.ofNat k - 1) (Int32.ofNat n) n).1)), .val (.int (own_ins (Int32.ofNat k - 1) (Int32.ofNat n))), .val (.int (own_exp (Int32.ofNat k - 1) (Int32.ofNat n)))] [])) _
    refine XS.iload XE.here hx rfl (hb hby at_113) rfl ?_
    show Steps p.tables e below (TE.setTop (mkF m 115 #[.val (.int p1), .val (.int p2), .val (.int p3), .val (.int (Int32.ofNat n)), .val (.int (Int32.ofNat k - 1)), .val (.ref b0), .val (.int (Int32.ofNat (runO (Int32.ofNat k - 1) (Int32.ofNat n) n).1)), .val (.int (own_ins (Int32.ofNat k - 1) (Int32.ofNat n))), .val (.int (own_exp (Int32.ofNat k - 1) (Int32.ofNat n)))] [(.int (Int32.ofNat (runO (Int32.ofNat k - 1) (Int32.ofNat n) n).1))])) _
    refine XS.iload XE.here hx rfl (hb hby at_115) rfl ?_
    show Steps p.tables e below (TE.setTop (mkF m 117 #[.val (.int p1), .val (.int p2), .val (.int p3), .val (.int (Int32.ofNat n)), .val (.int (Int32.ofNat k - 1)), .val (.ref b0), .val (.int (Int32.ofNat (runO (Int32.ofNat k - 1) (Int32.ofNat n) n).1)), .val (.int (own_ins (Int32.ofNat k - 1) (Int32.ofNat n))), .val (.int (own_exp (Int32.ofNat k - 1) (Int32.ofNat n)))] [(.int (own_exp (Int32.ofNat k - 1) (Int32.ofNat n))), (.int (Int32.ofNat (runO (Int32.ofNat k - 1) (Int32.ofNat n) n).1))])) _
    refine XS.icmpNo XE.here hx rfl (hb hby at_117) rfl (teq (own_cnt hn hk : (Int32.ofNat (runO (Int32.ofNat k - 1) (Int32.ofNat n) n).1) = (own_exp (Int32.ofNat k - 1) (Int32.ofNat n)))).2 ?_
    show Steps p.tables e below (TE.setTop (mkF m 120 #[.val (.int p1), .val (.int p2), .val (.int p3), .val (.int (Int32.ofNat n)), .val (.int (Int32.ofNat k - 1)), .val (.ref b0), .val (.int (Int32.ofNat (runO (Int32.ofNat k - 1) (Int32.ofNat n) n).1)), .val (.int (own_ins (Int32.ofNat k - 1) (Int32.ofNat n))), .val (.int (own_exp (Int32.ofNat k - 1) (Int32.ofNat n)))] [])) _
    refine XS.aload XE.here hx rfl (hb hby at_120) rfl rfl ?_
    show Steps p.tables e below (TE.setTop (mkF m 122 #[.val (.int p1), .val (.int p2), .val (.int p3), .val (.int (Int32.ofNat n)), .val (.int (Int32.ofNat k - 1)), .val (.ref b0), .val (.int (Int32.ofNat (runO (Int32.ofNat k - 1) (Int32.ofNat n) n).1)), .val (.int (own_ins (Int32.ofNat k - 1) (Int32.ofNat n))), .val (.int (own_exp (Int32.ofNat k - 1) (Int32.ofNat n)))] [(.ref b0)])) _
    refine XS.iconst XE.here hx rfl (hb hby at_122) ?_
    show Steps p.tables e below (TE.setTop (mkF m 123 #[.val (.int p1), .val (.int p2), .val (.int p3), .val (.int (Int32.ofNat n)), .val (.int (Int32.ofNat k - 1)), .val (.ref b0), .val (.int (Int32.ofNat (runO (Int32.ofNat k - 1) (Int32.ofNat n) n).1)), .val (.int (own_ins (Int32.ofNat k - 1) (Int32.ofNat n))), .val (.int (own_exp (Int32.ofNat k - 1) (Int32.ofNat n)))] [(.int (0 : Int32)), (.ref b0)])) _
    refine XS.iload XE.here hx rfl (hb hby at_123) rfl ?_
    show Steps p.tables e below (TE.setTop (mkF m 125 #[.val (.int p1), .val (.int p2), .val (.int p3), .val (.int (Int32.ofNat n)), .val (.int (Int32.ofNat k - 1)), .val (.ref b0), .val (.int (Int32.ofNat (runO (Int32.ofNat k - 1) (Int32.ofNat n) n).1)), .val (.int (own_ins (Int32.ofNat k - 1) (Int32.ofNat n))), .val (.int (own_exp (Int32.ofNat k - 1) (Int32.ofNat n)))] [(.int (Int32.ofNat k - 1)), (.int (0 : Int32)), (.ref b0)])) _
    refine XS.iloadN XE.here hx rfl (hb hby at_125) rfl ?_
    show Steps p.tables e below (TE.setTop (mkF m 126 #[.val (.int p1), .val (.int p2), .val (.int p3), .val (.int (Int32.ofNat n)), .val (.int (Int32.ofNat k - 1)), .val (.ref b0), .val (.int (Int32.ofNat (runO (Int32.ofNat k - 1) (Int32.ofNat n) n).1)), .val (.int (own_ins (Int32.ofNat k - 1) (Int32.ofNat n))), .val (.int (own_exp (Int32.ofNat k - 1) (Int32.ofNat n)))] [(.int (Int32.ofNat n)), (.int (Int32.ofNat k - 1)), (.int (0 : Int32)), (.ref b0)])) _
    refine XS.iload XE.here hx rfl (hb hby at_126) rfl ?_
    show Steps p.tables e below (TE.setTop (mkF m 128 #[.val (.int p1), .val (.int p2), .val (.int p3), .val (.int (Int32.ofNat n)), .val (.int (Int32.ofNat k - 1)), .val (.ref b0), .val (.int (Int32.ofNat (runO (Int32.ofNat k - 1) (Int32.ofNat n) n).1)), .val (.int (own_ins (Int32.ofNat k - 1) (Int32.ofNat n))), .val (.int (own_exp (Int32.ofNat k - 1) (Int32.ofNat n)))] [(.int (own_exp (Int32.ofNat k - 1) (Int32.ofNat n))), (.int (Int32.ofNat n)), (.int (Int32.ofNat k - 1)), (.int (0 : Int32)), (.ref b0)])) _
    refine XS.iloadN XE.here hx rfl (hb hby at_128) rfl ?_
    show Steps p.tables e below (TE.setTop (mkF m 129 #[.val (.int p1), .val (.int p2), .val (.int p3), .val (.int (Int32.ofNat n)), .val (.int (Int32.ofNat k - 1)), .val (.ref b0), .val (.int (Int32.ofNat (runO (Int32.ofNat k - 1) (Int32.ofNat n) n).1)), .val (.int (own_ins (Int32.ofNat k - 1) (Int32.ofNat n))), .val (.int (own_exp (Int32.ofNat k - 1) (Int32.ofNat n)))] [(.int p3), (.int (own_exp (Int32.ofNat k - 1) (Int32.ofNat n))), (.int (Int32.ofNat n)), (.int (Int32.ofNat k - 1)), (.int (0 : Int32)), (.ref b0)])) _
    refine st8 _ ?_
    show Steps p.tables e below (T8.setTop (mkF m 132 #[.val (.int p1), .val (.int p2), .val (.int p3), .val (.int (Int32.ofNat n)), .val (.int (Int32.ofNat k - 1)), .val (.ref b0), .val (.int (Int32.ofNat (runO (Int32.ofNat k - 1) (Int32.ofNat n) n).1)), .val (.int (own_ins (Int32.ofNat k - 1) (Int32.ofNat n))), .val (.int (own_exp (Int32.ofNat k - 1) (Int32.ofNat n)))] [(.int (1 : Int32))])) _
    refine XS.ifNo X8.here hx rfl (hb hby at_132) rfl ((if0 _ _).trans (feq (by decide : ¬ ((1 : Int32) = (0 : Int32)))).1) ?_
    show Steps p.tables e below (T8.setTop (mkF m 135 #[.val (.int p1), .val (.int p2), .val (.int p3), .val (.int (Int32.ofNat n)), .val (.int (Int32.ofNat k - 1)), .val (.ref b0), .val (.int (Int32.ofNat (runO (Int32.ofNat k - 1) (Int32.ofNat n) n).1)), .val (.int (own_ins (Int32.ofNat k - 1) (Int32.ofNat n))), .val (.int (own_exp (Int32.ofNat k - 1) (Int32.ofNat n)))] [])) _
    refine XS.aload X8.here hx rfl (hb hby at_135) rfl rfl ?_
    show Steps p.tables e below (T8.setTop (mkF m 137 #[.val (.int p1), .val (.int p2), .val (.int p3), .val (.int (Int32.ofNat n)), .val (.int (Int32.ofNat k - 1)), .val (.ref b0), .val (.int (Int32.ofNat (runO (Int32.ofNat k - 1) (Int32.ofNat n) n).1)), .val (.int (own_ins (Int32.ofNat k - 1) (Int32.ofNat n))), .val (.int (own_exp (Int32.ofNat k - 1) (Int32.ofNat n)))] [(.ref b0)])) _
    refine XS.iconst X8.here hx rfl (hb hby at_137) ?_
    show Steps p.tables e below (T8.setTop (mkF m 138 #[.val (.int p1), .val (.int p2), .val (.int p3), .val (.int (Int32.ofNat n)), .val (.int (Int32.ofNat k - 1)), .val (.ref b0), .val (.int (Int32.ofNat (runO (Int32.ofNat k - 1) (Int32.ofNat n) n).1)), .val (.int (own_ins (Int32.ofNat k - 1) (Int32.ofNat n))), .val (.int (own_exp (Int32.ofNat k - 1) (Int32.ofNat n)))] [(.int (1 : Int32)), (.ref b0)])) _
    refine XS.iload X8.here hx rfl (hb hby at_138) rfl ?_
    show Steps p.tables e below (T8.setTop (mkF m 140 #[.val (.int p1), .val (.int p2), .val (.int p3), .val (.int (Int32.ofNat n)), .val (.int (Int32.ofNat k - 1)), .val (.ref b0), .val (.int (Int32.ofNat (runO (Int32.ofNat k - 1) (Int32.ofNat n) n).1)), .val (.int (own_ins (Int32.ofNat k - 1) (Int32.ofNat n))), .val (.int (own_exp (Int32.ofNat k - 1) (Int32.ofNat n)))] [(.int (Int32.ofNat k - 1)), (.int (1 : Int32)), (.ref b0)])) _
    refine XS.iloadN X8.here hx rfl (hb hby at_140) rfl ?_
    show Steps p.tables e below (T8.setTop (mkF m 141 #[.val (.int p1), .val (.int p2), .val (.int p3), .val (.int (Int32.ofNat n)), .val (.int (Int32.ofNat k - 1)), .val (.ref b0), .val (.int (Int32.ofNat (runO (Int32.ofNat k - 1) (Int32.ofNat n) n).1)), .val (.int (own_ins (Int32.ofNat k - 1) (Int32.ofNat n))), .val (.int (own_exp (Int32.ofNat k - 1) (Int32.ofNat n)))] [(.int (Int32.ofNat n)), (.int (Int32.ofNat k - 1)), (.int (1 : Int32)), (.ref b0)])) _
    refine XS.iload X8.here hx rfl (hb hby at_141) rfl ?_
    show Steps p.tables e below (T8.setTop (mkF m 143 #[.val (.int p1), .val (.int p2), .val (.int p3), .val (.int (Int32.ofNat n)), .val (.int (Int32.ofNat k - 1)), .val (.ref b0), .val (.int (Int32.ofNat (runO (Int32.ofNat k - 1) (Int32.ofNat n) n).1)), .val (.int (own_ins (Int32.ofNat k - 1) (Int32.ofNat n))), .val (.int (own_exp (Int32.ofNat k - 1) (Int32.ofNat n)))] [(.int (own_exp (Int32.ofNat k - 1) (Int32.ofNat n))), (.int (Int32.ofNat n)), (.int (Int32.ofNat k - 1)), (.int (1 : Int32)), (.ref b0)])) _
    refine XS.iloadN X8.here hx rfl (hb hby at_143) rfl ?_
    show Steps p.tables e below (T8.setTop (mkF m 144 #[.val (.int p1), .val (.int p2), .val (.int p3), .val (.int (Int32.ofNat n)), .val (.int (Int32.ofNat k - 1)), .val (.ref b0), .val (.int (Int32.ofNat (runO (Int32.ofNat k - 1) (Int32.ofNat n) n).1)), .val (.int (own_ins (Int32.ofNat k - 1) (Int32.ofNat n))), .val (.int (own_exp (Int32.ofNat k - 1) (Int32.ofNat n)))] [(.int p3), (.int (own_exp (Int32.ofNat k - 1) (Int32.ofNat n))), (.int (Int32.ofNat n)), (.int (Int32.ofNat k - 1)), (.int (1 : Int32)), (.ref b0)])) _
    refine st9 _ ?_
    show Steps p.tables e below (T9.setTop (mkF m 147 #[.val (.int p1), .val (.int p2), .val (.int p3), .val (.int (Int32.ofNat n)), .val (.int (Int32.ofNat k - 1)), .val (.ref b0), .val (.int (Int32.ofNat (runO (Int32.ofNat k - 1) (Int32.ofNat n) n).1)), .val (.int (own_ins (Int32.ofNat k - 1) (Int32.ofNat n))), .val (.int (own_exp (Int32.ofNat k - 1) (Int32.ofNat n)))] [(.int (1 : Int32))])) _
    refine XS.ifNo X9.here hx rfl (hb hby at_147) rfl ((if0 _ _).trans (feq (by decide : ¬ ((1 : Int32) = (0 : Int32)))).1) ?_
    show Steps p.tables e below (T9.setTop (mkF m 150 #[.val (.int p1), .val (.int p2), .val (.int p3), .val (.int (Int32.ofNat n)), .val (.int (Int32.ofNat k - 1)), .val (.ref b0), .val (.int (Int32.ofNat (runO (Int32.ofNat k - 1) (Int32.ofNat n) n).1)), .val (.int (own_ins (Int32.ofNat k - 1) (Int32.ofNat n))), .val (.int (own_exp (Int32.ofNat k - 1) (Int32.ofNat n)))] [])) _
    refine XS.aload X9.here hx rfl (hb hby at_150) rfl rfl ?_
    show Steps p.tables e below (T9.setTop (mkF m 152 #[.val (.int p1), .val (.int p2), .val (.int p3), .val (.int (Int32.ofNat n)), .val (.int (Int32.ofNat k - 1)), .val (.ref b0), .val (.int (Int32.ofNat (runO (Int32.ofNat k - 1) (Int32.ofNat n) n).1)), .val (.int (own_ins (Int32.ofNat k - 1) (Int32.ofNat n))), .val (.int (own_exp (Int32.ofNat k - 1) (Int32.ofNat n)))] [(.ref b0)])) _
    refine XS.iconst X9.here hx rfl (hb hby at_152) ?_
    show Steps p.tables e below (T9.setTop (mkF m 153 #[.val (.int p1), .val (.int p2), .val (.int p3), .val (.int (Int32.ofNat n)), .val (.int (Int32.ofNat k - 1)), .val (.ref b0), .val (.int (Int32.ofNat (runO (Int32.ofNat k - 1) (Int32.ofNat n) n).1)), .val (.int (own_ins (Int32.ofNat k - 1) (Int32.ofNat n))), .val (.int (own_exp (Int32.ofNat k - 1) (Int32.ofNat n)))] [(.int (2 : Int32)), (.ref b0)])) _
    refine XS.iload X9.here hx rfl (hb hby at_153) rfl ?_
    show Steps p.tables e below (T9.setTop (mkF m 155 #[.val (.int p1), .val (.int p2), .val (.int p3), .val (.int (Int32.ofNat n)), .val (.int (Int32.ofNat k - 1)), .val (.ref b0), .val (.int (Int32.ofNat (runO (Int32.ofNat k - 1) (Int32.ofNat n) n).1)), .val (.int (own_ins (Int32.ofNat k - 1) (Int32.ofNat n))), .val (.int (own_exp (Int32.ofNat k - 1) (Int32.ofNat n)))] [(.int (Int32.ofNat k - 1)), (.int (2 : Int32)), (.ref b0)])) _
    refine XS.iloadN X9.here hx rfl (hb hby at_155) rfl ?_
    show Steps p.tables e below (T9.setTop (mkF m 156 #[.val (.int p1), .val (.int p2), .val (.int p3), .val (.int (Int32.ofNat n)), .val (.int (Int32.ofNat k - 1)), .val (.ref b0), .val (.int (Int32.ofNat (runO (Int32.ofNat k - 1) (Int32.ofNat n) n).1)), .val (.int (own_ins (Int32.ofNat k - 1) (Int32.ofNat n))), .val (.int (own_exp (Int32.ofNat k - 1) (Int32.ofNat n)))] [(.int (Int32.ofNat n)), (.int (Int32.ofNat k - 1)), (.int (2 : Int32)), (.ref b0)])) _
    refine XS.iload X9.here hx rfl (hb hby at_156) rfl ?_
    show Steps p.tables e below (T9.setTop (mkF m 158 #[.val (.int p1), .val (.int p2), .val (.int p3), .val (.int (Int32.ofNat n)), .val (.int (Int32.ofNat k - 1)), .val (.ref b0), .val (.int (Int32.ofNat (runO (Int32.ofNat k - 1) (Int32.ofNat n) n).1)), .val (.int (own_ins (Int32.ofNat k - 1) (Int32.ofNat n))), .val (.int (own_exp (Int32.ofNat k - 1) (Int32.ofNat n)))] [(.int (own_exp (Int32.ofNat k - 1) (Int32.ofNat n))), (.int (Int32.ofNat n)), (.int (Int32.ofNat k - 1)), (.int (2 : Int32)), (.ref b0)])) _
    refine XS.iloadN X9.here hx rfl (hb hby at_158) rfl ?_
    show Steps p.tables e below (T9.setTop (mkF m 159 #[.val (.int p1), .val (.int p2), .val (.int p3), .val (.int (Int32.ofNat n)), .val (.int (Int32.ofNat k - 1)), .val (.ref b0), .val (.int (Int32.ofNat (runO (Int32.ofNat k - 1) (Int32.ofNat n) n).1)), .val (.int (own_ins (Int32.ofNat k - 1) (Int32.ofNat n))), .val (.int (own_exp (Int32.ofNat k - 1) (Int32.ofNat n)))] [(.int p3), (.int (own_exp (Int32.ofNat k - 1) (Int32.ofNat n))), (.int (Int32.ofNat n)), (.int (Int32.ofNat k - 1)), (.int (2 : Int32)), (.ref b0)])) _
    refine st10 _ ?_
    show Steps p.tables e below (T10.setTop (mkF m 162 #[.val (.int p1), .val (.int p2), .val (.int p3), .val (.int (Int32.ofNat n)), .val (.int (Int32.ofNat k - 1)), .val (.ref b0), .val (.int (Int32.ofNat (runO (Int32.ofNat k - 1) (Int32.ofNat n) n).1)), .val (.int (own_ins (Int32.ofNat k - 1) (Int32.ofNat n))), .val (.int (own_exp (Int32.ofNat k - 1) (Int32.ofNat n)))] [(.int (1 : Int32))])) _
    refine XS.ifNo X10.here hx rfl (hb hby at_162) rfl ((if0 _ _).trans (feq (by decide : ¬ ((1 : Int32) = (0 : Int32)))).1) ?_
    show Steps p.tables e below (T10.setTop (mkF m 165 #[.val (.int p1), .val (.int p2), .val (.int p3), .val (.int (Int32.ofNat n)), .val (.int (Int32.ofNat k - 1)), .val (.ref b0), .val (.int (Int32.ofNat (runO (Int32.ofNat k - 1) (Int32.ofNat n) n).1)), .val (.int (own_ins (Int32.ofNat k - 1) (Int32.ofNat n))), .val (.int (own_exp (Int32.ofNat k - 1) (Int32.ofNat n)))] [])) _
    refine XS.aload X10.here hx rfl (hb hby at_165) rfl rfl ?_
    show Steps p.tables e below (T10.setTop (mkF m 167 #[.val (.int p1), .val (.int p2), .val (.int p3), .val (.int (Int32.ofNat n)), .val (.int (Int32.ofNat k - 1)), .val (.ref b0), .val (.int (Int32.ofNat (runO (Int32.ofNat k - 1) (Int32.ofNat n) n).1)), .val (.int (own_ins (Int32.ofNat k - 1) (Int32.ofNat n))), .val (.int (own_exp (Int32.ofNat k - 1) (Int32.ofNat n)))] [(.ref b0)])) _
    refine XS.iconst X10.here hx rfl (hb hby at_167) ?_
    show Steps p.tables e below (T10.setTop (mkF m 168 #[.val (.int p1), .val (.int p2), .val (.int p3), .val (.int (Int32.ofNat n)), .val (.int (Int32.ofNat k - 1)), .val (.ref b0), .val (.int (Int32.ofNat (runO (Int32.ofNat k - 1) (Int32.ofNat n) n).1)), .val (.int (own_ins (Int32.ofNat k - 1) (Int32.ofNat n))), .val (.int (own_exp (Int32.ofNat k - 1) (Int32.ofNat n)))] [(.int (3 : Int32)), (.ref b0)])) _
    refine XS.iload X10.here hx rfl (hb hby at_168) rfl ?_
    show Steps p.tables e below (T10.setTop (mkF m 170 #[.val (.int p1), .val (.int p2), .val (.int p3), .val (.int (Int32.ofNat n)), .val (.int (Int32.ofNat k - 1)), .val (.ref b0), .val (.int (Int32.ofNat (runO (Int32.ofNat k - 1) (Int32.ofNat n) n).1)), .val (.int (own_ins (Int32.ofNat k - 1) (Int32.ofNat n))), .val (.int (own_exp (Int32.ofNat k - 1) (Int32.ofNat n)))] [(.int (Int32.ofNat k - 1)), (.int (3 : Int32)), (.ref b0)])) _
    refine XS.iloadN X10.here hx rfl (hb hby at_170) rfl ?_
    show Steps p.tables e below (T10.setTop (mkF m 171 #[.val (.int p1), .val (.int p2), .val (.int p3), .val (.int (Int32.ofNat n)), .val (.int (Int32.ofNat k - 1)), .val (.ref b0), .val (.int (Int32.ofNat (runO (Int32.ofNat k - 1) (Int32.ofNat n) n).1)), .val (.int (own_ins (Int32.ofNat k - 1) (Int32.ofNat n))), .val (.int (own_exp (Int32.ofNat k - 1) (Int32.ofNat n)))] [(.int (Int32.ofNat n)), (.int (Int32.ofNat k - 1)), (.int (3 : Int32)), (.ref b0)])) _
    refine XS.iload X10.here hx rfl (hb hby at_171) rfl ?_
    show Steps p.tables e below (T10.setTop (mkF m 173 #[.val (.int p1), .val (.int p2), .val (.int p3), .val (.int (Int32.ofNat n)), .val (.int (Int32.ofNat k - 1)), .val (.ref b0), .val (.int (Int32.ofNat (runO (Int32.ofNat k - 1) (Int32.ofNat n) n).1)), .val (.int (own_ins (Int32.ofNat k - 1) (Int32.ofNat n))), .val (.int (own_exp (Int32.ofNat k - 1) (Int32.ofNat n)))] [(.int (own_exp (Int32.ofNat k - 1) (Int32.ofNat n))), (.int (Int32.ofNat n)), (.int (Int32.ofNat k - 1)), (.int (3 : Int32)), (.ref b0)])) _
    refine XS.iloadN X10.here hx rfl (hb hby at_173) rfl ?_
    show Steps p.tables e below (T10.setTop (mkF m 174 #[.val (.int p1), .val (.int p2), .val (.int p3), .val (.int (Int32.ofNat n)), .val (.int (Int32.ofNat k - 1)), .val (.ref b0), .val (.int (Int32.ofNat (runO (Int32.ofNat k - 1) (Int32.ofNat n) n).1)), .val (.int (own_ins (Int32.ofNat k - 1) (Int32.ofNat n))), .val (.int (own_exp (Int32.ofNat k - 1) (Int32.ofNat n)))] [(.int p3), (.int (own_exp (Int32.ofNat k - 1) (Int32.ofNat n))), (.int (Int32.ofNat n)), (.int (Int32.ofNat k - 1)), (.int (3 : Int32)), (.ref b0)])) _
    refine st11 _ ?_
    show Steps p.tables e below (T11.setTop (mkF m 177 #[.val (.int p1), .val (.int p2), .val (.int p3), .val (.int (Int32.ofNat n)), .val (.int (Int32.ofNat k - 1)), .val (.ref b0), .val (.int (Int32.ofNat (runO (Int32.ofNat k - 1) (Int32.ofNat n) n).1)), .val (.int (own_ins (Int32.ofNat k - 1) (Int32.ofNat n))), .val (.int (own_exp (Int32.ofNat k - 1) (Int32.ofNat n)))] [(.int (1 : Int32))])) _
    refine XS.ifNo X11.here hx rfl (hb hby at_177) rfl ((if0 _ _).trans (feq (by decide : ¬ ((1 : Int32) = (0 : Int32)))).1) ?_
    show Steps p.tables e below (T11.setTop (mkF m 180 #[.val (.int p1), .val (.int p2), .val (.int p3), .val (.int (Int32.ofNat n)), .val (.int (Int32.ofNat k - 1)), .val (.ref b0), .val (.int (Int32.ofNat (runO (Int32.ofNat k - 1) (Int32.ofNat n) n).1)), .val (.int (own_ins (Int32.ofNat k - 1) (Int32.ofNat n))), .val (.int (own_exp (Int32.ofNat k - 1) (Int32.ofNat n)))] [])) _
    refine XS.aload X11.here hx rfl (hb hby at_180) rfl rfl ?_
    show Steps p.tables e below (T11.setTop (mkF m 182 #[.val (.int p1), .val (.int p2), .val (.int p3), .val (.int (Int32.ofNat n)), .val (.int (Int32.ofNat k - 1)), .val (.ref b0), .val (.int (Int32.ofNat (runO (Int32.ofNat k - 1) (Int32.ofNat n) n).1)), .val (.int (own_ins (Int32.ofNat k - 1) (Int32.ofNat n))), .val (.int (own_exp (Int32.ofNat k - 1) (Int32.ofNat n)))] [(.ref b0)])) _
    refine XS.iconst X11.here hx rfl (hb hby at_182) ?_
    show Steps p.tables e below (T11.setTop (mkF m 183 #[.val (.int p1), .val (.int p2), .val (.int p3), .val (.int (Int32.ofNat n)), .val (.int (Int32.ofNat k - 1)), .val (.ref b0), .val (.int (Int32.ofNat (runO (Int32.ofNat k - 1) (Int32.ofNat n) n).1)), .val (.int (own_ins (Int32.ofNat k - 1) (Int32.ofNat n))), .val (.int (own_exp (Int32.ofNat k - 1) (Int32.ofNat n)))] [(.int (4 : Int32)), (.ref b0)])) _
    refine XS.iload X11.here hx rfl (hb hby at_183) rfl ?_
    show Steps p.tables e below (T11.setTop (mkF m 185 #[.val (.int p1), .val (.int p2), .val (.int p3), .val (.int (Int32.ofNat n)), .val (.int (Int32.ofNat k - 1)), .val (.ref b0), .val (.int (Int32.ofNat (runO (Int32.ofNat k - 1) (Int32.ofNat n) n).1)), .val (.int (own_ins (Int32.ofNat k - 1) (Int32.ofNat n))), .val (.int (own_exp (Int32.ofNat k - 1) (Int32.ofNat n)))] [(.int (Int32.ofNat k - 1)), (.int (4 : Int32)), (.ref b0)])) _
    refine XS.iloadN X11.here hx rfl (hb hby at_185) rfl ?_
    show Steps p.tables e below (T11.setTop (mkF m 186 #[.val (.int p1), .val (.int p2), .val (.int p3), .val (.int (Int32.ofNat n)), .val (.int (Int32.ofNat k - 1)), .val (.ref b0), .val (.int (Int32.ofNat (runO (Int32.ofNat k - 1) (Int32.ofNat n) n).1)), .val (.int (own_ins (Int32.ofNat k - 1) (Int32.ofNat n))), .val (.int (own_exp (Int32.ofNat k - 1) (Int32.ofNat n)))] [(.int (Int32.ofNat n)), (.int (Int32.ofNat k - 1)), (.int (4 : Int32)), (.ref b0)])) _
    refine XS.iload X11.here hx rfl (hb hby at_186) rfl ?_
    show Steps p.tables e below (T11.setTop (mkF m 188 #[.val (.int p1), .val (.int p2), .val (.int p3), .val (.int (Int32.ofNat n)), .val (.int (Int32.ofNat k - 1)), .val (.ref b0), .val (.int (Int32.ofNat (runO (Int32.ofNat k - 1) (Int32.ofNat n) n).1)), .val (.int (own_ins (Int32.ofNat k - 1) (Int32.ofNat n))), .val (.int (own_exp (Int32.ofNat k - 1) (Int32.ofNat n)))] [(.int (own_exp (Int32.ofNat k - 1) (Int32.ofNat n))), (.int (Int32.ofNat n)), (.int (Int32.ofNat k - 1)), (.int (4 : Int32)), (.ref b0)])) _
    refine XS.iloadN X11.here hx rfl (hb hby at_188) rfl ?_
    show Steps p.tables e below (T11.setTop (mkF m 189 #[.val (.int p1), .val (.int p2), .val (.int p3), .val (.int (Int32.ofNat n)), .val (.int (Int32.ofNat k - 1)), .val (.ref b0), .val (.int (Int32.ofNat (runO (Int32.ofNat k - 1) (Int32.ofNat n) n).1)), .val (.int (own_ins (Int32.ofNat k - 1) (Int32.ofNat n))), .val (.int (own_exp (Int32.ofNat k - 1) (Int32.ofNat n)))] [(.int p3), (.int (own_exp (Int32.ofNat k - 1) (Int32.ofNat n))), (.int (Int32.ofNat n)), (.int (Int32.ofNat k - 1)), (.int (4 : Int32)), (.ref b0)])) _
    refine st12 _ ?_
    show Steps p.tables e below (T12.setTop (mkF m 192 #[.val (.int p1), .val (.int p2), .val (.int p3), .val (.int (Int32.ofNat n)), .val (.int (Int32.ofNat k - 1)), .val (.ref b0), .val (.int (Int32.ofNat (runO (Int32.ofNat k - 1) (Int32.ofNat n) n).1)), .val (.int (own_ins (Int32.ofNat k - 1) (Int32.ofNat n))), .val (.int (own_exp (Int32.ofNat k - 1) (Int32.ofNat n)))] [(.int (1 : Int32))])) _
    refine XS.ifNo X12.here hx rfl (hb hby at_192) rfl ((if0 _ _).trans (feq (by decide : ¬ ((1 : Int32) = (0 : Int32)))).1) ?_
    show Steps p.tables e below (T12.setTop (mkF m 195 #[.val (.int p1), .val (.int p2), .val (.int p3), .val (.int (Int32.ofNat n)), .val (.int (Int32.ofNat k - 1)), .val (.ref b0), .val (.int (Int32.ofNat (runO (Int32.ofNat k - 1) (Int32.ofNat n) n).1)), .val (.int (own_ins (Int32.ofNat k - 1) (Int32.ofNat n))), .val (.int (own_exp (Int32.ofNat k - 1) (Int32.ofNat n)))] [])) _
    refine XS.aload X12.here hx rfl (hb hby at_195) rfl rfl ?_
    show Steps p.tables e below (T12.setTop (mkF m 197 #[.val (.int p1), .val (.int p2), .val (.int p3), .val (.int (Int32.ofNat n)), .val (.int (Int32.ofNat k - 1)), .val (.ref b0), .val (.int (Int32.ofNat (runO (Int32.ofNat k - 1) (Int32.ofNat n) n).1)), .val (.int (own_ins (Int32.ofNat k - 1) (Int32.ofNat n))), .val (.int (own_exp (Int32.ofNat k - 1) (Int32.ofNat n)))] [(.ref b0)])) _
    refine XS.iconst X12.here hx rfl (hb hby at_197) ?_
    show Steps p.tables e below (T12.setTop (mkF m 198 #[.val (.int p1), .val (.int p2), .val (.int p3), .val (.int (Int32.ofNat n)), .val (.int (Int32.ofNat k - 1)), .val (.ref b0), .val (.int (Int32.ofNat (runO (Int32.ofNat k - 1) (Int32.ofNat n) n).1)), .val (.int (own_ins (Int32.ofNat k - 1) (Int32.ofNat n))), .val (.int (own_exp (Int32.ofNat k - 1) (Int32.ofNat n)))] [(.int (5 : Int32)), (.ref b0)])) _
    refine XS.iload X12.here hx rfl (hb hby at_198) rfl ?_
    show Steps p.tables e below (T12.setTop (mkF m 200 #[.val (.int p1), .val (.int p2), .val (.int p3), .val (.int (Int32.ofNat n)), .val (.int (Int32.ofNat k - 1)), .val (.ref b0), .val (.int (Int32.ofNat (runO (Int32.ofNat k - 1) (Int32.ofNat n) n).1)), .val (.int (own_ins (Int32.ofNat k - 1) (Int32.ofNat n))), .val (.int (own_exp (Int32.ofNat k - 1) (Int32.ofNat n)))] [(.int (Int32.ofNat k - 1)), (.int (5 : Int32)), (.ref b0)])) _
    refine XS.iloadN X12.here hx rfl (hb hby at_200) rfl ?_
    show Steps p.tables e below (T12.setTop (mkF m 201 #[.val (.int p1), .val (.int p2), .val (.int p3), .val (.int (Int32.ofNat n)), .val (.int (Int32.ofNat k - 1)), .val (.ref b0), .val (.int (Int32.ofNat (runO (Int32.ofNat k - 1) (Int32.ofNat n) n).1)), .val (.int (own_ins (Int32.ofNat k - 1) (Int32.ofNat n))), .val (.int (own_exp (Int32.ofNat k - 1) (Int32.ofNat n)))] [(.int (Int32.ofNat n)), (.int (Int32.ofNat k - 1)), (.int (5 : Int32)), (.ref b0)])) _
    refine XS.iload X12.here hx rfl (hb hby at_201) rfl ?_
    show Steps p.tables e below (T12.setTop (mkF m 203 #[.val (.int p1), .val (.int p2), .val (.int p3), .val (.int (Int32.ofNat n)), .val (.int (Int32.ofNat k - 1)), .val (.ref b0), .val (.int (Int32.ofNat (runO (Int32.ofNat k - 1) (Int32.ofNat n) n).1)), .val (.int (own_ins (Int32.ofNat k - 1) (Int32.ofNat n))), .val (.int (own_exp (Int32.ofNat k - 1) (Int32.ofNat n)))] [(.int (own_exp (Int32.ofNat k - 1) (Int32.ofNat n))), (.int (Int32.ofNat n)), (.int (Int32.ofNat k - 1)), (.int (5 : Int32)), (.ref b0)])) _
    refine XS.iloadN X12.here hx rfl (hb hby at_203) rfl ?_
    show Steps p.tables e below (T12.setTop (mkF m 204 #[.val (.int p1), .val (.int p2), .val (.int p3), .val (.int (Int32.ofNat n)), .val (.int (Int32.ofNat k - 1)), .val (.ref b0), .val (.int (Int32.ofNat (runO (Int32.ofNat k - 1) (Int32.ofNat n) n).1)), .val (.int (own_ins (Int32.ofNat k - 1) (Int32.ofNat n))), .val (.int (own_exp (Int32.ofNat k - 1) (Int32.ofNat n)))] [(.int p3), (.int (own_exp (Int32.ofNat k - 1) (Int32.ofNat n))), (.int (Int32.ofNat n)), (.int (Int32.ofNat k - 1)), (.int (5 : Int32)), (.ref b0)])) _
    refine st13 _ ?_
    show Steps p.tables e below (T13.setTop (mkF m 207 #[.val (.int p1), .val (.int p2), .val (.int p3), .val (.int (Int32.ofNat n)), .val (.int (Int32.ofNat k - 1)), .val (.ref b0), .val (.int (Int32.ofNat (runO (Int32.ofNat k - 1) (Int32.ofNat n) n).1)), .val (.int (own_ins (Int32.ofNat k - 1) (Int32.ofNat n))), .val (.int (own_exp (Int32.ofNat k - 1) (Int32.ofNat n)))] [(.int (1 : Int32))])) _
    refine XS.ifNo X13.here hx rfl (hb hby at_207) rfl ((if0 _ _).trans (feq (by decide : ¬ ((1 : Int32) = (0 : Int32)))).1) ?_
    show Steps p.tables e below (T13.setTop (mkF m 210 #[.val (.int p1), .val (.int p2), .val (.int p3), .val (.int (Int32.ofNat n)), .val (.int (Int32.ofNat k - 1)), .val (.ref b0), .val (.int (Int32.ofNat (runO (Int32.ofNat k - 1) (Int32.ofNat n) n).1)), .val (.int (own_ins (Int32.ofNat k - 1) (Int32.ofNat n))), .val (.int (own_exp (Int32.ofNat k - 1) (Int32.ofNat n)))] [])) _
    refine XS.aload X13.here hx rfl (hb hby at_210) rfl rfl ?_
    show Steps p.tables e below (T13.setTop (mkF m 212 #[.val (.int p1), .val (.int p2), .val (.int p3), .val (.int (Int32.ofNat n)), .val (.int (Int32.ofNat k - 1)), .val (.ref b0), .val (.int (Int32.ofNat (runO (Int32.ofNat k - 1) (Int32.ofNat n) n).1)), .val (.int (own_ins (Int32.ofNat k - 1) (Int32.ofNat n))), .val (.int (own_exp (Int32.ofNat k - 1) (Int32.ofNat n)))] [(.ref b0)])) _
    refine XS.bipush X13.here hx rfl (hb hby at_212) ?_
    show Steps p.tables e below (T13.setTop (mkF m 214 #[.val (.int p1), .val (.int p2), .val (.int p3), .val (.int (Int32.ofNat n)), .val (.int (Int32.ofNat k - 1)), .val (.ref b0), .val (.int (Int32.ofNat (runO (Int32.ofNat k - 1) (Int32.ofNat n) n).1)), .val (.int (own_ins (Int32.ofNat k - 1) (Int32.ofNat n))), .val (.int (own_exp (Int32.ofNat k - 1) (Int32.ofNat n)))] [(.int (6 : Int32)), (.ref b0)])) _
    refine XS.iload X13.here hx rfl (hb hby at_214) rfl ?_
    show Steps p.tables e below (T13.setTop (mkF m 216 #[.val (.int p1), .val (.int p2), .val (.int p3), .val (.int (Int32.ofNat n)), .val (.int (Int32.ofNat k - 1)), .val (.ref b0), .val (.int (Int32.ofNat (runO (Int32.ofNat k - 1) (Int32.ofNat n) n).1)), .val (.int (own_ins (Int32.ofNat k - 1) (Int32.ofNat n))), .val (.int (own_exp (Int32.ofNat k - 1) (Int32.ofNat n)))] [(.int (Int32.ofNat k - 1)), (.int (6 : Int32)), (.ref b0)])) _
    refine XS.iloadN X13.here hx rfl (hb hby at_216) rfl ?_
    show Steps p.tables e below (T13.setTop (mkF m 217 #[.val (.int p1), .val (.int p2), .val (.int p3), .val (.int (Int32.ofNat n)), .val (.int (Int32.ofNat k - 1)), .val (.ref b0), .val (.int (Int32.ofNat (runO (Int32.ofNat k - 1) (Int32.ofNat n) n).1)), .val (.int (own_ins (Int32.ofNat k - 1) (Int32.ofNat n))), .val (.int (own_exp (Int32.ofNat k - 1) (Int32.ofNat n)))] [(.int (Int32.ofNat n)), (.int (Int32.ofNat k - 1)), (.int (6 : Int32)), (.ref b0)])) _
    refine XS.iload X13.here hx rfl (hb hby at_217) rfl ?_
    show Steps p.tables e below (T13.setTop (mkF m 219 #[.val (.int p1), .val (.int p2), .val (.int p3), .val (.int (Int32.ofNat n)), .val (.int (Int32.ofNat k - 1)), .val (.ref b0), .val (.int (Int32.ofNat (runO (Int32.ofNat k - 1) (Int32.ofNat n) n).1)), .val (.int (own_ins (Int32.ofNat k - 1) (Int32.ofNat n))), .val (.int (own_exp (Int32.ofNat k - 1) (Int32.ofNat n)))] [(.int (own_exp (Int32.ofNat k - 1) (Int32.ofNat n))), (.int (Int32.ofNat n)), (.int (Int32.ofNat k - 1)), (.int (6 : Int32)), (.ref b0)])) _
    refine XS.iloadN X13.here hx rfl (hb hby at_219) rfl ?_
    show Steps p.tables e below (T13.setTop (mkF m 220 #[.val (.int p1), .val (.int p2), .val (.int p3), .val (.int (Int32.ofNat n)), .val (.int (Int32.ofNat k - 1)), .val (.ref b0), .val (.int (Int32.ofNat (runO (Int32.ofNat k - 1) (Int32.ofNat n) n).1)), .val (.int (own_ins (Int32.ofNat k - 1) (Int32.ofNat n))), .val (.int (own_exp (Int32.ofNat k - 1) (Int32.ofNat n)))] [(.int p3), (.int (own_exp (Int32.ofNat k - 1) (Int32.ofNat n))), (.int (Int32.ofNat n)), (.int (Int32.ofNat k - 1)), (.int (6 : Int32)), (.ref b0)])) _
    refine st14 _ ?_
    show Steps p.tables e below (T14.setTop (mkF m 223 #[.val (.int p1), .val (.int p2), .val (.int p3), .val (.int (Int32.ofNat n)), .val (.int (Int32.ofNat k - 1)), .val (.ref b0), .val (.int (Int32.ofNat (runO (Int32.ofNat k - 1) (Int32.ofNat n) n).1)), .val (.int (own_ins (Int32.ofNat k - 1) (Int32.ofNat n))), .val (.int (own_exp (Int32.ofNat k - 1) (Int32.ofNat n)))] [(.int (1 : Int32))])) _
    refine XS.ifNo X14.here hx rfl (hb hby at_223) rfl ((if0 _ _).trans (feq (by decide : ¬ ((1 : Int32) = (0 : Int32)))).1) ?_
    show Steps p.tables e below (T14.setTop (mkF m 226 #[.val (.int p1), .val (.int p2), .val (.int p3), .val (.int (Int32.ofNat n)), .val (.int (Int32.ofNat k - 1)), .val (.ref b0), .val (.int (Int32.ofNat (runO (Int32.ofNat k - 1) (Int32.ofNat n) n).1)), .val (.int (own_ins (Int32.ofNat k - 1) (Int32.ofNat n))), .val (.int (own_exp (Int32.ofNat k - 1) (Int32.ofNat n)))] [])) _
    refine XS.iconst X14.here hx rfl (hb hby at_226) ?_
    show Steps p.tables e below (T14.setTop (mkF m 227 #[.val (.int p1), .val (.int p2), .val (.int p3), .val (.int (Int32.ofNat n)), .val (.int (Int32.ofNat k - 1)), .val (.ref b0), .val (.int (Int32.ofNat (runO (Int32.ofNat k - 1) (Int32.ofNat n) n).1)), .val (.int (own_ins (Int32.ofNat k - 1) (Int32.ofNat n))), .val (.int (own_exp (Int32.ofNat k - 1) (Int32.ofNat n)))] [(.int (1 : Int32))])) _
    refine XS.goto X14.here hx rfl (pc0 := 227) (pc' := 231) rfl (hb hby at_227) (by decide) (by decide) ?_
    show Steps p.tables e below (T14.setTop (mkF m 231 #[.val (.int p1), .val (.int p2), .val (.int p3), .val (.int (Int32.ofNat n)), .val (.int (Int32.ofNat k - 1)), .val (.ref b0), .val (.int (Int32.ofNat (runO (Int32.ofNat k - 1) (Int32.ofNat n) n).1)), .val (.int (own_ins (Int32.ofNat k - 1) (Int32.ofNat n))), .val (.int (own_exp (Int32.ofNat k - 1) (Int32.ofNat n)))] [(.int (1 : Int32))])) _
    exact retN X14 hx (t := .boolean) Bd.returns (by simp) (hb hby at_231) hr
  · exact ⟨rfl, N14⟩
set_option maxRecDepth 65536 in
set_option maxHeartbeats 40000000 in
theorem comes_1 {Post : Tables → Env → Array Value → State → Outcome → State → Prop} (hpost : ∀ tb e args s v u, (limb_1_1.after args s (.returned v) u = true ∧ limb_1_2.after args s (.returned v) u = true ∧ True) → FrameEnd s (.returned v) u (Jvm.fieldLocs frame_1_writes args s ++ Jvm.arrayLocs frame_1_arrays args s ++ Jvm.staticLocs frame_1_statics s) 16 128 → Post tb e args s (.returned v) u) :
    ArmFor flags0 classFile x code maxLocals ret World_1 tables_1 room_1 Calls_1 rest_1 Pre_1 Post := by
  intro l hfl _ _ p e ha hc hk s m args below hf hA hF happ hP
  obtain ⟨hcalls, hrest, hpre⟩ := hP
  obtain ⟨-, -, -, hnamed, -, -, -, hat⟩ := (Spec.applies_iff hf).mp happ
  obtain ⟨hg, hn⟩ := and_e (Cond.before_iff.mp (show (Jvm.Cond.and given_1 narrow_1).before args s = true from hpre))
  obtain ⟨g1, c0⟩ := and_e hg
  obtain ⟨b0, c1⟩ := and_e c0
  obtain ⟨b1, c2⟩ := and_e c1
  obtain ⟨w0, w1, w2, rfl⟩ : ∃ w0 w1 w2 : Value, args = #[w0, w1, w2] := by
    have hs : args.size = 3 := by simpa [Cond.value, given_1] using g1
    obtain ⟨L⟩ := args
    match L, hs with
    | [w0, w1, w2], _ => exact ⟨w0, w1, w2, rfl⟩
  have hw := fun d (hd : d ∈ tables_1) => atoms_spec (ws := Jvm.Cond.code x code maxLocals ret :: tables_1) hat d (List.mem_cons_of_mem _ hd)
  obtain ⟨i0, ee0⟩ := is_v b0
  obtain rfl : w0 = (.int i0) := Option.some.inj ee0
  obtain ⟨i1, ee1⟩ := is_v b1
  obtain rfl : w1 = (.int i1) := Option.some.inj ee1
  obtain ⟨i2, ee2⟩ := is_v c2
  obtain rfl : w2 = (.int i2) := Option.some.inj ee2
  obtain ⟨n, o, h1, h2, h3, _, L, rfl, ⟨rfl, N⟩, hq⟩ := rm0 l s _ hw tables_1 i0 i1 i2 s.heap s.heap.size (Nat.le_refl _) p e ha hc hk s m _ below hf ((Spec.applies_iff_loose hf).mp happ).1 ⟨rfl, State.Warmed39.refl s, rfl⟩ trivial
  refine ⟨n, _, h1, h2, h3, hpost _ _ _ _ _ _ ⟨Cond.after_iff.mpr rfl, Cond.after_iff.mpr (eq_i res_at (Term.int_eval (1)) rfl), trivial⟩ ⟨hq.1, hq.2.1, (hq.2.2.sift fun y hy => Or.inr (N y hy)).mono (by decide) (by decide)⟩⟩
theorem main_1_1 : Claimed_1_1 := comes_1 fun _ _ _ _ _ _ h hF => ⟨h.1, hF⟩
theorem main_1_2 : Claimed_1_2 := comes_1 fun _ _ _ _ _ _ h hF => ⟨h.2.1, hF⟩
end Jvm.Pilot.@@N@@
namespace Jvm.Pilot.@@N@@
open Jvm Jvm.ClassFile Sem Op Lib Jvm.Free Jvm.Stand Jvm.Pilot.@@N@@.Jvm.D
/-! MADE BY PROGRAM (witnessworld.py) out of the Statement's table words and the real class files: 9 classes; the members and pool entries that the words name. The judged class is class 1, her method 1. -/
namespace start1
open Jvm.ClassFile
def u (s : String) : CpInfo := .utf8 (stringToUtf16 s)
/-- a pool by its gaps: so many unusable entries, then the entry; so many at the end -/
def gap : Nat → List CpInfo → List CpInfo
  | 0, r => r
  | n + 1, r => .unusable :: gap n r
def poolList (es : List (Nat × CpInfo)) (last : Nat) : List CpInfo := es.foldr (fun e r => gap e.1 (e.2 :: r)) (gap last [])
def pool (es : List (Nat × CpInfo)) (last : Nat) : Array CpInfo := ⟨poolList es last⟩
def fileOf (pool : Array CpInfo) (this : Nat) (attrs : Array Attribute := #[]) (ms : Array MethodInfo := #[]) (fl : Nat := 33) (sup : Nat := 0) (ifs : Array Nat := #[]) (fds : Array FieldInfo := #[]) : ClassFile where
  minorVersion := 0
  majorVersion := 65
  constantPool := pool
  accessFlags := fl
  thisClass := this
  superClass := sup
  interfaces := ifs
  fields := fds
  methods := ms
  attributes := attrs
def plain (name : String) (sup : Option ClassId) : Class where
  name := name
  kind := .ordinary
  loader := none
  accessFlags := 33
  super := sup
  interfaces := #[]
  cf := none
  fields := #[]
  methods := #[]
  instanceTypes := #[]
  staticTypes := #[]
  resolved := #[]
  callSites := []
  init := .initialized
  statics := none
  mirror := none

def pool0 : Array CpInfo := pool [(5, u "<init>"), (0, u "()V"), (1, .class_ 10), (1, u "java/lang/Object")] 113

def k0m0 : Method := { name := "<init>", desc := "()V", sig := { parameters := [], returnType := none }, accessFlags := 1, code := none }
/-- java/lang/Object -/
def k0 : Class := { plain "java/lang/Object" none with
  accessFlags := 33
  interfaces := #[]
  cf := some (fileOf pool0 8 #[] #[{ accessFlags := 1, nameIndex := 5, descriptorIndex := 6, attributes := #[] }] 33 0 #[] #[])
  fields := #[]
  methods := #[k0m0]
  instanceTypes := #[]
  staticTypes := #[]
  resolved := Array.replicate 124 none
  statics := none }

def pool1 : Array CpInfo := pool [(2, .class_ 4), (1, u "java/lang/Object"), (0, u "<init>"), (0, u "()V"), (0, .integer 2147483647), (0, .interfaceMethodref 9 10), (0, .class_ 11), (0, .nameAndType 12 13), (0, u "com/example/noyau/noyau/solver/Propagator"), (0, u "everyPlaceBut"), (0, u "(II[I)I"), (0, .methodref 15 16), (0, .class_ 17), (0, .nameAndType 18 19), (0, u "com/example/noyau/noyau/solver/PropagatorEveryPlaceButPinLaw"), (0, u "at"), (0, u "([IIIIII)Z"), (2, u "law"), (0, u "(III)Z")] 5

def k1m0 : Method := { name := "<init>", desc := "()V", sig := { parameters := [], returnType := none }, accessFlags := 1, code := none }
def k1c1 : Code := { maxStack := 6, maxLocals := 9, code := code, exceptionTable := #[], attributes := #[] }
def k1m1 : Method := { name := "law", desc := "(III)Z", sig := { parameters := [.int, .int, .int], returnType := some .boolean }, accessFlags := 9, code := some k1c1 }
def k1c2 : Code := { maxStack := 2, maxLocals := 7, code := method_3_code, exceptionTable := #[], attributes := #[] }
def k1m2 : Method := { name := "at", desc := "([IIIIII)Z", sig := { parameters := [(.array .int), .int, .int, .int, .int, .int], returnType := some .boolean }, accessFlags := 10, code := some k1c2 }
/-- com/example/noyau/noyau/solver/PropagatorEveryPlaceButPinLaw -/
def k1 : Class := { plain "com/example/noyau/noyau/solver/PropagatorEveryPlaceButPinLaw" (some 0) with
  accessFlags := 49
  interfaces := #[]
  cf := some (fileOf pool1 15 #[] #[{ accessFlags := 1, nameIndex := 5, descriptorIndex := 6, attributes := #[] }, { accessFlags := 9, nameIndex := 22, descriptorIndex := 23, attributes := #[] }, { accessFlags := 10, nameIndex := 18, descriptorIndex := 19, attributes := #[] }] 49 2 #[] #[])
  fields := #[]
  methods := #[k1m0, k1m1, k1m2]
  instanceTypes := #[]
  staticTypes := #[]
  resolved := Array.replicate 29 none
  statics := none }

def pool2 : Array CpInfo := pool [(20, .class_ 21), (0, u "com/example/noyau/noyau/solver/Propagator"), (0, .class_ 23), (0, u "java/lang/Object"), (4, u "everyPlaceBut"), (0, u "(II[I)I")] 10

def k2c0 : Code := { maxStack := 3, maxLocals := 5, code := prog_86_method_3_code, exceptionTable := #[], attributes := #[] }
def k2m0 : Method := { name := "everyPlaceBut", desc := "(II[I)I", sig := { parameters := [.int, .int, (.array .int)], returnType := some .int }, accessFlags := 9, code := some k2c0 }
/-- com/example/noyau/noyau/solver/Propagator -/
def k2 : Class := { plain "com/example/noyau/noyau/solver/Propagator" (some 0) with
  accessFlags := 1536
  interfaces := #[]
  cf := some (fileOf pool2 20 #[] #[{ accessFlags := 9, nameIndex := 28, descriptorIndex := 29, attributes := #[] }] 1536 22 #[] #[])
  fields := #[]
  methods := #[k2m0]
  instanceTypes := #[]
  staticTypes := #[]
  resolved := Array.replicate 40 none
  statics := none }

def pool3 : Array CpInfo := pool [(1, u "java/lang/Cloneable"), (0, .class_ 1), (0, u "java/lang/Object"), (0, .class_ 3)] 3

/-- java/lang/Cloneable -/
def k3 : Class := { plain "java/lang/Cloneable" (some 0) with
  accessFlags := 1537
  interfaces := #[]
  cf := some (fileOf pool3 2 #[] #[] 1537 4 #[] #[])
  fields := #[]
  methods := #[]
  instanceTypes := #[]
  staticTypes := #[]
  resolved := Array.replicate 8 none
  statics := none }

def pool4 : Array CpInfo := pool [(1, u "java/io/Serializable"), (0, .class_ 1), (0, u "java/lang/Object"), (0, .class_ 3)] 3

/-- java/io/Serializable -/
def k4 : Class := { plain "java/io/Serializable" (some 0) with
  accessFlags := 1537
  interfaces := #[]
  cf := some (fileOf pool4 2 #[] #[] 1537 4 #[] #[])
  fields := #[]
  methods := #[]
  instanceTypes := #[]
  staticTypes := #[]
  resolved := Array.replicate 8 none
  statics := none }

/-- the primitive byte -/
def k5 : Class := { plain "byte" none with kind := .primitive 'B', accessFlags := 0x411 }
/-- [B -/
def k6 : Class := { plain "[B" (some 0) with kind := .array 5 .byte, interfaces := #[3, 4], accessFlags := 1041 }

/-- the primitive int -/
def k7 : Class := { plain "int" none with kind := .primitive 'I', accessFlags := 0x411 }
/-- [I -/
def k8 : Class := { plain "[I" (some 0) with kind := .array 7 .int, interfaces := #[3, 4], accessFlags := 1041 }

def heap : Heap := #[]
def classes : Array Class := #[k0, k1, k2, k3, k4, k5, k6, k7, k8]
def interned : List (Array UInt16 × Addr) := []
def slotsUsed : Nat := 0
def theMethod : MethodId := ⟨1, 1⟩
def args0 : Array Value := #[.int 5, .int 7, .int 9]
def aboutOver (below : List Frame) : State where
  vm := { classes := classes, interned := interned.toArray }
  heap := heap
  slotsUsed := slotsUsed
  threads := #[{ frames := .invoking theMethod args0 :: below }]
def below0 : List Frame := [.native { method := ⟨0, 0⟩, args := #[] }]
def about1 : State := aboutOver below0
def p0 : Program := .bare "" "" ""
def e0 : Env := launch0.env 0 0 0
theorem w_frames : about1.frames = Frame.invoking theMethod args0 :: below0 := rfl
set_option maxRecDepth 65536 in
theorem w_args : argsFit about1.vm theMethod args0 = true := by decide +kernel
set_option maxRecDepth 65536 in
theorem w_heap : heapFits about1 = true := by decide +kernel
set_option maxRecDepth 65536 in
theorem w_runnable : about1.curStatus? = some .runnable := by decide +kernel
set_option maxRecDepth 65536 in
theorem w_alone : about1.alone = true := by decide +kernel
set_option maxRecDepth 65536 in
theorem w_named : about1.methodNamed? x = some theMethod := by decide +kernel
set_option maxRecDepth 65536 in
theorem w_hears : about1.hears theMethod below0 = true := by decide +kernel
set_option maxRecDepth 65536 in
theorem w_ripe : about1.ripe theMethod args0 below0 = true := by decide +kernel
theorem w_running : about1.status = .running := rfl
set_option maxRecDepth 65536 in
theorem w_room : about1.hasRoom e0.platform room_1 = true :=
  launch0.hasRoom_least _ room_1 (by decide +kernel) (by decide +kernel) (by decide +kernel) (by decide +kernel) (by decide +kernel) (by decide +kernel)
theorem allAtoms_all (ts : List Jvm.Cond) (a : Array Jvm.Value) (st : Jvm.State) : (allAtoms ts).before a st = ts.all (fun c => c.before a st) := by
  induction ts with
  | nil => rfl
  | cons c t ih =>
    show (Jvm.Cond.and c (allAtoms t)).before a st = _
    rw [Jvm.Cond.before_and, ih, List.all_cons]
def words1 : List Jvm.Cond := Jvm.Cond.code x code maxLocals ret :: tables_1
/-- a 'code' word, met by the world's own term for the bytes: nothing is compared byte by byte -/
theorem code_word {y : MethodName} {bytes : ByteArray} {mx : Nat} {rt : Option FieldType} {a : Array Value} {s : State} {m : MethodId} {meth : Method} {c : Code} (h1 : s.methodNamed? y = some m) (h2 : s.vm.method? m = some meth) (h3 : meth.code = some c) (h4 : c.code = bytes)
    (h5 : (c.maxLocals == mx && c.exceptionTable.isEmpty && decide (c.maxStack ≤ mostOperands) && decide (meth.sig.returnType = rt) && !meth.locks && decide (parseMethodDescriptor y.desc = some meth.sig)) = true) : (Jvm.Cond.code y bytes mx rt).before a s = true := by
  simp only [Bool.and_eq_true, beq_iff_eq, Bool.not_eq_true', decide_eq_true_eq] at h5
  obtain ⟨⟨⟨⟨⟨g1, g2⟩, g3⟩, g4⟩, g5⟩, g6⟩ := h5
  simp [Cond.before, Cond.holds, Cond.value, h1, h2, h3, h4, g1, g2, g3, g4, g5, g6]
def isCode : Jvm.Cond → Bool
  | .code _ _ _ _ => true
  | _ => false
theorem all_split {L : List Jvm.Cond} {P : Jvm.Cond → Bool} (h1 : L.all (fun c => isCode c || P c) = true) (h2 : ∀ c ∈ L.filter isCode, P c = true) : L.all P = true := by
  refine List.all_eq_true.mpr fun c hc => ?_
  have h := List.all_eq_true.mp h1 c hc
  rcases Bool.eq_false_or_eq_true (isCode c) with hi | hi
  · exact h2 c (List.mem_filter.mpr ⟨hc, hi⟩)
  · simpa [hi] using h
set_option maxRecDepth 65536 in
theorem w_c0 : (Jvm.Cond.code x code maxLocals ret).before args0 about1 = true := code_word (m := ⟨1, 1⟩) (meth := k1m1) (c := k1c1) (by decide +kernel) rfl rfl rfl (by decide +kernel)
set_option maxRecDepth 65536 in
theorem w_c1 : (Jvm.Cond.code ({ cls := "com/example/noyau/noyau/solver/Propagator", name := "everyPlaceBut", desc := "(II[I)I" } : Jvm.MethodName) prog_86_method_3_code (5 : Nat) (Option.some Jvm.ClassFile.FieldType.int)).before args0 about1 = true := code_word (m := ⟨2, 0⟩) (meth := k2m0) (c := k2c0) (by decide +kernel) rfl rfl rfl (by decide +kernel)
set_option maxRecDepth 65536 in
theorem w_c2 : (Jvm.Cond.code ({ cls := "com/example/noyau/noyau/solver/PropagatorEveryPlaceButPinLaw", name := "at", desc := "([IIIIII)Z" } : Jvm.MethodName) method_3_code (7 : Nat) (Option.some Jvm.ClassFile.FieldType.boolean)).before args0 about1 = true := code_word (m := ⟨1, 2⟩) (meth := k1m2) (c := k1c2) (by decide +kernel) rfl rfl rfl (by decide +kernel)
def codes1 : List Jvm.Cond := [Jvm.Cond.code x code maxLocals ret, Jvm.Cond.code ({ cls := "com/example/noyau/noyau/solver/Propagator", name := "everyPlaceBut", desc := "(II[I)I" } : Jvm.MethodName) prog_86_method_3_code (5 : Nat) (Option.some Jvm.ClassFile.FieldType.int), Jvm.Cond.code ({ cls := "com/example/noyau/noyau/solver/PropagatorEveryPlaceButPinLaw", name := "at", desc := "([IIIIII)Z" } : Jvm.MethodName) method_3_code (7 : Nat) (Option.some Jvm.ClassFile.FieldType.boolean)]
set_option maxRecDepth 65536 in
theorem codes_eq : words1.filter isCode = codes1 := rfl
theorem w_codes : ∀ c ∈ words1.filter isCode, c.before args0 about1 = true := by
  rw [codes_eq]
  intro c hc
  simp only [codes1, List.mem_cons, List.not_mem_nil, or_false] at hc
  rcases hc with rfl | rfl | rfl
  · exact w_c0
  · exact w_c1
  · exact w_c2
set_option maxRecDepth 65536 in
theorem w_t1 : words1.all (fun c => isCode c || c.before args0 about1) = true := by decide +kernel
theorem w_tables : (allAtoms (Jvm.Cond.code x code maxLocals ret :: tables_1)).before args0 about1 = true := by
  rw [allAtoms_all]
  show words1.all (fun c => c.before args0 about1) = true
  refine all_split ?_ w_codes
  rw [w_t1]
set_option maxRecDepth 65536 in
theorem w_case : (Jvm.Cond.and given_1 narrow_1).before args0 about1 = true := by decide +kernel
theorem w_applies : (headSpec (Jvm.Cond.code x code maxLocals ret :: tables_1) room_1).applies x e0.platform about1 = true :=
  (Spec.applies_iff w_frames).mpr ⟨w_running, w_runnable, w_alone, w_named, w_hears, w_ripe, w_room, w_tables⟩
theorem atStart : AtStart classFile x code maxLocals ret World_1 tables_1 room_1 Calls_1 rest_1 Pre_1 launch0 p0 e0 about1 theMethod args0 below0 :=
  ⟨lists_1, trivial, launch0.admits_env _ _ _, launch0.least_env, fairChoices_fair.cas, fairChoices_fair.clock, w_frames, w_args, w_heap, w_applies, trivial, trivial, w_case⟩
end start1
theorem witness_1 : WitnessClaimed_1 := ⟨start1.p0, start1.e0, start1.about1, start1.theMethod, start1.args0, start1.below0, start1.atStart⟩
end Jvm.Pilot.@@N@@
