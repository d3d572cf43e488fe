import JvmDerived
import JvmDerived.Pilot.@@N@@Statement
import JvmDerived.Pilot.@@N@@Code
set_option linter.unusedVariables false
set_option linter.unusedSimpArgs false
namespace Jvm.RoadKit
open Sem ClassFile Op Lib Jvm.Stand Jvm.Free Jvm.LawKit
section New
variable {p : Program} {l : Launch} {e : Env} {R : Room} {s : State} {m : MethodId} {args : Array Value} {below : List Frame} {meth : Method} {c : Code} {T : State} {locs : List Loc} {cells slots : Nat}
theorem retI (X : Stand p l e R s m args below meth c T locs cells slots) (hx : p.tables.exec = Jvm.exec) {pc : Nat} {Ls : Array Slot} {z : Int32} {rest : List Value} (hret : meth.sig.returnType = some .int) (hd : decode c.code pc = .ok (.ireturn, 1)) {fs : List Frame}
    (hl : ∀ (f : JFrame) (acts : List Action), f.method = m → f.locked = none → f.entered = [] → (doReturn e (T.setTop f) acts (some (.int z))).1 = T.setFrames fs) : Steps p.tables e below (T.setTop (mkF m pc Ls (.int z :: rest))) (T.setFrames fs) := by
  have hm' : T.vm.method? m = some meth := X.method'
  have hn : narrow .int (.int z) = .int z := rfl
  show Steps p.tables e below (T.setTop { method := m, pc := pc, locals := Ls, stack := _ :: rest, locked := none }) _
  jvm_step X.here [X.here.top, hx, hd, hm', hret, hn]
  first | (intro acts; rw [hl _ acts rfl rfl rfl]) | rw [hl _ _ rfl rfl rfl]
  exact Steps.refl _
end New
end Jvm.RoadKit
namespace Jvm.Pilot.@@N@@
open Jvm Jvm.ClassFile Sem Op Lib Jvm.Free Jvm.Stand Jvm.LawKit Jvm.RoadKit Bundle Jvm.Pilot.@@N@@.Jvm.D
theorem own_ws (p : Int32) (h0 : 0 ≤ p.toInt) : (if p = 32 ∨ p = 9 ∨ p = 10 ∨ p = 13 then (1 : Int32) else 0) = if 32 < p then 0 else if (((4294977024 : Int64).toUInt64 >>> (p &&& 0x3f).toInt64.toUInt64).toInt64 &&& (1 : Int64)) = 0 then 0 else 1 := by
  by_cases h : (32 : Int32) < p
  · have h' : (32 : Int32).toInt < p.toInt := Int32.lt_iff_toInt_lt.mp h
    have e32 : (32 : Int32).toInt = 32 := by decide
    have n1 : ¬ p = 32 := fun q => by subst q; omega
    have n2 : ¬ p = 9 := fun q => by subst q; revert h; decide
    have n3 : ¬ p = 10 := fun q => by subst q; revert h; decide
    have n4 : ¬ p = 13 := fun q => by subst q; revert h; decide
    simp [h, n1, n2, n3, n4]
  · have h' : ¬ (32 : Int32).toInt < p.toInt := fun q => h (Int32.lt_iff_toInt_lt.mpr q)
    have e32 : (32 : Int32).toInt = 32 := by decide
    have hall : ∀ k : Fin 33, (fun p : Int32 => (if p = 32 ∨ p = 9 ∨ p = 10 ∨ p = 13 then (1 : Int32) else 0) = if 32 < p then 0 else if (((4294977024 : Int64).toUInt64 >>> (p &&& 0x3f).toInt64.toUInt64).toInt64 &&& (1 : Int64)) = 0 then 0 else 1) (Int32.ofInt (k.1 : Int)) := by decide +kernel
    have hp : p = Int32.ofInt (p.toInt.toNat : Int) := by
      rw [Int.toNat_of_nonneg h0]; exact (Int32.ofInt_toInt p).symm
    rw [hp]
    exact hall ⟨p.toInt.toNat, by omega⟩
theorem pn_0 : plainName "com/example/sealwright/sealwright/io/VeoXml" = true := by first | (simp [plainName, overriddenIn]; done) | decide +kernel
theorem d_prog_69_method_7_code_0 : decode prog_69_method_7_code 0 = .ok (.iload_n 0, 1) := by decide +kernel
theorem d_prog_69_method_7_code_1 : decode prog_69_method_7_code 1 = .ok (.bipush 32, 2) := by decide +kernel
theorem d_prog_69_method_7_code_3 : decode prog_69_method_7_code 3 = .ok (.if_icmp .eq 21, 3) := by decide +kernel
theorem d_prog_69_method_7_code_24 : decode prog_69_method_7_code 24 = .ok (.iconst 1, 1) := by decide +kernel
theorem d_prog_69_method_7_code_25 : decode prog_69_method_7_code 25 = .ok (.goto 4, 3) := by decide +kernel
theorem d_prog_69_method_7_code_29 : decode prog_69_method_7_code 29 = .ok (.ireturn, 1) := by decide +kernel
theorem d_prog_69_method_7_code_6 : decode prog_69_method_7_code 6 = .ok (.iload_n 0, 1) := by decide +kernel
theorem d_prog_69_method_7_code_7 : decode prog_69_method_7_code 7 = .ok (.bipush 9, 2) := by decide +kernel
theorem d_prog_69_method_7_code_9 : decode prog_69_method_7_code 9 = .ok (.if_icmp .eq 15, 3) := by decide +kernel
theorem d_prog_69_method_7_code_12 : decode prog_69_method_7_code 12 = .ok (.iload_n 0, 1) := by decide +kernel
theorem d_prog_69_method_7_code_13 : decode prog_69_method_7_code 13 = .ok (.bipush 10, 2) := by decide +kernel
theorem d_prog_69_method_7_code_15 : decode prog_69_method_7_code 15 = .ok (.if_icmp .eq 9, 3) := by decide +kernel
theorem d_prog_69_method_7_code_18 : decode prog_69_method_7_code 18 = .ok (.iload_n 0, 1) := by decide +kernel
theorem d_prog_69_method_7_code_19 : decode prog_69_method_7_code 19 = .ok (.bipush 13, 2) := by decide +kernel
theorem d_prog_69_method_7_code_21 : decode prog_69_method_7_code 21 = .ok (.if_icmp .ne 7, 3) := by decide +kernel
theorem d_prog_69_method_7_code_28 : decode prog_69_method_7_code 28 = .ok (.iconst 0, 1) := by decide +kernel
theorem ef_ws (m : MethodId) (va : Int32) : entryFrame m #[(.int va)] 1 = mkF m 0 #[.val (.int va)] [] := by first | (simp [entryFrame, mkF, argsToLocals, Value.category]; done) | rfl
def Q_ws (Z : State) (va : Int32) (h0 : Heap) (n0 : Nat) (v : Option Value) (h : Heap) (L : List Loc) : Prop := (∃ z : Int32, v = some (.int z) ∧ (z = if va = 32 ∨ va = 9 ∨ va = 10 ∨ va = 13 then 1 else 0)) ∧ Fr n0 L ∧ h = h0
set_option maxRecDepth 65536 in
set_option maxHeartbeats 40000000 in
theorem rm_ws (l : Launch) (Z : State) (a0 : Array Value) (hw : ∀ d ∈ tables_1, d.before a0 Z = true) (ws : List Jvm.Cond) (va : Int32) (h0 : Heap) (n0 : Nat) (Z0 : n0 ≤ h0.size) :
    MetFree l (⟨"com/example/sealwright/sealwright/io/VeoXml", "isWhiteSpace", "(C)Z"⟩ : MethodName) (head1 (Jvm.Cond.code (⟨"com/example/sealwright/sealwright/io/VeoXml", "isWhiteSpace", "(C)Z"⟩ : MethodName) prog_69_method_7_code 1 (some .boolean) :: ws) ({ frames := 0, cells := 0, slots := 0, locals := 0 } : Room)) (fun a U => a = #[(.int va)] ∧ Z.Warmed39 U.vm ∧ U.heap = h0) (fun _ _ _ _ _ => True) (fun _ U o U' => ∃ v L, o = .returned v ∧ Q_ws Z va h0 n0 v U'.heap L ∧ FrameEnd U o U' L ({ frames := 0, cells := 0, slots := 0, locals := 0 } : Room).cells ({ frames := 0, cells := 0, slots := 0, locals := 0 } : Room).slots) := by
  refine MetFree.of_bodySF (plainFor_of_name pn_0) hisR ?_
  intro p e s m args below meth c s₁ Bd hml0 hP hK
  obtain ⟨rfl, hZ, hh⟩ := hP
  have hx := Bd.exec
  have hby := Bd.bytes
  have hml : c.maxLocals = 1 := hml0
  have hown : s.vm.findClass "com/example/sealwright/sealwright/io/VeoXml" = some m.cls := findClass_of_methodNamed Bd.named
  have hnm := (name_of_methodNamed Bd.named Bd.method).1
  have X0 : Stand p l e ({ frames := 0, cells := 0, slots := 0, locals := 0 } : Room) s m #[(.int va)] below meth c s₁ [] 0 0 := Stand.of_body Bd
  have e0 : s₁.heap = h0 := by rw [← hh, Bd.state]; rfl
  have N0 := Fr.nil n0
  have pre0 : ∀ t, Steps p.tables e below (s₁.setTop (mkF m 0 #[.val (.int va)] [])) t → Steps p.tables e below (s₁.setTop (entryFrame m #[(.int va)] 1)) t := fun t k => castTop (ef_ws m va) k
  by_cases h3_1 : va = (32 : Int32)
  · obtain ⟨fs, hr, hrun, hended, hW, hsame⟩ := X0.leave (v := some (.int (1 : Int32))) (fun h => by rw [Bd.returns] at h; cases h)
    refine ⟨_, _, pre0 _ ?_, hrun, hended, _, _, rfl, ?_, ⟨_, rfl⟩, hW, hsame.mono (by decide) (by decide)⟩
    · show Steps p.tables e below (s₁.setTop (mkF m 0 #[.val (.int va)] [])) _
      refine XS.iloadN X0.here hx rfl (hb hby d_prog_69_method_7_code_0) rfl ?_
      show Steps p.tables e below (s₁.setTop (mkF m 1 #[.val (.int va)] [(.int va)])) _
      refine XS.bipush X0.here hx rfl (hb hby d_prog_69_method_7_code_1) ?_
      show Steps p.tables e below (s₁.setTop (mkF m 3 #[.val (.int va)] [(.int (32 : Int32)), (.int va)])) _
      refine XS.icmpYes X0.here hx rfl (pc0 := 3) (pc' := 24) rfl (hb hby d_prog_69_method_7_code_3) rfl (teq h3_1).1 (by decide) (by decide) ?_
      show Steps p.tables e below (s₁.setTop (mkF m 24 #[.val (.int va)] [])) _
      refine XS.iconst X0.here hx rfl (hb hby d_prog_69_method_7_code_24) ?_
      show Steps p.tables e below (s₁.setTop (mkF m 25 #[.val (.int va)] [(.int (1 : Int32))])) _
      refine XS.goto X0.here hx rfl (pc0 := 25) (pc' := 29) rfl (hb hby d_prog_69_method_7_code_25) (by decide) (by decide) ?_
      show Steps p.tables e below (s₁.setTop (mkF m 29 #[.val (.int va)] [(.int (1 : Int32))])) _
      exact retN X0 hx (t := .boolean) Bd.returns (by simp) (hb hby d_prog_69_method_7_code_29) hr
    · show Q_ws Z va h0 n0 _ s₁.heap _
      rw [e0]
      exact ⟨⟨_, rfl, by simp [h3_1]⟩, N0, rfl⟩
  · by_cases h9_2 : va = (9 : Int32)
    · obtain ⟨fs, hr, hrun, hended, hW, hsame⟩ := X0.leave (v := some (.int (1 : Int32))) (fun h => by rw [Bd.returns] at h; cases h)
      refine ⟨_, _, pre0 _ ?_, hrun, hended, _, _, rfl, ?_, ⟨_, rfl⟩, hW, hsame.mono (by decide) (by decide)⟩
      · show Steps p.tables e below (s₁.setTop (mkF m 0 #[.val (.int va)] [])) _
        refine XS.iloadN X0.here hx rfl (hb hby d_prog_69_method_7_code_0) rfl ?_
        show Steps p.tables e below (s₁.setTop (mkF m 1 #[.val (.int va)] [(.int va)])) _
        refine XS.bipush X0.here hx rfl (hb hby d_prog_69_method_7_code_1) ?_
        show Steps p.tables e below (s₁.setTop (mkF m 3 #[.val (.int va)] [(.int (32 : Int32)), (.int va)])) _
        refine XS.icmpNo X0.here hx rfl (hb hby d_prog_69_method_7_code_3) rfl (feq h3_1).1 ?_
        show Steps p.tables e below (s₁.setTop (mkF m 6 #[.val (.int va)] [])) _
        refine XS.iloadN X0.here hx rfl (hb hby d_prog_69_method_7_code_6) rfl ?_
        show Steps p.tables e below (s₁.setTop (mkF m 7 #[.val (.int va)] [(.int va)])) _
        refine XS.bipush X0.here hx rfl (hb hby d_prog_69_method_7_code_7) ?_
        show Steps p.tables e below (s₁.setTop (mkF m 9 #[.val (.int va)] [(.int (9 : Int32)), (.int va)])) _
        refine XS.icmpYes X0.here hx rfl (pc0 := 9) (pc' := 24) rfl (hb hby d_prog_69_method_7_code_9) rfl (teq h9_2).1 (by decide) (by decide) ?_
        show Steps p.tables e below (s₁.setTop (mkF m 24 #[.val (.int va)] [])) _
        refine XS.iconst X0.here hx rfl (hb hby d_prog_69_method_7_code_24) ?_
        show Steps p.tables e below (s₁.setTop (mkF m 25 #[.val (.int va)] [(.int (1 : Int32))])) _
        refine XS.goto X0.here hx rfl (pc0 := 25) (pc' := 29) rfl (hb hby d_prog_69_method_7_code_25) (by decide) (by decide) ?_
        show Steps p.tables e below (s₁.setTop (mkF m 29 #[.val (.int va)] [(.int (1 : Int32))])) _
        exact retN X0 hx (t := .boolean) Bd.returns (by simp) (hb hby d_prog_69_method_7_code_29) hr
      · show Q_ws Z va h0 n0 _ s₁.heap _
        rw [e0]
        exact ⟨⟨_, rfl, by simp [h3_1, h9_2]⟩, N0, rfl⟩
    · by_cases h15_3 : va = (10 : Int32)
      · obtain ⟨fs, hr, hrun, hended, hW, hsame⟩ := X0.leave (v := some (.int (1 : Int32))) (fun h => by rw [Bd.returns] at h; cases h)
        refine ⟨_, _, pre0 _ ?_, hrun, hended, _, _, rfl, ?_, ⟨_, rfl⟩, hW, hsame.mono (by decide) (by decide)⟩
        · show Steps p.tables e below (s₁.setTop (mkF m 0 #[.val (.int va)] [])) _
          refine XS.iloadN X0.here hx rfl (hb hby d_prog_69_method_7_code_0) rfl ?_
          show Steps p.tables e below (s₁.setTop (mkF m 1 #[.val (.int va)] [(.int va)])) _
          refine XS.bipush X0.here hx rfl (hb hby d_prog_69_method_7_code_1) ?_
          show Steps p.tables e below (s₁.setTop (mkF m 3 #[.val (.int va)] [(.int (32 : Int32)), (.int va)])) _
          refine XS.icmpNo X0.here hx rfl (hb hby d_prog_69_method_7_code_3) rfl (feq h3_1).1 ?_
          show Steps p.tables e below (s₁.setTop (mkF m 6 #[.val (.int va)] [])) _
          refine XS.iloadN X0.here hx rfl (hb hby d_prog_69_method_7_code_6) rfl ?_
          show Steps p.tables e below (s₁.setTop (mkF m 7 #[.val (.int va)] [(.int va)])) _
          refine XS.bipush X0.here hx rfl (hb hby d_prog_69_method_7_code_7) ?_
          show Steps p.tables e below (s₁.setTop (mkF m 9 #[.val (.int va)] [(.int (9 : Int32)), (.int va)])) _
          refine XS.icmpNo X0.here hx rfl (hb hby d_prog_69_method_7_code_9) rfl (feq h9_2).1 ?_
          show Steps p.tables e below (s₁.setTop (mkF m 12 #[.val (.int va)] [])) _
          refine XS.iloadN X0.here hx rfl (hb hby d_prog_69_method_7_code_12) rfl ?_
          show Steps p.tables e below (s₁.setTop (mkF m 13 #[.val (.int va)] [(.int va)])) _
          refine XS.bipush X0.here hx rfl (hb hby d_prog_69_method_7_code_13) ?_
          show Steps p.tables e below (s₁.setTop (mkF m 15 #[.val (.int va)] [(.int (10 : Int32)), (.int va)])) _
          refine XS.icmpYes X0.here hx rfl (pc0 := 15) (pc' := 24) rfl (hb hby d_prog_69_method_7_code_15) rfl (teq h15_3).1 (by decide) (by decide) ?_
          show Steps p.tables e below (s₁.setTop (mkF m 24 #[.val (.int va)] [])) _
          refine XS.iconst X0.here hx rfl (hb hby d_prog_69_method_7_code_24) ?_
          show Steps p.tables e below (s₁.setTop (mkF m 25 #[.val (.int va)] [(.int (1 : Int32))])) _
          refine XS.goto X0.here hx rfl (pc0 := 25) (pc' := 29) rfl (hb hby d_prog_69_method_7_code_25) (by decide) (by decide) ?_
          show Steps p.tables e below (s₁.setTop (mkF m 29 #[.val (.int va)] [(.int (1 : Int32))])) _
          exact retN X0 hx (t := .boolean) Bd.returns (by simp) (hb hby d_prog_69_method_7_code_29) hr
        · show Q_ws Z va h0 n0 _ s₁.heap _
          rw [e0]
          exact ⟨⟨_, rfl, by simp [h3_1, h9_2, h15_3]⟩, N0, rfl⟩
      · by_cases h21_4 : va = (13 : Int32)
        · obtain ⟨fs, hr, hrun, hended, hW, hsame⟩ := X0.leave (v := some (.int (1 : Int32))) (fun h => by rw [Bd.returns] at h; cases h)
          refine ⟨_, _, pre0 _ ?_, hrun, hended, _, _, rfl, ?_, ⟨_, rfl⟩, hW, hsame.mono (by decide) (by decide)⟩
          · show Steps p.tables e below (s₁.setTop (mkF m 0 #[.val (.int va)] [])) _
            refine XS.iloadN X0.here hx rfl (hb hby d_prog_69_method_7_code_0) rfl ?_
            show Steps p.tables e below (s₁.setTop (mkF m 1 #[.val (.int va)] [(.int va)])) _
            refine XS.bipush X0.here hx rfl (hb hby d_prog_69_method_7_code_1) ?_
            show Steps p.tables e below (s₁.setTop (mkF m 3 #[.val (.int va)] [(.int (32 : Int32)), (.int va)])) _
            refine XS.icmpNo X0.here hx rfl (hb hby d_prog_69_method_7_code_3) rfl (feq h3_1).1 ?_
            show Steps p.tables e below (s₁.setTop (mkF m 6 #[.val (.int va)] [])) _
            refine XS.iloadN X0.here hx rfl (hb hby d_prog_69_method_7_code_6) rfl ?_
            show Steps p.tables e below (s₁.setTop (mkF m 7 #[.val (.int va)] [(.int va)])) _
            refine XS.bipush X0.here hx rfl (hb hby d_prog_69_method_7_code_7) ?_
            show Steps p.tables e below (s₁.setTop (mkF m 9 #[.val (.int va)] [(.int (9 : Int32)), (.int va)])) _
            refine XS.icmpNo X0.here hx rfl (hb hby d_prog_69_method_7_code_9) rfl (feq h9_2).1 ?_
            show Steps p.tables e below (s₁.setTop (mkF m 12 #[.val (.int va)] [])) _
            refine XS.iloadN X0.here hx rfl (hb hby d_prog_69_method_7_code_12) rfl ?_
            show Steps p.tables e below (s₁.setTop (mkF m 13 #[.val (.int va)] [(.int va)])) _
            refine XS.bipush X0.here hx rfl (hb hby d_prog_69_method_7_code_13) ?_
            show Steps p.tables e below (s₁.setTop (mkF m 15 #[.val (.int va)] [(.int (10 : Int32)), (.int va)])) _
            refine XS.icmpNo X0.here hx rfl (hb hby d_prog_69_method_7_code_15) rfl (feq h15_3).1 ?_
            show Steps p.tables e below (s₁.setTop (mkF m 18 #[.val (.int va)] [])) _
            refine XS.iloadN X0.here hx rfl (hb hby d_prog_69_method_7_code_18) rfl ?_
            show Steps p.tables e below (s₁.setTop (mkF m 19 #[.val (.int va)] [(.int va)])) _
            refine XS.bipush X0.here hx rfl (hb hby d_prog_69_method_7_code_19) ?_
            show Steps p.tables e below (s₁.setTop (mkF m 21 #[.val (.int va)] [(.int (13 : Int32)), (.int va)])) _
            refine XS.icmpNo X0.here hx rfl (hb hby d_prog_69_method_7_code_21) rfl (teq h21_4).2 ?_
            show Steps p.tables e below (s₁.setTop (mkF m 24 #[.val (.int va)] [])) _
            refine XS.iconst X0.here hx rfl (hb hby d_prog_69_method_7_code_24) ?_
            show Steps p.tables e below (s₁.setTop (mkF m 25 #[.val (.int va)] [(.int (1 : Int32))])) _
            refine XS.goto X0.here hx rfl (pc0 := 25) (pc' := 29) rfl (hb hby d_prog_69_method_7_code_25) (by decide) (by decide) ?_
            show Steps p.tables e below (s₁.setTop (mkF m 29 #[.val (.int va)] [(.int (1 : Int32))])) _
            exact retN X0 hx (t := .boolean) Bd.returns (by simp) (hb hby d_prog_69_method_7_code_29) hr
          · show Q_ws Z va h0 n0 _ s₁.heap _
            rw [e0]
            exact ⟨⟨_, rfl, by simp [h3_1, h9_2, h15_3, h21_4]⟩, N0, rfl⟩
        · obtain ⟨fs, hr, hrun, hended, hW, hsame⟩ := X0.leave (v := some (.int (0 : Int32))) (fun h => by rw [Bd.returns] at h; cases h)
          refine ⟨_, _, pre0 _ ?_, hrun, hended, _, _, rfl, ?_, ⟨_, rfl⟩, hW, hsame.mono (by decide) (by decide)⟩
          · show Steps p.tables e below (s₁.setTop (mkF m 0 #[.val (.int va)] [])) _
            refine XS.iloadN X0.here hx rfl (hb hby d_prog_69_method_7_code_0) rfl ?_
            show Steps p.tables e below (s₁.setTop (mkF m 1 #[.val (.int va)] [(.int va)])) _
            refine XS.bipush X0.here hx rfl (hb hby d_prog_69_method_7_code_1) ?_
            show Steps p.tables e below (s₁.setTop (mkF m 3 #[.val (.int va)] [(.int (32 : Int32)), (.int va)])) _
            refine XS.icmpNo X0.here hx rfl (hb hby d_prog_69_method_7_code_3) rfl (feq h3_1).1 ?_
            show Steps p.tables e below (s₁.setTop (mkF m 6 #[.val (.int va)] [])) _
            refine XS.iloadN X0.here hx rfl (hb hby d_prog_69_method_7_code_6) rfl ?_
            show Steps p.tables e below (s₁.setTop (mkF m 7 #[.val (.int va)] [(.int va)])) _
            refine XS.bipush X0.here hx rfl (hb hby d_prog_69_method_7_code_7) ?_
            show Steps p.tables e below (s₁.setTop (mkF m 9 #[.val (.int va)] [(.int (9 : Int32)), (.int va)])) _
            refine XS.icmpNo X0.here hx rfl (hb hby d_prog_69_method_7_code_9) rfl (feq h9_2).1 ?_
            show Steps p.tables e below (s₁.setTop (mkF m 12 #[.val (.int va)] [])) _
            refine XS.iloadN X0.here hx rfl (hb hby d_prog_69_method_7_code_12) rfl ?_
            show Steps p.tables e below (s₁.setTop (mkF m 13 #[.val (.int va)] [(.int va)])) _
            refine XS.bipush X0.here hx rfl (hb hby d_prog_69_method_7_code_13) ?_
            show Steps p.tables e below (s₁.setTop (mkF m 15 #[.val (.int va)] [(.int (10 : Int32)), (.int va)])) _
            refine XS.icmpNo X0.here hx rfl (hb hby d_prog_69_method_7_code_15) rfl (feq h15_3).1 ?_
            show Steps p.tables e below (s₁.setTop (mkF m 18 #[.val (.int va)] [])) _
            refine XS.iloadN X0.here hx rfl (hb hby d_prog_69_method_7_code_18) rfl ?_
            show Steps p.tables e below (s₁.setTop (mkF m 19 #[.val (.int va)] [(.int va)])) _
            refine XS.bipush X0.here hx rfl (hb hby d_prog_69_method_7_code_19) ?_
            show Steps p.tables e below (s₁.setTop (mkF m 21 #[.val (.int va)] [(.int (13 : Int32)), (.int va)])) _
            refine XS.icmpYes X0.here hx rfl (pc0 := 21) (pc' := 28) rfl (hb hby d_prog_69_method_7_code_21) rfl (feq h21_4).2 (by decide) (by decide) ?_
            show Steps p.tables e below (s₁.setTop (mkF m 28 #[.val (.int va)] [])) _
            refine XS.iconst X0.here hx rfl (hb hby d_prog_69_method_7_code_28) ?_
            show Steps p.tables e below (s₁.setTop (mkF m 29 #[.val (.int va)] [(.int (0 : Int32))])) _
            exact retN X0 hx (t := .boolean) Bd.returns (by simp) (hb hby d_prog_69_method_7_code_29) hr
          · show Q_ws Z va h0 n0 _ s₁.heap _
            rw [e0]
            exact ⟨⟨_, rfl, by simp [h3_1, h9_2, h15_3, h21_4]⟩, N0, rfl⟩
theorem pn_1 : plainName "com/example/sealwright/sealwright/io/VeoXmlIsWhiteSpacePinLaw" = true := by first | (simp [plainName, overriddenIn]; done) | decide +kernel
theorem d_method_2_code_0 : decode method_2_code 0 = .ok (.iload_n 0, 1) := by decide +kernel
theorem d_method_2_code_1 : decode method_2_code 1 = .ok (.bipush 32, 2) := by decide +kernel
theorem d_method_2_code_3 : decode method_2_code 3 = .ok (.if_icmp .le 5, 3) := by decide +kernel
theorem d_method_2_code_6 : decode method_2_code 6 = .ok (.iconst 0, 1) := by decide +kernel
theorem d_method_2_code_7 : decode method_2_code 7 = .ok (.ireturn, 1) := by decide +kernel
theorem d_method_2_code_8 : decode method_2_code 8 = .ok (.ldc2_w 9, 3) := by decide +kernel
theorem d_method_2_code_11 : decode method_2_code 11 = .ok (.iload_n 0, 1) := by decide +kernel
theorem d_method_2_code_12 : decode method_2_code 12 = .ok (.lushr, 1) := by decide +kernel
theorem d_method_2_code_13 : decode method_2_code 13 = .ok (.lconst 1, 1) := by decide +kernel
theorem d_method_2_code_14 : decode method_2_code 14 = .ok (.land, 1) := by decide +kernel
theorem d_method_2_code_15 : decode method_2_code 15 = .ok (.lconst 0, 1) := by decide +kernel
theorem d_method_2_code_16 : decode method_2_code 16 = .ok (.lcmp, 1) := by decide +kernel
theorem d_method_2_code_17 : decode method_2_code 17 = .ok (.ifCond .eq 7, 3) := by decide +kernel
theorem d_method_2_code_24 : decode method_2_code 24 = .ok (.iconst 0, 1) := by decide +kernel
theorem d_method_2_code_25 : decode method_2_code 25 = .ok (.ireturn, 1) := by decide +kernel
theorem d_method_2_code_20 : decode method_2_code 20 = .ok (.iconst 1, 1) := by decide +kernel
theorem d_method_2_code_21 : decode method_2_code 21 = .ok (.goto 4, 3) := by decide +kernel
theorem ef_exp (m : MethodId) (va : Int32) : entryFrame m #[(.int va)] 1 = mkF m 0 #[.val (.int va)] [] := by first | (simp [entryFrame, mkF, argsToLocals, Value.category]; done) | rfl
def Q_exp (Z : State) (va : Int32) (h0 : Heap) (n0 : Nat) (v : Option Value) (h : Heap) (L : List Loc) : Prop := (∃ z : Int32, v = some (.int z) ∧ (z = if 32 < va then 0 else if (((4294977024 : Int64).toUInt64 >>> (va &&& 0x3f).toInt64.toUInt64).toInt64 &&& (1 : Int64)) = 0 then 0 else 1)) ∧ Fr n0 L ∧ h = h0
set_option maxRecDepth 65536 in
set_option maxHeartbeats 40000000 in
theorem rm_exp (l : Launch) (Z : State) (a0 : Array Value) (hw : ∀ d ∈ tables_1, d.before a0 Z = true) (ws : List Jvm.Cond) (va : Int32) (h0 : Heap) (n0 : Nat) (Z0 : n0 ≤ h0.size) :
    MetFree l (⟨"com/example/sealwright/sealwright/io/VeoXmlIsWhiteSpacePinLaw", "expected", "(C)Z"⟩ : MethodName) (head1 (Jvm.Cond.code (⟨"com/example/sealwright/sealwright/io/VeoXmlIsWhiteSpacePinLaw", "expected", "(C)Z"⟩ : MethodName) method_2_code 1 (some .boolean) :: ws) ({ frames := 0, cells := 0, slots := 0, locals := 0 } : Room)) (fun a U => a = #[(.int va)] ∧ Z.Warmed39 U.vm ∧ U.heap = h0) (fun _ _ _ _ _ => True) (fun _ U o U' => ∃ v L, o = .returned v ∧ Q_exp Z va h0 n0 v U'.heap L ∧ FrameEnd U o U' L ({ frames := 0, cells := 0, slots := 0, locals := 0 } : Room).cells ({ frames := 0, cells := 0, slots := 0, locals := 0 } : Room).slots) := by
  refine MetFree.of_bodySF (plainFor_of_name pn_1) hisR ?_
  intro p e s m args below meth c s₁ Bd hml0 hP hK
  obtain ⟨rfl, hZ, hh⟩ := hP
  have hx := Bd.exec
  have hby := Bd.bytes
  have hml : c.maxLocals = 1 := hml0
  have hown : s.vm.findClass "com/example/sealwright/sealwright/io/VeoXmlIsWhiteSpacePinLaw" = some m.cls := findClass_of_methodNamed Bd.named
  have hnm := (name_of_methodNamed Bd.named Bd.method).1
  have X0 : Stand p l e ({ frames := 0, cells := 0, slots := 0, locals := 0 } : Room) s m #[(.int va)] below meth c s₁ [] 0 0 := Stand.of_body Bd
  have e0 : s₁.heap = h0 := by rw [← hh, Bd.state]; rfl
  have N0 := Fr.nil n0
  have pre0 : ∀ t, Steps p.tables e below (s₁.setTop (mkF m 0 #[.val (.int va)] [])) t → Steps p.tables e below (s₁.setTop (entryFrame m #[(.int va)] 1)) t := fun t k => castTop (ef_exp m va) k
  by_cases h3_5 : (32 : Int32) < va
  · obtain ⟨fs, hr, hrun, hended, hW, hsame⟩ := X0.leave (v := some (.int (0 : Int32))) (fun h => by rw [Bd.returns] at h; cases h)
    refine ⟨_, _, pre0 _ ?_, hrun, hended, _, _, rfl, ?_, ⟨_, rfl⟩, hW, hsame.mono (by decide) (by decide)⟩
    · show Steps p.tables e below (s₁.setTop (mkF m 0 #[.val (.int va)] [])) _
      refine XS.iloadN X0.here hx rfl (hb hby d_method_2_code_0) rfl ?_
      show Steps p.tables e below (s₁.setTop (mkF m 1 #[.val (.int va)] [(.int va)])) _
      refine XS.bipush X0.here hx rfl (hb hby d_method_2_code_1) ?_
      show Steps p.tables e below (s₁.setTop (mkF m 3 #[.val (.int va)] [(.int (32 : Int32)), (.int va)])) _
      refine XS.icmpNo X0.here hx rfl (hb hby d_method_2_code_3) rfl (tlt h3_5).2.2.2 ?_
      show Steps p.tables e below (s₁.setTop (mkF m 6 #[.val (.int va)] [])) _
      refine XS.iconst X0.here hx rfl (hb hby d_method_2_code_6) ?_
      show Steps p.tables e below (s₁.setTop (mkF m 7 #[.val (.int va)] [(.int (0 : Int32))])) _
      exact retN X0 hx (t := .boolean) Bd.returns (by simp) (hb hby d_method_2_code_7) hr
    · show Q_exp Z va h0 n0 _ s₁.heap _
      rw [e0]
      exact ⟨⟨_, rfl, by rw [if_pos h3_5]⟩, N0, rfl⟩
  · by_cases h17_6 : ((((4294977024 : Int64).toUInt64 >>> (va &&& 0x3f).toInt64.toUInt64).toInt64) &&& (1 : Int64)) = (0 : Int64)
    · obtain ⟨fs, hr, hrun, hended, hW, hsame⟩ := X0.leave (v := some (.int (0 : Int32))) (fun h => by rw [Bd.returns] at h; cases h)
      refine ⟨_, _, pre0 _ ?_, hrun, hended, _, _, rfl, ?_, ⟨_, rfl⟩, hW, hsame.mono (by decide) (by decide)⟩
      · show Steps p.tables e below (s₁.setTop (mkF m 0 #[.val (.int va)] [])) _
        refine XS.iloadN X0.here hx rfl (hb hby d_method_2_code_0) rfl ?_
        show Steps p.tables e below (s₁.setTop (mkF m 1 #[.val (.int va)] [(.int va)])) _
        refine XS.bipush X0.here hx rfl (hb hby d_method_2_code_1) ?_
        show Steps p.tables e below (s₁.setTop (mkF m 3 #[.val (.int va)] [(.int (32 : Int32)), (.int va)])) _
        refine XS.icmpYes X0.here hx rfl (pc0 := 3) (pc' := 8) rfl (hb hby d_method_2_code_3) rfl (flt h3_5).2.2.2 (by decide) (by decide) ?_
        show Steps p.tables e below (s₁.setTop (mkF m 8 #[.val (.int va)] [])) _
        refine X0.ldc2Long hx hown (mvT hZ (hw _ (List.mem_of_getElem? (i := 8) rfl))) (g := (mkF m 8 #[.val (.int va)] [])) rfl (hb hby d_method_2_code_8) _ ?_
        show Steps p.tables e below (s₁.setTop (mkF m 11 #[.val (.int va)] [(.long (4294977024 : Int64))])) _
        refine XS.iloadN X0.here hx rfl (hb hby d_method_2_code_11) rfl ?_
        show Steps p.tables e below (s₁.setTop (mkF m 12 #[.val (.int va)] [(.int va), (.long (4294977024 : Int64))])) _
        refine XS.lushr X0.here hx rfl (hb hby d_method_2_code_12) rfl ?_
        show Steps p.tables e below (s₁.setTop (mkF m 13 #[.val (.int va)] [(.long (((4294977024 : Int64).toUInt64 >>> (va &&& 0x3f).toInt64.toUInt64).toInt64))])) _
        refine XS.lconst X0.here hx rfl (hb hby d_method_2_code_13) ?_
        show Steps p.tables e below (s₁.setTop (mkF m 14 #[.val (.int va)] [(.long (1 : Int64)), (.long (((4294977024 : Int64).toUInt64 >>> (va &&& 0x3f).toInt64.toUInt64).toInt64))])) _
        refine XS.land X0.here hx rfl (hb hby d_method_2_code_14) rfl ?_
        show Steps p.tables e below (s₁.setTop (mkF m 15 #[.val (.int va)] [(.long ((((4294977024 : Int64).toUInt64 >>> (va &&& 0x3f).toInt64.toUInt64).toInt64) &&& (1 : Int64)))])) _
        refine XS.lconst X0.here hx rfl (hb hby d_method_2_code_15) ?_
        show Steps p.tables e below (s₁.setTop (mkF m 16 #[.val (.int va)] [(.long (0 : Int64)), (.long ((((4294977024 : Int64).toUInt64 >>> (va &&& 0x3f).toInt64.toUInt64).toInt64) &&& (1 : Int64)))])) _
        refine XS.lcmp X0.here hx rfl (hb hby d_method_2_code_16) rfl ?_
        show Steps p.tables e below (s₁.setTop (mkF m 17 #[.val (.int va)] [(.int (lcmpW ((((4294977024 : Int64).toUInt64 >>> (va &&& 0x3f).toInt64.toUInt64).toInt64) &&& (1 : Int64)) (0 : Int64)))])) _
        refine XS.ifYes X0.here hx rfl (pc0 := 17) (pc' := 24) rfl (hb hby d_method_2_code_17) rfl ((if0 _ _).trans (teq ((lw_eq _ _).mpr h17_6)).1) (by decide) (by decide) ?_
        show Steps p.tables e below (s₁.setTop (mkF m 24 #[.val (.int va)] [])) _
        refine XS.iconst X0.here hx rfl (hb hby d_method_2_code_24) ?_
        show Steps p.tables e below (s₁.setTop (mkF m 25 #[.val (.int va)] [(.int (0 : Int32))])) _
        exact retN X0 hx (t := .boolean) Bd.returns (by simp) (hb hby d_method_2_code_25) hr
      · show Q_exp Z va h0 n0 _ s₁.heap _
        rw [e0]
        exact ⟨⟨_, rfl, by rw [if_neg h3_5, if_pos h17_6]⟩, N0, rfl⟩
    · obtain ⟨fs, hr, hrun, hended, hW, hsame⟩ := X0.leave (v := some (.int (1 : Int32))) (fun h => by rw [Bd.returns] at h; cases h)
      refine ⟨_, _, pre0 _ ?_, hrun, hended, _, _, rfl, ?_, ⟨_, rfl⟩, hW, hsame.mono (by decide) (by decide)⟩
      · show Steps p.tables e below (s₁.setTop (mkF m 0 #[.val (.int va)] [])) _
        refine XS.iloadN X0.here hx rfl (hb hby d_method_2_code_0) rfl ?_
        show Steps p.tables e below (s₁.setTop (mkF m 1 #[.val (.int va)] [(.int va)])) _
        refine XS.bipush X0.here hx rfl (hb hby d_method_2_code_1) ?_
        show Steps p.tables e below (s₁.setTop (mkF m 3 #[.val (.int va)] [(.int (32 : Int32)), (.int va)])) _
        refine XS.icmpYes X0.here hx rfl (pc0 := 3) (pc' := 8) rfl (hb hby d_method_2_code_3) rfl (flt h3_5).2.2.2 (by decide) (by decide) ?_
        show Steps p.tables e below (s₁.setTop (mkF m 8 #[.val (.int va)] [])) _
        refine X0.ldc2Long hx hown (mvT hZ (hw _ (List.mem_of_getElem? (i := 8) rfl))) (g := (mkF m 8 #[.val (.int va)] [])) rfl (hb hby d_method_2_code_8) _ ?_
        show Steps p.tables e below (s₁.setTop (mkF m 11 #[.val (.int va)] [(.long (4294977024 : Int64))])) _
        refine XS.iloadN X0.here hx rfl (hb hby d_method_2_code_11) rfl ?_
        show Steps p.tables e below (s₁.setTop (mkF m 12 #[.val (.int va)] [(.int va), (.long (4294977024 : Int64))])) _
        refine XS.lushr X0.here hx rfl (hb hby d_method_2_code_12) rfl ?_
        show Steps p.tables e below (s₁.setTop (mkF m 13 #[.val (.int va)] [(.long (((4294977024 : Int64).toUInt64 >>> (va &&& 0x3f).toInt64.toUInt64).toInt64))])) _
        refine XS.lconst X0.here hx rfl (hb hby d_method_2_code_13) ?_
        show Steps p.tables e below (s₁.setTop (mkF m 14 #[.val (.int va)] [(.long (1 : Int64)), (.long (((4294977024 : Int64).toUInt64 >>> (va &&& 0x3f).toInt64.toUInt64).toInt64))])) _
        refine XS.land X0.here hx rfl (hb hby d_method_2_code_14) rfl ?_
        show Steps p.tables e below (s₁.setTop (mkF m 15 #[.val (.int va)] [(.long ((((4294977024 : Int64).toUInt64 >>> (va &&& 0x3f).toInt64.toUInt64).toInt64) &&& (1 : Int64)))])) _
        refine XS.lconst X0.here hx rfl (hb hby d_method_2_code_15) ?_
        show Steps p.tables e below (s₁.setTop (mkF m 16 #[.val (.int va)] [(.long (0 : Int64)), (.long ((((4294977024 : Int64).toUInt64 >>> (va &&& 0x3f).toInt64.toUInt64).toInt64) &&& (1 : Int64)))])) _
        refine XS.lcmp X0.here hx rfl (hb hby d_method_2_code_16) rfl ?_
        show Steps p.tables e below (s₁.setTop (mkF m 17 #[.val (.int va)] [(.int (lcmpW ((((4294977024 : Int64).toUInt64 >>> (va &&& 0x3f).toInt64.toUInt64).toInt64) &&& (1 : Int64)) (0 : Int64)))])) _
        refine XS.ifNo X0.here hx rfl (hb hby d_method_2_code_17) rfl ((if0 _ _).trans (feq (fun q => h17_6 ((lw_eq _ _).mp q))).1) ?_
        show Steps p.tables e below (s₁.setTop (mkF m 20 #[.val (.int va)] [])) _
        refine XS.iconst X0.here hx rfl (hb hby d_method_2_code_20) ?_
        show Steps p.tables e below (s₁.setTop (mkF m 21 #[.val (.int va)] [(.int (1 : Int32))])) _
        refine XS.goto X0.here hx rfl (pc0 := 21) (pc' := 25) rfl (hb hby d_method_2_code_21) (by decide) (by decide) ?_
        show Steps p.tables e below (s₁.setTop (mkF m 25 #[.val (.int va)] [(.int (1 : Int32))])) _
        exact retN X0 hx (t := .boolean) Bd.returns (by simp) (hb hby d_method_2_code_25) hr
      · show Q_exp Z va h0 n0 _ s₁.heap _
        rw [e0]
        exact ⟨⟨_, rfl, by rw [if_neg h3_5, if_neg h17_6]⟩, N0, rfl⟩
theorem pd_0 : parseMethodDescriptor "(C)Z" = some ⟨[.char], some .boolean⟩ := by decide +kernel
theorem ef_law (m : MethodId) (vx : Int32) : entryFrame m #[(.int vx)] maxLocals = mkF m 0 #[.val (.int vx), .unset] [] := by first | (simp [entryFrame, mkF, argsToLocals, Value.category, maxLocals]; done) | rfl
def Q_law (Z : State) (vx : Int32) (h0 : Heap) (n0 : Nat) (v : Option Value) (h : Heap) (L : List Loc) : Prop := v = some (.int 1) ∧ Fr n0 L
set_option maxRecDepth 65536 in
set_option maxHeartbeats 40000000 in
theorem rm_law (l : Launch) (Z : State) (a0 : Array Value) (hw : ∀ d ∈ tables_1, d.before a0 Z = true) (ws : List Jvm.Cond) (vx : Int32) (h0 : Heap) (n0 : Nat) (Z0 : n0 ≤ h0.size) :
    MetFree l x (head1 (Jvm.Cond.code x code maxLocals ret :: ws) room_1) (fun a U => a = #[(.int vx)] ∧ Z.Warmed39 U.vm ∧ U.heap = h0) (fun _ _ _ _ _ => True) (fun _ U o U' => ∃ v L, o = .returned v ∧ Q_law Z vx h0 n0 v U'.heap L ∧ FrameEnd U o U' L room_1.cells room_1.slots) := by
  refine MetFree.of_bodySF (plainFor_of_name pn_1) hisR ?_
  intro p e s m args below meth c s₁ Bd hml0 hP hK
  obtain ⟨rfl, hZ, hh⟩ := hP
  have hx := Bd.exec
  have hby := Bd.bytes
  have hml : c.maxLocals = 2 := hml0
  have hown : s.vm.findClass "com/example/sealwright/sealwright/io/VeoXmlIsWhiteSpacePinLaw" = some m.cls := findClass_of_methodNamed Bd.named
  have hnm := (name_of_methodNamed Bd.named Bd.method).1
  have X0 : Stand p l e room_1 s m #[(.int vx)] below meth c s₁ [] 0 0 := Stand.of_body Bd
  have e0 : s₁.heap = h0 := by rw [← hh, Bd.state]; rfl
  have N0 := Fr.nil n0
  have pre0 : ∀ t, Steps p.tables e below (s₁.setTop (mkF m 0 #[.val (.int vx), .unset] [])) t → Steps p.tables e below (s₁.setTop (entryFrame m #[(.int vx)] maxLocals)) t := fun t k => castTop (ef_law m vx) k
  obtain ⟨_, _, ⟨T7, L7, k7, n7⟩, -, X7, ⟨Lc7, hQ7, l7, y7, z7⟩, st7⟩ := Jvm.LawKit.callS X0 hx (y := (⟨"com/example/sealwright/sealwright/io/VeoXml", "isWhiteSpace", "(C)Z"⟩ : MethodName)) hown (mvT hZ (hw _ (List.mem_of_getElem? (i := 0) rfl))) (mvT hZ (hw _ (List.mem_of_getElem? (i := 1) rfl))) (mvT hZ (hw _ (List.mem_of_getElem? (i := 2) rfl))) (mvT hZ (hw _ (List.mem_of_getElem? (i := 3) rfl))) (by decide) (backOf (W := 0) (rm_ws l Z a0 hw [] (vx.toUInt32.toUInt16.toUInt32.toInt32) h0 n0 Z0 ) hZ (hw _ (List.mem_of_getElem? (i := 3) rfl)) (hw _ (List.mem_of_getElem? (i := 2) rfl)) (by decide) (by decide)) (g := (mkF m 4 #[.val (.int vx), .val (.int (vx.toUInt32.toUInt16.toUInt32.toInt32))] [(.int (vx.toUInt32.toUInt16.toUInt32.toInt32))])) rfl (by rw [hml]; rfl) (argsL := [(.int (vx.toUInt32.toUInt16.toUInt32.toInt32))]) (rest := []) (lenOf pd_0 rfl) rfl (by show 2 * 0 + _ ≤ _; exact Nat.le_of_eq rfl) (hb hby at_4) (fun _ _ => ⟨rfl, e0, (by decide : 0 + 0 ≤ _), (by decide : 0 + 0 ≤ _)⟩)
  dsimp only [Pt.U, Pt.locs, Pt.cells, Pt.slots] at X7 l7 y7 z7 st7 hQ7
  subst l7 y7 z7
  obtain ⟨⟨r7, rfl, hr7⟩, N7q, e7⟩ := hQ7
  have N7 := Fr.app N0 N7q
  obtain ⟨_, _, ⟨T8, L8, k8, n8⟩, -, X8, ⟨Lc8, hQ8, l8, y8, z8⟩, st8⟩ := Jvm.LawKit.callS X7 hx (y := (⟨"com/example/sealwright/sealwright/io/VeoXmlIsWhiteSpacePinLaw", "expected", "(C)Z"⟩ : MethodName)) hown (mvT hZ (hw _ (List.mem_of_getElem? (i := 4) rfl))) (mvT hZ (hw _ (List.mem_of_getElem? (i := 5) rfl))) (mvT hZ (hw _ (List.mem_of_getElem? (i := 6) rfl))) (mvT hZ (hw _ (List.mem_of_getElem? (i := 7) rfl))) (by decide) (backOf (W := 1) (rm_exp l Z a0 hw [] (vx.toUInt32.toUInt16.toUInt32.toInt32) h0 n0 Z0 ) hZ (hw _ (List.mem_of_getElem? (i := 7) rfl)) (hw _ (List.mem_of_getElem? (i := 6) rfl)) (by decide) (by decide)) (g := (mkF m 8 #[.val (.int vx), .val (.int (vx.toUInt32.toUInt16.toUInt32.toInt32))] [(.int (vx.toUInt32.toUInt16.toUInt32.toInt32)), (.int r7)])) rfl (by rw [hml]; rfl) (argsL := [(.int (vx.toUInt32.toUInt16.toUInt32.toInt32))]) (rest := [(.int r7)]) (lenOf pd_0 rfl) rfl (by show 2 * 0 + _ ≤ _; exact Nat.le_of_eq rfl) (hb hby at_8) (fun _ _ => ⟨rfl, e7, (by decide : 0 + 0 ≤ _), (by decide : 0 + 0 ≤ _)⟩)
  dsimp only [Pt.U, Pt.locs, Pt.cells, Pt.slots] at X8 l8 y8 z8 st8 hQ8
  subst l8 y8 z8
  obtain ⟨⟨r8, rfl, hr8⟩, N8q, e8⟩ := hQ8
  have N8 := Fr.app N7 N8q
  obtain ⟨fs, hr, hrun, hended, hW, hsame⟩ := X8.leave (v := some (.int (1 : Int32))) (fun h => by rw [Bd.returns] at h; cases h)
  refine ⟨_, _, pre0 _ ?_, hrun, hended, _, _, rfl, ?_, ⟨_, rfl⟩, hW, hsame.mono (by decide) (by decide)⟩
  · show Steps p.tables e below (s₁.setTop (mkF m 0 #[.val (.int vx), .unset] [])) _
    refine XS.iloadN X0.here hx rfl (hb hby at_0) rfl ?_
    show Steps p.tables e below (s₁.setTop (mkF m 1 #[.val (.int vx), .unset] [(.int vx)])) _
    refine XS.i2c X0.here hx rfl (hb hby at_1) rfl ?_
    show Steps p.tables e below (s₁.setTop (mkF m 2 #[.val (.int vx), .unset] [(.int (vx.toUInt32.toUInt16.toUInt32.toInt32))])) _
    refine XS.istoreN X0.here hx rfl (hb hby at_2) rfl (l' := #[.val (.int vx), .val (.int (vx.toUInt32.toUInt16.toUInt32.toInt32))]) rfl ?_
    show Steps p.tables e below (s₁.setTop (mkF m 3 #[.val (.int vx), .val (.int (vx.toUInt32.toUInt16.toUInt32.toInt32))] [])) _
    refine XS.iloadN X0.here hx rfl (hb hby at_3) rfl ?_
    show Steps p.tables e below (s₁.setTop (mkF m 4 #[.val (.int vx), .val (.int (vx.toUInt32.toUInt16.toUInt32.toInt32))] [(.int (vx.toUInt32.toUInt16.toUInt32.toInt32))])) _
    refine st7 _ ?_
    show Steps p.tables e below (T7.setTop (mkF m 7 #[.val (.int vx), .val (.int (vx.toUInt32.toUInt16.toUInt32.toInt32))] [(.int r7)])) _
    refine XS.iloadN X7.here hx rfl (hb hby at_7) rfl ?_
    show Steps p.tables e below (T7.setTop (mkF m 8 #[.val (.int vx), .val (.int (vx.toUInt32.toUInt16.toUInt32.toInt32))] [(.int (vx.toUInt32.toUInt16.toUInt32.toInt32)), (.int r7)])) _
    refine st8 _ ?_
    show Steps p.tables e below (T8.setTop (mkF m 11 #[.val (.int vx), .val (.int (vx.toUInt32.toUInt16.toUInt32.toInt32))] [(.int r8), (.int r7)])) _
    refine XS.icmpNo X8.here hx rfl (hb hby at_11) rfl (teq (hr7.trans ((own_ws _ (c_i2c vx).2.1).trans hr8.symm) : r7 = r8)).2 ?_
    show Steps p.tables e below (T8.setTop (mkF m 14 #[.val (.int vx), .val (.int (vx.toUInt32.toUInt16.toUInt32.toInt32))] [])) _
    refine XS.iconst X8.here hx rfl (hb hby at_14) ?_
    show Steps p.tables e below (T8.setTop (mkF m 15 #[.val (.int vx), .val (.int (vx.toUInt32.toUInt16.toUInt32.toInt32))] [(.int (1 : Int32))])) _
    refine XS.goto X8.here hx rfl (pc0 := 15) (pc' := 19) rfl (hb hby at_15) (by decide) (by decide) ?_
    show Steps p.tables e below (T8.setTop (mkF m 19 #[.val (.int vx), .val (.int (vx.toUInt32.toUInt16.toUInt32.toInt32))] [(.int (1 : Int32))])) _
    exact retN X8 hx (t := .boolean) Bd.returns (by simp) (hb hby at_19) hr
  · show Q_law Z vx h0 n0 _ T8.heap _
    rw [e8]
    exact ⟨rfl, N8⟩
set_option maxRecDepth 65536 in
set_option maxHeartbeats 40000000 in
theorem comes_1 {Post : Tables → Env → Array Value → State → Outcome → State → Prop} (hpost : ∀ tb e args s v u, (limb_1_1.after args s (.returned v) u = true ∧ limb_1_2.after args s (.returned v) u = true ∧ True) → FrameEnd s (.returned v) u (Jvm.fieldLocs frame_1_writes args s ++ Jvm.arrayLocs frame_1_arrays args s ++ Jvm.staticLocs frame_1_statics s) 0 0 → Post tb e args s (.returned v) u) :
    ArmFor flags0 classFile x code maxLocals ret World_1 tables_1 room_1 Calls_1 rest_1 Pre_1 Post := by
  intro l hfl _ _ p e ha hc hk s m args below hf hA hF happ hP
  obtain ⟨hcalls, hrest, hpre⟩ := hP
  obtain ⟨-, -, -, hnamed, -, -, -, hat⟩ := (Spec.applies_iff hf).mp happ
  obtain ⟨hg, hn⟩ := and_e (Cond.before_iff.mp (show (Jvm.Cond.and given_1 narrow_1).before args s = true from hpre))
  obtain ⟨hg0, hr0⟩ := and_e hg
  obtain ⟨w0, rfl⟩ : ∃ w0 : Value, args = #[w0] := by
    have hs : args.size = 1 := by simpa [Cond.value, given_1] using hg0
    obtain ⟨L⟩ := args
    match L, hs with
    | [w0], _ => exact ⟨w0, rfl⟩
  have hw := fun d (hd : d ∈ tables_1) => atoms_spec (ws := Jvm.Cond.code x code maxLocals ret :: tables_1) hat d (List.mem_cons_of_mem _ hd)
  obtain ⟨i0, ei0⟩ := is_v hr0
  obtain rfl : w0 = (.int i0) := Option.some.inj ei0
  obtain ⟨n, o, h1, h2, h3, _, L, rfl, ⟨rfl, N⟩, hq⟩ := rm_law l s _ hw tables_1 i0 s.heap s.heap.size (Nat.le_refl _)  p e ha hc hk s m _ below hf ((Spec.applies_iff_loose hf).mp happ).1 ⟨rfl, State.Warmed39.refl s, rfl⟩ trivial
  refine ⟨n, _, h1, h2, h3, hpost _ _ _ _ _ _ ⟨Cond.after_iff.mpr rfl, Cond.after_iff.mpr (eq_i res_at (Term.int_eval (1)) rfl), trivial⟩ ⟨hq.1, hq.2.1, (hq.2.2.sift fun y hy => Or.inr (N y hy)).mono (by decide) (by decide)⟩⟩
theorem main_1_1 : Claimed_1_1 := comes_1 fun _ _ _ _ _ _ h hF => ⟨h.1, hF⟩
theorem main_1_2 : Claimed_1_2 := comes_1 fun _ _ _ _ _ _ h hF => ⟨h.2.1, hF⟩
end Jvm.Pilot.@@N@@
namespace Jvm.Pilot.@@N@@
open Jvm Jvm.ClassFile Sem Op Lib Jvm.Free Jvm.Stand Jvm.Pilot.@@N@@.Jvm.D
/-! MADE BY PROGRAM (witnessworld.py) out of the Statement's table words and the real class files: 9 classes; the members and pool entries that the words name. The judged class is class 1, her method 2. -/
namespace start1
open Jvm.ClassFile
def u (s : String) : CpInfo := .utf8 (stringToUtf16 s)
/-- a pool by its gaps: so many unusable entries, then the entry; so many at the end -/
def gap : Nat → List CpInfo → List CpInfo
  | 0, r => r
  | n + 1, r => .unusable :: gap n r
def poolList (es : List (Nat × CpInfo)) (last : Nat) : List CpInfo := es.foldr (fun e r => gap e.1 (e.2 :: r)) (gap last [])
def pool (es : List (Nat × CpInfo)) (last : Nat) : Array CpInfo := ⟨poolList es last⟩
def fileOf (pool : Array CpInfo) (this : Nat) (attrs : Array Attribute := #[]) (ms : Array MethodInfo := #[]) (fl : Nat := 33) (sup : Nat := 0) (ifs : Array Nat := #[]) (fds : Array FieldInfo := #[]) : ClassFile where
  minorVersion := 0
  majorVersion := 65
  constantPool := pool
  accessFlags := fl
  thisClass := this
  superClass := sup
  interfaces := ifs
  fields := fds
  methods := ms
  attributes := attrs
def plain (name : String) (sup : Option ClassId) : Class where
  name := name
  kind := .ordinary
  loader := none
  accessFlags := 33
  super := sup
  interfaces := #[]
  cf := none
  fields := #[]
  methods := #[]
  instanceTypes := #[]
  staticTypes := #[]
  resolved := #[]
  callSites := []
  init := .initialized
  statics := none
  mirror := none

def pool0 : Array CpInfo := pool [(5, u "<init>"), (0, u "()V"), (1, .class_ 10), (1, u "java/lang/Object")] 113

def k0m0 : Method := { name := "<init>", desc := "()V", sig := { parameters := [], returnType := none }, accessFlags := 1, code := none }
/-- java/lang/Object -/
def k0 : Class := { plain "java/lang/Object" none with
  accessFlags := 33
  interfaces := #[]
  cf := some (fileOf pool0 8 #[] #[{ accessFlags := 1, nameIndex := 5, descriptorIndex := 6, attributes := #[] }] 33 0 #[] #[])
  fields := #[]
  methods := #[k0m0]
  instanceTypes := #[]
  staticTypes := #[]
  resolved := Array.replicate 124 none
  statics := none }

def pool1 : Array CpInfo := pool [(2, .class_ 4), (1, u "java/lang/Object"), (0, u "<init>"), (0, u "()V"), (0, .class_ 8), (0, u "com/example/sealwright/sealwright/io/VeoXmlIsWhiteSpacePinLaw"), (0, .long 4294977024), (1, .methodref 12 13), (0, .class_ 14), (0, .nameAndType 15 16), (0, u "com/example/sealwright/sealwright/io/VeoXml"), (0, u "isWhiteSpace"), (0, u "(C)Z"), (0, .methodref 7 18), (0, .nameAndType 19 16), (0, u "expected"), (0, u "XML_SPACE_MASK"), (0, u "J"), (4, u "law"), (0, u "(I)Z")] 2

def k1m0 : Method := { name := "<init>", desc := "()V", sig := { parameters := [], returnType := none }, accessFlags := 2, code := none }
def k1c1 : Code := { maxStack := 4, maxLocals := 1, code := method_2_code, exceptionTable := #[], attributes := #[] }
def k1m1 : Method := { name := "expected", desc := "(C)Z", sig := { parameters := [.char], returnType := some .boolean }, accessFlags := 10, code := some k1c1 }
def k1c2 : Code := { maxStack := 2, maxLocals := 2, code := code, exceptionTable := #[], attributes := #[] }
def k1m2 : Method := { name := "law", desc := "(I)Z", sig := { parameters := [.int], returnType := some .boolean }, accessFlags := 9, code := some k1c2 }
/-- com/example/sealwright/sealwright/io/VeoXmlIsWhiteSpacePinLaw -/
def k1 : Class := { plain "com/example/sealwright/sealwright/io/VeoXmlIsWhiteSpacePinLaw" (some 0) with
  accessFlags := 49
  interfaces := #[]
  cf := some (fileOf pool1 7 #[] #[{ accessFlags := 2, nameIndex := 5, descriptorIndex := 6, attributes := #[] }, { accessFlags := 10, nameIndex := 19, descriptorIndex := 16, attributes := #[] }, { accessFlags := 9, nameIndex := 26, descriptorIndex := 27, attributes := #[] }] 49 2 #[] #[{ accessFlags := 26, nameIndex := 20, descriptorIndex := 21, attributes := #[] }])
  fields := #[{ name := "XML_SPACE_MASK", type := .long, accessFlags := 26, slot := 0, constantValue := 0 }]
  methods := #[k1m0, k1m1, k1m2]
  instanceTypes := #[]
  staticTypes := #[.long]
  resolved := Array.replicate 30 none
  statics := none }

def pool2 : Array CpInfo := pool [(2, .class_ 4), (1, u "java/lang/Object"), (0, u "<init>"), (0, u "()V"), (0, .class_ 8), (0, u "com/example/sealwright/sealwright/io/VeoXml$ContentStream"), (12, .class_ 22), (0, u "com/example/sealwright/sealwright/io/VeoXml"), (91, u "WRAPPED_BASE64"), (0, u "Ljava/util/Base64$Encoder;"), (19, .class_ 136), (0, u "com/example/sealwright/sealwright/io/VeoXml$Base64Reader"), (53, u "NAMESPACE"), (0, u "Ljava/lang/String;"), (1, u "VERSION"), (0, u "KEPT_ROOM"), (0, u "I"), (23, u "isWhiteSpace"), (0, u "(C)Z")] 8

def k2m0 : Method := { name := "<init>", desc := "()V", sig := { parameters := [], returnType := none }, accessFlags := 2, code := none }
def k2c1 : Code := { maxStack := 2, maxLocals := 1, code := prog_69_method_7_code, exceptionTable := #[], attributes := #[] }
def k2m1 : Method := { name := "isWhiteSpace", desc := "(C)Z", sig := { parameters := [.char], returnType := some .boolean }, accessFlags := 8, code := some k2c1 }
/-- com/example/sealwright/sealwright/io/VeoXml -/
def k2 : Class := { plain "com/example/sealwright/sealwright/io/VeoXml" (some 0) with
  accessFlags := 49
  interfaces := #[]
  cf := some (fileOf pool2 21 #[.nestMembers #[135, 7]] #[{ accessFlags := 2, nameIndex := 5, descriptorIndex := 6, attributes := #[] }, { accessFlags := 8, nameIndex := 219, descriptorIndex := 220, attributes := #[] }] 49 2 #[] #[{ accessFlags := 25, nameIndex := 190, descriptorIndex := 191, attributes := #[] }, { accessFlags := 25, nameIndex := 193, descriptorIndex := 191, attributes := #[] }, { accessFlags := 26, nameIndex := 194, descriptorIndex := 195, attributes := #[] }, { accessFlags := 26, nameIndex := 114, descriptorIndex := 115, attributes := #[] }])
  fields := #[{ name := "NAMESPACE", type := (.object "java/lang/String"), accessFlags := 25, slot := 0, constantValue := 0 }, { name := "VERSION", type := (.object "java/lang/String"), accessFlags := 25, slot := 1, constantValue := 0 }, { name := "KEPT_ROOM", type := .int, accessFlags := 26, slot := 2, constantValue := 0 }, { name := "WRAPPED_BASE64", type := (.object "java/util/Base64$Encoder"), accessFlags := 26, slot := 3, constantValue := 0 }]
  methods := #[k2m0, k2m1]
  instanceTypes := #[]
  staticTypes := #[(.object "java/lang/String"), (.object "java/lang/String"), .int, (.object "java/util/Base64$Encoder")]
  resolved := Array.replicate 229 none
  statics := none }

def pool3 : Array CpInfo := pool [(1, u "java/lang/Cloneable"), (0, .class_ 1), (0, u "java/lang/Object"), (0, .class_ 3)] 3

/-- java/lang/Cloneable -/
def k3 : Class := { plain "java/lang/Cloneable" (some 0) with
  accessFlags := 1537
  interfaces := #[]
  cf := some (fileOf pool3 2 #[] #[] 1537 4 #[] #[])
  fields := #[]
  methods := #[]
  instanceTypes := #[]
  staticTypes := #[]
  resolved := Array.replicate 8 none
  statics := none }

def pool4 : Array CpInfo := pool [(1, u "java/io/Serializable"), (0, .class_ 1), (0, u "java/lang/Object"), (0, .class_ 3)] 3

/-- java/io/Serializable -/
def k4 : Class := { plain "java/io/Serializable" (some 0) with
  accessFlags := 1537
  interfaces := #[]
  cf := some (fileOf pool4 2 #[] #[] 1537 4 #[] #[])
  fields := #[]
  methods := #[]
  instanceTypes := #[]
  staticTypes := #[]
  resolved := Array.replicate 8 none
  statics := none }

/-- the primitive byte -/
def k5 : Class := { plain "byte" none with kind := .primitive 'B', accessFlags := 0x411 }
/-- [B -/
def k6 : Class := { plain "[B" (some 0) with kind := .array 5 .byte, interfaces := #[3, 4], accessFlags := 1041 }

/-- the primitive int -/
def k7 : Class := { plain "int" none with kind := .primitive 'I', accessFlags := 0x411 }
/-- [I -/
def k8 : Class := { plain "[I" (some 0) with kind := .array 7 .int, interfaces := #[3, 4], accessFlags := 1041 }

def heap : Heap := #[]
def classes : Array Class := #[k0, k1, k2, k3, k4, k5, k6, k7, k8]
def interned : List (Array UInt16 × Addr) := []
def slotsUsed : Nat := 0
def theMethod : MethodId := ⟨1, 2⟩
def args0 : Array Value := #[.int 5]
def aboutOver (below : List Frame) : State where
  vm := { classes := classes, interned := interned.toArray }
  heap := heap
  slotsUsed := slotsUsed
  threads := #[{ frames := .invoking theMethod args0 :: below }]
def below0 : List Frame := [.native { method := ⟨0, 0⟩, args := #[] }]
def about1 : State := aboutOver below0
def p0 : Program := .bare "" "" ""
def e0 : Env := launch0.env 0 0 0
theorem w_frames : about1.frames = Frame.invoking theMethod args0 :: below0 := rfl
set_option maxRecDepth 65536 in
theorem w_args : argsFit about1.vm theMethod args0 = true := by decide +kernel
set_option maxRecDepth 65536 in
theorem w_heap : heapFits about1 = true := by decide +kernel
set_option maxRecDepth 65536 in
theorem w_runnable : about1.curStatus? = some .runnable := by decide +kernel
set_option maxRecDepth 65536 in
theorem w_alone : about1.alone = true := by decide +kernel
set_option maxRecDepth 65536 in
theorem w_named : about1.methodNamed? x = some theMethod := by decide +kernel
set_option maxRecDepth 65536 in
theorem w_hears : about1.hears theMethod below0 = true := by decide +kernel
set_option maxRecDepth 65536 in
theorem w_ripe : about1.ripe theMethod args0 below0 = true := by decide +kernel
theorem w_running : about1.status = .running := rfl
set_option maxRecDepth 65536 in
theorem w_room : about1.hasRoom e0.platform room_1 = true :=
  launch0.hasRoom_least _ room_1 (by decide +kernel) (by decide +kernel) (by decide +kernel) (by decide +kernel) (by decide +kernel) (by decide +kernel)
theorem allAtoms_all (ts : List Jvm.Cond) (a : Array Jvm.Value) (st : Jvm.State) : (allAtoms ts).before a st = ts.all (fun c => c.before a st) := by
  induction ts with
  | nil => rfl
  | cons c t ih =>
    show (Jvm.Cond.and c (allAtoms t)).before a st = _
    rw [Jvm.Cond.before_and, ih, List.all_cons]
def words1 : List Jvm.Cond := Jvm.Cond.code x code maxLocals ret :: tables_1
/-- a 'code' word, met by the world's own term for the bytes: nothing is compared byte by byte -/
theorem code_word {y : MethodName} {bytes : ByteArray} {mx : Nat} {rt : Option FieldType} {a : Array Value} {s : State} {m : MethodId} {meth : Method} {c : Code} (h1 : s.methodNamed? y = some m) (h2 : s.vm.method? m = some meth) (h3 : meth.code = some c) (h4 : c.code = bytes)
    (h5 : (c.maxLocals == mx && c.exceptionTable.isEmpty && decide (c.maxStack ≤ mostOperands) && decide (meth.sig.returnType = rt) && !meth.locks && decide (parseMethodDescriptor y.desc = some meth.sig)) = true) : (Jvm.Cond.code y bytes mx rt).before a s = true := by
  simp only [Bool.and_eq_true, beq_iff_eq, Bool.not_eq_true', decide_eq_true_eq] at h5
  obtain ⟨⟨⟨⟨⟨g1, g2⟩, g3⟩, g4⟩, g5⟩, g6⟩ := h5
  simp [Cond.before, Cond.holds, Cond.value, h1, h2, h3, h4, g1, g2, g3, g4, g5, g6]
def isCode : Jvm.Cond → Bool
  | .code _ _ _ _ => true
  | _ => false
theorem all_split {L : List Jvm.Cond} {P : Jvm.Cond → Bool} (h1 : L.all (fun c => isCode c || P c) = true) (h2 : ∀ c ∈ L.filter isCode, P c = true) : L.all P = true := by
  refine List.all_eq_true.mpr fun c hc => ?_
  have h := List.all_eq_true.mp h1 c hc
  rcases Bool.eq_false_or_eq_true (isCode c) with hi | hi
  · exact h2 c (List.mem_filter.mpr ⟨hc, hi⟩)
  · simpa [hi] using h
set_option maxRecDepth 65536 in
theorem w_c0 : (Jvm.Cond.code x code maxLocals ret).before args0 about1 = true := code_word (m := ⟨1, 2⟩) (meth := k1m2) (c := k1c2) (by decide +kernel) rfl rfl rfl (by decide +kernel)
set_option maxRecDepth 65536 in
theorem w_c1 : (Jvm.Cond.code ({ cls := "com/example/sealwright/sealwright/io/VeoXml", name := "isWhiteSpace", desc := "(C)Z" } : Jvm.MethodName) prog_69_method_7_code (1 : Nat) (Option.some Jvm.ClassFile.FieldType.boolean)).before args0 about1 = true := code_word (m := ⟨2, 1⟩) (meth := k2m1) (c := k2c1) (by decide +kernel) rfl rfl rfl (by decide +kernel)
set_option maxRecDepth 65536 in
theorem w_c2 : (Jvm.Cond.code ({ cls := "com/example/sealwright/sealwright/io/VeoXmlIsWhiteSpacePinLaw", name := "expected", desc := "(C)Z" } : Jvm.MethodName) method_2_code (1 : Nat) (Option.some Jvm.ClassFile.FieldType.boolean)).before args0 about1 = true := code_word (m := ⟨1, 1⟩) (meth := k1m1) (c := k1c1) (by decide +kernel) rfl rfl rfl (by decide +kernel)
def codes1 : List Jvm.Cond := [Jvm.Cond.code x code maxLocals ret, Jvm.Cond.code ({ cls := "com/example/sealwright/sealwright/io/VeoXml", name := "isWhiteSpace", desc := "(C)Z" } : Jvm.MethodName) prog_69_method_7_code (1 : Nat) (Option.some Jvm.ClassFile.FieldType.boolean), Jvm.Cond.code ({ cls := "com/example/sealwright/sealwright/io/VeoXmlIsWhiteSpacePinLaw", name := "expected", desc := "(C)Z" } : Jvm.MethodName) method_2_code (1 : Nat) (Option.some Jvm.ClassFile.FieldType.boolean)]
set_option maxRecDepth 65536 in
theorem codes_eq : words1.filter isCode = codes1 := rfl
theorem w_codes : ∀ c ∈ words1.filter isCode, c.before args0 about1 = true := by
  rw [codes_eq]
  intro c hc
  simp only [codes1, List.mem_cons, List.not_mem_nil, or_false] at hc
  rcases hc with rfl | rfl | rfl
  · exact w_c0
  · exact w_c1
  · exact w_c2
set_option maxRecDepth 65536 in
theorem w_t1 : words1.all (fun c => isCode c || c.before args0 about1) = true := by decide +kernel
theorem w_tables : (allAtoms (Jvm.Cond.code x code maxLocals ret :: tables_1)).before args0 about1 = true := by
  rw [allAtoms_all]
  show words1.all (fun c => c.before args0 about1) = true
  refine all_split ?_ w_codes
  rw [w_t1]
set_option maxRecDepth 65536 in
theorem w_case : (Jvm.Cond.and given_1 narrow_1).before args0 about1 = true := by decide +kernel
theorem w_applies : (headSpec (Jvm.Cond.code x code maxLocals ret :: tables_1) room_1).applies x e0.platform about1 = true :=
  (Spec.applies_iff w_frames).mpr ⟨w_running, w_runnable, w_alone, w_named, w_hears, w_ripe, w_room, w_tables⟩
theorem atStart : AtStart classFile x code maxLocals ret World_1 tables_1 room_1 Calls_1 rest_1 Pre_1 launch0 p0 e0 about1 theMethod args0 below0 :=
  ⟨lists_1, trivial, launch0.admits_env _ _ _, launch0.least_env, fairChoices_fair.cas, fairChoices_fair.clock, w_frames, w_args, w_heap, w_applies, trivial, trivial, w_case⟩
end start1
theorem witness_1 : WitnessClaimed_1 := ⟨start1.p0, start1.e0, start1.about1, start1.theMethod, start1.args0, start1.below0, start1.atStart⟩
end Jvm.Pilot.@@N@@
