import JvmDerived
import JvmDerived.Pilot.@@N@@Statement
import JvmDerived.Pilot.@@N@@Code
set_option linter.unusedVariables false
set_option linter.unusedSimpArgs false
namespace Jvm.RoadKit
open Sem ClassFile Op Lib Jvm.Stand Jvm.Free Jvm.LawKit
section New
variable {p : Program} {l : Launch} {e : Env} {R : Room} {s : State} {m : MethodId} {args : Array Value} {below : List Frame} {meth : Method} {c : Code} {T : State} {locs : List Loc} {cells slots : Nat}
theorem retI (X : Stand p l e R s m args below meth c T locs cells slots) (hx : p.tables.exec = Jvm.exec) {pc : Nat} {Ls : Array Slot} {z : Int32} {rest : List Value} (hret : meth.sig.returnType = some .int) (hd : decode c.code pc = .ok (.ireturn, 1)) {fs : List Frame}
    (hl : ∀ (f : JFrame) (acts : List Action), f.method = m → f.locked = none → f.entered = [] → (doReturn e (T.setTop f) acts (some (.int z))).1 = T.setFrames fs) : Steps p.tables e below (T.setTop (mkF m pc Ls (.int z :: rest))) (T.setFrames fs) := by
  have hm' : T.vm.method? m = some meth := X.method'
  have hn : narrow .int (.int z) = .int z := rfl
  show Steps p.tables e below (T.setTop { method := m, pc := pc, locals := Ls, stack := _ :: rest, locked := none }) _
  jvm_step X.here [X.here.top, hx, hd, hm', hret, hn]
  first | (intro acts; rw [hl _ acts rfl rfl rfl]) | rw [hl _ _ rfl rfl rfl]
  exact Steps.refl _
end New
end Jvm.RoadKit
namespace Jvm.Pilot.@@N@@
open Jvm Jvm.ClassFile Sem Op Lib Jvm.Free Jvm.Stand Jvm.LawKit Jvm.RoadKit Bundle Jvm.Pilot.@@N@@.Jvm.D
theorem own_e (va : Int32) : (if va = 9 then 1 else if va < 32 then 0 else if va = 127 then 0 else 1 : Int32) = if va = 9 then 1 else if va < 0 then 0 else if (31 : Int32) < va then (if va = 127 then 0 else 1) else 0 := by
  have e0 : (0 : Int32).toInt = 0 := by decide
  have e31 : (31 : Int32).toInt = 31 := by decide
  have e32 : (32 : Int32).toInt = 32 := by decide
  by_cases a : va = 9
  · simp [a]
  · by_cases b : va < 0
    · have c : va < 32 := by rw [Int32.lt_iff_toInt_lt] at b ⊢; omega
      simp [a, b, c]
    · by_cases d : (31 : Int32) < va
      · have c : ¬ va < 32 := by rw [Int32.lt_iff_toInt_lt] at d ⊢; omega
        simp [a, b, c, d]
      · have c : va < 32 := by rw [Int32.lt_iff_toInt_lt] at d ⊢; omega
        simp [a, b, c, d]
theorem pn_0 : plainName "com/example/rest_whiteboard/restwhiteboard/http/RequestHead" = true := by first | (simp [plainName, overriddenIn]; done) | decide +kernel
theorem d_prog_20_method_21_code_0 : decode prog_20_method_21_code 0 = .ok (.iload_n 0, 1) := by decide +kernel
theorem d_prog_20_method_21_code_1 : decode prog_20_method_21_code 1 = .ok (.bipush 9, 2) := by decide +kernel
theorem d_prog_20_method_21_code_3 : decode prog_20_method_21_code 3 = .ok (.if_icmp .eq 15, 3) := by decide +kernel
theorem d_prog_20_method_21_code_18 : decode prog_20_method_21_code 18 = .ok (.iconst 1, 1) := by decide +kernel
theorem d_prog_20_method_21_code_19 : decode prog_20_method_21_code 19 = .ok (.goto 4, 3) := by decide +kernel
theorem d_prog_20_method_21_code_23 : decode prog_20_method_21_code 23 = .ok (.ireturn, 1) := by decide +kernel
theorem d_prog_20_method_21_code_6 : decode prog_20_method_21_code 6 = .ok (.iload_n 0, 1) := by decide +kernel
theorem d_prog_20_method_21_code_7 : decode prog_20_method_21_code 7 = .ok (.bipush 32, 2) := by decide +kernel
theorem d_prog_20_method_21_code_9 : decode prog_20_method_21_code 9 = .ok (.if_icmp .lt 13, 3) := by decide +kernel
theorem d_prog_20_method_21_code_22 : decode prog_20_method_21_code 22 = .ok (.iconst 0, 1) := by decide +kernel
theorem d_prog_20_method_21_code_12 : decode prog_20_method_21_code 12 = .ok (.iload_n 0, 1) := by decide +kernel
theorem d_prog_20_method_21_code_13 : decode prog_20_method_21_code 13 = .ok (.bipush 127, 2) := by decide +kernel
theorem d_prog_20_method_21_code_15 : decode prog_20_method_21_code 15 = .ok (.if_icmp .eq 7, 3) := by decide +kernel
theorem ef_fv (m : MethodId) (va : Int32) : entryFrame m #[(.int va)] 1 = mkF m 0 #[.val (.int va)] [] := by first | (simp [entryFrame, mkF, argsToLocals, Value.category]; done) | rfl
def Q_fv (Z : State) (va : Int32) (h0 : Heap) (n0 : Nat) (v : Option Value) (h : Heap) (L : List Loc) : Prop := (∃ z : Int32, v = some (.int z) ∧ (z = if va = 9 then 1 else if va < 32 then 0 else if va = 127 then 0 else 1)) ∧ Fr n0 L ∧ h = h0
set_option maxRecDepth 65536 in
set_option maxHeartbeats 40000000 in
theorem rm_fv (l : Launch) (Z : State) (a0 : Array Value) (hw : ∀ d ∈ tables_1, d.before a0 Z = true) (ws : List Jvm.Cond) (va : Int32) (h0 : Heap) (n0 : Nat) (Z0 : n0 ≤ h0.size) :
    MetFree l (⟨"com/example/rest_whiteboard/restwhiteboard/http/RequestHead", "isFieldValueChar", "(I)Z"⟩ : MethodName) (head1 (Jvm.Cond.code (⟨"com/example/rest_whiteboard/restwhiteboard/http/RequestHead", "isFieldValueChar", "(I)Z"⟩ : MethodName) prog_20_method_21_code 1 (some .boolean) :: ws) ({ frames := 0, cells := 0, slots := 0, locals := 0 } : Room)) (fun a U => a = #[(.int va)] ∧ Z.Warmed39 U.vm ∧ U.heap = h0) (fun _ _ _ _ _ => True) (fun _ U o U' => ∃ v L, o = .returned v ∧ Q_fv Z va h0 n0 v U'.heap L ∧ FrameEnd U o U' L ({ frames := 0, cells := 0, slots := 0, locals := 0 } : Room).cells ({ frames := 0, cells := 0, slots := 0, locals := 0 } : Room).slots) := by
  refine MetFree.of_bodySF (plainFor_of_name pn_0) hisR ?_
  intro p e s m args below meth c s₁ Bd hml0 hP hK
  obtain ⟨rfl, hZ, hh⟩ := hP
  have hx := Bd.exec
  have hby := Bd.bytes
  have hml : c.maxLocals = 1 := hml0
  have hown : s.vm.findClass "com/example/rest_whiteboard/restwhiteboard/http/RequestHead" = some m.cls := findClass_of_methodNamed Bd.named
  have hnm := (name_of_methodNamed Bd.named Bd.method).1
  have X0 : Stand p l e ({ frames := 0, cells := 0, slots := 0, locals := 0 } : Room) s m #[(.int va)] below meth c s₁ [] 0 0 := Stand.of_body Bd
  have e0 : s₁.heap = h0 := by rw [← hh, Bd.state]; rfl
  have N0 := Fr.nil n0
  have pre0 : ∀ t, Steps p.tables e below (s₁.setTop (mkF m 0 #[.val (.int va)] [])) t → Steps p.tables e below (s₁.setTop (entryFrame m #[(.int va)] 1)) t := fun t k => castTop (ef_fv m va) k
  by_cases h3_1 : va = (9 : Int32)
  · obtain ⟨fs, hr, hrun, hended, hW, hsame⟩ := X0.leave (v := some (.int (1 : Int32))) (fun h => by rw [Bd.returns] at h; cases h)
    refine ⟨_, _, pre0 _ ?_, hrun, hended, _, _, rfl, ?_, ⟨_, rfl⟩, hW, hsame.mono (by decide) (by decide)⟩
    · show Steps p.tables e below (s₁.setTop (mkF m 0 #[.val (.int va)] [])) _
      refine XS.iloadN X0.here hx rfl (hb hby d_prog_20_method_21_code_0) rfl ?_
      show Steps p.tables e below (s₁.setTop (mkF m 1 #[.val (.int va)] [(.int va)])) _
      refine XS.bipush X0.here hx rfl (hb hby d_prog_20_method_21_code_1) ?_
      show Steps p.tables e below (s₁.setTop (mkF m 3 #[.val (.int va)] [(.int (9 : Int32)), (.int va)])) _
      refine XS.icmpYes X0.here hx rfl (pc0 := 3) (pc' := 18) rfl (hb hby d_prog_20_method_21_code_3) rfl (teq h3_1).1 (by decide) (by decide) ?_
      show Steps p.tables e below (s₁.setTop (mkF m 18 #[.val (.int va)] [])) _
      refine XS.iconst X0.here hx rfl (hb hby d_prog_20_method_21_code_18) ?_
      show Steps p.tables e below (s₁.setTop (mkF m 19 #[.val (.int va)] [(.int (1 : Int32))])) _
      refine XS.goto X0.here hx rfl (pc0 := 19) (pc' := 23) rfl (hb hby d_prog_20_method_21_code_19) (by decide) (by decide) ?_
      show Steps p.tables e below (s₁.setTop (mkF m 23 #[.val (.int va)] [(.int (1 : Int32))])) _
      exact retN X0 hx (t := .boolean) Bd.returns (by simp) (hb hby d_prog_20_method_21_code_23) hr
    · show Q_fv Z va h0 n0 _ s₁.heap _
      rw [e0]
      exact ⟨⟨_, rfl, by simp [h3_1]⟩, N0, rfl⟩
  · by_cases h9_2 : va < (32 : Int32)
    · obtain ⟨fs, hr, hrun, hended, hW, hsame⟩ := X0.leave (v := some (.int (0 : Int32))) (fun h => by rw [Bd.returns] at h; cases h)
      refine ⟨_, _, pre0 _ ?_, hrun, hended, _, _, rfl, ?_, ⟨_, rfl⟩, hW, hsame.mono (by decide) (by decide)⟩
      · show Steps p.tables e below (s₁.setTop (mkF m 0 #[.val (.int va)] [])) _
        refine XS.iloadN X0.here hx rfl (hb hby d_prog_20_method_21_code_0) rfl ?_
        show Steps p.tables e below (s₁.setTop (mkF m 1 #[.val (.int va)] [(.int va)])) _
        refine XS.bipush X0.here hx rfl (hb hby d_prog_20_method_21_code_1) ?_
        show Steps p.tables e below (s₁.setTop (mkF m 3 #[.val (.int va)] [(.int (9 : Int32)), (.int va)])) _
        refine XS.icmpNo X0.here hx rfl (hb hby d_prog_20_method_21_code_3) rfl (feq h3_1).1 ?_
        show Steps p.tables e below (s₁.setTop (mkF m 6 #[.val (.int va)] [])) _
        refine XS.iloadN X0.here hx rfl (hb hby d_prog_20_method_21_code_6) rfl ?_
        show Steps p.tables e below (s₁.setTop (mkF m 7 #[.val (.int va)] [(.int va)])) _
        refine XS.bipush X0.here hx rfl (hb hby d_prog_20_method_21_code_7) ?_
        show Steps p.tables e below (s₁.setTop (mkF m 9 #[.val (.int va)] [(.int (32 : Int32)), (.int va)])) _
        refine XS.icmpYes X0.here hx rfl (pc0 := 9) (pc' := 22) rfl (hb hby d_prog_20_method_21_code_9) rfl (tlt h9_2).1 (by decide) (by decide) ?_
        show Steps p.tables e below (s₁.setTop (mkF m 22 #[.val (.int va)] [])) _
        refine XS.iconst X0.here hx rfl (hb hby d_prog_20_method_21_code_22) ?_
        show Steps p.tables e below (s₁.setTop (mkF m 23 #[.val (.int va)] [(.int (0 : Int32))])) _
        exact retN X0 hx (t := .boolean) Bd.returns (by simp) (hb hby d_prog_20_method_21_code_23) hr
      · show Q_fv Z va h0 n0 _ s₁.heap _
        rw [e0]
        exact ⟨⟨_, rfl, by simp [h3_1, h9_2]⟩, N0, rfl⟩
    · by_cases h15_3 : va = (127 : Int32)
      · obtain ⟨fs, hr, hrun, hended, hW, hsame⟩ := X0.leave (v := some (.int (0 : Int32))) (fun h => by rw [Bd.returns] at h; cases h)
        refine ⟨_, _, pre0 _ ?_, hrun, hended, _, _, rfl, ?_, ⟨_, rfl⟩, hW, hsame.mono (by decide) (by decide)⟩
        · show Steps p.tables e below (s₁.setTop (mkF m 0 #[.val (.int va)] [])) _
          refine XS.iloadN X0.here hx rfl (hb hby d_prog_20_method_21_code_0) rfl ?_
          show Steps p.tables e below (s₁.setTop (mkF m 1 #[.val (.int va)] [(.int va)])) _
          refine XS.bipush X0.here hx rfl (hb hby d_prog_20_method_21_code_1) ?_
          show Steps p.tables e below (s₁.setTop (mkF m 3 #[.val (.int va)] [(.int (9 : Int32)), (.int va)])) _
          refine XS.icmpNo X0.here hx rfl (hb hby d_prog_20_method_21_code_3) rfl (feq h3_1).1 ?_
          show Steps p.tables e below (s₁.setTop (mkF m 6 #[.val (.int va)] [])) _
          refine XS.iloadN X0.here hx rfl (hb hby d_prog_20_method_21_code_6) rfl ?_
          show Steps p.tables e below (s₁.setTop (mkF m 7 #[.val (.int va)] [(.int va)])) _
          refine XS.bipush X0.here hx rfl (hb hby d_prog_20_method_21_code_7) ?_
          show Steps p.tables e below (s₁.setTop (mkF m 9 #[.val (.int va)] [(.int (32 : Int32)), (.int va)])) _
          refine XS.icmpNo X0.here hx rfl (hb hby d_prog_20_method_21_code_9) rfl (flt h9_2).1 ?_
          show Steps p.tables e below (s₁.setTop (mkF m 12 #[.val (.int va)] [])) _
          refine XS.iloadN X0.here hx rfl (hb hby d_prog_20_method_21_code_12) rfl ?_
          show Steps p.tables e below (s₁.setTop (mkF m 13 #[.val (.int va)] [(.int va)])) _
          refine XS.bipush X0.here hx rfl (hb hby d_prog_20_method_21_code_13) ?_
          show Steps p.tables e below (s₁.setTop (mkF m 15 #[.val (.int va)] [(.int (127 : Int32)), (.int va)])) _
          refine XS.icmpYes X0.here hx rfl (pc0 := 15) (pc' := 22) rfl (hb hby d_prog_20_method_21_code_15) rfl (teq h15_3).1 (by decide) (by decide) ?_
          show Steps p.tables e below (s₁.setTop (mkF m 22 #[.val (.int va)] [])) _
          refine XS.iconst X0.here hx rfl (hb hby d_prog_20_method_21_code_22) ?_
          show Steps p.tables e below (s₁.setTop (mkF m 23 #[.val (.int va)] [(.int (0 : Int32))])) _
          exact retN X0 hx (t := .boolean) Bd.returns (by simp) (hb hby d_prog_20_method_21_code_23) hr
        · show Q_fv Z va h0 n0 _ s₁.heap _
          rw [e0]
          exact ⟨⟨_, rfl, by simp [h3_1, h9_2, h15_3]⟩, N0, rfl⟩
      · obtain ⟨fs, hr, hrun, hended, hW, hsame⟩ := X0.leave (v := some (.int (1 : Int32))) (fun h => by rw [Bd.returns] at h; cases h)
        refine ⟨_, _, pre0 _ ?_, hrun, hended, _, _, rfl, ?_, ⟨_, rfl⟩, hW, hsame.mono (by decide) (by decide)⟩
        · show Steps p.tables e below (s₁.setTop (mkF m 0 #[.val (.int va)] [])) _
          refine XS.iloadN X0.here hx rfl (hb hby d_prog_20_method_21_code_0) rfl ?_
          show Steps p.tables e below (s₁.setTop (mkF m 1 #[.val (.int va)] [(.int va)])) _
          refine XS.bipush X0.here hx rfl (hb hby d_prog_20_method_21_code_1) ?_
          show Steps p.tables e below (s₁.setTop (mkF m 3 #[.val (.int va)] [(.int (9 : Int32)), (.int va)])) _
          refine XS.icmpNo X0.here hx rfl (hb hby d_prog_20_method_21_code_3) rfl (feq h3_1).1 ?_
          show Steps p.tables e below (s₁.setTop (mkF m 6 #[.val (.int va)] [])) _
          refine XS.iloadN X0.here hx rfl (hb hby d_prog_20_method_21_code_6) rfl ?_
          show Steps p.tables e below (s₁.setTop (mkF m 7 #[.val (.int va)] [(.int va)])) _
          refine XS.bipush X0.here hx rfl (hb hby d_prog_20_method_21_code_7) ?_
          show Steps p.tables e below (s₁.setTop (mkF m 9 #[.val (.int va)] [(.int (32 : Int32)), (.int va)])) _
          refine XS.icmpNo X0.here hx rfl (hb hby d_prog_20_method_21_code_9) rfl (flt h9_2).1 ?_
          show Steps p.tables e below (s₁.setTop (mkF m 12 #[.val (.int va)] [])) _
          refine XS.iloadN X0.here hx rfl (hb hby d_prog_20_method_21_code_12) rfl ?_
          show Steps p.tables e below (s₁.setTop (mkF m 13 #[.val (.int va)] [(.int va)])) _
          refine XS.bipush X0.here hx rfl (hb hby d_prog_20_method_21_code_13) ?_
          show Steps p.tables e below (s₁.setTop (mkF m 15 #[.val (.int va)] [(.int (127 : Int32)), (.int va)])) _
          refine XS.icmpNo X0.here hx rfl (hb hby d_prog_20_method_21_code_15) rfl (feq h15_3).1 ?_
          show Steps p.tables e below (s₁.setTop (mkF m 18 #[.val (.int va)] [])) _
          refine XS.iconst X0.here hx rfl (hb hby d_prog_20_method_21_code_18) ?_
          show Steps p.tables e below (s₁.setTop (mkF m 19 #[.val (.int va)] [(.int (1 : Int32))])) _
          refine XS.goto X0.here hx rfl (pc0 := 19) (pc' := 23) rfl (hb hby d_prog_20_method_21_code_19) (by decide) (by decide) ?_
          show Steps p.tables e below (s₁.setTop (mkF m 23 #[.val (.int va)] [(.int (1 : Int32))])) _
          exact retN X0 hx (t := .boolean) Bd.returns (by simp) (hb hby d_prog_20_method_21_code_23) hr
        · show Q_fv Z va h0 n0 _ s₁.heap _
          rw [e0]
          exact ⟨⟨_, rfl, by simp [h3_1, h9_2, h15_3]⟩, N0, rfl⟩
theorem pn_1 : plainName "com/example/rest_whiteboard/restwhiteboard/http/RequestHeadIsFieldValueCharPinLaw" = true := by first | (simp [plainName, overriddenIn]; done) | decide +kernel
theorem pd_0 : parseMethodDescriptor "(I)Z" = some ⟨[.int], some .boolean⟩ := by decide +kernel
theorem ef_law (m : MethodId) (vx : Int32) : entryFrame m #[(.int vx)] maxLocals = mkF m 0 #[.val (.int vx), .unset, .unset] [] := by first | (simp [entryFrame, mkF, argsToLocals, Value.category, maxLocals]; done) | rfl
def Q_law (Z : State) (vx : Int32) (h0 : Heap) (n0 : Nat) (v : Option Value) (h : Heap) (L : List Loc) : Prop := v = some (.int 1) ∧ Fr n0 L
set_option maxRecDepth 65536 in
set_option maxHeartbeats 40000000 in
theorem rm_law (l : Launch) (Z : State) (a0 : Array Value) (hw : ∀ d ∈ tables_1, d.before a0 Z = true) (ws : List Jvm.Cond) (vx : Int32) (h0 : Heap) (n0 : Nat) (Z0 : n0 ≤ h0.size) :
    MetFree l x (head1 (Jvm.Cond.code x code maxLocals ret :: ws) room_1) (fun a U => a = #[(.int vx)] ∧ Z.Warmed39 U.vm ∧ U.heap = h0) (fun _ _ _ _ _ => True) (fun _ U o U' => ∃ v L, o = .returned v ∧ Q_law Z vx h0 n0 v U'.heap L ∧ FrameEnd U o U' L room_1.cells room_1.slots) := by
  refine MetFree.of_bodySF (plainFor_of_name pn_1) hisR ?_
  intro p e s m args below meth c s₁ Bd hml0 hP hK
  obtain ⟨rfl, hZ, hh⟩ := hP
  have hx := Bd.exec
  have hby := Bd.bytes
  have hml : c.maxLocals = 3 := hml0
  have hown : s.vm.findClass "com/example/rest_whiteboard/restwhiteboard/http/RequestHeadIsFieldValueCharPinLaw" = some m.cls := findClass_of_methodNamed Bd.named
  have hnm := (name_of_methodNamed Bd.named Bd.method).1
  have X0 : Stand p l e room_1 s m #[(.int vx)] below meth c s₁ [] 0 0 := Stand.of_body Bd
  have e0 : s₁.heap = h0 := by rw [← hh, Bd.state]; rfl
  have N0 := Fr.nil n0
  have pre0 : ∀ t, Steps p.tables e below (s₁.setTop (mkF m 0 #[.val (.int vx), .unset, .unset] [])) t → Steps p.tables e below (s₁.setTop (entryFrame m #[(.int vx)] maxLocals)) t := fun t k => castTop (ef_law m vx) k
  obtain ⟨z4, hz4⟩ : ∃ z : Int32, z = if vx = 9 then 1 else if vx < 0 then 0 else if (31 : Int32) < vx then (if vx = 127 then 0 else 1) else 0 := ⟨_, rfl⟩
  have seg4 : ∀ t, Steps p.tables e below (s₁.setTop (mkF m 46 #[.val (.int vx), .val (.int vx), .val (.int z4)] [])) t → Steps p.tables e below (s₁.setTop (mkF m 2 #[.val (.int vx), .val (.int vx), .unset] [])) t := by
    intro t kt
    show Steps p.tables e below (s₁.setTop (mkF m 2 #[.val (.int vx), .val (.int vx), .unset] [])) _
    refine XS.iloadN X0.here hx rfl (hb hby at_2) rfl ?_
    show Steps p.tables e below (s₁.setTop (mkF m 3 #[.val (.int vx), .val (.int vx), .unset] [(.int vx)])) _
    refine XS.bipush X0.here hx rfl (hb hby at_3) ?_
    show Steps p.tables e below (s₁.setTop (mkF m 5 #[.val (.int vx), .val (.int vx), .unset] [(.int (9 : Int32)), (.int vx)])) _
    by_cases h5_5 : vx = (9 : Int32)
    · refine XS.icmpNo X0.here hx rfl (hb hby at_5) rfl (teq h5_5).2 ?_
      show Steps p.tables e below (s₁.setTop (mkF m 8 #[.val (.int vx), .val (.int vx), .unset] [])) _
      refine XS.iconst X0.here hx rfl (hb hby at_8) ?_
      show Steps p.tables e below (s₁.setTop (mkF m 9 #[.val (.int vx), .val (.int vx), .unset] [(.int (1 : Int32))])) _
      refine XS.istoreN X0.here hx rfl (hb hby at_9) rfl (l' := #[.val (.int vx), .val (.int vx), .val (.int (1 : Int32))]) rfl ?_
      show Steps p.tables e below (s₁.setTop (mkF m 10 #[.val (.int vx), .val (.int vx), .val (.int (1 : Int32))] [])) _
      refine XS.goto X0.here hx rfl (pc0 := 10) (pc' := 46) rfl (hb hby at_10) (by decide) (by decide) ?_
      have qz4 : z4 = (1 : Int32) := hz4.trans (by simp [h5_5])
      rw [qz4] at kt
      exact kt
    · refine XS.icmpYes X0.here hx rfl (pc0 := 5) (pc' := 13) rfl (hb hby at_5) rfl (feq h5_5).2 (by decide) (by decide) ?_
      show Steps p.tables e below (s₁.setTop (mkF m 13 #[.val (.int vx), .val (.int vx), .unset] [])) _
      refine XS.iloadN X0.here hx rfl (hb hby at_13) rfl ?_
      show Steps p.tables e below (s₁.setTop (mkF m 14 #[.val (.int vx), .val (.int vx), .unset] [(.int vx)])) _
      by_cases h14_6 : vx < (0 : Int32)
      · refine XS.ifNo X0.here hx rfl (hb hby at_14) rfl ((if0 _ _).trans (tlt h14_6).2.1) ?_
        show Steps p.tables e below (s₁.setTop (mkF m 17 #[.val (.int vx), .val (.int vx), .unset] [])) _
        refine XS.iconst X0.here hx rfl (hb hby at_17) ?_
        show Steps p.tables e below (s₁.setTop (mkF m 18 #[.val (.int vx), .val (.int vx), .unset] [(.int (0 : Int32))])) _
        refine XS.istoreN X0.here hx rfl (hb hby at_18) rfl (l' := #[.val (.int vx), .val (.int vx), .val (.int (0 : Int32))]) rfl ?_
        show Steps p.tables e below (s₁.setTop (mkF m 19 #[.val (.int vx), .val (.int vx), .val (.int (0 : Int32))] [])) _
        refine XS.goto X0.here hx rfl (pc0 := 19) (pc' := 46) rfl (hb hby at_19) (by decide) (by decide) ?_
        have qz4 : z4 = (0 : Int32) := hz4.trans (by simp [h5_5, h14_6])
        rw [qz4] at kt
        exact kt
      · refine XS.ifYes X0.here hx rfl (pc0 := 14) (pc' := 22) rfl (hb hby at_14) rfl ((if0 _ _).trans (flt h14_6).2.1) (by decide) (by decide) ?_
        show Steps p.tables e below (s₁.setTop (mkF m 22 #[.val (.int vx), .val (.int vx), .unset] [])) _
        refine XS.iloadN X0.here hx rfl (hb hby at_22) rfl ?_
        show Steps p.tables e below (s₁.setTop (mkF m 23 #[.val (.int vx), .val (.int vx), .unset] [(.int vx)])) _
        refine XS.bipush X0.here hx rfl (hb hby at_23) ?_
        show Steps p.tables e below (s₁.setTop (mkF m 25 #[.val (.int vx), .val (.int vx), .unset] [(.int (31 : Int32)), (.int vx)])) _
        by_cases h25_7 : (31 : Int32) < vx
        · refine XS.icmpYes X0.here hx rfl (pc0 := 25) (pc' := 33) rfl (hb hby at_25) rfl (tlt h25_7).2.2.1 (by decide) (by decide) ?_
          show Steps p.tables e below (s₁.setTop (mkF m 33 #[.val (.int vx), .val (.int vx), .unset] [])) _
          refine XS.iloadN X0.here hx rfl (hb hby at_33) rfl ?_
          show Steps p.tables e below (s₁.setTop (mkF m 34 #[.val (.int vx), .val (.int vx), .unset] [(.int vx)])) _
          refine XS.bipush X0.here hx rfl (hb hby at_34) ?_
          show Steps p.tables e below (s₁.setTop (mkF m 36 #[.val (.int vx), .val (.int vx), .unset] [(.int (127 : Int32)), (.int vx)])) _
          by_cases h36_8 : vx = (127 : Int32)
          · refine XS.icmpNo X0.here hx rfl (hb hby at_36) rfl (teq h36_8).2 ?_
            show Steps p.tables e below (s₁.setTop (mkF m 39 #[.val (.int vx), .val (.int vx), .unset] [])) _
            refine XS.iconst X0.here hx rfl (hb hby at_39) ?_
            show Steps p.tables e below (s₁.setTop (mkF m 40 #[.val (.int vx), .val (.int vx), .unset] [(.int (0 : Int32))])) _
            refine XS.istoreN X0.here hx rfl (hb hby at_40) rfl (l' := #[.val (.int vx), .val (.int vx), .val (.int (0 : Int32))]) rfl ?_
            show Steps p.tables e below (s₁.setTop (mkF m 41 #[.val (.int vx), .val (.int vx), .val (.int (0 : Int32))] [])) _
            refine XS.goto X0.here hx rfl (pc0 := 41) (pc' := 46) rfl (hb hby at_41) (by decide) (by decide) ?_
            have qz4 : z4 = (0 : Int32) := hz4.trans (by simp [h5_5, h14_6, h25_7, h36_8])
            rw [qz4] at kt
            exact kt
          · refine XS.icmpYes X0.here hx rfl (pc0 := 36) (pc' := 44) rfl (hb hby at_36) rfl (feq h36_8).2 (by decide) (by decide) ?_
            show Steps p.tables e below (s₁.setTop (mkF m 44 #[.val (.int vx), .val (.int vx), .unset] [])) _
            refine XS.iconst X0.here hx rfl (hb hby at_44) ?_
            show Steps p.tables e below (s₁.setTop (mkF m 45 #[.val (.int vx), .val (.int vx), .unset] [(.int (1 : Int32))])) _
            refine XS.istoreN X0.here hx rfl (hb hby at_45) rfl (l' := #[.val (.int vx), .val (.int vx), .val (.int (1 : Int32))]) rfl ?_
            have qz4 : z4 = (1 : Int32) := hz4.trans (by simp [h5_5, h14_6, h25_7, h36_8])
            rw [qz4] at kt
            exact kt
        · refine XS.icmpNo X0.here hx rfl (hb hby at_25) rfl (flt h25_7).2.2.1 ?_
          show Steps p.tables e below (s₁.setTop (mkF m 28 #[.val (.int vx), .val (.int vx), .unset] [])) _
          refine XS.iconst X0.here hx rfl (hb hby at_28) ?_
          show Steps p.tables e below (s₁.setTop (mkF m 29 #[.val (.int vx), .val (.int vx), .unset] [(.int (0 : Int32))])) _
          refine XS.istoreN X0.here hx rfl (hb hby at_29) rfl (l' := #[.val (.int vx), .val (.int vx), .val (.int (0 : Int32))]) rfl ?_
          show Steps p.tables e below (s₁.setTop (mkF m 30 #[.val (.int vx), .val (.int vx), .val (.int (0 : Int32))] [])) _
          refine XS.goto X0.here hx rfl (pc0 := 30) (pc' := 46) rfl (hb hby at_30) (by decide) (by decide) ?_
          have qz4 : z4 = (0 : Int32) := hz4.trans (by simp [h5_5, h14_6, h25_7])
          rw [qz4] at kt
          exact kt
  obtain ⟨_, _, ⟨T9, L9, k9, n9⟩, -, X9, ⟨Lc9, hQ9, l9, y9, z9⟩, st9⟩ := Jvm.LawKit.callS X0 hx (y := (⟨"com/example/rest_whiteboard/restwhiteboard/http/RequestHead", "isFieldValueChar", "(I)Z"⟩ : MethodName)) hown (mvT hZ (hw _ (List.mem_of_getElem? (i := 0) rfl))) (mvT hZ (hw _ (List.mem_of_getElem? (i := 1) rfl))) (mvT hZ (hw _ (List.mem_of_getElem? (i := 2) rfl))) (mvT hZ (hw _ (List.mem_of_getElem? (i := 3) rfl))) (by decide) (backOf (W := 0) (rm_fv l Z a0 hw [] vx h0 n0 Z0 ) hZ (hw _ (List.mem_of_getElem? (i := 3) rfl)) (hw _ (List.mem_of_getElem? (i := 2) rfl)) (by decide) (by decide)) (g := (mkF m 47 #[.val (.int vx), .val (.int vx), .val (.int z4)] [(.int vx)])) rfl (by rw [hml]; rfl) (argsL := [(.int vx)]) (rest := []) (lenOf pd_0 rfl) rfl (by show 2 * 0 + _ ≤ _; exact Nat.le_of_eq rfl) (hb hby at_47) (fun _ _ => ⟨rfl, e0, (by decide : 0 + 0 ≤ _), (by decide : 0 + 0 ≤ _)⟩)
  dsimp only [Pt.U, Pt.locs, Pt.cells, Pt.slots] at X9 l9 y9 z9 st9 hQ9
  subst l9 y9 z9
  obtain ⟨⟨r9, rfl, hr9⟩, N9q, e9⟩ := hQ9
  have N9 := Fr.app N0 N9q
  obtain ⟨fs, hr, hrun, hended, hW, hsame⟩ := X9.leave (v := some (.int (1 : Int32))) (fun h => by rw [Bd.returns] at h; cases h)
  refine ⟨_, _, pre0 _ ?_, hrun, hended, _, _, rfl, ?_, ⟨_, rfl⟩, hW, hsame.mono (by decide) (by decide)⟩
  · show Steps p.tables e below (s₁.setTop (mkF m 0 #[.val (.int vx), .unset, .unset] [])) _
    refine XS.iloadN X0.here hx rfl (hb hby at_0) rfl ?_
    show Steps p.tables e below (s₁.setTop (mkF m 1 #[.val (.int vx), .unset, .unset] [(.int vx)])) _
    refine XS.istoreN X0.here hx rfl (hb hby at_1) rfl (l' := #[.val (.int vx), .val (.int vx), .unset]) rfl ?_
    show Steps p.tables e below (s₁.setTop (mkF m 2 #[.val (.int vx), .val (.int vx), .unset] [])) _
    refine seg4 _ ?_
    show Steps p.tables e below (s₁.setTop (mkF m 46 #[.val (.int vx), .val (.int vx), .val (.int z4)] [])) _
    refine XS.iloadN X0.here hx rfl (hb hby at_46) rfl ?_
    show Steps p.tables e below (s₁.setTop (mkF m 47 #[.val (.int vx), .val (.int vx), .val (.int z4)] [(.int vx)])) _
    refine st9 _ ?_
    show Steps p.tables e below (T9.setTop (mkF m 50 #[.val (.int vx), .val (.int vx), .val (.int z4)] [(.int r9)])) _
    refine XS.iloadN X9.here hx rfl (hb hby at_50) rfl ?_
    show Steps p.tables e below (T9.setTop (mkF m 51 #[.val (.int vx), .val (.int vx), .val (.int z4)] [(.int z4), (.int r9)])) _
    refine XS.icmpNo X9.here hx rfl (hb hby at_51) rfl (teq (hr9.trans ((own_e vx).trans hz4.symm) : r9 = z4)).2 ?_
    show Steps p.tables e below (T9.setTop (mkF m 54 #[.val (.int vx), .val (.int vx), .val (.int z4)] [])) _
    refine XS.iconst X9.here hx rfl (hb hby at_54) ?_
    show Steps p.tables e below (T9.setTop (mkF m 55 #[.val (.int vx), .val (.int vx), .val (.int z4)] [(.int (1 : Int32))])) _
    refine XS.goto X9.here hx rfl (pc0 := 55) (pc' := 59) rfl (hb hby at_55) (by decide) (by decide) ?_
    show Steps p.tables e below (T9.setTop (mkF m 59 #[.val (.int vx), .val (.int vx), .val (.int z4)] [(.int (1 : Int32))])) _
    exact retN X9 hx (t := .boolean) Bd.returns (by simp) (hb hby at_59) hr
  · show Q_law Z vx h0 n0 _ T9.heap _
    rw [e9]
    exact ⟨rfl, N9⟩
set_option maxRecDepth 65536 in
set_option maxHeartbeats 40000000 in
theorem comes_1 {Post : Tables → Env → Array Value → State → Outcome → State → Prop} (hpost : ∀ tb e args s v u, (limb_1_1.after args s (.returned v) u = true ∧ limb_1_2.after args s (.returned v) u = true ∧ True) → FrameEnd s (.returned v) u (Jvm.fieldLocs frame_1_writes args s ++ Jvm.arrayLocs frame_1_arrays args s ++ Jvm.staticLocs frame_1_statics s) 0 0 → Post tb e args s (.returned v) u) :
    ArmFor flags0 classFile x code maxLocals ret World_1 tables_1 room_1 Calls_1 rest_1 Pre_1 Post := by
  intro l hfl _ _ p e ha hc hk s m args below hf hA hF happ hP
  obtain ⟨hcalls, hrest, hpre⟩ := hP
  obtain ⟨-, -, -, hnamed, -, -, -, hat⟩ := (Spec.applies_iff hf).mp happ
  obtain ⟨hg, hn⟩ := and_e (Cond.before_iff.mp (show (Jvm.Cond.and given_1 narrow_1).before args s = true from hpre))
  obtain ⟨hg0, hr0⟩ := and_e hg
  obtain ⟨w0, rfl⟩ : ∃ w0 : Value, args = #[w0] := by
    have hs : args.size = 1 := by simpa [Cond.value, given_1] using hg0
    obtain ⟨L⟩ := args
    match L, hs with
    | [w0], _ => exact ⟨w0, rfl⟩
  have hw := fun d (hd : d ∈ tables_1) => atoms_spec (ws := Jvm.Cond.code x code maxLocals ret :: tables_1) hat d (List.mem_cons_of_mem _ hd)
  obtain ⟨i0, ei0⟩ := is_v hr0
  obtain rfl : w0 = (.int i0) := Option.some.inj ei0
  obtain ⟨n, o, h1, h2, h3, _, L, rfl, ⟨rfl, N⟩, hq⟩ := rm_law l s _ hw tables_1 i0 s.heap s.heap.size (Nat.le_refl _)  p e ha hc hk s m _ below hf ((Spec.applies_iff_loose hf).mp happ).1 ⟨rfl, State.Warmed39.refl s, rfl⟩ trivial
  refine ⟨n, _, h1, h2, h3, hpost _ _ _ _ _ _ ⟨Cond.after_iff.mpr rfl, Cond.after_iff.mpr (eq_i res_at (Term.int_eval (1)) rfl), trivial⟩ ⟨hq.1, hq.2.1, (hq.2.2.sift fun y hy => Or.inr (N y hy)).mono (by decide) (by decide)⟩⟩
theorem main_1_1 : Claimed_1_1 := comes_1 fun _ _ _ _ _ _ h hF => ⟨h.1, hF⟩
theorem main_1_2 : Claimed_1_2 := comes_1 fun _ _ _ _ _ _ h hF => ⟨h.2.1, hF⟩
end Jvm.Pilot.@@N@@
namespace Jvm.Pilot.@@N@@
open Jvm Jvm.ClassFile Sem Op Lib Jvm.Free Jvm.Stand Jvm.Pilot.@@N@@.Jvm.D
/-! MADE BY PROGRAM (witnessworld.py) out of the Statement's table words and the real class files: 10 classes; the members and pool entries that the words name. The judged class is class 1, her method 1. -/
namespace start1
open Jvm.ClassFile
def u (s : String) : CpInfo := .utf8 (stringToUtf16 s)
/-- a pool by its gaps: so many unusable entries, then the entry; so many at the end -/
def gap : Nat → List CpInfo → List CpInfo
  | 0, r => r
  | n + 1, r => .unusable :: gap n r
def poolList (es : List (Nat × CpInfo)) (last : Nat) : List CpInfo := es.foldr (fun e r => gap e.1 (e.2 :: r)) (gap last [])
def pool (es : List (Nat × CpInfo)) (last : Nat) : Array CpInfo := ⟨poolList es last⟩
def fileOf (pool : Array CpInfo) (this : Nat) (attrs : Array Attribute := #[]) (ms : Array MethodInfo := #[]) (fl : Nat := 33) (sup : Nat := 0) (ifs : Array Nat := #[]) (fds : Array FieldInfo := #[]) : ClassFile where
  minorVersion := 0
  majorVersion := 65
  constantPool := pool
  accessFlags := fl
  thisClass := this
  superClass := sup
  interfaces := ifs
  fields := fds
  methods := ms
  attributes := attrs
def plain (name : String) (sup : Option ClassId) : Class where
  name := name
  kind := .ordinary
  loader := none
  accessFlags := 33
  super := sup
  interfaces := #[]
  cf := none
  fields := #[]
  methods := #[]
  instanceTypes := #[]
  staticTypes := #[]
  resolved := #[]
  callSites := []
  init := .initialized
  statics := none
  mirror := none

def pool0 : Array CpInfo := pool [(5, u "<init>"), (0, u "()V"), (1, .class_ 10), (1, u "java/lang/Object")] 113

def k0m0 : Method := { name := "<init>", desc := "()V", sig := { parameters := [], returnType := none }, accessFlags := 1, code := none }
/-- java/lang/Object -/
def k0 : Class := { plain "java/lang/Object" none with
  accessFlags := 33
  interfaces := #[]
  cf := some (fileOf pool0 8 #[] #[{ accessFlags := 1, nameIndex := 5, descriptorIndex := 6, attributes := #[] }] 33 0 #[] #[])
  fields := #[]
  methods := #[k0m0]
  instanceTypes := #[]
  staticTypes := #[]
  resolved := Array.replicate 124 none
  statics := none }

def pool1 : Array CpInfo := pool [(2, .class_ 4), (1, u "java/lang/Object"), (0, u "<init>"), (0, u "()V"), (0, .methodref 8 9), (0, .class_ 10), (0, .nameAndType 11 12), (0, u "com/example/rest_whiteboard/restwhiteboard/http/RequestHead"), (0, u "isFieldValueChar"), (0, u "(I)Z"), (0, .class_ 14), (0, u "com/example/rest_whiteboard/restwhiteboard/http/RequestHeadIsFieldValueCharPinLaw"), (2, u "law")] 3

def k1m0 : Method := { name := "<init>", desc := "()V", sig := { parameters := [], returnType := none }, accessFlags := 2, code := none }
def k1c1 : Code := { maxStack := 2, maxLocals := 3, code := code, exceptionTable := #[], attributes := #[] }
def k1m1 : Method := { name := "law", desc := "(I)Z", sig := { parameters := [.int], returnType := some .boolean }, accessFlags := 9, code := some k1c1 }
/-- com/example/rest_whiteboard/restwhiteboard/http/RequestHeadIsFieldValueCharPinLaw -/
def k1 : Class := { plain "com/example/rest_whiteboard/restwhiteboard/http/RequestHeadIsFieldValueCharPinLaw" (some 0) with
  accessFlags := 49
  interfaces := #[]
  cf := some (fileOf pool1 13 #[] #[{ accessFlags := 2, nameIndex := 5, descriptorIndex := 6, attributes := #[] }, { accessFlags := 9, nameIndex := 17, descriptorIndex := 12, attributes := #[] }] 49 2 #[] #[])
  fields := #[]
  methods := #[k1m0, k1m1]
  instanceTypes := #[]
  staticTypes := #[]
  resolved := Array.replicate 21 none
  statics := none }

def pool2 : Array CpInfo := pool [(2, .class_ 4), (1, u "java/lang/Object"), (0, u "<init>"), (0, u "()V"), (0, .class_ 8), (0, u "java/lang/Record")] 13

def k2m0 : Method := { name := "<init>", desc := "()V", sig := { parameters := [], returnType := none }, accessFlags := 4, code := none }
/-- java/lang/Record -/
def k2 : Class := { plain "java/lang/Record" (some 0) with
  accessFlags := 1057
  interfaces := #[]
  cf := some (fileOf pool2 7 #[] #[{ accessFlags := 4, nameIndex := 5, descriptorIndex := 6, attributes := #[] }] 1057 2 #[] #[])
  fields := #[]
  methods := #[k2m0]
  instanceTypes := #[]
  staticTypes := #[]
  resolved := Array.replicate 22 none
  statics := none }

def pool3 : Array CpInfo := pool [(2, .class_ 4), (1, u "java/lang/Record"), (3, .class_ 10), (1, u "com/example/rest_whiteboard/restwhiteboard/http/RequestHead"), (0, u "method"), (0, u "Ljava/lang/String;"), (2, u "authority"), (2, u "path"), (2, u "query"), (2, u "minorVersion"), (0, u "I"), (2, u "fields"), (0, u "Ljava/util/Map;"), (2, u "bodyLength"), (0, u "J"), (2, u "arrived"), (206, u "(I)Z"), (183, u "CHUNKED"), (1, u "CR"), (0, u "B"), (1, u "LF"), (1, u "TRANSFER_ENCODING"), (0, u "CONTENT_LENGTH"), (0, u "HOST"), (0, u "TOKEN_SYMBOLS"), (0, u "MAX_LENGTH_DIGITS"), (25, u "isFieldValueChar")] 109

def k3c0 : Code := { maxStack := 2, maxLocals := 1, code := prog_20_method_21_code, exceptionTable := #[], attributes := #[] }
def k3m0 : Method := { name := "isFieldValueChar", desc := "(I)Z", sig := { parameters := [.int], returnType := some .boolean }, accessFlags := 8, code := some k3c0 }
/-- com/example/rest_whiteboard/restwhiteboard/http/RequestHead -/
def k3 : Class := { plain "com/example/rest_whiteboard/restwhiteboard/http/RequestHead" (some 2) with
  accessFlags := 48
  interfaces := #[]
  cf := some (fileOf pool3 8 #[] #[{ accessFlags := 8, nameIndex := 464, descriptorIndex := 243, attributes := #[] }] 48 2 #[] #[{ accessFlags := 18, nameIndex := 11, descriptorIndex := 12, attributes := #[] }, { accessFlags := 18, nameIndex := 15, descriptorIndex := 12, attributes := #[] }, { accessFlags := 18, nameIndex := 18, descriptorIndex := 12, attributes := #[] }, { accessFlags := 18, nameIndex := 21, descriptorIndex := 12, attributes := #[] }, { accessFlags := 18, nameIndex := 24, descriptorIndex := 25, attributes := #[] }, { accessFlags := 18, nameIndex := 28, descriptorIndex := 29, attributes := #[] }, { accessFlags := 18, nameIndex := 32, descriptorIndex := 33, attributes := #[] }, { accessFlags := 18, nameIndex := 36, descriptorIndex := 33, attributes := #[] }, { accessFlags := 24, nameIndex := 427, descriptorIndex := 33, attributes := #[] }, { accessFlags := 26, nameIndex := 429, descriptorIndex := 430, attributes := #[] }, { accessFlags := 26, nameIndex := 432, descriptorIndex := 430, attributes := #[] }, { accessFlags := 26, nameIndex := 434, descriptorIndex := 12, attributes := #[] }, { accessFlags := 26, nameIndex := 435, descriptorIndex := 12, attributes := #[] }, { accessFlags := 26, nameIndex := 436, descriptorIndex := 12, attributes := #[] }, { accessFlags := 26, nameIndex := 437, descriptorIndex := 12, attributes := #[] }, { accessFlags := 26, nameIndex := 438, descriptorIndex := 25, attributes := #[] }])
  fields := #[{ name := "method", type := (.object "java/lang/String"), accessFlags := 18, slot := 0, constantValue := 0 }, { name := "authority", type := (.object "java/lang/String"), accessFlags := 18, slot := 1, constantValue := 0 }, { name := "path", type := (.object "java/lang/String"), accessFlags := 18, slot := 2, constantValue := 0 }, { name := "query", type := (.object "java/lang/String"), accessFlags := 18, slot := 3, constantValue := 0 }, { name := "minorVersion", type := .int, accessFlags := 18, slot := 4, constantValue := 0 }, { name := "fields", type := (.object "java/util/Map"), accessFlags := 18, slot := 5, constantValue := 0 }, { name := "bodyLength", type := .long, accessFlags := 18, slot := 6, constantValue := 0 }, { name := "arrived", type := .long, accessFlags := 18, slot := 7, constantValue := 0 }, { name := "CHUNKED", type := .long, accessFlags := 24, slot := 0, constantValue := 0 }, { name := "CR", type := .byte, accessFlags := 26, slot := 1, constantValue := 0 }, { name := "LF", type := .byte, accessFlags := 26, slot := 2, constantValue := 0 }, { name := "TRANSFER_ENCODING", type := (.object "java/lang/String"), accessFlags := 26, slot := 3, constantValue := 0 }, { name := "CONTENT_LENGTH", type := (.object "java/lang/String"), accessFlags := 26, slot := 4, constantValue := 0 }, { name := "HOST", type := (.object "java/lang/String"), accessFlags := 26, slot := 5, constantValue := 0 }, { name := "TOKEN_SYMBOLS", type := (.object "java/lang/String"), accessFlags := 26, slot := 6, constantValue := 0 }, { name := "MAX_LENGTH_DIGITS", type := .int, accessFlags := 26, slot := 7, constantValue := 0 }]
  methods := #[k3m0]
  instanceTypes := #[(.object "java/lang/String"), (.object "java/lang/String"), (.object "java/lang/String"), (.object "java/lang/String"), .int, (.object "java/util/Map"), .long, .long]
  staticTypes := #[.long, .byte, .byte, (.object "java/lang/String"), (.object "java/lang/String"), (.object "java/lang/String"), (.object "java/lang/String"), .int]
  resolved := Array.replicate 574 none
  statics := none }

def pool4 : Array CpInfo := pool [(1, u "java/lang/Cloneable"), (0, .class_ 1), (0, u "java/lang/Object"), (0, .class_ 3)] 3

/-- java/lang/Cloneable -/
def k4 : Class := { plain "java/lang/Cloneable" (some 0) with
  accessFlags := 1537
  interfaces := #[]
  cf := some (fileOf pool4 2 #[] #[] 1537 4 #[] #[])
  fields := #[]
  methods := #[]
  instanceTypes := #[]
  staticTypes := #[]
  resolved := Array.replicate 8 none
  statics := none }

def pool5 : Array CpInfo := pool [(1, u "java/io/Serializable"), (0, .class_ 1), (0, u "java/lang/Object"), (0, .class_ 3)] 3

/-- java/io/Serializable -/
def k5 : Class := { plain "java/io/Serializable" (some 0) with
  accessFlags := 1537
  interfaces := #[]
  cf := some (fileOf pool5 2 #[] #[] 1537 4 #[] #[])
  fields := #[]
  methods := #[]
  instanceTypes := #[]
  staticTypes := #[]
  resolved := Array.replicate 8 none
  statics := none }

/-- the primitive byte -/
def k6 : Class := { plain "byte" none with kind := .primitive 'B', accessFlags := 0x411 }
/-- [B -/
def k7 : Class := { plain "[B" (some 0) with kind := .array 6 .byte, interfaces := #[4, 5], accessFlags := 1041 }

/-- the primitive int -/
def k8 : Class := { plain "int" none with kind := .primitive 'I', accessFlags := 0x411 }
/-- [I -/
def k9 : Class := { plain "[I" (some 0) with kind := .array 8 .int, interfaces := #[4, 5], accessFlags := 1041 }

def heap : Heap := #[]
def classes : Array Class := #[k0, k1, k2, k3, k4, k5, k6, k7, k8, k9]
def interned : List (Array UInt16 × Addr) := []
def slotsUsed : Nat := 0
def theMethod : MethodId := ⟨1, 1⟩
def args0 : Array Value := #[.int 5]
def aboutOver (below : List Frame) : State where
  vm := { classes := classes, interned := interned.toArray }
  heap := heap
  slotsUsed := slotsUsed
  threads := #[{ frames := .invoking theMethod args0 :: below }]
def below0 : List Frame := [.native { method := ⟨0, 0⟩, args := #[] }]
def about1 : State := aboutOver below0
def p0 : Program := .bare "" "" ""
def e0 : Env := launch0.env 0 0 0
theorem w_frames : about1.frames = Frame.invoking theMethod args0 :: below0 := rfl
set_option maxRecDepth 65536 in
theorem w_args : argsFit about1.vm theMethod args0 = true := by decide +kernel
set_option maxRecDepth 65536 in
theorem w_heap : heapFits about1 = true := by decide +kernel
set_option maxRecDepth 65536 in
theorem w_runnable : about1.curStatus? = some .runnable := by decide +kernel
set_option maxRecDepth 65536 in
theorem w_alone : about1.alone = true := by decide +kernel
set_option maxRecDepth 65536 in
theorem w_named : about1.methodNamed? x = some theMethod := by decide +kernel
set_option maxRecDepth 65536 in
theorem w_hears : about1.hears theMethod below0 = true := by decide +kernel
set_option maxRecDepth 65536 in
theorem w_ripe : about1.ripe theMethod args0 below0 = true := by decide +kernel
theorem w_running : about1.status = .running := rfl
set_option maxRecDepth 65536 in
theorem w_room : about1.hasRoom e0.platform room_1 = true :=
  launch0.hasRoom_least _ room_1 (by decide +kernel) (by decide +kernel) (by decide +kernel) (by decide +kernel) (by decide +kernel) (by decide +kernel)
theorem allAtoms_all (ts : List Jvm.Cond) (a : Array Jvm.Value) (st : Jvm.State) : (allAtoms ts).before a st = ts.all (fun c => c.before a st) := by
  induction ts with
  | nil => rfl
  | cons c t ih =>
    show (Jvm.Cond.and c (allAtoms t)).before a st = _
    rw [Jvm.Cond.before_and, ih, List.all_cons]
def words1 : List Jvm.Cond := Jvm.Cond.code x code maxLocals ret :: tables_1
/-- a 'code' word, met by the world's own term for the bytes: nothing is compared byte by byte -/
theorem code_word {y : MethodName} {bytes : ByteArray} {mx : Nat} {rt : Option FieldType} {a : Array Value} {s : State} {m : MethodId} {meth : Method} {c : Code} (h1 : s.methodNamed? y = some m) (h2 : s.vm.method? m = some meth) (h3 : meth.code = some c) (h4 : c.code = bytes)
    (h5 : (c.maxLocals == mx && c.exceptionTable.isEmpty && decide (c.maxStack ≤ mostOperands) && decide (meth.sig.returnType = rt) && !meth.locks && decide (parseMethodDescriptor y.desc = some meth.sig)) = true) : (Jvm.Cond.code y bytes mx rt).before a s = true := by
  simp only [Bool.and_eq_true, beq_iff_eq, Bool.not_eq_true', decide_eq_true_eq] at h5
  obtain ⟨⟨⟨⟨⟨g1, g2⟩, g3⟩, g4⟩, g5⟩, g6⟩ := h5
  simp [Cond.before, Cond.holds, Cond.value, h1, h2, h3, h4, g1, g2, g3, g4, g5, g6]
def isCode : Jvm.Cond → Bool
  | .code _ _ _ _ => true
  | _ => false
theorem all_split {L : List Jvm.Cond} {P : Jvm.Cond → Bool} (h1 : L.all (fun c => isCode c || P c) = true) (h2 : ∀ c ∈ L.filter isCode, P c = true) : L.all P = true := by
  refine List.all_eq_true.mpr fun c hc => ?_
  have h := List.all_eq_true.mp h1 c hc
  rcases Bool.eq_false_or_eq_true (isCode c) with hi | hi
  · exact h2 c (List.mem_filter.mpr ⟨hc, hi⟩)
  · simpa [hi] using h
set_option maxRecDepth 65536 in
theorem w_c0 : (Jvm.Cond.code x code maxLocals ret).before args0 about1 = true := code_word (m := ⟨1, 1⟩) (meth := k1m1) (c := k1c1) (by decide +kernel) rfl rfl rfl (by decide +kernel)
set_option maxRecDepth 65536 in
theorem w_c1 : (Jvm.Cond.code ({ cls := "com/example/rest_whiteboard/restwhiteboard/http/RequestHead", name := "isFieldValueChar", desc := "(I)Z" } : Jvm.MethodName) prog_20_method_21_code (1 : Nat) (Option.some Jvm.ClassFile.FieldType.boolean)).before args0 about1 = true := code_word (m := ⟨3, 0⟩) (meth := k3m0) (c := k3c0) (by decide +kernel) rfl rfl rfl (by decide +kernel)
def codes1 : List Jvm.Cond := [Jvm.Cond.code x code maxLocals ret, Jvm.Cond.code ({ cls := "com/example/rest_whiteboard/restwhiteboard/http/RequestHead", name := "isFieldValueChar", desc := "(I)Z" } : Jvm.MethodName) prog_20_method_21_code (1 : Nat) (Option.some Jvm.ClassFile.FieldType.boolean)]
set_option maxRecDepth 65536 in
theorem codes_eq : words1.filter isCode = codes1 := rfl
theorem w_codes : ∀ c ∈ words1.filter isCode, c.before args0 about1 = true := by
  rw [codes_eq]
  intro c hc
  simp only [codes1, List.mem_cons, List.not_mem_nil, or_false] at hc
  rcases hc with rfl | rfl
  · exact w_c0
  · exact w_c1
set_option maxRecDepth 65536 in
theorem w_t1 : words1.all (fun c => isCode c || c.before args0 about1) = true := by decide +kernel
theorem w_tables : (allAtoms (Jvm.Cond.code x code maxLocals ret :: tables_1)).before args0 about1 = true := by
  rw [allAtoms_all]
  show words1.all (fun c => c.before args0 about1) = true
  refine all_split ?_ w_codes
  rw [w_t1]
set_option maxRecDepth 65536 in
theorem w_case : (Jvm.Cond.and given_1 narrow_1).before args0 about1 = true := by decide +kernel
theorem w_applies : (headSpec (Jvm.Cond.code x code maxLocals ret :: tables_1) room_1).applies x e0.platform about1 = true :=
  (Spec.applies_iff w_frames).mpr ⟨w_running, w_runnable, w_alone, w_named, w_hears, w_ripe, w_room, w_tables⟩
theorem atStart : AtStart classFile x code maxLocals ret World_1 tables_1 room_1 Calls_1 rest_1 Pre_1 launch0 p0 e0 about1 theMethod args0 below0 :=
  ⟨lists_1, trivial, launch0.admits_env _ _ _, launch0.least_env, fairChoices_fair.cas, fairChoices_fair.clock, w_frames, w_args, w_heap, w_applies, trivial, trivial, w_case⟩
end start1
theorem witness_1 : WitnessClaimed_1 := ⟨start1.p0, start1.e0, start1.about1, start1.theMethod, start1.args0, start1.below0, start1.atStart⟩
end Jvm.Pilot.@@N@@
