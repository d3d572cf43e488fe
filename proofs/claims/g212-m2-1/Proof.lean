import JvmDerived
import JvmDerived.Pilot.@@N@@Statement
import JvmDerived.Pilot.@@N@@Code
set_option linter.unusedVariables false
set_option linter.unusedSimpArgs false
namespace Jvm.RoadKit
open Sem ClassFile Op Lib Jvm.Stand Jvm.Free Jvm.LawKit
section New
variable {p : Program} {l : Launch} {e : Env} {R : Room} {s : State} {m : MethodId} {args : Array Value} {below : List Frame} {meth : Method} {c : Code} {T : State} {locs : List Loc} {cells slots : Nat}
theorem retI (X : Stand p l e R s m args below meth c T locs cells slots) (hx : p.tables.exec = Jvm.exec) {pc : Nat} {Ls : Array Slot} {z : Int32} {rest : List Value} (hret : meth.sig.returnType = some .int) (hd : decode c.code pc = .ok (.ireturn, 1)) {fs : List Frame}
    (hl : ∀ (f : JFrame) (acts : List Action), f.method = m → f.locked = none → f.entered = [] → (doReturn e (T.setTop f) acts (some (.int z))).1 = T.setFrames fs) : Steps p.tables e below (T.setTop (mkF m pc Ls (.int z :: rest))) (T.setFrames fs) := by
  have hm' : T.vm.method? m = some meth := X.method'
  have hn : narrow .int (.int z) = .int z := rfl
  show Steps p.tables e below (T.setTop { method := m, pc := pc, locals := Ls, stack := _ :: rest, locked := none }) _
  jvm_step X.here [X.here.top, hx, hd, hm', hret, hn]
  first | (intro acts; rw [hl _ acts rfl rfl rfl]) | rw [hl _ _ rfl rfl rfl]
  exact Steps.refl _
end New
end Jvm.RoadKit
namespace Jvm.Pilot.@@N@@
open Jvm Jvm.ClassFile Sem Op Lib Jvm.Free Jvm.Stand Jvm.LawKit Jvm.RoadKit Bundle Jvm.Pilot.@@N@@.Jvm.D
theorem own_getD (L : List Int64) (k : Nat) : (L.map Value.long).getD k (.long 0) = .long (L.getD k 0) := by
  induction L generalizing k with
  | nil => simp
  | cons a t ih => cases k with
    | zero => simp
    | succ n => simpa using ih n
theorem d_jdk_29_method_70_code_0 : decode jdk_29_method_70_code 0 = .ok (.lload_n 0, 1) := by decide +kernel
theorem d_jdk_29_method_70_code_1 : decode jdk_29_method_70_code 1 = .ok (.lload_n 2, 1) := by decide +kernel
theorem d_jdk_29_method_70_code_2 : decode jdk_29_method_70_code 2 = .ok (.lcmp, 1) := by decide +kernel
theorem d_jdk_29_method_70_code_3 : decode jdk_29_method_70_code 3 = .ok (.ifCond .gt 7, 3) := by decide +kernel
theorem d_jdk_29_method_70_code_10 : decode jdk_29_method_70_code 10 = .ok (.lload_n 2, 1) := by decide +kernel
theorem d_jdk_29_method_70_code_11 : decode jdk_29_method_70_code 11 = .ok (.lreturn, 1) := by decide +kernel
theorem d_jdk_29_method_70_code_6 : decode jdk_29_method_70_code 6 = .ok (.lload_n 0, 1) := by decide +kernel
theorem d_jdk_29_method_70_code_7 : decode jdk_29_method_70_code 7 = .ok (.goto 4, 3) := by decide +kernel
theorem ef_min (m : MethodId) (va : Int64) (vb : Int64) : entryFrame m #[(.long va), (.long vb)] 4 = mkF m 0 #[.val (.long va), .second, .val (.long vb), .second] [] := by first | (simp [entryFrame, mkF, argsToLocals, Value.category]; done) | rfl
def Q_min (Z : State) (va : Int64) (vb : Int64) (h0 : Heap) (n0 : Nat) (v : Option Value) (h : Heap) (L : List Loc) : Prop := (∃ z : Int64, v = some (.long z) ∧ (z = if vb < va then vb else va)) ∧ Fr n0 L ∧ h = h0
set_option maxRecDepth 65536 in
set_option maxHeartbeats 40000000 in
theorem rm_min (l : Launch) (Z : State) (a0 : Array Value) (hw : ∀ d ∈ tables_1, d.before a0 Z = true) (ws : List Jvm.Cond) (va : Int64) (vb : Int64) (h0 : Heap) (n0 : Nat) (Z0 : n0 ≤ h0.size) :
    MetFree l (⟨"java/lang/Math", "min", "(JJ)J"⟩ : MethodName) (head1 (Jvm.Cond.code (⟨"java/lang/Math", "min", "(JJ)J"⟩ : MethodName) jdk_29_method_70_code 4 (some .long) :: ws) ({ frames := 0, cells := 0, slots := 0, locals := 0 } : Room)) (fun a U => a = #[(.long va), (.long vb)] ∧ Z.Warmed39 U.vm ∧ U.heap = h0) (fun _ _ _ _ _ => True) (fun _ U o U' => ∃ v L, o = .returned v ∧ Q_min Z va vb h0 n0 v U'.heap L ∧ FrameEnd U o U' L ({ frames := 0, cells := 0, slots := 0, locals := 0 } : Room).cells ({ frames := 0, cells := 0, slots := 0, locals := 0 } : Room).slots) := by
  refine MetFree.of_bodySF (Jvm.Free.JP.mathPlain rfl (by decide +kernel)) hisR ?_
  intro p e s m args below meth c s₁ Bd hml0 hP hK
  obtain ⟨rfl, hZ, hh⟩ := hP
  have hx := Bd.exec
  have hby := Bd.bytes
  have hml : c.maxLocals = 4 := hml0
  have hown : s.vm.findClass "java/lang/Math" = some m.cls := findClass_of_methodNamed Bd.named
  have hnm := (name_of_methodNamed Bd.named Bd.method).1
  have X0 : Stand p l e ({ frames := 0, cells := 0, slots := 0, locals := 0 } : Room) s m #[(.long va), (.long vb)] below meth c s₁ [] 0 0 := Stand.of_body Bd
  have e0 : s₁.heap = h0 := by rw [← hh, Bd.state]; rfl
  have N0 := Fr.nil n0
  have pre0 : ∀ t, Steps p.tables e below (s₁.setTop (mkF m 0 #[.val (.long va), .second, .val (.long vb), .second] [])) t → Steps p.tables e below (s₁.setTop (entryFrame m #[(.long va), (.long vb)] 4)) t := fun t k => castTop (ef_min m va vb) k
  by_cases h3_1 : vb < va
  · obtain ⟨fs, hr, hrun, hended, hW, hsame⟩ := X0.leave (v := some (.long vb)) (fun h => by rw [Bd.returns] at h; cases h)
    refine ⟨_, _, pre0 _ ?_, hrun, hended, _, _, rfl, ?_, ⟨_, rfl⟩, hW, hsame.mono (by decide) (by decide)⟩
    · show Steps p.tables e below (s₁.setTop (mkF m 0 #[.val (.long va), .second, .val (.long vb), .second] [])) _
      refine XS.lloadN X0.here hx rfl (hb hby d_jdk_29_method_70_code_0) rfl ?_
      show Steps p.tables e below (s₁.setTop (mkF m 1 #[.val (.long va), .second, .val (.long vb), .second] [(.long va)])) _
      refine XS.lloadN X0.here hx rfl (hb hby d_jdk_29_method_70_code_1) rfl ?_
      show Steps p.tables e below (s₁.setTop (mkF m 2 #[.val (.long va), .second, .val (.long vb), .second] [(.long vb), (.long va)])) _
      refine XS.lcmp X0.here hx rfl (hb hby d_jdk_29_method_70_code_2) rfl ?_
      show Steps p.tables e below (s₁.setTop (mkF m 3 #[.val (.long va), .second, .val (.long vb), .second] [(.int (lcmpW va vb))])) _
      refine XS.ifYes X0.here hx rfl (pc0 := 3) (pc' := 10) rfl (hb hby d_jdk_29_method_70_code_3) rfl ((if0 _ _).trans (tlt ((lw_gt _ _).mpr h3_1)).2.2.1) (by decide) (by decide) ?_
      show Steps p.tables e below (s₁.setTop (mkF m 10 #[.val (.long va), .second, .val (.long vb), .second] [])) _
      refine XS.lloadN X0.here hx rfl (hb hby d_jdk_29_method_70_code_10) rfl ?_
      show Steps p.tables e below (s₁.setTop (mkF m 11 #[.val (.long va), .second, .val (.long vb), .second] [(.long vb)])) _
      exact X0.lreturnOut hx Bd.returns (hb hby d_jdk_29_method_70_code_11) hr
    · show Q_min Z va vb h0 n0 _ s₁.heap _
      rw [e0]
      exact ⟨⟨_, rfl, by simp [h3_1]⟩, N0, rfl⟩
  · obtain ⟨fs, hr, hrun, hended, hW, hsame⟩ := X0.leave (v := some (.long va)) (fun h => by rw [Bd.returns] at h; cases h)
    refine ⟨_, _, pre0 _ ?_, hrun, hended, _, _, rfl, ?_, ⟨_, rfl⟩, hW, hsame.mono (by decide) (by decide)⟩
    · show Steps p.tables e below (s₁.setTop (mkF m 0 #[.val (.long va), .second, .val (.long vb), .second] [])) _
      refine XS.lloadN X0.here hx rfl (hb hby d_jdk_29_method_70_code_0) rfl ?_
      show Steps p.tables e below (s₁.setTop (mkF m 1 #[.val (.long va), .second, .val (.long vb), .second] [(.long va)])) _
      refine XS.lloadN X0.here hx rfl (hb hby d_jdk_29_method_70_code_1) rfl ?_
      show Steps p.tables e below (s₁.setTop (mkF m 2 #[.val (.long va), .second, .val (.long vb), .second] [(.long vb), (.long va)])) _
      refine XS.lcmp X0.here hx rfl (hb hby d_jdk_29_method_70_code_2) rfl ?_
      show Steps p.tables e below (s₁.setTop (mkF m 3 #[.val (.long va), .second, .val (.long vb), .second] [(.int (lcmpW va vb))])) _
      refine XS.ifNo X0.here hx rfl (hb hby d_jdk_29_method_70_code_3) rfl ((if0 _ _).trans (flt (fun q => h3_1 ((lw_gt _ _).mp q))).2.2.1) ?_
      show Steps p.tables e below (s₁.setTop (mkF m 6 #[.val (.long va), .second, .val (.long vb), .second] [])) _
      refine XS.lloadN X0.here hx rfl (hb hby d_jdk_29_method_70_code_6) rfl ?_
      show Steps p.tables e below (s₁.setTop (mkF m 7 #[.val (.long va), .second, .val (.long vb), .second] [(.long va)])) _
      refine XS.goto X0.here hx rfl (pc0 := 7) (pc' := 11) rfl (hb hby d_jdk_29_method_70_code_7) (by decide) (by decide) ?_
      show Steps p.tables e below (s₁.setTop (mkF m 11 #[.val (.long va), .second, .val (.long vb), .second] [(.long va)])) _
      exact X0.lreturnOut hx Bd.returns (hb hby d_jdk_29_method_70_code_11) hr
    · show Q_min Z va vb h0 n0 _ s₁.heap _
      rw [e0]
      exact ⟨⟨_, rfl, by simp [h3_1]⟩, N0, rfl⟩
theorem d_jdk_29_method_66_code_0 : decode jdk_29_method_66_code 0 = .ok (.lload_n 0, 1) := by decide +kernel
theorem d_jdk_29_method_66_code_1 : decode jdk_29_method_66_code 1 = .ok (.lload_n 2, 1) := by decide +kernel
theorem d_jdk_29_method_66_code_2 : decode jdk_29_method_66_code 2 = .ok (.lcmp, 1) := by decide +kernel
theorem d_jdk_29_method_66_code_3 : decode jdk_29_method_66_code 3 = .ok (.ifCond .lt 7, 3) := by decide +kernel
theorem d_jdk_29_method_66_code_10 : decode jdk_29_method_66_code 10 = .ok (.lload_n 2, 1) := by decide +kernel
theorem d_jdk_29_method_66_code_11 : decode jdk_29_method_66_code 11 = .ok (.lreturn, 1) := by decide +kernel
theorem d_jdk_29_method_66_code_6 : decode jdk_29_method_66_code 6 = .ok (.lload_n 0, 1) := by decide +kernel
theorem d_jdk_29_method_66_code_7 : decode jdk_29_method_66_code 7 = .ok (.goto 4, 3) := by decide +kernel
theorem ef_max (m : MethodId) (va : Int64) (vb : Int64) : entryFrame m #[(.long va), (.long vb)] 4 = mkF m 0 #[.val (.long va), .second, .val (.long vb), .second] [] := by first | (simp [entryFrame, mkF, argsToLocals, Value.category]; done) | rfl
def Q_max (Z : State) (va : Int64) (vb : Int64) (h0 : Heap) (n0 : Nat) (v : Option Value) (h : Heap) (L : List Loc) : Prop := (∃ z : Int64, v = some (.long z) ∧ (z = if va < vb then vb else va)) ∧ Fr n0 L ∧ h = h0
set_option maxRecDepth 65536 in
set_option maxHeartbeats 40000000 in
theorem rm_max (l : Launch) (Z : State) (a0 : Array Value) (hw : ∀ d ∈ tables_1, d.before a0 Z = true) (ws : List Jvm.Cond) (va : Int64) (vb : Int64) (h0 : Heap) (n0 : Nat) (Z0 : n0 ≤ h0.size) :
    MetFree l (⟨"java/lang/Math", "max", "(JJ)J"⟩ : MethodName) (head1 (Jvm.Cond.code (⟨"java/lang/Math", "max", "(JJ)J"⟩ : MethodName) jdk_29_method_66_code 4 (some .long) :: ws) ({ frames := 0, cells := 0, slots := 0, locals := 0 } : Room)) (fun a U => a = #[(.long va), (.long vb)] ∧ Z.Warmed39 U.vm ∧ U.heap = h0) (fun _ _ _ _ _ => True) (fun _ U o U' => ∃ v L, o = .returned v ∧ Q_max Z va vb h0 n0 v U'.heap L ∧ FrameEnd U o U' L ({ frames := 0, cells := 0, slots := 0, locals := 0 } : Room).cells ({ frames := 0, cells := 0, slots := 0, locals := 0 } : Room).slots) := by
  refine MetFree.of_bodySF (Jvm.Free.JP.mathPlain rfl (by decide +kernel)) hisR ?_
  intro p e s m args below meth c s₁ Bd hml0 hP hK
  obtain ⟨rfl, hZ, hh⟩ := hP
  have hx := Bd.exec
  have hby := Bd.bytes
  have hml : c.maxLocals = 4 := hml0
  have hown : s.vm.findClass "java/lang/Math" = some m.cls := findClass_of_methodNamed Bd.named
  have hnm := (name_of_methodNamed Bd.named Bd.method).1
  have X0 : Stand p l e ({ frames := 0, cells := 0, slots := 0, locals := 0 } : Room) s m #[(.long va), (.long vb)] below meth c s₁ [] 0 0 := Stand.of_body Bd
  have e0 : s₁.heap = h0 := by rw [← hh, Bd.state]; rfl
  have N0 := Fr.nil n0
  have pre0 : ∀ t, Steps p.tables e below (s₁.setTop (mkF m 0 #[.val (.long va), .second, .val (.long vb), .second] [])) t → Steps p.tables e below (s₁.setTop (entryFrame m #[(.long va), (.long vb)] 4)) t := fun t k => castTop (ef_max m va vb) k
  by_cases h3_2 : va < vb
  · obtain ⟨fs, hr, hrun, hended, hW, hsame⟩ := X0.leave (v := some (.long vb)) (fun h => by rw [Bd.returns] at h; cases h)
    refine ⟨_, _, pre0 _ ?_, hrun, hended, _, _, rfl, ?_, ⟨_, rfl⟩, hW, hsame.mono (by decide) (by decide)⟩
    · show Steps p.tables e below (s₁.setTop (mkF m 0 #[.val (.long va), .second, .val (.long vb), .second] [])) _
      refine XS.lloadN X0.here hx rfl (hb hby d_jdk_29_method_66_code_0) rfl ?_
      show Steps p.tables e below (s₁.setTop (mkF m 1 #[.val (.long va), .second, .val (.long vb), .second] [(.long va)])) _
      refine XS.lloadN X0.here hx rfl (hb hby d_jdk_29_method_66_code_1) rfl ?_
      show Steps p.tables e below (s₁.setTop (mkF m 2 #[.val (.long va), .second, .val (.long vb), .second] [(.long vb), (.long va)])) _
      refine XS.lcmp X0.here hx rfl (hb hby d_jdk_29_method_66_code_2) rfl ?_
      show Steps p.tables e below (s₁.setTop (mkF m 3 #[.val (.long va), .second, .val (.long vb), .second] [(.int (lcmpW va vb))])) _
      refine XS.ifYes X0.here hx rfl (pc0 := 3) (pc' := 10) rfl (hb hby d_jdk_29_method_66_code_3) rfl ((if0 _ _).trans (tlt ((lw_lt _ _).mpr h3_2)).1) (by decide) (by decide) ?_
      show Steps p.tables e below (s₁.setTop (mkF m 10 #[.val (.long va), .second, .val (.long vb), .second] [])) _
      refine XS.lloadN X0.here hx rfl (hb hby d_jdk_29_method_66_code_10) rfl ?_
      show Steps p.tables e below (s₁.setTop (mkF m 11 #[.val (.long va), .second, .val (.long vb), .second] [(.long vb)])) _
      exact X0.lreturnOut hx Bd.returns (hb hby d_jdk_29_method_66_code_11) hr
    · show Q_max Z va vb h0 n0 _ s₁.heap _
      rw [e0]
      exact ⟨⟨_, rfl, by simp [h3_2]⟩, N0, rfl⟩
  · obtain ⟨fs, hr, hrun, hended, hW, hsame⟩ := X0.leave (v := some (.long va)) (fun h => by rw [Bd.returns] at h; cases h)
    refine ⟨_, _, pre0 _ ?_, hrun, hended, _, _, rfl, ?_, ⟨_, rfl⟩, hW, hsame.mono (by decide) (by decide)⟩
    · show Steps p.tables e below (s₁.setTop (mkF m 0 #[.val (.long va), .second, .val (.long vb), .second] [])) _
      refine XS.lloadN X0.here hx rfl (hb hby d_jdk_29_method_66_code_0) rfl ?_
      show Steps p.tables e below (s₁.setTop (mkF m 1 #[.val (.long va), .second, .val (.long vb), .second] [(.long va)])) _
      refine XS.lloadN X0.here hx rfl (hb hby d_jdk_29_method_66_code_1) rfl ?_
      show Steps p.tables e below (s₁.setTop (mkF m 2 #[.val (.long va), .second, .val (.long vb), .second] [(.long vb), (.long va)])) _
      refine XS.lcmp X0.here hx rfl (hb hby d_jdk_29_method_66_code_2) rfl ?_
      show Steps p.tables e below (s₁.setTop (mkF m 3 #[.val (.long va), .second, .val (.long vb), .second] [(.int (lcmpW va vb))])) _
      refine XS.ifNo X0.here hx rfl (hb hby d_jdk_29_method_66_code_3) rfl ((if0 _ _).trans (flt (fun q => h3_2 ((lw_lt _ _).mp q))).1) ?_
      show Steps p.tables e below (s₁.setTop (mkF m 6 #[.val (.long va), .second, .val (.long vb), .second] [])) _
      refine XS.lloadN X0.here hx rfl (hb hby d_jdk_29_method_66_code_6) rfl ?_
      show Steps p.tables e below (s₁.setTop (mkF m 7 #[.val (.long va), .second, .val (.long vb), .second] [(.long va)])) _
      refine XS.goto X0.here hx rfl (pc0 := 7) (pc' := 11) rfl (hb hby d_jdk_29_method_66_code_7) (by decide) (by decide) ?_
      show Steps p.tables e below (s₁.setTop (mkF m 11 #[.val (.long va), .second, .val (.long vb), .second] [(.long va)])) _
      exact X0.lreturnOut hx Bd.returns (hb hby d_jdk_29_method_66_code_11) hr
    · show Q_max Z va vb h0 n0 _ s₁.heap _
      rw [e0]
      exact ⟨⟨_, rfl, by simp [h3_2]⟩, N0, rfl⟩
theorem d_jdk_29_method_69_code_0 : decode jdk_29_method_69_code 0 = .ok (.iload_n 0, 1) := by decide +kernel
theorem d_jdk_29_method_69_code_1 : decode jdk_29_method_69_code 1 = .ok (.iload_n 1, 1) := by decide +kernel
theorem d_jdk_29_method_69_code_2 : decode jdk_29_method_69_code 2 = .ok (.if_icmp .gt 7, 3) := by decide +kernel
theorem d_jdk_29_method_69_code_9 : decode jdk_29_method_69_code 9 = .ok (.iload_n 1, 1) := by decide +kernel
theorem d_jdk_29_method_69_code_10 : decode jdk_29_method_69_code 10 = .ok (.ireturn, 1) := by decide +kernel
theorem d_jdk_29_method_69_code_5 : decode jdk_29_method_69_code 5 = .ok (.iload_n 0, 1) := by decide +kernel
theorem d_jdk_29_method_69_code_6 : decode jdk_29_method_69_code 6 = .ok (.goto 4, 3) := by decide +kernel
theorem ef_mini (m : MethodId) (va : Int32) (vb : Int32) : entryFrame m #[(.int va), (.int vb)] 2 = mkF m 0 #[.val (.int va), .val (.int vb)] [] := by first | (simp [entryFrame, mkF, argsToLocals, Value.category]; done) | rfl
def Q_mini (Z : State) (va : Int32) (vb : Int32) (h0 : Heap) (n0 : Nat) (v : Option Value) (h : Heap) (L : List Loc) : Prop := (∃ z : Int32, v = some (.int z) ∧ (z = if vb < va then vb else va)) ∧ Fr n0 L ∧ h = h0
set_option maxRecDepth 65536 in
set_option maxHeartbeats 40000000 in
theorem rm_mini (l : Launch) (Z : State) (a0 : Array Value) (hw : ∀ d ∈ tables_1, d.before a0 Z = true) (ws : List Jvm.Cond) (va : Int32) (vb : Int32) (h0 : Heap) (n0 : Nat) (Z0 : n0 ≤ h0.size) :
    MetFree l (⟨"java/lang/Math", "min", "(II)I"⟩ : MethodName) (head1 (Jvm.Cond.code (⟨"java/lang/Math", "min", "(II)I"⟩ : MethodName) jdk_29_method_69_code 2 (some .int) :: ws) ({ frames := 0, cells := 0, slots := 0, locals := 0 } : Room)) (fun a U => a = #[(.int va), (.int vb)] ∧ Z.Warmed39 U.vm ∧ U.heap = h0) (fun _ _ _ _ _ => True) (fun _ U o U' => ∃ v L, o = .returned v ∧ Q_mini Z va vb h0 n0 v U'.heap L ∧ FrameEnd U o U' L ({ frames := 0, cells := 0, slots := 0, locals := 0 } : Room).cells ({ frames := 0, cells := 0, slots := 0, locals := 0 } : Room).slots) := by
  refine MetFree.of_bodySF (Jvm.Free.JP.mathPlain rfl (by decide +kernel)) hisR ?_
  intro p e s m args below meth c s₁ Bd hml0 hP hK
  obtain ⟨rfl, hZ, hh⟩ := hP
  have hx := Bd.exec
  have hby := Bd.bytes
  have hml : c.maxLocals = 2 := hml0
  have hown : s.vm.findClass "java/lang/Math" = some m.cls := findClass_of_methodNamed Bd.named
  have hnm := (name_of_methodNamed Bd.named Bd.method).1
  have X0 : Stand p l e ({ frames := 0, cells := 0, slots := 0, locals := 0 } : Room) s m #[(.int va), (.int vb)] below meth c s₁ [] 0 0 := Stand.of_body Bd
  have e0 : s₁.heap = h0 := by rw [← hh, Bd.state]; rfl
  have N0 := Fr.nil n0
  have pre0 : ∀ t, Steps p.tables e below (s₁.setTop (mkF m 0 #[.val (.int va), .val (.int vb)] [])) t → Steps p.tables e below (s₁.setTop (entryFrame m #[(.int va), (.int vb)] 2)) t := fun t k => castTop (ef_mini m va vb) k
  by_cases h2_3 : vb < va
  · obtain ⟨fs, hr, hrun, hended, hW, hsame⟩ := X0.leave (v := some (.int vb)) (fun h => by rw [Bd.returns] at h; cases h)
    refine ⟨_, _, pre0 _ ?_, hrun, hended, _, _, rfl, ?_, ⟨_, rfl⟩, hW, hsame.mono (by decide) (by decide)⟩
    · show Steps p.tables e below (s₁.setTop (mkF m 0 #[.val (.int va), .val (.int vb)] [])) _
      refine XS.iloadN X0.here hx rfl (hb hby d_jdk_29_method_69_code_0) rfl ?_
      show Steps p.tables e below (s₁.setTop (mkF m 1 #[.val (.int va), .val (.int vb)] [(.int va)])) _
      refine XS.iloadN X0.here hx rfl (hb hby d_jdk_29_method_69_code_1) rfl ?_
      show Steps p.tables e below (s₁.setTop (mkF m 2 #[.val (.int va), .val (.int vb)] [(.int vb), (.int va)])) _
      refine XS.icmpYes X0.here hx rfl (pc0 := 2) (pc' := 9) rfl (hb hby d_jdk_29_method_69_code_2) rfl (tlt h2_3).2.2.1 (by decide) (by decide) ?_
      show Steps p.tables e below (s₁.setTop (mkF m 9 #[.val (.int va), .val (.int vb)] [])) _
      refine XS.iloadN X0.here hx rfl (hb hby d_jdk_29_method_69_code_9) rfl ?_
      show Steps p.tables e below (s₁.setTop (mkF m 10 #[.val (.int va), .val (.int vb)] [(.int vb)])) _
      exact retI X0 hx Bd.returns (hb hby d_jdk_29_method_69_code_10) hr
    · show Q_mini Z va vb h0 n0 _ s₁.heap _
      rw [e0]
      exact ⟨⟨_, rfl, by simp [h2_3]⟩, N0, rfl⟩
  · obtain ⟨fs, hr, hrun, hended, hW, hsame⟩ := X0.leave (v := some (.int va)) (fun h => by rw [Bd.returns] at h; cases h)
    refine ⟨_, _, pre0 _ ?_, hrun, hended, _, _, rfl, ?_, ⟨_, rfl⟩, hW, hsame.mono (by decide) (by decide)⟩
    · show Steps p.tables e below (s₁.setTop (mkF m 0 #[.val (.int va), .val (.int vb)] [])) _
      refine XS.iloadN X0.here hx rfl (hb hby d_jdk_29_method_69_code_0) rfl ?_
      show Steps p.tables e below (s₁.setTop (mkF m 1 #[.val (.int va), .val (.int vb)] [(.int va)])) _
      refine XS.iloadN X0.here hx rfl (hb hby d_jdk_29_method_69_code_1) rfl ?_
      show Steps p.tables e below (s₁.setTop (mkF m 2 #[.val (.int va), .val (.int vb)] [(.int vb), (.int va)])) _
      refine XS.icmpNo X0.here hx rfl (hb hby d_jdk_29_method_69_code_2) rfl (flt h2_3).2.2.1 ?_
      show Steps p.tables e below (s₁.setTop (mkF m 5 #[.val (.int va), .val (.int vb)] [])) _
      refine XS.iloadN X0.here hx rfl (hb hby d_jdk_29_method_69_code_5) rfl ?_
      show Steps p.tables e below (s₁.setTop (mkF m 6 #[.val (.int va), .val (.int vb)] [(.int va)])) _
      refine XS.goto X0.here hx rfl (pc0 := 6) (pc' := 10) rfl (hb hby d_jdk_29_method_69_code_6) (by decide) (by decide) ?_
      show Steps p.tables e below (s₁.setTop (mkF m 10 #[.val (.int va), .val (.int vb)] [(.int va)])) _
      exact retI X0 hx Bd.returns (hb hby d_jdk_29_method_69_code_10) hr
    · show Q_mini Z va vb h0 n0 _ s₁.heap _
      rw [e0]
      exact ⟨⟨_, rfl, by simp [h2_3]⟩, N0, rfl⟩
theorem own_mm (va lo : Int64) (h : lo = if (9223372036854775806 : Int64) < va then (9223372036854775806 : Int64) else va) : lo < lo + (1 : Int64) := by
  have e : (9223372036854775806 : Int64).toInt = 9223372036854775806 := by decide
  have e1 : (1 : Int64).toInt = 1 := by decide
  have b : lo.toInt ≤ 9223372036854775806 := by
    rw [h]; split
    · omega
    · rename_i q; rw [Int64.lt_iff_toInt_lt] at q; omega
  have q := c_ladd lo 1
  have r := rng64 lo
  have r2 := rng64 (lo + 1)
  rw [Int64.lt_iff_toInt_lt]; omega
theorem own_lh (va vb lo hi : Int64) (h1 : lo = if vb < va then vb else va) (h2 : hi = if va < vb then vb else va) (n : ¬ lo = hi) : lo < hi := by
  have n' : lo.toInt ≠ hi.toInt := fun z => n (Int64.toInt_inj.mp z)
  rw [h1, h2] at n' ⊢
  by_cases b : vb < va <;> by_cases d : va < vb <;> simp only [b, d, if_true, if_false] at n' ⊢ <;> rw [Int64.lt_iff_toInt_lt] at * <;> omega
theorem own_three (v : Int32) : ((v &&& (2147483647 : Int32)) % (3 : Int32)) = 0 ∨ ((v &&& (2147483647 : Int32)) % (3 : Int32)) = 1 ∨ ((v &&& (2147483647 : Int32)) % (3 : Int32)) = 2 := by
  have a1 := c_mask v 2147483647 31 (by decide) (by decide)
  simp only [Nat.reducePow] at a1
  have a2 := (c_irem (v &&& (2147483647 : Int32)) 3 3 (by decide)).1
  have e0 : (0 : Int32).toInt = 0 := by decide
  have e1 : (1 : Int32).toInt = 1 := by decide
  have e2 : (2 : Int32).toInt = 2 := by decide
  simp only [← Int32.toInt_inj, e0, e1, e2]; omega
theorem pn_0 : plainName "com/example/chronotriple/chronotriple/Box" = true := by first | (simp [plainName, overriddenIn]; done) | decide +kernel
theorem d_prog_2_method_1_code_0 : decode prog_2_method_1_code 0 = .ok (.aload_n 0, 1) := by decide +kernel
theorem d_prog_2_method_1_code_1 : decode prog_2_method_1_code 1 = .ok (.invokespecial 1, 3) := by decide +kernel
theorem d_prog_2_method_1_code_4 : decode prog_2_method_1_code 4 = .ok (.aload_n 1, 1) := by decide +kernel
theorem d_prog_2_method_1_code_5 : decode prog_2_method_1_code 5 = .ok (.arraylength, 1) := by decide +kernel
theorem d_prog_2_method_1_code_6 : decode prog_2_method_1_code 6 = .ok (.iconst 2, 1) := by decide +kernel
theorem d_prog_2_method_1_code_7 : decode prog_2_method_1_code 7 = .ok (.irem, 1) := by decide +kernel
theorem d_prog_2_method_1_code_8 : decode prog_2_method_1_code 8 = .ok (.ifCond .eq 13, 3) := by decide +kernel
theorem d_prog_2_method_1_code_21 : decode prog_2_method_1_code 21 = .ok (.iconst 0, 1) := by decide +kernel
theorem d_prog_2_method_1_code_22 : decode prog_2_method_1_code 22 = .ok (.istore_n 2, 1) := by decide +kernel
theorem d_prog_2_method_1_code_23 : decode prog_2_method_1_code 23 = .ok (.iload_n 2, 1) := by decide +kernel
theorem d_prog_2_method_1_code_24 : decode prog_2_method_1_code 24 = .ok (.aload_n 1, 1) := by decide +kernel
theorem d_prog_2_method_1_code_25 : decode prog_2_method_1_code 25 = .ok (.arraylength, 1) := by decide +kernel
theorem d_prog_2_method_1_code_26 : decode prog_2_method_1_code 26 = .ok (.if_icmp .ge 31, 3) := by decide +kernel
theorem d_prog_2_method_1_code_57 : decode prog_2_method_1_code 57 = .ok (.aload_n 0, 1) := by decide +kernel
theorem d_prog_2_method_1_code_58 : decode prog_2_method_1_code 58 = .ok (.aload_n 1, 1) := by decide +kernel
theorem d_prog_2_method_1_code_59 : decode prog_2_method_1_code 59 = .ok (.invokevirtual 16, 3) := by decide +kernel
theorem d_prog_2_method_1_code_62 : decode prog_2_method_1_code 62 = .ok (.checkcast 17, 3) := by decide +kernel
theorem d_prog_2_method_1_code_65 : decode prog_2_method_1_code 65 = .ok (.putfield 22, 3) := by decide +kernel
theorem d_prog_2_method_1_code_68 : decode prog_2_method_1_code 68 = .ok (.return_, 1) := by decide +kernel
theorem ef_ini0 (m : MethodId) (ra : Addr) (rb : Addr) : entryFrame m #[(.ref ra), (.ref rb)] 3 = mkF m 0 #[.val (.ref ra), .val (.ref rb), .unset] [] := by first | (simp [entryFrame, mkF, argsToLocals, Value.category]; done) | rfl
def Q_ini0 (Z : State) (ra : Addr) (rb : Addr) (kb : ClassId) (h0 : Heap) (n0 : Nat) (v : Option Value) (h : Heap) (L : List Loc) : Prop := v = none ∧ Fr n0 L ∧ Keep h0 h [ra] ∧ (∃ (b : Addr) (k : ClassId), n0 ≤ b ∧ h0.size ≤ b ∧ Fld Z h ra "com/example/chronotriple/chronotriple/Box" "bounds" "[J" (.ref b) ∧ Arv Z h b k .long (0 : Int32) [] (.long (0 : Int64)) ∧ Exa Z h b "[J")
set_option maxRecDepth 65536 in
set_option maxHeartbeats 40000000 in
theorem rm_ini0 (l : Launch) (Z : State) (a0 : Array Value) (hw : ∀ d ∈ tables_1, d.before a0 Z = true) (ws : List Jvm.Cond) (ra : Addr) (rb : Addr) (kb : ClassId) (h0 : Heap) (n0 : Nat) (Z0 : n0 ≤ h0.size) (E_ra : Exa Z h0 ra "com/example/chronotriple/chronotriple/Box") (F_b : Fld Z h0 ra "com/example/chronotriple/chronotriple/Box" "bounds" "[J" .null) (Av : Arv Z h0 rb kb .long (0 : Int32) [] (.long (0 : Int64))) (Eb : Exa Z h0 rb "[J") (g_ra : n0 ≤ ra) (ne_ba : rb ≠ ra) :
    MetFree l (⟨"com/example/chronotriple/chronotriple/Box", "<init>", "([J)V"⟩ : MethodName) (head1 (Jvm.Cond.code (⟨"com/example/chronotriple/chronotriple/Box", "<init>", "([J)V"⟩ : MethodName) prog_2_method_1_code 3 none :: ws) ({ frames := 1, cells := 1, slots := 0, locals := 15 } : Room)) (fun a U => a = #[(.ref ra), (.ref rb)] ∧ Z.Warmed39 U.vm ∧ U.heap = h0) (fun _ _ _ _ _ => True) (fun _ U o U' => ∃ v L, o = .returned v ∧ Q_ini0 Z ra rb kb h0 n0 v U'.heap L ∧ FrameEnd U o U' L ({ frames := 1, cells := 1, slots := 0, locals := 15 } : Room).cells ({ frames := 1, cells := 1, slots := 0, locals := 15 } : Room).slots) := by
  refine MetFree.of_bodySF (plainFor_of_name pn_0) hisR ?_
  intro p e s m args below meth c s₁ Bd hml0 hP hK
  obtain ⟨rfl, hZ, hh⟩ := hP
  have hx := Bd.exec
  have hby := Bd.bytes
  have hml : c.maxLocals = 3 := hml0
  have hown : s.vm.findClass "com/example/chronotriple/chronotriple/Box" = some m.cls := findClass_of_methodNamed Bd.named
  have hnm := (name_of_methodNamed Bd.named Bd.method).1
  have X0 : Stand p l e ({ frames := 1, cells := 1, slots := 0, locals := 15 } : Room) s m #[(.ref ra), (.ref rb)] below meth c s₁ [] 0 0 := Stand.of_body Bd
  have e0 : s₁.heap = h0 := by rw [← hh, Bd.state]; rfl
  have N0 := Fr.nil n0
  have pre0 : ∀ t, Steps p.tables e below (s₁.setTop (mkF m 0 #[.val (.ref ra), .val (.ref rb), .unset] [])) t → Steps p.tables e below (s₁.setTop (entryFrame m #[(.ref ra), (.ref rb)] 3)) t := fun t k => castTop (ef_ini0 m ra rb) k
  have kp0 : Keep h0 h0 [ra] := Keep.refl h0 _
  obtain ⟨T4, X4, e4, st4⟩ := initO X0 hx hZ hown (hw _ (List.mem_of_getElem? (i := 16) rfl)) (hw _ (List.mem_of_getElem? (i := 17) rfl)) (hw _ (List.mem_of_getElem? (i := 18) rfl)) e0 (g := (mkF m 1 #[.val (.ref ra), .val (.ref rb), .unset] [(.ref ra)])) rfl (by rw [hml]; rfl) rfl (hb hby d_prog_2_method_1_code_1) (by decide) (W := 0) (by show 2 * 0 + _ ≤ _; exact Nat.le_of_eq rfl) (by decide)
  obtain ⟨cl5, Ar5, -, S5, N5a, -, -⟩ := id Av
  obtain ⟨cl6, Ar6, -, S6, N6a, -, -⟩ := id Av
  obtain ⟨T7, h7, X7, e7, E7, A7, B7, st7⟩ := cloneH X4 hx hZ hown (hw _ (List.mem_of_getElem? (i := 19) rfl)) (hw _ (List.mem_of_getElem? (i := 20) rfl)) (hw _ (List.mem_of_getElem? (i := 24) rfl)) (hw _ (List.mem_of_getElem? (i := 22) rfl)) (hw _ (List.mem_of_getElem? (i := 23) rfl)) (hw _ (List.mem_of_getElem? (i := 25) rfl)) e4 (hs := []) Av Eb (g := (mkF m 59 #[.val (.ref ra), .val (.ref rb), .val (.int (0 : Int32))] [(.ref rb), (.ref ra)])) rfl (by rw [hml]; rfl) rfl (hb hby d_prog_2_method_1_code_59) (by decide) (W := 1) (by show 2 * 0 + _ ≤ _; exact Nat.le_of_eq rfl) (by decide) (cap := 0) (by decide) (by decide) (by decide)
  obtain ⟨b7, g7⟩ : ∃ z, z = h0.size := ⟨_, rfl⟩
  rw [← g7] at A7 B7 st7
  have ne_ra_b7 : ra ≠ b7 := Nat.ne_of_lt (Nat.lt_of_lt_of_le E_ra.lt (Nat.le_of_eq g7.symm))
  have ne_rb_b7 : rb ≠ b7 := Nat.ne_of_lt (Nat.lt_of_lt_of_le Av.lt (Nat.le_of_eq g7.symm))
  have g_b7 : n0 ≤ b7 := Nat.le_trans Z0 (Nat.le_of_eq g7.symm)
  have sz_b7 : h0.size ≤ b7 := Nat.le_trans kp0.1 (Nat.le_of_eq g7.symm)
  have E_ra_c7 := E_ra.ext E7
  have F_b_c7 := F_b.ext E7
  have Av_c7 := Av.ext E7
  have Eb_c7 := Eb.ext E7
  have Z7 : n0 ≤ h7.size := Nat.le_trans Z0 E7.1
  have kp7 := kp0.ext E7
  have Av_b7_7 : Arv Z h7 b7 kb .long (0 : Int32) [] (.long (0 : Int64)) := A7
  have Ex_b7_7 := B7
  obtain ⟨T8, X8, e8, st8⟩ := castY X7 hx hZ hown (hw _ (List.mem_of_getElem? (i := 26) rfl)) e7 (Ins.self Ex_b7_7) (g := (mkF m 62 #[.val (.ref ra), .val (.ref rb), .val (.int (0 : Int32))] [(.ref b7), (.ref ra)])) rfl rfl (hb hby d_prog_2_method_1_code_62)
  obtain ⟨T9, h9, X9, e9, W9, st9⟩ := putF X8 hx hZ hown (host := "") (Or.inl (hw _ (List.mem_of_getElem? (i := 28) rfl))) Via.refl e8 F_b_c7 E_ra_c7 (Or.inr ⟨(hw _ (List.mem_of_getElem? (i := 29) rfl)), rfl, hnm⟩) (hw _ (List.mem_of_getElem? (i := 11) rfl)) (ty := (.array .long)) (by decide) rfl rfl (g := (mkF m 65 #[.val (.ref ra), .val (.ref rb), .val (.int (0 : Int32))] [(.ref b7), (.ref ra)])) rfl rfl (hb hby d_prog_2_method_1_code_65)
  have E_ra_c9 := E_ra_c7.wr W9
  have Av_c9 := Av_c7.other W9 ne_ba
  have Eb_c9 := Eb_c7.wr W9
  have Av_b7_7_c9 := Av_b7_7.other W9 (Ne.symm ne_ra_b7)
  have Ex_b7_7_c9 := Ex_b7_7.wr W9
  have Fd_bounds_ra_9 := F_b_c7.same W9
  have Z9 : n0 ≤ h9.size := Nat.le_trans Z7 (Keep.of_wr W9).1
  have kp9 := kp7.wr W9 (Or.inl (List.mem_of_getElem? (i := 0) rfl))
  have N9 := Fr.snoc X9 N0 g_ra
  obtain ⟨fs, hr, hrun, hended, hW, hsame⟩ := X9.leave (v := none) (fun _ => rfl)
  refine ⟨_, _, pre0 _ ?_, hrun, hended, _, _, rfl, ?_, ⟨_, rfl⟩, hW, hsame.mono (by decide) (by decide)⟩
  · show Steps p.tables e below (s₁.setTop (mkF m 0 #[.val (.ref ra), .val (.ref rb), .unset] [])) _
    refine XS.aloadN X0.here hx rfl (hb hby d_prog_2_method_1_code_0) rfl rfl ?_
    show Steps p.tables e below (s₁.setTop (mkF m 1 #[.val (.ref ra), .val (.ref rb), .unset] [(.ref ra)])) _
    refine st4 _ ?_
    show Steps p.tables e below (T4.setTop (mkF m 4 #[.val (.ref ra), .val (.ref rb), .unset] [])) _
    refine XS.aloadN X4.here hx rfl (hb hby d_prog_2_method_1_code_4) rfl rfl ?_
    show Steps p.tables e below (T4.setTop (mkF m 5 #[.val (.ref ra), .val (.ref rb), .unset] [(.ref rb)])) _
    refine X4.arraylength hx (by rw [e4]; exact Ar5.1) (State.isArrayOf_alike hZ.alike Ar5.2.1) (g := (mkF m 5 #[.val (.ref ra), .val (.ref rb), .unset] [(.ref rb)])) rfl rfl (hb hby d_prog_2_method_1_code_5) _ ?_
    rw [len_of S5 N5a]
    show Steps p.tables e below (T4.setTop (mkF m 6 #[.val (.ref ra), .val (.ref rb), .unset] [(.int (0 : Int32))])) _
    refine XS.iconst X4.here hx rfl (hb hby d_prog_2_method_1_code_6) ?_
    show Steps p.tables e below (T4.setTop (mkF m 7 #[.val (.ref ra), .val (.ref rb), .unset] [(.int (2 : Int32)), (.int (0 : Int32))])) _
    refine iremM X4 hx rfl (hb hby d_prog_2_method_1_code_7) rfl (by decide) ?_
    show Steps p.tables e below (T4.setTop (mkF m 8 #[.val (.ref ra), .val (.ref rb), .unset] [(.int (0 : Int32))])) _
    refine XS.ifYes X4.here hx rfl (pc0 := 8) (pc' := 21) rfl (hb hby d_prog_2_method_1_code_8) rfl ((if0 _ _).trans (teq (by decide : (0 : Int32) = (0 : Int32))).1) (by decide) (by decide) ?_
    show Steps p.tables e below (T4.setTop (mkF m 21 #[.val (.ref ra), .val (.ref rb), .unset] [])) _
    refine XS.iconst X4.here hx rfl (hb hby d_prog_2_method_1_code_21) ?_
    show Steps p.tables e below (T4.setTop (mkF m 22 #[.val (.ref ra), .val (.ref rb), .unset] [(.int (0 : Int32))])) _
    refine XS.istoreN X4.here hx rfl (hb hby d_prog_2_method_1_code_22) rfl (l' := #[.val (.ref ra), .val (.ref rb), .val (.int (0 : Int32))]) rfl ?_
    show Steps p.tables e below (T4.setTop (mkF m 23 #[.val (.ref ra), .val (.ref rb), .val (.int (0 : Int32))] [])) _
    refine XS.iloadN X4.here hx rfl (hb hby d_prog_2_method_1_code_23) rfl ?_
    show Steps p.tables e below (T4.setTop (mkF m 24 #[.val (.ref ra), .val (.ref rb), .val (.int (0 : Int32))] [(.int (0 : Int32))])) _
    refine XS.aloadN X4.here hx rfl (hb hby d_prog_2_method_1_code_24) rfl rfl ?_
    show Steps p.tables e below (T4.setTop (mkF m 25 #[.val (.ref ra), .val (.ref rb), .val (.int (0 : Int32))] [(.ref rb), (.int (0 : Int32))])) _
    refine X4.arraylength hx (by rw [e4]; exact Ar6.1) (State.isArrayOf_alike hZ.alike Ar6.2.1) (g := (mkF m 25 #[.val (.ref ra), .val (.ref rb), .val (.int (0 : Int32))] [(.ref rb), (.int (0 : Int32))])) rfl rfl (hb hby d_prog_2_method_1_code_25) _ ?_
    rw [len_of S6 N6a]
    show Steps p.tables e below (T4.setTop (mkF m 26 #[.val (.ref ra), .val (.ref rb), .val (.int (0 : Int32))] [(.int (0 : Int32)), (.int (0 : Int32))])) _
    refine XS.icmpYes X4.here hx rfl (pc0 := 26) (pc' := 57) rfl (hb hby d_prog_2_method_1_code_26) rfl (flt (by decide : ¬ ((0 : Int32) < (0 : Int32)))).2.1 (by decide) (by decide) ?_
    show Steps p.tables e below (T4.setTop (mkF m 57 #[.val (.ref ra), .val (.ref rb), .val (.int (0 : Int32))] [])) _
    refine XS.aloadN X4.here hx rfl (hb hby d_prog_2_method_1_code_57) rfl rfl ?_
    show Steps p.tables e below (T4.setTop (mkF m 58 #[.val (.ref ra), .val (.ref rb), .val (.int (0 : Int32))] [(.ref ra)])) _
    refine XS.aloadN X4.here hx rfl (hb hby d_prog_2_method_1_code_58) rfl rfl ?_
    show Steps p.tables e below (T4.setTop (mkF m 59 #[.val (.ref ra), .val (.ref rb), .val (.int (0 : Int32))] [(.ref rb), (.ref ra)])) _
    refine st7 _ ?_
    show Steps p.tables e below (T7.setTop (mkF m 62 #[.val (.ref ra), .val (.ref rb), .val (.int (0 : Int32))] [(.ref b7), (.ref ra)])) _
    refine st8 _ ?_
    show Steps p.tables e below (T8.setTop (mkF m 65 #[.val (.ref ra), .val (.ref rb), .val (.int (0 : Int32))] [(.ref b7), (.ref ra)])) _
    refine st9 _ ?_
    show Steps p.tables e below (T9.setTop (mkF m 68 #[.val (.ref ra), .val (.ref rb), .val (.int (0 : Int32))] [])) _
    exact X9.returnOut hx Bd.returns (hb hby d_prog_2_method_1_code_68) hr
  · show Q_ini0 Z ra rb kb h0 n0 _ T9.heap _
    rw [e9]
    exact ⟨rfl, N9, kp9, b7, kb, g_b7, sz_b7, Fd_bounds_ra_9, Av_b7_7_c9, Ex_b7_7_c9⟩
theorem d_prog_2_method_1_code_29 : decode prog_2_method_1_code 29 = .ok (.aload_n 1, 1) := by decide +kernel
theorem d_prog_2_method_1_code_30 : decode prog_2_method_1_code 30 = .ok (.iload_n 2, 1) := by decide +kernel
theorem d_prog_2_method_1_code_31 : decode prog_2_method_1_code 31 = .ok (.laload, 1) := by decide +kernel
theorem d_prog_2_method_1_code_32 : decode prog_2_method_1_code 32 = .ok (.aload_n 1, 1) := by decide +kernel
theorem d_prog_2_method_1_code_33 : decode prog_2_method_1_code 33 = .ok (.iload_n 2, 1) := by decide +kernel
theorem d_prog_2_method_1_code_34 : decode prog_2_method_1_code 34 = .ok (.iconst 1, 1) := by decide +kernel
theorem d_prog_2_method_1_code_35 : decode prog_2_method_1_code 35 = .ok (.iadd, 1) := by decide +kernel
theorem d_prog_2_method_1_code_36 : decode prog_2_method_1_code 36 = .ok (.laload, 1) := by decide +kernel
theorem d_prog_2_method_1_code_37 : decode prog_2_method_1_code 37 = .ok (.lcmp, 1) := by decide +kernel
theorem d_prog_2_method_1_code_38 : decode prog_2_method_1_code 38 = .ok (.ifCond .lt 13, 3) := by decide +kernel
theorem d_prog_2_method_1_code_51 : decode prog_2_method_1_code 51 = .ok (.iinc 2 2, 3) := by decide +kernel
theorem d_prog_2_method_1_code_54 : decode prog_2_method_1_code 54 = .ok (.goto (-31), 3) := by decide +kernel
theorem ef_ini2 (m : MethodId) (ra : Addr) (rb : Addr) : entryFrame m #[(.ref ra), (.ref rb)] 3 = mkF m 0 #[.val (.ref ra), .val (.ref rb), .unset] [] := by first | (simp [entryFrame, mkF, argsToLocals, Value.category]; done) | rfl
def Q_ini2 (Z : State) (ra : Addr) (rb : Addr) (kb : ClassId) (v0 : Int64) (v1 : Int64) (h0 : Heap) (n0 : Nat) (v : Option Value) (h : Heap) (L : List Loc) : Prop := v = none ∧ Fr n0 L ∧ Keep h0 h [ra] ∧ (∃ (b : Addr) (k : ClassId), n0 ≤ b ∧ h0.size ≤ b ∧ Fld Z h ra "com/example/chronotriple/chronotriple/Box" "bounds" "[J" (.ref b) ∧ Arv Z h b k .long (2 : Int32) [(.long v0), (.long v1)] (.long (0 : Int64)) ∧ Exa Z h b "[J")
set_option maxRecDepth 65536 in
set_option maxHeartbeats 40000000 in
theorem rm_ini2 (l : Launch) (Z : State) (a0 : Array Value) (hw : ∀ d ∈ tables_1, d.before a0 Z = true) (ws : List Jvm.Cond) (ra : Addr) (rb : Addr) (kb : ClassId) (v0 : Int64) (v1 : Int64) (h0 : Heap) (n0 : Nat) (Z0 : n0 ≤ h0.size) (E_ra : Exa Z h0 ra "com/example/chronotriple/chronotriple/Box") (F_b : Fld Z h0 ra "com/example/chronotriple/chronotriple/Box" "bounds" "[J" .null) (Av : Arv Z h0 rb kb .long (2 : Int32) [(.long v0), (.long v1)] (.long (0 : Int64))) (Eb : Exa Z h0 rb "[J") (g_ra : n0 ≤ ra) (ne_ba : rb ≠ ra) (o0 : v0 < v1) :
    MetFree l (⟨"com/example/chronotriple/chronotriple/Box", "<init>", "([J)V"⟩ : MethodName) (head1 (Jvm.Cond.code (⟨"com/example/chronotriple/chronotriple/Box", "<init>", "([J)V"⟩ : MethodName) prog_2_method_1_code 3 none :: ws) ({ frames := 1, cells := 1, slots := 2, locals := 15 } : Room)) (fun a U => a = #[(.ref ra), (.ref rb)] ∧ Z.Warmed39 U.vm ∧ U.heap = h0) (fun _ _ _ _ _ => True) (fun _ U o U' => ∃ v L, o = .returned v ∧ Q_ini2 Z ra rb kb v0 v1 h0 n0 v U'.heap L ∧ FrameEnd U o U' L ({ frames := 1, cells := 1, slots := 2, locals := 15 } : Room).cells ({ frames := 1, cells := 1, slots := 2, locals := 15 } : Room).slots) := by
  refine MetFree.of_bodySF (plainFor_of_name pn_0) hisR ?_
  intro p e s m args below meth c s₁ Bd hml0 hP hK
  obtain ⟨rfl, hZ, hh⟩ := hP
  have hx := Bd.exec
  have hby := Bd.bytes
  have hml : c.maxLocals = 3 := hml0
  have hown : s.vm.findClass "com/example/chronotriple/chronotriple/Box" = some m.cls := findClass_of_methodNamed Bd.named
  have hnm := (name_of_methodNamed Bd.named Bd.method).1
  have X0 : Stand p l e ({ frames := 1, cells := 1, slots := 2, locals := 15 } : Room) s m #[(.ref ra), (.ref rb)] below meth c s₁ [] 0 0 := Stand.of_body Bd
  have e0 : s₁.heap = h0 := by rw [← hh, Bd.state]; rfl
  have N0 := Fr.nil n0
  have pre0 : ∀ t, Steps p.tables e below (s₁.setTop (mkF m 0 #[.val (.ref ra), .val (.ref rb), .unset] [])) t → Steps p.tables e below (s₁.setTop (entryFrame m #[(.ref ra), (.ref rb)] 3)) t := fun t k => castTop (ef_ini2 m ra rb) k
  have kp0 : Keep h0 h0 [ra] := Keep.refl h0 _
  obtain ⟨T10, X10, e10, st10⟩ := initO X0 hx hZ hown (hw _ (List.mem_of_getElem? (i := 16) rfl)) (hw _ (List.mem_of_getElem? (i := 17) rfl)) (hw _ (List.mem_of_getElem? (i := 18) rfl)) e0 (g := (mkF m 1 #[.val (.ref ra), .val (.ref rb), .unset] [(.ref ra)])) rfl (by rw [hml]; rfl) rfl (hb hby d_prog_2_method_1_code_1) (by decide) (W := 0) (by show 2 * 0 + _ ≤ _; exact Nat.le_of_eq rfl) (by decide)
  obtain ⟨cl11, Ar11, -, S11, N11a, -, -⟩ := id Av
  obtain ⟨cl12, Ar12, -, S12, N12a, -, -⟩ := id Av
  obtain ⟨cl13, Ar13, q13, S13, N13a, H13, G13⟩ := id Av
  have hin13 : ¬ ((0 : Int32) < 0 ∨ cl13.slots.size ≤ ((0 : Int32)).toNatClampNeg) := inb_of S13 ⟨by decide, by decide⟩
  have hat13 : cl13.slots[((0 : Int32)).toNatClampNeg]? = some (.long v0) := H13.at hin13 rfl
  obtain ⟨cl14, Ar14, q14, S14, N14a, H14, G14⟩ := id Av
  have hin14 : ¬ ((1 : Int32) < 0 ∨ cl14.slots.size ≤ ((1 : Int32)).toNatClampNeg) := inb_of S14 ⟨by decide, by decide⟩
  have hat14 : cl14.slots[((1 : Int32)).toNatClampNeg]? = some (.long v1) := H14.at hin14 rfl
  obtain ⟨cl15, Ar15, -, S15, N15a, -, -⟩ := id Av
  obtain ⟨T16, h16, X16, e16, E16, A16, B16, st16⟩ := cloneH X10 hx hZ hown (hw _ (List.mem_of_getElem? (i := 19) rfl)) (hw _ (List.mem_of_getElem? (i := 20) rfl)) (hw _ (List.mem_of_getElem? (i := 24) rfl)) (hw _ (List.mem_of_getElem? (i := 22) rfl)) (hw _ (List.mem_of_getElem? (i := 23) rfl)) (hw _ (List.mem_of_getElem? (i := 25) rfl)) e10 (hs := []) Av Eb (g := (mkF m 59 #[.val (.ref ra), .val (.ref rb), .val (.int (2 : Int32))] [(.ref rb), (.ref ra)])) rfl (by rw [hml]; rfl) rfl (hb hby d_prog_2_method_1_code_59) (by decide) (W := 1) (by show 2 * 0 + _ ≤ _; exact Nat.le_of_eq rfl) (by decide) (cap := 2) (by decide) (by decide) (by decide)
  obtain ⟨b16, g16⟩ : ∃ z, z = h0.size := ⟨_, rfl⟩
  rw [← g16] at A16 B16 st16
  have ne_ra_b16 : ra ≠ b16 := Nat.ne_of_lt (Nat.lt_of_lt_of_le E_ra.lt (Nat.le_of_eq g16.symm))
  have ne_rb_b16 : rb ≠ b16 := Nat.ne_of_lt (Nat.lt_of_lt_of_le Av.lt (Nat.le_of_eq g16.symm))
  have g_b16 : n0 ≤ b16 := Nat.le_trans Z0 (Nat.le_of_eq g16.symm)
  have sz_b16 : h0.size ≤ b16 := Nat.le_trans kp0.1 (Nat.le_of_eq g16.symm)
  have E_ra_c16 := E_ra.ext E16
  have F_b_c16 := F_b.ext E16
  have Av_c16 := Av.ext E16
  have Eb_c16 := Eb.ext E16
  have Z16 : n0 ≤ h16.size := Nat.le_trans Z0 E16.1
  have kp16 := kp0.ext E16
  have Av_b16_16 : Arv Z h16 b16 kb .long (2 : Int32) [(.long v0), (.long v1)] (.long (0 : Int64)) := A16
  have Ex_b16_16 := B16
  obtain ⟨T17, X17, e17, st17⟩ := castY X16 hx hZ hown (hw _ (List.mem_of_getElem? (i := 26) rfl)) e16 (Ins.self Ex_b16_16) (g := (mkF m 62 #[.val (.ref ra), .val (.ref rb), .val (.int (2 : Int32))] [(.ref b16), (.ref ra)])) rfl rfl (hb hby d_prog_2_method_1_code_62)
  obtain ⟨T18, h18, X18, e18, W18, st18⟩ := putF X17 hx hZ hown (host := "") (Or.inl (hw _ (List.mem_of_getElem? (i := 28) rfl))) Via.refl e17 F_b_c16 E_ra_c16 (Or.inr ⟨(hw _ (List.mem_of_getElem? (i := 29) rfl)), rfl, hnm⟩) (hw _ (List.mem_of_getElem? (i := 11) rfl)) (ty := (.array .long)) (by decide) rfl rfl (g := (mkF m 65 #[.val (.ref ra), .val (.ref rb), .val (.int (2 : Int32))] [(.ref b16), (.ref ra)])) rfl rfl (hb hby d_prog_2_method_1_code_65)
  have E_ra_c18 := E_ra_c16.wr W18
  have Av_c18 := Av_c16.other W18 ne_ba
  have Eb_c18 := Eb_c16.wr W18
  have Av_b16_16_c18 := Av_b16_16.other W18 (Ne.symm ne_ra_b16)
  have Ex_b16_16_c18 := Ex_b16_16.wr W18
  have Fd_bounds_ra_18 := F_b_c16.same W18
  have Z18 : n0 ≤ h18.size := Nat.le_trans Z16 (Keep.of_wr W18).1
  have kp18 := kp16.wr W18 (Or.inl (List.mem_of_getElem? (i := 0) rfl))
  have N18 := Fr.snoc X18 N0 g_ra
  obtain ⟨fs, hr, hrun, hended, hW, hsame⟩ := X18.leave (v := none) (fun _ => rfl)
  refine ⟨_, _, pre0 _ ?_, hrun, hended, _, _, rfl, ?_, ⟨_, rfl⟩, hW, hsame.mono (by decide) (by decide)⟩
  · show Steps p.tables e below (s₁.setTop (mkF m 0 #[.val (.ref ra), .val (.ref rb), .unset] [])) _
    refine XS.aloadN X0.here hx rfl (hb hby d_prog_2_method_1_code_0) rfl rfl ?_
    show Steps p.tables e below (s₁.setTop (mkF m 1 #[.val (.ref ra), .val (.ref rb), .unset] [(.ref ra)])) _
    refine st10 _ ?_
    show Steps p.tables e below (T10.setTop (mkF m 4 #[.val (.ref ra), .val (.ref rb), .unset] [])) _
    refine XS.aloadN X10.here hx rfl (hb hby d_prog_2_method_1_code_4) rfl rfl ?_
    show Steps p.tables e below (T10.setTop (mkF m 5 #[.val (.ref ra), .val (.ref rb), .unset] [(.ref rb)])) _
    refine X10.arraylength hx (by rw [e10]; exact Ar11.1) (State.isArrayOf_alike hZ.alike Ar11.2.1) (g := (mkF m 5 #[.val (.ref ra), .val (.ref rb), .unset] [(.ref rb)])) rfl rfl (hb hby d_prog_2_method_1_code_5) _ ?_
    rw [len_of S11 N11a]
    show Steps p.tables e below (T10.setTop (mkF m 6 #[.val (.ref ra), .val (.ref rb), .unset] [(.int (2 : Int32))])) _
    refine XS.iconst X10.here hx rfl (hb hby d_prog_2_method_1_code_6) ?_
    show Steps p.tables e below (T10.setTop (mkF m 7 #[.val (.ref ra), .val (.ref rb), .unset] [(.int (2 : Int32)), (.int (2 : Int32))])) _
    refine iremM X10 hx rfl (hb hby d_prog_2_method_1_code_7) rfl (by decide) ?_
    show Steps p.tables e below (T10.setTop (mkF m 8 #[.val (.ref ra), .val (.ref rb), .unset] [(.int (0 : Int32))])) _
    refine XS.ifYes X10.here hx rfl (pc0 := 8) (pc' := 21) rfl (hb hby d_prog_2_method_1_code_8) rfl ((if0 _ _).trans (teq (by decide : (0 : Int32) = (0 : Int32))).1) (by decide) (by decide) ?_
    show Steps p.tables e below (T10.setTop (mkF m 21 #[.val (.ref ra), .val (.ref rb), .unset] [])) _
    refine XS.iconst X10.here hx rfl (hb hby d_prog_2_method_1_code_21) ?_
    show Steps p.tables e below (T10.setTop (mkF m 22 #[.val (.ref ra), .val (.ref rb), .unset] [(.int (0 : Int32))])) _
    refine XS.istoreN X10.here hx rfl (hb hby d_prog_2_method_1_code_22) rfl (l' := #[.val (.ref ra), .val (.ref rb), .val (.int (0 : Int32))]) rfl ?_
    show Steps p.tables e below (T10.setTop (mkF m 23 #[.val (.ref ra), .val (.ref rb), .val (.int (0 : Int32))] [])) _
    refine XS.iloadN X10.here hx rfl (hb hby d_prog_2_method_1_code_23) rfl ?_
    show Steps p.tables e below (T10.setTop (mkF m 24 #[.val (.ref ra), .val (.ref rb), .val (.int (0 : Int32))] [(.int (0 : Int32))])) _
    refine XS.aloadN X10.here hx rfl (hb hby d_prog_2_method_1_code_24) rfl rfl ?_
    show Steps p.tables e below (T10.setTop (mkF m 25 #[.val (.ref ra), .val (.ref rb), .val (.int (0 : Int32))] [(.ref rb), (.int (0 : Int32))])) _
    refine X10.arraylength hx (by rw [e10]; exact Ar12.1) (State.isArrayOf_alike hZ.alike Ar12.2.1) (g := (mkF m 25 #[.val (.ref ra), .val (.ref rb), .val (.int (0 : Int32))] [(.ref rb), (.int (0 : Int32))])) rfl rfl (hb hby d_prog_2_method_1_code_25) _ ?_
    rw [len_of S12 N12a]
    show Steps p.tables e below (T10.setTop (mkF m 26 #[.val (.ref ra), .val (.ref rb), .val (.int (0 : Int32))] [(.int (2 : Int32)), (.int (0 : Int32))])) _
    refine XS.icmpNo X10.here hx rfl (hb hby d_prog_2_method_1_code_26) rfl (tlt (by decide : (0 : Int32) < (2 : Int32))).2.1 ?_
    show Steps p.tables e below (T10.setTop (mkF m 29 #[.val (.ref ra), .val (.ref rb), .val (.int (0 : Int32))] [])) _
    refine XS.aloadN X10.here hx rfl (hb hby d_prog_2_method_1_code_29) rfl rfl ?_
    show Steps p.tables e below (T10.setTop (mkF m 30 #[.val (.ref ra), .val (.ref rb), .val (.int (0 : Int32))] [(.ref rb)])) _
    refine XS.iloadN X10.here hx rfl (hb hby d_prog_2_method_1_code_30) rfl ?_
    show Steps p.tables e below (T10.setTop (mkF m 31 #[.val (.ref ra), .val (.ref rb), .val (.int (0 : Int32))] [(.int (0 : Int32)), (.ref rb)])) _
    refine X10.laload hx (j := (0 : Int32)) (v := (.long v0)) (by rw [e10]; exact Ar13.1) (State.isArrayOf_alike hZ.alike Ar13.2.1) Ar13.2.2 hin13 hat13 (g := (mkF m 31 #[.val (.ref ra), .val (.ref rb), .val (.int (0 : Int32))] [(.int (0 : Int32)), (.ref rb)])) rfl rfl (hb hby d_prog_2_method_1_code_31) _ ?_
    show Steps p.tables e below (T10.setTop (mkF m 32 #[.val (.ref ra), .val (.ref rb), .val (.int (0 : Int32))] [(.long v0)])) _
    refine XS.aloadN X10.here hx rfl (hb hby d_prog_2_method_1_code_32) rfl rfl ?_
    show Steps p.tables e below (T10.setTop (mkF m 33 #[.val (.ref ra), .val (.ref rb), .val (.int (0 : Int32))] [(.ref rb), (.long v0)])) _
    refine XS.iloadN X10.here hx rfl (hb hby d_prog_2_method_1_code_33) rfl ?_
    show Steps p.tables e below (T10.setTop (mkF m 34 #[.val (.ref ra), .val (.ref rb), .val (.int (0 : Int32))] [(.int (0 : Int32)), (.ref rb), (.long v0)])) _
    refine XS.iconst X10.here hx rfl (hb hby d_prog_2_method_1_code_34) ?_
    show Steps p.tables e below (T10.setTop (mkF m 35 #[.val (.ref ra), .val (.ref rb), .val (.int (0 : Int32))] [(.int (1 : Int32)), (.int (0 : Int32)), (.ref rb), (.long v0)])) _
    refine XS.iadd X10.here hx rfl (hb hby d_prog_2_method_1_code_35) rfl ?_
    show Steps p.tables e below (T10.setTop (mkF m 36 #[.val (.ref ra), .val (.ref rb), .val (.int (0 : Int32))] [(.int (1 : Int32)), (.ref rb), (.long v0)])) _
    refine X10.laload hx (j := (1 : Int32)) (v := (.long v1)) (by rw [e10]; exact Ar14.1) (State.isArrayOf_alike hZ.alike Ar14.2.1) Ar14.2.2 hin14 hat14 (g := (mkF m 36 #[.val (.ref ra), .val (.ref rb), .val (.int (0 : Int32))] [(.int (1 : Int32)), (.ref rb), (.long v0)])) rfl rfl (hb hby d_prog_2_method_1_code_36) _ ?_
    show Steps p.tables e below (T10.setTop (mkF m 37 #[.val (.ref ra), .val (.ref rb), .val (.int (0 : Int32))] [(.long v1), (.long v0)])) _
    refine XS.lcmp X10.here hx rfl (hb hby d_prog_2_method_1_code_37) rfl ?_
    show Steps p.tables e below (T10.setTop (mkF m 38 #[.val (.ref ra), .val (.ref rb), .val (.int (0 : Int32))] [(.int (lcmpW v0 v1))])) _
    refine XS.ifYes X10.here hx rfl (pc0 := 38) (pc' := 51) rfl (hb hby d_prog_2_method_1_code_38) rfl ((if0 _ _).trans (tlt ((lw_lt _ _).mpr (o0 : v0 < v1))).1) (by decide) (by decide) ?_
    show Steps p.tables e below (T10.setTop (mkF m 51 #[.val (.ref ra), .val (.ref rb), .val (.int (0 : Int32))] [])) _
    refine XS.iinc X10.here hx rfl (hb hby d_prog_2_method_1_code_51) rfl (l' := #[.val (.ref ra), .val (.ref rb), .val (.int (2 : Int32))]) rfl ?_
    show Steps p.tables e below (T10.setTop (mkF m 54 #[.val (.ref ra), .val (.ref rb), .val (.int (2 : Int32))] [])) _
    refine XS.goto X10.here hx rfl (pc0 := 54) (pc' := 23) rfl (hb hby d_prog_2_method_1_code_54) (by decide) (by decide) ?_
    show Steps p.tables e below (T10.setTop (mkF m 23 #[.val (.ref ra), .val (.ref rb), .val (.int (2 : Int32))] [])) _
    refine XS.iloadN X10.here hx rfl (hb hby d_prog_2_method_1_code_23) rfl ?_
    show Steps p.tables e below (T10.setTop (mkF m 24 #[.val (.ref ra), .val (.ref rb), .val (.int (2 : Int32))] [(.int (2 : Int32))])) _
    refine XS.aloadN X10.here hx rfl (hb hby d_prog_2_method_1_code_24) rfl rfl ?_
    show Steps p.tables e below (T10.setTop (mkF m 25 #[.val (.ref ra), .val (.ref rb), .val (.int (2 : Int32))] [(.ref rb), (.int (2 : Int32))])) _
    refine X10.arraylength hx (by rw [e10]; exact Ar15.1) (State.isArrayOf_alike hZ.alike Ar15.2.1) (g := (mkF m 25 #[.val (.ref ra), .val (.ref rb), .val (.int (2 : Int32))] [(.ref rb), (.int (2 : Int32))])) rfl rfl (hb hby d_prog_2_method_1_code_25) _ ?_
    rw [len_of S15 N15a]
    show Steps p.tables e below (T10.setTop (mkF m 26 #[.val (.ref ra), .val (.ref rb), .val (.int (2 : Int32))] [(.int (2 : Int32)), (.int (2 : Int32))])) _
    refine XS.icmpYes X10.here hx rfl (pc0 := 26) (pc' := 57) rfl (hb hby d_prog_2_method_1_code_26) rfl (flt (by decide : ¬ ((2 : Int32) < (2 : Int32)))).2.1 (by decide) (by decide) ?_
    show Steps p.tables e below (T10.setTop (mkF m 57 #[.val (.ref ra), .val (.ref rb), .val (.int (2 : Int32))] [])) _
    refine XS.aloadN X10.here hx rfl (hb hby d_prog_2_method_1_code_57) rfl rfl ?_
    show Steps p.tables e below (T10.setTop (mkF m 58 #[.val (.ref ra), .val (.ref rb), .val (.int (2 : Int32))] [(.ref ra)])) _
    refine XS.aloadN X10.here hx rfl (hb hby d_prog_2_method_1_code_58) rfl rfl ?_
    show Steps p.tables e below (T10.setTop (mkF m 59 #[.val (.ref ra), .val (.ref rb), .val (.int (2 : Int32))] [(.ref rb), (.ref ra)])) _
    refine st16 _ ?_
    show Steps p.tables e below (T16.setTop (mkF m 62 #[.val (.ref ra), .val (.ref rb), .val (.int (2 : Int32))] [(.ref b16), (.ref ra)])) _
    refine st17 _ ?_
    show Steps p.tables e below (T17.setTop (mkF m 65 #[.val (.ref ra), .val (.ref rb), .val (.int (2 : Int32))] [(.ref b16), (.ref ra)])) _
    refine st18 _ ?_
    show Steps p.tables e below (T18.setTop (mkF m 68 #[.val (.ref ra), .val (.ref rb), .val (.int (2 : Int32))] [])) _
    exact X18.returnOut hx Bd.returns (hb hby d_prog_2_method_1_code_68) hr
  · show Q_ini2 Z ra rb kb v0 v1 h0 n0 _ T18.heap _
    rw [e18]
    exact ⟨rfl, N18, kp18, b16, kb, g_b16, sz_b16, Fd_bounds_ra_18, Av_b16_16_c18, Ex_b16_16_c18⟩
theorem ef_ini4 (m : MethodId) (ra : Addr) (rb : Addr) : entryFrame m #[(.ref ra), (.ref rb)] 3 = mkF m 0 #[.val (.ref ra), .val (.ref rb), .unset] [] := by first | (simp [entryFrame, mkF, argsToLocals, Value.category]; done) | rfl
def Q_ini4 (Z : State) (ra : Addr) (rb : Addr) (kb : ClassId) (v0 : Int64) (v1 : Int64) (v2 : Int64) (v3 : Int64) (h0 : Heap) (n0 : Nat) (v : Option Value) (h : Heap) (L : List Loc) : Prop := v = none ∧ Fr n0 L ∧ Keep h0 h [ra] ∧ (∃ (b : Addr) (k : ClassId), n0 ≤ b ∧ h0.size ≤ b ∧ Fld Z h ra "com/example/chronotriple/chronotriple/Box" "bounds" "[J" (.ref b) ∧ Arv Z h b k .long (4 : Int32) [(.long v0), (.long v1), (.long v2), (.long v3)] (.long (0 : Int64)) ∧ Exa Z h b "[J")
set_option maxRecDepth 65536 in
set_option maxHeartbeats 40000000 in
theorem rm_ini4 (l : Launch) (Z : State) (a0 : Array Value) (hw : ∀ d ∈ tables_1, d.before a0 Z = true) (ws : List Jvm.Cond) (ra : Addr) (rb : Addr) (kb : ClassId) (v0 : Int64) (v1 : Int64) (v2 : Int64) (v3 : Int64) (h0 : Heap) (n0 : Nat) (Z0 : n0 ≤ h0.size) (E_ra : Exa Z h0 ra "com/example/chronotriple/chronotriple/Box") (F_b : Fld Z h0 ra "com/example/chronotriple/chronotriple/Box" "bounds" "[J" .null) (Av : Arv Z h0 rb kb .long (4 : Int32) [(.long v0), (.long v1), (.long v2), (.long v3)] (.long (0 : Int64))) (Eb : Exa Z h0 rb "[J") (g_ra : n0 ≤ ra) (ne_ba : rb ≠ ra) (o0 : v0 < v1) (o2 : v2 < v3) :
    MetFree l (⟨"com/example/chronotriple/chronotriple/Box", "<init>", "([J)V"⟩ : MethodName) (head1 (Jvm.Cond.code (⟨"com/example/chronotriple/chronotriple/Box", "<init>", "([J)V"⟩ : MethodName) prog_2_method_1_code 3 none :: ws) ({ frames := 1, cells := 1, slots := 4, locals := 15 } : Room)) (fun a U => a = #[(.ref ra), (.ref rb)] ∧ Z.Warmed39 U.vm ∧ U.heap = h0) (fun _ _ _ _ _ => True) (fun _ U o U' => ∃ v L, o = .returned v ∧ Q_ini4 Z ra rb kb v0 v1 v2 v3 h0 n0 v U'.heap L ∧ FrameEnd U o U' L ({ frames := 1, cells := 1, slots := 4, locals := 15 } : Room).cells ({ frames := 1, cells := 1, slots := 4, locals := 15 } : Room).slots) := by
  refine MetFree.of_bodySF (plainFor_of_name pn_0) hisR ?_
  intro p e s m args below meth c s₁ Bd hml0 hP hK
  obtain ⟨rfl, hZ, hh⟩ := hP
  have hx := Bd.exec
  have hby := Bd.bytes
  have hml : c.maxLocals = 3 := hml0
  have hown : s.vm.findClass "com/example/chronotriple/chronotriple/Box" = some m.cls := findClass_of_methodNamed Bd.named
  have hnm := (name_of_methodNamed Bd.named Bd.method).1
  have X0 : Stand p l e ({ frames := 1, cells := 1, slots := 4, locals := 15 } : Room) s m #[(.ref ra), (.ref rb)] below meth c s₁ [] 0 0 := Stand.of_body Bd
  have e0 : s₁.heap = h0 := by rw [← hh, Bd.state]; rfl
  have N0 := Fr.nil n0
  have pre0 : ∀ t, Steps p.tables e below (s₁.setTop (mkF m 0 #[.val (.ref ra), .val (.ref rb), .unset] [])) t → Steps p.tables e below (s₁.setTop (entryFrame m #[(.ref ra), (.ref rb)] 3)) t := fun t k => castTop (ef_ini4 m ra rb) k
  have kp0 : Keep h0 h0 [ra] := Keep.refl h0 _
  obtain ⟨T19, X19, e19, st19⟩ := initO X0 hx hZ hown (hw _ (List.mem_of_getElem? (i := 16) rfl)) (hw _ (List.mem_of_getElem? (i := 17) rfl)) (hw _ (List.mem_of_getElem? (i := 18) rfl)) e0 (g := (mkF m 1 #[.val (.ref ra), .val (.ref rb), .unset] [(.ref ra)])) rfl (by rw [hml]; rfl) rfl (hb hby d_prog_2_method_1_code_1) (by decide) (W := 0) (by show 2 * 0 + _ ≤ _; exact Nat.le_of_eq rfl) (by decide)
  obtain ⟨cl20, Ar20, -, S20, N20a, -, -⟩ := id Av
  obtain ⟨cl21, Ar21, -, S21, N21a, -, -⟩ := id Av
  obtain ⟨cl22, Ar22, q22, S22, N22a, H22, G22⟩ := id Av
  have hin22 : ¬ ((0 : Int32) < 0 ∨ cl22.slots.size ≤ ((0 : Int32)).toNatClampNeg) := inb_of S22 ⟨by decide, by decide⟩
  have hat22 : cl22.slots[((0 : Int32)).toNatClampNeg]? = some (.long v0) := H22.at hin22 rfl
  obtain ⟨cl23, Ar23, q23, S23, N23a, H23, G23⟩ := id Av
  have hin23 : ¬ ((1 : Int32) < 0 ∨ cl23.slots.size ≤ ((1 : Int32)).toNatClampNeg) := inb_of S23 ⟨by decide, by decide⟩
  have hat23 : cl23.slots[((1 : Int32)).toNatClampNeg]? = some (.long v1) := H23.at hin23 rfl
  obtain ⟨cl24, Ar24, -, S24, N24a, -, -⟩ := id Av
  obtain ⟨cl25, Ar25, q25, S25, N25a, H25, G25⟩ := id Av
  have hin25 : ¬ ((2 : Int32) < 0 ∨ cl25.slots.size ≤ ((2 : Int32)).toNatClampNeg) := inb_of S25 ⟨by decide, by decide⟩
  have hat25 : cl25.slots[((2 : Int32)).toNatClampNeg]? = some (.long v2) := H25.at hin25 rfl
  obtain ⟨cl26, Ar26, q26, S26, N26a, H26, G26⟩ := id Av
  have hin26 : ¬ ((3 : Int32) < 0 ∨ cl26.slots.size ≤ ((3 : Int32)).toNatClampNeg) := inb_of S26 ⟨by decide, by decide⟩
  have hat26 : cl26.slots[((3 : Int32)).toNatClampNeg]? = some (.long v3) := H26.at hin26 rfl
  obtain ⟨cl27, Ar27, -, S27, N27a, -, -⟩ := id Av
  obtain ⟨T28, h28, X28, e28, E28, A28, B28, st28⟩ := cloneH X19 hx hZ hown (hw _ (List.mem_of_getElem? (i := 19) rfl)) (hw _ (List.mem_of_getElem? (i := 20) rfl)) (hw _ (List.mem_of_getElem? (i := 24) rfl)) (hw _ (List.mem_of_getElem? (i := 22) rfl)) (hw _ (List.mem_of_getElem? (i := 23) rfl)) (hw _ (List.mem_of_getElem? (i := 25) rfl)) e19 (hs := []) Av Eb (g := (mkF m 59 #[.val (.ref ra), .val (.ref rb), .val (.int (4 : Int32))] [(.ref rb), (.ref ra)])) rfl (by rw [hml]; rfl) rfl (hb hby d_prog_2_method_1_code_59) (by decide) (W := 1) (by show 2 * 0 + _ ≤ _; exact Nat.le_of_eq rfl) (by decide) (cap := 4) (by decide) (by decide) (by decide)
  obtain ⟨b28, g28⟩ : ∃ z, z = h0.size := ⟨_, rfl⟩
  rw [← g28] at A28 B28 st28
  have ne_ra_b28 : ra ≠ b28 := Nat.ne_of_lt (Nat.lt_of_lt_of_le E_ra.lt (Nat.le_of_eq g28.symm))
  have ne_rb_b28 : rb ≠ b28 := Nat.ne_of_lt (Nat.lt_of_lt_of_le Av.lt (Nat.le_of_eq g28.symm))
  have g_b28 : n0 ≤ b28 := Nat.le_trans Z0 (Nat.le_of_eq g28.symm)
  have sz_b28 : h0.size ≤ b28 := Nat.le_trans kp0.1 (Nat.le_of_eq g28.symm)
  have E_ra_c28 := E_ra.ext E28
  have F_b_c28 := F_b.ext E28
  have Av_c28 := Av.ext E28
  have Eb_c28 := Eb.ext E28
  have Z28 : n0 ≤ h28.size := Nat.le_trans Z0 E28.1
  have kp28 := kp0.ext E28
  have Av_b28_28 : Arv Z h28 b28 kb .long (4 : Int32) [(.long v0), (.long v1), (.long v2), (.long v3)] (.long (0 : Int64)) := A28
  have Ex_b28_28 := B28
  obtain ⟨T29, X29, e29, st29⟩ := castY X28 hx hZ hown (hw _ (List.mem_of_getElem? (i := 26) rfl)) e28 (Ins.self Ex_b28_28) (g := (mkF m 62 #[.val (.ref ra), .val (.ref rb), .val (.int (4 : Int32))] [(.ref b28), (.ref ra)])) rfl rfl (hb hby d_prog_2_method_1_code_62)
  obtain ⟨T30, h30, X30, e30, W30, st30⟩ := putF X29 hx hZ hown (host := "") (Or.inl (hw _ (List.mem_of_getElem? (i := 28) rfl))) Via.refl e29 F_b_c28 E_ra_c28 (Or.inr ⟨(hw _ (List.mem_of_getElem? (i := 29) rfl)), rfl, hnm⟩) (hw _ (List.mem_of_getElem? (i := 11) rfl)) (ty := (.array .long)) (by decide) rfl rfl (g := (mkF m 65 #[.val (.ref ra), .val (.ref rb), .val (.int (4 : Int32))] [(.ref b28), (.ref ra)])) rfl rfl (hb hby d_prog_2_method_1_code_65)
  have E_ra_c30 := E_ra_c28.wr W30
  have Av_c30 := Av_c28.other W30 ne_ba
  have Eb_c30 := Eb_c28.wr W30
  have Av_b28_28_c30 := Av_b28_28.other W30 (Ne.symm ne_ra_b28)
  have Ex_b28_28_c30 := Ex_b28_28.wr W30
  have Fd_bounds_ra_30 := F_b_c28.same W30
  have Z30 : n0 ≤ h30.size := Nat.le_trans Z28 (Keep.of_wr W30).1
  have kp30 := kp28.wr W30 (Or.inl (List.mem_of_getElem? (i := 0) rfl))
  have N30 := Fr.snoc X30 N0 g_ra
  obtain ⟨fs, hr, hrun, hended, hW, hsame⟩ := X30.leave (v := none) (fun _ => rfl)
  refine ⟨_, _, pre0 _ ?_, hrun, hended, _, _, rfl, ?_, ⟨_, rfl⟩, hW, hsame.mono (by decide) (by decide)⟩
  · show Steps p.tables e below (s₁.setTop (mkF m 0 #[.val (.ref ra), .val (.ref rb), .unset] [])) _
    refine XS.aloadN X0.here hx rfl (hb hby d_prog_2_method_1_code_0) rfl rfl ?_
    show Steps p.tables e below (s₁.setTop (mkF m 1 #[.val (.ref ra), .val (.ref rb), .unset] [(.ref ra)])) _
    refine st19 _ ?_
    show Steps p.tables e below (T19.setTop (mkF m 4 #[.val (.ref ra), .val (.ref rb), .unset] [])) _
    refine XS.aloadN X19.here hx rfl (hb hby d_prog_2_method_1_code_4) rfl rfl ?_
    show Steps p.tables e below (T19.setTop (mkF m 5 #[.val (.ref ra), .val (.ref rb), .unset] [(.ref rb)])) _
    refine X19.arraylength hx (by rw [e19]; exact Ar20.1) (State.isArrayOf_alike hZ.alike Ar20.2.1) (g := (mkF m 5 #[.val (.ref ra), .val (.ref rb), .unset] [(.ref rb)])) rfl rfl (hb hby d_prog_2_method_1_code_5) _ ?_
    rw [len_of S20 N20a]
    show Steps p.tables e below (T19.setTop (mkF m 6 #[.val (.ref ra), .val (.ref rb), .unset] [(.int (4 : Int32))])) _
    refine XS.iconst X19.here hx rfl (hb hby d_prog_2_method_1_code_6) ?_
    show Steps p.tables e below (T19.setTop (mkF m 7 #[.val (.ref ra), .val (.ref rb), .unset] [(.int (2 : Int32)), (.int (4 : Int32))])) _
    refine iremM X19 hx rfl (hb hby d_prog_2_method_1_code_7) rfl (by decide) ?_
    show Steps p.tables e below (T19.setTop (mkF m 8 #[.val (.ref ra), .val (.ref rb), .unset] [(.int (0 : Int32))])) _
    refine XS.ifYes X19.here hx rfl (pc0 := 8) (pc' := 21) rfl (hb hby d_prog_2_method_1_code_8) rfl ((if0 _ _).trans (teq (by decide : (0 : Int32) = (0 : Int32))).1) (by decide) (by decide) ?_
    show Steps p.tables e below (T19.setTop (mkF m 21 #[.val (.ref ra), .val (.ref rb), .unset] [])) _
    refine XS.iconst X19.here hx rfl (hb hby d_prog_2_method_1_code_21) ?_
    show Steps p.tables e below (T19.setTop (mkF m 22 #[.val (.ref ra), .val (.ref rb), .unset] [(.int (0 : Int32))])) _
    refine XS.istoreN X19.here hx rfl (hb hby d_prog_2_method_1_code_22) rfl (l' := #[.val (.ref ra), .val (.ref rb), .val (.int (0 : Int32))]) rfl ?_
    show Steps p.tables e below (T19.setTop (mkF m 23 #[.val (.ref ra), .val (.ref rb), .val (.int (0 : Int32))] [])) _
    refine XS.iloadN X19.here hx rfl (hb hby d_prog_2_method_1_code_23) rfl ?_
    show Steps p.tables e below (T19.setTop (mkF m 24 #[.val (.ref ra), .val (.ref rb), .val (.int (0 : Int32))] [(.int (0 : Int32))])) _
    refine XS.aloadN X19.here hx rfl (hb hby d_prog_2_method_1_code_24) rfl rfl ?_
    show Steps p.tables e below (T19.setTop (mkF m 25 #[.val (.ref ra), .val (.ref rb), .val (.int (0 : Int32))] [(.ref rb), (.int (0 : Int32))])) _
    refine X19.arraylength hx (by rw [e19]; exact Ar21.1) (State.isArrayOf_alike hZ.alike Ar21.2.1) (g := (mkF m 25 #[.val (.ref ra), .val (.ref rb), .val (.int (0 : Int32))] [(.ref rb), (.int (0 : Int32))])) rfl rfl (hb hby d_prog_2_method_1_code_25) _ ?_
    rw [len_of S21 N21a]
    show Steps p.tables e below (T19.setTop (mkF m 26 #[.val (.ref ra), .val (.ref rb), .val (.int (0 : Int32))] [(.int (4 : Int32)), (.int (0 : Int32))])) _
    refine XS.icmpNo X19.here hx rfl (hb hby d_prog_2_method_1_code_26) rfl (tlt (by decide : (0 : Int32) < (4 : Int32))).2.1 ?_
    show Steps p.tables e below (T19.setTop (mkF m 29 #[.val (.ref ra), .val (.ref rb), .val (.int (0 : Int32))] [])) _
    refine XS.aloadN X19.here hx rfl (hb hby d_prog_2_method_1_code_29) rfl rfl ?_
    show Steps p.tables e below (T19.setTop (mkF m 30 #[.val (.ref ra), .val (.ref rb), .val (.int (0 : Int32))] [(.ref rb)])) _
    refine XS.iloadN X19.here hx rfl (hb hby d_prog_2_method_1_code_30) rfl ?_
    show Steps p.tables e below (T19.setTop (mkF m 31 #[.val (.ref ra), .val (.ref rb), .val (.int (0 : Int32))] [(.int (0 : Int32)), (.ref rb)])) _
    refine X19.laload hx (j := (0 : Int32)) (v := (.long v0)) (by rw [e19]; exact Ar22.1) (State.isArrayOf_alike hZ.alike Ar22.2.1) Ar22.2.2 hin22 hat22 (g := (mkF m 31 #[.val (.ref ra), .val (.ref rb), .val (.int (0 : Int32))] [(.int (0 : Int32)), (.ref rb)])) rfl rfl (hb hby d_prog_2_method_1_code_31) _ ?_
    show Steps p.tables e below (T19.setTop (mkF m 32 #[.val (.ref ra), .val (.ref rb), .val (.int (0 : Int32))] [(.long v0)])) _
    refine XS.aloadN X19.here hx rfl (hb hby d_prog_2_method_1_code_32) rfl rfl ?_
    show Steps p.tables e below (T19.setTop (mkF m 33 #[.val (.ref ra), .val (.ref rb), .val (.int (0 : Int32))] [(.ref rb), (.long v0)])) _
    refine XS.iloadN X19.here hx rfl (hb hby d_prog_2_method_1_code_33) rfl ?_
    show Steps p.tables e below (T19.setTop (mkF m 34 #[.val (.ref ra), .val (.ref rb), .val (.int (0 : Int32))] [(.int (0 : Int32)), (.ref rb), (.long v0)])) _
    refine XS.iconst X19.here hx rfl (hb hby d_prog_2_method_1_code_34) ?_
    show Steps p.tables e below (T19.setTop (mkF m 35 #[.val (.ref ra), .val (.ref rb), .val (.int (0 : Int32))] [(.int (1 : Int32)), (.int (0 : Int32)), (.ref rb), (.long v0)])) _
    refine XS.iadd X19.here hx rfl (hb hby d_prog_2_method_1_code_35) rfl ?_
    show Steps p.tables e below (T19.setTop (mkF m 36 #[.val (.ref ra), .val (.ref rb), .val (.int (0 : Int32))] [(.int (1 : Int32)), (.ref rb), (.long v0)])) _
    refine X19.laload hx (j := (1 : Int32)) (v := (.long v1)) (by rw [e19]; exact Ar23.1) (State.isArrayOf_alike hZ.alike Ar23.2.1) Ar23.2.2 hin23 hat23 (g := (mkF m 36 #[.val (.ref ra), .val (.ref rb), .val (.int (0 : Int32))] [(.int (1 : Int32)), (.ref rb), (.long v0)])) rfl rfl (hb hby d_prog_2_method_1_code_36) _ ?_
    show Steps p.tables e below (T19.setTop (mkF m 37 #[.val (.ref ra), .val (.ref rb), .val (.int (0 : Int32))] [(.long v1), (.long v0)])) _
    refine XS.lcmp X19.here hx rfl (hb hby d_prog_2_method_1_code_37) rfl ?_
    show Steps p.tables e below (T19.setTop (mkF m 38 #[.val (.ref ra), .val (.ref rb), .val (.int (0 : Int32))] [(.int (lcmpW v0 v1))])) _
    refine XS.ifYes X19.here hx rfl (pc0 := 38) (pc' := 51) rfl (hb hby d_prog_2_method_1_code_38) rfl ((if0 _ _).trans (tlt ((lw_lt _ _).mpr (o0 : v0 < v1))).1) (by decide) (by decide) ?_
    show Steps p.tables e below (T19.setTop (mkF m 51 #[.val (.ref ra), .val (.ref rb), .val (.int (0 : Int32))] [])) _
    refine XS.iinc X19.here hx rfl (hb hby d_prog_2_method_1_code_51) rfl (l' := #[.val (.ref ra), .val (.ref rb), .val (.int (2 : Int32))]) rfl ?_
    show Steps p.tables e below (T19.setTop (mkF m 54 #[.val (.ref ra), .val (.ref rb), .val (.int (2 : Int32))] [])) _
    refine XS.goto X19.here hx rfl (pc0 := 54) (pc' := 23) rfl (hb hby d_prog_2_method_1_code_54) (by decide) (by decide) ?_
    show Steps p.tables e below (T19.setTop (mkF m 23 #[.val (.ref ra), .val (.ref rb), .val (.int (2 : Int32))] [])) _
    refine XS.iloadN X19.here hx rfl (hb hby d_prog_2_method_1_code_23) rfl ?_
    show Steps p.tables e below (T19.setTop (mkF m 24 #[.val (.ref ra), .val (.ref rb), .val (.int (2 : Int32))] [(.int (2 : Int32))])) _
    refine XS.aloadN X19.here hx rfl (hb hby d_prog_2_method_1_code_24) rfl rfl ?_
    show Steps p.tables e below (T19.setTop (mkF m 25 #[.val (.ref ra), .val (.ref rb), .val (.int (2 : Int32))] [(.ref rb), (.int (2 : Int32))])) _
    refine X19.arraylength hx (by rw [e19]; exact Ar24.1) (State.isArrayOf_alike hZ.alike Ar24.2.1) (g := (mkF m 25 #[.val (.ref ra), .val (.ref rb), .val (.int (2 : Int32))] [(.ref rb), (.int (2 : Int32))])) rfl rfl (hb hby d_prog_2_method_1_code_25) _ ?_
    rw [len_of S24 N24a]
    show Steps p.tables e below (T19.setTop (mkF m 26 #[.val (.ref ra), .val (.ref rb), .val (.int (2 : Int32))] [(.int (4 : Int32)), (.int (2 : Int32))])) _
    refine XS.icmpNo X19.here hx rfl (hb hby d_prog_2_method_1_code_26) rfl (tlt (by decide : (2 : Int32) < (4 : Int32))).2.1 ?_
    show Steps p.tables e below (T19.setTop (mkF m 29 #[.val (.ref ra), .val (.ref rb), .val (.int (2 : Int32))] [])) _
    refine XS.aloadN X19.here hx rfl (hb hby d_prog_2_method_1_code_29) rfl rfl ?_
    show Steps p.tables e below (T19.setTop (mkF m 30 #[.val (.ref ra), .val (.ref rb), .val (.int (2 : Int32))] [(.ref rb)])) _
    refine XS.iloadN X19.here hx rfl (hb hby d_prog_2_method_1_code_30) rfl ?_
    show Steps p.tables e below (T19.setTop (mkF m 31 #[.val (.ref ra), .val (.ref rb), .val (.int (2 : Int32))] [(.int (2 : Int32)), (.ref rb)])) _
    refine X19.laload hx (j := (2 : Int32)) (v := (.long v2)) (by rw [e19]; exact Ar25.1) (State.isArrayOf_alike hZ.alike Ar25.2.1) Ar25.2.2 hin25 hat25 (g := (mkF m 31 #[.val (.ref ra), .val (.ref rb), .val (.int (2 : Int32))] [(.int (2 : Int32)), (.ref rb)])) rfl rfl (hb hby d_prog_2_method_1_code_31) _ ?_
    show Steps p.tables e below (T19.setTop (mkF m 32 #[.val (.ref ra), .val (.ref rb), .val (.int (2 : Int32))] [(.long v2)])) _
    refine XS.aloadN X19.here hx rfl (hb hby d_prog_2_method_1_code_32) rfl rfl ?_
    show Steps p.tables e below (T19.setTop (mkF m 33 #[.val (.ref ra), .val (.ref rb), .val (.int (2 : Int32))] [(.ref rb), (.long v2)])) _
    refine XS.iloadN X19.here hx rfl (hb hby d_prog_2_method_1_code_33) rfl ?_
    show Steps p.tables e below (T19.setTop (mkF m 34 #[.val (.ref ra), .val (.ref rb), .val (.int (2 : Int32))] [(.int (2 : Int32)), (.ref rb), (.long v2)])) _
    refine XS.iconst X19.here hx rfl (hb hby d_prog_2_method_1_code_34) ?_
    show Steps p.tables e below (T19.setTop (mkF m 35 #[.val (.ref ra), .val (.ref rb), .val (.int (2 : Int32))] [(.int (1 : Int32)), (.int (2 : Int32)), (.ref rb), (.long v2)])) _
    refine XS.iadd X19.here hx rfl (hb hby d_prog_2_method_1_code_35) rfl ?_
    show Steps p.tables e below (T19.setTop (mkF m 36 #[.val (.ref ra), .val (.ref rb), .val (.int (2 : Int32))] [(.int (3 : Int32)), (.ref rb), (.long v2)])) _
    refine X19.laload hx (j := (3 : Int32)) (v := (.long v3)) (by rw [e19]; exact Ar26.1) (State.isArrayOf_alike hZ.alike Ar26.2.1) Ar26.2.2 hin26 hat26 (g := (mkF m 36 #[.val (.ref ra), .val (.ref rb), .val (.int (2 : Int32))] [(.int (3 : Int32)), (.ref rb), (.long v2)])) rfl rfl (hb hby d_prog_2_method_1_code_36) _ ?_
    show Steps p.tables e below (T19.setTop (mkF m 37 #[.val (.ref ra), .val (.ref rb), .val (.int (2 : Int32))] [(.long v3), (.long v2)])) _
    refine XS.lcmp X19.here hx rfl (hb hby d_prog_2_method_1_code_37) rfl ?_
    show Steps p.tables e below (T19.setTop (mkF m 38 #[.val (.ref ra), .val (.ref rb), .val (.int (2 : Int32))] [(.int (lcmpW v2 v3))])) _
    refine XS.ifYes X19.here hx rfl (pc0 := 38) (pc' := 51) rfl (hb hby d_prog_2_method_1_code_38) rfl ((if0 _ _).trans (tlt ((lw_lt _ _).mpr (o2 : v2 < v3))).1) (by decide) (by decide) ?_
    show Steps p.tables e below (T19.setTop (mkF m 51 #[.val (.ref ra), .val (.ref rb), .val (.int (2 : Int32))] [])) _
    refine XS.iinc X19.here hx rfl (hb hby d_prog_2_method_1_code_51) rfl (l' := #[.val (.ref ra), .val (.ref rb), .val (.int (4 : Int32))]) rfl ?_
    show Steps p.tables e below (T19.setTop (mkF m 54 #[.val (.ref ra), .val (.ref rb), .val (.int (4 : Int32))] [])) _
    refine XS.goto X19.here hx rfl (pc0 := 54) (pc' := 23) rfl (hb hby d_prog_2_method_1_code_54) (by decide) (by decide) ?_
    show Steps p.tables e below (T19.setTop (mkF m 23 #[.val (.ref ra), .val (.ref rb), .val (.int (4 : Int32))] [])) _
    refine XS.iloadN X19.here hx rfl (hb hby d_prog_2_method_1_code_23) rfl ?_
    show Steps p.tables e below (T19.setTop (mkF m 24 #[.val (.ref ra), .val (.ref rb), .val (.int (4 : Int32))] [(.int (4 : Int32))])) _
    refine XS.aloadN X19.here hx rfl (hb hby d_prog_2_method_1_code_24) rfl rfl ?_
    show Steps p.tables e below (T19.setTop (mkF m 25 #[.val (.ref ra), .val (.ref rb), .val (.int (4 : Int32))] [(.ref rb), (.int (4 : Int32))])) _
    refine X19.arraylength hx (by rw [e19]; exact Ar27.1) (State.isArrayOf_alike hZ.alike Ar27.2.1) (g := (mkF m 25 #[.val (.ref ra), .val (.ref rb), .val (.int (4 : Int32))] [(.ref rb), (.int (4 : Int32))])) rfl rfl (hb hby d_prog_2_method_1_code_25) _ ?_
    rw [len_of S27 N27a]
    show Steps p.tables e below (T19.setTop (mkF m 26 #[.val (.ref ra), .val (.ref rb), .val (.int (4 : Int32))] [(.int (4 : Int32)), (.int (4 : Int32))])) _
    refine XS.icmpYes X19.here hx rfl (pc0 := 26) (pc' := 57) rfl (hb hby d_prog_2_method_1_code_26) rfl (flt (by decide : ¬ ((4 : Int32) < (4 : Int32)))).2.1 (by decide) (by decide) ?_
    show Steps p.tables e below (T19.setTop (mkF m 57 #[.val (.ref ra), .val (.ref rb), .val (.int (4 : Int32))] [])) _
    refine XS.aloadN X19.here hx rfl (hb hby d_prog_2_method_1_code_57) rfl rfl ?_
    show Steps p.tables e below (T19.setTop (mkF m 58 #[.val (.ref ra), .val (.ref rb), .val (.int (4 : Int32))] [(.ref ra)])) _
    refine XS.aloadN X19.here hx rfl (hb hby d_prog_2_method_1_code_58) rfl rfl ?_
    show Steps p.tables e below (T19.setTop (mkF m 59 #[.val (.ref ra), .val (.ref rb), .val (.int (4 : Int32))] [(.ref rb), (.ref ra)])) _
    refine st28 _ ?_
    show Steps p.tables e below (T28.setTop (mkF m 62 #[.val (.ref ra), .val (.ref rb), .val (.int (4 : Int32))] [(.ref b28), (.ref ra)])) _
    refine st29 _ ?_
    show Steps p.tables e below (T29.setTop (mkF m 65 #[.val (.ref ra), .val (.ref rb), .val (.int (4 : Int32))] [(.ref b28), (.ref ra)])) _
    refine st30 _ ?_
    show Steps p.tables e below (T30.setTop (mkF m 68 #[.val (.ref ra), .val (.ref rb), .val (.int (4 : Int32))] [])) _
    exact X30.returnOut hx Bd.returns (hb hby d_prog_2_method_1_code_68) hr
  · show Q_ini4 Z ra rb kb v0 v1 v2 v3 h0 n0 _ T30.heap _
    rw [e30]
    exact ⟨rfl, N30, kp30, b28, kb, g_b28, sz_b28, Fd_bounds_ra_30, Av_b28_28_c30, Ex_b28_28_c30⟩
theorem ef_ini6 (m : MethodId) (ra : Addr) (rb : Addr) : entryFrame m #[(.ref ra), (.ref rb)] 3 = mkF m 0 #[.val (.ref ra), .val (.ref rb), .unset] [] := by first | (simp [entryFrame, mkF, argsToLocals, Value.category]; done) | rfl
def Q_ini6 (Z : State) (ra : Addr) (rb : Addr) (kb : ClassId) (v0 : Int64) (v1 : Int64) (v2 : Int64) (v3 : Int64) (v4 : Int64) (v5 : Int64) (h0 : Heap) (n0 : Nat) (v : Option Value) (h : Heap) (L : List Loc) : Prop := v = none ∧ Fr n0 L ∧ Keep h0 h [ra] ∧ (∃ (b : Addr) (k : ClassId), n0 ≤ b ∧ h0.size ≤ b ∧ Fld Z h ra "com/example/chronotriple/chronotriple/Box" "bounds" "[J" (.ref b) ∧ Arv Z h b k .long (6 : Int32) [(.long v0), (.long v1), (.long v2), (.long v3), (.long v4), (.long v5)] (.long (0 : Int64)) ∧ Exa Z h b "[J")
set_option maxRecDepth 65536 in
set_option maxHeartbeats 40000000 in
theorem rm_ini6 (l : Launch) (Z : State) (a0 : Array Value) (hw : ∀ d ∈ tables_1, d.before a0 Z = true) (ws : List Jvm.Cond) (ra : Addr) (rb : Addr) (kb : ClassId) (v0 : Int64) (v1 : Int64) (v2 : Int64) (v3 : Int64) (v4 : Int64) (v5 : Int64) (h0 : Heap) (n0 : Nat) (Z0 : n0 ≤ h0.size) (E_ra : Exa Z h0 ra "com/example/chronotriple/chronotriple/Box") (F_b : Fld Z h0 ra "com/example/chronotriple/chronotriple/Box" "bounds" "[J" .null) (Av : Arv Z h0 rb kb .long (6 : Int32) [(.long v0), (.long v1), (.long v2), (.long v3), (.long v4), (.long v5)] (.long (0 : Int64))) (Eb : Exa Z h0 rb "[J") (g_ra : n0 ≤ ra) (ne_ba : rb ≠ ra) (o0 : v0 < v1) (o2 : v2 < v3) (o4 : v4 < v5) :
    MetFree l (⟨"com/example/chronotriple/chronotriple/Box", "<init>", "([J)V"⟩ : MethodName) (head1 (Jvm.Cond.code (⟨"com/example/chronotriple/chronotriple/Box", "<init>", "([J)V"⟩ : MethodName) prog_2_method_1_code 3 none :: ws) ({ frames := 1, cells := 1, slots := 6, locals := 15 } : Room)) (fun a U => a = #[(.ref ra), (.ref rb)] ∧ Z.Warmed39 U.vm ∧ U.heap = h0) (fun _ _ _ _ _ => True) (fun _ U o U' => ∃ v L, o = .returned v ∧ Q_ini6 Z ra rb kb v0 v1 v2 v3 v4 v5 h0 n0 v U'.heap L ∧ FrameEnd U o U' L ({ frames := 1, cells := 1, slots := 6, locals := 15 } : Room).cells ({ frames := 1, cells := 1, slots := 6, locals := 15 } : Room).slots) := by
  refine MetFree.of_bodySF (plainFor_of_name pn_0) hisR ?_
  intro p e s m args below meth c s₁ Bd hml0 hP hK
  obtain ⟨rfl, hZ, hh⟩ := hP
  have hx := Bd.exec
  have hby := Bd.bytes
  have hml : c.maxLocals = 3 := hml0
  have hown : s.vm.findClass "com/example/chronotriple/chronotriple/Box" = some m.cls := findClass_of_methodNamed Bd.named
  have hnm := (name_of_methodNamed Bd.named Bd.method).1
  have X0 : Stand p l e ({ frames := 1, cells := 1, slots := 6, locals := 15 } : Room) s m #[(.ref ra), (.ref rb)] below meth c s₁ [] 0 0 := Stand.of_body Bd
  have e0 : s₁.heap = h0 := by rw [← hh, Bd.state]; rfl
  have N0 := Fr.nil n0
  have pre0 : ∀ t, Steps p.tables e below (s₁.setTop (mkF m 0 #[.val (.ref ra), .val (.ref rb), .unset] [])) t → Steps p.tables e below (s₁.setTop (entryFrame m #[(.ref ra), (.ref rb)] 3)) t := fun t k => castTop (ef_ini6 m ra rb) k
  have kp0 : Keep h0 h0 [ra] := Keep.refl h0 _
  obtain ⟨T31, X31, e31, st31⟩ := initO X0 hx hZ hown (hw _ (List.mem_of_getElem? (i := 16) rfl)) (hw _ (List.mem_of_getElem? (i := 17) rfl)) (hw _ (List.mem_of_getElem? (i := 18) rfl)) e0 (g := (mkF m 1 #[.val (.ref ra), .val (.ref rb), .unset] [(.ref ra)])) rfl (by rw [hml]; rfl) rfl (hb hby d_prog_2_method_1_code_1) (by decide) (W := 0) (by show 2 * 0 + _ ≤ _; exact Nat.le_of_eq rfl) (by decide)
  obtain ⟨cl32, Ar32, -, S32, N32a, -, -⟩ := id Av
  obtain ⟨cl33, Ar33, -, S33, N33a, -, -⟩ := id Av
  obtain ⟨cl34, Ar34, q34, S34, N34a, H34, G34⟩ := id Av
  have hin34 : ¬ ((0 : Int32) < 0 ∨ cl34.slots.size ≤ ((0 : Int32)).toNatClampNeg) := inb_of S34 ⟨by decide, by decide⟩
  have hat34 : cl34.slots[((0 : Int32)).toNatClampNeg]? = some (.long v0) := H34.at hin34 rfl
  obtain ⟨cl35, Ar35, q35, S35, N35a, H35, G35⟩ := id Av
  have hin35 : ¬ ((1 : Int32) < 0 ∨ cl35.slots.size ≤ ((1 : Int32)).toNatClampNeg) := inb_of S35 ⟨by decide, by decide⟩
  have hat35 : cl35.slots[((1 : Int32)).toNatClampNeg]? = some (.long v1) := H35.at hin35 rfl
  obtain ⟨cl36, Ar36, -, S36, N36a, -, -⟩ := id Av
  obtain ⟨cl37, Ar37, q37, S37, N37a, H37, G37⟩ := id Av
  have hin37 : ¬ ((2 : Int32) < 0 ∨ cl37.slots.size ≤ ((2 : Int32)).toNatClampNeg) := inb_of S37 ⟨by decide, by decide⟩
  have hat37 : cl37.slots[((2 : Int32)).toNatClampNeg]? = some (.long v2) := H37.at hin37 rfl
  obtain ⟨cl38, Ar38, q38, S38, N38a, H38, G38⟩ := id Av
  have hin38 : ¬ ((3 : Int32) < 0 ∨ cl38.slots.size ≤ ((3 : Int32)).toNatClampNeg) := inb_of S38 ⟨by decide, by decide⟩
  have hat38 : cl38.slots[((3 : Int32)).toNatClampNeg]? = some (.long v3) := H38.at hin38 rfl
  obtain ⟨cl39, Ar39, -, S39, N39a, -, -⟩ := id Av
  obtain ⟨cl40, Ar40, q40, S40, N40a, H40, G40⟩ := id Av
  have hin40 : ¬ ((4 : Int32) < 0 ∨ cl40.slots.size ≤ ((4 : Int32)).toNatClampNeg) := inb_of S40 ⟨by decide, by decide⟩
  have hat40 : cl40.slots[((4 : Int32)).toNatClampNeg]? = some (.long v4) := H40.at hin40 rfl
  obtain ⟨cl41, Ar41, q41, S41, N41a, H41, G41⟩ := id Av
  have hin41 : ¬ ((5 : Int32) < 0 ∨ cl41.slots.size ≤ ((5 : Int32)).toNatClampNeg) := inb_of S41 ⟨by decide, by decide⟩
  have hat41 : cl41.slots[((5 : Int32)).toNatClampNeg]? = some (.long v5) := H41.at hin41 rfl
  obtain ⟨cl42, Ar42, -, S42, N42a, -, -⟩ := id Av
  obtain ⟨T43, h43, X43, e43, E43, A43, B43, st43⟩ := cloneH X31 hx hZ hown (hw _ (List.mem_of_getElem? (i := 19) rfl)) (hw _ (List.mem_of_getElem? (i := 20) rfl)) (hw _ (List.mem_of_getElem? (i := 24) rfl)) (hw _ (List.mem_of_getElem? (i := 22) rfl)) (hw _ (List.mem_of_getElem? (i := 23) rfl)) (hw _ (List.mem_of_getElem? (i := 25) rfl)) e31 (hs := []) Av Eb (g := (mkF m 59 #[.val (.ref ra), .val (.ref rb), .val (.int (6 : Int32))] [(.ref rb), (.ref ra)])) rfl (by rw [hml]; rfl) rfl (hb hby d_prog_2_method_1_code_59) (by decide) (W := 1) (by show 2 * 0 + _ ≤ _; exact Nat.le_of_eq rfl) (by decide) (cap := 6) (by decide) (by decide) (by decide)
  obtain ⟨b43, g43⟩ : ∃ z, z = h0.size := ⟨_, rfl⟩
  rw [← g43] at A43 B43 st43
  have ne_ra_b43 : ra ≠ b43 := Nat.ne_of_lt (Nat.lt_of_lt_of_le E_ra.lt (Nat.le_of_eq g43.symm))
  have ne_rb_b43 : rb ≠ b43 := Nat.ne_of_lt (Nat.lt_of_lt_of_le Av.lt (Nat.le_of_eq g43.symm))
  have g_b43 : n0 ≤ b43 := Nat.le_trans Z0 (Nat.le_of_eq g43.symm)
  have sz_b43 : h0.size ≤ b43 := Nat.le_trans kp0.1 (Nat.le_of_eq g43.symm)
  have E_ra_c43 := E_ra.ext E43
  have F_b_c43 := F_b.ext E43
  have Av_c43 := Av.ext E43
  have Eb_c43 := Eb.ext E43
  have Z43 : n0 ≤ h43.size := Nat.le_trans Z0 E43.1
  have kp43 := kp0.ext E43
  have Av_b43_43 : Arv Z h43 b43 kb .long (6 : Int32) [(.long v0), (.long v1), (.long v2), (.long v3), (.long v4), (.long v5)] (.long (0 : Int64)) := A43
  have Ex_b43_43 := B43
  obtain ⟨T44, X44, e44, st44⟩ := castY X43 hx hZ hown (hw _ (List.mem_of_getElem? (i := 26) rfl)) e43 (Ins.self Ex_b43_43) (g := (mkF m 62 #[.val (.ref ra), .val (.ref rb), .val (.int (6 : Int32))] [(.ref b43), (.ref ra)])) rfl rfl (hb hby d_prog_2_method_1_code_62)
  obtain ⟨T45, h45, X45, e45, W45, st45⟩ := putF X44 hx hZ hown (host := "") (Or.inl (hw _ (List.mem_of_getElem? (i := 28) rfl))) Via.refl e44 F_b_c43 E_ra_c43 (Or.inr ⟨(hw _ (List.mem_of_getElem? (i := 29) rfl)), rfl, hnm⟩) (hw _ (List.mem_of_getElem? (i := 11) rfl)) (ty := (.array .long)) (by decide) rfl rfl (g := (mkF m 65 #[.val (.ref ra), .val (.ref rb), .val (.int (6 : Int32))] [(.ref b43), (.ref ra)])) rfl rfl (hb hby d_prog_2_method_1_code_65)
  have E_ra_c45 := E_ra_c43.wr W45
  have Av_c45 := Av_c43.other W45 ne_ba
  have Eb_c45 := Eb_c43.wr W45
  have Av_b43_43_c45 := Av_b43_43.other W45 (Ne.symm ne_ra_b43)
  have Ex_b43_43_c45 := Ex_b43_43.wr W45
  have Fd_bounds_ra_45 := F_b_c43.same W45
  have Z45 : n0 ≤ h45.size := Nat.le_trans Z43 (Keep.of_wr W45).1
  have kp45 := kp43.wr W45 (Or.inl (List.mem_of_getElem? (i := 0) rfl))
  have N45 := Fr.snoc X45 N0 g_ra
  obtain ⟨fs, hr, hrun, hended, hW, hsame⟩ := X45.leave (v := none) (fun _ => rfl)
  refine ⟨_, _, pre0 _ ?_, hrun, hended, _, _, rfl, ?_, ⟨_, rfl⟩, hW, hsame.mono (by decide) (by decide)⟩
  · show Steps p.tables e below (s₁.setTop (mkF m 0 #[.val (.ref ra), .val (.ref rb), .unset] [])) _
    refine XS.aloadN X0.here hx rfl (hb hby d_prog_2_method_1_code_0) rfl rfl ?_
    show Steps p.tables e below (s₁.setTop (mkF m 1 #[.val (.ref ra), .val (.ref rb), .unset] [(.ref ra)])) _
    refine st31 _ ?_
    show Steps p.tables e below (T31.setTop (mkF m 4 #[.val (.ref ra), .val (.ref rb), .unset] [])) _
    refine XS.aloadN X31.here hx rfl (hb hby d_prog_2_method_1_code_4) rfl rfl ?_
    show Steps p.tables e below (T31.setTop (mkF m 5 #[.val (.ref ra), .val (.ref rb), .unset] [(.ref rb)])) _
    refine X31.arraylength hx (by rw [e31]; exact Ar32.1) (State.isArrayOf_alike hZ.alike Ar32.2.1) (g := (mkF m 5 #[.val (.ref ra), .val (.ref rb), .unset] [(.ref rb)])) rfl rfl (hb hby d_prog_2_method_1_code_5) _ ?_
    rw [len_of S32 N32a]
    show Steps p.tables e below (T31.setTop (mkF m 6 #[.val (.ref ra), .val (.ref rb), .unset] [(.int (6 : Int32))])) _
    refine XS.iconst X31.here hx rfl (hb hby d_prog_2_method_1_code_6) ?_
    show Steps p.tables e below (T31.setTop (mkF m 7 #[.val (.ref ra), .val (.ref rb), .unset] [(.int (2 : Int32)), (.int (6 : Int32))])) _
    refine iremM X31 hx rfl (hb hby d_prog_2_method_1_code_7) rfl (by decide) ?_
    show Steps p.tables e below (T31.setTop (mkF m 8 #[.val (.ref ra), .val (.ref rb), .unset] [(.int (0 : Int32))])) _
    refine XS.ifYes X31.here hx rfl (pc0 := 8) (pc' := 21) rfl (hb hby d_prog_2_method_1_code_8) rfl ((if0 _ _).trans (teq (by decide : (0 : Int32) = (0 : Int32))).1) (by decide) (by decide) ?_
    show Steps p.tables e below (T31.setTop (mkF m 21 #[.val (.ref ra), .val (.ref rb), .unset] [])) _
    refine XS.iconst X31.here hx rfl (hb hby d_prog_2_method_1_code_21) ?_
    show Steps p.tables e below (T31.setTop (mkF m 22 #[.val (.ref ra), .val (.ref rb), .unset] [(.int (0 : Int32))])) _
    refine XS.istoreN X31.here hx rfl (hb hby d_prog_2_method_1_code_22) rfl (l' := #[.val (.ref ra), .val (.ref rb), .val (.int (0 : Int32))]) rfl ?_
    show Steps p.tables e below (T31.setTop (mkF m 23 #[.val (.ref ra), .val (.ref rb), .val (.int (0 : Int32))] [])) _
    refine XS.iloadN X31.here hx rfl (hb hby d_prog_2_method_1_code_23) rfl ?_
    show Steps p.tables e below (T31.setTop (mkF m 24 #[.val (.ref ra), .val (.ref rb), .val (.int (0 : Int32))] [(.int (0 : Int32))])) _
    refine XS.aloadN X31.here hx rfl (hb hby d_prog_2_method_1_code_24) rfl rfl ?_
    show Steps p.tables e below (T31.setTop (mkF m 25 #[.val (.ref ra), .val (.ref rb), .val (.int (0 : Int32))] [(.ref rb), (.int (0 : Int32))])) _
    refine X31.arraylength hx (by rw [e31]; exact Ar33.1) (State.isArrayOf_alike hZ.alike Ar33.2.1) (g := (mkF m 25 #[.val (.ref ra), .val (.ref rb), .val (.int (0 : Int32))] [(.ref rb), (.int (0 : Int32))])) rfl rfl (hb hby d_prog_2_method_1_code_25) _ ?_
    rw [len_of S33 N33a]
    show Steps p.tables e below (T31.setTop (mkF m 26 #[.val (.ref ra), .val (.ref rb), .val (.int (0 : Int32))] [(.int (6 : Int32)), (.int (0 : Int32))])) _
    refine XS.icmpNo X31.here hx rfl (hb hby d_prog_2_method_1_code_26) rfl (tlt (by decide : (0 : Int32) < (6 : Int32))).2.1 ?_
    show Steps p.tables e below (T31.setTop (mkF m 29 #[.val (.ref ra), .val (.ref rb), .val (.int (0 : Int32))] [])) _
    refine XS.aloadN X31.here hx rfl (hb hby d_prog_2_method_1_code_29) rfl rfl ?_
    show Steps p.tables e below (T31.setTop (mkF m 30 #[.val (.ref ra), .val (.ref rb), .val (.int (0 : Int32))] [(.ref rb)])) _
    refine XS.iloadN X31.here hx rfl (hb hby d_prog_2_method_1_code_30) rfl ?_
    show Steps p.tables e below (T31.setTop (mkF m 31 #[.val (.ref ra), .val (.ref rb), .val (.int (0 : Int32))] [(.int (0 : Int32)), (.ref rb)])) _
    refine X31.laload hx (j := (0 : Int32)) (v := (.long v0)) (by rw [e31]; exact Ar34.1) (State.isArrayOf_alike hZ.alike Ar34.2.1) Ar34.2.2 hin34 hat34 (g := (mkF m 31 #[.val (.ref ra), .val (.ref rb), .val (.int (0 : Int32))] [(.int (0 : Int32)), (.ref rb)])) rfl rfl (hb hby d_prog_2_method_1_code_31) _ ?_
    show Steps p.tables e below (T31.setTop (mkF m 32 #[.val (.ref ra), .val (.ref rb), .val (.int (0 : Int32))] [(.long v0)])) _
    refine XS.aloadN X31.here hx rfl (hb hby d_prog_2_method_1_code_32) rfl rfl ?_
    show Steps p.tables e below (T31.setTop (mkF m 33 #[.val (.ref ra), .val (.ref rb), .val (.int (0 : Int32))] [(.ref rb), (.long v0)])) _
    refine XS.iloadN X31.here hx rfl (hb hby d_prog_2_method_1_code_33) rfl ?_
    show Steps p.tables e below (T31.setTop (mkF m 34 #[.val (.ref ra), .val (.ref rb), .val (.int (0 : Int32))] [(.int (0 : Int32)), (.ref rb), (.long v0)])) _
    refine XS.iconst X31.here hx rfl (hb hby d_prog_2_method_1_code_34) ?_
    show Steps p.tables e below (T31.setTop (mkF m 35 #[.val (.ref ra), .val (.ref rb), .val (.int (0 : Int32))] [(.int (1 : Int32)), (.int (0 : Int32)), (.ref rb), (.long v0)])) _
    refine XS.iadd X31.here hx rfl (hb hby d_prog_2_method_1_code_35) rfl ?_
    show Steps p.tables e below (T31.setTop (mkF m 36 #[.val (.ref ra), .val (.ref rb), .val (.int (0 : Int32))] [(.int (1 : Int32)), (.ref rb), (.long v0)])) _
    refine X31.laload hx (j := (1 : Int32)) (v := (.long v1)) (by rw [e31]; exact Ar35.1) (State.isArrayOf_alike hZ.alike Ar35.2.1) Ar35.2.2 hin35 hat35 (g := (mkF m 36 #[.val (.ref ra), .val (.ref rb), .val (.int (0 : Int32))] [(.int (1 : Int32)), (.ref rb), (.long v0)])) rfl rfl (hb hby d_prog_2_method_1_code_36) _ ?_
    show Steps p.tables e below (T31.setTop (mkF m 37 #[.val (.ref ra), .val (.ref rb), .val (.int (0 : Int32))] [(.long v1), (.long v0)])) _
    refine XS.lcmp X31.here hx rfl (hb hby d_prog_2_method_1_code_37) rfl ?_
    show Steps p.tables e below (T31.setTop (mkF m 38 #[.val (.ref ra), .val (.ref rb), .val (.int (0 : Int32))] [(.int (lcmpW v0 v1))])) _
    refine XS.ifYes X31.here hx rfl (pc0 := 38) (pc' := 51) rfl (hb hby d_prog_2_method_1_code_38) rfl ((if0 _ _).trans (tlt ((lw_lt _ _).mpr (o0 : v0 < v1))).1) (by decide) (by decide) ?_
    show Steps p.tables e below (T31.setTop (mkF m 51 #[.val (.ref ra), .val (.ref rb), .val (.int (0 : Int32))] [])) _
    refine XS.iinc X31.here hx rfl (hb hby d_prog_2_method_1_code_51) rfl (l' := #[.val (.ref ra), .val (.ref rb), .val (.int (2 : Int32))]) rfl ?_
    show Steps p.tables e below (T31.setTop (mkF m 54 #[.val (.ref ra), .val (.ref rb), .val (.int (2 : Int32))] [])) _
    refine XS.goto X31.here hx rfl (pc0 := 54) (pc' := 23) rfl (hb hby d_prog_2_method_1_code_54) (by decide) (by decide) ?_
    show Steps p.tables e below (T31.setTop (mkF m 23 #[.val (.ref ra), .val (.ref rb), .val (.int (2 : Int32))] [])) _
    refine XS.iloadN X31.here hx rfl (hb hby d_prog_2_method_1_code_23) rfl ?_
    show Steps p.tables e below (T31.setTop (mkF m 24 #[.val (.ref ra), .val (.ref rb), .val (.int (2 : Int32))] [(.int (2 : Int32))])) _
    refine XS.aloadN X31.here hx rfl (hb hby d_prog_2_method_1_code_24) rfl rfl ?_
    show Steps p.tables e below (T31.setTop (mkF m 25 #[.val (.ref ra), .val (.ref rb), .val (.int (2 : Int32))] [(.ref rb), (.int (2 : Int32))])) _
    refine X31.arraylength hx (by rw [e31]; exact Ar36.1) (State.isArrayOf_alike hZ.alike Ar36.2.1) (g := (mkF m 25 #[.val (.ref ra), .val (.ref rb), .val (.int (2 : Int32))] [(.ref rb), (.int (2 : Int32))])) rfl rfl (hb hby d_prog_2_method_1_code_25) _ ?_
    rw [len_of S36 N36a]
    show Steps p.tables e below (T31.setTop (mkF m 26 #[.val (.ref ra), .val (.ref rb), .val (.int (2 : Int32))] [(.int (6 : Int32)), (.int (2 : Int32))])) _
    refine XS.icmpNo X31.here hx rfl (hb hby d_prog_2_method_1_code_26) rfl (tlt (by decide : (2 : Int32) < (6 : Int32))).2.1 ?_
    show Steps p.tables e below (T31.setTop (mkF m 29 #[.val (.ref ra), .val (.ref rb), .val (.int (2 : Int32))] [])) _
    refine XS.aloadN X31.here hx rfl (hb hby d_prog_2_method_1_code_29) rfl rfl ?_
    show Steps p.tables e below (T31.setTop (mkF m 30 #[.val (.ref ra), .val (.ref rb), .val (.int (2 : Int32))] [(.ref rb)])) _
    refine XS.iloadN X31.here hx rfl (hb hby d_prog_2_method_1_code_30) rfl ?_
    show Steps p.tables e below (T31.setTop (mkF m 31 #[.val (.ref ra), .val (.ref rb), .val (.int (2 : Int32))] [(.int (2 : Int32)), (.ref rb)])) _
    refine X31.laload hx (j := (2 : Int32)) (v := (.long v2)) (by rw [e31]; exact Ar37.1) (State.isArrayOf_alike hZ.alike Ar37.2.1) Ar37.2.2 hin37 hat37 (g := (mkF m 31 #[.val (.ref ra), .val (.ref rb), .val (.int (2 : Int32))] [(.int (2 : Int32)), (.ref rb)])) rfl rfl (hb hby d_prog_2_method_1_code_31) _ ?_
    show Steps p.tables e below (T31.setTop (mkF m 32 #[.val (.ref ra), .val (.ref rb), .val (.int (2 : Int32))] [(.long v2)])) _
    refine XS.aloadN X31.here hx rfl (hb hby d_prog_2_method_1_code_32) rfl rfl ?_
    show Steps p.tables e below (T31.setTop (mkF m 33 #[.val (.ref ra), .val (.ref rb), .val (.int (2 : Int32))] [(.ref rb), (.long v2)])) _
    refine XS.iloadN X31.here hx rfl (hb hby d_prog_2_method_1_code_33) rfl ?_
    show Steps p.tables e below (T31.setTop (mkF m 34 #[.val (.ref ra), .val (.ref rb), .val (.int (2 : Int32))] [(.int (2 : Int32)), (.ref rb), (.long v2)])) _
    refine XS.iconst X31.here hx rfl (hb hby d_prog_2_method_1_code_34) ?_
    show Steps p.tables e below (T31.setTop (mkF m 35 #[.val (.ref ra), .val (.ref rb), .val (.int (2 : Int32))] [(.int (1 : Int32)), (.int (2 : Int32)), (.ref rb), (.long v2)])) _
    refine XS.iadd X31.here hx rfl (hb hby d_prog_2_method_1_code_35) rfl ?_
    show Steps p.tables e below (T31.setTop (mkF m 36 #[.val (.ref ra), .val (.ref rb), .val (.int (2 : Int32))] [(.int (3 : Int32)), (.ref rb), (.long v2)])) _
    refine X31.laload hx (j := (3 : Int32)) (v := (.long v3)) (by rw [e31]; exact Ar38.1) (State.isArrayOf_alike hZ.alike Ar38.2.1) Ar38.2.2 hin38 hat38 (g := (mkF m 36 #[.val (.ref ra), .val (.ref rb), .val (.int (2 : Int32))] [(.int (3 : Int32)), (.ref rb), (.long v2)])) rfl rfl (hb hby d_prog_2_method_1_code_36) _ ?_
    show Steps p.tables e below (T31.setTop (mkF m 37 #[.val (.ref ra), .val (.ref rb), .val (.int (2 : Int32))] [(.long v3), (.long v2)])) _
    refine XS.lcmp X31.here hx rfl (hb hby d_prog_2_method_1_code_37) rfl ?_
    show Steps p.tables e below (T31.setTop (mkF m 38 #[.val (.ref ra), .val (.ref rb), .val (.int (2 : Int32))] [(.int (lcmpW v2 v3))])) _
    refine XS.ifYes X31.here hx rfl (pc0 := 38) (pc' := 51) rfl (hb hby d_prog_2_method_1_code_38) rfl ((if0 _ _).trans (tlt ((lw_lt _ _).mpr (o2 : v2 < v3))).1) (by decide) (by decide) ?_
    show Steps p.tables e below (T31.setTop (mkF m 51 #[.val (.ref ra), .val (.ref rb), .val (.int (2 : Int32))] [])) _
    refine XS.iinc X31.here hx rfl (hb hby d_prog_2_method_1_code_51) rfl (l' := #[.val (.ref ra), .val (.ref rb), .val (.int (4 : Int32))]) rfl ?_
    show Steps p.tables e below (T31.setTop (mkF m 54 #[.val (.ref ra), .val (.ref rb), .val (.int (4 : Int32))] [])) _
    refine XS.goto X31.here hx rfl (pc0 := 54) (pc' := 23) rfl (hb hby d_prog_2_method_1_code_54) (by decide) (by decide) ?_
    show Steps p.tables e below (T31.setTop (mkF m 23 #[.val (.ref ra), .val (.ref rb), .val (.int (4 : Int32))] [])) _
    refine XS.iloadN X31.here hx rfl (hb hby d_prog_2_method_1_code_23) rfl ?_
    show Steps p.tables e below (T31.setTop (mkF m 24 #[.val (.ref ra), .val (.ref rb), .val (.int (4 : Int32))] [(.int (4 : Int32))])) _
    refine XS.aloadN X31.here hx rfl (hb hby d_prog_2_method_1_code_24) rfl rfl ?_
    show Steps p.tables e below (T31.setTop (mkF m 25 #[.val (.ref ra), .val (.ref rb), .val (.int (4 : Int32))] [(.ref rb), (.int (4 : Int32))])) _
    refine X31.arraylength hx (by rw [e31]; exact Ar39.1) (State.isArrayOf_alike hZ.alike Ar39.2.1) (g := (mkF m 25 #[.val (.ref ra), .val (.ref rb), .val (.int (4 : Int32))] [(.ref rb), (.int (4 : Int32))])) rfl rfl (hb hby d_prog_2_method_1_code_25) _ ?_
    rw [len_of S39 N39a]
    show Steps p.tables e below (T31.setTop (mkF m 26 #[.val (.ref ra), .val (.ref rb), .val (.int (4 : Int32))] [(.int (6 : Int32)), (.int (4 : Int32))])) _
    refine XS.icmpNo X31.here hx rfl (hb hby d_prog_2_method_1_code_26) rfl (tlt (by decide : (4 : Int32) < (6 : Int32))).2.1 ?_
    show Steps p.tables e below (T31.setTop (mkF m 29 #[.val (.ref ra), .val (.ref rb), .val (.int (4 : Int32))] [])) _
    refine XS.aloadN X31.here hx rfl (hb hby d_prog_2_method_1_code_29) rfl rfl ?_
    show Steps p.tables e below (T31.setTop (mkF m 30 #[.val (.ref ra), .val (.ref rb), .val (.int (4 : Int32))] [(.ref rb)])) _
    refine XS.iloadN X31.here hx rfl (hb hby d_prog_2_method_1_code_30) rfl ?_
    show Steps p.tables e below (T31.setTop (mkF m 31 #[.val (.ref ra), .val (.ref rb), .val (.int (4 : Int32))] [(.int (4 : Int32)), (.ref rb)])) _
    refine X31.laload hx (j := (4 : Int32)) (v := (.long v4)) (by rw [e31]; exact Ar40.1) (State.isArrayOf_alike hZ.alike Ar40.2.1) Ar40.2.2 hin40 hat40 (g := (mkF m 31 #[.val (.ref ra), .val (.ref rb), .val (.int (4 : Int32))] [(.int (4 : Int32)), (.ref rb)])) rfl rfl (hb hby d_prog_2_method_1_code_31) _ ?_
    show Steps p.tables e below (T31.setTop (mkF m 32 #[.val (.ref ra), .val (.ref rb), .val (.int (4 : Int32))] [(.long v4)])) _
    refine XS.aloadN X31.here hx rfl (hb hby d_prog_2_method_1_code_32) rfl rfl ?_
    show Steps p.tables e below (T31.setTop (mkF m 33 #[.val (.ref ra), .val (.ref rb), .val (.int (4 : Int32))] [(.ref rb), (.long v4)])) _
    refine XS.iloadN X31.here hx rfl (hb hby d_prog_2_method_1_code_33) rfl ?_
    show Steps p.tables e below (T31.setTop (mkF m 34 #[.val (.ref ra), .val (.ref rb), .val (.int (4 : Int32))] [(.int (4 : Int32)), (.ref rb), (.long v4)])) _
    refine XS.iconst X31.here hx rfl (hb hby d_prog_2_method_1_code_34) ?_
    show Steps p.tables e below (T31.setTop (mkF m 35 #[.val (.ref ra), .val (.ref rb), .val (.int (4 : Int32))] [(.int (1 : Int32)), (.int (4 : Int32)), (.ref rb), (.long v4)])) _
    refine XS.iadd X31.here hx rfl (hb hby d_prog_2_method_1_code_35) rfl ?_
    show Steps p.tables e below (T31.setTop (mkF m 36 #[.val (.ref ra), .val (.ref rb), .val (.int (4 : Int32))] [(.int (5 : Int32)), (.ref rb), (.long v4)])) _
    refine X31.laload hx (j := (5 : Int32)) (v := (.long v5)) (by rw [e31]; exact Ar41.1) (State.isArrayOf_alike hZ.alike Ar41.2.1) Ar41.2.2 hin41 hat41 (g := (mkF m 36 #[.val (.ref ra), .val (.ref rb), .val (.int (4 : Int32))] [(.int (5 : Int32)), (.ref rb), (.long v4)])) rfl rfl (hb hby d_prog_2_method_1_code_36) _ ?_
    show Steps p.tables e below (T31.setTop (mkF m 37 #[.val (.ref ra), .val (.ref rb), .val (.int (4 : Int32))] [(.long v5), (.long v4)])) _
    refine XS.lcmp X31.here hx rfl (hb hby d_prog_2_method_1_code_37) rfl ?_
    show Steps p.tables e below (T31.setTop (mkF m 38 #[.val (.ref ra), .val (.ref rb), .val (.int (4 : Int32))] [(.int (lcmpW v4 v5))])) _
    refine XS.ifYes X31.here hx rfl (pc0 := 38) (pc' := 51) rfl (hb hby d_prog_2_method_1_code_38) rfl ((if0 _ _).trans (tlt ((lw_lt _ _).mpr (o4 : v4 < v5))).1) (by decide) (by decide) ?_
    show Steps p.tables e below (T31.setTop (mkF m 51 #[.val (.ref ra), .val (.ref rb), .val (.int (4 : Int32))] [])) _
    refine XS.iinc X31.here hx rfl (hb hby d_prog_2_method_1_code_51) rfl (l' := #[.val (.ref ra), .val (.ref rb), .val (.int (6 : Int32))]) rfl ?_
    show Steps p.tables e below (T31.setTop (mkF m 54 #[.val (.ref ra), .val (.ref rb), .val (.int (6 : Int32))] [])) _
    refine XS.goto X31.here hx rfl (pc0 := 54) (pc' := 23) rfl (hb hby d_prog_2_method_1_code_54) (by decide) (by decide) ?_
    show Steps p.tables e below (T31.setTop (mkF m 23 #[.val (.ref ra), .val (.ref rb), .val (.int (6 : Int32))] [])) _
    refine XS.iloadN X31.here hx rfl (hb hby d_prog_2_method_1_code_23) rfl ?_
    show Steps p.tables e below (T31.setTop (mkF m 24 #[.val (.ref ra), .val (.ref rb), .val (.int (6 : Int32))] [(.int (6 : Int32))])) _
    refine XS.aloadN X31.here hx rfl (hb hby d_prog_2_method_1_code_24) rfl rfl ?_
    show Steps p.tables e below (T31.setTop (mkF m 25 #[.val (.ref ra), .val (.ref rb), .val (.int (6 : Int32))] [(.ref rb), (.int (6 : Int32))])) _
    refine X31.arraylength hx (by rw [e31]; exact Ar42.1) (State.isArrayOf_alike hZ.alike Ar42.2.1) (g := (mkF m 25 #[.val (.ref ra), .val (.ref rb), .val (.int (6 : Int32))] [(.ref rb), (.int (6 : Int32))])) rfl rfl (hb hby d_prog_2_method_1_code_25) _ ?_
    rw [len_of S42 N42a]
    show Steps p.tables e below (T31.setTop (mkF m 26 #[.val (.ref ra), .val (.ref rb), .val (.int (6 : Int32))] [(.int (6 : Int32)), (.int (6 : Int32))])) _
    refine XS.icmpYes X31.here hx rfl (pc0 := 26) (pc' := 57) rfl (hb hby d_prog_2_method_1_code_26) rfl (flt (by decide : ¬ ((6 : Int32) < (6 : Int32)))).2.1 (by decide) (by decide) ?_
    show Steps p.tables e below (T31.setTop (mkF m 57 #[.val (.ref ra), .val (.ref rb), .val (.int (6 : Int32))] [])) _
    refine XS.aloadN X31.here hx rfl (hb hby d_prog_2_method_1_code_57) rfl rfl ?_
    show Steps p.tables e below (T31.setTop (mkF m 58 #[.val (.ref ra), .val (.ref rb), .val (.int (6 : Int32))] [(.ref ra)])) _
    refine XS.aloadN X31.here hx rfl (hb hby d_prog_2_method_1_code_58) rfl rfl ?_
    show Steps p.tables e below (T31.setTop (mkF m 59 #[.val (.ref ra), .val (.ref rb), .val (.int (6 : Int32))] [(.ref rb), (.ref ra)])) _
    refine st43 _ ?_
    show Steps p.tables e below (T43.setTop (mkF m 62 #[.val (.ref ra), .val (.ref rb), .val (.int (6 : Int32))] [(.ref b43), (.ref ra)])) _
    refine st44 _ ?_
    show Steps p.tables e below (T44.setTop (mkF m 65 #[.val (.ref ra), .val (.ref rb), .val (.int (6 : Int32))] [(.ref b43), (.ref ra)])) _
    refine st45 _ ?_
    show Steps p.tables e below (T45.setTop (mkF m 68 #[.val (.ref ra), .val (.ref rb), .val (.int (6 : Int32))] [])) _
    exact X45.returnOut hx Bd.returns (hb hby d_prog_2_method_1_code_68) hr
  · show Q_ini6 Z ra rb kb v0 v1 v2 v3 v4 v5 h0 n0 _ T45.heap _
    rw [e45]
    exact ⟨rfl, N45, kp45, b43, kb, g_b43, sz_b43, Fd_bounds_ra_45, Av_b43_43_c45, Ex_b43_43_c45⟩
theorem d_prog_2_method_3_code_0 : decode prog_2_method_3_code 0 = .ok (.aload_n 0, 1) := by decide +kernel
theorem d_prog_2_method_3_code_1 : decode prog_2_method_3_code 1 = .ok (.getfield 22, 3) := by decide +kernel
theorem d_prog_2_method_3_code_4 : decode prog_2_method_3_code 4 = .ok (.arraylength, 1) := by decide +kernel
theorem d_prog_2_method_3_code_5 : decode prog_2_method_3_code 5 = .ok (.iconst 2, 1) := by decide +kernel
theorem d_prog_2_method_3_code_6 : decode prog_2_method_3_code 6 = .ok (.idiv, 1) := by decide +kernel
theorem d_prog_2_method_3_code_7 : decode prog_2_method_3_code 7 = .ok (.ireturn, 1) := by decide +kernel
theorem ef_dim (m : MethodId) (ra : Addr) : entryFrame m #[(.ref ra)] 1 = mkF m 0 #[.val (.ref ra)] [] := by first | (simp [entryFrame, mkF, argsToLocals, Value.category]; done) | rfl
def Q_dim (Z : State) (ra : Addr) (ax : Addr) (ka : ClassId) (nn : Int32) (vs : List Int64) (h0 : Heap) (n0 : Nat) (v : Option Value) (h : Heap) (L : List Loc) : Prop := (∃ z : Int32, v = some (.int z) ∧ (z = nn / (2 : Int32))) ∧ Fr n0 L ∧ h = h0
set_option maxRecDepth 65536 in
set_option maxHeartbeats 40000000 in
theorem rm_dim (l : Launch) (Z : State) (a0 : Array Value) (hw : ∀ d ∈ tables_1, d.before a0 Z = true) (ws : List Jvm.Cond) (ra : Addr) (ax : Addr) (ka : ClassId) (nn : Int32) (vs : List Int64) (h0 : Heap) (n0 : Nat) (Z0 : n0 ≤ h0.size) (F_b : Fld Z h0 ra "com/example/chronotriple/chronotriple/Box" "bounds" "[J" (.ref ax)) (Av : Arv Z h0 ax ka .long nn (vs.map Value.long) (.long 0)) :
    MetFree l (⟨"com/example/chronotriple/chronotriple/Box", "dimensions", "()I"⟩ : MethodName) (head1 (Jvm.Cond.code (⟨"com/example/chronotriple/chronotriple/Box", "dimensions", "()I"⟩ : MethodName) prog_2_method_3_code 1 (some .int) :: ws) ({ frames := 0, cells := 0, slots := 0, locals := 0 } : Room)) (fun a U => a = #[(.ref ra)] ∧ Z.Warmed39 U.vm ∧ U.heap = h0) (fun _ _ _ _ _ => True) (fun _ U o U' => ∃ v L, o = .returned v ∧ Q_dim Z ra ax ka nn vs h0 n0 v U'.heap L ∧ FrameEnd U o U' L ({ frames := 0, cells := 0, slots := 0, locals := 0 } : Room).cells ({ frames := 0, cells := 0, slots := 0, locals := 0 } : Room).slots) := by
  refine MetFree.of_bodySF (plainFor_of_name pn_0) hisR ?_
  intro p e s m args below meth c s₁ Bd hml0 hP hK
  obtain ⟨rfl, hZ, hh⟩ := hP
  have hx := Bd.exec
  have hby := Bd.bytes
  have hml : c.maxLocals = 1 := hml0
  have hown : s.vm.findClass "com/example/chronotriple/chronotriple/Box" = some m.cls := findClass_of_methodNamed Bd.named
  have hnm := (name_of_methodNamed Bd.named Bd.method).1
  have X0 : Stand p l e ({ frames := 0, cells := 0, slots := 0, locals := 0 } : Room) s m #[(.ref ra)] below meth c s₁ [] 0 0 := Stand.of_body Bd
  have e0 : s₁.heap = h0 := by rw [← hh, Bd.state]; rfl
  have N0 := Fr.nil n0
  have pre0 : ∀ t, Steps p.tables e below (s₁.setTop (mkF m 0 #[.val (.ref ra)] [])) t → Steps p.tables e below (s₁.setTop (entryFrame m #[(.ref ra)] 1)) t := fun t k => castTop (ef_dim m ra) k
  obtain ⟨T46, X46, e46, st46⟩ := getF X0 hx hZ hown (host := "") (Or.inl (hw _ (List.mem_of_getElem? (i := 28) rfl))) Via.refl e0 F_b (g := (mkF m 1 #[.val (.ref ra)] [(.ref ra)])) rfl rfl (hb hby d_prog_2_method_3_code_1)
  obtain ⟨cl47, Ar47, -, S47, N47a, -, -⟩ := id Av
  obtain ⟨fs, hr, hrun, hended, hW, hsame⟩ := X46.leave (v := some (.int (nn / (2 : Int32)))) (fun h => by rw [Bd.returns] at h; cases h)
  refine ⟨_, _, pre0 _ ?_, hrun, hended, _, _, rfl, ?_, ⟨_, rfl⟩, hW, hsame.mono (by decide) (by decide)⟩
  · show Steps p.tables e below (s₁.setTop (mkF m 0 #[.val (.ref ra)] [])) _
    refine XS.aloadN X0.here hx rfl (hb hby d_prog_2_method_3_code_0) rfl rfl ?_
    show Steps p.tables e below (s₁.setTop (mkF m 1 #[.val (.ref ra)] [(.ref ra)])) _
    refine st46 _ ?_
    show Steps p.tables e below (T46.setTop (mkF m 4 #[.val (.ref ra)] [(.ref ax)])) _
    refine X46.arraylength hx (by rw [e46]; exact Ar47.1) (State.isArrayOf_alike hZ.alike Ar47.2.1) (g := (mkF m 4 #[.val (.ref ra)] [(.ref ax)])) rfl rfl (hb hby d_prog_2_method_3_code_4) _ ?_
    rw [len_of S47 N47a]
    show Steps p.tables e below (T46.setTop (mkF m 5 #[.val (.ref ra)] [(.int nn)])) _
    refine XS.iconst X46.here hx rfl (hb hby d_prog_2_method_3_code_5) ?_
    show Steps p.tables e below (T46.setTop (mkF m 6 #[.val (.ref ra)] [(.int (2 : Int32)), (.int nn)])) _
    refine XS.idiv X46.here hx rfl (hb hby d_prog_2_method_3_code_6) rfl (by decide) ?_
    show Steps p.tables e below (T46.setTop (mkF m 7 #[.val (.ref ra)] [(.int (nn / (2 : Int32)))])) _
    exact retI X46 hx Bd.returns (hb hby d_prog_2_method_3_code_7) hr
  · show Q_dim Z ra ax ka nn vs h0 n0 _ T46.heap _
    rw [e46]
    exact ⟨⟨_, rfl, rfl⟩, N0, rfl⟩
theorem d_prog_2_method_4_code_0 : decode prog_2_method_4_code 0 = .ok (.aload_n 0, 1) := by decide +kernel
theorem d_prog_2_method_4_code_1 : decode prog_2_method_4_code 1 = .ok (.getfield 22, 3) := by decide +kernel
theorem d_prog_2_method_4_code_4 : decode prog_2_method_4_code 4 = .ok (.iconst 2, 1) := by decide +kernel
theorem d_prog_2_method_4_code_5 : decode prog_2_method_4_code 5 = .ok (.iload_n 1, 1) := by decide +kernel
theorem d_prog_2_method_4_code_6 : decode prog_2_method_4_code 6 = .ok (.imul, 1) := by decide +kernel
theorem d_prog_2_method_4_code_7 : decode prog_2_method_4_code 7 = .ok (.laload, 1) := by decide +kernel
theorem d_prog_2_method_4_code_8 : decode prog_2_method_4_code 8 = .ok (.lreturn, 1) := by decide +kernel
theorem ef_frm (m : MethodId) (ra : Addr) (vi : Int32) : entryFrame m #[(.ref ra), (.int vi)] 2 = mkF m 0 #[.val (.ref ra), .val (.int vi)] [] := by first | (simp [entryFrame, mkF, argsToLocals, Value.category]; done) | rfl
def Q_frm (Z : State) (ra : Addr) (vi : Int32) (ax : Addr) (ka : ClassId) (nn : Int32) (vs : List Int64) (h0 : Heap) (n0 : Nat) (v : Option Value) (h : Heap) (L : List Loc) : Prop := (∃ z : Int64, v = some (.long z) ∧ (z = vs.getD ((2 : Int32) * vi).toNatClampNeg 0)) ∧ Fr n0 L ∧ h = h0
set_option maxRecDepth 65536 in
set_option maxHeartbeats 40000000 in
theorem rm_frm (l : Launch) (Z : State) (a0 : Array Value) (hw : ∀ d ∈ tables_1, d.before a0 Z = true) (ws : List Jvm.Cond) (ra : Addr) (vi : Int32) (ax : Addr) (ka : ClassId) (nn : Int32) (vs : List Int64) (h0 : Heap) (n0 : Nat) (Z0 : n0 ≤ h0.size) (F_b : Fld Z h0 ra "com/example/chronotriple/chronotriple/Box" "bounds" "[J" (.ref ax)) (Av : Arv Z h0 ax ka .long nn (vs.map Value.long) (.long 0)) (hi : ¬ ((2 : Int32) * vi) < 0 ∧ ((2 : Int32) * vi) < nn) :
    MetFree l (⟨"com/example/chronotriple/chronotriple/Box", "from", "(I)J"⟩ : MethodName) (head1 (Jvm.Cond.code (⟨"com/example/chronotriple/chronotriple/Box", "from", "(I)J"⟩ : MethodName) prog_2_method_4_code 2 (some .long) :: ws) ({ frames := 0, cells := 0, slots := 0, locals := 0 } : Room)) (fun a U => a = #[(.ref ra), (.int vi)] ∧ Z.Warmed39 U.vm ∧ U.heap = h0) (fun _ _ _ _ _ => True) (fun _ U o U' => ∃ v L, o = .returned v ∧ Q_frm Z ra vi ax ka nn vs h0 n0 v U'.heap L ∧ FrameEnd U o U' L ({ frames := 0, cells := 0, slots := 0, locals := 0 } : Room).cells ({ frames := 0, cells := 0, slots := 0, locals := 0 } : Room).slots) := by
  refine MetFree.of_bodySF (plainFor_of_name pn_0) hisR ?_
  intro p e s m args below meth c s₁ Bd hml0 hP hK
  obtain ⟨rfl, hZ, hh⟩ := hP
  have hx := Bd.exec
  have hby := Bd.bytes
  have hml : c.maxLocals = 2 := hml0
  have hown : s.vm.findClass "com/example/chronotriple/chronotriple/Box" = some m.cls := findClass_of_methodNamed Bd.named
  have hnm := (name_of_methodNamed Bd.named Bd.method).1
  have X0 : Stand p l e ({ frames := 0, cells := 0, slots := 0, locals := 0 } : Room) s m #[(.ref ra), (.int vi)] below meth c s₁ [] 0 0 := Stand.of_body Bd
  have e0 : s₁.heap = h0 := by rw [← hh, Bd.state]; rfl
  have N0 := Fr.nil n0
  have pre0 : ∀ t, Steps p.tables e below (s₁.setTop (mkF m 0 #[.val (.ref ra), .val (.int vi)] [])) t → Steps p.tables e below (s₁.setTop (entryFrame m #[(.ref ra), (.int vi)] 2)) t := fun t k => castTop (ef_frm m ra vi) k
  obtain ⟨T48, X48, e48, st48⟩ := getF X0 hx hZ hown (host := "") (Or.inl (hw _ (List.mem_of_getElem? (i := 28) rfl))) Via.refl e0 F_b (g := (mkF m 1 #[.val (.ref ra), .val (.int vi)] [(.ref ra)])) rfl rfl (hb hby d_prog_2_method_4_code_1)
  obtain ⟨fs, hr, hrun, hended, hW, hsame⟩ := X48.leave (v := some (.long (vs.getD (((2 : Int32) * vi)).toNatClampNeg 0))) (fun h => by rw [Bd.returns] at h; cases h)
  refine ⟨_, _, pre0 _ ?_, hrun, hended, _, _, rfl, ?_, ⟨_, rfl⟩, hW, hsame.mono (by decide) (by decide)⟩
  · show Steps p.tables e below (s₁.setTop (mkF m 0 #[.val (.ref ra), .val (.int vi)] [])) _
    refine XS.aloadN X0.here hx rfl (hb hby d_prog_2_method_4_code_0) rfl rfl ?_
    show Steps p.tables e below (s₁.setTop (mkF m 1 #[.val (.ref ra), .val (.int vi)] [(.ref ra)])) _
    refine st48 _ ?_
    show Steps p.tables e below (T48.setTop (mkF m 4 #[.val (.ref ra), .val (.int vi)] [(.ref ax)])) _
    refine XS.iconst X48.here hx rfl (hb hby d_prog_2_method_4_code_4) ?_
    show Steps p.tables e below (T48.setTop (mkF m 5 #[.val (.ref ra), .val (.int vi)] [(.int (2 : Int32)), (.ref ax)])) _
    refine XS.iloadN X48.here hx rfl (hb hby d_prog_2_method_4_code_5) rfl ?_
    show Steps p.tables e below (T48.setTop (mkF m 6 #[.val (.ref ra), .val (.int vi)] [(.int vi), (.int (2 : Int32)), (.ref ax)])) _
    refine XS.imul X48.here hx rfl (hb hby d_prog_2_method_4_code_6) rfl ?_
    show Steps p.tables e below (T48.setTop (mkF m 7 #[.val (.ref ra), .val (.int vi)] [(.int ((2 : Int32) * vi)), (.ref ax)])) _
    obtain ⟨cl49, Ar49, q49, S49, N49a, H49, G49⟩ := id Av
    have hin49 : ¬ (((2 : Int32) * vi) < 0 ∨ cl49.slots.size ≤ (((2 : Int32) * vi)).toNatClampNeg) := inb_of S49 hi
    have hat49 : cl49.slots[(((2 : Int32) * vi)).toNatClampNeg]? = some (.long (vs.getD (((2 : Int32) * vi)).toNatClampNeg 0)) := H49.at hin49 (own_getD _ _)
    refine X48.laload hx (j := ((2 : Int32) * vi)) (v := (.long (vs.getD (((2 : Int32) * vi)).toNatClampNeg 0))) (by rw [e48]; exact Ar49.1) (State.isArrayOf_alike hZ.alike Ar49.2.1) Ar49.2.2 hin49 hat49 (g := (mkF m 7 #[.val (.ref ra), .val (.int vi)] [(.int ((2 : Int32) * vi)), (.ref ax)])) rfl rfl (hb hby d_prog_2_method_4_code_7) _ ?_
    show Steps p.tables e below (T48.setTop (mkF m 8 #[.val (.ref ra), .val (.int vi)] [(.long (vs.getD (((2 : Int32) * vi)).toNatClampNeg 0))])) _
    exact X48.lreturnOut hx Bd.returns (hb hby d_prog_2_method_4_code_8) hr
  · show Q_frm Z ra vi ax ka nn vs h0 n0 _ T48.heap _
    rw [e48]
    exact ⟨⟨_, rfl, rfl⟩, N0, rfl⟩
theorem d_prog_2_method_5_code_0 : decode prog_2_method_5_code 0 = .ok (.aload_n 0, 1) := by decide +kernel
theorem d_prog_2_method_5_code_1 : decode prog_2_method_5_code 1 = .ok (.getfield 22, 3) := by decide +kernel
theorem d_prog_2_method_5_code_4 : decode prog_2_method_5_code 4 = .ok (.iconst 2, 1) := by decide +kernel
theorem d_prog_2_method_5_code_5 : decode prog_2_method_5_code 5 = .ok (.iload_n 1, 1) := by decide +kernel
theorem d_prog_2_method_5_code_6 : decode prog_2_method_5_code 6 = .ok (.imul, 1) := by decide +kernel
theorem d_prog_2_method_5_code_7 : decode prog_2_method_5_code 7 = .ok (.iconst 1, 1) := by decide +kernel
theorem d_prog_2_method_5_code_8 : decode prog_2_method_5_code 8 = .ok (.iadd, 1) := by decide +kernel
theorem d_prog_2_method_5_code_9 : decode prog_2_method_5_code 9 = .ok (.laload, 1) := by decide +kernel
theorem d_prog_2_method_5_code_10 : decode prog_2_method_5_code 10 = .ok (.lreturn, 1) := by decide +kernel
theorem ef_to (m : MethodId) (ra : Addr) (vi : Int32) : entryFrame m #[(.ref ra), (.int vi)] 2 = mkF m 0 #[.val (.ref ra), .val (.int vi)] [] := by first | (simp [entryFrame, mkF, argsToLocals, Value.category]; done) | rfl
def Q_to (Z : State) (ra : Addr) (vi : Int32) (ax : Addr) (ka : ClassId) (nn : Int32) (vs : List Int64) (h0 : Heap) (n0 : Nat) (v : Option Value) (h : Heap) (L : List Loc) : Prop := (∃ z : Int64, v = some (.long z) ∧ (z = vs.getD (((2 : Int32) * vi) + (1 : Int32)).toNatClampNeg 0)) ∧ Fr n0 L ∧ h = h0
set_option maxRecDepth 65536 in
set_option maxHeartbeats 40000000 in
theorem rm_to (l : Launch) (Z : State) (a0 : Array Value) (hw : ∀ d ∈ tables_1, d.before a0 Z = true) (ws : List Jvm.Cond) (ra : Addr) (vi : Int32) (ax : Addr) (ka : ClassId) (nn : Int32) (vs : List Int64) (h0 : Heap) (n0 : Nat) (Z0 : n0 ≤ h0.size) (F_b : Fld Z h0 ra "com/example/chronotriple/chronotriple/Box" "bounds" "[J" (.ref ax)) (Av : Arv Z h0 ax ka .long nn (vs.map Value.long) (.long 0)) (hi : ¬ (((2 : Int32) * vi) + (1 : Int32)) < 0 ∧ (((2 : Int32) * vi) + (1 : Int32)) < nn) :
    MetFree l (⟨"com/example/chronotriple/chronotriple/Box", "to", "(I)J"⟩ : MethodName) (head1 (Jvm.Cond.code (⟨"com/example/chronotriple/chronotriple/Box", "to", "(I)J"⟩ : MethodName) prog_2_method_5_code 2 (some .long) :: ws) ({ frames := 0, cells := 0, slots := 0, locals := 0 } : Room)) (fun a U => a = #[(.ref ra), (.int vi)] ∧ Z.Warmed39 U.vm ∧ U.heap = h0) (fun _ _ _ _ _ => True) (fun _ U o U' => ∃ v L, o = .returned v ∧ Q_to Z ra vi ax ka nn vs h0 n0 v U'.heap L ∧ FrameEnd U o U' L ({ frames := 0, cells := 0, slots := 0, locals := 0 } : Room).cells ({ frames := 0, cells := 0, slots := 0, locals := 0 } : Room).slots) := by
  refine MetFree.of_bodySF (plainFor_of_name pn_0) hisR ?_
  intro p e s m args below meth c s₁ Bd hml0 hP hK
  obtain ⟨rfl, hZ, hh⟩ := hP
  have hx := Bd.exec
  have hby := Bd.bytes
  have hml : c.maxLocals = 2 := hml0
  have hown : s.vm.findClass "com/example/chronotriple/chronotriple/Box" = some m.cls := findClass_of_methodNamed Bd.named
  have hnm := (name_of_methodNamed Bd.named Bd.method).1
  have X0 : Stand p l e ({ frames := 0, cells := 0, slots := 0, locals := 0 } : Room) s m #[(.ref ra), (.int vi)] below meth c s₁ [] 0 0 := Stand.of_body Bd
  have e0 : s₁.heap = h0 := by rw [← hh, Bd.state]; rfl
  have N0 := Fr.nil n0
  have pre0 : ∀ t, Steps p.tables e below (s₁.setTop (mkF m 0 #[.val (.ref ra), .val (.int vi)] [])) t → Steps p.tables e below (s₁.setTop (entryFrame m #[(.ref ra), (.int vi)] 2)) t := fun t k => castTop (ef_to m ra vi) k
  obtain ⟨T50, X50, e50, st50⟩ := getF X0 hx hZ hown (host := "") (Or.inl (hw _ (List.mem_of_getElem? (i := 28) rfl))) Via.refl e0 F_b (g := (mkF m 1 #[.val (.ref ra), .val (.int vi)] [(.ref ra)])) rfl rfl (hb hby d_prog_2_method_5_code_1)
  obtain ⟨fs, hr, hrun, hended, hW, hsame⟩ := X50.leave (v := some (.long (vs.getD ((((2 : Int32) * vi) + (1 : Int32))).toNatClampNeg 0))) (fun h => by rw [Bd.returns] at h; cases h)
  refine ⟨_, _, pre0 _ ?_, hrun, hended, _, _, rfl, ?_, ⟨_, rfl⟩, hW, hsame.mono (by decide) (by decide)⟩
  · show Steps p.tables e below (s₁.setTop (mkF m 0 #[.val (.ref ra), .val (.int vi)] [])) _
    refine XS.aloadN X0.here hx rfl (hb hby d_prog_2_method_5_code_0) rfl rfl ?_
    show Steps p.tables e below (s₁.setTop (mkF m 1 #[.val (.ref ra), .val (.int vi)] [(.ref ra)])) _
    refine st50 _ ?_
    show Steps p.tables e below (T50.setTop (mkF m 4 #[.val (.ref ra), .val (.int vi)] [(.ref ax)])) _
    refine XS.iconst X50.here hx rfl (hb hby d_prog_2_method_5_code_4) ?_
    show Steps p.tables e below (T50.setTop (mkF m 5 #[.val (.ref ra), .val (.int vi)] [(.int (2 : Int32)), (.ref ax)])) _
    refine XS.iloadN X50.here hx rfl (hb hby d_prog_2_method_5_code_5) rfl ?_
    show Steps p.tables e below (T50.setTop (mkF m 6 #[.val (.ref ra), .val (.int vi)] [(.int vi), (.int (2 : Int32)), (.ref ax)])) _
    refine XS.imul X50.here hx rfl (hb hby d_prog_2_method_5_code_6) rfl ?_
    show Steps p.tables e below (T50.setTop (mkF m 7 #[.val (.ref ra), .val (.int vi)] [(.int ((2 : Int32) * vi)), (.ref ax)])) _
    refine XS.iconst X50.here hx rfl (hb hby d_prog_2_method_5_code_7) ?_
    show Steps p.tables e below (T50.setTop (mkF m 8 #[.val (.ref ra), .val (.int vi)] [(.int (1 : Int32)), (.int ((2 : Int32) * vi)), (.ref ax)])) _
    refine XS.iadd X50.here hx rfl (hb hby d_prog_2_method_5_code_8) rfl ?_
    show Steps p.tables e below (T50.setTop (mkF m 9 #[.val (.ref ra), .val (.int vi)] [(.int (((2 : Int32) * vi) + (1 : Int32))), (.ref ax)])) _
    obtain ⟨cl51, Ar51, q51, S51, N51a, H51, G51⟩ := id Av
    have hin51 : ¬ ((((2 : Int32) * vi) + (1 : Int32)) < 0 ∨ cl51.slots.size ≤ ((((2 : Int32) * vi) + (1 : Int32))).toNatClampNeg) := inb_of S51 hi
    have hat51 : cl51.slots[((((2 : Int32) * vi) + (1 : Int32))).toNatClampNeg]? = some (.long (vs.getD ((((2 : Int32) * vi) + (1 : Int32))).toNatClampNeg 0)) := H51.at hin51 (own_getD _ _)
    refine X50.laload hx (j := (((2 : Int32) * vi) + (1 : Int32))) (v := (.long (vs.getD ((((2 : Int32) * vi) + (1 : Int32))).toNatClampNeg 0))) (by rw [e50]; exact Ar51.1) (State.isArrayOf_alike hZ.alike Ar51.2.1) Ar51.2.2 hin51 hat51 (g := (mkF m 9 #[.val (.ref ra), .val (.int vi)] [(.int (((2 : Int32) * vi) + (1 : Int32))), (.ref ax)])) rfl rfl (hb hby d_prog_2_method_5_code_9) _ ?_
    show Steps p.tables e below (T50.setTop (mkF m 10 #[.val (.ref ra), .val (.int vi)] [(.long (vs.getD ((((2 : Int32) * vi) + (1 : Int32))).toNatClampNeg 0))])) _
    exact X50.lreturnOut hx Bd.returns (hb hby d_prog_2_method_5_code_10) hr
  · show Q_to Z ra vi ax ka nn vs h0 n0 _ T50.heap _
    rw [e50]
    exact ⟨⟨_, rfl, rfl⟩, N0, rfl⟩
theorem pn_1 : plainName "java/util/Arrays" = true := by first | (simp [plainName, overriddenIn]; done) | decide +kernel
theorem d_jdk_65_method_124_code_0 : decode jdk_65_method_124_code 0 = .ok (.iload_n 1, 1) := by decide +kernel
theorem d_jdk_65_method_124_code_1 : decode jdk_65_method_124_code 1 = .ok (.aload_n 0, 1) := by decide +kernel
theorem d_jdk_65_method_124_code_2 : decode jdk_65_method_124_code 2 = .ok (.arraylength, 1) := by decide +kernel
theorem d_jdk_65_method_124_code_3 : decode jdk_65_method_124_code 3 = .ok (.if_icmp .ne 11, 3) := by decide +kernel
theorem d_jdk_65_method_124_code_14 : decode jdk_65_method_124_code 14 = .ok (.iload_n 1, 1) := by decide +kernel
theorem d_jdk_65_method_124_code_15 : decode jdk_65_method_124_code 15 = .ok (.newarray .long, 2) := by decide +kernel
theorem d_jdk_65_method_124_code_17 : decode jdk_65_method_124_code 17 = .ok (.astore_n 2, 1) := by decide +kernel
theorem d_jdk_65_method_124_code_18 : decode jdk_65_method_124_code 18 = .ok (.aload_n 0, 1) := by decide +kernel
theorem d_jdk_65_method_124_code_19 : decode jdk_65_method_124_code 19 = .ok (.iconst 0, 1) := by decide +kernel
theorem d_jdk_65_method_124_code_20 : decode jdk_65_method_124_code 20 = .ok (.aload_n 2, 1) := by decide +kernel
theorem d_jdk_65_method_124_code_21 : decode jdk_65_method_124_code 21 = .ok (.iconst 0, 1) := by decide +kernel
theorem d_jdk_65_method_124_code_22 : decode jdk_65_method_124_code 22 = .ok (.aload_n 0, 1) := by decide +kernel
theorem d_jdk_65_method_124_code_23 : decode jdk_65_method_124_code 23 = .ok (.arraylength, 1) := by decide +kernel
theorem d_jdk_65_method_124_code_24 : decode jdk_65_method_124_code 24 = .ok (.iload_n 1, 1) := by decide +kernel
theorem d_jdk_65_method_124_code_25 : decode jdk_65_method_124_code 25 = .ok (.invokestatic 304, 3) := by decide +kernel
theorem pd_0 : parseMethodDescriptor "(II)I" = some ⟨[.int, .int], some .int⟩ := by decide +kernel
theorem d_jdk_65_method_124_code_28 : decode jdk_65_method_124_code 28 = .ok (.invokestatic 150, 3) := by decide +kernel
theorem d_jdk_65_method_124_code_31 : decode jdk_65_method_124_code 31 = .ok (.aload_n 2, 1) := by decide +kernel
theorem d_jdk_65_method_124_code_32 : decode jdk_65_method_124_code 32 = .ok (.areturn, 1) := by decide +kernel
theorem ef_cpo0 (m : MethodId) (ra : Addr) : entryFrame m #[(.ref ra), (.int (2 : Int32))] 3 = mkF m 0 #[.val (.ref ra), .val (.int (2 : Int32)), .unset] [] := by first | (simp [entryFrame, mkF, argsToLocals, Value.category]; done) | rfl
def Q_cpo0 (Z : State) (ra : Addr) (ka : ClassId) (h0 : Heap) (n0 : Nat) (v : Option Value) (h : Heap) (L : List Loc) : Prop := (∃ z : Addr, v = some (.ref z) ∧ (n0 ≤ z ∧ h0.size ≤ z ∧ (∃ k : ClassId, Arv Z h z k .long (2 : Int32) [(.long (0 : Int64)), (.long (0 : Int64))] (.long (0 : Int64))) ∧ Exa Z h z "[J")) ∧ Fr n0 L ∧ Keep h0 h []
set_option maxRecDepth 65536 in
set_option maxHeartbeats 40000000 in
theorem rm_cpo0 (l : Launch) (Z : State) (a0 : Array Value) (hw : ∀ d ∈ tables_1, d.before a0 Z = true) (ws : List Jvm.Cond) (ra : Addr) (ka : ClassId) (h0 : Heap) (n0 : Nat) (Z0 : n0 ≤ h0.size) (Av : Arv Z h0 ra ka .long (0 : Int32) [] (.long (0 : Int64))) :
    MetFree l (⟨"java/util/Arrays", "copyOf", "([JI)[J"⟩ : MethodName) (head1 (Jvm.Cond.code (⟨"java/util/Arrays", "copyOf", "([JI)[J"⟩ : MethodName) jdk_65_method_124_code 3 (some (.array .long)) :: ws) ({ frames := 1, cells := 1, slots := 2, locals := 18 } : Room)) (fun a U => a = #[(.ref ra), (.int (2 : Int32))] ∧ Z.Warmed39 U.vm ∧ U.heap = h0) (fun _ _ _ _ _ => True) (fun _ U o U' => ∃ v L, o = .returned v ∧ Q_cpo0 Z ra ka h0 n0 v U'.heap L ∧ FrameEnd U o U' L ({ frames := 1, cells := 1, slots := 2, locals := 18 } : Room).cells ({ frames := 1, cells := 1, slots := 2, locals := 18 } : Room).slots) := by
  refine MetFree.of_bodySF (plainFor_of_name pn_1) hisR ?_
  intro p e s m args below meth c s₁ Bd hml0 hP hK
  obtain ⟨rfl, hZ, hh⟩ := hP
  have hx := Bd.exec
  have hby := Bd.bytes
  have hml : c.maxLocals = 3 := hml0
  have hown : s.vm.findClass "java/util/Arrays" = some m.cls := findClass_of_methodNamed Bd.named
  have hnm := (name_of_methodNamed Bd.named Bd.method).1
  have X0 : Stand p l e ({ frames := 1, cells := 1, slots := 2, locals := 18 } : Room) s m #[(.ref ra), (.int (2 : Int32))] below meth c s₁ [] 0 0 := Stand.of_body Bd
  have e0 : s₁.heap = h0 := by rw [← hh, Bd.state]; rfl
  have N0 := Fr.nil n0
  have pre0 : ∀ t, Steps p.tables e below (s₁.setTop (mkF m 0 #[.val (.ref ra), .val (.int (2 : Int32)), .unset] [])) t → Steps p.tables e below (s₁.setTop (entryFrame m #[(.ref ra), (.int (2 : Int32))] 3)) t := fun t k => castTop (ef_cpo0 m ra) k
  have kp0 : Keep h0 h0 [] := Keep.refl h0 _
  obtain ⟨cl52, Ar52, -, S52, N52a, -, -⟩ := id Av
  obtain ⟨T53, h53, k53, X53, e53, E53, A53, B53, st53⟩ := newPE X0 hx hZ (hw _ (List.mem_of_getElem? (i := 9) rfl)) e0 (g := (mkF m 15 #[.val (.ref ra), .val (.int (2 : Int32)), .unset] [(.int (2 : Int32))])) rfl (hb hby d_jdk_65_method_124_code_15) rfl (by decide) (cap := 2) (by decide) (by decide) (by decide) (by decide) (ad := "[J") (by decide)
  obtain ⟨b53, g53⟩ : ∃ z, z = h0.size := ⟨_, rfl⟩
  rw [← g53] at A53 B53 st53
  have ne_ra_b53 : ra ≠ b53 := Nat.ne_of_lt (Nat.lt_of_lt_of_le Av.lt (Nat.le_of_eq g53.symm))
  have g_b53 : n0 ≤ b53 := Nat.le_trans Z0 (Nat.le_of_eq g53.symm)
  have sz_b53 : h0.size ≤ b53 := Nat.le_trans kp0.1 (Nat.le_of_eq g53.symm)
  have Av_c53 := Av.ext E53
  have Z53 : n0 ≤ h53.size := Nat.le_trans Z0 E53.1
  have kp53 := kp0.ext E53
  have Av_b53_53 : Arv Z h53 b53 k53 .long (2 : Int32) [(.long (0 : Int64)), (.long (0 : Int64))] (.long (0 : Int64)) := (Arv.new A53 (by decide)).pad (pad_rep [] (.long (0 : Int64)) 2)
  have Ex_b53_53 := B53
  obtain ⟨cl54, Ar54, -, S54, N54a, -, -⟩ := id Av_c53
  obtain ⟨_, _, ⟨T55, L55, k55, n55⟩, -, X55, ⟨Lc55, hQ55, l55, y55, z55⟩, st55⟩ := Jvm.LawKit.callS X53 hx (y := (⟨"java/lang/Math", "min", "(II)I"⟩ : MethodName)) hown (mvT hZ (hw _ (List.mem_of_getElem? (i := 39) rfl))) (mvT hZ (hw _ (List.mem_of_getElem? (i := 40) rfl))) (mvT hZ (hw _ (List.mem_of_getElem? (i := 2) rfl))) (mvT hZ (hw _ (List.mem_of_getElem? (i := 41) rfl))) (by decide) (backOf (W := 4) (rm_mini l Z a0 hw [] (0 : Int32) (2 : Int32) h53 n0 Z53 ) hZ (hw _ (List.mem_of_getElem? (i := 41) rfl)) (hw _ (List.mem_of_getElem? (i := 2) rfl)) (by decide) (by decide)) (g := (mkF m 25 #[.val (.ref ra), .val (.int (2 : Int32)), .val (.ref b53)] [(.int (2 : Int32)), (.int (0 : Int32)), (.int (0 : Int32)), (.ref b53), (.int (0 : Int32)), (.ref ra)])) rfl (by rw [hml]; rfl) (argsL := [(.int (0 : Int32)), (.int (2 : Int32))]) (rest := [(.int (0 : Int32)), (.ref b53), (.int (0 : Int32)), (.ref ra)]) (lenOf pd_0 rfl) rfl (by show 2 * 0 + _ ≤ _; exact Nat.le_of_eq rfl) (hb hby d_jdk_65_method_124_code_25) (fun _ _ => ⟨rfl, e53, (by decide : 1 + 0 ≤ _), (by decide : 2 + 0 ≤ _)⟩)
  dsimp only [Pt.U, Pt.locs, Pt.cells, Pt.slots] at X55 l55 y55 z55 st55 hQ55
  subst l55 y55 z55
  obtain ⟨⟨r55, rfl, hr55⟩, N55q, e55⟩ := hQ55
  have N55 := Fr.app N0 N55q
  obtain rfl : (0 : Int32) = r55 := (hr55.trans (by decide)).symm
  obtain ⟨T56, h56, L56, X56, e56, N56, K56, A56, st56⟩ := cpA X55 hx hZ hown (hw _ (List.mem_of_getElem? (i := 42) rfl)) (hw _ (List.mem_of_getElem? (i := 45) rfl)) (hw _ (List.mem_of_getElem? (i := 43) rfl)) (hw _ (List.mem_of_getElem? (i := 44) rfl)) e55 Av_c53 Av_b53_53 (us := []) (Or.inl ⟨rfl, rfl⟩) (by decide) (by decide) (by decide) (by decide) (by decide) rfl (by decide) N55 g_b53 (g := (mkF m 28 #[.val (.ref ra), .val (.int (2 : Int32)), .val (.ref b53)] [(.int (0 : Int32)), (.int (0 : Int32)), (.ref b53), (.int (0 : Int32)), (.ref ra)])) rfl (by rw [hml]; rfl) rfl (hb hby d_jdk_65_method_124_code_28) (by decide) (W := 0) (by show 2 * 0 + _ ≤ _; exact Nat.le_of_eq rfl) (by decide)
  have Av_c56 := Av_c53.keep K56 (ninS ne_ra_b53 nin0)
  have Ex_b53_53_c56 := Ex_b53_53.keep K56
  have Av_b53_56 : Arv Z h56 b53 k53 .long (2 : Int32) [(.long (0 : Int64)), (.long (0 : Int64))] (.long (0 : Int64)) := A56
  have Z56 : n0 ≤ h56.size := Nat.le_trans Z53 K56.1
  have kp56 := Keep.trans kp53 K56 (allS (Or.inr sz_b53) all0)
  obtain ⟨fs, hr, hrun, hended, hW, hsame⟩ := X56.leave (v := some (.ref b53)) (fun h => by rw [Bd.returns] at h; cases h)
  refine ⟨_, _, pre0 _ ?_, hrun, hended, _, _, rfl, ?_, ⟨_, rfl⟩, hW, hsame.mono (by decide) (by decide)⟩
  · show Steps p.tables e below (s₁.setTop (mkF m 0 #[.val (.ref ra), .val (.int (2 : Int32)), .unset] [])) _
    refine XS.iloadN X0.here hx rfl (hb hby d_jdk_65_method_124_code_0) rfl ?_
    show Steps p.tables e below (s₁.setTop (mkF m 1 #[.val (.ref ra), .val (.int (2 : Int32)), .unset] [(.int (2 : Int32))])) _
    refine XS.aloadN X0.here hx rfl (hb hby d_jdk_65_method_124_code_1) rfl rfl ?_
    show Steps p.tables e below (s₁.setTop (mkF m 2 #[.val (.ref ra), .val (.int (2 : Int32)), .unset] [(.ref ra), (.int (2 : Int32))])) _
    refine X0.arraylength hx (by rw [e0]; exact Ar52.1) (State.isArrayOf_alike hZ.alike Ar52.2.1) (g := (mkF m 2 #[.val (.ref ra), .val (.int (2 : Int32)), .unset] [(.ref ra), (.int (2 : Int32))])) rfl rfl (hb hby d_jdk_65_method_124_code_2) _ ?_
    rw [len_of S52 N52a]
    show Steps p.tables e below (s₁.setTop (mkF m 3 #[.val (.ref ra), .val (.int (2 : Int32)), .unset] [(.int (0 : Int32)), (.int (2 : Int32))])) _
    refine XS.icmpYes X0.here hx rfl (pc0 := 3) (pc' := 14) rfl (hb hby d_jdk_65_method_124_code_3) rfl (feq (by decide : ¬ ((2 : Int32) = (0 : Int32)))).2 (by decide) (by decide) ?_
    show Steps p.tables e below (s₁.setTop (mkF m 14 #[.val (.ref ra), .val (.int (2 : Int32)), .unset] [])) _
    refine XS.iloadN X0.here hx rfl (hb hby d_jdk_65_method_124_code_14) rfl ?_
    show Steps p.tables e below (s₁.setTop (mkF m 15 #[.val (.ref ra), .val (.int (2 : Int32)), .unset] [(.int (2 : Int32))])) _
    refine st53 _ ?_
    show Steps p.tables e below (T53.setTop (mkF m 17 #[.val (.ref ra), .val (.int (2 : Int32)), .unset] [(.ref b53)])) _
    refine XS.astoreN X53.here hx rfl (hb hby d_jdk_65_method_124_code_17) rfl rfl (l' := #[.val (.ref ra), .val (.int (2 : Int32)), .val (.ref b53)]) rfl ?_
    show Steps p.tables e below (T53.setTop (mkF m 18 #[.val (.ref ra), .val (.int (2 : Int32)), .val (.ref b53)] [])) _
    refine XS.aloadN X53.here hx rfl (hb hby d_jdk_65_method_124_code_18) rfl rfl ?_
    show Steps p.tables e below (T53.setTop (mkF m 19 #[.val (.ref ra), .val (.int (2 : Int32)), .val (.ref b53)] [(.ref ra)])) _
    refine XS.iconst X53.here hx rfl (hb hby d_jdk_65_method_124_code_19) ?_
    show Steps p.tables e below (T53.setTop (mkF m 20 #[.val (.ref ra), .val (.int (2 : Int32)), .val (.ref b53)] [(.int (0 : Int32)), (.ref ra)])) _
    refine XS.aloadN X53.here hx rfl (hb hby d_jdk_65_method_124_code_20) rfl rfl ?_
    show Steps p.tables e below (T53.setTop (mkF m 21 #[.val (.ref ra), .val (.int (2 : Int32)), .val (.ref b53)] [(.ref b53), (.int (0 : Int32)), (.ref ra)])) _
    refine XS.iconst X53.here hx rfl (hb hby d_jdk_65_method_124_code_21) ?_
    show Steps p.tables e below (T53.setTop (mkF m 22 #[.val (.ref ra), .val (.int (2 : Int32)), .val (.ref b53)] [(.int (0 : Int32)), (.ref b53), (.int (0 : Int32)), (.ref ra)])) _
    refine XS.aloadN X53.here hx rfl (hb hby d_jdk_65_method_124_code_22) rfl rfl ?_
    show Steps p.tables e below (T53.setTop (mkF m 23 #[.val (.ref ra), .val (.int (2 : Int32)), .val (.ref b53)] [(.ref ra), (.int (0 : Int32)), (.ref b53), (.int (0 : Int32)), (.ref ra)])) _
    refine X53.arraylength hx (by rw [e53]; exact Ar54.1) (State.isArrayOf_alike hZ.alike Ar54.2.1) (g := (mkF m 23 #[.val (.ref ra), .val (.int (2 : Int32)), .val (.ref b53)] [(.ref ra), (.int (0 : Int32)), (.ref b53), (.int (0 : Int32)), (.ref ra)])) rfl rfl (hb hby d_jdk_65_method_124_code_23) _ ?_
    rw [len_of S54 N54a]
    show Steps p.tables e below (T53.setTop (mkF m 24 #[.val (.ref ra), .val (.int (2 : Int32)), .val (.ref b53)] [(.int (0 : Int32)), (.int (0 : Int32)), (.ref b53), (.int (0 : Int32)), (.ref ra)])) _
    refine XS.iloadN X53.here hx rfl (hb hby d_jdk_65_method_124_code_24) rfl ?_
    show Steps p.tables e below (T53.setTop (mkF m 25 #[.val (.ref ra), .val (.int (2 : Int32)), .val (.ref b53)] [(.int (2 : Int32)), (.int (0 : Int32)), (.int (0 : Int32)), (.ref b53), (.int (0 : Int32)), (.ref ra)])) _
    refine st55 _ ?_
    show Steps p.tables e below (T55.setTop (mkF m 28 #[.val (.ref ra), .val (.int (2 : Int32)), .val (.ref b53)] [(.int (0 : Int32)), (.int (0 : Int32)), (.ref b53), (.int (0 : Int32)), (.ref ra)])) _
    refine st56 _ ?_
    show Steps p.tables e below (T56.setTop (mkF m 31 #[.val (.ref ra), .val (.int (2 : Int32)), .val (.ref b53)] [])) _
    refine XS.aloadN X56.here hx rfl (hb hby d_jdk_65_method_124_code_31) rfl rfl ?_
    show Steps p.tables e below (T56.setTop (mkF m 32 #[.val (.ref ra), .val (.int (2 : Int32)), .val (.ref b53)] [(.ref b53)])) _
    jvm_step X56.here [X56.here.top, hx, (hb hby d_jdk_65_method_124_code_32), X56.method', Bd.returns, Value.isRef, FieldType.isReference]
    first | (intro acts; rw [hr _ acts rfl rfl rfl]) | rw [hr _ _ rfl rfl rfl]
    exact Steps.refl _
  · show Q_cpo0 Z ra ka h0 n0 _ T56.heap _
    rw [e56]
    exact ⟨⟨_, rfl, g_b53, sz_b53, ⟨k53, Av_b53_56⟩, Ex_b53_53_c56⟩, N56, kp56⟩
theorem ef_cpo2 (m : MethodId) (ra : Addr) : entryFrame m #[(.ref ra), (.int (4 : Int32))] 3 = mkF m 0 #[.val (.ref ra), .val (.int (4 : Int32)), .unset] [] := by first | (simp [entryFrame, mkF, argsToLocals, Value.category]; done) | rfl
def Q_cpo2 (Z : State) (ra : Addr) (ka : ClassId) (v0 : Int64) (v1 : Int64) (h0 : Heap) (n0 : Nat) (v : Option Value) (h : Heap) (L : List Loc) : Prop := (∃ z : Addr, v = some (.ref z) ∧ (n0 ≤ z ∧ h0.size ≤ z ∧ (∃ k : ClassId, Arv Z h z k .long (4 : Int32) [(.long v0), (.long v1), (.long (0 : Int64)), (.long (0 : Int64))] (.long (0 : Int64))) ∧ Exa Z h z "[J")) ∧ Fr n0 L ∧ Keep h0 h []
set_option maxRecDepth 65536 in
set_option maxHeartbeats 40000000 in
theorem rm_cpo2 (l : Launch) (Z : State) (a0 : Array Value) (hw : ∀ d ∈ tables_1, d.before a0 Z = true) (ws : List Jvm.Cond) (ra : Addr) (ka : ClassId) (v0 : Int64) (v1 : Int64) (h0 : Heap) (n0 : Nat) (Z0 : n0 ≤ h0.size) (Av : Arv Z h0 ra ka .long (2 : Int32) [(.long v0), (.long v1)] (.long (0 : Int64))) :
    MetFree l (⟨"java/util/Arrays", "copyOf", "([JI)[J"⟩ : MethodName) (head1 (Jvm.Cond.code (⟨"java/util/Arrays", "copyOf", "([JI)[J"⟩ : MethodName) jdk_65_method_124_code 3 (some (.array .long)) :: ws) ({ frames := 1, cells := 1, slots := 4, locals := 18 } : Room)) (fun a U => a = #[(.ref ra), (.int (4 : Int32))] ∧ Z.Warmed39 U.vm ∧ U.heap = h0) (fun _ _ _ _ _ => True) (fun _ U o U' => ∃ v L, o = .returned v ∧ Q_cpo2 Z ra ka v0 v1 h0 n0 v U'.heap L ∧ FrameEnd U o U' L ({ frames := 1, cells := 1, slots := 4, locals := 18 } : Room).cells ({ frames := 1, cells := 1, slots := 4, locals := 18 } : Room).slots) := by
  refine MetFree.of_bodySF (plainFor_of_name pn_1) hisR ?_
  intro p e s m args below meth c s₁ Bd hml0 hP hK
  obtain ⟨rfl, hZ, hh⟩ := hP
  have hx := Bd.exec
  have hby := Bd.bytes
  have hml : c.maxLocals = 3 := hml0
  have hown : s.vm.findClass "java/util/Arrays" = some m.cls := findClass_of_methodNamed Bd.named
  have hnm := (name_of_methodNamed Bd.named Bd.method).1
  have X0 : Stand p l e ({ frames := 1, cells := 1, slots := 4, locals := 18 } : Room) s m #[(.ref ra), (.int (4 : Int32))] below meth c s₁ [] 0 0 := Stand.of_body Bd
  have e0 : s₁.heap = h0 := by rw [← hh, Bd.state]; rfl
  have N0 := Fr.nil n0
  have pre0 : ∀ t, Steps p.tables e below (s₁.setTop (mkF m 0 #[.val (.ref ra), .val (.int (4 : Int32)), .unset] [])) t → Steps p.tables e below (s₁.setTop (entryFrame m #[(.ref ra), (.int (4 : Int32))] 3)) t := fun t k => castTop (ef_cpo2 m ra) k
  have kp0 : Keep h0 h0 [] := Keep.refl h0 _
  obtain ⟨cl57, Ar57, -, S57, N57a, -, -⟩ := id Av
  obtain ⟨T58, h58, k58, X58, e58, E58, A58, B58, st58⟩ := newPE X0 hx hZ (hw _ (List.mem_of_getElem? (i := 9) rfl)) e0 (g := (mkF m 15 #[.val (.ref ra), .val (.int (4 : Int32)), .unset] [(.int (4 : Int32))])) rfl (hb hby d_jdk_65_method_124_code_15) rfl (by decide) (cap := 4) (by decide) (by decide) (by decide) (by decide) (ad := "[J") (by decide)
  obtain ⟨b58, g58⟩ : ∃ z, z = h0.size := ⟨_, rfl⟩
  rw [← g58] at A58 B58 st58
  have ne_ra_b58 : ra ≠ b58 := Nat.ne_of_lt (Nat.lt_of_lt_of_le Av.lt (Nat.le_of_eq g58.symm))
  have g_b58 : n0 ≤ b58 := Nat.le_trans Z0 (Nat.le_of_eq g58.symm)
  have sz_b58 : h0.size ≤ b58 := Nat.le_trans kp0.1 (Nat.le_of_eq g58.symm)
  have Av_c58 := Av.ext E58
  have Z58 : n0 ≤ h58.size := Nat.le_trans Z0 E58.1
  have kp58 := kp0.ext E58
  have Av_b58_58 : Arv Z h58 b58 k58 .long (4 : Int32) [(.long (0 : Int64)), (.long (0 : Int64)), (.long (0 : Int64)), (.long (0 : Int64))] (.long (0 : Int64)) := (Arv.new A58 (by decide)).pad (pad_rep [] (.long (0 : Int64)) 4)
  have Ex_b58_58 := B58
  obtain ⟨cl59, Ar59, -, S59, N59a, -, -⟩ := id Av_c58
  obtain ⟨_, _, ⟨T60, L60, k60, n60⟩, -, X60, ⟨Lc60, hQ60, l60, y60, z60⟩, st60⟩ := Jvm.LawKit.callS X58 hx (y := (⟨"java/lang/Math", "min", "(II)I"⟩ : MethodName)) hown (mvT hZ (hw _ (List.mem_of_getElem? (i := 39) rfl))) (mvT hZ (hw _ (List.mem_of_getElem? (i := 40) rfl))) (mvT hZ (hw _ (List.mem_of_getElem? (i := 2) rfl))) (mvT hZ (hw _ (List.mem_of_getElem? (i := 41) rfl))) (by decide) (backOf (W := 4) (rm_mini l Z a0 hw [] (2 : Int32) (4 : Int32) h58 n0 Z58 ) hZ (hw _ (List.mem_of_getElem? (i := 41) rfl)) (hw _ (List.mem_of_getElem? (i := 2) rfl)) (by decide) (by decide)) (g := (mkF m 25 #[.val (.ref ra), .val (.int (4 : Int32)), .val (.ref b58)] [(.int (4 : Int32)), (.int (2 : Int32)), (.int (0 : Int32)), (.ref b58), (.int (0 : Int32)), (.ref ra)])) rfl (by rw [hml]; rfl) (argsL := [(.int (2 : Int32)), (.int (4 : Int32))]) (rest := [(.int (0 : Int32)), (.ref b58), (.int (0 : Int32)), (.ref ra)]) (lenOf pd_0 rfl) rfl (by show 2 * 0 + _ ≤ _; exact Nat.le_of_eq rfl) (hb hby d_jdk_65_method_124_code_25) (fun _ _ => ⟨rfl, e58, (by decide : 1 + 0 ≤ _), (by decide : 4 + 0 ≤ _)⟩)
  dsimp only [Pt.U, Pt.locs, Pt.cells, Pt.slots] at X60 l60 y60 z60 st60 hQ60
  subst l60 y60 z60
  obtain ⟨⟨r60, rfl, hr60⟩, N60q, e60⟩ := hQ60
  have N60 := Fr.app N0 N60q
  obtain rfl : (2 : Int32) = r60 := (hr60.trans (by decide)).symm
  obtain ⟨T61, h61, L61, X61, e61, N61, K61, A61, st61⟩ := cpA X60 hx hZ hown (hw _ (List.mem_of_getElem? (i := 42) rfl)) (hw _ (List.mem_of_getElem? (i := 45) rfl)) (hw _ (List.mem_of_getElem? (i := 43) rfl)) (hw _ (List.mem_of_getElem? (i := 44) rfl)) e60 Av_c58 Av_b58_58 (us := [(.long v0), (.long v1)]) (Or.inl ⟨rfl, rfl⟩) (by decide) (by decide) (by decide) (by decide) (by decide) rfl (by decide) N60 g_b58 (g := (mkF m 28 #[.val (.ref ra), .val (.int (4 : Int32)), .val (.ref b58)] [(.int (2 : Int32)), (.int (0 : Int32)), (.ref b58), (.int (0 : Int32)), (.ref ra)])) rfl (by rw [hml]; rfl) rfl (hb hby d_jdk_65_method_124_code_28) (by decide) (W := 0) (by show 2 * 0 + _ ≤ _; exact Nat.le_of_eq rfl) (by decide)
  have Av_c61 := Av_c58.keep K61 (ninS ne_ra_b58 nin0)
  have Ex_b58_58_c61 := Ex_b58_58.keep K61
  have Av_b58_61 : Arv Z h61 b58 k58 .long (4 : Int32) [(.long v0), (.long v1), (.long (0 : Int64)), (.long (0 : Int64))] (.long (0 : Int64)) := A61
  have Z61 : n0 ≤ h61.size := Nat.le_trans Z58 K61.1
  have kp61 := Keep.trans kp58 K61 (allS (Or.inr sz_b58) all0)
  obtain ⟨fs, hr, hrun, hended, hW, hsame⟩ := X61.leave (v := some (.ref b58)) (fun h => by rw [Bd.returns] at h; cases h)
  refine ⟨_, _, pre0 _ ?_, hrun, hended, _, _, rfl, ?_, ⟨_, rfl⟩, hW, hsame.mono (by decide) (by decide)⟩
  · show Steps p.tables e below (s₁.setTop (mkF m 0 #[.val (.ref ra), .val (.int (4 : Int32)), .unset] [])) _
    refine XS.iloadN X0.here hx rfl (hb hby d_jdk_65_method_124_code_0) rfl ?_
    show Steps p.tables e below (s₁.setTop (mkF m 1 #[.val (.ref ra), .val (.int (4 : Int32)), .unset] [(.int (4 : Int32))])) _
    refine XS.aloadN X0.here hx rfl (hb hby d_jdk_65_method_124_code_1) rfl rfl ?_
    show Steps p.tables e below (s₁.setTop (mkF m 2 #[.val (.ref ra), .val (.int (4 : Int32)), .unset] [(.ref ra), (.int (4 : Int32))])) _
    refine X0.arraylength hx (by rw [e0]; exact Ar57.1) (State.isArrayOf_alike hZ.alike Ar57.2.1) (g := (mkF m 2 #[.val (.ref ra), .val (.int (4 : Int32)), .unset] [(.ref ra), (.int (4 : Int32))])) rfl rfl (hb hby d_jdk_65_method_124_code_2) _ ?_
    rw [len_of S57 N57a]
    show Steps p.tables e below (s₁.setTop (mkF m 3 #[.val (.ref ra), .val (.int (4 : Int32)), .unset] [(.int (2 : Int32)), (.int (4 : Int32))])) _
    refine XS.icmpYes X0.here hx rfl (pc0 := 3) (pc' := 14) rfl (hb hby d_jdk_65_method_124_code_3) rfl (feq (by decide : ¬ ((4 : Int32) = (2 : Int32)))).2 (by decide) (by decide) ?_
    show Steps p.tables e below (s₁.setTop (mkF m 14 #[.val (.ref ra), .val (.int (4 : Int32)), .unset] [])) _
    refine XS.iloadN X0.here hx rfl (hb hby d_jdk_65_method_124_code_14) rfl ?_
    show Steps p.tables e below (s₁.setTop (mkF m 15 #[.val (.ref ra), .val (.int (4 : Int32)), .unset] [(.int (4 : Int32))])) _
    refine st58 _ ?_
    show Steps p.tables e below (T58.setTop (mkF m 17 #[.val (.ref ra), .val (.int (4 : Int32)), .unset] [(.ref b58)])) _
    refine XS.astoreN X58.here hx rfl (hb hby d_jdk_65_method_124_code_17) rfl rfl (l' := #[.val (.ref ra), .val (.int (4 : Int32)), .val (.ref b58)]) rfl ?_
    show Steps p.tables e below (T58.setTop (mkF m 18 #[.val (.ref ra), .val (.int (4 : Int32)), .val (.ref b58)] [])) _
    refine XS.aloadN X58.here hx rfl (hb hby d_jdk_65_method_124_code_18) rfl rfl ?_
    show Steps p.tables e below (T58.setTop (mkF m 19 #[.val (.ref ra), .val (.int (4 : Int32)), .val (.ref b58)] [(.ref ra)])) _
    refine XS.iconst X58.here hx rfl (hb hby d_jdk_65_method_124_code_19) ?_
    show Steps p.tables e below (T58.setTop (mkF m 20 #[.val (.ref ra), .val (.int (4 : Int32)), .val (.ref b58)] [(.int (0 : Int32)), (.ref ra)])) _
    refine XS.aloadN X58.here hx rfl (hb hby d_jdk_65_method_124_code_20) rfl rfl ?_
    show Steps p.tables e below (T58.setTop (mkF m 21 #[.val (.ref ra), .val (.int (4 : Int32)), .val (.ref b58)] [(.ref b58), (.int (0 : Int32)), (.ref ra)])) _
    refine XS.iconst X58.here hx rfl (hb hby d_jdk_65_method_124_code_21) ?_
    show Steps p.tables e below (T58.setTop (mkF m 22 #[.val (.ref ra), .val (.int (4 : Int32)), .val (.ref b58)] [(.int (0 : Int32)), (.ref b58), (.int (0 : Int32)), (.ref ra)])) _
    refine XS.aloadN X58.here hx rfl (hb hby d_jdk_65_method_124_code_22) rfl rfl ?_
    show Steps p.tables e below (T58.setTop (mkF m 23 #[.val (.ref ra), .val (.int (4 : Int32)), .val (.ref b58)] [(.ref ra), (.int (0 : Int32)), (.ref b58), (.int (0 : Int32)), (.ref ra)])) _
    refine X58.arraylength hx (by rw [e58]; exact Ar59.1) (State.isArrayOf_alike hZ.alike Ar59.2.1) (g := (mkF m 23 #[.val (.ref ra), .val (.int (4 : Int32)), .val (.ref b58)] [(.ref ra), (.int (0 : Int32)), (.ref b58), (.int (0 : Int32)), (.ref ra)])) rfl rfl (hb hby d_jdk_65_method_124_code_23) _ ?_
    rw [len_of S59 N59a]
    show Steps p.tables e below (T58.setTop (mkF m 24 #[.val (.ref ra), .val (.int (4 : Int32)), .val (.ref b58)] [(.int (2 : Int32)), (.int (0 : Int32)), (.ref b58), (.int (0 : Int32)), (.ref ra)])) _
    refine XS.iloadN X58.here hx rfl (hb hby d_jdk_65_method_124_code_24) rfl ?_
    show Steps p.tables e below (T58.setTop (mkF m 25 #[.val (.ref ra), .val (.int (4 : Int32)), .val (.ref b58)] [(.int (4 : Int32)), (.int (2 : Int32)), (.int (0 : Int32)), (.ref b58), (.int (0 : Int32)), (.ref ra)])) _
    refine st60 _ ?_
    show Steps p.tables e below (T60.setTop (mkF m 28 #[.val (.ref ra), .val (.int (4 : Int32)), .val (.ref b58)] [(.int (2 : Int32)), (.int (0 : Int32)), (.ref b58), (.int (0 : Int32)), (.ref ra)])) _
    refine st61 _ ?_
    show Steps p.tables e below (T61.setTop (mkF m 31 #[.val (.ref ra), .val (.int (4 : Int32)), .val (.ref b58)] [])) _
    refine XS.aloadN X61.here hx rfl (hb hby d_jdk_65_method_124_code_31) rfl rfl ?_
    show Steps p.tables e below (T61.setTop (mkF m 32 #[.val (.ref ra), .val (.int (4 : Int32)), .val (.ref b58)] [(.ref b58)])) _
    jvm_step X61.here [X61.here.top, hx, (hb hby d_jdk_65_method_124_code_32), X61.method', Bd.returns, Value.isRef, FieldType.isReference]
    first | (intro acts; rw [hr _ acts rfl rfl rfl]) | rw [hr _ _ rfl rfl rfl]
    exact Steps.refl _
  · show Q_cpo2 Z ra ka v0 v1 h0 n0 _ T61.heap _
    rw [e61]
    exact ⟨⟨_, rfl, g_b58, sz_b58, ⟨k58, Av_b58_61⟩, Ex_b58_58_c61⟩, N61, kp61⟩
theorem ef_cpo4 (m : MethodId) (ra : Addr) : entryFrame m #[(.ref ra), (.int (6 : Int32))] 3 = mkF m 0 #[.val (.ref ra), .val (.int (6 : Int32)), .unset] [] := by first | (simp [entryFrame, mkF, argsToLocals, Value.category]; done) | rfl
def Q_cpo4 (Z : State) (ra : Addr) (ka : ClassId) (v0 : Int64) (v1 : Int64) (v2 : Int64) (v3 : Int64) (h0 : Heap) (n0 : Nat) (v : Option Value) (h : Heap) (L : List Loc) : Prop := (∃ z : Addr, v = some (.ref z) ∧ (n0 ≤ z ∧ h0.size ≤ z ∧ (∃ k : ClassId, Arv Z h z k .long (6 : Int32) [(.long v0), (.long v1), (.long v2), (.long v3), (.long (0 : Int64)), (.long (0 : Int64))] (.long (0 : Int64))) ∧ Exa Z h z "[J")) ∧ Fr n0 L ∧ Keep h0 h []
set_option maxRecDepth 65536 in
set_option maxHeartbeats 40000000 in
theorem rm_cpo4 (l : Launch) (Z : State) (a0 : Array Value) (hw : ∀ d ∈ tables_1, d.before a0 Z = true) (ws : List Jvm.Cond) (ra : Addr) (ka : ClassId) (v0 : Int64) (v1 : Int64) (v2 : Int64) (v3 : Int64) (h0 : Heap) (n0 : Nat) (Z0 : n0 ≤ h0.size) (Av : Arv Z h0 ra ka .long (4 : Int32) [(.long v0), (.long v1), (.long v2), (.long v3)] (.long (0 : Int64))) :
    MetFree l (⟨"java/util/Arrays", "copyOf", "([JI)[J"⟩ : MethodName) (head1 (Jvm.Cond.code (⟨"java/util/Arrays", "copyOf", "([JI)[J"⟩ : MethodName) jdk_65_method_124_code 3 (some (.array .long)) :: ws) ({ frames := 1, cells := 1, slots := 6, locals := 18 } : Room)) (fun a U => a = #[(.ref ra), (.int (6 : Int32))] ∧ Z.Warmed39 U.vm ∧ U.heap = h0) (fun _ _ _ _ _ => True) (fun _ U o U' => ∃ v L, o = .returned v ∧ Q_cpo4 Z ra ka v0 v1 v2 v3 h0 n0 v U'.heap L ∧ FrameEnd U o U' L ({ frames := 1, cells := 1, slots := 6, locals := 18 } : Room).cells ({ frames := 1, cells := 1, slots := 6, locals := 18 } : Room).slots) := by
  refine MetFree.of_bodySF (plainFor_of_name pn_1) hisR ?_
  intro p e s m args below meth c s₁ Bd hml0 hP hK
  obtain ⟨rfl, hZ, hh⟩ := hP
  have hx := Bd.exec
  have hby := Bd.bytes
  have hml : c.maxLocals = 3 := hml0
  have hown : s.vm.findClass "java/util/Arrays" = some m.cls := findClass_of_methodNamed Bd.named
  have hnm := (name_of_methodNamed Bd.named Bd.method).1
  have X0 : Stand p l e ({ frames := 1, cells := 1, slots := 6, locals := 18 } : Room) s m #[(.ref ra), (.int (6 : Int32))] below meth c s₁ [] 0 0 := Stand.of_body Bd
  have e0 : s₁.heap = h0 := by rw [← hh, Bd.state]; rfl
  have N0 := Fr.nil n0
  have pre0 : ∀ t, Steps p.tables e below (s₁.setTop (mkF m 0 #[.val (.ref ra), .val (.int (6 : Int32)), .unset] [])) t → Steps p.tables e below (s₁.setTop (entryFrame m #[(.ref ra), (.int (6 : Int32))] 3)) t := fun t k => castTop (ef_cpo4 m ra) k
  have kp0 : Keep h0 h0 [] := Keep.refl h0 _
  obtain ⟨cl62, Ar62, -, S62, N62a, -, -⟩ := id Av
  obtain ⟨T63, h63, k63, X63, e63, E63, A63, B63, st63⟩ := newPE X0 hx hZ (hw _ (List.mem_of_getElem? (i := 9) rfl)) e0 (g := (mkF m 15 #[.val (.ref ra), .val (.int (6 : Int32)), .unset] [(.int (6 : Int32))])) rfl (hb hby d_jdk_65_method_124_code_15) rfl (by decide) (cap := 6) (by decide) (by decide) (by decide) (by decide) (ad := "[J") (by decide)
  obtain ⟨b63, g63⟩ : ∃ z, z = h0.size := ⟨_, rfl⟩
  rw [← g63] at A63 B63 st63
  have ne_ra_b63 : ra ≠ b63 := Nat.ne_of_lt (Nat.lt_of_lt_of_le Av.lt (Nat.le_of_eq g63.symm))
  have g_b63 : n0 ≤ b63 := Nat.le_trans Z0 (Nat.le_of_eq g63.symm)
  have sz_b63 : h0.size ≤ b63 := Nat.le_trans kp0.1 (Nat.le_of_eq g63.symm)
  have Av_c63 := Av.ext E63
  have Z63 : n0 ≤ h63.size := Nat.le_trans Z0 E63.1
  have kp63 := kp0.ext E63
  have Av_b63_63 : Arv Z h63 b63 k63 .long (6 : Int32) [(.long (0 : Int64)), (.long (0 : Int64)), (.long (0 : Int64)), (.long (0 : Int64)), (.long (0 : Int64)), (.long (0 : Int64))] (.long (0 : Int64)) := (Arv.new A63 (by decide)).pad (pad_rep [] (.long (0 : Int64)) 6)
  have Ex_b63_63 := B63
  obtain ⟨cl64, Ar64, -, S64, N64a, -, -⟩ := id Av_c63
  obtain ⟨_, _, ⟨T65, L65, k65, n65⟩, -, X65, ⟨Lc65, hQ65, l65, y65, z65⟩, st65⟩ := Jvm.LawKit.callS X63 hx (y := (⟨"java/lang/Math", "min", "(II)I"⟩ : MethodName)) hown (mvT hZ (hw _ (List.mem_of_getElem? (i := 39) rfl))) (mvT hZ (hw _ (List.mem_of_getElem? (i := 40) rfl))) (mvT hZ (hw _ (List.mem_of_getElem? (i := 2) rfl))) (mvT hZ (hw _ (List.mem_of_getElem? (i := 41) rfl))) (by decide) (backOf (W := 4) (rm_mini l Z a0 hw [] (4 : Int32) (6 : Int32) h63 n0 Z63 ) hZ (hw _ (List.mem_of_getElem? (i := 41) rfl)) (hw _ (List.mem_of_getElem? (i := 2) rfl)) (by decide) (by decide)) (g := (mkF m 25 #[.val (.ref ra), .val (.int (6 : Int32)), .val (.ref b63)] [(.int (6 : Int32)), (.int (4 : Int32)), (.int (0 : Int32)), (.ref b63), (.int (0 : Int32)), (.ref ra)])) rfl (by rw [hml]; rfl) (argsL := [(.int (4 : Int32)), (.int (6 : Int32))]) (rest := [(.int (0 : Int32)), (.ref b63), (.int (0 : Int32)), (.ref ra)]) (lenOf pd_0 rfl) rfl (by show 2 * 0 + _ ≤ _; exact Nat.le_of_eq rfl) (hb hby d_jdk_65_method_124_code_25) (fun _ _ => ⟨rfl, e63, (by decide : 1 + 0 ≤ _), (by decide : 6 + 0 ≤ _)⟩)
  dsimp only [Pt.U, Pt.locs, Pt.cells, Pt.slots] at X65 l65 y65 z65 st65 hQ65
  subst l65 y65 z65
  obtain ⟨⟨r65, rfl, hr65⟩, N65q, e65⟩ := hQ65
  have N65 := Fr.app N0 N65q
  obtain rfl : (4 : Int32) = r65 := (hr65.trans (by decide)).symm
  obtain ⟨T66, h66, L66, X66, e66, N66, K66, A66, st66⟩ := cpA X65 hx hZ hown (hw _ (List.mem_of_getElem? (i := 42) rfl)) (hw _ (List.mem_of_getElem? (i := 45) rfl)) (hw _ (List.mem_of_getElem? (i := 43) rfl)) (hw _ (List.mem_of_getElem? (i := 44) rfl)) e65 Av_c63 Av_b63_63 (us := [(.long v0), (.long v1), (.long v2), (.long v3)]) (Or.inl ⟨rfl, rfl⟩) (by decide) (by decide) (by decide) (by decide) (by decide) rfl (by decide) N65 g_b63 (g := (mkF m 28 #[.val (.ref ra), .val (.int (6 : Int32)), .val (.ref b63)] [(.int (4 : Int32)), (.int (0 : Int32)), (.ref b63), (.int (0 : Int32)), (.ref ra)])) rfl (by rw [hml]; rfl) rfl (hb hby d_jdk_65_method_124_code_28) (by decide) (W := 0) (by show 2 * 0 + _ ≤ _; exact Nat.le_of_eq rfl) (by decide)
  have Av_c66 := Av_c63.keep K66 (ninS ne_ra_b63 nin0)
  have Ex_b63_63_c66 := Ex_b63_63.keep K66
  have Av_b63_66 : Arv Z h66 b63 k63 .long (6 : Int32) [(.long v0), (.long v1), (.long v2), (.long v3), (.long (0 : Int64)), (.long (0 : Int64))] (.long (0 : Int64)) := A66
  have Z66 : n0 ≤ h66.size := Nat.le_trans Z63 K66.1
  have kp66 := Keep.trans kp63 K66 (allS (Or.inr sz_b63) all0)
  obtain ⟨fs, hr, hrun, hended, hW, hsame⟩ := X66.leave (v := some (.ref b63)) (fun h => by rw [Bd.returns] at h; cases h)
  refine ⟨_, _, pre0 _ ?_, hrun, hended, _, _, rfl, ?_, ⟨_, rfl⟩, hW, hsame.mono (by decide) (by decide)⟩
  · show Steps p.tables e below (s₁.setTop (mkF m 0 #[.val (.ref ra), .val (.int (6 : Int32)), .unset] [])) _
    refine XS.iloadN X0.here hx rfl (hb hby d_jdk_65_method_124_code_0) rfl ?_
    show Steps p.tables e below (s₁.setTop (mkF m 1 #[.val (.ref ra), .val (.int (6 : Int32)), .unset] [(.int (6 : Int32))])) _
    refine XS.aloadN X0.here hx rfl (hb hby d_jdk_65_method_124_code_1) rfl rfl ?_
    show Steps p.tables e below (s₁.setTop (mkF m 2 #[.val (.ref ra), .val (.int (6 : Int32)), .unset] [(.ref ra), (.int (6 : Int32))])) _
    refine X0.arraylength hx (by rw [e0]; exact Ar62.1) (State.isArrayOf_alike hZ.alike Ar62.2.1) (g := (mkF m 2 #[.val (.ref ra), .val (.int (6 : Int32)), .unset] [(.ref ra), (.int (6 : Int32))])) rfl rfl (hb hby d_jdk_65_method_124_code_2) _ ?_
    rw [len_of S62 N62a]
    show Steps p.tables e below (s₁.setTop (mkF m 3 #[.val (.ref ra), .val (.int (6 : Int32)), .unset] [(.int (4 : Int32)), (.int (6 : Int32))])) _
    refine XS.icmpYes X0.here hx rfl (pc0 := 3) (pc' := 14) rfl (hb hby d_jdk_65_method_124_code_3) rfl (feq (by decide : ¬ ((6 : Int32) = (4 : Int32)))).2 (by decide) (by decide) ?_
    show Steps p.tables e below (s₁.setTop (mkF m 14 #[.val (.ref ra), .val (.int (6 : Int32)), .unset] [])) _
    refine XS.iloadN X0.here hx rfl (hb hby d_jdk_65_method_124_code_14) rfl ?_
    show Steps p.tables e below (s₁.setTop (mkF m 15 #[.val (.ref ra), .val (.int (6 : Int32)), .unset] [(.int (6 : Int32))])) _
    refine st63 _ ?_
    show Steps p.tables e below (T63.setTop (mkF m 17 #[.val (.ref ra), .val (.int (6 : Int32)), .unset] [(.ref b63)])) _
    refine XS.astoreN X63.here hx rfl (hb hby d_jdk_65_method_124_code_17) rfl rfl (l' := #[.val (.ref ra), .val (.int (6 : Int32)), .val (.ref b63)]) rfl ?_
    show Steps p.tables e below (T63.setTop (mkF m 18 #[.val (.ref ra), .val (.int (6 : Int32)), .val (.ref b63)] [])) _
    refine XS.aloadN X63.here hx rfl (hb hby d_jdk_65_method_124_code_18) rfl rfl ?_
    show Steps p.tables e below (T63.setTop (mkF m 19 #[.val (.ref ra), .val (.int (6 : Int32)), .val (.ref b63)] [(.ref ra)])) _
    refine XS.iconst X63.here hx rfl (hb hby d_jdk_65_method_124_code_19) ?_
    show Steps p.tables e below (T63.setTop (mkF m 20 #[.val (.ref ra), .val (.int (6 : Int32)), .val (.ref b63)] [(.int (0 : Int32)), (.ref ra)])) _
    refine XS.aloadN X63.here hx rfl (hb hby d_jdk_65_method_124_code_20) rfl rfl ?_
    show Steps p.tables e below (T63.setTop (mkF m 21 #[.val (.ref ra), .val (.int (6 : Int32)), .val (.ref b63)] [(.ref b63), (.int (0 : Int32)), (.ref ra)])) _
    refine XS.iconst X63.here hx rfl (hb hby d_jdk_65_method_124_code_21) ?_
    show Steps p.tables e below (T63.setTop (mkF m 22 #[.val (.ref ra), .val (.int (6 : Int32)), .val (.ref b63)] [(.int (0 : Int32)), (.ref b63), (.int (0 : Int32)), (.ref ra)])) _
    refine XS.aloadN X63.here hx rfl (hb hby d_jdk_65_method_124_code_22) rfl rfl ?_
    show Steps p.tables e below (T63.setTop (mkF m 23 #[.val (.ref ra), .val (.int (6 : Int32)), .val (.ref b63)] [(.ref ra), (.int (0 : Int32)), (.ref b63), (.int (0 : Int32)), (.ref ra)])) _
    refine X63.arraylength hx (by rw [e63]; exact Ar64.1) (State.isArrayOf_alike hZ.alike Ar64.2.1) (g := (mkF m 23 #[.val (.ref ra), .val (.int (6 : Int32)), .val (.ref b63)] [(.ref ra), (.int (0 : Int32)), (.ref b63), (.int (0 : Int32)), (.ref ra)])) rfl rfl (hb hby d_jdk_65_method_124_code_23) _ ?_
    rw [len_of S64 N64a]
    show Steps p.tables e below (T63.setTop (mkF m 24 #[.val (.ref ra), .val (.int (6 : Int32)), .val (.ref b63)] [(.int (4 : Int32)), (.int (0 : Int32)), (.ref b63), (.int (0 : Int32)), (.ref ra)])) _
    refine XS.iloadN X63.here hx rfl (hb hby d_jdk_65_method_124_code_24) rfl ?_
    show Steps p.tables e below (T63.setTop (mkF m 25 #[.val (.ref ra), .val (.int (6 : Int32)), .val (.ref b63)] [(.int (6 : Int32)), (.int (4 : Int32)), (.int (0 : Int32)), (.ref b63), (.int (0 : Int32)), (.ref ra)])) _
    refine st65 _ ?_
    show Steps p.tables e below (T65.setTop (mkF m 28 #[.val (.ref ra), .val (.int (6 : Int32)), .val (.ref b63)] [(.int (4 : Int32)), (.int (0 : Int32)), (.ref b63), (.int (0 : Int32)), (.ref ra)])) _
    refine st66 _ ?_
    show Steps p.tables e below (T66.setTop (mkF m 31 #[.val (.ref ra), .val (.int (6 : Int32)), .val (.ref b63)] [])) _
    refine XS.aloadN X66.here hx rfl (hb hby d_jdk_65_method_124_code_31) rfl rfl ?_
    show Steps p.tables e below (T66.setTop (mkF m 32 #[.val (.ref ra), .val (.int (6 : Int32)), .val (.ref b63)] [(.ref b63)])) _
    jvm_step X66.here [X66.here.top, hx, (hb hby d_jdk_65_method_124_code_32), X66.method', Bd.returns, Value.isRef, FieldType.isReference]
    first | (intro acts; rw [hr _ acts rfl rfl rfl]) | rw [hr _ _ rfl rfl rfl]
    exact Steps.refl _
  · show Q_cpo4 Z ra ka v0 v1 v2 v3 h0 n0 _ T66.heap _
    rw [e66]
    exact ⟨⟨_, rfl, g_b63, sz_b63, ⟨k63, Av_b63_66⟩, Ex_b63_63_c66⟩, N66, kp66⟩
theorem d_prog_2_method_7_code_0 : decode prog_2_method_7_code 0 = .ok (.aload_n 0, 1) := by decide +kernel
theorem d_prog_2_method_7_code_1 : decode prog_2_method_7_code 1 = .ok (.getfield 22, 3) := by decide +kernel
theorem d_prog_2_method_7_code_4 : decode prog_2_method_7_code 4 = .ok (.aload_n 0, 1) := by decide +kernel
theorem d_prog_2_method_7_code_5 : decode prog_2_method_7_code 5 = .ok (.getfield 22, 3) := by decide +kernel
theorem d_prog_2_method_7_code_8 : decode prog_2_method_7_code 8 = .ok (.arraylength, 1) := by decide +kernel
theorem d_prog_2_method_7_code_9 : decode prog_2_method_7_code 9 = .ok (.iconst 2, 1) := by decide +kernel
theorem d_prog_2_method_7_code_10 : decode prog_2_method_7_code 10 = .ok (.iadd, 1) := by decide +kernel
theorem d_prog_2_method_7_code_11 : decode prog_2_method_7_code 11 = .ok (.invokestatic 49, 3) := by decide +kernel
theorem pd_1 : parseMethodDescriptor "([JI)[J" = some ⟨[(.array .long), .int], some (.array .long)⟩ := by decide +kernel
theorem d_prog_2_method_7_code_14 : decode prog_2_method_7_code 14 = .ok (.astore 5, 2) := by decide +kernel
theorem d_prog_2_method_7_code_16 : decode prog_2_method_7_code 16 = .ok (.aload 5, 2) := by decide +kernel
theorem d_prog_2_method_7_code_18 : decode prog_2_method_7_code 18 = .ok (.aload_n 0, 1) := by decide +kernel
theorem d_prog_2_method_7_code_19 : decode prog_2_method_7_code 19 = .ok (.getfield 22, 3) := by decide +kernel
theorem d_prog_2_method_7_code_22 : decode prog_2_method_7_code 22 = .ok (.arraylength, 1) := by decide +kernel
theorem d_prog_2_method_7_code_23 : decode prog_2_method_7_code 23 = .ok (.lload_n 1, 1) := by decide +kernel
theorem d_prog_2_method_7_code_24 : decode prog_2_method_7_code 24 = .ok (.lastore, 1) := by decide +kernel
theorem d_prog_2_method_7_code_25 : decode prog_2_method_7_code 25 = .ok (.aload 5, 2) := by decide +kernel
theorem d_prog_2_method_7_code_27 : decode prog_2_method_7_code 27 = .ok (.aload_n 0, 1) := by decide +kernel
theorem d_prog_2_method_7_code_28 : decode prog_2_method_7_code 28 = .ok (.getfield 22, 3) := by decide +kernel
theorem d_prog_2_method_7_code_31 : decode prog_2_method_7_code 31 = .ok (.arraylength, 1) := by decide +kernel
theorem d_prog_2_method_7_code_32 : decode prog_2_method_7_code 32 = .ok (.iconst 1, 1) := by decide +kernel
theorem d_prog_2_method_7_code_33 : decode prog_2_method_7_code 33 = .ok (.iadd, 1) := by decide +kernel
theorem d_prog_2_method_7_code_34 : decode prog_2_method_7_code 34 = .ok (.lload_n 3, 1) := by decide +kernel
theorem d_prog_2_method_7_code_35 : decode prog_2_method_7_code 35 = .ok (.lastore, 1) := by decide +kernel
theorem d_prog_2_method_7_code_36 : decode prog_2_method_7_code 36 = .ok (.new 23, 3) := by decide +kernel
theorem d_prog_2_method_7_code_39 : decode prog_2_method_7_code 39 = .ok (.dup, 1) := by decide +kernel
theorem d_prog_2_method_7_code_40 : decode prog_2_method_7_code 40 = .ok (.aload 5, 2) := by decide +kernel
theorem d_prog_2_method_7_code_42 : decode prog_2_method_7_code 42 = .ok (.invokespecial 46, 3) := by decide +kernel
theorem pd_2 : parseMethodDescriptor "([J)V" = some ⟨[(.array .long)], none⟩ := by decide +kernel
theorem d_prog_2_method_7_code_45 : decode prog_2_method_7_code 45 = .ok (.areturn, 1) := by decide +kernel
theorem ef_wax0 (m : MethodId) (ra : Addr) (va : Int64) (vb : Int64) : entryFrame m #[(.ref ra), (.long va), (.long vb)] 6 = mkF m 0 #[.val (.ref ra), .val (.long va), .second, .val (.long vb), .second, .unset] [] := by first | (simp [entryFrame, mkF, argsToLocals, Value.category]; done) | rfl
def Q_wax0 (Z : State) (ra : Addr) (va : Int64) (vb : Int64) (ax : Addr) (ka : ClassId) (h0 : Heap) (n0 : Nat) (v : Option Value) (h : Heap) (L : List Loc) : Prop := (∃ z : Addr, v = some (.ref z) ∧ (n0 ≤ z ∧ h0.size ≤ z ∧ Exa Z h z "com/example/chronotriple/chronotriple/Box" ∧ ∃ (b : Addr) (k : ClassId), n0 ≤ b ∧ h0.size ≤ b ∧ Fld Z h z "com/example/chronotriple/chronotriple/Box" "bounds" "[J" (.ref b) ∧ Arv Z h b k .long (2 : Int32) [(.long va), (.long vb)] (.long (0 : Int64)) ∧ Exa Z h b "[J")) ∧ Fr n0 L ∧ Keep h0 h []
set_option maxRecDepth 65536 in
set_option maxHeartbeats 40000000 in
theorem rm_wax0 (l : Launch) (Z : State) (a0 : Array Value) (hw : ∀ d ∈ tables_1, d.before a0 Z = true) (ws : List Jvm.Cond) (ra : Addr) (va : Int64) (vb : Int64) (ax : Addr) (ka : ClassId) (h0 : Heap) (n0 : Nat) (Z0 : n0 ≤ h0.size) (E_ra : Exa Z h0 ra "com/example/chronotriple/chronotriple/Box") (F_b : Fld Z h0 ra "com/example/chronotriple/chronotriple/Box" "bounds" "[J" (.ref ax)) (Av : Arv Z h0 ax ka .long (0 : Int32) [] (.long (0 : Int64))) (oab : va < vb) :
    MetFree l (⟨"com/example/chronotriple/chronotriple/Box", "withAxis", "(JJ)Lcom/example/chronotriple/chronotriple/Box;"⟩ : MethodName) (head1 (Jvm.Cond.code (⟨"com/example/chronotriple/chronotriple/Box", "withAxis", "(JJ)Lcom/example/chronotriple/chronotriple/Box;"⟩ : MethodName) prog_2_method_7_code 6 (some (.object "com/example/chronotriple/chronotriple/Box")) :: ws) ({ frames := 2, cells := 3, slots := 5, locals := 32 } : Room)) (fun a U => a = #[(.ref ra), (.long va), (.long vb)] ∧ Z.Warmed39 U.vm ∧ U.heap = h0) (fun _ _ _ _ _ => True) (fun _ U o U' => ∃ v L, o = .returned v ∧ Q_wax0 Z ra va vb ax ka h0 n0 v U'.heap L ∧ FrameEnd U o U' L ({ frames := 2, cells := 3, slots := 5, locals := 32 } : Room).cells ({ frames := 2, cells := 3, slots := 5, locals := 32 } : Room).slots) := by
  refine MetFree.of_bodySF (plainFor_of_name pn_0) hisR ?_
  intro p e s m args below meth c s₁ Bd hml0 hP hK
  obtain ⟨rfl, hZ, hh⟩ := hP
  have hx := Bd.exec
  have hby := Bd.bytes
  have hml : c.maxLocals = 6 := hml0
  have hown : s.vm.findClass "com/example/chronotriple/chronotriple/Box" = some m.cls := findClass_of_methodNamed Bd.named
  have hnm := (name_of_methodNamed Bd.named Bd.method).1
  have X0 : Stand p l e ({ frames := 2, cells := 3, slots := 5, locals := 32 } : Room) s m #[(.ref ra), (.long va), (.long vb)] below meth c s₁ [] 0 0 := Stand.of_body Bd
  have e0 : s₁.heap = h0 := by rw [← hh, Bd.state]; rfl
  have N0 := Fr.nil n0
  have pre0 : ∀ t, Steps p.tables e below (s₁.setTop (mkF m 0 #[.val (.ref ra), .val (.long va), .second, .val (.long vb), .second, .unset] [])) t → Steps p.tables e below (s₁.setTop (entryFrame m #[(.ref ra), (.long va), (.long vb)] 6)) t := fun t k => castTop (ef_wax0 m ra va vb) k
  have kp0 : Keep h0 h0 [] := Keep.refl h0 _
  obtain ⟨T67, X67, e67, st67⟩ := getF X0 hx hZ hown (host := "") (Or.inl (hw _ (List.mem_of_getElem? (i := 28) rfl))) Via.refl e0 F_b (g := (mkF m 1 #[.val (.ref ra), .val (.long va), .second, .val (.long vb), .second, .unset] [(.ref ra)])) rfl rfl (hb hby d_prog_2_method_7_code_1)
  obtain ⟨T68, X68, e68, st68⟩ := getF X67 hx hZ hown (host := "") (Or.inl (hw _ (List.mem_of_getElem? (i := 28) rfl))) Via.refl e67 F_b (g := (mkF m 5 #[.val (.ref ra), .val (.long va), .second, .val (.long vb), .second, .unset] [(.ref ra), (.ref ax)])) rfl rfl (hb hby d_prog_2_method_7_code_5)
  obtain ⟨cl69, Ar69, -, S69, N69a, -, -⟩ := id Av
  obtain ⟨_, _, ⟨T70, L70, k70, n70⟩, -, X70, ⟨Lc70, hQ70, l70, y70, z70⟩, st70⟩ := Jvm.LawKit.callS X68 hx (y := (⟨"java/util/Arrays", "copyOf", "([JI)[J"⟩ : MethodName)) hown (mvT hZ (hw _ (List.mem_of_getElem? (i := 35) rfl))) (mvT hZ (hw _ (List.mem_of_getElem? (i := 36) rfl))) (mvT hZ (hw _ (List.mem_of_getElem? (i := 37) rfl))) (mvT hZ (hw _ (List.mem_of_getElem? (i := 38) rfl))) (by decide) (backOf (W := 0) (rm_cpo0 l Z a0 hw [] ax ka h0 n0 Z0 Av) hZ (hw _ (List.mem_of_getElem? (i := 38) rfl)) (hw _ (List.mem_of_getElem? (i := 37) rfl)) (by decide) (by decide)) (g := (mkF m 11 #[.val (.ref ra), .val (.long va), .second, .val (.long vb), .second, .unset] [(.int (2 : Int32)), (.ref ax)])) rfl (by rw [hml]; rfl) (argsL := [(.ref ax), (.int (2 : Int32))]) (rest := []) (lenOf pd_1 rfl) rfl (by show 2 * 0 + _ ≤ _; exact Nat.le_of_eq rfl) (hb hby d_prog_2_method_7_code_11) (fun _ _ => ⟨rfl, e68, (by decide : 0 + 1 ≤ _), (by decide : 0 + 2 ≤ _)⟩)
  dsimp only [Pt.U, Pt.locs, Pt.cells, Pt.slots] at X70 l70 y70 z70 st70 hQ70
  subst l70 y70 z70
  obtain ⟨⟨r70, rfl, hr70⟩, N70q, K70⟩ := hQ70
  have N70 := Fr.app N0 N70q
  have E_ra_c70 := E_ra.keep K70
  have F_b_c70 := F_b.keep K70 nin0
  have Av_c70 := Av.keep K70 nin0
  have Z70 : n0 ≤ T70.heap.size := Nat.le_trans Z0 K70.1
  have kp70 := Keep.trans kp0 K70 all0
  obtain ⟨cg70, cs70, ⟨ck70, Aq_70⟩, Eq_70⟩ := hr70
  have ne_ra_r70 : ra ≠ r70 := Nat.ne_of_lt (Nat.lt_of_lt_of_le E_ra.lt cs70)
  have ne_ax_r70 : ax ≠ r70 := Nat.ne_of_lt (Nat.lt_of_lt_of_le Av.lt cs70)
  have sz_r70 : h0.size ≤ r70 := Nat.le_trans kp0.1 cs70
  obtain ⟨T71, X71, e71, st71⟩ := getF X70 hx hZ hown (host := "") (Or.inl (hw _ (List.mem_of_getElem? (i := 28) rfl))) Via.refl rfl F_b_c70 (g := (mkF m 19 #[.val (.ref ra), .val (.long va), .second, .val (.long vb), .second, .val (.ref r70)] [(.ref ra), (.ref r70)])) rfl rfl (hb hby d_prog_2_method_7_code_19)
  obtain ⟨cl72, Ar72, -, S72, N72a, -, -⟩ := id Av_c70
  obtain ⟨cl73, Ar73, q73, S73, N73a, H73, G73⟩ := id Aq_70
  have hin73 : ¬ ((0 : Int32) < 0 ∨ cl73.slots.size ≤ ((0 : Int32)).toNatClampNeg) := inb_of S73 ⟨by decide, by decide⟩
  obtain ⟨T73, h73, X73, e73, W73, st73⟩ := stJ X71 hx hZ e71 Ar73 (j := (0 : Int32)) hin73 (g := (mkF m 24 #[.val (.ref ra), .val (.long va), .second, .val (.long vb), .second, .val (.ref r70)] [(.long va), (.int (0 : Int32)), (.ref r70)])) rfl rfl (hb hby d_prog_2_method_7_code_24)
  have Av_r70_73 : Arv Z h73 r70 ck70 .long (2 : Int32) [(.long va), (.long (0 : Int64))] (.long (0 : Int64)) := Arv.set Ar73 q73 S73 N73a H73 G73 rfl W73 0 rfl (Nat.le_of_ble_eq_true rfl)
  have E_ra_c73 := E_ra_c70.wr W73
  have F_b_c73 := F_b_c70.other W73 (Or.inl ne_ra_r70)
  have Av_c73 := Av_c70.other W73 ne_ax_r70
  have Eq_70_c73 := Eq_70.wr W73
  have Z73 : n0 ≤ h73.size := Nat.le_trans Z70 (Keep.of_wr W73).1
  have kp73 := kp70.wr W73 (Or.inr sz_r70)
  have N73 := Fr.snoc X73 N70 cg70
  obtain ⟨T74, X74, e74, st74⟩ := getF X73 hx hZ hown (host := "") (Or.inl (hw _ (List.mem_of_getElem? (i := 28) rfl))) Via.refl e73 F_b_c73 (g := (mkF m 28 #[.val (.ref ra), .val (.long va), .second, .val (.long vb), .second, .val (.ref r70)] [(.ref ra), (.ref r70)])) rfl rfl (hb hby d_prog_2_method_7_code_28)
  obtain ⟨cl75, Ar75, -, S75, N75a, -, -⟩ := id Av_c73
  obtain ⟨cl76, Ar76, q76, S76, N76a, H76, G76⟩ := id Av_r70_73
  have hin76 : ¬ ((1 : Int32) < 0 ∨ cl76.slots.size ≤ ((1 : Int32)).toNatClampNeg) := inb_of S76 ⟨by decide, by decide⟩
  obtain ⟨T76, h76, X76, e76, W76, st76⟩ := stJ X74 hx hZ e74 Ar76 (j := (1 : Int32)) hin76 (g := (mkF m 35 #[.val (.ref ra), .val (.long va), .second, .val (.long vb), .second, .val (.ref r70)] [(.long vb), (.int (1 : Int32)), (.ref r70)])) rfl rfl (hb hby d_prog_2_method_7_code_35)
  have Av_r70_76 : Arv Z h76 r70 ck70 .long (2 : Int32) [(.long va), (.long vb)] (.long (0 : Int64)) := Arv.set Ar76 q76 S76 N76a H76 G76 rfl W76 1 rfl (Nat.le_of_ble_eq_true rfl)
  have E_ra_c76 := E_ra_c73.wr W76
  have F_b_c76 := F_b_c73.other W76 (Or.inl ne_ra_r70)
  have Av_c76 := Av_c73.other W76 ne_ax_r70
  have Eq_70_c76 := Eq_70_c73.wr W76
  have Z76 : n0 ≤ h76.size := Nat.le_trans Z73 (Keep.of_wr W76).1
  have kp76 := kp73.wr W76 (Or.inr sz_r70)
  have N76 := Fr.snoc X76 N73 cg70
  obtain ⟨T77, h77, X77, e77, E77, A77, D77, -, st77⟩ := newO X76 hx hZ hown (hw _ (List.mem_of_getElem? (i := 46) rfl)) (hw _ (List.mem_of_getElem? (i := 11) rfl)) (hw _ (List.mem_of_getElem? (i := 12) rfl)) e76 (g := (mkF m 36 #[.val (.ref ra), .val (.long va), .second, .val (.long vb), .second, .val (.ref r70)] [])) rfl (hb hby d_prog_2_method_7_code_36) (by decide) (by decide)
  obtain ⟨b77, g77⟩ : ∃ z, z = h76.size := ⟨_, rfl⟩
  rw [← g77] at A77 D77 st77
  have ne_ra_b77 : ra ≠ b77 := Nat.ne_of_lt (Nat.lt_of_lt_of_le E_ra_c76.lt (Nat.le_of_eq g77.symm))
  have ne_ax_b77 : ax ≠ b77 := Nat.ne_of_lt (Nat.lt_of_lt_of_le Av_c76.lt (Nat.le_of_eq g77.symm))
  have ne_r70_b77 : r70 ≠ b77 := Nat.ne_of_lt (Nat.lt_of_lt_of_le Eq_70_c76.lt (Nat.le_of_eq g77.symm))
  have g_b77 : n0 ≤ b77 := Nat.le_trans Z76 (Nat.le_of_eq g77.symm)
  have sz_b77 : h0.size ≤ b77 := Nat.le_trans kp76.1 (Nat.le_of_eq g77.symm)
  have E_ra_c77 := E_ra_c76.ext E77
  have F_b_c77 := F_b_c76.ext E77
  have Av_c77 := Av_c76.ext E77
  have Eq_70_c77 := Eq_70_c76.ext E77
  have Av_r70_76_c77 := Av_r70_76.ext E77
  have Z77 : n0 ≤ h77.size := Nat.le_trans Z76 E77.1
  have kp77 := kp76.ext E77
  have Ex_b77_77 := A77
  have Fd_bounds_b77_77 : Fld Z h77 b77 "com/example/chronotriple/chronotriple/Box" "bounds" "[J" .null := D77 (Or.inr (hw _ (List.mem_of_getElem? (i := 29) rfl))) (ty := (.array .long)) (by decide)
  obtain ⟨_, _, ⟨T78, L78, k78, n78⟩, -, X78, ⟨Lc78, hQ78, l78, y78, z78⟩, st78⟩ := X77.specialBack hx (y := (⟨"com/example/chronotriple/chronotriple/Box", "<init>", "([J)V"⟩ : MethodName)) rfl hown (mvT hZ (hw _ (List.mem_of_getElem? (i := 47) rfl))) (mvT hZ (hw _ (List.mem_of_getElem? (i := 14) rfl))) (mvT hZ (hw _ (List.mem_of_getElem? (i := 15) rfl))) (by decide) (backOf (W := 1) (rm_ini2 l Z a0 hw [] b77 r70 ck70 va vb h77 n0 Z77 Ex_b77_77 Fd_bounds_b77_77 Av_r70_76_c77 Eq_70_c77 g_b77 ne_r70_b77 oab) hZ (hw _ (List.mem_of_getElem? (i := 15) rfl)) (hw _ (List.mem_of_getElem? (i := 12) rfl)) (by decide) (by decide)) (g := (mkF m 42 #[.val (.ref ra), .val (.long va), .second, .val (.long vb), .second, .val (.ref r70)] [(.ref r70), (.ref b77), (.ref b77)])) rfl (by rw [hml]; rfl) (Steps.refl _) (a := b77) (argsL := [(.ref r70)]) (rest := [(.ref b77)]) (lenOf pd_2 rfl) rfl (by show 2 * 0 + _ ≤ _; exact Nat.le_of_eq rfl) (hb hby d_prog_2_method_7_code_42) (fun _ _ => ⟨rfl, e77, (by decide : 2 + 1 ≤ _), (by decide : 3 + 2 ≤ _)⟩)
  dsimp only [Pt.U, Pt.locs, Pt.cells, Pt.slots] at X78 l78 y78 z78 st78 hQ78
  subst l78 y78 z78
  obtain ⟨rfl, N78q, K78, ⟨cb78, ck78, cg78, cs78, Fq_78, Aq_78, Eq_78⟩⟩ := hQ78
  have N78 := Fr.app N76 N78q
  have E_ra_c78 := E_ra_c77.keep K78
  have F_b_c78 := F_b_c77.keep K78 (ninS ne_ra_b77 nin0)
  have Av_c78 := Av_c77.keep K78 (ninS ne_ax_b77 nin0)
  have Eq_70_c78 := Eq_70_c77.keep K78
  have Av_r70_76_c78 := Av_r70_76_c77.keep K78 (ninS ne_r70_b77 nin0)
  have Ex_b77_77_c78 := Ex_b77_77.keep K78
  have Z78 : n0 ≤ T78.heap.size := Nat.le_trans Z77 K78.1
  have kp78 := Keep.trans kp77 K78 (allS (Or.inr sz_b77) all0)
  have ne_ra_cb78 : ra ≠ cb78 := Nat.ne_of_lt (Nat.lt_of_lt_of_le E_ra_c77.lt cs78)
  have ne_ax_cb78 : ax ≠ cb78 := Nat.ne_of_lt (Nat.lt_of_lt_of_le Av_c77.lt cs78)
  have ne_r70_cb78 : r70 ≠ cb78 := Nat.ne_of_lt (Nat.lt_of_lt_of_le Eq_70_c77.lt cs78)
  have ne_b77_cb78 : b77 ≠ cb78 := Nat.ne_of_lt (Nat.lt_of_lt_of_le Ex_b77_77.lt cs78)
  have sz_cb78 : h0.size ≤ cb78 := Nat.le_trans kp77.1 cs78
  obtain ⟨fs, hr, hrun, hended, hW, hsame⟩ := X78.leave (v := some (.ref b77)) (fun h => by rw [Bd.returns] at h; cases h)
  refine ⟨_, _, pre0 _ ?_, hrun, hended, _, _, rfl, ?_, ⟨_, rfl⟩, hW, hsame.mono (by decide) (by decide)⟩
  · show Steps p.tables e below (s₁.setTop (mkF m 0 #[.val (.ref ra), .val (.long va), .second, .val (.long vb), .second, .unset] [])) _
    refine XS.aloadN X0.here hx rfl (hb hby d_prog_2_method_7_code_0) rfl rfl ?_
    show Steps p.tables e below (s₁.setTop (mkF m 1 #[.val (.ref ra), .val (.long va), .second, .val (.long vb), .second, .unset] [(.ref ra)])) _
    refine st67 _ ?_
    show Steps p.tables e below (T67.setTop (mkF m 4 #[.val (.ref ra), .val (.long va), .second, .val (.long vb), .second, .unset] [(.ref ax)])) _
    refine XS.aloadN X67.here hx rfl (hb hby d_prog_2_method_7_code_4) rfl rfl ?_
    show Steps p.tables e below (T67.setTop (mkF m 5 #[.val (.ref ra), .val (.long va), .second, .val (.long vb), .second, .unset] [(.ref ra), (.ref ax)])) _
    refine st68 _ ?_
    show Steps p.tables e below (T68.setTop (mkF m 8 #[.val (.ref ra), .val (.long va), .second, .val (.long vb), .second, .unset] [(.ref ax), (.ref ax)])) _
    refine X68.arraylength hx (by rw [e68]; exact Ar69.1) (State.isArrayOf_alike hZ.alike Ar69.2.1) (g := (mkF m 8 #[.val (.ref ra), .val (.long va), .second, .val (.long vb), .second, .unset] [(.ref ax), (.ref ax)])) rfl rfl (hb hby d_prog_2_method_7_code_8) _ ?_
    rw [len_of S69 N69a]
    show Steps p.tables e below (T68.setTop (mkF m 9 #[.val (.ref ra), .val (.long va), .second, .val (.long vb), .second, .unset] [(.int (0 : Int32)), (.ref ax)])) _
    refine XS.iconst X68.here hx rfl (hb hby d_prog_2_method_7_code_9) ?_
    show Steps p.tables e below (T68.setTop (mkF m 10 #[.val (.ref ra), .val (.long va), .second, .val (.long vb), .second, .unset] [(.int (2 : Int32)), (.int (0 : Int32)), (.ref ax)])) _
    refine XS.iadd X68.here hx rfl (hb hby d_prog_2_method_7_code_10) rfl ?_
    show Steps p.tables e below (T68.setTop (mkF m 11 #[.val (.ref ra), .val (.long va), .second, .val (.long vb), .second, .unset] [(.int (2 : Int32)), (.ref ax)])) _
    refine st70 _ ?_
    show Steps p.tables e below (T70.setTop (mkF m 14 #[.val (.ref ra), .val (.long va), .second, .val (.long vb), .second, .unset] [(.ref r70)])) _
    refine XS.astore X70.here hx rfl (hb hby d_prog_2_method_7_code_14) rfl rfl (l' := #[.val (.ref ra), .val (.long va), .second, .val (.long vb), .second, .val (.ref r70)]) rfl ?_
    show Steps p.tables e below (T70.setTop (mkF m 16 #[.val (.ref ra), .val (.long va), .second, .val (.long vb), .second, .val (.ref r70)] [])) _
    refine XS.aload X70.here hx rfl (hb hby d_prog_2_method_7_code_16) rfl rfl ?_
    show Steps p.tables e below (T70.setTop (mkF m 18 #[.val (.ref ra), .val (.long va), .second, .val (.long vb), .second, .val (.ref r70)] [(.ref r70)])) _
    refine XS.aloadN X70.here hx rfl (hb hby d_prog_2_method_7_code_18) rfl rfl ?_
    show Steps p.tables e below (T70.setTop (mkF m 19 #[.val (.ref ra), .val (.long va), .second, .val (.long vb), .second, .val (.ref r70)] [(.ref ra), (.ref r70)])) _
    refine st71 _ ?_
    show Steps p.tables e below (T71.setTop (mkF m 22 #[.val (.ref ra), .val (.long va), .second, .val (.long vb), .second, .val (.ref r70)] [(.ref ax), (.ref r70)])) _
    refine X71.arraylength hx (by rw [e71]; exact Ar72.1) (State.isArrayOf_alike hZ.alike Ar72.2.1) (g := (mkF m 22 #[.val (.ref ra), .val (.long va), .second, .val (.long vb), .second, .val (.ref r70)] [(.ref ax), (.ref r70)])) rfl rfl (hb hby d_prog_2_method_7_code_22) _ ?_
    rw [len_of S72 N72a]
    show Steps p.tables e below (T71.setTop (mkF m 23 #[.val (.ref ra), .val (.long va), .second, .val (.long vb), .second, .val (.ref r70)] [(.int (0 : Int32)), (.ref r70)])) _
    refine XS.lloadN X71.here hx rfl (hb hby d_prog_2_method_7_code_23) rfl ?_
    show Steps p.tables e below (T71.setTop (mkF m 24 #[.val (.ref ra), .val (.long va), .second, .val (.long vb), .second, .val (.ref r70)] [(.long va), (.int (0 : Int32)), (.ref r70)])) _
    refine st73 _ ?_
    show Steps p.tables e below (T73.setTop (mkF m 25 #[.val (.ref ra), .val (.long va), .second, .val (.long vb), .second, .val (.ref r70)] [])) _
    refine XS.aload X73.here hx rfl (hb hby d_prog_2_method_7_code_25) rfl rfl ?_
    show Steps p.tables e below (T73.setTop (mkF m 27 #[.val (.ref ra), .val (.long va), .second, .val (.long vb), .second, .val (.ref r70)] [(.ref r70)])) _
    refine XS.aloadN X73.here hx rfl (hb hby d_prog_2_method_7_code_27) rfl rfl ?_
    show Steps p.tables e below (T73.setTop (mkF m 28 #[.val (.ref ra), .val (.long va), .second, .val (.long vb), .second, .val (.ref r70)] [(.ref ra), (.ref r70)])) _
    refine st74 _ ?_
    show Steps p.tables e below (T74.setTop (mkF m 31 #[.val (.ref ra), .val (.long va), .second, .val (.long vb), .second, .val (.ref r70)] [(.ref ax), (.ref r70)])) _
    refine X74.arraylength hx (by rw [e74]; exact Ar75.1) (State.isArrayOf_alike hZ.alike Ar75.2.1) (g := (mkF m 31 #[.val (.ref ra), .val (.long va), .second, .val (.long vb), .second, .val (.ref r70)] [(.ref ax), (.ref r70)])) rfl rfl (hb hby d_prog_2_method_7_code_31) _ ?_
    rw [len_of S75 N75a]
    show Steps p.tables e below (T74.setTop (mkF m 32 #[.val (.ref ra), .val (.long va), .second, .val (.long vb), .second, .val (.ref r70)] [(.int (0 : Int32)), (.ref r70)])) _
    refine XS.iconst X74.here hx rfl (hb hby d_prog_2_method_7_code_32) ?_
    show Steps p.tables e below (T74.setTop (mkF m 33 #[.val (.ref ra), .val (.long va), .second, .val (.long vb), .second, .val (.ref r70)] [(.int (1 : Int32)), (.int (0 : Int32)), (.ref r70)])) _
    refine XS.iadd X74.here hx rfl (hb hby d_prog_2_method_7_code_33) rfl ?_
    show Steps p.tables e below (T74.setTop (mkF m 34 #[.val (.ref ra), .val (.long va), .second, .val (.long vb), .second, .val (.ref r70)] [(.int (1 : Int32)), (.ref r70)])) _
    refine XS.lloadN X74.here hx rfl (hb hby d_prog_2_method_7_code_34) rfl ?_
    show Steps p.tables e below (T74.setTop (mkF m 35 #[.val (.ref ra), .val (.long va), .second, .val (.long vb), .second, .val (.ref r70)] [(.long vb), (.int (1 : Int32)), (.ref r70)])) _
    refine st76 _ ?_
    show Steps p.tables e below (T76.setTop (mkF m 36 #[.val (.ref ra), .val (.long va), .second, .val (.long vb), .second, .val (.ref r70)] [])) _
    refine st77 _ ?_
    show Steps p.tables e below (T77.setTop (mkF m 39 #[.val (.ref ra), .val (.long va), .second, .val (.long vb), .second, .val (.ref r70)] [(.ref b77)])) _
    refine XS.dup X77.here hx rfl (hb hby d_prog_2_method_7_code_39) rfl rfl ?_
    show Steps p.tables e below (T77.setTop (mkF m 40 #[.val (.ref ra), .val (.long va), .second, .val (.long vb), .second, .val (.ref r70)] [(.ref b77), (.ref b77)])) _
    refine XS.aload X77.here hx rfl (hb hby d_prog_2_method_7_code_40) rfl rfl ?_
    show Steps p.tables e below (T77.setTop (mkF m 42 #[.val (.ref ra), .val (.long va), .second, .val (.long vb), .second, .val (.ref r70)] [(.ref r70), (.ref b77), (.ref b77)])) _
    refine st78.trans ?_
    show Steps p.tables e below (T78.setTop (mkF m 45 #[.val (.ref ra), .val (.long va), .second, .val (.long vb), .second, .val (.ref r70)] [(.ref b77)])) _
    jvm_step X78.here [X78.here.top, hx, (hb hby d_prog_2_method_7_code_45), X78.method', Bd.returns, Value.isRef, FieldType.isReference]
    first | (intro acts; rw [hr _ acts rfl rfl rfl]) | rw [hr _ _ rfl rfl rfl]
    exact Steps.refl _
  · show Q_wax0 Z ra va vb ax ka h0 n0 _ T78.heap _
    exact ⟨⟨_, rfl, g_b77, sz_b77, Ex_b77_77_c78, ⟨cb78, ck78, cg78, sz_cb78, Fq_78, Aq_78, Eq_78⟩⟩, N78, kp78⟩
theorem ef_wax2 (m : MethodId) (ra : Addr) (va : Int64) (vb : Int64) : entryFrame m #[(.ref ra), (.long va), (.long vb)] 6 = mkF m 0 #[.val (.ref ra), .val (.long va), .second, .val (.long vb), .second, .unset] [] := by first | (simp [entryFrame, mkF, argsToLocals, Value.category]; done) | rfl
def Q_wax2 (Z : State) (ra : Addr) (va : Int64) (vb : Int64) (ax : Addr) (ka : ClassId) (v0 : Int64) (v1 : Int64) (h0 : Heap) (n0 : Nat) (v : Option Value) (h : Heap) (L : List Loc) : Prop := (∃ z : Addr, v = some (.ref z) ∧ (n0 ≤ z ∧ h0.size ≤ z ∧ Exa Z h z "com/example/chronotriple/chronotriple/Box" ∧ ∃ (b : Addr) (k : ClassId), n0 ≤ b ∧ h0.size ≤ b ∧ Fld Z h z "com/example/chronotriple/chronotriple/Box" "bounds" "[J" (.ref b) ∧ Arv Z h b k .long (4 : Int32) [(.long v0), (.long v1), (.long va), (.long vb)] (.long (0 : Int64)) ∧ Exa Z h b "[J")) ∧ Fr n0 L ∧ Keep h0 h []
set_option maxRecDepth 65536 in
set_option maxHeartbeats 40000000 in
theorem rm_wax2 (l : Launch) (Z : State) (a0 : Array Value) (hw : ∀ d ∈ tables_1, d.before a0 Z = true) (ws : List Jvm.Cond) (ra : Addr) (va : Int64) (vb : Int64) (ax : Addr) (ka : ClassId) (v0 : Int64) (v1 : Int64) (h0 : Heap) (n0 : Nat) (Z0 : n0 ≤ h0.size) (E_ra : Exa Z h0 ra "com/example/chronotriple/chronotriple/Box") (F_b : Fld Z h0 ra "com/example/chronotriple/chronotriple/Box" "bounds" "[J" (.ref ax)) (Av : Arv Z h0 ax ka .long (2 : Int32) [(.long v0), (.long v1)] (.long (0 : Int64))) (o0 : v0 < v1) (oab : va < vb) :
    MetFree l (⟨"com/example/chronotriple/chronotriple/Box", "withAxis", "(JJ)Lcom/example/chronotriple/chronotriple/Box;"⟩ : MethodName) (head1 (Jvm.Cond.code (⟨"com/example/chronotriple/chronotriple/Box", "withAxis", "(JJ)Lcom/example/chronotriple/chronotriple/Box;"⟩ : MethodName) prog_2_method_7_code 6 (some (.object "com/example/chronotriple/chronotriple/Box")) :: ws) ({ frames := 2, cells := 3, slots := 9, locals := 32 } : Room)) (fun a U => a = #[(.ref ra), (.long va), (.long vb)] ∧ Z.Warmed39 U.vm ∧ U.heap = h0) (fun _ _ _ _ _ => True) (fun _ U o U' => ∃ v L, o = .returned v ∧ Q_wax2 Z ra va vb ax ka v0 v1 h0 n0 v U'.heap L ∧ FrameEnd U o U' L ({ frames := 2, cells := 3, slots := 9, locals := 32 } : Room).cells ({ frames := 2, cells := 3, slots := 9, locals := 32 } : Room).slots) := by
  refine MetFree.of_bodySF (plainFor_of_name pn_0) hisR ?_
  intro p e s m args below meth c s₁ Bd hml0 hP hK
  obtain ⟨rfl, hZ, hh⟩ := hP
  have hx := Bd.exec
  have hby := Bd.bytes
  have hml : c.maxLocals = 6 := hml0
  have hown : s.vm.findClass "com/example/chronotriple/chronotriple/Box" = some m.cls := findClass_of_methodNamed Bd.named
  have hnm := (name_of_methodNamed Bd.named Bd.method).1
  have X0 : Stand p l e ({ frames := 2, cells := 3, slots := 9, locals := 32 } : Room) s m #[(.ref ra), (.long va), (.long vb)] below meth c s₁ [] 0 0 := Stand.of_body Bd
  have e0 : s₁.heap = h0 := by rw [← hh, Bd.state]; rfl
  have N0 := Fr.nil n0
  have pre0 : ∀ t, Steps p.tables e below (s₁.setTop (mkF m 0 #[.val (.ref ra), .val (.long va), .second, .val (.long vb), .second, .unset] [])) t → Steps p.tables e below (s₁.setTop (entryFrame m #[(.ref ra), (.long va), (.long vb)] 6)) t := fun t k => castTop (ef_wax2 m ra va vb) k
  have kp0 : Keep h0 h0 [] := Keep.refl h0 _
  obtain ⟨T79, X79, e79, st79⟩ := getF X0 hx hZ hown (host := "") (Or.inl (hw _ (List.mem_of_getElem? (i := 28) rfl))) Via.refl e0 F_b (g := (mkF m 1 #[.val (.ref ra), .val (.long va), .second, .val (.long vb), .second, .unset] [(.ref ra)])) rfl rfl (hb hby d_prog_2_method_7_code_1)
  obtain ⟨T80, X80, e80, st80⟩ := getF X79 hx hZ hown (host := "") (Or.inl (hw _ (List.mem_of_getElem? (i := 28) rfl))) Via.refl e79 F_b (g := (mkF m 5 #[.val (.ref ra), .val (.long va), .second, .val (.long vb), .second, .unset] [(.ref ra), (.ref ax)])) rfl rfl (hb hby d_prog_2_method_7_code_5)
  obtain ⟨cl81, Ar81, -, S81, N81a, -, -⟩ := id Av
  obtain ⟨_, _, ⟨T82, L82, k82, n82⟩, -, X82, ⟨Lc82, hQ82, l82, y82, z82⟩, st82⟩ := Jvm.LawKit.callS X80 hx (y := (⟨"java/util/Arrays", "copyOf", "([JI)[J"⟩ : MethodName)) hown (mvT hZ (hw _ (List.mem_of_getElem? (i := 35) rfl))) (mvT hZ (hw _ (List.mem_of_getElem? (i := 36) rfl))) (mvT hZ (hw _ (List.mem_of_getElem? (i := 37) rfl))) (mvT hZ (hw _ (List.mem_of_getElem? (i := 38) rfl))) (by decide) (backOf (W := 0) (rm_cpo2 l Z a0 hw [] ax ka v0 v1 h0 n0 Z0 Av) hZ (hw _ (List.mem_of_getElem? (i := 38) rfl)) (hw _ (List.mem_of_getElem? (i := 37) rfl)) (by decide) (by decide)) (g := (mkF m 11 #[.val (.ref ra), .val (.long va), .second, .val (.long vb), .second, .unset] [(.int (4 : Int32)), (.ref ax)])) rfl (by rw [hml]; rfl) (argsL := [(.ref ax), (.int (4 : Int32))]) (rest := []) (lenOf pd_1 rfl) rfl (by show 2 * 0 + _ ≤ _; exact Nat.le_of_eq rfl) (hb hby d_prog_2_method_7_code_11) (fun _ _ => ⟨rfl, e80, (by decide : 0 + 1 ≤ _), (by decide : 0 + 4 ≤ _)⟩)
  dsimp only [Pt.U, Pt.locs, Pt.cells, Pt.slots] at X82 l82 y82 z82 st82 hQ82
  subst l82 y82 z82
  obtain ⟨⟨r82, rfl, hr82⟩, N82q, K82⟩ := hQ82
  have N82 := Fr.app N0 N82q
  have E_ra_c82 := E_ra.keep K82
  have F_b_c82 := F_b.keep K82 nin0
  have Av_c82 := Av.keep K82 nin0
  have Z82 : n0 ≤ T82.heap.size := Nat.le_trans Z0 K82.1
  have kp82 := Keep.trans kp0 K82 all0
  obtain ⟨cg82, cs82, ⟨ck82, Aq_82⟩, Eq_82⟩ := hr82
  have ne_ra_r82 : ra ≠ r82 := Nat.ne_of_lt (Nat.lt_of_lt_of_le E_ra.lt cs82)
  have ne_ax_r82 : ax ≠ r82 := Nat.ne_of_lt (Nat.lt_of_lt_of_le Av.lt cs82)
  have sz_r82 : h0.size ≤ r82 := Nat.le_trans kp0.1 cs82
  obtain ⟨T83, X83, e83, st83⟩ := getF X82 hx hZ hown (host := "") (Or.inl (hw _ (List.mem_of_getElem? (i := 28) rfl))) Via.refl rfl F_b_c82 (g := (mkF m 19 #[.val (.ref ra), .val (.long va), .second, .val (.long vb), .second, .val (.ref r82)] [(.ref ra), (.ref r82)])) rfl rfl (hb hby d_prog_2_method_7_code_19)
  obtain ⟨cl84, Ar84, -, S84, N84a, -, -⟩ := id Av_c82
  obtain ⟨cl85, Ar85, q85, S85, N85a, H85, G85⟩ := id Aq_82
  have hin85 : ¬ ((2 : Int32) < 0 ∨ cl85.slots.size ≤ ((2 : Int32)).toNatClampNeg) := inb_of S85 ⟨by decide, by decide⟩
  obtain ⟨T85, h85, X85, e85, W85, st85⟩ := stJ X83 hx hZ e83 Ar85 (j := (2 : Int32)) hin85 (g := (mkF m 24 #[.val (.ref ra), .val (.long va), .second, .val (.long vb), .second, .val (.ref r82)] [(.long va), (.int (2 : Int32)), (.ref r82)])) rfl rfl (hb hby d_prog_2_method_7_code_24)
  have Av_r82_85 : Arv Z h85 r82 ck82 .long (4 : Int32) [(.long v0), (.long v1), (.long va), (.long (0 : Int64))] (.long (0 : Int64)) := Arv.set Ar85 q85 S85 N85a H85 G85 rfl W85 2 rfl (Nat.le_of_ble_eq_true rfl)
  have E_ra_c85 := E_ra_c82.wr W85
  have F_b_c85 := F_b_c82.other W85 (Or.inl ne_ra_r82)
  have Av_c85 := Av_c82.other W85 ne_ax_r82
  have Eq_82_c85 := Eq_82.wr W85
  have Z85 : n0 ≤ h85.size := Nat.le_trans Z82 (Keep.of_wr W85).1
  have kp85 := kp82.wr W85 (Or.inr sz_r82)
  have N85 := Fr.snoc X85 N82 cg82
  obtain ⟨T86, X86, e86, st86⟩ := getF X85 hx hZ hown (host := "") (Or.inl (hw _ (List.mem_of_getElem? (i := 28) rfl))) Via.refl e85 F_b_c85 (g := (mkF m 28 #[.val (.ref ra), .val (.long va), .second, .val (.long vb), .second, .val (.ref r82)] [(.ref ra), (.ref r82)])) rfl rfl (hb hby d_prog_2_method_7_code_28)
  obtain ⟨cl87, Ar87, -, S87, N87a, -, -⟩ := id Av_c85
  obtain ⟨cl88, Ar88, q88, S88, N88a, H88, G88⟩ := id Av_r82_85
  have hin88 : ¬ ((3 : Int32) < 0 ∨ cl88.slots.size ≤ ((3 : Int32)).toNatClampNeg) := inb_of S88 ⟨by decide, by decide⟩
  obtain ⟨T88, h88, X88, e88, W88, st88⟩ := stJ X86 hx hZ e86 Ar88 (j := (3 : Int32)) hin88 (g := (mkF m 35 #[.val (.ref ra), .val (.long va), .second, .val (.long vb), .second, .val (.ref r82)] [(.long vb), (.int (3 : Int32)), (.ref r82)])) rfl rfl (hb hby d_prog_2_method_7_code_35)
  have Av_r82_88 : Arv Z h88 r82 ck82 .long (4 : Int32) [(.long v0), (.long v1), (.long va), (.long vb)] (.long (0 : Int64)) := Arv.set Ar88 q88 S88 N88a H88 G88 rfl W88 3 rfl (Nat.le_of_ble_eq_true rfl)
  have E_ra_c88 := E_ra_c85.wr W88
  have F_b_c88 := F_b_c85.other W88 (Or.inl ne_ra_r82)
  have Av_c88 := Av_c85.other W88 ne_ax_r82
  have Eq_82_c88 := Eq_82_c85.wr W88
  have Z88 : n0 ≤ h88.size := Nat.le_trans Z85 (Keep.of_wr W88).1
  have kp88 := kp85.wr W88 (Or.inr sz_r82)
  have N88 := Fr.snoc X88 N85 cg82
  obtain ⟨T89, h89, X89, e89, E89, A89, D89, -, st89⟩ := newO X88 hx hZ hown (hw _ (List.mem_of_getElem? (i := 46) rfl)) (hw _ (List.mem_of_getElem? (i := 11) rfl)) (hw _ (List.mem_of_getElem? (i := 12) rfl)) e88 (g := (mkF m 36 #[.val (.ref ra), .val (.long va), .second, .val (.long vb), .second, .val (.ref r82)] [])) rfl (hb hby d_prog_2_method_7_code_36) (by decide) (by decide)
  obtain ⟨b89, g89⟩ : ∃ z, z = h88.size := ⟨_, rfl⟩
  rw [← g89] at A89 D89 st89
  have ne_ra_b89 : ra ≠ b89 := Nat.ne_of_lt (Nat.lt_of_lt_of_le E_ra_c88.lt (Nat.le_of_eq g89.symm))
  have ne_ax_b89 : ax ≠ b89 := Nat.ne_of_lt (Nat.lt_of_lt_of_le Av_c88.lt (Nat.le_of_eq g89.symm))
  have ne_r82_b89 : r82 ≠ b89 := Nat.ne_of_lt (Nat.lt_of_lt_of_le Eq_82_c88.lt (Nat.le_of_eq g89.symm))
  have g_b89 : n0 ≤ b89 := Nat.le_trans Z88 (Nat.le_of_eq g89.symm)
  have sz_b89 : h0.size ≤ b89 := Nat.le_trans kp88.1 (Nat.le_of_eq g89.symm)
  have E_ra_c89 := E_ra_c88.ext E89
  have F_b_c89 := F_b_c88.ext E89
  have Av_c89 := Av_c88.ext E89
  have Eq_82_c89 := Eq_82_c88.ext E89
  have Av_r82_88_c89 := Av_r82_88.ext E89
  have Z89 : n0 ≤ h89.size := Nat.le_trans Z88 E89.1
  have kp89 := kp88.ext E89
  have Ex_b89_89 := A89
  have Fd_bounds_b89_89 : Fld Z h89 b89 "com/example/chronotriple/chronotriple/Box" "bounds" "[J" .null := D89 (Or.inr (hw _ (List.mem_of_getElem? (i := 29) rfl))) (ty := (.array .long)) (by decide)
  obtain ⟨_, _, ⟨T90, L90, k90, n90⟩, -, X90, ⟨Lc90, hQ90, l90, y90, z90⟩, st90⟩ := X89.specialBack hx (y := (⟨"com/example/chronotriple/chronotriple/Box", "<init>", "([J)V"⟩ : MethodName)) rfl hown (mvT hZ (hw _ (List.mem_of_getElem? (i := 47) rfl))) (mvT hZ (hw _ (List.mem_of_getElem? (i := 14) rfl))) (mvT hZ (hw _ (List.mem_of_getElem? (i := 15) rfl))) (by decide) (backOf (W := 1) (rm_ini4 l Z a0 hw [] b89 r82 ck82 v0 v1 va vb h89 n0 Z89 Ex_b89_89 Fd_bounds_b89_89 Av_r82_88_c89 Eq_82_c89 g_b89 ne_r82_b89 o0 oab) hZ (hw _ (List.mem_of_getElem? (i := 15) rfl)) (hw _ (List.mem_of_getElem? (i := 12) rfl)) (by decide) (by decide)) (g := (mkF m 42 #[.val (.ref ra), .val (.long va), .second, .val (.long vb), .second, .val (.ref r82)] [(.ref r82), (.ref b89), (.ref b89)])) rfl (by rw [hml]; rfl) (Steps.refl _) (a := b89) (argsL := [(.ref r82)]) (rest := [(.ref b89)]) (lenOf pd_2 rfl) rfl (by show 2 * 0 + _ ≤ _; exact Nat.le_of_eq rfl) (hb hby d_prog_2_method_7_code_42) (fun _ _ => ⟨rfl, e89, (by decide : 2 + 1 ≤ _), (by decide : 5 + 4 ≤ _)⟩)
  dsimp only [Pt.U, Pt.locs, Pt.cells, Pt.slots] at X90 l90 y90 z90 st90 hQ90
  subst l90 y90 z90
  obtain ⟨rfl, N90q, K90, ⟨cb90, ck90, cg90, cs90, Fq_90, Aq_90, Eq_90⟩⟩ := hQ90
  have N90 := Fr.app N88 N90q
  have E_ra_c90 := E_ra_c89.keep K90
  have F_b_c90 := F_b_c89.keep K90 (ninS ne_ra_b89 nin0)
  have Av_c90 := Av_c89.keep K90 (ninS ne_ax_b89 nin0)
  have Eq_82_c90 := Eq_82_c89.keep K90
  have Av_r82_88_c90 := Av_r82_88_c89.keep K90 (ninS ne_r82_b89 nin0)
  have Ex_b89_89_c90 := Ex_b89_89.keep K90
  have Z90 : n0 ≤ T90.heap.size := Nat.le_trans Z89 K90.1
  have kp90 := Keep.trans kp89 K90 (allS (Or.inr sz_b89) all0)
  have ne_ra_cb90 : ra ≠ cb90 := Nat.ne_of_lt (Nat.lt_of_lt_of_le E_ra_c89.lt cs90)
  have ne_ax_cb90 : ax ≠ cb90 := Nat.ne_of_lt (Nat.lt_of_lt_of_le Av_c89.lt cs90)
  have ne_r82_cb90 : r82 ≠ cb90 := Nat.ne_of_lt (Nat.lt_of_lt_of_le Eq_82_c89.lt cs90)
  have ne_b89_cb90 : b89 ≠ cb90 := Nat.ne_of_lt (Nat.lt_of_lt_of_le Ex_b89_89.lt cs90)
  have sz_cb90 : h0.size ≤ cb90 := Nat.le_trans kp89.1 cs90
  obtain ⟨fs, hr, hrun, hended, hW, hsame⟩ := X90.leave (v := some (.ref b89)) (fun h => by rw [Bd.returns] at h; cases h)
  refine ⟨_, _, pre0 _ ?_, hrun, hended, _, _, rfl, ?_, ⟨_, rfl⟩, hW, hsame.mono (by decide) (by decide)⟩
  · show Steps p.tables e below (s₁.setTop (mkF m 0 #[.val (.ref ra), .val (.long va), .second, .val (.long vb), .second, .unset] [])) _
    refine XS.aloadN X0.here hx rfl (hb hby d_prog_2_method_7_code_0) rfl rfl ?_
    show Steps p.tables e below (s₁.setTop (mkF m 1 #[.val (.ref ra), .val (.long va), .second, .val (.long vb), .second, .unset] [(.ref ra)])) _
    refine st79 _ ?_
    show Steps p.tables e below (T79.setTop (mkF m 4 #[.val (.ref ra), .val (.long va), .second, .val (.long vb), .second, .unset] [(.ref ax)])) _
    refine XS.aloadN X79.here hx rfl (hb hby d_prog_2_method_7_code_4) rfl rfl ?_
    show Steps p.tables e below (T79.setTop (mkF m 5 #[.val (.ref ra), .val (.long va), .second, .val (.long vb), .second, .unset] [(.ref ra), (.ref ax)])) _
    refine st80 _ ?_
    show Steps p.tables e below (T80.setTop (mkF m 8 #[.val (.ref ra), .val (.long va), .second, .val (.long vb), .second, .unset] [(.ref ax), (.ref ax)])) _
    refine X80.arraylength hx (by rw [e80]; exact Ar81.1) (State.isArrayOf_alike hZ.alike Ar81.2.1) (g := (mkF m 8 #[.val (.ref ra), .val (.long va), .second, .val (.long vb), .second, .unset] [(.ref ax), (.ref ax)])) rfl rfl (hb hby d_prog_2_method_7_code_8) _ ?_
    rw [len_of S81 N81a]
    show Steps p.tables e below (T80.setTop (mkF m 9 #[.val (.ref ra), .val (.long va), .second, .val (.long vb), .second, .unset] [(.int (2 : Int32)), (.ref ax)])) _
    refine XS.iconst X80.here hx rfl (hb hby d_prog_2_method_7_code_9) ?_
    show Steps p.tables e below (T80.setTop (mkF m 10 #[.val (.ref ra), .val (.long va), .second, .val (.long vb), .second, .unset] [(.int (2 : Int32)), (.int (2 : Int32)), (.ref ax)])) _
    refine XS.iadd X80.here hx rfl (hb hby d_prog_2_method_7_code_10) rfl ?_
    show Steps p.tables e below (T80.setTop (mkF m 11 #[.val (.ref ra), .val (.long va), .second, .val (.long vb), .second, .unset] [(.int (4 : Int32)), (.ref ax)])) _
    refine st82 _ ?_
    show Steps p.tables e below (T82.setTop (mkF m 14 #[.val (.ref ra), .val (.long va), .second, .val (.long vb), .second, .unset] [(.ref r82)])) _
    refine XS.astore X82.here hx rfl (hb hby d_prog_2_method_7_code_14) rfl rfl (l' := #[.val (.ref ra), .val (.long va), .second, .val (.long vb), .second, .val (.ref r82)]) rfl ?_
    show Steps p.tables e below (T82.setTop (mkF m 16 #[.val (.ref ra), .val (.long va), .second, .val (.long vb), .second, .val (.ref r82)] [])) _
    refine XS.aload X82.here hx rfl (hb hby d_prog_2_method_7_code_16) rfl rfl ?_
    show Steps p.tables e below (T82.setTop (mkF m 18 #[.val (.ref ra), .val (.long va), .second, .val (.long vb), .second, .val (.ref r82)] [(.ref r82)])) _
    refine XS.aloadN X82.here hx rfl (hb hby d_prog_2_method_7_code_18) rfl rfl ?_
    show Steps p.tables e below (T82.setTop (mkF m 19 #[.val (.ref ra), .val (.long va), .second, .val (.long vb), .second, .val (.ref r82)] [(.ref ra), (.ref r82)])) _
    refine st83 _ ?_
    show Steps p.tables e below (T83.setTop (mkF m 22 #[.val (.ref ra), .val (.long va), .second, .val (.long vb), .second, .val (.ref r82)] [(.ref ax), (.ref r82)])) _
    refine X83.arraylength hx (by rw [e83]; exact Ar84.1) (State.isArrayOf_alike hZ.alike Ar84.2.1) (g := (mkF m 22 #[.val (.ref ra), .val (.long va), .second, .val (.long vb), .second, .val (.ref r82)] [(.ref ax), (.ref r82)])) rfl rfl (hb hby d_prog_2_method_7_code_22) _ ?_
    rw [len_of S84 N84a]
    show Steps p.tables e below (T83.setTop (mkF m 23 #[.val (.ref ra), .val (.long va), .second, .val (.long vb), .second, .val (.ref r82)] [(.int (2 : Int32)), (.ref r82)])) _
    refine XS.lloadN X83.here hx rfl (hb hby d_prog_2_method_7_code_23) rfl ?_
    show Steps p.tables e below (T83.setTop (mkF m 24 #[.val (.ref ra), .val (.long va), .second, .val (.long vb), .second, .val (.ref r82)] [(.long va), (.int (2 : Int32)), (.ref r82)])) _
    refine st85 _ ?_
    show Steps p.tables e below (T85.setTop (mkF m 25 #[.val (.ref ra), .val (.long va), .second, .val (.long vb), .second, .val (.ref r82)] [])) _
    refine XS.aload X85.here hx rfl (hb hby d_prog_2_method_7_code_25) rfl rfl ?_
    show Steps p.tables e below (T85.setTop (mkF m 27 #[.val (.ref ra), .val (.long va), .second, .val (.long vb), .second, .val (.ref r82)] [(.ref r82)])) _
    refine XS.aloadN X85.here hx rfl (hb hby d_prog_2_method_7_code_27) rfl rfl ?_
    show Steps p.tables e below (T85.setTop (mkF m 28 #[.val (.ref ra), .val (.long va), .second, .val (.long vb), .second, .val (.ref r82)] [(.ref ra), (.ref r82)])) _
    refine st86 _ ?_
    show Steps p.tables e below (T86.setTop (mkF m 31 #[.val (.ref ra), .val (.long va), .second, .val (.long vb), .second, .val (.ref r82)] [(.ref ax), (.ref r82)])) _
    refine X86.arraylength hx (by rw [e86]; exact Ar87.1) (State.isArrayOf_alike hZ.alike Ar87.2.1) (g := (mkF m 31 #[.val (.ref ra), .val (.long va), .second, .val (.long vb), .second, .val (.ref r82)] [(.ref ax), (.ref r82)])) rfl rfl (hb hby d_prog_2_method_7_code_31) _ ?_
    rw [len_of S87 N87a]
    show Steps p.tables e below (T86.setTop (mkF m 32 #[.val (.ref ra), .val (.long va), .second, .val (.long vb), .second, .val (.ref r82)] [(.int (2 : Int32)), (.ref r82)])) _
    refine XS.iconst X86.here hx rfl (hb hby d_prog_2_method_7_code_32) ?_
    show Steps p.tables e below (T86.setTop (mkF m 33 #[.val (.ref ra), .val (.long va), .second, .val (.long vb), .second, .val (.ref r82)] [(.int (1 : Int32)), (.int (2 : Int32)), (.ref r82)])) _
    refine XS.iadd X86.here hx rfl (hb hby d_prog_2_method_7_code_33) rfl ?_
    show Steps p.tables e below (T86.setTop (mkF m 34 #[.val (.ref ra), .val (.long va), .second, .val (.long vb), .second, .val (.ref r82)] [(.int (3 : Int32)), (.ref r82)])) _
    refine XS.lloadN X86.here hx rfl (hb hby d_prog_2_method_7_code_34) rfl ?_
    show Steps p.tables e below (T86.setTop (mkF m 35 #[.val (.ref ra), .val (.long va), .second, .val (.long vb), .second, .val (.ref r82)] [(.long vb), (.int (3 : Int32)), (.ref r82)])) _
    refine st88 _ ?_
    show Steps p.tables e below (T88.setTop (mkF m 36 #[.val (.ref ra), .val (.long va), .second, .val (.long vb), .second, .val (.ref r82)] [])) _
    refine st89 _ ?_
    show Steps p.tables e below (T89.setTop (mkF m 39 #[.val (.ref ra), .val (.long va), .second, .val (.long vb), .second, .val (.ref r82)] [(.ref b89)])) _
    refine XS.dup X89.here hx rfl (hb hby d_prog_2_method_7_code_39) rfl rfl ?_
    show Steps p.tables e below (T89.setTop (mkF m 40 #[.val (.ref ra), .val (.long va), .second, .val (.long vb), .second, .val (.ref r82)] [(.ref b89), (.ref b89)])) _
    refine XS.aload X89.here hx rfl (hb hby d_prog_2_method_7_code_40) rfl rfl ?_
    show Steps p.tables e below (T89.setTop (mkF m 42 #[.val (.ref ra), .val (.long va), .second, .val (.long vb), .second, .val (.ref r82)] [(.ref r82), (.ref b89), (.ref b89)])) _
    refine st90.trans ?_
    show Steps p.tables e below (T90.setTop (mkF m 45 #[.val (.ref ra), .val (.long va), .second, .val (.long vb), .second, .val (.ref r82)] [(.ref b89)])) _
    jvm_step X90.here [X90.here.top, hx, (hb hby d_prog_2_method_7_code_45), X90.method', Bd.returns, Value.isRef, FieldType.isReference]
    first | (intro acts; rw [hr _ acts rfl rfl rfl]) | rw [hr _ _ rfl rfl rfl]
    exact Steps.refl _
  · show Q_wax2 Z ra va vb ax ka v0 v1 h0 n0 _ T90.heap _
    exact ⟨⟨_, rfl, g_b89, sz_b89, Ex_b89_89_c90, ⟨cb90, ck90, cg90, sz_cb90, Fq_90, Aq_90, Eq_90⟩⟩, N90, kp90⟩
theorem ef_wax4 (m : MethodId) (ra : Addr) (va : Int64) (vb : Int64) : entryFrame m #[(.ref ra), (.long va), (.long vb)] 6 = mkF m 0 #[.val (.ref ra), .val (.long va), .second, .val (.long vb), .second, .unset] [] := by first | (simp [entryFrame, mkF, argsToLocals, Value.category]; done) | rfl
def Q_wax4 (Z : State) (ra : Addr) (va : Int64) (vb : Int64) (ax : Addr) (ka : ClassId) (v0 : Int64) (v1 : Int64) (v2 : Int64) (v3 : Int64) (h0 : Heap) (n0 : Nat) (v : Option Value) (h : Heap) (L : List Loc) : Prop := (∃ z : Addr, v = some (.ref z) ∧ (n0 ≤ z ∧ h0.size ≤ z ∧ Exa Z h z "com/example/chronotriple/chronotriple/Box" ∧ ∃ (b : Addr) (k : ClassId), n0 ≤ b ∧ h0.size ≤ b ∧ Fld Z h z "com/example/chronotriple/chronotriple/Box" "bounds" "[J" (.ref b) ∧ Arv Z h b k .long (6 : Int32) [(.long v0), (.long v1), (.long v2), (.long v3), (.long va), (.long vb)] (.long (0 : Int64)) ∧ Exa Z h b "[J")) ∧ Fr n0 L ∧ Keep h0 h []
set_option maxRecDepth 65536 in
set_option maxHeartbeats 40000000 in
theorem rm_wax4 (l : Launch) (Z : State) (a0 : Array Value) (hw : ∀ d ∈ tables_1, d.before a0 Z = true) (ws : List Jvm.Cond) (ra : Addr) (va : Int64) (vb : Int64) (ax : Addr) (ka : ClassId) (v0 : Int64) (v1 : Int64) (v2 : Int64) (v3 : Int64) (h0 : Heap) (n0 : Nat) (Z0 : n0 ≤ h0.size) (E_ra : Exa Z h0 ra "com/example/chronotriple/chronotriple/Box") (F_b : Fld Z h0 ra "com/example/chronotriple/chronotriple/Box" "bounds" "[J" (.ref ax)) (Av : Arv Z h0 ax ka .long (4 : Int32) [(.long v0), (.long v1), (.long v2), (.long v3)] (.long (0 : Int64))) (o0 : v0 < v1) (o2 : v2 < v3) (oab : va < vb) :
    MetFree l (⟨"com/example/chronotriple/chronotriple/Box", "withAxis", "(JJ)Lcom/example/chronotriple/chronotriple/Box;"⟩ : MethodName) (head1 (Jvm.Cond.code (⟨"com/example/chronotriple/chronotriple/Box", "withAxis", "(JJ)Lcom/example/chronotriple/chronotriple/Box;"⟩ : MethodName) prog_2_method_7_code 6 (some (.object "com/example/chronotriple/chronotriple/Box")) :: ws) ({ frames := 2, cells := 3, slots := 13, locals := 32 } : Room)) (fun a U => a = #[(.ref ra), (.long va), (.long vb)] ∧ Z.Warmed39 U.vm ∧ U.heap = h0) (fun _ _ _ _ _ => True) (fun _ U o U' => ∃ v L, o = .returned v ∧ Q_wax4 Z ra va vb ax ka v0 v1 v2 v3 h0 n0 v U'.heap L ∧ FrameEnd U o U' L ({ frames := 2, cells := 3, slots := 13, locals := 32 } : Room).cells ({ frames := 2, cells := 3, slots := 13, locals := 32 } : Room).slots) := by
  refine MetFree.of_bodySF (plainFor_of_name pn_0) hisR ?_
  intro p e s m args below meth c s₁ Bd hml0 hP hK
  obtain ⟨rfl, hZ, hh⟩ := hP
  have hx := Bd.exec
  have hby := Bd.bytes
  have hml : c.maxLocals = 6 := hml0
  have hown : s.vm.findClass "com/example/chronotriple/chronotriple/Box" = some m.cls := findClass_of_methodNamed Bd.named
  have hnm := (name_of_methodNamed Bd.named Bd.method).1
  have X0 : Stand p l e ({ frames := 2, cells := 3, slots := 13, locals := 32 } : Room) s m #[(.ref ra), (.long va), (.long vb)] below meth c s₁ [] 0 0 := Stand.of_body Bd
  have e0 : s₁.heap = h0 := by rw [← hh, Bd.state]; rfl
  have N0 := Fr.nil n0
  have pre0 : ∀ t, Steps p.tables e below (s₁.setTop (mkF m 0 #[.val (.ref ra), .val (.long va), .second, .val (.long vb), .second, .unset] [])) t → Steps p.tables e below (s₁.setTop (entryFrame m #[(.ref ra), (.long va), (.long vb)] 6)) t := fun t k => castTop (ef_wax4 m ra va vb) k
  have kp0 : Keep h0 h0 [] := Keep.refl h0 _
  obtain ⟨T91, X91, e91, st91⟩ := getF X0 hx hZ hown (host := "") (Or.inl (hw _ (List.mem_of_getElem? (i := 28) rfl))) Via.refl e0 F_b (g := (mkF m 1 #[.val (.ref ra), .val (.long va), .second, .val (.long vb), .second, .unset] [(.ref ra)])) rfl rfl (hb hby d_prog_2_method_7_code_1)
  obtain ⟨T92, X92, e92, st92⟩ := getF X91 hx hZ hown (host := "") (Or.inl (hw _ (List.mem_of_getElem? (i := 28) rfl))) Via.refl e91 F_b (g := (mkF m 5 #[.val (.ref ra), .val (.long va), .second, .val (.long vb), .second, .unset] [(.ref ra), (.ref ax)])) rfl rfl (hb hby d_prog_2_method_7_code_5)
  obtain ⟨cl93, Ar93, -, S93, N93a, -, -⟩ := id Av
  obtain ⟨_, _, ⟨T94, L94, k94, n94⟩, -, X94, ⟨Lc94, hQ94, l94, y94, z94⟩, st94⟩ := Jvm.LawKit.callS X92 hx (y := (⟨"java/util/Arrays", "copyOf", "([JI)[J"⟩ : MethodName)) hown (mvT hZ (hw _ (List.mem_of_getElem? (i := 35) rfl))) (mvT hZ (hw _ (List.mem_of_getElem? (i := 36) rfl))) (mvT hZ (hw _ (List.mem_of_getElem? (i := 37) rfl))) (mvT hZ (hw _ (List.mem_of_getElem? (i := 38) rfl))) (by decide) (backOf (W := 0) (rm_cpo4 l Z a0 hw [] ax ka v0 v1 v2 v3 h0 n0 Z0 Av) hZ (hw _ (List.mem_of_getElem? (i := 38) rfl)) (hw _ (List.mem_of_getElem? (i := 37) rfl)) (by decide) (by decide)) (g := (mkF m 11 #[.val (.ref ra), .val (.long va), .second, .val (.long vb), .second, .unset] [(.int (6 : Int32)), (.ref ax)])) rfl (by rw [hml]; rfl) (argsL := [(.ref ax), (.int (6 : Int32))]) (rest := []) (lenOf pd_1 rfl) rfl (by show 2 * 0 + _ ≤ _; exact Nat.le_of_eq rfl) (hb hby d_prog_2_method_7_code_11) (fun _ _ => ⟨rfl, e92, (by decide : 0 + 1 ≤ _), (by decide : 0 + 6 ≤ _)⟩)
  dsimp only [Pt.U, Pt.locs, Pt.cells, Pt.slots] at X94 l94 y94 z94 st94 hQ94
  subst l94 y94 z94
  obtain ⟨⟨r94, rfl, hr94⟩, N94q, K94⟩ := hQ94
  have N94 := Fr.app N0 N94q
  have E_ra_c94 := E_ra.keep K94
  have F_b_c94 := F_b.keep K94 nin0
  have Av_c94 := Av.keep K94 nin0
  have Z94 : n0 ≤ T94.heap.size := Nat.le_trans Z0 K94.1
  have kp94 := Keep.trans kp0 K94 all0
  obtain ⟨cg94, cs94, ⟨ck94, Aq_94⟩, Eq_94⟩ := hr94
  have ne_ra_r94 : ra ≠ r94 := Nat.ne_of_lt (Nat.lt_of_lt_of_le E_ra.lt cs94)
  have ne_ax_r94 : ax ≠ r94 := Nat.ne_of_lt (Nat.lt_of_lt_of_le Av.lt cs94)
  have sz_r94 : h0.size ≤ r94 := Nat.le_trans kp0.1 cs94
  obtain ⟨T95, X95, e95, st95⟩ := getF X94 hx hZ hown (host := "") (Or.inl (hw _ (List.mem_of_getElem? (i := 28) rfl))) Via.refl rfl F_b_c94 (g := (mkF m 19 #[.val (.ref ra), .val (.long va), .second, .val (.long vb), .second, .val (.ref r94)] [(.ref ra), (.ref r94)])) rfl rfl (hb hby d_prog_2_method_7_code_19)
  obtain ⟨cl96, Ar96, -, S96, N96a, -, -⟩ := id Av_c94
  obtain ⟨cl97, Ar97, q97, S97, N97a, H97, G97⟩ := id Aq_94
  have hin97 : ¬ ((4 : Int32) < 0 ∨ cl97.slots.size ≤ ((4 : Int32)).toNatClampNeg) := inb_of S97 ⟨by decide, by decide⟩
  obtain ⟨T97, h97, X97, e97, W97, st97⟩ := stJ X95 hx hZ e95 Ar97 (j := (4 : Int32)) hin97 (g := (mkF m 24 #[.val (.ref ra), .val (.long va), .second, .val (.long vb), .second, .val (.ref r94)] [(.long va), (.int (4 : Int32)), (.ref r94)])) rfl rfl (hb hby d_prog_2_method_7_code_24)
  have Av_r94_97 : Arv Z h97 r94 ck94 .long (6 : Int32) [(.long v0), (.long v1), (.long v2), (.long v3), (.long va), (.long (0 : Int64))] (.long (0 : Int64)) := Arv.set Ar97 q97 S97 N97a H97 G97 rfl W97 4 rfl (Nat.le_of_ble_eq_true rfl)
  have E_ra_c97 := E_ra_c94.wr W97
  have F_b_c97 := F_b_c94.other W97 (Or.inl ne_ra_r94)
  have Av_c97 := Av_c94.other W97 ne_ax_r94
  have Eq_94_c97 := Eq_94.wr W97
  have Z97 : n0 ≤ h97.size := Nat.le_trans Z94 (Keep.of_wr W97).1
  have kp97 := kp94.wr W97 (Or.inr sz_r94)
  have N97 := Fr.snoc X97 N94 cg94
  obtain ⟨T98, X98, e98, st98⟩ := getF X97 hx hZ hown (host := "") (Or.inl (hw _ (List.mem_of_getElem? (i := 28) rfl))) Via.refl e97 F_b_c97 (g := (mkF m 28 #[.val (.ref ra), .val (.long va), .second, .val (.long vb), .second, .val (.ref r94)] [(.ref ra), (.ref r94)])) rfl rfl (hb hby d_prog_2_method_7_code_28)
  obtain ⟨cl99, Ar99, -, S99, N99a, -, -⟩ := id Av_c97
  obtain ⟨cl100, Ar100, q100, S100, N100a, H100, G100⟩ := id Av_r94_97
  have hin100 : ¬ ((5 : Int32) < 0 ∨ cl100.slots.size ≤ ((5 : Int32)).toNatClampNeg) := inb_of S100 ⟨by decide, by decide⟩
  obtain ⟨T100, h100, X100, e100, W100, st100⟩ := stJ X98 hx hZ e98 Ar100 (j := (5 : Int32)) hin100 (g := (mkF m 35 #[.val (.ref ra), .val (.long va), .second, .val (.long vb), .second, .val (.ref r94)] [(.long vb), (.int (5 : Int32)), (.ref r94)])) rfl rfl (hb hby d_prog_2_method_7_code_35)
  have Av_r94_100 : Arv Z h100 r94 ck94 .long (6 : Int32) [(.long v0), (.long v1), (.long v2), (.long v3), (.long va), (.long vb)] (.long (0 : Int64)) := Arv.set Ar100 q100 S100 N100a H100 G100 rfl W100 5 rfl (Nat.le_of_ble_eq_true rfl)
  have E_ra_c100 := E_ra_c97.wr W100
  have F_b_c100 := F_b_c97.other W100 (Or.inl ne_ra_r94)
  have Av_c100 := Av_c97.other W100 ne_ax_r94
  have Eq_94_c100 := Eq_94_c97.wr W100
  have Z100 : n0 ≤ h100.size := Nat.le_trans Z97 (Keep.of_wr W100).1
  have kp100 := kp97.wr W100 (Or.inr sz_r94)
  have N100 := Fr.snoc X100 N97 cg94
  obtain ⟨T101, h101, X101, e101, E101, A101, D101, -, st101⟩ := newO X100 hx hZ hown (hw _ (List.mem_of_getElem? (i := 46) rfl)) (hw _ (List.mem_of_getElem? (i := 11) rfl)) (hw _ (List.mem_of_getElem? (i := 12) rfl)) e100 (g := (mkF m 36 #[.val (.ref ra), .val (.long va), .second, .val (.long vb), .second, .val (.ref r94)] [])) rfl (hb hby d_prog_2_method_7_code_36) (by decide) (by decide)
  obtain ⟨b101, g101⟩ : ∃ z, z = h100.size := ⟨_, rfl⟩
  rw [← g101] at A101 D101 st101
  have ne_ra_b101 : ra ≠ b101 := Nat.ne_of_lt (Nat.lt_of_lt_of_le E_ra_c100.lt (Nat.le_of_eq g101.symm))
  have ne_ax_b101 : ax ≠ b101 := Nat.ne_of_lt (Nat.lt_of_lt_of_le Av_c100.lt (Nat.le_of_eq g101.symm))
  have ne_r94_b101 : r94 ≠ b101 := Nat.ne_of_lt (Nat.lt_of_lt_of_le Eq_94_c100.lt (Nat.le_of_eq g101.symm))
  have g_b101 : n0 ≤ b101 := Nat.le_trans Z100 (Nat.le_of_eq g101.symm)
  have sz_b101 : h0.size ≤ b101 := Nat.le_trans kp100.1 (Nat.le_of_eq g101.symm)
  have E_ra_c101 := E_ra_c100.ext E101
  have F_b_c101 := F_b_c100.ext E101
  have Av_c101 := Av_c100.ext E101
  have Eq_94_c101 := Eq_94_c100.ext E101
  have Av_r94_100_c101 := Av_r94_100.ext E101
  have Z101 : n0 ≤ h101.size := Nat.le_trans Z100 E101.1
  have kp101 := kp100.ext E101
  have Ex_b101_101 := A101
  have Fd_bounds_b101_101 : Fld Z h101 b101 "com/example/chronotriple/chronotriple/Box" "bounds" "[J" .null := D101 (Or.inr (hw _ (List.mem_of_getElem? (i := 29) rfl))) (ty := (.array .long)) (by decide)
  obtain ⟨_, _, ⟨T102, L102, k102, n102⟩, -, X102, ⟨Lc102, hQ102, l102, y102, z102⟩, st102⟩ := X101.specialBack hx (y := (⟨"com/example/chronotriple/chronotriple/Box", "<init>", "([J)V"⟩ : MethodName)) rfl hown (mvT hZ (hw _ (List.mem_of_getElem? (i := 47) rfl))) (mvT hZ (hw _ (List.mem_of_getElem? (i := 14) rfl))) (mvT hZ (hw _ (List.mem_of_getElem? (i := 15) rfl))) (by decide) (backOf (W := 1) (rm_ini6 l Z a0 hw [] b101 r94 ck94 v0 v1 v2 v3 va vb h101 n0 Z101 Ex_b101_101 Fd_bounds_b101_101 Av_r94_100_c101 Eq_94_c101 g_b101 ne_r94_b101 o0 o2 oab) hZ (hw _ (List.mem_of_getElem? (i := 15) rfl)) (hw _ (List.mem_of_getElem? (i := 12) rfl)) (by decide) (by decide)) (g := (mkF m 42 #[.val (.ref ra), .val (.long va), .second, .val (.long vb), .second, .val (.ref r94)] [(.ref r94), (.ref b101), (.ref b101)])) rfl (by rw [hml]; rfl) (Steps.refl _) (a := b101) (argsL := [(.ref r94)]) (rest := [(.ref b101)]) (lenOf pd_2 rfl) rfl (by show 2 * 0 + _ ≤ _; exact Nat.le_of_eq rfl) (hb hby d_prog_2_method_7_code_42) (fun _ _ => ⟨rfl, e101, (by decide : 2 + 1 ≤ _), (by decide : 7 + 6 ≤ _)⟩)
  dsimp only [Pt.U, Pt.locs, Pt.cells, Pt.slots] at X102 l102 y102 z102 st102 hQ102
  subst l102 y102 z102
  obtain ⟨rfl, N102q, K102, ⟨cb102, ck102, cg102, cs102, Fq_102, Aq_102, Eq_102⟩⟩ := hQ102
  have N102 := Fr.app N100 N102q
  have E_ra_c102 := E_ra_c101.keep K102
  have F_b_c102 := F_b_c101.keep K102 (ninS ne_ra_b101 nin0)
  have Av_c102 := Av_c101.keep K102 (ninS ne_ax_b101 nin0)
  have Eq_94_c102 := Eq_94_c101.keep K102
  have Av_r94_100_c102 := Av_r94_100_c101.keep K102 (ninS ne_r94_b101 nin0)
  have Ex_b101_101_c102 := Ex_b101_101.keep K102
  have Z102 : n0 ≤ T102.heap.size := Nat.le_trans Z101 K102.1
  have kp102 := Keep.trans kp101 K102 (allS (Or.inr sz_b101) all0)
  have ne_ra_cb102 : ra ≠ cb102 := Nat.ne_of_lt (Nat.lt_of_lt_of_le E_ra_c101.lt cs102)
  have ne_ax_cb102 : ax ≠ cb102 := Nat.ne_of_lt (Nat.lt_of_lt_of_le Av_c101.lt cs102)
  have ne_r94_cb102 : r94 ≠ cb102 := Nat.ne_of_lt (Nat.lt_of_lt_of_le Eq_94_c101.lt cs102)
  have ne_b101_cb102 : b101 ≠ cb102 := Nat.ne_of_lt (Nat.lt_of_lt_of_le Ex_b101_101.lt cs102)
  have sz_cb102 : h0.size ≤ cb102 := Nat.le_trans kp101.1 cs102
  obtain ⟨fs, hr, hrun, hended, hW, hsame⟩ := X102.leave (v := some (.ref b101)) (fun h => by rw [Bd.returns] at h; cases h)
  refine ⟨_, _, pre0 _ ?_, hrun, hended, _, _, rfl, ?_, ⟨_, rfl⟩, hW, hsame.mono (by decide) (by decide)⟩
  · show Steps p.tables e below (s₁.setTop (mkF m 0 #[.val (.ref ra), .val (.long va), .second, .val (.long vb), .second, .unset] [])) _
    refine XS.aloadN X0.here hx rfl (hb hby d_prog_2_method_7_code_0) rfl rfl ?_
    show Steps p.tables e below (s₁.setTop (mkF m 1 #[.val (.ref ra), .val (.long va), .second, .val (.long vb), .second, .unset] [(.ref ra)])) _
    refine st91 _ ?_
    show Steps p.tables e below (T91.setTop (mkF m 4 #[.val (.ref ra), .val (.long va), .second, .val (.long vb), .second, .unset] [(.ref ax)])) _
    refine XS.aloadN X91.here hx rfl (hb hby d_prog_2_method_7_code_4) rfl rfl ?_
    show Steps p.tables e below (T91.setTop (mkF m 5 #[.val (.ref ra), .val (.long va), .second, .val (.long vb), .second, .unset] [(.ref ra), (.ref ax)])) _
    refine st92 _ ?_
    show Steps p.tables e below (T92.setTop (mkF m 8 #[.val (.ref ra), .val (.long va), .second, .val (.long vb), .second, .unset] [(.ref ax), (.ref ax)])) _
    refine X92.arraylength hx (by rw [e92]; exact Ar93.1) (State.isArrayOf_alike hZ.alike Ar93.2.1) (g := (mkF m 8 #[.val (.ref ra), .val (.long va), .second, .val (.long vb), .second, .unset] [(.ref ax), (.ref ax)])) rfl rfl (hb hby d_prog_2_method_7_code_8) _ ?_
    rw [len_of S93 N93a]
    show Steps p.tables e below (T92.setTop (mkF m 9 #[.val (.ref ra), .val (.long va), .second, .val (.long vb), .second, .unset] [(.int (4 : Int32)), (.ref ax)])) _
    refine XS.iconst X92.here hx rfl (hb hby d_prog_2_method_7_code_9) ?_
    show Steps p.tables e below (T92.setTop (mkF m 10 #[.val (.ref ra), .val (.long va), .second, .val (.long vb), .second, .unset] [(.int (2 : Int32)), (.int (4 : Int32)), (.ref ax)])) _
    refine XS.iadd X92.here hx rfl (hb hby d_prog_2_method_7_code_10) rfl ?_
    show Steps p.tables e below (T92.setTop (mkF m 11 #[.val (.ref ra), .val (.long va), .second, .val (.long vb), .second, .unset] [(.int (6 : Int32)), (.ref ax)])) _
    refine st94 _ ?_
    show Steps p.tables e below (T94.setTop (mkF m 14 #[.val (.ref ra), .val (.long va), .second, .val (.long vb), .second, .unset] [(.ref r94)])) _
    refine XS.astore X94.here hx rfl (hb hby d_prog_2_method_7_code_14) rfl rfl (l' := #[.val (.ref ra), .val (.long va), .second, .val (.long vb), .second, .val (.ref r94)]) rfl ?_
    show Steps p.tables e below (T94.setTop (mkF m 16 #[.val (.ref ra), .val (.long va), .second, .val (.long vb), .second, .val (.ref r94)] [])) _
    refine XS.aload X94.here hx rfl (hb hby d_prog_2_method_7_code_16) rfl rfl ?_
    show Steps p.tables e below (T94.setTop (mkF m 18 #[.val (.ref ra), .val (.long va), .second, .val (.long vb), .second, .val (.ref r94)] [(.ref r94)])) _
    refine XS.aloadN X94.here hx rfl (hb hby d_prog_2_method_7_code_18) rfl rfl ?_
    show Steps p.tables e below (T94.setTop (mkF m 19 #[.val (.ref ra), .val (.long va), .second, .val (.long vb), .second, .val (.ref r94)] [(.ref ra), (.ref r94)])) _
    refine st95 _ ?_
    show Steps p.tables e below (T95.setTop (mkF m 22 #[.val (.ref ra), .val (.long va), .second, .val (.long vb), .second, .val (.ref r94)] [(.ref ax), (.ref r94)])) _
    refine X95.arraylength hx (by rw [e95]; exact Ar96.1) (State.isArrayOf_alike hZ.alike Ar96.2.1) (g := (mkF m 22 #[.val (.ref ra), .val (.long va), .second, .val (.long vb), .second, .val (.ref r94)] [(.ref ax), (.ref r94)])) rfl rfl (hb hby d_prog_2_method_7_code_22) _ ?_
    rw [len_of S96 N96a]
    show Steps p.tables e below (T95.setTop (mkF m 23 #[.val (.ref ra), .val (.long va), .second, .val (.long vb), .second, .val (.ref r94)] [(.int (4 : Int32)), (.ref r94)])) _
    refine XS.lloadN X95.here hx rfl (hb hby d_prog_2_method_7_code_23) rfl ?_
    show Steps p.tables e below (T95.setTop (mkF m 24 #[.val (.ref ra), .val (.long va), .second, .val (.long vb), .second, .val (.ref r94)] [(.long va), (.int (4 : Int32)), (.ref r94)])) _
    refine st97 _ ?_
    show Steps p.tables e below (T97.setTop (mkF m 25 #[.val (.ref ra), .val (.long va), .second, .val (.long vb), .second, .val (.ref r94)] [])) _
    refine XS.aload X97.here hx rfl (hb hby d_prog_2_method_7_code_25) rfl rfl ?_
    show Steps p.tables e below (T97.setTop (mkF m 27 #[.val (.ref ra), .val (.long va), .second, .val (.long vb), .second, .val (.ref r94)] [(.ref r94)])) _
    refine XS.aloadN X97.here hx rfl (hb hby d_prog_2_method_7_code_27) rfl rfl ?_
    show Steps p.tables e below (T97.setTop (mkF m 28 #[.val (.ref ra), .val (.long va), .second, .val (.long vb), .second, .val (.ref r94)] [(.ref ra), (.ref r94)])) _
    refine st98 _ ?_
    show Steps p.tables e below (T98.setTop (mkF m 31 #[.val (.ref ra), .val (.long va), .second, .val (.long vb), .second, .val (.ref r94)] [(.ref ax), (.ref r94)])) _
    refine X98.arraylength hx (by rw [e98]; exact Ar99.1) (State.isArrayOf_alike hZ.alike Ar99.2.1) (g := (mkF m 31 #[.val (.ref ra), .val (.long va), .second, .val (.long vb), .second, .val (.ref r94)] [(.ref ax), (.ref r94)])) rfl rfl (hb hby d_prog_2_method_7_code_31) _ ?_
    rw [len_of S99 N99a]
    show Steps p.tables e below (T98.setTop (mkF m 32 #[.val (.ref ra), .val (.long va), .second, .val (.long vb), .second, .val (.ref r94)] [(.int (4 : Int32)), (.ref r94)])) _
    refine XS.iconst X98.here hx rfl (hb hby d_prog_2_method_7_code_32) ?_
    show Steps p.tables e below (T98.setTop (mkF m 33 #[.val (.ref ra), .val (.long va), .second, .val (.long vb), .second, .val (.ref r94)] [(.int (1 : Int32)), (.int (4 : Int32)), (.ref r94)])) _
    refine XS.iadd X98.here hx rfl (hb hby d_prog_2_method_7_code_33) rfl ?_
    show Steps p.tables e below (T98.setTop (mkF m 34 #[.val (.ref ra), .val (.long va), .second, .val (.long vb), .second, .val (.ref r94)] [(.int (5 : Int32)), (.ref r94)])) _
    refine XS.lloadN X98.here hx rfl (hb hby d_prog_2_method_7_code_34) rfl ?_
    show Steps p.tables e below (T98.setTop (mkF m 35 #[.val (.ref ra), .val (.long va), .second, .val (.long vb), .second, .val (.ref r94)] [(.long vb), (.int (5 : Int32)), (.ref r94)])) _
    refine st100 _ ?_
    show Steps p.tables e below (T100.setTop (mkF m 36 #[.val (.ref ra), .val (.long va), .second, .val (.long vb), .second, .val (.ref r94)] [])) _
    refine st101 _ ?_
    show Steps p.tables e below (T101.setTop (mkF m 39 #[.val (.ref ra), .val (.long va), .second, .val (.long vb), .second, .val (.ref r94)] [(.ref b101)])) _
    refine XS.dup X101.here hx rfl (hb hby d_prog_2_method_7_code_39) rfl rfl ?_
    show Steps p.tables e below (T101.setTop (mkF m 40 #[.val (.ref ra), .val (.long va), .second, .val (.long vb), .second, .val (.ref r94)] [(.ref b101), (.ref b101)])) _
    refine XS.aload X101.here hx rfl (hb hby d_prog_2_method_7_code_40) rfl rfl ?_
    show Steps p.tables e below (T101.setTop (mkF m 42 #[.val (.ref ra), .val (.long va), .second, .val (.long vb), .second, .val (.ref r94)] [(.ref r94), (.ref b101), (.ref b101)])) _
    refine st102.trans ?_
    show Steps p.tables e below (T102.setTop (mkF m 45 #[.val (.ref ra), .val (.long va), .second, .val (.long vb), .second, .val (.ref r94)] [(.ref b101)])) _
    jvm_step X102.here [X102.here.top, hx, (hb hby d_prog_2_method_7_code_45), X102.method', Bd.returns, Value.isRef, FieldType.isReference]
    first | (intro acts; rw [hr _ acts rfl rfl rfl]) | rw [hr _ _ rfl rfl rfl]
    exact Steps.refl _
  · show Q_wax4 Z ra va vb ax ka v0 v1 v2 v3 h0 n0 _ T102.heap _
    exact ⟨⟨_, rfl, g_b101, sz_b101, Ex_b101_101_c102, ⟨cb102, ck102, cg102, sz_cb102, Fq_102, Aq_102, Eq_102⟩⟩, N102, kp102⟩
theorem pn_2 : plainName "com/example/chronotriple/chronotriple/BoxWithAxisPinLaw" = true := by first | (simp [plainName, overriddenIn]; done) | decide +kernel
theorem pd_3 : parseMethodDescriptor "(JJ)J" = some ⟨[.long, .long], some .long⟩ := by decide +kernel
theorem pd_4 : parseMethodDescriptor "(JJ)Lcom/example/chronotriple/chronotriple/Box;" = some ⟨[.long, .long], some (.object "com/example/chronotriple/chronotriple/Box")⟩ := by decide +kernel
theorem pd_5 : parseMethodDescriptor "()I" = some ⟨[], some .int⟩ := by decide +kernel
theorem pd_6 : parseMethodDescriptor "(I)J" = some ⟨[.int], some .long⟩ := by decide +kernel
theorem ef_law (m : MethodId) (c0_ : Int64) (c1_ : Int64) (c2_ : Int64) (c3_ : Int64) (c4_ : Int64) (vk : Int32) : entryFrame m #[(.long c0_), (.long c1_), (.long c2_), (.long c3_), (.long c4_), (.int vk)] maxLocals = mkF m 0 #[.val (.long c0_), .second, .val (.long c1_), .second, .val (.long c2_), .second, .val (.long c3_), .second, .val (.long c4_), .second, .val (.int vk), .unset, .unset, .unset, .unset, .unset, .unset, .unset, .unset, .unset, .unset, .unset, .unset, .unset, .unset, .unset, .unset] [] := by first | (simp [entryFrame, mkF, argsToLocals, Value.category, maxLocals]; done) | rfl
def Q_law (Z : State) (c0_ : Int64) (c1_ : Int64) (c2_ : Int64) (c3_ : Int64) (c4_ : Int64) (vk : Int32) (h0 : Heap) (n0 : Nat) (v : Option Value) (h : Heap) (L : List Loc) : Prop := v = some (.int 1) ∧ Fr n0 L
set_option maxRecDepth 65536 in
set_option maxHeartbeats 40000000 in
theorem rm_law (l : Launch) (Z : State) (a0 : Array Value) (hw : ∀ d ∈ tables_1, d.before a0 Z = true) (ws : List Jvm.Cond) (c0_ : Int64) (c1_ : Int64) (c2_ : Int64) (c3_ : Int64) (c4_ : Int64) (vk : Int32) (h0 : Heap) (n0 : Nat) (Z0 : n0 ≤ h0.size) :
    MetFree l x (head1 (Jvm.Cond.code x code maxLocals ret :: ws) room_1) (fun a U => a = #[(.long c0_), (.long c1_), (.long c2_), (.long c3_), (.long c4_), (.int vk)] ∧ Z.Warmed39 U.vm ∧ U.heap = h0) (fun _ _ _ _ _ => True) (fun _ U o U' => ∃ v L, o = .returned v ∧ Q_law Z c0_ c1_ c2_ c3_ c4_ vk h0 n0 v U'.heap L ∧ FrameEnd U o U' L room_1.cells room_1.slots) := by
  refine MetFree.of_bodySF (plainFor_of_name pn_2) hisR ?_
  intro p e s m args below meth c s₁ Bd hml0 hP hK
  obtain ⟨rfl, hZ, hh⟩ := hP
  have hx := Bd.exec
  have hby := Bd.bytes
  have hml : c.maxLocals = 27 := hml0
  have hown : s.vm.findClass "com/example/chronotriple/chronotriple/BoxWithAxisPinLaw" = some m.cls := findClass_of_methodNamed Bd.named
  have hnm := (name_of_methodNamed Bd.named Bd.method).1
  have X0 : Stand p l e room_1 s m #[(.long c0_), (.long c1_), (.long c2_), (.long c3_), (.long c4_), (.int vk)] below meth c s₁ [] 0 0 := Stand.of_body Bd
  have e0 : s₁.heap = h0 := by rw [← hh, Bd.state]; rfl
  have N0 := Fr.nil n0
  have pre0 : ∀ t, Steps p.tables e below (s₁.setTop (mkF m 0 #[.val (.long c0_), .second, .val (.long c1_), .second, .val (.long c2_), .second, .val (.long c3_), .second, .val (.long c4_), .second, .val (.int vk), .unset, .unset, .unset, .unset, .unset, .unset, .unset, .unset, .unset, .unset, .unset, .unset, .unset, .unset, .unset, .unset] [])) t → Steps p.tables e below (s₁.setTop (entryFrame m #[(.long c0_), (.long c1_), (.long c2_), (.long c3_), (.long c4_), (.int vk)] maxLocals)) t := fun t k => castTop (ef_law m c0_ c1_ c2_ c3_ c4_ vk) k
  obtain ⟨lo0, hi0, hp103, T103, L103, X103, N103, e103, st103⟩ : ∃ (lo0 : Int64) (hi0 : Int64), (lo0 < hi0) ∧ ∃ (T' : State) (Lc : List Loc), Stand p l e room_1 s m #[(.long c0_), (.long c1_), (.long c2_), (.long c3_), (.long c4_), (.int vk)] below meth c T' Lc 0 0 ∧ Fr n0 Lc ∧ T'.heap = h0 ∧ ∀ t, Steps p.tables e below (T'.setTop (mkF m 37 #[.val (.long c0_), .second, .val (.long c1_), .second, .val (.long c2_), .second, .val (.long c3_), .second, .val (.long c4_), .second, .val (.int vk), .val (.long lo0), .second, .val (.long hi0), .second, .unset, .unset, .unset, .unset, .unset, .unset, .unset, .unset, .unset, .unset, .unset, .unset] [])) t → Steps p.tables e below (s₁.setTop (mkF m 0 #[.val (.long c0_), .second, .val (.long c1_), .second, .val (.long c2_), .second, .val (.long c3_), .second, .val (.long c4_), .second, .val (.int vk), .unset, .unset, .unset, .unset, .unset, .unset, .unset, .unset, .unset, .unset, .unset, .unset, .unset, .unset, .unset, .unset] [])) t := by
    obtain ⟨_, _, ⟨T104, L104, k104, n104⟩, -, X104, ⟨Lc104, hQ104, l104, y104, z104⟩, st104⟩ := Jvm.LawKit.callS X0 hx (y := (⟨"java/lang/Math", "min", "(JJ)J"⟩ : MethodName)) hown (mvT hZ (hw _ (List.mem_of_getElem? (i := 0) rfl))) (mvT hZ (hw _ (List.mem_of_getElem? (i := 1) rfl))) (mvT hZ (hw _ (List.mem_of_getElem? (i := 2) rfl))) (mvT hZ (hw _ (List.mem_of_getElem? (i := 3) rfl))) (by decide) (backOf (W := 0) (rm_min l Z a0 hw [] c0_ c1_ h0 n0 Z0 ) hZ (hw _ (List.mem_of_getElem? (i := 3) rfl)) (hw _ (List.mem_of_getElem? (i := 2) rfl)) (by decide) (by decide)) (g := (mkF m 2 #[.val (.long c0_), .second, .val (.long c1_), .second, .val (.long c2_), .second, .val (.long c3_), .second, .val (.long c4_), .second, .val (.int vk), .unset, .unset, .unset, .unset, .unset, .unset, .unset, .unset, .unset, .unset, .unset, .unset, .unset, .unset, .unset, .unset] [(.long c1_), (.long c0_)])) rfl (by rw [hml]; rfl) (argsL := [(.long c0_), (.long c1_)]) (rest := []) (lenOf pd_3 rfl) rfl (by show 2 * 0 + _ ≤ _; exact Nat.le_of_eq rfl) (hb hby at_2) (fun _ _ => ⟨rfl, e0, (by decide : 0 + 0 ≤ _), (by decide : 0 + 0 ≤ _)⟩)
    dsimp only [Pt.U, Pt.locs, Pt.cells, Pt.slots] at X104 l104 y104 z104 st104 hQ104
    subst l104 y104 z104
    obtain ⟨⟨r104, rfl, hr104⟩, N104q, e104⟩ := hQ104
    have N104 := Fr.app N0 N104q
    obtain ⟨_, _, ⟨T105, L105, k105, n105⟩, -, X105, ⟨Lc105, hQ105, l105, y105, z105⟩, st105⟩ := Jvm.LawKit.callS X104 hx (y := (⟨"java/lang/Math", "max", "(JJ)J"⟩ : MethodName)) hown (mvT hZ (hw _ (List.mem_of_getElem? (i := 4) rfl))) (mvT hZ (hw _ (List.mem_of_getElem? (i := 5) rfl))) (mvT hZ (hw _ (List.mem_of_getElem? (i := 2) rfl))) (mvT hZ (hw _ (List.mem_of_getElem? (i := 6) rfl))) (by decide) (backOf (W := 0) (rm_max l Z a0 hw [] c0_ c1_ h0 n0 Z0 ) hZ (hw _ (List.mem_of_getElem? (i := 6) rfl)) (hw _ (List.mem_of_getElem? (i := 2) rfl)) (by decide) (by decide)) (g := (mkF m 9 #[.val (.long c0_), .second, .val (.long c1_), .second, .val (.long c2_), .second, .val (.long c3_), .second, .val (.long c4_), .second, .val (.int vk), .val (.long r104), .second, .unset, .unset, .unset, .unset, .unset, .unset, .unset, .unset, .unset, .unset, .unset, .unset, .unset, .unset] [(.long c1_), (.long c0_)])) rfl (by rw [hml]; rfl) (argsL := [(.long c0_), (.long c1_)]) (rest := []) (lenOf pd_3 rfl) rfl (by show 2 * 0 + _ ≤ _; exact Nat.le_of_eq rfl) (hb hby at_9) (fun _ _ => ⟨rfl, e104, (by decide : 0 + 0 ≤ _), (by decide : 0 + 0 ≤ _)⟩)
    dsimp only [Pt.U, Pt.locs, Pt.cells, Pt.slots] at X105 l105 y105 z105 st105 hQ105
    subst l105 y105 z105
    obtain ⟨⟨r105, rfl, hr105⟩, N105q, e105⟩ := hQ105
    have N105 := Fr.app N104 N105q
    by_cases h19_106 : r104 = r105
    · obtain ⟨_, _, ⟨T107, L107, k107, n107⟩, -, X107, ⟨Lc107, hQ107, l107, y107, z107⟩, st107⟩ := Jvm.LawKit.callS X105 hx (y := (⟨"java/lang/Math", "min", "(JJ)J"⟩ : MethodName)) hown (mvT hZ (hw _ (List.mem_of_getElem? (i := 0) rfl))) (mvT hZ (hw _ (List.mem_of_getElem? (i := 1) rfl))) (mvT hZ (hw _ (List.mem_of_getElem? (i := 2) rfl))) (mvT hZ (hw _ (List.mem_of_getElem? (i := 3) rfl))) (by decide) (backOf (W := 0) (rm_min l Z a0 hw [] c0_ (9223372036854775806 : Int64) h0 n0 Z0 ) hZ (hw _ (List.mem_of_getElem? (i := 3) rfl)) (hw _ (List.mem_of_getElem? (i := 2) rfl)) (by decide) (by decide)) (g := (mkF m 26 #[.val (.long c0_), .second, .val (.long c1_), .second, .val (.long c2_), .second, .val (.long c3_), .second, .val (.long c4_), .second, .val (.int vk), .val (.long r104), .second, .val (.long r105), .second, .unset, .unset, .unset, .unset, .unset, .unset, .unset, .unset, .unset, .unset, .unset, .unset] [(.long (9223372036854775806 : Int64)), (.long c0_)])) rfl (by rw [hml]; rfl) (argsL := [(.long c0_), (.long (9223372036854775806 : Int64))]) (rest := []) (lenOf pd_3 rfl) rfl (by show 2 * 0 + _ ≤ _; exact Nat.le_of_eq rfl) (hb hby at_26) (fun _ _ => ⟨rfl, e105, (by decide : 0 + 0 ≤ _), (by decide : 0 + 0 ≤ _)⟩)
      dsimp only [Pt.U, Pt.locs, Pt.cells, Pt.slots] at X107 l107 y107 z107 st107 hQ107
      subst l107 y107 z107
      obtain ⟨⟨r107, rfl, hr107⟩, N107q, e107⟩ := hQ107
      have N107 := Fr.app N105 N107q
      refine ⟨r107, (r107 + (1 : Int64)), own_mm _ _ hr107, T107, _, X107, N107, e107, fun t kt => ?_⟩
      show Steps p.tables e below (s₁.setTop (mkF m 0 #[.val (.long c0_), .second, .val (.long c1_), .second, .val (.long c2_), .second, .val (.long c3_), .second, .val (.long c4_), .second, .val (.int vk), .unset, .unset, .unset, .unset, .unset, .unset, .unset, .unset, .unset, .unset, .unset, .unset, .unset, .unset, .unset, .unset] [])) _
      refine XS.lloadN X0.here hx rfl (hb hby at_0) rfl ?_
      show Steps p.tables e below (s₁.setTop (mkF m 1 #[.val (.long c0_), .second, .val (.long c1_), .second, .val (.long c2_), .second, .val (.long c3_), .second, .val (.long c4_), .second, .val (.int vk), .unset, .unset, .unset, .unset, .unset, .unset, .unset, .unset, .unset, .unset, .unset, .unset, .unset, .unset, .unset, .unset] [(.long c0_)])) _
      refine XS.lloadN X0.here hx rfl (hb hby at_1) rfl ?_
      show Steps p.tables e below (s₁.setTop (mkF m 2 #[.val (.long c0_), .second, .val (.long c1_), .second, .val (.long c2_), .second, .val (.long c3_), .second, .val (.long c4_), .second, .val (.int vk), .unset, .unset, .unset, .unset, .unset, .unset, .unset, .unset, .unset, .unset, .unset, .unset, .unset, .unset, .unset, .unset] [(.long c1_), (.long c0_)])) _
      refine st104 _ ?_
      show Steps p.tables e below (T104.setTop (mkF m 5 #[.val (.long c0_), .second, .val (.long c1_), .second, .val (.long c2_), .second, .val (.long c3_), .second, .val (.long c4_), .second, .val (.int vk), .unset, .unset, .unset, .unset, .unset, .unset, .unset, .unset, .unset, .unset, .unset, .unset, .unset, .unset, .unset, .unset] [(.long r104)])) _
      refine XS.lstore X104.here hx rfl (hb hby at_5) rfl (l' := #[.val (.long c0_), .second, .val (.long c1_), .second, .val (.long c2_), .second, .val (.long c3_), .second, .val (.long c4_), .second, .val (.int vk), .val (.long r104), .second, .unset, .unset, .unset, .unset, .unset, .unset, .unset, .unset, .unset, .unset, .unset, .unset, .unset, .unset]) rfl ?_
      show Steps p.tables e below (T104.setTop (mkF m 7 #[.val (.long c0_), .second, .val (.long c1_), .second, .val (.long c2_), .second, .val (.long c3_), .second, .val (.long c4_), .second, .val (.int vk), .val (.long r104), .second, .unset, .unset, .unset, .unset, .unset, .unset, .unset, .unset, .unset, .unset, .unset, .unset, .unset, .unset] [])) _
      refine XS.lloadN X104.here hx rfl (hb hby at_7) rfl ?_
      show Steps p.tables e below (T104.setTop (mkF m 8 #[.val (.long c0_), .second, .val (.long c1_), .second, .val (.long c2_), .second, .val (.long c3_), .second, .val (.long c4_), .second, .val (.int vk), .val (.long r104), .second, .unset, .unset, .unset, .unset, .unset, .unset, .unset, .unset, .unset, .unset, .unset, .unset, .unset, .unset] [(.long c0_)])) _
      refine XS.lloadN X104.here hx rfl (hb hby at_8) rfl ?_
      show Steps p.tables e below (T104.setTop (mkF m 9 #[.val (.long c0_), .second, .val (.long c1_), .second, .val (.long c2_), .second, .val (.long c3_), .second, .val (.long c4_), .second, .val (.int vk), .val (.long r104), .second, .unset, .unset, .unset, .unset, .unset, .unset, .unset, .unset, .unset, .unset, .unset, .unset, .unset, .unset] [(.long c1_), (.long c0_)])) _
      refine st105 _ ?_
      show Steps p.tables e below (T105.setTop (mkF m 12 #[.val (.long c0_), .second, .val (.long c1_), .second, .val (.long c2_), .second, .val (.long c3_), .second, .val (.long c4_), .second, .val (.int vk), .val (.long r104), .second, .unset, .unset, .unset, .unset, .unset, .unset, .unset, .unset, .unset, .unset, .unset, .unset, .unset, .unset] [(.long r105)])) _
      refine XS.lstore X105.here hx rfl (hb hby at_12) rfl (l' := #[.val (.long c0_), .second, .val (.long c1_), .second, .val (.long c2_), .second, .val (.long c3_), .second, .val (.long c4_), .second, .val (.int vk), .val (.long r104), .second, .val (.long r105), .second, .unset, .unset, .unset, .unset, .unset, .unset, .unset, .unset, .unset, .unset, .unset, .unset]) rfl ?_
      show Steps p.tables e below (T105.setTop (mkF m 14 #[.val (.long c0_), .second, .val (.long c1_), .second, .val (.long c2_), .second, .val (.long c3_), .second, .val (.long c4_), .second, .val (.int vk), .val (.long r104), .second, .val (.long r105), .second, .unset, .unset, .unset, .unset, .unset, .unset, .unset, .unset, .unset, .unset, .unset, .unset] [])) _
      refine XS.lload X105.here hx rfl (hb hby at_14) rfl ?_
      show Steps p.tables e below (T105.setTop (mkF m 16 #[.val (.long c0_), .second, .val (.long c1_), .second, .val (.long c2_), .second, .val (.long c3_), .second, .val (.long c4_), .second, .val (.int vk), .val (.long r104), .second, .val (.long r105), .second, .unset, .unset, .unset, .unset, .unset, .unset, .unset, .unset, .unset, .unset, .unset, .unset] [(.long r104)])) _
      refine XS.lload X105.here hx rfl (hb hby at_16) rfl ?_
      show Steps p.tables e below (T105.setTop (mkF m 18 #[.val (.long c0_), .second, .val (.long c1_), .second, .val (.long c2_), .second, .val (.long c3_), .second, .val (.long c4_), .second, .val (.int vk), .val (.long r104), .second, .val (.long r105), .second, .unset, .unset, .unset, .unset, .unset, .unset, .unset, .unset, .unset, .unset, .unset, .unset] [(.long r105), (.long r104)])) _
      refine XS.lcmp X105.here hx rfl (hb hby at_18) rfl ?_
      show Steps p.tables e below (T105.setTop (mkF m 19 #[.val (.long c0_), .second, .val (.long c1_), .second, .val (.long c2_), .second, .val (.long c3_), .second, .val (.long c4_), .second, .val (.int vk), .val (.long r104), .second, .val (.long r105), .second, .unset, .unset, .unset, .unset, .unset, .unset, .unset, .unset, .unset, .unset, .unset, .unset] [(.int (lcmpW r104 r105))])) _
      refine XS.ifNo X105.here hx rfl (hb hby at_19) rfl ((if0 _ _).trans (teq ((lw_eq _ _).mpr h19_106)).2) ?_
      show Steps p.tables e below (T105.setTop (mkF m 22 #[.val (.long c0_), .second, .val (.long c1_), .second, .val (.long c2_), .second, .val (.long c3_), .second, .val (.long c4_), .second, .val (.int vk), .val (.long r104), .second, .val (.long r105), .second, .unset, .unset, .unset, .unset, .unset, .unset, .unset, .unset, .unset, .unset, .unset, .unset] [])) _
      refine XS.lloadN X105.here hx rfl (hb hby at_22) rfl ?_
      show Steps p.tables e below (T105.setTop (mkF m 23 #[.val (.long c0_), .second, .val (.long c1_), .second, .val (.long c2_), .second, .val (.long c3_), .second, .val (.long c4_), .second, .val (.int vk), .val (.long r104), .second, .val (.long r105), .second, .unset, .unset, .unset, .unset, .unset, .unset, .unset, .unset, .unset, .unset, .unset, .unset] [(.long c0_)])) _
      refine X105.ldc2Long hx hown (mvT hZ (hw _ (List.mem_of_getElem? (i := 7) rfl))) (g := (mkF m 23 #[.val (.long c0_), .second, .val (.long c1_), .second, .val (.long c2_), .second, .val (.long c3_), .second, .val (.long c4_), .second, .val (.int vk), .val (.long r104), .second, .val (.long r105), .second, .unset, .unset, .unset, .unset, .unset, .unset, .unset, .unset, .unset, .unset, .unset, .unset] [(.long c0_)])) rfl (hb hby at_23) _ ?_
      show Steps p.tables e below (T105.setTop (mkF m 26 #[.val (.long c0_), .second, .val (.long c1_), .second, .val (.long c2_), .second, .val (.long c3_), .second, .val (.long c4_), .second, .val (.int vk), .val (.long r104), .second, .val (.long r105), .second, .unset, .unset, .unset, .unset, .unset, .unset, .unset, .unset, .unset, .unset, .unset, .unset] [(.long (9223372036854775806 : Int64)), (.long c0_)])) _
      refine st107 _ ?_
      show Steps p.tables e below (T107.setTop (mkF m 29 #[.val (.long c0_), .second, .val (.long c1_), .second, .val (.long c2_), .second, .val (.long c3_), .second, .val (.long c4_), .second, .val (.int vk), .val (.long r104), .second, .val (.long r105), .second, .unset, .unset, .unset, .unset, .unset, .unset, .unset, .unset, .unset, .unset, .unset, .unset] [(.long r107)])) _
      refine XS.lstore X107.here hx rfl (hb hby at_29) rfl (l' := #[.val (.long c0_), .second, .val (.long c1_), .second, .val (.long c2_), .second, .val (.long c3_), .second, .val (.long c4_), .second, .val (.int vk), .val (.long r107), .second, .val (.long r105), .second, .unset, .unset, .unset, .unset, .unset, .unset, .unset, .unset, .unset, .unset, .unset, .unset]) rfl ?_
      show Steps p.tables e below (T107.setTop (mkF m 31 #[.val (.long c0_), .second, .val (.long c1_), .second, .val (.long c2_), .second, .val (.long c3_), .second, .val (.long c4_), .second, .val (.int vk), .val (.long r107), .second, .val (.long r105), .second, .unset, .unset, .unset, .unset, .unset, .unset, .unset, .unset, .unset, .unset, .unset, .unset] [])) _
      refine XS.lload X107.here hx rfl (hb hby at_31) rfl ?_
      show Steps p.tables e below (T107.setTop (mkF m 33 #[.val (.long c0_), .second, .val (.long c1_), .second, .val (.long c2_), .second, .val (.long c3_), .second, .val (.long c4_), .second, .val (.int vk), .val (.long r107), .second, .val (.long r105), .second, .unset, .unset, .unset, .unset, .unset, .unset, .unset, .unset, .unset, .unset, .unset, .unset] [(.long r107)])) _
      refine XS.lconst X107.here hx rfl (hb hby at_33) ?_
      show Steps p.tables e below (T107.setTop (mkF m 34 #[.val (.long c0_), .second, .val (.long c1_), .second, .val (.long c2_), .second, .val (.long c3_), .second, .val (.long c4_), .second, .val (.int vk), .val (.long r107), .second, .val (.long r105), .second, .unset, .unset, .unset, .unset, .unset, .unset, .unset, .unset, .unset, .unset, .unset, .unset] [(.long (1 : Int64)), (.long r107)])) _
      refine XS.ladd X107.here hx rfl (hb hby at_34) rfl ?_
      show Steps p.tables e below (T107.setTop (mkF m 35 #[.val (.long c0_), .second, .val (.long c1_), .second, .val (.long c2_), .second, .val (.long c3_), .second, .val (.long c4_), .second, .val (.int vk), .val (.long r107), .second, .val (.long r105), .second, .unset, .unset, .unset, .unset, .unset, .unset, .unset, .unset, .unset, .unset, .unset, .unset] [(.long (r107 + (1 : Int64)))])) _
      refine XS.lstore X107.here hx rfl (hb hby at_35) rfl (l' := #[.val (.long c0_), .second, .val (.long c1_), .second, .val (.long c2_), .second, .val (.long c3_), .second, .val (.long c4_), .second, .val (.int vk), .val (.long r107), .second, .val (.long (r107 + (1 : Int64))), .second, .unset, .unset, .unset, .unset, .unset, .unset, .unset, .unset, .unset, .unset, .unset, .unset]) rfl ?_
      exact kt
    · refine ⟨r104, r105, own_lh _ _ _ _ hr104 hr105 h19_106, T105, _, X105, N105, e105, fun t kt => ?_⟩
      show Steps p.tables e below (s₁.setTop (mkF m 0 #[.val (.long c0_), .second, .val (.long c1_), .second, .val (.long c2_), .second, .val (.long c3_), .second, .val (.long c4_), .second, .val (.int vk), .unset, .unset, .unset, .unset, .unset, .unset, .unset, .unset, .unset, .unset, .unset, .unset, .unset, .unset, .unset, .unset] [])) _
      refine XS.lloadN X0.here hx rfl (hb hby at_0) rfl ?_
      show Steps p.tables e below (s₁.setTop (mkF m 1 #[.val (.long c0_), .second, .val (.long c1_), .second, .val (.long c2_), .second, .val (.long c3_), .second, .val (.long c4_), .second, .val (.int vk), .unset, .unset, .unset, .unset, .unset, .unset, .unset, .unset, .unset, .unset, .unset, .unset, .unset, .unset, .unset, .unset] [(.long c0_)])) _
      refine XS.lloadN X0.here hx rfl (hb hby at_1) rfl ?_
      show Steps p.tables e below (s₁.setTop (mkF m 2 #[.val (.long c0_), .second, .val (.long c1_), .second, .val (.long c2_), .second, .val (.long c3_), .second, .val (.long c4_), .second, .val (.int vk), .unset, .unset, .unset, .unset, .unset, .unset, .unset, .unset, .unset, .unset, .unset, .unset, .unset, .unset, .unset, .unset] [(.long c1_), (.long c0_)])) _
      refine st104 _ ?_
      show Steps p.tables e below (T104.setTop (mkF m 5 #[.val (.long c0_), .second, .val (.long c1_), .second, .val (.long c2_), .second, .val (.long c3_), .second, .val (.long c4_), .second, .val (.int vk), .unset, .unset, .unset, .unset, .unset, .unset, .unset, .unset, .unset, .unset, .unset, .unset, .unset, .unset, .unset, .unset] [(.long r104)])) _
      refine XS.lstore X104.here hx rfl (hb hby at_5) rfl (l' := #[.val (.long c0_), .second, .val (.long c1_), .second, .val (.long c2_), .second, .val (.long c3_), .second, .val (.long c4_), .second, .val (.int vk), .val (.long r104), .second, .unset, .unset, .unset, .unset, .unset, .unset, .unset, .unset, .unset, .unset, .unset, .unset, .unset, .unset]) rfl ?_
      show Steps p.tables e below (T104.setTop (mkF m 7 #[.val (.long c0_), .second, .val (.long c1_), .second, .val (.long c2_), .second, .val (.long c3_), .second, .val (.long c4_), .second, .val (.int vk), .val (.long r104), .second, .unset, .unset, .unset, .unset, .unset, .unset, .unset, .unset, .unset, .unset, .unset, .unset, .unset, .unset] [])) _
      refine XS.lloadN X104.here hx rfl (hb hby at_7) rfl ?_
      show Steps p.tables e below (T104.setTop (mkF m 8 #[.val (.long c0_), .second, .val (.long c1_), .second, .val (.long c2_), .second, .val (.long c3_), .second, .val (.long c4_), .second, .val (.int vk), .val (.long r104), .second, .unset, .unset, .unset, .unset, .unset, .unset, .unset, .unset, .unset, .unset, .unset, .unset, .unset, .unset] [(.long c0_)])) _
      refine XS.lloadN X104.here hx rfl (hb hby at_8) rfl ?_
      show Steps p.tables e below (T104.setTop (mkF m 9 #[.val (.long c0_), .second, .val (.long c1_), .second, .val (.long c2_), .second, .val (.long c3_), .second, .val (.long c4_), .second, .val (.int vk), .val (.long r104), .second, .unset, .unset, .unset, .unset, .unset, .unset, .unset, .unset, .unset, .unset, .unset, .unset, .unset, .unset] [(.long c1_), (.long c0_)])) _
      refine st105 _ ?_
      show Steps p.tables e below (T105.setTop (mkF m 12 #[.val (.long c0_), .second, .val (.long c1_), .second, .val (.long c2_), .second, .val (.long c3_), .second, .val (.long c4_), .second, .val (.int vk), .val (.long r104), .second, .unset, .unset, .unset, .unset, .unset, .unset, .unset, .unset, .unset, .unset, .unset, .unset, .unset, .unset] [(.long r105)])) _
      refine XS.lstore X105.here hx rfl (hb hby at_12) rfl (l' := #[.val (.long c0_), .second, .val (.long c1_), .second, .val (.long c2_), .second, .val (.long c3_), .second, .val (.long c4_), .second, .val (.int vk), .val (.long r104), .second, .val (.long r105), .second, .unset, .unset, .unset, .unset, .unset, .unset, .unset, .unset, .unset, .unset, .unset, .unset]) rfl ?_
      show Steps p.tables e below (T105.setTop (mkF m 14 #[.val (.long c0_), .second, .val (.long c1_), .second, .val (.long c2_), .second, .val (.long c3_), .second, .val (.long c4_), .second, .val (.int vk), .val (.long r104), .second, .val (.long r105), .second, .unset, .unset, .unset, .unset, .unset, .unset, .unset, .unset, .unset, .unset, .unset, .unset] [])) _
      refine XS.lload X105.here hx rfl (hb hby at_14) rfl ?_
      show Steps p.tables e below (T105.setTop (mkF m 16 #[.val (.long c0_), .second, .val (.long c1_), .second, .val (.long c2_), .second, .val (.long c3_), .second, .val (.long c4_), .second, .val (.int vk), .val (.long r104), .second, .val (.long r105), .second, .unset, .unset, .unset, .unset, .unset, .unset, .unset, .unset, .unset, .unset, .unset, .unset] [(.long r104)])) _
      refine XS.lload X105.here hx rfl (hb hby at_16) rfl ?_
      show Steps p.tables e below (T105.setTop (mkF m 18 #[.val (.long c0_), .second, .val (.long c1_), .second, .val (.long c2_), .second, .val (.long c3_), .second, .val (.long c4_), .second, .val (.int vk), .val (.long r104), .second, .val (.long r105), .second, .unset, .unset, .unset, .unset, .unset, .unset, .unset, .unset, .unset, .unset, .unset, .unset] [(.long r105), (.long r104)])) _
      refine XS.lcmp X105.here hx rfl (hb hby at_18) rfl ?_
      show Steps p.tables e below (T105.setTop (mkF m 19 #[.val (.long c0_), .second, .val (.long c1_), .second, .val (.long c2_), .second, .val (.long c3_), .second, .val (.long c4_), .second, .val (.int vk), .val (.long r104), .second, .val (.long r105), .second, .unset, .unset, .unset, .unset, .unset, .unset, .unset, .unset, .unset, .unset, .unset, .unset] [(.int (lcmpW r104 r105))])) _
      refine XS.ifYes X105.here hx rfl (pc0 := 19) (pc' := 37) rfl (hb hby at_19) rfl ((if0 _ _).trans (feq (fun q => h19_106 ((lw_eq _ _).mp q))).2) (by decide) (by decide) ?_
      exact kt
  obtain ⟨lo1, hi1, hp108, T108, L108, X108, N108, e108, st108⟩ : ∃ (lo1 : Int64) (hi1 : Int64), (lo1 < hi1) ∧ ∃ (T' : State) (Lc : List Loc), Stand p l e room_1 s m #[(.long c0_), (.long c1_), (.long c2_), (.long c3_), (.long c4_), (.int vk)] below meth c T' Lc 0 0 ∧ Fr n0 Lc ∧ T'.heap = h0 ∧ ∀ t, Steps p.tables e below (T'.setTop (mkF m 79 #[.val (.long c0_), .second, .val (.long c1_), .second, .val (.long c2_), .second, .val (.long c3_), .second, .val (.long c4_), .second, .val (.int vk), .val (.long lo0), .second, .val (.long hi0), .second, .val (.long lo1), .second, .val (.long hi1), .second, .unset, .unset, .unset, .unset, .unset, .unset, .unset, .unset] [])) t → Steps p.tables e below (T103.setTop (mkF m 37 #[.val (.long c0_), .second, .val (.long c1_), .second, .val (.long c2_), .second, .val (.long c3_), .second, .val (.long c4_), .second, .val (.int vk), .val (.long lo0), .second, .val (.long hi0), .second, .unset, .unset, .unset, .unset, .unset, .unset, .unset, .unset, .unset, .unset, .unset, .unset] [])) t := by
    obtain ⟨_, _, ⟨T109, L109, k109, n109⟩, -, X109, ⟨Lc109, hQ109, l109, y109, z109⟩, st109⟩ := Jvm.LawKit.callS X103 hx (y := (⟨"java/lang/Math", "min", "(JJ)J"⟩ : MethodName)) hown (mvT hZ (hw _ (List.mem_of_getElem? (i := 0) rfl))) (mvT hZ (hw _ (List.mem_of_getElem? (i := 1) rfl))) (mvT hZ (hw _ (List.mem_of_getElem? (i := 2) rfl))) (mvT hZ (hw _ (List.mem_of_getElem? (i := 3) rfl))) (by decide) (backOf (W := 0) (rm_min l Z a0 hw [] c2_ c3_ h0 n0 Z0 ) hZ (hw _ (List.mem_of_getElem? (i := 3) rfl)) (hw _ (List.mem_of_getElem? (i := 2) rfl)) (by decide) (by decide)) (g := (mkF m 41 #[.val (.long c0_), .second, .val (.long c1_), .second, .val (.long c2_), .second, .val (.long c3_), .second, .val (.long c4_), .second, .val (.int vk), .val (.long lo0), .second, .val (.long hi0), .second, .unset, .unset, .unset, .unset, .unset, .unset, .unset, .unset, .unset, .unset, .unset, .unset] [(.long c3_), (.long c2_)])) rfl (by rw [hml]; rfl) (argsL := [(.long c2_), (.long c3_)]) (rest := []) (lenOf pd_3 rfl) rfl (by show 2 * 0 + _ ≤ _; exact Nat.le_of_eq rfl) (hb hby at_41) (fun _ _ => ⟨rfl, e103, (by decide : 0 + 0 ≤ _), (by decide : 0 + 0 ≤ _)⟩)
    dsimp only [Pt.U, Pt.locs, Pt.cells, Pt.slots] at X109 l109 y109 z109 st109 hQ109
    subst l109 y109 z109
    obtain ⟨⟨r109, rfl, hr109⟩, N109q, e109⟩ := hQ109
    have N109 := Fr.app N103 N109q
    obtain ⟨_, _, ⟨T110, L110, k110, n110⟩, -, X110, ⟨Lc110, hQ110, l110, y110, z110⟩, st110⟩ := Jvm.LawKit.callS X109 hx (y := (⟨"java/lang/Math", "max", "(JJ)J"⟩ : MethodName)) hown (mvT hZ (hw _ (List.mem_of_getElem? (i := 4) rfl))) (mvT hZ (hw _ (List.mem_of_getElem? (i := 5) rfl))) (mvT hZ (hw _ (List.mem_of_getElem? (i := 2) rfl))) (mvT hZ (hw _ (List.mem_of_getElem? (i := 6) rfl))) (by decide) (backOf (W := 0) (rm_max l Z a0 hw [] c2_ c3_ h0 n0 Z0 ) hZ (hw _ (List.mem_of_getElem? (i := 6) rfl)) (hw _ (List.mem_of_getElem? (i := 2) rfl)) (by decide) (by decide)) (g := (mkF m 50 #[.val (.long c0_), .second, .val (.long c1_), .second, .val (.long c2_), .second, .val (.long c3_), .second, .val (.long c4_), .second, .val (.int vk), .val (.long lo0), .second, .val (.long hi0), .second, .val (.long r109), .second, .unset, .unset, .unset, .unset, .unset, .unset, .unset, .unset, .unset, .unset] [(.long c3_), (.long c2_)])) rfl (by rw [hml]; rfl) (argsL := [(.long c2_), (.long c3_)]) (rest := []) (lenOf pd_3 rfl) rfl (by show 2 * 0 + _ ≤ _; exact Nat.le_of_eq rfl) (hb hby at_50) (fun _ _ => ⟨rfl, e109, (by decide : 0 + 0 ≤ _), (by decide : 0 + 0 ≤ _)⟩)
    dsimp only [Pt.U, Pt.locs, Pt.cells, Pt.slots] at X110 l110 y110 z110 st110 hQ110
    subst l110 y110 z110
    obtain ⟨⟨r110, rfl, hr110⟩, N110q, e110⟩ := hQ110
    have N110 := Fr.app N109 N110q
    by_cases h60_111 : r109 = r110
    · obtain ⟨_, _, ⟨T112, L112, k112, n112⟩, -, X112, ⟨Lc112, hQ112, l112, y112, z112⟩, st112⟩ := Jvm.LawKit.callS X110 hx (y := (⟨"java/lang/Math", "min", "(JJ)J"⟩ : MethodName)) hown (mvT hZ (hw _ (List.mem_of_getElem? (i := 0) rfl))) (mvT hZ (hw _ (List.mem_of_getElem? (i := 1) rfl))) (mvT hZ (hw _ (List.mem_of_getElem? (i := 2) rfl))) (mvT hZ (hw _ (List.mem_of_getElem? (i := 3) rfl))) (by decide) (backOf (W := 0) (rm_min l Z a0 hw [] c2_ (9223372036854775806 : Int64) h0 n0 Z0 ) hZ (hw _ (List.mem_of_getElem? (i := 3) rfl)) (hw _ (List.mem_of_getElem? (i := 2) rfl)) (by decide) (by decide)) (g := (mkF m 68 #[.val (.long c0_), .second, .val (.long c1_), .second, .val (.long c2_), .second, .val (.long c3_), .second, .val (.long c4_), .second, .val (.int vk), .val (.long lo0), .second, .val (.long hi0), .second, .val (.long r109), .second, .val (.long r110), .second, .unset, .unset, .unset, .unset, .unset, .unset, .unset, .unset] [(.long (9223372036854775806 : Int64)), (.long c2_)])) rfl (by rw [hml]; rfl) (argsL := [(.long c2_), (.long (9223372036854775806 : Int64))]) (rest := []) (lenOf pd_3 rfl) rfl (by show 2 * 0 + _ ≤ _; exact Nat.le_of_eq rfl) (hb hby at_68) (fun _ _ => ⟨rfl, e110, (by decide : 0 + 0 ≤ _), (by decide : 0 + 0 ≤ _)⟩)
      dsimp only [Pt.U, Pt.locs, Pt.cells, Pt.slots] at X112 l112 y112 z112 st112 hQ112
      subst l112 y112 z112
      obtain ⟨⟨r112, rfl, hr112⟩, N112q, e112⟩ := hQ112
      have N112 := Fr.app N110 N112q
      refine ⟨r112, (r112 + (1 : Int64)), own_mm _ _ hr112, T112, _, X112, N112, e112, fun t kt => ?_⟩
      show Steps p.tables e below (T103.setTop (mkF m 37 #[.val (.long c0_), .second, .val (.long c1_), .second, .val (.long c2_), .second, .val (.long c3_), .second, .val (.long c4_), .second, .val (.int vk), .val (.long lo0), .second, .val (.long hi0), .second, .unset, .unset, .unset, .unset, .unset, .unset, .unset, .unset, .unset, .unset, .unset, .unset] [])) _
      refine XS.lload X103.here hx rfl (hb hby at_37) rfl ?_
      show Steps p.tables e below (T103.setTop (mkF m 39 #[.val (.long c0_), .second, .val (.long c1_), .second, .val (.long c2_), .second, .val (.long c3_), .second, .val (.long c4_), .second, .val (.int vk), .val (.long lo0), .second, .val (.long hi0), .second, .unset, .unset, .unset, .unset, .unset, .unset, .unset, .unset, .unset, .unset, .unset, .unset] [(.long c2_)])) _
      refine XS.lload X103.here hx rfl (hb hby at_39) rfl ?_
      show Steps p.tables e below (T103.setTop (mkF m 41 #[.val (.long c0_), .second, .val (.long c1_), .second, .val (.long c2_), .second, .val (.long c3_), .second, .val (.long c4_), .second, .val (.int vk), .val (.long lo0), .second, .val (.long hi0), .second, .unset, .unset, .unset, .unset, .unset, .unset, .unset, .unset, .unset, .unset, .unset, .unset] [(.long c3_), (.long c2_)])) _
      refine st109 _ ?_
      show Steps p.tables e below (T109.setTop (mkF m 44 #[.val (.long c0_), .second, .val (.long c1_), .second, .val (.long c2_), .second, .val (.long c3_), .second, .val (.long c4_), .second, .val (.int vk), .val (.long lo0), .second, .val (.long hi0), .second, .unset, .unset, .unset, .unset, .unset, .unset, .unset, .unset, .unset, .unset, .unset, .unset] [(.long r109)])) _
      refine XS.lstore X109.here hx rfl (hb hby at_44) rfl (l' := #[.val (.long c0_), .second, .val (.long c1_), .second, .val (.long c2_), .second, .val (.long c3_), .second, .val (.long c4_), .second, .val (.int vk), .val (.long lo0), .second, .val (.long hi0), .second, .val (.long r109), .second, .unset, .unset, .unset, .unset, .unset, .unset, .unset, .unset, .unset, .unset]) rfl ?_
      show Steps p.tables e below (T109.setTop (mkF m 46 #[.val (.long c0_), .second, .val (.long c1_), .second, .val (.long c2_), .second, .val (.long c3_), .second, .val (.long c4_), .second, .val (.int vk), .val (.long lo0), .second, .val (.long hi0), .second, .val (.long r109), .second, .unset, .unset, .unset, .unset, .unset, .unset, .unset, .unset, .unset, .unset] [])) _
      refine XS.lload X109.here hx rfl (hb hby at_46) rfl ?_
      show Steps p.tables e below (T109.setTop (mkF m 48 #[.val (.long c0_), .second, .val (.long c1_), .second, .val (.long c2_), .second, .val (.long c3_), .second, .val (.long c4_), .second, .val (.int vk), .val (.long lo0), .second, .val (.long hi0), .second, .val (.long r109), .second, .unset, .unset, .unset, .unset, .unset, .unset, .unset, .unset, .unset, .unset] [(.long c2_)])) _
      refine XS.lload X109.here hx rfl (hb hby at_48) rfl ?_
      show Steps p.tables e below (T109.setTop (mkF m 50 #[.val (.long c0_), .second, .val (.long c1_), .second, .val (.long c2_), .second, .val (.long c3_), .second, .val (.long c4_), .second, .val (.int vk), .val (.long lo0), .second, .val (.long hi0), .second, .val (.long r109), .second, .unset, .unset, .unset, .unset, .unset, .unset, .unset, .unset, .unset, .unset] [(.long c3_), (.long c2_)])) _
      refine st110 _ ?_
      show Steps p.tables e below (T110.setTop (mkF m 53 #[.val (.long c0_), .second, .val (.long c1_), .second, .val (.long c2_), .second, .val (.long c3_), .second, .val (.long c4_), .second, .val (.int vk), .val (.long lo0), .second, .val (.long hi0), .second, .val (.long r109), .second, .unset, .unset, .unset, .unset, .unset, .unset, .unset, .unset, .unset, .unset] [(.long r110)])) _
      refine XS.lstore X110.here hx rfl (hb hby at_53) rfl (l' := #[.val (.long c0_), .second, .val (.long c1_), .second, .val (.long c2_), .second, .val (.long c3_), .second, .val (.long c4_), .second, .val (.int vk), .val (.long lo0), .second, .val (.long hi0), .second, .val (.long r109), .second, .val (.long r110), .second, .unset, .unset, .unset, .unset, .unset, .unset, .unset, .unset]) rfl ?_
      show Steps p.tables e below (T110.setTop (mkF m 55 #[.val (.long c0_), .second, .val (.long c1_), .second, .val (.long c2_), .second, .val (.long c3_), .second, .val (.long c4_), .second, .val (.int vk), .val (.long lo0), .second, .val (.long hi0), .second, .val (.long r109), .second, .val (.long r110), .second, .unset, .unset, .unset, .unset, .unset, .unset, .unset, .unset] [])) _
      refine XS.lload X110.here hx rfl (hb hby at_55) rfl ?_
      show Steps p.tables e below (T110.setTop (mkF m 57 #[.val (.long c0_), .second, .val (.long c1_), .second, .val (.long c2_), .second, .val (.long c3_), .second, .val (.long c4_), .second, .val (.int vk), .val (.long lo0), .second, .val (.long hi0), .second, .val (.long r109), .second, .val (.long r110), .second, .unset, .unset, .unset, .unset, .unset, .unset, .unset, .unset] [(.long r109)])) _
      refine XS.lload X110.here hx rfl (hb hby at_57) rfl ?_
      show Steps p.tables e below (T110.setTop (mkF m 59 #[.val (.long c0_), .second, .val (.long c1_), .second, .val (.long c2_), .second, .val (.long c3_), .second, .val (.long c4_), .second, .val (.int vk), .val (.long lo0), .second, .val (.long hi0), .second, .val (.long r109), .second, .val (.long r110), .second, .unset, .unset, .unset, .unset, .unset, .unset, .unset, .unset] [(.long r110), (.long r109)])) _
      refine XS.lcmp X110.here hx rfl (hb hby at_59) rfl ?_
      show Steps p.tables e below (T110.setTop (mkF m 60 #[.val (.long c0_), .second, .val (.long c1_), .second, .val (.long c2_), .second, .val (.long c3_), .second, .val (.long c4_), .second, .val (.int vk), .val (.long lo0), .second, .val (.long hi0), .second, .val (.long r109), .second, .val (.long r110), .second, .unset, .unset, .unset, .unset, .unset, .unset, .unset, .unset] [(.int (lcmpW r109 r110))])) _
      refine XS.ifNo X110.here hx rfl (hb hby at_60) rfl ((if0 _ _).trans (teq ((lw_eq _ _).mpr h60_111)).2) ?_
      show Steps p.tables e below (T110.setTop (mkF m 63 #[.val (.long c0_), .second, .val (.long c1_), .second, .val (.long c2_), .second, .val (.long c3_), .second, .val (.long c4_), .second, .val (.int vk), .val (.long lo0), .second, .val (.long hi0), .second, .val (.long r109), .second, .val (.long r110), .second, .unset, .unset, .unset, .unset, .unset, .unset, .unset, .unset] [])) _
      refine XS.lload X110.here hx rfl (hb hby at_63) rfl ?_
      show Steps p.tables e below (T110.setTop (mkF m 65 #[.val (.long c0_), .second, .val (.long c1_), .second, .val (.long c2_), .second, .val (.long c3_), .second, .val (.long c4_), .second, .val (.int vk), .val (.long lo0), .second, .val (.long hi0), .second, .val (.long r109), .second, .val (.long r110), .second, .unset, .unset, .unset, .unset, .unset, .unset, .unset, .unset] [(.long c2_)])) _
      refine X110.ldc2Long hx hown (mvT hZ (hw _ (List.mem_of_getElem? (i := 7) rfl))) (g := (mkF m 65 #[.val (.long c0_), .second, .val (.long c1_), .second, .val (.long c2_), .second, .val (.long c3_), .second, .val (.long c4_), .second, .val (.int vk), .val (.long lo0), .second, .val (.long hi0), .second, .val (.long r109), .second, .val (.long r110), .second, .unset, .unset, .unset, .unset, .unset, .unset, .unset, .unset] [(.long c2_)])) rfl (hb hby at_65) _ ?_
      show Steps p.tables e below (T110.setTop (mkF m 68 #[.val (.long c0_), .second, .val (.long c1_), .second, .val (.long c2_), .second, .val (.long c3_), .second, .val (.long c4_), .second, .val (.int vk), .val (.long lo0), .second, .val (.long hi0), .second, .val (.long r109), .second, .val (.long r110), .second, .unset, .unset, .unset, .unset, .unset, .unset, .unset, .unset] [(.long (9223372036854775806 : Int64)), (.long c2_)])) _
      refine st112 _ ?_
      show Steps p.tables e below (T112.setTop (mkF m 71 #[.val (.long c0_), .second, .val (.long c1_), .second, .val (.long c2_), .second, .val (.long c3_), .second, .val (.long c4_), .second, .val (.int vk), .val (.long lo0), .second, .val (.long hi0), .second, .val (.long r109), .second, .val (.long r110), .second, .unset, .unset, .unset, .unset, .unset, .unset, .unset, .unset] [(.long r112)])) _
      refine XS.lstore X112.here hx rfl (hb hby at_71) rfl (l' := #[.val (.long c0_), .second, .val (.long c1_), .second, .val (.long c2_), .second, .val (.long c3_), .second, .val (.long c4_), .second, .val (.int vk), .val (.long lo0), .second, .val (.long hi0), .second, .val (.long r112), .second, .val (.long r110), .second, .unset, .unset, .unset, .unset, .unset, .unset, .unset, .unset]) rfl ?_
      show Steps p.tables e below (T112.setTop (mkF m 73 #[.val (.long c0_), .second, .val (.long c1_), .second, .val (.long c2_), .second, .val (.long c3_), .second, .val (.long c4_), .second, .val (.int vk), .val (.long lo0), .second, .val (.long hi0), .second, .val (.long r112), .second, .val (.long r110), .second, .unset, .unset, .unset, .unset, .unset, .unset, .unset, .unset] [])) _
      refine XS.lload X112.here hx rfl (hb hby at_73) rfl ?_
      show Steps p.tables e below (T112.setTop (mkF m 75 #[.val (.long c0_), .second, .val (.long c1_), .second, .val (.long c2_), .second, .val (.long c3_), .second, .val (.long c4_), .second, .val (.int vk), .val (.long lo0), .second, .val (.long hi0), .second, .val (.long r112), .second, .val (.long r110), .second, .unset, .unset, .unset, .unset, .unset, .unset, .unset, .unset] [(.long r112)])) _
      refine XS.lconst X112.here hx rfl (hb hby at_75) ?_
      show Steps p.tables e below (T112.setTop (mkF m 76 #[.val (.long c0_), .second, .val (.long c1_), .second, .val (.long c2_), .second, .val (.long c3_), .second, .val (.long c4_), .second, .val (.int vk), .val (.long lo0), .second, .val (.long hi0), .second, .val (.long r112), .second, .val (.long r110), .second, .unset, .unset, .unset, .unset, .unset, .unset, .unset, .unset] [(.long (1 : Int64)), (.long r112)])) _
      refine XS.ladd X112.here hx rfl (hb hby at_76) rfl ?_
      show Steps p.tables e below (T112.setTop (mkF m 77 #[.val (.long c0_), .second, .val (.long c1_), .second, .val (.long c2_), .second, .val (.long c3_), .second, .val (.long c4_), .second, .val (.int vk), .val (.long lo0), .second, .val (.long hi0), .second, .val (.long r112), .second, .val (.long r110), .second, .unset, .unset, .unset, .unset, .unset, .unset, .unset, .unset] [(.long (r112 + (1 : Int64)))])) _
      refine XS.lstore X112.here hx rfl (hb hby at_77) rfl (l' := #[.val (.long c0_), .second, .val (.long c1_), .second, .val (.long c2_), .second, .val (.long c3_), .second, .val (.long c4_), .second, .val (.int vk), .val (.long lo0), .second, .val (.long hi0), .second, .val (.long r112), .second, .val (.long (r112 + (1 : Int64))), .second, .unset, .unset, .unset, .unset, .unset, .unset, .unset, .unset]) rfl ?_
      exact kt
    · refine ⟨r109, r110, own_lh _ _ _ _ hr109 hr110 h60_111, T110, _, X110, N110, e110, fun t kt => ?_⟩
      show Steps p.tables e below (T103.setTop (mkF m 37 #[.val (.long c0_), .second, .val (.long c1_), .second, .val (.long c2_), .second, .val (.long c3_), .second, .val (.long c4_), .second, .val (.int vk), .val (.long lo0), .second, .val (.long hi0), .second, .unset, .unset, .unset, .unset, .unset, .unset, .unset, .unset, .unset, .unset, .unset, .unset] [])) _
      refine XS.lload X103.here hx rfl (hb hby at_37) rfl ?_
      show Steps p.tables e below (T103.setTop (mkF m 39 #[.val (.long c0_), .second, .val (.long c1_), .second, .val (.long c2_), .second, .val (.long c3_), .second, .val (.long c4_), .second, .val (.int vk), .val (.long lo0), .second, .val (.long hi0), .second, .unset, .unset, .unset, .unset, .unset, .unset, .unset, .unset, .unset, .unset, .unset, .unset] [(.long c2_)])) _
      refine XS.lload X103.here hx rfl (hb hby at_39) rfl ?_
      show Steps p.tables e below (T103.setTop (mkF m 41 #[.val (.long c0_), .second, .val (.long c1_), .second, .val (.long c2_), .second, .val (.long c3_), .second, .val (.long c4_), .second, .val (.int vk), .val (.long lo0), .second, .val (.long hi0), .second, .unset, .unset, .unset, .unset, .unset, .unset, .unset, .unset, .unset, .unset, .unset, .unset] [(.long c3_), (.long c2_)])) _
      refine st109 _ ?_
      show Steps p.tables e below (T109.setTop (mkF m 44 #[.val (.long c0_), .second, .val (.long c1_), .second, .val (.long c2_), .second, .val (.long c3_), .second, .val (.long c4_), .second, .val (.int vk), .val (.long lo0), .second, .val (.long hi0), .second, .unset, .unset, .unset, .unset, .unset, .unset, .unset, .unset, .unset, .unset, .unset, .unset] [(.long r109)])) _
      refine XS.lstore X109.here hx rfl (hb hby at_44) rfl (l' := #[.val (.long c0_), .second, .val (.long c1_), .second, .val (.long c2_), .second, .val (.long c3_), .second, .val (.long c4_), .second, .val (.int vk), .val (.long lo0), .second, .val (.long hi0), .second, .val (.long r109), .second, .unset, .unset, .unset, .unset, .unset, .unset, .unset, .unset, .unset, .unset]) rfl ?_
      show Steps p.tables e below (T109.setTop (mkF m 46 #[.val (.long c0_), .second, .val (.long c1_), .second, .val (.long c2_), .second, .val (.long c3_), .second, .val (.long c4_), .second, .val (.int vk), .val (.long lo0), .second, .val (.long hi0), .second, .val (.long r109), .second, .unset, .unset, .unset, .unset, .unset, .unset, .unset, .unset, .unset, .unset] [])) _
      refine XS.lload X109.here hx rfl (hb hby at_46) rfl ?_
      show Steps p.tables e below (T109.setTop (mkF m 48 #[.val (.long c0_), .second, .val (.long c1_), .second, .val (.long c2_), .second, .val (.long c3_), .second, .val (.long c4_), .second, .val (.int vk), .val (.long lo0), .second, .val (.long hi0), .second, .val (.long r109), .second, .unset, .unset, .unset, .unset, .unset, .unset, .unset, .unset, .unset, .unset] [(.long c2_)])) _
      refine XS.lload X109.here hx rfl (hb hby at_48) rfl ?_
      show Steps p.tables e below (T109.setTop (mkF m 50 #[.val (.long c0_), .second, .val (.long c1_), .second, .val (.long c2_), .second, .val (.long c3_), .second, .val (.long c4_), .second, .val (.int vk), .val (.long lo0), .second, .val (.long hi0), .second, .val (.long r109), .second, .unset, .unset, .unset, .unset, .unset, .unset, .unset, .unset, .unset, .unset] [(.long c3_), (.long c2_)])) _
      refine st110 _ ?_
      show Steps p.tables e below (T110.setTop (mkF m 53 #[.val (.long c0_), .second, .val (.long c1_), .second, .val (.long c2_), .second, .val (.long c3_), .second, .val (.long c4_), .second, .val (.int vk), .val (.long lo0), .second, .val (.long hi0), .second, .val (.long r109), .second, .unset, .unset, .unset, .unset, .unset, .unset, .unset, .unset, .unset, .unset] [(.long r110)])) _
      refine XS.lstore X110.here hx rfl (hb hby at_53) rfl (l' := #[.val (.long c0_), .second, .val (.long c1_), .second, .val (.long c2_), .second, .val (.long c3_), .second, .val (.long c4_), .second, .val (.int vk), .val (.long lo0), .second, .val (.long hi0), .second, .val (.long r109), .second, .val (.long r110), .second, .unset, .unset, .unset, .unset, .unset, .unset, .unset, .unset]) rfl ?_
      show Steps p.tables e below (T110.setTop (mkF m 55 #[.val (.long c0_), .second, .val (.long c1_), .second, .val (.long c2_), .second, .val (.long c3_), .second, .val (.long c4_), .second, .val (.int vk), .val (.long lo0), .second, .val (.long hi0), .second, .val (.long r109), .second, .val (.long r110), .second, .unset, .unset, .unset, .unset, .unset, .unset, .unset, .unset] [])) _
      refine XS.lload X110.here hx rfl (hb hby at_55) rfl ?_
      show Steps p.tables e below (T110.setTop (mkF m 57 #[.val (.long c0_), .second, .val (.long c1_), .second, .val (.long c2_), .second, .val (.long c3_), .second, .val (.long c4_), .second, .val (.int vk), .val (.long lo0), .second, .val (.long hi0), .second, .val (.long r109), .second, .val (.long r110), .second, .unset, .unset, .unset, .unset, .unset, .unset, .unset, .unset] [(.long r109)])) _
      refine XS.lload X110.here hx rfl (hb hby at_57) rfl ?_
      show Steps p.tables e below (T110.setTop (mkF m 59 #[.val (.long c0_), .second, .val (.long c1_), .second, .val (.long c2_), .second, .val (.long c3_), .second, .val (.long c4_), .second, .val (.int vk), .val (.long lo0), .second, .val (.long hi0), .second, .val (.long r109), .second, .val (.long r110), .second, .unset, .unset, .unset, .unset, .unset, .unset, .unset, .unset] [(.long r110), (.long r109)])) _
      refine XS.lcmp X110.here hx rfl (hb hby at_59) rfl ?_
      show Steps p.tables e below (T110.setTop (mkF m 60 #[.val (.long c0_), .second, .val (.long c1_), .second, .val (.long c2_), .second, .val (.long c3_), .second, .val (.long c4_), .second, .val (.int vk), .val (.long lo0), .second, .val (.long hi0), .second, .val (.long r109), .second, .val (.long r110), .second, .unset, .unset, .unset, .unset, .unset, .unset, .unset, .unset] [(.int (lcmpW r109 r110))])) _
      refine XS.ifYes X110.here hx rfl (pc0 := 60) (pc' := 79) rfl (hb hby at_60) rfl ((if0 _ _).trans (feq (fun q => h60_111 ((lw_eq _ _).mp q))).2) (by decide) (by decide) ?_
      exact kt
  obtain ⟨_, _, ⟨T113, L113, k113, n113⟩, -, X113, ⟨Lc113, hQ113, l113, y113, z113⟩, st113⟩ := Jvm.LawKit.callS X108 hx (y := (⟨"java/lang/Math", "min", "(JJ)J"⟩ : MethodName)) hown (mvT hZ (hw _ (List.mem_of_getElem? (i := 0) rfl))) (mvT hZ (hw _ (List.mem_of_getElem? (i := 1) rfl))) (mvT hZ (hw _ (List.mem_of_getElem? (i := 2) rfl))) (mvT hZ (hw _ (List.mem_of_getElem? (i := 3) rfl))) (by decide) (backOf (W := 0) (rm_min l Z a0 hw [] c4_ (9223372036854775806 : Int64) h0 n0 Z0 ) hZ (hw _ (List.mem_of_getElem? (i := 3) rfl)) (hw _ (List.mem_of_getElem? (i := 2) rfl)) (by decide) (by decide)) (g := (mkF m 84 #[.val (.long c0_), .second, .val (.long c1_), .second, .val (.long c2_), .second, .val (.long c3_), .second, .val (.long c4_), .second, .val (.int vk), .val (.long lo0), .second, .val (.long hi0), .second, .val (.long lo1), .second, .val (.long hi1), .second, .unset, .unset, .unset, .unset, .unset, .unset, .unset, .unset] [(.long (9223372036854775806 : Int64)), (.long c4_)])) rfl (by rw [hml]; rfl) (argsL := [(.long c4_), (.long (9223372036854775806 : Int64))]) (rest := []) (lenOf pd_3 rfl) rfl (by show 2 * 0 + _ ≤ _; exact Nat.le_of_eq rfl) (hb hby at_84) (fun _ _ => ⟨rfl, e108, (by decide : 0 + 0 ≤ _), (by decide : 0 + 0 ≤ _)⟩)
  dsimp only [Pt.U, Pt.locs, Pt.cells, Pt.slots] at X113 l113 y113 z113 st113 hQ113
  subst l113 y113 z113
  obtain ⟨⟨r113, rfl, hr113⟩, N113q, e113⟩ := hQ113
  have N113 := Fr.app N108 N113q
  have hp3 := own_mm _ _ hr113
  rcases own_three vk with hd | hd | hd
  · obtain ⟨T114, h114, k114, X114, e114, E114, A114, B114, st114⟩ := newPE X113 hx hZ (hw _ (List.mem_of_getElem? (i := 9) rfl)) e113 (g := (mkF m 110 #[.val (.long c0_), .second, .val (.long c1_), .second, .val (.long c2_), .second, .val (.long c3_), .second, .val (.long c4_), .second, .val (.int vk), .val (.long lo0), .second, .val (.long hi0), .second, .val (.long lo1), .second, .val (.long hi1), .second, .val (.long r113), .second, .val (.long (r113 + (1 : Int64))), .second, .val (.int (0 : Int32)), .unset, .unset, .unset] [(.int (0 : Int32))])) rfl (hb hby at_110) rfl (by decide) (cap := 0) (by decide) (by decide) (by decide) (by decide) (ad := "[J") (by decide)
    obtain ⟨b114, g114⟩ : ∃ z, z = h0.size := ⟨_, rfl⟩
    rw [← g114] at A114 B114 st114
    have g_b114 : n0 ≤ b114 := Nat.le_trans Z0 (Nat.le_of_eq g114.symm)
    have Z114 : n0 ≤ h114.size := Nat.le_trans Z0 E114.1
    have Av_b114_114 : Arv Z h114 b114 k114 .long (0 : Int32) [] (.long (0 : Int64)) := Arv.new A114 (by decide)
    have Ex_b114_114 := B114
    obtain ⟨T115, h115, X115, e115, E115, A115, D115, -, st115⟩ := newO X114 hx hZ hown (hw _ (List.mem_of_getElem? (i := 10) rfl)) (hw _ (List.mem_of_getElem? (i := 11) rfl)) (hw _ (List.mem_of_getElem? (i := 12) rfl)) e114 (g := (mkF m 166 #[.val (.long c0_), .second, .val (.long c1_), .second, .val (.long c2_), .second, .val (.long c3_), .second, .val (.long c4_), .second, .val (.int vk), .val (.long lo0), .second, .val (.long hi0), .second, .val (.long lo1), .second, .val (.long hi1), .second, .val (.long r113), .second, .val (.long (r113 + (1 : Int64))), .second, .val (.int (0 : Int32)), .val (.ref b114), .unset, .unset] [])) rfl (hb hby at_166) (by decide) (by decide)
    obtain ⟨b115, g115⟩ : ∃ z, z = h114.size := ⟨_, rfl⟩
    rw [← g115] at A115 D115 st115
    have ne_b114_b115 : b114 ≠ b115 := Nat.ne_of_lt (Nat.lt_of_lt_of_le Ex_b114_114.lt (Nat.le_of_eq g115.symm))
    have g_b115 : n0 ≤ b115 := Nat.le_trans Z114 (Nat.le_of_eq g115.symm)
    have Ex_b114_114_c115 := Ex_b114_114.ext E115
    have Av_b114_114_c115 := Av_b114_114.ext E115
    have Z115 : n0 ≤ h115.size := Nat.le_trans Z114 E115.1
    have Ex_b115_115 := A115
    have Fd_bounds_b115_115 : Fld Z h115 b115 "com/example/chronotriple/chronotriple/Box" "bounds" "[J" .null := D115 (Or.inr (hw _ (List.mem_of_getElem? (i := 29) rfl))) (ty := (.array .long)) (by decide)
    obtain ⟨_, _, ⟨T116, L116, k116, n116⟩, -, X116, ⟨Lc116, hQ116, l116, y116, z116⟩, st116⟩ := X115.specialBack hx (y := (⟨"com/example/chronotriple/chronotriple/Box", "<init>", "([J)V"⟩ : MethodName)) rfl hown (mvT hZ (hw _ (List.mem_of_getElem? (i := 13) rfl))) (mvT hZ (hw _ (List.mem_of_getElem? (i := 14) rfl))) (mvT hZ (hw _ (List.mem_of_getElem? (i := 15) rfl))) (by decide) (backOf (W := 1) (rm_ini0 l Z a0 hw [] b115 b114 k114 h115 n0 Z115 Ex_b115_115 Fd_bounds_b115_115 Av_b114_114_c115 Ex_b114_114_c115 g_b115 ne_b114_b115) hZ (hw _ (List.mem_of_getElem? (i := 15) rfl)) (hw _ (List.mem_of_getElem? (i := 12) rfl)) (by decide) (by decide)) (g := (mkF m 172 #[.val (.long c0_), .second, .val (.long c1_), .second, .val (.long c2_), .second, .val (.long c3_), .second, .val (.long c4_), .second, .val (.int vk), .val (.long lo0), .second, .val (.long hi0), .second, .val (.long lo1), .second, .val (.long hi1), .second, .val (.long r113), .second, .val (.long (r113 + (1 : Int64))), .second, .val (.int (0 : Int32)), .val (.ref b114), .unset, .unset] [(.ref b114), (.ref b115), (.ref b115)])) rfl (by rw [hml]; rfl) (Steps.refl _) (a := b115) (argsL := [(.ref b114)]) (rest := [(.ref b115)]) (lenOf pd_2 rfl) rfl (by show 2 * 0 + _ ≤ _; exact Nat.le_of_eq rfl) (hb hby at_172) (fun _ _ => ⟨rfl, e115, (by decide : 2 + 1 ≤ _), (by decide : 1 + 0 ≤ _)⟩)
    dsimp only [Pt.U, Pt.locs, Pt.cells, Pt.slots] at X116 l116 y116 z116 st116 hQ116
    subst l116 y116 z116
    obtain ⟨rfl, N116q, K116, ⟨cb116, ck116, cg116, cs116, Fq_116, Aq_116, Eq_116⟩⟩ := hQ116
    have N116 := Fr.app N113 N116q
    have Ex_b114_114_c116 := Ex_b114_114_c115.keep K116
    have Av_b114_114_c116 := Av_b114_114_c115.keep K116 (ninS ne_b114_b115 nin0)
    have Ex_b115_115_c116 := Ex_b115_115.keep K116
    have Z116 : n0 ≤ T116.heap.size := Nat.le_trans Z115 K116.1
    have ne_b114_cb116 : b114 ≠ cb116 := Nat.ne_of_lt (Nat.lt_of_lt_of_le Ex_b114_114_c115.lt cs116)
    have ne_b115_cb116 : b115 ≠ cb116 := Nat.ne_of_lt (Nat.lt_of_lt_of_le Ex_b115_115.lt cs116)
    obtain ⟨cq117, kq117, q117a, q117b, q117c⟩ := isOf hZ rfl Ex_b115_115_c116
    obtain ⟨_, _, ⟨T117, L117, k117, n117⟩, -, X117, ⟨Lc117, hQ117, l117, y117, z117⟩, st117⟩ := X116.virtualBack hx (y := (⟨"com/example/chronotriple/chronotriple/Box", "withAxis", "(JJ)Lcom/example/chronotriple/chronotriple/Box;"⟩ : MethodName)) (z := (⟨"com/example/chronotriple/chronotriple/Box", "withAxis", "(JJ)Lcom/example/chronotriple/chronotriple/Box;"⟩ : MethodName)) hown (mvT hZ (hw _ (List.mem_of_getElem? (i := 30) rfl))) (mvT hZ (hw _ (List.mem_of_getElem? (i := 31) rfl))) (notFace_of_selects (args := #[]) (mvT hZ (hw _ (List.mem_of_getElem? (i := 33) rfl)))) (mvT hZ (hw _ (List.mem_of_getElem? (i := 33) rfl))) (mvT hZ (hw _ (List.mem_of_getElem? (i := 32) rfl))) (by decide) (backOf (W := 0) (rm_wax0 l Z a0 hw [] b115 lo0 hi0 cb116 ck116 T116.heap n0 Z116 Ex_b115_115_c116 Fq_116 Aq_116 hp103) hZ (hw _ (List.mem_of_getElem? (i := 34) rfl)) (hw _ (List.mem_of_getElem? (i := 12) rfl)) (by decide) (by decide)) q117a q117c (g := (mkF m 183 #[.val (.long c0_), .second, .val (.long c1_), .second, .val (.long c2_), .second, .val (.long c3_), .second, .val (.long c4_), .second, .val (.int vk), .val (.long lo0), .second, .val (.long hi0), .second, .val (.long lo1), .second, .val (.long hi1), .second, .val (.long r113), .second, .val (.long (r113 + (1 : Int64))), .second, .val (.int (0 : Int32)), .val (.ref b114), .val (.ref b115), .unset] [(.long hi0), (.long lo0), (.ref b115)])) rfl (by rw [hml]; rfl) (Steps.refl _) (argsL := [(.long lo0), (.long hi0)]) (rest := []) (lenOf pd_4 rfl) rfl (by show 2 * 0 + _ ≤ _; exact Nat.le_of_eq rfl) (hb hby at_183) (fun _ _ => ⟨rfl, rfl, (by decide : 3 + 3 ≤ _), (by decide : 1 + 5 ≤ _)⟩)
    dsimp only [Pt.U, Pt.locs, Pt.cells, Pt.slots] at X117 l117 y117 z117 st117 hQ117
    subst l117 y117 z117
    obtain ⟨⟨r117, rfl, hr117⟩, N117q, K117⟩ := hQ117
    have N117 := Fr.app N116 N117q
    have Ex_b114_114_c117 := Ex_b114_114_c116.keep K117
    have Av_b114_114_c117 := Av_b114_114_c116.keep K117 nin0
    have Ex_b115_115_c117 := Ex_b115_115_c116.keep K117
    have Fq_116_c117 := Fq_116.keep K117 nin0
    have Aq_116_c117 := Aq_116.keep K117 nin0
    have Eq_116_c117 := Eq_116.keep K117
    have Z117 : n0 ≤ T117.heap.size := Nat.le_trans Z116 K117.1
    obtain ⟨cg117, cs117, Ez_117, ⟨cb117, ck117, dg117, ds117, Fq_117, Aq_117, Eq_117⟩⟩ := hr117
    have ne_b114_r117 : b114 ≠ r117 := Nat.ne_of_lt (Nat.lt_of_lt_of_le Ex_b114_114_c116.lt cs117)
    have ne_b115_r117 : b115 ≠ r117 := Nat.ne_of_lt (Nat.lt_of_lt_of_le Ex_b115_115_c116.lt cs117)
    have ne_cb116_r117 : cb116 ≠ r117 := Nat.ne_of_lt (Nat.lt_of_lt_of_le Aq_116.lt cs117)
    have ne_b114_cb117 : b114 ≠ cb117 := Nat.ne_of_lt (Nat.lt_of_lt_of_le Ex_b114_114_c116.lt ds117)
    have ne_b115_cb117 : b115 ≠ cb117 := Nat.ne_of_lt (Nat.lt_of_lt_of_le Ex_b115_115_c116.lt ds117)
    have ne_cb116_cb117 : cb116 ≠ cb117 := Nat.ne_of_lt (Nat.lt_of_lt_of_le Aq_116.lt ds117)
    obtain ⟨cq118, kq118, q118a, q118b, q118c⟩ := isOf hZ rfl Ex_b115_115_c117
    obtain ⟨_, _, ⟨T118, L118, k118, n118⟩, -, X118, ⟨Lc118, hQ118, l118, y118, z118⟩, st118⟩ := X117.virtualBack hx (y := (⟨"com/example/chronotriple/chronotriple/Box", "dimensions", "()I"⟩ : MethodName)) (z := (⟨"com/example/chronotriple/chronotriple/Box", "dimensions", "()I"⟩ : MethodName)) hown (mvT hZ (hw _ (List.mem_of_getElem? (i := 48) rfl))) (mvT hZ (hw _ (List.mem_of_getElem? (i := 49) rfl))) (notFace_of_selects (args := #[]) (mvT hZ (hw _ (List.mem_of_getElem? (i := 51) rfl)))) (mvT hZ (hw _ (List.mem_of_getElem? (i := 51) rfl))) (mvT hZ (hw _ (List.mem_of_getElem? (i := 50) rfl))) (by decide) (backOf (W := 0) (rm_dim l Z a0 hw [] b115 cb116 ck116 (0 : Int32) [] T117.heap n0 Z117 Fq_116_c117 Aq_116_c117) hZ (hw _ (List.mem_of_getElem? (i := 52) rfl)) (hw _ (List.mem_of_getElem? (i := 12) rfl)) (by decide) (by decide)) q118a q118c (g := (mkF m 190 #[.val (.long c0_), .second, .val (.long c1_), .second, .val (.long c2_), .second, .val (.long c3_), .second, .val (.long c4_), .second, .val (.int vk), .val (.long lo0), .second, .val (.long hi0), .second, .val (.long lo1), .second, .val (.long hi1), .second, .val (.long r113), .second, .val (.long (r113 + (1 : Int64))), .second, .val (.int (0 : Int32)), .val (.ref b114), .val (.ref b115), .val (.ref r117)] [(.ref b115)])) rfl (by rw [hml]; rfl) (Steps.refl _) (argsL := []) (rest := []) (lenOf pd_5 rfl) rfl (by show 2 * 0 + _ ≤ _; exact Nat.le_of_eq rfl) (hb hby at_190) (fun _ _ => ⟨rfl, rfl, (by decide : 6 + 0 ≤ _), (by decide : 6 + 0 ≤ _)⟩)
    dsimp only [Pt.U, Pt.locs, Pt.cells, Pt.slots] at X118 l118 y118 z118 st118 hQ118
    subst l118 y118 z118
    obtain ⟨⟨r118, rfl, hr118⟩, N118q, e118⟩ := hQ118
    have N118 := Fr.app N117 N118q
    obtain rfl : (0 : Int32) = r118 := (hr118.trans (by decide)).symm
    obtain ⟨cq119, kq119, q119a, q119b, q119c⟩ := isOf hZ e118 Ez_117
    obtain ⟨_, _, ⟨T119, L119, k119, n119⟩, -, X119, ⟨Lc119, hQ119, l119, y119, z119⟩, st119⟩ := X118.virtualBack hx (y := (⟨"com/example/chronotriple/chronotriple/Box", "dimensions", "()I"⟩ : MethodName)) (z := (⟨"com/example/chronotriple/chronotriple/Box", "dimensions", "()I"⟩ : MethodName)) hown (mvT hZ (hw _ (List.mem_of_getElem? (i := 48) rfl))) (mvT hZ (hw _ (List.mem_of_getElem? (i := 49) rfl))) (notFace_of_selects (args := #[]) (mvT hZ (hw _ (List.mem_of_getElem? (i := 51) rfl)))) (mvT hZ (hw _ (List.mem_of_getElem? (i := 51) rfl))) (mvT hZ (hw _ (List.mem_of_getElem? (i := 50) rfl))) (by decide) (backOf (W := 0) (rm_dim l Z a0 hw [] r117 cb117 ck117 (2 : Int32) [lo0, hi0] T117.heap n0 Z117 Fq_117 Aq_117) hZ (hw _ (List.mem_of_getElem? (i := 52) rfl)) (hw _ (List.mem_of_getElem? (i := 12) rfl)) (by decide) (by decide)) q119a q119c (g := (mkF m 202 #[.val (.long c0_), .second, .val (.long c1_), .second, .val (.long c2_), .second, .val (.long c3_), .second, .val (.long c4_), .second, .val (.int vk), .val (.long lo0), .second, .val (.long hi0), .second, .val (.long lo1), .second, .val (.long hi1), .second, .val (.long r113), .second, .val (.long (r113 + (1 : Int64))), .second, .val (.int (0 : Int32)), .val (.ref b114), .val (.ref b115), .val (.ref r117)] [(.ref r117)])) rfl (by rw [hml]; rfl) (Steps.refl _) (argsL := []) (rest := []) (lenOf pd_5 rfl) rfl (by show 2 * 0 + _ ≤ _; exact Nat.le_of_eq rfl) (hb hby at_202) (fun _ _ => ⟨rfl, e118, (by decide : 6 + 0 ≤ _), (by decide : 6 + 0 ≤ _)⟩)
    dsimp only [Pt.U, Pt.locs, Pt.cells, Pt.slots] at X119 l119 y119 z119 st119 hQ119
    subst l119 y119 z119
    obtain ⟨⟨r119, rfl, hr119⟩, N119q, e119⟩ := hQ119
    have N119 := Fr.app N118 N119q
    obtain rfl : (1 : Int32) = r119 := (hr119.trans (by decide)).symm
    obtain ⟨cq120, kq120, q120a, q120b, q120c⟩ := isOf hZ e119 Ez_117
    obtain ⟨_, _, ⟨T120, L120, k120, n120⟩, -, X120, ⟨Lc120, hQ120, l120, y120, z120⟩, st120⟩ := X119.virtualBack hx (y := (⟨"com/example/chronotriple/chronotriple/Box", "from", "(I)J"⟩ : MethodName)) (z := (⟨"com/example/chronotriple/chronotriple/Box", "from", "(I)J"⟩ : MethodName)) hown (mvT hZ (hw _ (List.mem_of_getElem? (i := 53) rfl))) (mvT hZ (hw _ (List.mem_of_getElem? (i := 54) rfl))) (notFace_of_selects (args := #[]) (mvT hZ (hw _ (List.mem_of_getElem? (i := 56) rfl)))) (mvT hZ (hw _ (List.mem_of_getElem? (i := 56) rfl))) (mvT hZ (hw _ (List.mem_of_getElem? (i := 55) rfl))) (by decide) (backOf (W := 0) (rm_frm l Z a0 hw [] r117 (0 : Int32) cb117 ck117 (2 : Int32) [lo0, hi0] T117.heap n0 Z117 Fq_117 Aq_117 (by decide)) hZ (hw _ (List.mem_of_getElem? (i := 57) rfl)) (hw _ (List.mem_of_getElem? (i := 12) rfl)) (by decide) (by decide)) q120a q120c (g := (mkF m 218 #[.val (.long c0_), .second, .val (.long c1_), .second, .val (.long c2_), .second, .val (.long c3_), .second, .val (.long c4_), .second, .val (.int vk), .val (.long lo0), .second, .val (.long hi0), .second, .val (.long lo1), .second, .val (.long hi1), .second, .val (.long r113), .second, .val (.long (r113 + (1 : Int64))), .second, .val (.int (0 : Int32)), .val (.ref b114), .val (.ref b115), .val (.ref r117)] [(.int (0 : Int32)), (.ref r117)])) rfl (by rw [hml]; rfl) (Steps.refl _) (argsL := [(.int (0 : Int32))]) (rest := []) (lenOf pd_6 rfl) rfl (by show 2 * 0 + _ ≤ _; exact Nat.le_of_eq rfl) (hb hby at_218) (fun _ _ => ⟨rfl, e119, (by decide : 6 + 0 ≤ _), (by decide : 6 + 0 ≤ _)⟩)
    dsimp only [Pt.U, Pt.locs, Pt.cells, Pt.slots] at X120 l120 y120 z120 st120 hQ120
    subst l120 y120 z120
    obtain ⟨⟨r120, rfl, hr120⟩, N120q, e120⟩ := hQ120
    have N120 := Fr.app N119 N120q
    obtain rfl : lo0 = r120 := (hr120.trans rfl).symm
    obtain ⟨cq121, kq121, q121a, q121b, q121c⟩ := isOf hZ e120 Ez_117
    obtain ⟨_, _, ⟨T121, L121, k121, n121⟩, -, X121, ⟨Lc121, hQ121, l121, y121, z121⟩, st121⟩ := X120.virtualBack hx (y := (⟨"com/example/chronotriple/chronotriple/Box", "to", "(I)J"⟩ : MethodName)) (z := (⟨"com/example/chronotriple/chronotriple/Box", "to", "(I)J"⟩ : MethodName)) hown (mvT hZ (hw _ (List.mem_of_getElem? (i := 58) rfl))) (mvT hZ (hw _ (List.mem_of_getElem? (i := 59) rfl))) (notFace_of_selects (args := #[]) (mvT hZ (hw _ (List.mem_of_getElem? (i := 61) rfl)))) (mvT hZ (hw _ (List.mem_of_getElem? (i := 61) rfl))) (mvT hZ (hw _ (List.mem_of_getElem? (i := 60) rfl))) (by decide) (backOf (W := 0) (rm_to l Z a0 hw [] r117 (0 : Int32) cb117 ck117 (2 : Int32) [lo0, hi0] T117.heap n0 Z117 Fq_117 Aq_117 (by decide)) hZ (hw _ (List.mem_of_getElem? (i := 62) rfl)) (hw _ (List.mem_of_getElem? (i := 12) rfl)) (by decide) (by decide)) q121a q121c (g := (mkF m 231 #[.val (.long c0_), .second, .val (.long c1_), .second, .val (.long c2_), .second, .val (.long c3_), .second, .val (.long c4_), .second, .val (.int vk), .val (.long lo0), .second, .val (.long hi0), .second, .val (.long lo1), .second, .val (.long hi1), .second, .val (.long r113), .second, .val (.long (r113 + (1 : Int64))), .second, .val (.int (0 : Int32)), .val (.ref b114), .val (.ref b115), .val (.ref r117)] [(.int (0 : Int32)), (.ref r117)])) rfl (by rw [hml]; rfl) (Steps.refl _) (argsL := [(.int (0 : Int32))]) (rest := []) (lenOf pd_6 rfl) rfl (by show 2 * 0 + _ ≤ _; exact Nat.le_of_eq rfl) (hb hby at_231) (fun _ _ => ⟨rfl, e120, (by decide : 6 + 0 ≤ _), (by decide : 6 + 0 ≤ _)⟩)
    dsimp only [Pt.U, Pt.locs, Pt.cells, Pt.slots] at X121 l121 y121 z121 st121 hQ121
    subst l121 y121 z121
    obtain ⟨⟨r121, rfl, hr121⟩, N121q, e121⟩ := hQ121
    have N121 := Fr.app N120 N121q
    obtain rfl : hi0 = r121 := (hr121.trans rfl).symm
    obtain ⟨fs, hr, hrun, hended, hW, hsame⟩ := X121.leave (v := some (.int (1 : Int32))) (fun h => by rw [Bd.returns] at h; cases h)
    refine ⟨_, _, pre0 _ ?_, hrun, hended, _, _, rfl, ?_, ⟨_, rfl⟩, hW, hsame.mono (by decide) (by decide)⟩
    · show Steps p.tables e below (s₁.setTop (mkF m 0 #[.val (.long c0_), .second, .val (.long c1_), .second, .val (.long c2_), .second, .val (.long c3_), .second, .val (.long c4_), .second, .val (.int vk), .unset, .unset, .unset, .unset, .unset, .unset, .unset, .unset, .unset, .unset, .unset, .unset, .unset, .unset, .unset, .unset] [])) _
      refine st103 _ ?_
      show Steps p.tables e below (T103.setTop (mkF m 37 #[.val (.long c0_), .second, .val (.long c1_), .second, .val (.long c2_), .second, .val (.long c3_), .second, .val (.long c4_), .second, .val (.int vk), .val (.long lo0), .second, .val (.long hi0), .second, .unset, .unset, .unset, .unset, .unset, .unset, .unset, .unset, .unset, .unset, .unset, .unset] [])) _
      refine st108 _ ?_
      show Steps p.tables e below (T108.setTop (mkF m 79 #[.val (.long c0_), .second, .val (.long c1_), .second, .val (.long c2_), .second, .val (.long c3_), .second, .val (.long c4_), .second, .val (.int vk), .val (.long lo0), .second, .val (.long hi0), .second, .val (.long lo1), .second, .val (.long hi1), .second, .unset, .unset, .unset, .unset, .unset, .unset, .unset, .unset] [])) _
      refine XS.lload X108.here hx rfl (hb hby at_79) rfl ?_
      show Steps p.tables e below (T108.setTop (mkF m 81 #[.val (.long c0_), .second, .val (.long c1_), .second, .val (.long c2_), .second, .val (.long c3_), .second, .val (.long c4_), .second, .val (.int vk), .val (.long lo0), .second, .val (.long hi0), .second, .val (.long lo1), .second, .val (.long hi1), .second, .unset, .unset, .unset, .unset, .unset, .unset, .unset, .unset] [(.long c4_)])) _
      refine X108.ldc2Long hx hown (mvT hZ (hw _ (List.mem_of_getElem? (i := 7) rfl))) (g := (mkF m 81 #[.val (.long c0_), .second, .val (.long c1_), .second, .val (.long c2_), .second, .val (.long c3_), .second, .val (.long c4_), .second, .val (.int vk), .val (.long lo0), .second, .val (.long hi0), .second, .val (.long lo1), .second, .val (.long hi1), .second, .unset, .unset, .unset, .unset, .unset, .unset, .unset, .unset] [(.long c4_)])) rfl (hb hby at_81) _ ?_
      show Steps p.tables e below (T108.setTop (mkF m 84 #[.val (.long c0_), .second, .val (.long c1_), .second, .val (.long c2_), .second, .val (.long c3_), .second, .val (.long c4_), .second, .val (.int vk), .val (.long lo0), .second, .val (.long hi0), .second, .val (.long lo1), .second, .val (.long hi1), .second, .unset, .unset, .unset, .unset, .unset, .unset, .unset, .unset] [(.long (9223372036854775806 : Int64)), (.long c4_)])) _
      refine st113 _ ?_
      show Steps p.tables e below (T113.setTop (mkF m 87 #[.val (.long c0_), .second, .val (.long c1_), .second, .val (.long c2_), .second, .val (.long c3_), .second, .val (.long c4_), .second, .val (.int vk), .val (.long lo0), .second, .val (.long hi0), .second, .val (.long lo1), .second, .val (.long hi1), .second, .unset, .unset, .unset, .unset, .unset, .unset, .unset, .unset] [(.long r113)])) _
      refine XS.lstore X113.here hx rfl (hb hby at_87) rfl (l' := #[.val (.long c0_), .second, .val (.long c1_), .second, .val (.long c2_), .second, .val (.long c3_), .second, .val (.long c4_), .second, .val (.int vk), .val (.long lo0), .second, .val (.long hi0), .second, .val (.long lo1), .second, .val (.long hi1), .second, .val (.long r113), .second, .unset, .unset, .unset, .unset, .unset, .unset]) rfl ?_
      show Steps p.tables e below (T113.setTop (mkF m 89 #[.val (.long c0_), .second, .val (.long c1_), .second, .val (.long c2_), .second, .val (.long c3_), .second, .val (.long c4_), .second, .val (.int vk), .val (.long lo0), .second, .val (.long hi0), .second, .val (.long lo1), .second, .val (.long hi1), .second, .val (.long r113), .second, .unset, .unset, .unset, .unset, .unset, .unset] [])) _
      refine XS.lload X113.here hx rfl (hb hby at_89) rfl ?_
      show Steps p.tables e below (T113.setTop (mkF m 91 #[.val (.long c0_), .second, .val (.long c1_), .second, .val (.long c2_), .second, .val (.long c3_), .second, .val (.long c4_), .second, .val (.int vk), .val (.long lo0), .second, .val (.long hi0), .second, .val (.long lo1), .second, .val (.long hi1), .second, .val (.long r113), .second, .unset, .unset, .unset, .unset, .unset, .unset] [(.long r113)])) _
      refine XS.lconst X113.here hx rfl (hb hby at_91) ?_
      show Steps p.tables e below (T113.setTop (mkF m 92 #[.val (.long c0_), .second, .val (.long c1_), .second, .val (.long c2_), .second, .val (.long c3_), .second, .val (.long c4_), .second, .val (.int vk), .val (.long lo0), .second, .val (.long hi0), .second, .val (.long lo1), .second, .val (.long hi1), .second, .val (.long r113), .second, .unset, .unset, .unset, .unset, .unset, .unset] [(.long (1 : Int64)), (.long r113)])) _
      refine XS.ladd X113.here hx rfl (hb hby at_92) rfl ?_
      show Steps p.tables e below (T113.setTop (mkF m 93 #[.val (.long c0_), .second, .val (.long c1_), .second, .val (.long c2_), .second, .val (.long c3_), .second, .val (.long c4_), .second, .val (.int vk), .val (.long lo0), .second, .val (.long hi0), .second, .val (.long lo1), .second, .val (.long hi1), .second, .val (.long r113), .second, .unset, .unset, .unset, .unset, .unset, .unset] [(.long (r113 + (1 : Int64)))])) _
      refine XS.lstore X113.here hx rfl (hb hby at_93) rfl (l' := #[.val (.long c0_), .second, .val (.long c1_), .second, .val (.long c2_), .second, .val (.long c3_), .second, .val (.long c4_), .second, .val (.int vk), .val (.long lo0), .second, .val (.long hi0), .second, .val (.long lo1), .second, .val (.long hi1), .second, .val (.long r113), .second, .val (.long (r113 + (1 : Int64))), .second, .unset, .unset, .unset, .unset]) rfl ?_
      show Steps p.tables e below (T113.setTop (mkF m 95 #[.val (.long c0_), .second, .val (.long c1_), .second, .val (.long c2_), .second, .val (.long c3_), .second, .val (.long c4_), .second, .val (.int vk), .val (.long lo0), .second, .val (.long hi0), .second, .val (.long lo1), .second, .val (.long hi1), .second, .val (.long r113), .second, .val (.long (r113 + (1 : Int64))), .second, .unset, .unset, .unset, .unset] [])) _
      refine XS.iload X113.here hx rfl (hb hby at_95) rfl ?_
      show Steps p.tables e below (T113.setTop (mkF m 97 #[.val (.long c0_), .second, .val (.long c1_), .second, .val (.long c2_), .second, .val (.long c3_), .second, .val (.long c4_), .second, .val (.int vk), .val (.long lo0), .second, .val (.long hi0), .second, .val (.long lo1), .second, .val (.long hi1), .second, .val (.long r113), .second, .val (.long (r113 + (1 : Int64))), .second, .unset, .unset, .unset, .unset] [(.int vk)])) _
      refine X113.ldcInt hx hown (mvT hZ (hw _ (List.mem_of_getElem? (i := 8) rfl))) (g := (mkF m 97 #[.val (.long c0_), .second, .val (.long c1_), .second, .val (.long c2_), .second, .val (.long c3_), .second, .val (.long c4_), .second, .val (.int vk), .val (.long lo0), .second, .val (.long hi0), .second, .val (.long lo1), .second, .val (.long hi1), .second, .val (.long r113), .second, .val (.long (r113 + (1 : Int64))), .second, .unset, .unset, .unset, .unset] [(.int vk)])) rfl (hb hby at_97) _ ?_
      show Steps p.tables e below (T113.setTop (mkF m 99 #[.val (.long c0_), .second, .val (.long c1_), .second, .val (.long c2_), .second, .val (.long c3_), .second, .val (.long c4_), .second, .val (.int vk), .val (.long lo0), .second, .val (.long hi0), .second, .val (.long lo1), .second, .val (.long hi1), .second, .val (.long r113), .second, .val (.long (r113 + (1 : Int64))), .second, .unset, .unset, .unset, .unset] [(.int (2147483647 : Int32)), (.int vk)])) _
      refine XS.iand X113.here hx rfl (hb hby at_99) rfl ?_
      show Steps p.tables e below (T113.setTop (mkF m 100 #[.val (.long c0_), .second, .val (.long c1_), .second, .val (.long c2_), .second, .val (.long c3_), .second, .val (.long c4_), .second, .val (.int vk), .val (.long lo0), .second, .val (.long hi0), .second, .val (.long lo1), .second, .val (.long hi1), .second, .val (.long r113), .second, .val (.long (r113 + (1 : Int64))), .second, .unset, .unset, .unset, .unset] [(.int (vk &&& (2147483647 : Int32)))])) _
      refine XS.iconst X113.here hx rfl (hb hby at_100) ?_
      show Steps p.tables e below (T113.setTop (mkF m 101 #[.val (.long c0_), .second, .val (.long c1_), .second, .val (.long c2_), .second, .val (.long c3_), .second, .val (.long c4_), .second, .val (.int vk), .val (.long lo0), .second, .val (.long hi0), .second, .val (.long lo1), .second, .val (.long hi1), .second, .val (.long r113), .second, .val (.long (r113 + (1 : Int64))), .second, .unset, .unset, .unset, .unset] [(.int (3 : Int32)), (.int (vk &&& (2147483647 : Int32)))])) _
      refine iremM X113 hx rfl (hb hby at_101) rfl (by decide) ?_
      show Steps p.tables e below (T113.setTop (mkF m 102 #[.val (.long c0_), .second, .val (.long c1_), .second, .val (.long c2_), .second, .val (.long c3_), .second, .val (.long c4_), .second, .val (.int vk), .val (.long lo0), .second, .val (.long hi0), .second, .val (.long lo1), .second, .val (.long hi1), .second, .val (.long r113), .second, .val (.long (r113 + (1 : Int64))), .second, .unset, .unset, .unset, .unset] [(.int ((vk &&& (2147483647 : Int32)) % (3 : Int32)))])) _
      rw [hd]
      show Steps p.tables e below (T113.setTop (mkF m 102 #[.val (.long c0_), .second, .val (.long c1_), .second, .val (.long c2_), .second, .val (.long c3_), .second, .val (.long c4_), .second, .val (.int vk), .val (.long lo0), .second, .val (.long hi0), .second, .val (.long lo1), .second, .val (.long hi1), .second, .val (.long r113), .second, .val (.long (r113 + (1 : Int64))), .second, .unset, .unset, .unset, .unset] [(.int (0 : Int32))])) _
      refine XS.istore X113.here hx rfl (hb hby at_102) rfl (l' := #[.val (.long c0_), .second, .val (.long c1_), .second, .val (.long c2_), .second, .val (.long c3_), .second, .val (.long c4_), .second, .val (.int vk), .val (.long lo0), .second, .val (.long hi0), .second, .val (.long lo1), .second, .val (.long hi1), .second, .val (.long r113), .second, .val (.long (r113 + (1 : Int64))), .second, .val (.int (0 : Int32)), .unset, .unset, .unset]) rfl ?_
      show Steps p.tables e below (T113.setTop (mkF m 104 #[.val (.long c0_), .second, .val (.long c1_), .second, .val (.long c2_), .second, .val (.long c3_), .second, .val (.long c4_), .second, .val (.int vk), .val (.long lo0), .second, .val (.long hi0), .second, .val (.long lo1), .second, .val (.long hi1), .second, .val (.long r113), .second, .val (.long (r113 + (1 : Int64))), .second, .val (.int (0 : Int32)), .unset, .unset, .unset] [])) _
      refine XS.iload X113.here hx rfl (hb hby at_104) rfl ?_
      show Steps p.tables e below (T113.setTop (mkF m 106 #[.val (.long c0_), .second, .val (.long c1_), .second, .val (.long c2_), .second, .val (.long c3_), .second, .val (.long c4_), .second, .val (.int vk), .val (.long lo0), .second, .val (.long hi0), .second, .val (.long lo1), .second, .val (.long hi1), .second, .val (.long r113), .second, .val (.long (r113 + (1 : Int64))), .second, .val (.int (0 : Int32)), .unset, .unset, .unset] [(.int (0 : Int32))])) _
      refine XS.ifNo X113.here hx rfl (hb hby at_106) rfl ((if0 _ _).trans (teq (by decide : (0 : Int32) = (0 : Int32))).2) ?_
      show Steps p.tables e below (T113.setTop (mkF m 109 #[.val (.long c0_), .second, .val (.long c1_), .second, .val (.long c2_), .second, .val (.long c3_), .second, .val (.long c4_), .second, .val (.int vk), .val (.long lo0), .second, .val (.long hi0), .second, .val (.long lo1), .second, .val (.long hi1), .second, .val (.long r113), .second, .val (.long (r113 + (1 : Int64))), .second, .val (.int (0 : Int32)), .unset, .unset, .unset] [])) _
      refine XS.iconst X113.here hx rfl (hb hby at_109) ?_
      show Steps p.tables e below (T113.setTop (mkF m 110 #[.val (.long c0_), .second, .val (.long c1_), .second, .val (.long c2_), .second, .val (.long c3_), .second, .val (.long c4_), .second, .val (.int vk), .val (.long lo0), .second, .val (.long hi0), .second, .val (.long lo1), .second, .val (.long hi1), .second, .val (.long r113), .second, .val (.long (r113 + (1 : Int64))), .second, .val (.int (0 : Int32)), .unset, .unset, .unset] [(.int (0 : Int32))])) _
      refine st114 _ ?_
      show Steps p.tables e below (T114.setTop (mkF m 112 #[.val (.long c0_), .second, .val (.long c1_), .second, .val (.long c2_), .second, .val (.long c3_), .second, .val (.long c4_), .second, .val (.int vk), .val (.long lo0), .second, .val (.long hi0), .second, .val (.long lo1), .second, .val (.long hi1), .second, .val (.long r113), .second, .val (.long (r113 + (1 : Int64))), .second, .val (.int (0 : Int32)), .unset, .unset, .unset] [(.ref b114)])) _
      refine XS.astore X114.here hx rfl (hb hby at_112) rfl rfl (l' := #[.val (.long c0_), .second, .val (.long c1_), .second, .val (.long c2_), .second, .val (.long c3_), .second, .val (.long c4_), .second, .val (.int vk), .val (.long lo0), .second, .val (.long hi0), .second, .val (.long lo1), .second, .val (.long hi1), .second, .val (.long r113), .second, .val (.long (r113 + (1 : Int64))), .second, .val (.int (0 : Int32)), .val (.ref b114), .unset, .unset]) rfl ?_
      show Steps p.tables e below (T114.setTop (mkF m 114 #[.val (.long c0_), .second, .val (.long c1_), .second, .val (.long c2_), .second, .val (.long c3_), .second, .val (.long c4_), .second, .val (.int vk), .val (.long lo0), .second, .val (.long hi0), .second, .val (.long lo1), .second, .val (.long hi1), .second, .val (.long r113), .second, .val (.long (r113 + (1 : Int64))), .second, .val (.int (0 : Int32)), .val (.ref b114), .unset, .unset] [])) _
      refine XS.goto X114.here hx rfl (pc0 := 114) (pc' := 166) rfl (hb hby at_114) (by decide) (by decide) ?_
      show Steps p.tables e below (T114.setTop (mkF m 166 #[.val (.long c0_), .second, .val (.long c1_), .second, .val (.long c2_), .second, .val (.long c3_), .second, .val (.long c4_), .second, .val (.int vk), .val (.long lo0), .second, .val (.long hi0), .second, .val (.long lo1), .second, .val (.long hi1), .second, .val (.long r113), .second, .val (.long (r113 + (1 : Int64))), .second, .val (.int (0 : Int32)), .val (.ref b114), .unset, .unset] [])) _
      refine st115 _ ?_
      show Steps p.tables e below (T115.setTop (mkF m 169 #[.val (.long c0_), .second, .val (.long c1_), .second, .val (.long c2_), .second, .val (.long c3_), .second, .val (.long c4_), .second, .val (.int vk), .val (.long lo0), .second, .val (.long hi0), .second, .val (.long lo1), .second, .val (.long hi1), .second, .val (.long r113), .second, .val (.long (r113 + (1 : Int64))), .second, .val (.int (0 : Int32)), .val (.ref b114), .unset, .unset] [(.ref b115)])) _
      refine XS.dup X115.here hx rfl (hb hby at_169) rfl rfl ?_
      show Steps p.tables e below (T115.setTop (mkF m 170 #[.val (.long c0_), .second, .val (.long c1_), .second, .val (.long c2_), .second, .val (.long c3_), .second, .val (.long c4_), .second, .val (.int vk), .val (.long lo0), .second, .val (.long hi0), .second, .val (.long lo1), .second, .val (.long hi1), .second, .val (.long r113), .second, .val (.long (r113 + (1 : Int64))), .second, .val (.int (0 : Int32)), .val (.ref b114), .unset, .unset] [(.ref b115), (.ref b115)])) _
      refine XS.aload X115.here hx rfl (hb hby at_170) rfl rfl ?_
      show Steps p.tables e below (T115.setTop (mkF m 172 #[.val (.long c0_), .second, .val (.long c1_), .second, .val (.long c2_), .second, .val (.long c3_), .second, .val (.long c4_), .second, .val (.int vk), .val (.long lo0), .second, .val (.long hi0), .second, .val (.long lo1), .second, .val (.long hi1), .second, .val (.long r113), .second, .val (.long (r113 + (1 : Int64))), .second, .val (.int (0 : Int32)), .val (.ref b114), .unset, .unset] [(.ref b114), (.ref b115), (.ref b115)])) _
      refine st116.trans ?_
      show Steps p.tables e below (T116.setTop (mkF m 175 #[.val (.long c0_), .second, .val (.long c1_), .second, .val (.long c2_), .second, .val (.long c3_), .second, .val (.long c4_), .second, .val (.int vk), .val (.long lo0), .second, .val (.long hi0), .second, .val (.long lo1), .second, .val (.long hi1), .second, .val (.long r113), .second, .val (.long (r113 + (1 : Int64))), .second, .val (.int (0 : Int32)), .val (.ref b114), .unset, .unset] [(.ref b115)])) _
      refine XS.astore X116.here hx rfl (hb hby at_175) rfl rfl (l' := #[.val (.long c0_), .second, .val (.long c1_), .second, .val (.long c2_), .second, .val (.long c3_), .second, .val (.long c4_), .second, .val (.int vk), .val (.long lo0), .second, .val (.long hi0), .second, .val (.long lo1), .second, .val (.long hi1), .second, .val (.long r113), .second, .val (.long (r113 + (1 : Int64))), .second, .val (.int (0 : Int32)), .val (.ref b114), .val (.ref b115), .unset]) rfl ?_
      show Steps p.tables e below (T116.setTop (mkF m 177 #[.val (.long c0_), .second, .val (.long c1_), .second, .val (.long c2_), .second, .val (.long c3_), .second, .val (.long c4_), .second, .val (.int vk), .val (.long lo0), .second, .val (.long hi0), .second, .val (.long lo1), .second, .val (.long hi1), .second, .val (.long r113), .second, .val (.long (r113 + (1 : Int64))), .second, .val (.int (0 : Int32)), .val (.ref b114), .val (.ref b115), .unset] [])) _
      refine XS.aload X116.here hx rfl (hb hby at_177) rfl rfl ?_
      show Steps p.tables e below (T116.setTop (mkF m 179 #[.val (.long c0_), .second, .val (.long c1_), .second, .val (.long c2_), .second, .val (.long c3_), .second, .val (.long c4_), .second, .val (.int vk), .val (.long lo0), .second, .val (.long hi0), .second, .val (.long lo1), .second, .val (.long hi1), .second, .val (.long r113), .second, .val (.long (r113 + (1 : Int64))), .second, .val (.int (0 : Int32)), .val (.ref b114), .val (.ref b115), .unset] [(.ref b115)])) _
      refine XS.lload X116.here hx rfl (hb hby at_179) rfl ?_
      show Steps p.tables e below (T116.setTop (mkF m 181 #[.val (.long c0_), .second, .val (.long c1_), .second, .val (.long c2_), .second, .val (.long c3_), .second, .val (.long c4_), .second, .val (.int vk), .val (.long lo0), .second, .val (.long hi0), .second, .val (.long lo1), .second, .val (.long hi1), .second, .val (.long r113), .second, .val (.long (r113 + (1 : Int64))), .second, .val (.int (0 : Int32)), .val (.ref b114), .val (.ref b115), .unset] [(.long lo0), (.ref b115)])) _
      refine XS.lload X116.here hx rfl (hb hby at_181) rfl ?_
      show Steps p.tables e below (T116.setTop (mkF m 183 #[.val (.long c0_), .second, .val (.long c1_), .second, .val (.long c2_), .second, .val (.long c3_), .second, .val (.long c4_), .second, .val (.int vk), .val (.long lo0), .second, .val (.long hi0), .second, .val (.long lo1), .second, .val (.long hi1), .second, .val (.long r113), .second, .val (.long (r113 + (1 : Int64))), .second, .val (.int (0 : Int32)), .val (.ref b114), .val (.ref b115), .unset] [(.long hi0), (.long lo0), (.ref b115)])) _
      refine st117.trans ?_
      show Steps p.tables e below (T117.setTop (mkF m 186 #[.val (.long c0_), .second, .val (.long c1_), .second, .val (.long c2_), .second, .val (.long c3_), .second, .val (.long c4_), .second, .val (.int vk), .val (.long lo0), .second, .val (.long hi0), .second, .val (.long lo1), .second, .val (.long hi1), .second, .val (.long r113), .second, .val (.long (r113 + (1 : Int64))), .second, .val (.int (0 : Int32)), .val (.ref b114), .val (.ref b115), .unset] [(.ref r117)])) _
      refine XS.astore X117.here hx rfl (hb hby at_186) rfl rfl (l' := #[.val (.long c0_), .second, .val (.long c1_), .second, .val (.long c2_), .second, .val (.long c3_), .second, .val (.long c4_), .second, .val (.int vk), .val (.long lo0), .second, .val (.long hi0), .second, .val (.long lo1), .second, .val (.long hi1), .second, .val (.long r113), .second, .val (.long (r113 + (1 : Int64))), .second, .val (.int (0 : Int32)), .val (.ref b114), .val (.ref b115), .val (.ref r117)]) rfl ?_
      show Steps p.tables e below (T117.setTop (mkF m 188 #[.val (.long c0_), .second, .val (.long c1_), .second, .val (.long c2_), .second, .val (.long c3_), .second, .val (.long c4_), .second, .val (.int vk), .val (.long lo0), .second, .val (.long hi0), .second, .val (.long lo1), .second, .val (.long hi1), .second, .val (.long r113), .second, .val (.long (r113 + (1 : Int64))), .second, .val (.int (0 : Int32)), .val (.ref b114), .val (.ref b115), .val (.ref r117)] [])) _
      refine XS.aload X117.here hx rfl (hb hby at_188) rfl rfl ?_
      show Steps p.tables e below (T117.setTop (mkF m 190 #[.val (.long c0_), .second, .val (.long c1_), .second, .val (.long c2_), .second, .val (.long c3_), .second, .val (.long c4_), .second, .val (.int vk), .val (.long lo0), .second, .val (.long hi0), .second, .val (.long lo1), .second, .val (.long hi1), .second, .val (.long r113), .second, .val (.long (r113 + (1 : Int64))), .second, .val (.int (0 : Int32)), .val (.ref b114), .val (.ref b115), .val (.ref r117)] [(.ref b115)])) _
      refine st118.trans ?_
      show Steps p.tables e below (T118.setTop (mkF m 193 #[.val (.long c0_), .second, .val (.long c1_), .second, .val (.long c2_), .second, .val (.long c3_), .second, .val (.long c4_), .second, .val (.int vk), .val (.long lo0), .second, .val (.long hi0), .second, .val (.long lo1), .second, .val (.long hi1), .second, .val (.long r113), .second, .val (.long (r113 + (1 : Int64))), .second, .val (.int (0 : Int32)), .val (.ref b114), .val (.ref b115), .val (.ref r117)] [(.int (0 : Int32))])) _
      refine XS.iload X118.here hx rfl (hb hby at_193) rfl ?_
      show Steps p.tables e below (T118.setTop (mkF m 195 #[.val (.long c0_), .second, .val (.long c1_), .second, .val (.long c2_), .second, .val (.long c3_), .second, .val (.long c4_), .second, .val (.int vk), .val (.long lo0), .second, .val (.long hi0), .second, .val (.long lo1), .second, .val (.long hi1), .second, .val (.long r113), .second, .val (.long (r113 + (1 : Int64))), .second, .val (.int (0 : Int32)), .val (.ref b114), .val (.ref b115), .val (.ref r117)] [(.int (0 : Int32)), (.int (0 : Int32))])) _
      refine XS.icmpYes X118.here hx rfl (pc0 := 195) (pc' := 200) rfl (hb hby at_195) rfl (teq (by decide : (0 : Int32) = (0 : Int32))).1 (by decide) (by decide) ?_
      show Steps p.tables e below (T118.setTop (mkF m 200 #[.val (.long c0_), .second, .val (.long c1_), .second, .val (.long c2_), .second, .val (.long c3_), .second, .val (.long c4_), .second, .val (.int vk), .val (.long lo0), .second, .val (.long hi0), .second, .val (.long lo1), .second, .val (.long hi1), .second, .val (.long r113), .second, .val (.long (r113 + (1 : Int64))), .second, .val (.int (0 : Int32)), .val (.ref b114), .val (.ref b115), .val (.ref r117)] [])) _
      refine XS.aload X118.here hx rfl (hb hby at_200) rfl rfl ?_
      show Steps p.tables e below (T118.setTop (mkF m 202 #[.val (.long c0_), .second, .val (.long c1_), .second, .val (.long c2_), .second, .val (.long c3_), .second, .val (.long c4_), .second, .val (.int vk), .val (.long lo0), .second, .val (.long hi0), .second, .val (.long lo1), .second, .val (.long hi1), .second, .val (.long r113), .second, .val (.long (r113 + (1 : Int64))), .second, .val (.int (0 : Int32)), .val (.ref b114), .val (.ref b115), .val (.ref r117)] [(.ref r117)])) _
      refine st119.trans ?_
      show Steps p.tables e below (T119.setTop (mkF m 205 #[.val (.long c0_), .second, .val (.long c1_), .second, .val (.long c2_), .second, .val (.long c3_), .second, .val (.long c4_), .second, .val (.int vk), .val (.long lo0), .second, .val (.long hi0), .second, .val (.long lo1), .second, .val (.long hi1), .second, .val (.long r113), .second, .val (.long (r113 + (1 : Int64))), .second, .val (.int (0 : Int32)), .val (.ref b114), .val (.ref b115), .val (.ref r117)] [(.int (1 : Int32))])) _
      refine XS.iload X119.here hx rfl (hb hby at_205) rfl ?_
      show Steps p.tables e below (T119.setTop (mkF m 207 #[.val (.long c0_), .second, .val (.long c1_), .second, .val (.long c2_), .second, .val (.long c3_), .second, .val (.long c4_), .second, .val (.int vk), .val (.long lo0), .second, .val (.long hi0), .second, .val (.long lo1), .second, .val (.long hi1), .second, .val (.long r113), .second, .val (.long (r113 + (1 : Int64))), .second, .val (.int (0 : Int32)), .val (.ref b114), .val (.ref b115), .val (.ref r117)] [(.int (0 : Int32)), (.int (1 : Int32))])) _
      refine XS.iconst X119.here hx rfl (hb hby at_207) ?_
      show Steps p.tables e below (T119.setTop (mkF m 208 #[.val (.long c0_), .second, .val (.long c1_), .second, .val (.long c2_), .second, .val (.long c3_), .second, .val (.long c4_), .second, .val (.int vk), .val (.long lo0), .second, .val (.long hi0), .second, .val (.long lo1), .second, .val (.long hi1), .second, .val (.long r113), .second, .val (.long (r113 + (1 : Int64))), .second, .val (.int (0 : Int32)), .val (.ref b114), .val (.ref b115), .val (.ref r117)] [(.int (1 : Int32)), (.int (0 : Int32)), (.int (1 : Int32))])) _
      refine XS.iadd X119.here hx rfl (hb hby at_208) rfl ?_
      show Steps p.tables e below (T119.setTop (mkF m 209 #[.val (.long c0_), .second, .val (.long c1_), .second, .val (.long c2_), .second, .val (.long c3_), .second, .val (.long c4_), .second, .val (.int vk), .val (.long lo0), .second, .val (.long hi0), .second, .val (.long lo1), .second, .val (.long hi1), .second, .val (.long r113), .second, .val (.long (r113 + (1 : Int64))), .second, .val (.int (0 : Int32)), .val (.ref b114), .val (.ref b115), .val (.ref r117)] [(.int (1 : Int32)), (.int (1 : Int32))])) _
      refine XS.icmpYes X119.here hx rfl (pc0 := 209) (pc' := 214) rfl (hb hby at_209) rfl (teq (by decide : (1 : Int32) = (1 : Int32))).1 (by decide) (by decide) ?_
      show Steps p.tables e below (T119.setTop (mkF m 214 #[.val (.long c0_), .second, .val (.long c1_), .second, .val (.long c2_), .second, .val (.long c3_), .second, .val (.long c4_), .second, .val (.int vk), .val (.long lo0), .second, .val (.long hi0), .second, .val (.long lo1), .second, .val (.long hi1), .second, .val (.long r113), .second, .val (.long (r113 + (1 : Int64))), .second, .val (.int (0 : Int32)), .val (.ref b114), .val (.ref b115), .val (.ref r117)] [])) _
      refine XS.aload X119.here hx rfl (hb hby at_214) rfl rfl ?_
      show Steps p.tables e below (T119.setTop (mkF m 216 #[.val (.long c0_), .second, .val (.long c1_), .second, .val (.long c2_), .second, .val (.long c3_), .second, .val (.long c4_), .second, .val (.int vk), .val (.long lo0), .second, .val (.long hi0), .second, .val (.long lo1), .second, .val (.long hi1), .second, .val (.long r113), .second, .val (.long (r113 + (1 : Int64))), .second, .val (.int (0 : Int32)), .val (.ref b114), .val (.ref b115), .val (.ref r117)] [(.ref r117)])) _
      refine XS.iload X119.here hx rfl (hb hby at_216) rfl ?_
      show Steps p.tables e below (T119.setTop (mkF m 218 #[.val (.long c0_), .second, .val (.long c1_), .second, .val (.long c2_), .second, .val (.long c3_), .second, .val (.long c4_), .second, .val (.int vk), .val (.long lo0), .second, .val (.long hi0), .second, .val (.long lo1), .second, .val (.long hi1), .second, .val (.long r113), .second, .val (.long (r113 + (1 : Int64))), .second, .val (.int (0 : Int32)), .val (.ref b114), .val (.ref b115), .val (.ref r117)] [(.int (0 : Int32)), (.ref r117)])) _
      refine st120.trans ?_
      show Steps p.tables e below (T120.setTop (mkF m 221 #[.val (.long c0_), .second, .val (.long c1_), .second, .val (.long c2_), .second, .val (.long c3_), .second, .val (.long c4_), .second, .val (.int vk), .val (.long lo0), .second, .val (.long hi0), .second, .val (.long lo1), .second, .val (.long hi1), .second, .val (.long r113), .second, .val (.long (r113 + (1 : Int64))), .second, .val (.int (0 : Int32)), .val (.ref b114), .val (.ref b115), .val (.ref r117)] [(.long lo0)])) _
      refine XS.lload X120.here hx rfl (hb hby at_221) rfl ?_
      show Steps p.tables e below (T120.setTop (mkF m 223 #[.val (.long c0_), .second, .val (.long c1_), .second, .val (.long c2_), .second, .val (.long c3_), .second, .val (.long c4_), .second, .val (.int vk), .val (.long lo0), .second, .val (.long hi0), .second, .val (.long lo1), .second, .val (.long hi1), .second, .val (.long r113), .second, .val (.long (r113 + (1 : Int64))), .second, .val (.int (0 : Int32)), .val (.ref b114), .val (.ref b115), .val (.ref r117)] [(.long lo0), (.long lo0)])) _
      refine XS.lcmp X120.here hx rfl (hb hby at_223) rfl ?_
      show Steps p.tables e below (T120.setTop (mkF m 224 #[.val (.long c0_), .second, .val (.long c1_), .second, .val (.long c2_), .second, .val (.long c3_), .second, .val (.long c4_), .second, .val (.int vk), .val (.long lo0), .second, .val (.long hi0), .second, .val (.long lo1), .second, .val (.long hi1), .second, .val (.long r113), .second, .val (.long (r113 + (1 : Int64))), .second, .val (.int (0 : Int32)), .val (.ref b114), .val (.ref b115), .val (.ref r117)] [(.int (lcmpW lo0 lo0))])) _
      refine XS.ifNo X120.here hx rfl (hb hby at_224) rfl ((if0 _ _).trans (teq ((lw_eq _ _).mpr (rfl : lo0 = lo0))).2) ?_
      show Steps p.tables e below (T120.setTop (mkF m 227 #[.val (.long c0_), .second, .val (.long c1_), .second, .val (.long c2_), .second, .val (.long c3_), .second, .val (.long c4_), .second, .val (.int vk), .val (.long lo0), .second, .val (.long hi0), .second, .val (.long lo1), .second, .val (.long hi1), .second, .val (.long r113), .second, .val (.long (r113 + (1 : Int64))), .second, .val (.int (0 : Int32)), .val (.ref b114), .val (.ref b115), .val (.ref r117)] [])) _
      refine XS.aload X120.here hx rfl (hb hby at_227) rfl rfl ?_
      show Steps p.tables e below (T120.setTop (mkF m 229 #[.val (.long c0_), .second, .val (.long c1_), .second, .val (.long c2_), .second, .val (.long c3_), .second, .val (.long c4_), .second, .val (.int vk), .val (.long lo0), .second, .val (.long hi0), .second, .val (.long lo1), .second, .val (.long hi1), .second, .val (.long r113), .second, .val (.long (r113 + (1 : Int64))), .second, .val (.int (0 : Int32)), .val (.ref b114), .val (.ref b115), .val (.ref r117)] [(.ref r117)])) _
      refine XS.iload X120.here hx rfl (hb hby at_229) rfl ?_
      show Steps p.tables e below (T120.setTop (mkF m 231 #[.val (.long c0_), .second, .val (.long c1_), .second, .val (.long c2_), .second, .val (.long c3_), .second, .val (.long c4_), .second, .val (.int vk), .val (.long lo0), .second, .val (.long hi0), .second, .val (.long lo1), .second, .val (.long hi1), .second, .val (.long r113), .second, .val (.long (r113 + (1 : Int64))), .second, .val (.int (0 : Int32)), .val (.ref b114), .val (.ref b115), .val (.ref r117)] [(.int (0 : Int32)), (.ref r117)])) _
      refine st121.trans ?_
      show Steps p.tables e below (T121.setTop (mkF m 234 #[.val (.long c0_), .second, .val (.long c1_), .second, .val (.long c2_), .second, .val (.long c3_), .second, .val (.long c4_), .second, .val (.int vk), .val (.long lo0), .second, .val (.long hi0), .second, .val (.long lo1), .second, .val (.long hi1), .second, .val (.long r113), .second, .val (.long (r113 + (1 : Int64))), .second, .val (.int (0 : Int32)), .val (.ref b114), .val (.ref b115), .val (.ref r117)] [(.long hi0)])) _
      refine XS.lload X121.here hx rfl (hb hby at_234) rfl ?_
      show Steps p.tables e below (T121.setTop (mkF m 236 #[.val (.long c0_), .second, .val (.long c1_), .second, .val (.long c2_), .second, .val (.long c3_), .second, .val (.long c4_), .second, .val (.int vk), .val (.long lo0), .second, .val (.long hi0), .second, .val (.long lo1), .second, .val (.long hi1), .second, .val (.long r113), .second, .val (.long (r113 + (1 : Int64))), .second, .val (.int (0 : Int32)), .val (.ref b114), .val (.ref b115), .val (.ref r117)] [(.long hi0), (.long hi0)])) _
      refine XS.lcmp X121.here hx rfl (hb hby at_236) rfl ?_
      show Steps p.tables e below (T121.setTop (mkF m 237 #[.val (.long c0_), .second, .val (.long c1_), .second, .val (.long c2_), .second, .val (.long c3_), .second, .val (.long c4_), .second, .val (.int vk), .val (.long lo0), .second, .val (.long hi0), .second, .val (.long lo1), .second, .val (.long hi1), .second, .val (.long r113), .second, .val (.long (r113 + (1 : Int64))), .second, .val (.int (0 : Int32)), .val (.ref b114), .val (.ref b115), .val (.ref r117)] [(.int (lcmpW hi0 hi0))])) _
      refine XS.ifYes X121.here hx rfl (pc0 := 237) (pc' := 242) rfl (hb hby at_237) rfl ((if0 _ _).trans (teq ((lw_eq _ _).mpr (rfl : hi0 = hi0))).1) (by decide) (by decide) ?_
      show Steps p.tables e below (T121.setTop (mkF m 242 #[.val (.long c0_), .second, .val (.long c1_), .second, .val (.long c2_), .second, .val (.long c3_), .second, .val (.long c4_), .second, .val (.int vk), .val (.long lo0), .second, .val (.long hi0), .second, .val (.long lo1), .second, .val (.long hi1), .second, .val (.long r113), .second, .val (.long (r113 + (1 : Int64))), .second, .val (.int (0 : Int32)), .val (.ref b114), .val (.ref b115), .val (.ref r117)] [])) _
      refine XS.iload X121.here hx rfl (hb hby at_242) rfl ?_
      show Steps p.tables e below (T121.setTop (mkF m 244 #[.val (.long c0_), .second, .val (.long c1_), .second, .val (.long c2_), .second, .val (.long c3_), .second, .val (.long c4_), .second, .val (.int vk), .val (.long lo0), .second, .val (.long hi0), .second, .val (.long lo1), .second, .val (.long hi1), .second, .val (.long r113), .second, .val (.long (r113 + (1 : Int64))), .second, .val (.int (0 : Int32)), .val (.ref b114), .val (.ref b115), .val (.ref r117)] [(.int (0 : Int32))])) _
      refine XS.iconst X121.here hx rfl (hb hby at_244) ?_
      show Steps p.tables e below (T121.setTop (mkF m 245 #[.val (.long c0_), .second, .val (.long c1_), .second, .val (.long c2_), .second, .val (.long c3_), .second, .val (.long c4_), .second, .val (.int vk), .val (.long lo0), .second, .val (.long hi0), .second, .val (.long lo1), .second, .val (.long hi1), .second, .val (.long r113), .second, .val (.long (r113 + (1 : Int64))), .second, .val (.int (0 : Int32)), .val (.ref b114), .val (.ref b115), .val (.ref r117)] [(.int (1 : Int32)), (.int (0 : Int32))])) _
      refine XS.icmpYes X121.here hx rfl (pc0 := 245) (pc' := 274) rfl (hb hby at_245) rfl (tlt (by decide : (0 : Int32) < (1 : Int32))).1 (by decide) (by decide) ?_
      show Steps p.tables e below (T121.setTop (mkF m 274 #[.val (.long c0_), .second, .val (.long c1_), .second, .val (.long c2_), .second, .val (.long c3_), .second, .val (.long c4_), .second, .val (.int vk), .val (.long lo0), .second, .val (.long hi0), .second, .val (.long lo1), .second, .val (.long hi1), .second, .val (.long r113), .second, .val (.long (r113 + (1 : Int64))), .second, .val (.int (0 : Int32)), .val (.ref b114), .val (.ref b115), .val (.ref r117)] [])) _
      refine XS.iload X121.here hx rfl (hb hby at_274) rfl ?_
      show Steps p.tables e below (T121.setTop (mkF m 276 #[.val (.long c0_), .second, .val (.long c1_), .second, .val (.long c2_), .second, .val (.long c3_), .second, .val (.long c4_), .second, .val (.int vk), .val (.long lo0), .second, .val (.long hi0), .second, .val (.long lo1), .second, .val (.long hi1), .second, .val (.long r113), .second, .val (.long (r113 + (1 : Int64))), .second, .val (.int (0 : Int32)), .val (.ref b114), .val (.ref b115), .val (.ref r117)] [(.int (0 : Int32))])) _
      refine XS.iconst X121.here hx rfl (hb hby at_276) ?_
      show Steps p.tables e below (T121.setTop (mkF m 277 #[.val (.long c0_), .second, .val (.long c1_), .second, .val (.long c2_), .second, .val (.long c3_), .second, .val (.long c4_), .second, .val (.int vk), .val (.long lo0), .second, .val (.long hi0), .second, .val (.long lo1), .second, .val (.long hi1), .second, .val (.long r113), .second, .val (.long (r113 + (1 : Int64))), .second, .val (.int (0 : Int32)), .val (.ref b114), .val (.ref b115), .val (.ref r117)] [(.int (2 : Int32)), (.int (0 : Int32))])) _
      refine XS.icmpYes X121.here hx rfl (pc0 := 277) (pc' := 306) rfl (hb hby at_277) rfl (feq (by decide : ¬ ((0 : Int32) = (2 : Int32)))).2 (by decide) (by decide) ?_
      show Steps p.tables e below (T121.setTop (mkF m 306 #[.val (.long c0_), .second, .val (.long c1_), .second, .val (.long c2_), .second, .val (.long c3_), .second, .val (.long c4_), .second, .val (.int vk), .val (.long lo0), .second, .val (.long hi0), .second, .val (.long lo1), .second, .val (.long hi1), .second, .val (.long r113), .second, .val (.long (r113 + (1 : Int64))), .second, .val (.int (0 : Int32)), .val (.ref b114), .val (.ref b115), .val (.ref r117)] [])) _
      refine XS.iconst X121.here hx rfl (hb hby at_306) ?_
      show Steps p.tables e below (T121.setTop (mkF m 307 #[.val (.long c0_), .second, .val (.long c1_), .second, .val (.long c2_), .second, .val (.long c3_), .second, .val (.long c4_), .second, .val (.int vk), .val (.long lo0), .second, .val (.long hi0), .second, .val (.long lo1), .second, .val (.long hi1), .second, .val (.long r113), .second, .val (.long (r113 + (1 : Int64))), .second, .val (.int (0 : Int32)), .val (.ref b114), .val (.ref b115), .val (.ref r117)] [(.int (1 : Int32))])) _
      exact retN X121 hx (t := .boolean) Bd.returns (by simp) (hb hby at_307) hr
    · show Q_law Z c0_ c1_ c2_ c3_ c4_ vk h0 n0 _ T121.heap _
      rw [e121]
      exact ⟨rfl, N121⟩
  · obtain ⟨T122, h122, k122, X122, e122, E122, A122, B122, st122⟩ := newPE X113 hx hZ (hw _ (List.mem_of_getElem? (i := 9) rfl)) e113 (g := (mkF m 124 #[.val (.long c0_), .second, .val (.long c1_), .second, .val (.long c2_), .second, .val (.long c3_), .second, .val (.long c4_), .second, .val (.int vk), .val (.long lo0), .second, .val (.long hi0), .second, .val (.long lo1), .second, .val (.long hi1), .second, .val (.long r113), .second, .val (.long (r113 + (1 : Int64))), .second, .val (.int (1 : Int32)), .unset, .unset, .unset] [(.int (2 : Int32))])) rfl (hb hby at_124) rfl (by decide) (cap := 2) (by decide) (by decide) (by decide) (by decide) (ad := "[J") (by decide)
    obtain ⟨b122, g122⟩ : ∃ z, z = h0.size := ⟨_, rfl⟩
    rw [← g122] at A122 B122 st122
    have g_b122 : n0 ≤ b122 := Nat.le_trans Z0 (Nat.le_of_eq g122.symm)
    have Z122 : n0 ≤ h122.size := Nat.le_trans Z0 E122.1
    have Av_b122_122 : Arv Z h122 b122 k122 .long (2 : Int32) [(.long (0 : Int64)), (.long (0 : Int64))] (.long (0 : Int64)) := (Arv.new A122 (by decide)).pad (pad_rep [] (.long (0 : Int64)) 2)
    have Ex_b122_122 := B122
    obtain ⟨cl123, Ar123, q123, S123, N123a, H123, G123⟩ := id Av_b122_122
    have hin123 : ¬ ((0 : Int32) < 0 ∨ cl123.slots.size ≤ ((0 : Int32)).toNatClampNeg) := inb_of S123 ⟨by decide, by decide⟩
    obtain ⟨T123, h123, X123, e123, W123, st123⟩ := stJ X122 hx hZ e122 Ar123 (j := (0 : Int32)) hin123 (g := (mkF m 130 #[.val (.long c0_), .second, .val (.long c1_), .second, .val (.long c2_), .second, .val (.long c3_), .second, .val (.long c4_), .second, .val (.int vk), .val (.long lo0), .second, .val (.long hi0), .second, .val (.long lo1), .second, .val (.long hi1), .second, .val (.long r113), .second, .val (.long (r113 + (1 : Int64))), .second, .val (.int (1 : Int32)), .unset, .unset, .unset] [(.long lo1), (.int (0 : Int32)), (.ref b122), (.ref b122)])) rfl rfl (hb hby at_130)
    have Av_b122_123 : Arv Z h123 b122 k122 .long (2 : Int32) [(.long lo1), (.long (0 : Int64))] (.long (0 : Int64)) := Arv.set Ar123 q123 S123 N123a H123 G123 rfl W123 0 rfl (Nat.le_of_ble_eq_true rfl)
    have Ex_b122_122_c123 := Ex_b122_122.wr W123
    have Z123 : n0 ≤ h123.size := Nat.le_trans Z122 (Keep.of_wr W123).1
    have N123 := Fr.snoc X123 N113 g_b122
    obtain ⟨cl124, Ar124, q124, S124, N124a, H124, G124⟩ := id Av_b122_123
    have hin124 : ¬ ((1 : Int32) < 0 ∨ cl124.slots.size ≤ ((1 : Int32)).toNatClampNeg) := inb_of S124 ⟨by decide, by decide⟩
    obtain ⟨T124, h124, X124, e124, W124, st124⟩ := stJ X123 hx hZ e123 Ar124 (j := (1 : Int32)) hin124 (g := (mkF m 135 #[.val (.long c0_), .second, .val (.long c1_), .second, .val (.long c2_), .second, .val (.long c3_), .second, .val (.long c4_), .second, .val (.int vk), .val (.long lo0), .second, .val (.long hi0), .second, .val (.long lo1), .second, .val (.long hi1), .second, .val (.long r113), .second, .val (.long (r113 + (1 : Int64))), .second, .val (.int (1 : Int32)), .unset, .unset, .unset] [(.long hi1), (.int (1 : Int32)), (.ref b122), (.ref b122)])) rfl rfl (hb hby at_135)
    have Av_b122_124 : Arv Z h124 b122 k122 .long (2 : Int32) [(.long lo1), (.long hi1)] (.long (0 : Int64)) := Arv.set Ar124 q124 S124 N124a H124 G124 rfl W124 1 rfl (Nat.le_of_ble_eq_true rfl)
    have Ex_b122_122_c124 := Ex_b122_122_c123.wr W124
    have Z124 : n0 ≤ h124.size := Nat.le_trans Z123 (Keep.of_wr W124).1
    have N124 := Fr.snoc X124 N123 g_b122
    obtain ⟨T125, h125, X125, e125, E125, A125, D125, -, st125⟩ := newO X124 hx hZ hown (hw _ (List.mem_of_getElem? (i := 10) rfl)) (hw _ (List.mem_of_getElem? (i := 11) rfl)) (hw _ (List.mem_of_getElem? (i := 12) rfl)) e124 (g := (mkF m 166 #[.val (.long c0_), .second, .val (.long c1_), .second, .val (.long c2_), .second, .val (.long c3_), .second, .val (.long c4_), .second, .val (.int vk), .val (.long lo0), .second, .val (.long hi0), .second, .val (.long lo1), .second, .val (.long hi1), .second, .val (.long r113), .second, .val (.long (r113 + (1 : Int64))), .second, .val (.int (1 : Int32)), .val (.ref b122), .unset, .unset] [])) rfl (hb hby at_166) (by decide) (by decide)
    obtain ⟨b125, g125⟩ : ∃ z, z = h124.size := ⟨_, rfl⟩
    rw [← g125] at A125 D125 st125
    have ne_b122_b125 : b122 ≠ b125 := Nat.ne_of_lt (Nat.lt_of_lt_of_le Ex_b122_122_c124.lt (Nat.le_of_eq g125.symm))
    have g_b125 : n0 ≤ b125 := Nat.le_trans Z124 (Nat.le_of_eq g125.symm)
    have Ex_b122_122_c125 := Ex_b122_122_c124.ext E125
    have Av_b122_124_c125 := Av_b122_124.ext E125
    have Z125 : n0 ≤ h125.size := Nat.le_trans Z124 E125.1
    have Ex_b125_125 := A125
    have Fd_bounds_b125_125 : Fld Z h125 b125 "com/example/chronotriple/chronotriple/Box" "bounds" "[J" .null := D125 (Or.inr (hw _ (List.mem_of_getElem? (i := 29) rfl))) (ty := (.array .long)) (by decide)
    obtain ⟨_, _, ⟨T126, L126, k126, n126⟩, -, X126, ⟨Lc126, hQ126, l126, y126, z126⟩, st126⟩ := X125.specialBack hx (y := (⟨"com/example/chronotriple/chronotriple/Box", "<init>", "([J)V"⟩ : MethodName)) rfl hown (mvT hZ (hw _ (List.mem_of_getElem? (i := 13) rfl))) (mvT hZ (hw _ (List.mem_of_getElem? (i := 14) rfl))) (mvT hZ (hw _ (List.mem_of_getElem? (i := 15) rfl))) (by decide) (backOf (W := 1) (rm_ini2 l Z a0 hw [] b125 b122 k122 lo1 hi1 h125 n0 Z125 Ex_b125_125 Fd_bounds_b125_125 Av_b122_124_c125 Ex_b122_122_c125 g_b125 ne_b122_b125 hp108) hZ (hw _ (List.mem_of_getElem? (i := 15) rfl)) (hw _ (List.mem_of_getElem? (i := 12) rfl)) (by decide) (by decide)) (g := (mkF m 172 #[.val (.long c0_), .second, .val (.long c1_), .second, .val (.long c2_), .second, .val (.long c3_), .second, .val (.long c4_), .second, .val (.int vk), .val (.long lo0), .second, .val (.long hi0), .second, .val (.long lo1), .second, .val (.long hi1), .second, .val (.long r113), .second, .val (.long (r113 + (1 : Int64))), .second, .val (.int (1 : Int32)), .val (.ref b122), .unset, .unset] [(.ref b122), (.ref b125), (.ref b125)])) rfl (by rw [hml]; rfl) (Steps.refl _) (a := b125) (argsL := [(.ref b122)]) (rest := [(.ref b125)]) (lenOf pd_2 rfl) rfl (by show 2 * 0 + _ ≤ _; exact Nat.le_of_eq rfl) (hb hby at_172) (fun _ _ => ⟨rfl, e125, (by decide : 2 + 1 ≤ _), (by decide : 3 + 2 ≤ _)⟩)
    dsimp only [Pt.U, Pt.locs, Pt.cells, Pt.slots] at X126 l126 y126 z126 st126 hQ126
    subst l126 y126 z126
    obtain ⟨rfl, N126q, K126, ⟨cb126, ck126, cg126, cs126, Fq_126, Aq_126, Eq_126⟩⟩ := hQ126
    have N126 := Fr.app N124 N126q
    have Ex_b122_122_c126 := Ex_b122_122_c125.keep K126
    have Av_b122_124_c126 := Av_b122_124_c125.keep K126 (ninS ne_b122_b125 nin0)
    have Ex_b125_125_c126 := Ex_b125_125.keep K126
    have Z126 : n0 ≤ T126.heap.size := Nat.le_trans Z125 K126.1
    have ne_b122_cb126 : b122 ≠ cb126 := Nat.ne_of_lt (Nat.lt_of_lt_of_le Ex_b122_122_c125.lt cs126)
    have ne_b125_cb126 : b125 ≠ cb126 := Nat.ne_of_lt (Nat.lt_of_lt_of_le Ex_b125_125.lt cs126)
    obtain ⟨cq127, kq127, q127a, q127b, q127c⟩ := isOf hZ rfl Ex_b125_125_c126
    obtain ⟨_, _, ⟨T127, L127, k127, n127⟩, -, X127, ⟨Lc127, hQ127, l127, y127, z127⟩, st127⟩ := X126.virtualBack hx (y := (⟨"com/example/chronotriple/chronotriple/Box", "withAxis", "(JJ)Lcom/example/chronotriple/chronotriple/Box;"⟩ : MethodName)) (z := (⟨"com/example/chronotriple/chronotriple/Box", "withAxis", "(JJ)Lcom/example/chronotriple/chronotriple/Box;"⟩ : MethodName)) hown (mvT hZ (hw _ (List.mem_of_getElem? (i := 30) rfl))) (mvT hZ (hw _ (List.mem_of_getElem? (i := 31) rfl))) (notFace_of_selects (args := #[]) (mvT hZ (hw _ (List.mem_of_getElem? (i := 33) rfl)))) (mvT hZ (hw _ (List.mem_of_getElem? (i := 33) rfl))) (mvT hZ (hw _ (List.mem_of_getElem? (i := 32) rfl))) (by decide) (backOf (W := 0) (rm_wax2 l Z a0 hw [] b125 lo0 hi0 cb126 ck126 lo1 hi1 T126.heap n0 Z126 Ex_b125_125_c126 Fq_126 Aq_126 hp108 hp103) hZ (hw _ (List.mem_of_getElem? (i := 34) rfl)) (hw _ (List.mem_of_getElem? (i := 12) rfl)) (by decide) (by decide)) q127a q127c (g := (mkF m 183 #[.val (.long c0_), .second, .val (.long c1_), .second, .val (.long c2_), .second, .val (.long c3_), .second, .val (.long c4_), .second, .val (.int vk), .val (.long lo0), .second, .val (.long hi0), .second, .val (.long lo1), .second, .val (.long hi1), .second, .val (.long r113), .second, .val (.long (r113 + (1 : Int64))), .second, .val (.int (1 : Int32)), .val (.ref b122), .val (.ref b125), .unset] [(.long hi0), (.long lo0), (.ref b125)])) rfl (by rw [hml]; rfl) (Steps.refl _) (argsL := [(.long lo0), (.long hi0)]) (rest := []) (lenOf pd_4 rfl) rfl (by show 2 * 0 + _ ≤ _; exact Nat.le_of_eq rfl) (hb hby at_183) (fun _ _ => ⟨rfl, rfl, (by decide : 3 + 3 ≤ _), (by decide : 5 + 9 ≤ _)⟩)
    dsimp only [Pt.U, Pt.locs, Pt.cells, Pt.slots] at X127 l127 y127 z127 st127 hQ127
    subst l127 y127 z127
    obtain ⟨⟨r127, rfl, hr127⟩, N127q, K127⟩ := hQ127
    have N127 := Fr.app N126 N127q
    have Ex_b122_122_c127 := Ex_b122_122_c126.keep K127
    have Av_b122_124_c127 := Av_b122_124_c126.keep K127 nin0
    have Ex_b125_125_c127 := Ex_b125_125_c126.keep K127
    have Fq_126_c127 := Fq_126.keep K127 nin0
    have Aq_126_c127 := Aq_126.keep K127 nin0
    have Eq_126_c127 := Eq_126.keep K127
    have Z127 : n0 ≤ T127.heap.size := Nat.le_trans Z126 K127.1
    obtain ⟨cg127, cs127, Ez_127, ⟨cb127, ck127, dg127, ds127, Fq_127, Aq_127, Eq_127⟩⟩ := hr127
    have ne_b122_r127 : b122 ≠ r127 := Nat.ne_of_lt (Nat.lt_of_lt_of_le Ex_b122_122_c126.lt cs127)
    have ne_b125_r127 : b125 ≠ r127 := Nat.ne_of_lt (Nat.lt_of_lt_of_le Ex_b125_125_c126.lt cs127)
    have ne_cb126_r127 : cb126 ≠ r127 := Nat.ne_of_lt (Nat.lt_of_lt_of_le Aq_126.lt cs127)
    have ne_b122_cb127 : b122 ≠ cb127 := Nat.ne_of_lt (Nat.lt_of_lt_of_le Ex_b122_122_c126.lt ds127)
    have ne_b125_cb127 : b125 ≠ cb127 := Nat.ne_of_lt (Nat.lt_of_lt_of_le Ex_b125_125_c126.lt ds127)
    have ne_cb126_cb127 : cb126 ≠ cb127 := Nat.ne_of_lt (Nat.lt_of_lt_of_le Aq_126.lt ds127)
    obtain ⟨cq128, kq128, q128a, q128b, q128c⟩ := isOf hZ rfl Ex_b125_125_c127
    obtain ⟨_, _, ⟨T128, L128, k128, n128⟩, -, X128, ⟨Lc128, hQ128, l128, y128, z128⟩, st128⟩ := X127.virtualBack hx (y := (⟨"com/example/chronotriple/chronotriple/Box", "dimensions", "()I"⟩ : MethodName)) (z := (⟨"com/example/chronotriple/chronotriple/Box", "dimensions", "()I"⟩ : MethodName)) hown (mvT hZ (hw _ (List.mem_of_getElem? (i := 48) rfl))) (mvT hZ (hw _ (List.mem_of_getElem? (i := 49) rfl))) (notFace_of_selects (args := #[]) (mvT hZ (hw _ (List.mem_of_getElem? (i := 51) rfl)))) (mvT hZ (hw _ (List.mem_of_getElem? (i := 51) rfl))) (mvT hZ (hw _ (List.mem_of_getElem? (i := 50) rfl))) (by decide) (backOf (W := 0) (rm_dim l Z a0 hw [] b125 cb126 ck126 (2 : Int32) [lo1, hi1] T127.heap n0 Z127 Fq_126_c127 Aq_126_c127) hZ (hw _ (List.mem_of_getElem? (i := 52) rfl)) (hw _ (List.mem_of_getElem? (i := 12) rfl)) (by decide) (by decide)) q128a q128c (g := (mkF m 190 #[.val (.long c0_), .second, .val (.long c1_), .second, .val (.long c2_), .second, .val (.long c3_), .second, .val (.long c4_), .second, .val (.int vk), .val (.long lo0), .second, .val (.long hi0), .second, .val (.long lo1), .second, .val (.long hi1), .second, .val (.long r113), .second, .val (.long (r113 + (1 : Int64))), .second, .val (.int (1 : Int32)), .val (.ref b122), .val (.ref b125), .val (.ref r127)] [(.ref b125)])) rfl (by rw [hml]; rfl) (Steps.refl _) (argsL := []) (rest := []) (lenOf pd_5 rfl) rfl (by show 2 * 0 + _ ≤ _; exact Nat.le_of_eq rfl) (hb hby at_190) (fun _ _ => ⟨rfl, rfl, (by decide : 6 + 0 ≤ _), (by decide : 14 + 0 ≤ _)⟩)
    dsimp only [Pt.U, Pt.locs, Pt.cells, Pt.slots] at X128 l128 y128 z128 st128 hQ128
    subst l128 y128 z128
    obtain ⟨⟨r128, rfl, hr128⟩, N128q, e128⟩ := hQ128
    have N128 := Fr.app N127 N128q
    obtain rfl : (1 : Int32) = r128 := (hr128.trans (by decide)).symm
    obtain ⟨cq129, kq129, q129a, q129b, q129c⟩ := isOf hZ e128 Ez_127
    obtain ⟨_, _, ⟨T129, L129, k129, n129⟩, -, X129, ⟨Lc129, hQ129, l129, y129, z129⟩, st129⟩ := X128.virtualBack hx (y := (⟨"com/example/chronotriple/chronotriple/Box", "dimensions", "()I"⟩ : MethodName)) (z := (⟨"com/example/chronotriple/chronotriple/Box", "dimensions", "()I"⟩ : MethodName)) hown (mvT hZ (hw _ (List.mem_of_getElem? (i := 48) rfl))) (mvT hZ (hw _ (List.mem_of_getElem? (i := 49) rfl))) (notFace_of_selects (args := #[]) (mvT hZ (hw _ (List.mem_of_getElem? (i := 51) rfl)))) (mvT hZ (hw _ (List.mem_of_getElem? (i := 51) rfl))) (mvT hZ (hw _ (List.mem_of_getElem? (i := 50) rfl))) (by decide) (backOf (W := 0) (rm_dim l Z a0 hw [] r127 cb127 ck127 (4 : Int32) [lo1, hi1, lo0, hi0] T127.heap n0 Z127 Fq_127 Aq_127) hZ (hw _ (List.mem_of_getElem? (i := 52) rfl)) (hw _ (List.mem_of_getElem? (i := 12) rfl)) (by decide) (by decide)) q129a q129c (g := (mkF m 202 #[.val (.long c0_), .second, .val (.long c1_), .second, .val (.long c2_), .second, .val (.long c3_), .second, .val (.long c4_), .second, .val (.int vk), .val (.long lo0), .second, .val (.long hi0), .second, .val (.long lo1), .second, .val (.long hi1), .second, .val (.long r113), .second, .val (.long (r113 + (1 : Int64))), .second, .val (.int (1 : Int32)), .val (.ref b122), .val (.ref b125), .val (.ref r127)] [(.ref r127)])) rfl (by rw [hml]; rfl) (Steps.refl _) (argsL := []) (rest := []) (lenOf pd_5 rfl) rfl (by show 2 * 0 + _ ≤ _; exact Nat.le_of_eq rfl) (hb hby at_202) (fun _ _ => ⟨rfl, e128, (by decide : 6 + 0 ≤ _), (by decide : 14 + 0 ≤ _)⟩)
    dsimp only [Pt.U, Pt.locs, Pt.cells, Pt.slots] at X129 l129 y129 z129 st129 hQ129
    subst l129 y129 z129
    obtain ⟨⟨r129, rfl, hr129⟩, N129q, e129⟩ := hQ129
    have N129 := Fr.app N128 N129q
    obtain rfl : (2 : Int32) = r129 := (hr129.trans (by decide)).symm
    obtain ⟨cq130, kq130, q130a, q130b, q130c⟩ := isOf hZ e129 Ez_127
    obtain ⟨_, _, ⟨T130, L130, k130, n130⟩, -, X130, ⟨Lc130, hQ130, l130, y130, z130⟩, st130⟩ := X129.virtualBack hx (y := (⟨"com/example/chronotriple/chronotriple/Box", "from", "(I)J"⟩ : MethodName)) (z := (⟨"com/example/chronotriple/chronotriple/Box", "from", "(I)J"⟩ : MethodName)) hown (mvT hZ (hw _ (List.mem_of_getElem? (i := 53) rfl))) (mvT hZ (hw _ (List.mem_of_getElem? (i := 54) rfl))) (notFace_of_selects (args := #[]) (mvT hZ (hw _ (List.mem_of_getElem? (i := 56) rfl)))) (mvT hZ (hw _ (List.mem_of_getElem? (i := 56) rfl))) (mvT hZ (hw _ (List.mem_of_getElem? (i := 55) rfl))) (by decide) (backOf (W := 0) (rm_frm l Z a0 hw [] r127 (1 : Int32) cb127 ck127 (4 : Int32) [lo1, hi1, lo0, hi0] T127.heap n0 Z127 Fq_127 Aq_127 (by decide)) hZ (hw _ (List.mem_of_getElem? (i := 57) rfl)) (hw _ (List.mem_of_getElem? (i := 12) rfl)) (by decide) (by decide)) q130a q130c (g := (mkF m 218 #[.val (.long c0_), .second, .val (.long c1_), .second, .val (.long c2_), .second, .val (.long c3_), .second, .val (.long c4_), .second, .val (.int vk), .val (.long lo0), .second, .val (.long hi0), .second, .val (.long lo1), .second, .val (.long hi1), .second, .val (.long r113), .second, .val (.long (r113 + (1 : Int64))), .second, .val (.int (1 : Int32)), .val (.ref b122), .val (.ref b125), .val (.ref r127)] [(.int (1 : Int32)), (.ref r127)])) rfl (by rw [hml]; rfl) (Steps.refl _) (argsL := [(.int (1 : Int32))]) (rest := []) (lenOf pd_6 rfl) rfl (by show 2 * 0 + _ ≤ _; exact Nat.le_of_eq rfl) (hb hby at_218) (fun _ _ => ⟨rfl, e129, (by decide : 6 + 0 ≤ _), (by decide : 14 + 0 ≤ _)⟩)
    dsimp only [Pt.U, Pt.locs, Pt.cells, Pt.slots] at X130 l130 y130 z130 st130 hQ130
    subst l130 y130 z130
    obtain ⟨⟨r130, rfl, hr130⟩, N130q, e130⟩ := hQ130
    have N130 := Fr.app N129 N130q
    obtain rfl : lo0 = r130 := (hr130.trans rfl).symm
    obtain ⟨cq131, kq131, q131a, q131b, q131c⟩ := isOf hZ e130 Ez_127
    obtain ⟨_, _, ⟨T131, L131, k131, n131⟩, -, X131, ⟨Lc131, hQ131, l131, y131, z131⟩, st131⟩ := X130.virtualBack hx (y := (⟨"com/example/chronotriple/chronotriple/Box", "to", "(I)J"⟩ : MethodName)) (z := (⟨"com/example/chronotriple/chronotriple/Box", "to", "(I)J"⟩ : MethodName)) hown (mvT hZ (hw _ (List.mem_of_getElem? (i := 58) rfl))) (mvT hZ (hw _ (List.mem_of_getElem? (i := 59) rfl))) (notFace_of_selects (args := #[]) (mvT hZ (hw _ (List.mem_of_getElem? (i := 61) rfl)))) (mvT hZ (hw _ (List.mem_of_getElem? (i := 61) rfl))) (mvT hZ (hw _ (List.mem_of_getElem? (i := 60) rfl))) (by decide) (backOf (W := 0) (rm_to l Z a0 hw [] r127 (1 : Int32) cb127 ck127 (4 : Int32) [lo1, hi1, lo0, hi0] T127.heap n0 Z127 Fq_127 Aq_127 (by decide)) hZ (hw _ (List.mem_of_getElem? (i := 62) rfl)) (hw _ (List.mem_of_getElem? (i := 12) rfl)) (by decide) (by decide)) q131a q131c (g := (mkF m 231 #[.val (.long c0_), .second, .val (.long c1_), .second, .val (.long c2_), .second, .val (.long c3_), .second, .val (.long c4_), .second, .val (.int vk), .val (.long lo0), .second, .val (.long hi0), .second, .val (.long lo1), .second, .val (.long hi1), .second, .val (.long r113), .second, .val (.long (r113 + (1 : Int64))), .second, .val (.int (1 : Int32)), .val (.ref b122), .val (.ref b125), .val (.ref r127)] [(.int (1 : Int32)), (.ref r127)])) rfl (by rw [hml]; rfl) (Steps.refl _) (argsL := [(.int (1 : Int32))]) (rest := []) (lenOf pd_6 rfl) rfl (by show 2 * 0 + _ ≤ _; exact Nat.le_of_eq rfl) (hb hby at_231) (fun _ _ => ⟨rfl, e130, (by decide : 6 + 0 ≤ _), (by decide : 14 + 0 ≤ _)⟩)
    dsimp only [Pt.U, Pt.locs, Pt.cells, Pt.slots] at X131 l131 y131 z131 st131 hQ131
    subst l131 y131 z131
    obtain ⟨⟨r131, rfl, hr131⟩, N131q, e131⟩ := hQ131
    have N131 := Fr.app N130 N131q
    obtain rfl : hi0 = r131 := (hr131.trans rfl).symm
    obtain ⟨cq132, kq132, q132a, q132b, q132c⟩ := isOf hZ e131 Ez_127
    obtain ⟨_, _, ⟨T132, L132, k132, n132⟩, -, X132, ⟨Lc132, hQ132, l132, y132, z132⟩, st132⟩ := X131.virtualBack hx (y := (⟨"com/example/chronotriple/chronotriple/Box", "from", "(I)J"⟩ : MethodName)) (z := (⟨"com/example/chronotriple/chronotriple/Box", "from", "(I)J"⟩ : MethodName)) hown (mvT hZ (hw _ (List.mem_of_getElem? (i := 53) rfl))) (mvT hZ (hw _ (List.mem_of_getElem? (i := 54) rfl))) (notFace_of_selects (args := #[]) (mvT hZ (hw _ (List.mem_of_getElem? (i := 56) rfl)))) (mvT hZ (hw _ (List.mem_of_getElem? (i := 56) rfl))) (mvT hZ (hw _ (List.mem_of_getElem? (i := 55) rfl))) (by decide) (backOf (W := 0) (rm_frm l Z a0 hw [] r127 (0 : Int32) cb127 ck127 (4 : Int32) [lo1, hi1, lo0, hi0] T127.heap n0 Z127 Fq_127 Aq_127 (by decide)) hZ (hw _ (List.mem_of_getElem? (i := 57) rfl)) (hw _ (List.mem_of_getElem? (i := 12) rfl)) (by decide) (by decide)) q132a q132c (g := (mkF m 251 #[.val (.long c0_), .second, .val (.long c1_), .second, .val (.long c2_), .second, .val (.long c3_), .second, .val (.long c4_), .second, .val (.int vk), .val (.long lo0), .second, .val (.long hi0), .second, .val (.long lo1), .second, .val (.long hi1), .second, .val (.long r113), .second, .val (.long (r113 + (1 : Int64))), .second, .val (.int (1 : Int32)), .val (.ref b122), .val (.ref b125), .val (.ref r127)] [(.int (0 : Int32)), (.ref r127)])) rfl (by rw [hml]; rfl) (Steps.refl _) (argsL := [(.int (0 : Int32))]) (rest := []) (lenOf pd_6 rfl) rfl (by show 2 * 0 + _ ≤ _; exact Nat.le_of_eq rfl) (hb hby at_251) (fun _ _ => ⟨rfl, e131, (by decide : 6 + 0 ≤ _), (by decide : 14 + 0 ≤ _)⟩)
    dsimp only [Pt.U, Pt.locs, Pt.cells, Pt.slots] at X132 l132 y132 z132 st132 hQ132
    subst l132 y132 z132
    obtain ⟨⟨r132, rfl, hr132⟩, N132q, e132⟩ := hQ132
    have N132 := Fr.app N131 N132q
    obtain rfl : lo1 = r132 := (hr132.trans rfl).symm
    obtain ⟨cq133, kq133, q133a, q133b, q133c⟩ := isOf hZ e132 Ez_127
    obtain ⟨_, _, ⟨T133, L133, k133, n133⟩, -, X133, ⟨Lc133, hQ133, l133, y133, z133⟩, st133⟩ := X132.virtualBack hx (y := (⟨"com/example/chronotriple/chronotriple/Box", "to", "(I)J"⟩ : MethodName)) (z := (⟨"com/example/chronotriple/chronotriple/Box", "to", "(I)J"⟩ : MethodName)) hown (mvT hZ (hw _ (List.mem_of_getElem? (i := 58) rfl))) (mvT hZ (hw _ (List.mem_of_getElem? (i := 59) rfl))) (notFace_of_selects (args := #[]) (mvT hZ (hw _ (List.mem_of_getElem? (i := 61) rfl)))) (mvT hZ (hw _ (List.mem_of_getElem? (i := 61) rfl))) (mvT hZ (hw _ (List.mem_of_getElem? (i := 60) rfl))) (by decide) (backOf (W := 0) (rm_to l Z a0 hw [] r127 (0 : Int32) cb127 ck127 (4 : Int32) [lo1, hi1, lo0, hi0] T127.heap n0 Z127 Fq_127 Aq_127 (by decide)) hZ (hw _ (List.mem_of_getElem? (i := 62) rfl)) (hw _ (List.mem_of_getElem? (i := 12) rfl)) (by decide) (by decide)) q133a q133c (g := (mkF m 263 #[.val (.long c0_), .second, .val (.long c1_), .second, .val (.long c2_), .second, .val (.long c3_), .second, .val (.long c4_), .second, .val (.int vk), .val (.long lo0), .second, .val (.long hi0), .second, .val (.long lo1), .second, .val (.long hi1), .second, .val (.long r113), .second, .val (.long (r113 + (1 : Int64))), .second, .val (.int (1 : Int32)), .val (.ref b122), .val (.ref b125), .val (.ref r127)] [(.int (0 : Int32)), (.ref r127)])) rfl (by rw [hml]; rfl) (Steps.refl _) (argsL := [(.int (0 : Int32))]) (rest := []) (lenOf pd_6 rfl) rfl (by show 2 * 0 + _ ≤ _; exact Nat.le_of_eq rfl) (hb hby at_263) (fun _ _ => ⟨rfl, e132, (by decide : 6 + 0 ≤ _), (by decide : 14 + 0 ≤ _)⟩)
    dsimp only [Pt.U, Pt.locs, Pt.cells, Pt.slots] at X133 l133 y133 z133 st133 hQ133
    subst l133 y133 z133
    obtain ⟨⟨r133, rfl, hr133⟩, N133q, e133⟩ := hQ133
    have N133 := Fr.app N132 N133q
    obtain rfl : hi1 = r133 := (hr133.trans rfl).symm
    obtain ⟨fs, hr, hrun, hended, hW, hsame⟩ := X133.leave (v := some (.int (1 : Int32))) (fun h => by rw [Bd.returns] at h; cases h)
    refine ⟨_, _, pre0 _ ?_, hrun, hended, _, _, rfl, ?_, ⟨_, rfl⟩, hW, hsame.mono (by decide) (by decide)⟩
    · show Steps p.tables e below (s₁.setTop (mkF m 0 #[.val (.long c0_), .second, .val (.long c1_), .second, .val (.long c2_), .second, .val (.long c3_), .second, .val (.long c4_), .second, .val (.int vk), .unset, .unset, .unset, .unset, .unset, .unset, .unset, .unset, .unset, .unset, .unset, .unset, .unset, .unset, .unset, .unset] [])) _
      refine st103 _ ?_
      show Steps p.tables e below (T103.setTop (mkF m 37 #[.val (.long c0_), .second, .val (.long c1_), .second, .val (.long c2_), .second, .val (.long c3_), .second, .val (.long c4_), .second, .val (.int vk), .val (.long lo0), .second, .val (.long hi0), .second, .unset, .unset, .unset, .unset, .unset, .unset, .unset, .unset, .unset, .unset, .unset, .unset] [])) _
      refine st108 _ ?_
      show Steps p.tables e below (T108.setTop (mkF m 79 #[.val (.long c0_), .second, .val (.long c1_), .second, .val (.long c2_), .second, .val (.long c3_), .second, .val (.long c4_), .second, .val (.int vk), .val (.long lo0), .second, .val (.long hi0), .second, .val (.long lo1), .second, .val (.long hi1), .second, .unset, .unset, .unset, .unset, .unset, .unset, .unset, .unset] [])) _
      refine XS.lload X108.here hx rfl (hb hby at_79) rfl ?_
      show Steps p.tables e below (T108.setTop (mkF m 81 #[.val (.long c0_), .second, .val (.long c1_), .second, .val (.long c2_), .second, .val (.long c3_), .second, .val (.long c4_), .second, .val (.int vk), .val (.long lo0), .second, .val (.long hi0), .second, .val (.long lo1), .second, .val (.long hi1), .second, .unset, .unset, .unset, .unset, .unset, .unset, .unset, .unset] [(.long c4_)])) _
      refine X108.ldc2Long hx hown (mvT hZ (hw _ (List.mem_of_getElem? (i := 7) rfl))) (g := (mkF m 81 #[.val (.long c0_), .second, .val (.long c1_), .second, .val (.long c2_), .second, .val (.long c3_), .second, .val (.long c4_), .second, .val (.int vk), .val (.long lo0), .second, .val (.long hi0), .second, .val (.long lo1), .second, .val (.long hi1), .second, .unset, .unset, .unset, .unset, .unset, .unset, .unset, .unset] [(.long c4_)])) rfl (hb hby at_81) _ ?_
      show Steps p.tables e below (T108.setTop (mkF m 84 #[.val (.long c0_), .second, .val (.long c1_), .second, .val (.long c2_), .second, .val (.long c3_), .second, .val (.long c4_), .second, .val (.int vk), .val (.long lo0), .second, .val (.long hi0), .second, .val (.long lo1), .second, .val (.long hi1), .second, .unset, .unset, .unset, .unset, .unset, .unset, .unset, .unset] [(.long (9223372036854775806 : Int64)), (.long c4_)])) _
      refine st113 _ ?_
      show Steps p.tables e below (T113.setTop (mkF m 87 #[.val (.long c0_), .second, .val (.long c1_), .second, .val (.long c2_), .second, .val (.long c3_), .second, .val (.long c4_), .second, .val (.int vk), .val (.long lo0), .second, .val (.long hi0), .second, .val (.long lo1), .second, .val (.long hi1), .second, .unset, .unset, .unset, .unset, .unset, .unset, .unset, .unset] [(.long r113)])) _
      refine XS.lstore X113.here hx rfl (hb hby at_87) rfl (l' := #[.val (.long c0_), .second, .val (.long c1_), .second, .val (.long c2_), .second, .val (.long c3_), .second, .val (.long c4_), .second, .val (.int vk), .val (.long lo0), .second, .val (.long hi0), .second, .val (.long lo1), .second, .val (.long hi1), .second, .val (.long r113), .second, .unset, .unset, .unset, .unset, .unset, .unset]) rfl ?_
      show Steps p.tables e below (T113.setTop (mkF m 89 #[.val (.long c0_), .second, .val (.long c1_), .second, .val (.long c2_), .second, .val (.long c3_), .second, .val (.long c4_), .second, .val (.int vk), .val (.long lo0), .second, .val (.long hi0), .second, .val (.long lo1), .second, .val (.long hi1), .second, .val (.long r113), .second, .unset, .unset, .unset, .unset, .unset, .unset] [])) _
      refine XS.lload X113.here hx rfl (hb hby at_89) rfl ?_
      show Steps p.tables e below (T113.setTop (mkF m 91 #[.val (.long c0_), .second, .val (.long c1_), .second, .val (.long c2_), .second, .val (.long c3_), .second, .val (.long c4_), .second, .val (.int vk), .val (.long lo0), .second, .val (.long hi0), .second, .val (.long lo1), .second, .val (.long hi1), .second, .val (.long r113), .second, .unset, .unset, .unset, .unset, .unset, .unset] [(.long r113)])) _
      refine XS.lconst X113.here hx rfl (hb hby at_91) ?_
      show Steps p.tables e below (T113.setTop (mkF m 92 #[.val (.long c0_), .second, .val (.long c1_), .second, .val (.long c2_), .second, .val (.long c3_), .second, .val (.long c4_), .second, .val (.int vk), .val (.long lo0), .second, .val (.long hi0), .second, .val (.long lo1), .second, .val (.long hi1), .second, .val (.long r113), .second, .unset, .unset, .unset, .unset, .unset, .unset] [(.long (1 : Int64)), (.long r113)])) _
      refine XS.ladd X113.here hx rfl (hb hby at_92) rfl ?_
      show Steps p.tables e below (T113.setTop (mkF m 93 #[.val (.long c0_), .second, .val (.long c1_), .second, .val (.long c2_), .second, .val (.long c3_), .second, .val (.long c4_), .second, .val (.int vk), .val (.long lo0), .second, .val (.long hi0), .second, .val (.long lo1), .second, .val (.long hi1), .second, .val (.long r113), .second, .unset, .unset, .unset, .unset, .unset, .unset] [(.long (r113 + (1 : Int64)))])) _
      refine XS.lstore X113.here hx rfl (hb hby at_93) rfl (l' := #[.val (.long c0_), .second, .val (.long c1_), .second, .val (.long c2_), .second, .val (.long c3_), .second, .val (.long c4_), .second, .val (.int vk), .val (.long lo0), .second, .val (.long hi0), .second, .val (.long lo1), .second, .val (.long hi1), .second, .val (.long r113), .second, .val (.long (r113 + (1 : Int64))), .second, .unset, .unset, .unset, .unset]) rfl ?_
      show Steps p.tables e below (T113.setTop (mkF m 95 #[.val (.long c0_), .second, .val (.long c1_), .second, .val (.long c2_), .second, .val (.long c3_), .second, .val (.long c4_), .second, .val (.int vk), .val (.long lo0), .second, .val (.long hi0), .second, .val (.long lo1), .second, .val (.long hi1), .second, .val (.long r113), .second, .val (.long (r113 + (1 : Int64))), .second, .unset, .unset, .unset, .unset] [])) _
      refine XS.iload X113.here hx rfl (hb hby at_95) rfl ?_
      show Steps p.tables e below (T113.setTop (mkF m 97 #[.val (.long c0_), .second, .val (.long c1_), .second, .val (.long c2_), .second, .val (.long c3_), .second, .val (.long c4_), .second, .val (.int vk), .val (.long lo0), .second, .val (.long hi0), .second, .val (.long lo1), .second, .val (.long hi1), .second, .val (.long r113), .second, .val (.long (r113 + (1 : Int64))), .second, .unset, .unset, .unset, .unset] [(.int vk)])) _
      refine X113.ldcInt hx hown (mvT hZ (hw _ (List.mem_of_getElem? (i := 8) rfl))) (g := (mkF m 97 #[.val (.long c0_), .second, .val (.long c1_), .second, .val (.long c2_), .second, .val (.long c3_), .second, .val (.long c4_), .second, .val (.int vk), .val (.long lo0), .second, .val (.long hi0), .second, .val (.long lo1), .second, .val (.long hi1), .second, .val (.long r113), .second, .val (.long (r113 + (1 : Int64))), .second, .unset, .unset, .unset, .unset] [(.int vk)])) rfl (hb hby at_97) _ ?_
      show Steps p.tables e below (T113.setTop (mkF m 99 #[.val (.long c0_), .second, .val (.long c1_), .second, .val (.long c2_), .second, .val (.long c3_), .second, .val (.long c4_), .second, .val (.int vk), .val (.long lo0), .second, .val (.long hi0), .second, .val (.long lo1), .second, .val (.long hi1), .second, .val (.long r113), .second, .val (.long (r113 + (1 : Int64))), .second, .unset, .unset, .unset, .unset] [(.int (2147483647 : Int32)), (.int vk)])) _
      refine XS.iand X113.here hx rfl (hb hby at_99) rfl ?_
      show Steps p.tables e below (T113.setTop (mkF m 100 #[.val (.long c0_), .second, .val (.long c1_), .second, .val (.long c2_), .second, .val (.long c3_), .second, .val (.long c4_), .second, .val (.int vk), .val (.long lo0), .second, .val (.long hi0), .second, .val (.long lo1), .second, .val (.long hi1), .second, .val (.long r113), .second, .val (.long (r113 + (1 : Int64))), .second, .unset, .unset, .unset, .unset] [(.int (vk &&& (2147483647 : Int32)))])) _
      refine XS.iconst X113.here hx rfl (hb hby at_100) ?_
      show Steps p.tables e below (T113.setTop (mkF m 101 #[.val (.long c0_), .second, .val (.long c1_), .second, .val (.long c2_), .second, .val (.long c3_), .second, .val (.long c4_), .second, .val (.int vk), .val (.long lo0), .second, .val (.long hi0), .second, .val (.long lo1), .second, .val (.long hi1), .second, .val (.long r113), .second, .val (.long (r113 + (1 : Int64))), .second, .unset, .unset, .unset, .unset] [(.int (3 : Int32)), (.int (vk &&& (2147483647 : Int32)))])) _
      refine iremM X113 hx rfl (hb hby at_101) rfl (by decide) ?_
      show Steps p.tables e below (T113.setTop (mkF m 102 #[.val (.long c0_), .second, .val (.long c1_), .second, .val (.long c2_), .second, .val (.long c3_), .second, .val (.long c4_), .second, .val (.int vk), .val (.long lo0), .second, .val (.long hi0), .second, .val (.long lo1), .second, .val (.long hi1), .second, .val (.long r113), .second, .val (.long (r113 + (1 : Int64))), .second, .unset, .unset, .unset, .unset] [(.int ((vk &&& (2147483647 : Int32)) % (3 : Int32)))])) _
      rw [hd]
      show Steps p.tables e below (T113.setTop (mkF m 102 #[.val (.long c0_), .second, .val (.long c1_), .second, .val (.long c2_), .second, .val (.long c3_), .second, .val (.long c4_), .second, .val (.int vk), .val (.long lo0), .second, .val (.long hi0), .second, .val (.long lo1), .second, .val (.long hi1), .second, .val (.long r113), .second, .val (.long (r113 + (1 : Int64))), .second, .unset, .unset, .unset, .unset] [(.int (1 : Int32))])) _
      refine XS.istore X113.here hx rfl (hb hby at_102) rfl (l' := #[.val (.long c0_), .second, .val (.long c1_), .second, .val (.long c2_), .second, .val (.long c3_), .second, .val (.long c4_), .second, .val (.int vk), .val (.long lo0), .second, .val (.long hi0), .second, .val (.long lo1), .second, .val (.long hi1), .second, .val (.long r113), .second, .val (.long (r113 + (1 : Int64))), .second, .val (.int (1 : Int32)), .unset, .unset, .unset]) rfl ?_
      show Steps p.tables e below (T113.setTop (mkF m 104 #[.val (.long c0_), .second, .val (.long c1_), .second, .val (.long c2_), .second, .val (.long c3_), .second, .val (.long c4_), .second, .val (.int vk), .val (.long lo0), .second, .val (.long hi0), .second, .val (.long lo1), .second, .val (.long hi1), .second, .val (.long r113), .second, .val (.long (r113 + (1 : Int64))), .second, .val (.int (1 : Int32)), .unset, .unset, .unset] [])) _
      refine XS.iload X113.here hx rfl (hb hby at_104) rfl ?_
      show Steps p.tables e below (T113.setTop (mkF m 106 #[.val (.long c0_), .second, .val (.long c1_), .second, .val (.long c2_), .second, .val (.long c3_), .second, .val (.long c4_), .second, .val (.int vk), .val (.long lo0), .second, .val (.long hi0), .second, .val (.long lo1), .second, .val (.long hi1), .second, .val (.long r113), .second, .val (.long (r113 + (1 : Int64))), .second, .val (.int (1 : Int32)), .unset, .unset, .unset] [(.int (1 : Int32))])) _
      refine XS.ifYes X113.here hx rfl (pc0 := 106) (pc' := 117) rfl (hb hby at_106) rfl ((if0 _ _).trans (feq (by decide : ¬ ((1 : Int32) = (0 : Int32)))).2) (by decide) (by decide) ?_
      show Steps p.tables e below (T113.setTop (mkF m 117 #[.val (.long c0_), .second, .val (.long c1_), .second, .val (.long c2_), .second, .val (.long c3_), .second, .val (.long c4_), .second, .val (.int vk), .val (.long lo0), .second, .val (.long hi0), .second, .val (.long lo1), .second, .val (.long hi1), .second, .val (.long r113), .second, .val (.long (r113 + (1 : Int64))), .second, .val (.int (1 : Int32)), .unset, .unset, .unset] [])) _
      refine XS.iload X113.here hx rfl (hb hby at_117) rfl ?_
      show Steps p.tables e below (T113.setTop (mkF m 119 #[.val (.long c0_), .second, .val (.long c1_), .second, .val (.long c2_), .second, .val (.long c3_), .second, .val (.long c4_), .second, .val (.int vk), .val (.long lo0), .second, .val (.long hi0), .second, .val (.long lo1), .second, .val (.long hi1), .second, .val (.long r113), .second, .val (.long (r113 + (1 : Int64))), .second, .val (.int (1 : Int32)), .unset, .unset, .unset] [(.int (1 : Int32))])) _
      refine XS.iconst X113.here hx rfl (hb hby at_119) ?_
      show Steps p.tables e below (T113.setTop (mkF m 120 #[.val (.long c0_), .second, .val (.long c1_), .second, .val (.long c2_), .second, .val (.long c3_), .second, .val (.long c4_), .second, .val (.int vk), .val (.long lo0), .second, .val (.long hi0), .second, .val (.long lo1), .second, .val (.long hi1), .second, .val (.long r113), .second, .val (.long (r113 + (1 : Int64))), .second, .val (.int (1 : Int32)), .unset, .unset, .unset] [(.int (1 : Int32)), (.int (1 : Int32))])) _
      refine XS.icmpNo X113.here hx rfl (hb hby at_120) rfl (teq (by decide : (1 : Int32) = (1 : Int32))).2 ?_
      show Steps p.tables e below (T113.setTop (mkF m 123 #[.val (.long c0_), .second, .val (.long c1_), .second, .val (.long c2_), .second, .val (.long c3_), .second, .val (.long c4_), .second, .val (.int vk), .val (.long lo0), .second, .val (.long hi0), .second, .val (.long lo1), .second, .val (.long hi1), .second, .val (.long r113), .second, .val (.long (r113 + (1 : Int64))), .second, .val (.int (1 : Int32)), .unset, .unset, .unset] [])) _
      refine XS.iconst X113.here hx rfl (hb hby at_123) ?_
      show Steps p.tables e below (T113.setTop (mkF m 124 #[.val (.long c0_), .second, .val (.long c1_), .second, .val (.long c2_), .second, .val (.long c3_), .second, .val (.long c4_), .second, .val (.int vk), .val (.long lo0), .second, .val (.long hi0), .second, .val (.long lo1), .second, .val (.long hi1), .second, .val (.long r113), .second, .val (.long (r113 + (1 : Int64))), .second, .val (.int (1 : Int32)), .unset, .unset, .unset] [(.int (2 : Int32))])) _
      refine st122 _ ?_
      show Steps p.tables e below (T122.setTop (mkF m 126 #[.val (.long c0_), .second, .val (.long c1_), .second, .val (.long c2_), .second, .val (.long c3_), .second, .val (.long c4_), .second, .val (.int vk), .val (.long lo0), .second, .val (.long hi0), .second, .val (.long lo1), .second, .val (.long hi1), .second, .val (.long r113), .second, .val (.long (r113 + (1 : Int64))), .second, .val (.int (1 : Int32)), .unset, .unset, .unset] [(.ref b122)])) _
      refine XS.dup X122.here hx rfl (hb hby at_126) rfl rfl ?_
      show Steps p.tables e below (T122.setTop (mkF m 127 #[.val (.long c0_), .second, .val (.long c1_), .second, .val (.long c2_), .second, .val (.long c3_), .second, .val (.long c4_), .second, .val (.int vk), .val (.long lo0), .second, .val (.long hi0), .second, .val (.long lo1), .second, .val (.long hi1), .second, .val (.long r113), .second, .val (.long (r113 + (1 : Int64))), .second, .val (.int (1 : Int32)), .unset, .unset, .unset] [(.ref b122), (.ref b122)])) _
      refine XS.iconst X122.here hx rfl (hb hby at_127) ?_
      show Steps p.tables e below (T122.setTop (mkF m 128 #[.val (.long c0_), .second, .val (.long c1_), .second, .val (.long c2_), .second, .val (.long c3_), .second, .val (.long c4_), .second, .val (.int vk), .val (.long lo0), .second, .val (.long hi0), .second, .val (.long lo1), .second, .val (.long hi1), .second, .val (.long r113), .second, .val (.long (r113 + (1 : Int64))), .second, .val (.int (1 : Int32)), .unset, .unset, .unset] [(.int (0 : Int32)), (.ref b122), (.ref b122)])) _
      refine XS.lload X122.here hx rfl (hb hby at_128) rfl ?_
      show Steps p.tables e below (T122.setTop (mkF m 130 #[.val (.long c0_), .second, .val (.long c1_), .second, .val (.long c2_), .second, .val (.long c3_), .second, .val (.long c4_), .second, .val (.int vk), .val (.long lo0), .second, .val (.long hi0), .second, .val (.long lo1), .second, .val (.long hi1), .second, .val (.long r113), .second, .val (.long (r113 + (1 : Int64))), .second, .val (.int (1 : Int32)), .unset, .unset, .unset] [(.long lo1), (.int (0 : Int32)), (.ref b122), (.ref b122)])) _
      refine st123 _ ?_
      show Steps p.tables e below (T123.setTop (mkF m 131 #[.val (.long c0_), .second, .val (.long c1_), .second, .val (.long c2_), .second, .val (.long c3_), .second, .val (.long c4_), .second, .val (.int vk), .val (.long lo0), .second, .val (.long hi0), .second, .val (.long lo1), .second, .val (.long hi1), .second, .val (.long r113), .second, .val (.long (r113 + (1 : Int64))), .second, .val (.int (1 : Int32)), .unset, .unset, .unset] [(.ref b122)])) _
      refine XS.dup X123.here hx rfl (hb hby at_131) rfl rfl ?_
      show Steps p.tables e below (T123.setTop (mkF m 132 #[.val (.long c0_), .second, .val (.long c1_), .second, .val (.long c2_), .second, .val (.long c3_), .second, .val (.long c4_), .second, .val (.int vk), .val (.long lo0), .second, .val (.long hi0), .second, .val (.long lo1), .second, .val (.long hi1), .second, .val (.long r113), .second, .val (.long (r113 + (1 : Int64))), .second, .val (.int (1 : Int32)), .unset, .unset, .unset] [(.ref b122), (.ref b122)])) _
      refine XS.iconst X123.here hx rfl (hb hby at_132) ?_
      show Steps p.tables e below (T123.setTop (mkF m 133 #[.val (.long c0_), .second, .val (.long c1_), .second, .val (.long c2_), .second, .val (.long c3_), .second, .val (.long c4_), .second, .val (.int vk), .val (.long lo0), .second, .val (.long hi0), .second, .val (.long lo1), .second, .val (.long hi1), .second, .val (.long r113), .second, .val (.long (r113 + (1 : Int64))), .second, .val (.int (1 : Int32)), .unset, .unset, .unset] [(.int (1 : Int32)), (.ref b122), (.ref b122)])) _
      refine XS.lload X123.here hx rfl (hb hby at_133) rfl ?_
      show Steps p.tables e below (T123.setTop (mkF m 135 #[.val (.long c0_), .second, .val (.long c1_), .second, .val (.long c2_), .second, .val (.long c3_), .second, .val (.long c4_), .second, .val (.int vk), .val (.long lo0), .second, .val (.long hi0), .second, .val (.long lo1), .second, .val (.long hi1), .second, .val (.long r113), .second, .val (.long (r113 + (1 : Int64))), .second, .val (.int (1 : Int32)), .unset, .unset, .unset] [(.long hi1), (.int (1 : Int32)), (.ref b122), (.ref b122)])) _
      refine st124 _ ?_
      show Steps p.tables e below (T124.setTop (mkF m 136 #[.val (.long c0_), .second, .val (.long c1_), .second, .val (.long c2_), .second, .val (.long c3_), .second, .val (.long c4_), .second, .val (.int vk), .val (.long lo0), .second, .val (.long hi0), .second, .val (.long lo1), .second, .val (.long hi1), .second, .val (.long r113), .second, .val (.long (r113 + (1 : Int64))), .second, .val (.int (1 : Int32)), .unset, .unset, .unset] [(.ref b122)])) _
      refine XS.astore X124.here hx rfl (hb hby at_136) rfl rfl (l' := #[.val (.long c0_), .second, .val (.long c1_), .second, .val (.long c2_), .second, .val (.long c3_), .second, .val (.long c4_), .second, .val (.int vk), .val (.long lo0), .second, .val (.long hi0), .second, .val (.long lo1), .second, .val (.long hi1), .second, .val (.long r113), .second, .val (.long (r113 + (1 : Int64))), .second, .val (.int (1 : Int32)), .val (.ref b122), .unset, .unset]) rfl ?_
      show Steps p.tables e below (T124.setTop (mkF m 138 #[.val (.long c0_), .second, .val (.long c1_), .second, .val (.long c2_), .second, .val (.long c3_), .second, .val (.long c4_), .second, .val (.int vk), .val (.long lo0), .second, .val (.long hi0), .second, .val (.long lo1), .second, .val (.long hi1), .second, .val (.long r113), .second, .val (.long (r113 + (1 : Int64))), .second, .val (.int (1 : Int32)), .val (.ref b122), .unset, .unset] [])) _
      refine XS.goto X124.here hx rfl (pc0 := 138) (pc' := 166) rfl (hb hby at_138) (by decide) (by decide) ?_
      show Steps p.tables e below (T124.setTop (mkF m 166 #[.val (.long c0_), .second, .val (.long c1_), .second, .val (.long c2_), .second, .val (.long c3_), .second, .val (.long c4_), .second, .val (.int vk), .val (.long lo0), .second, .val (.long hi0), .second, .val (.long lo1), .second, .val (.long hi1), .second, .val (.long r113), .second, .val (.long (r113 + (1 : Int64))), .second, .val (.int (1 : Int32)), .val (.ref b122), .unset, .unset] [])) _
      refine st125 _ ?_
      show Steps p.tables e below (T125.setTop (mkF m 169 #[.val (.long c0_), .second, .val (.long c1_), .second, .val (.long c2_), .second, .val (.long c3_), .second, .val (.long c4_), .second, .val (.int vk), .val (.long lo0), .second, .val (.long hi0), .second, .val (.long lo1), .second, .val (.long hi1), .second, .val (.long r113), .second, .val (.long (r113 + (1 : Int64))), .second, .val (.int (1 : Int32)), .val (.ref b122), .unset, .unset] [(.ref b125)])) _
      refine XS.dup X125.here hx rfl (hb hby at_169) rfl rfl ?_
      show Steps p.tables e below (T125.setTop (mkF m 170 #[.val (.long c0_), .second, .val (.long c1_), .second, .val (.long c2_), .second, .val (.long c3_), .second, .val (.long c4_), .second, .val (.int vk), .val (.long lo0), .second, .val (.long hi0), .second, .val (.long lo1), .second, .val (.long hi1), .second, .val (.long r113), .second, .val (.long (r113 + (1 : Int64))), .second, .val (.int (1 : Int32)), .val (.ref b122), .unset, .unset] [(.ref b125), (.ref b125)])) _
      refine XS.aload X125.here hx rfl (hb hby at_170) rfl rfl ?_
      show Steps p.tables e below (T125.setTop (mkF m 172 #[.val (.long c0_), .second, .val (.long c1_), .second, .val (.long c2_), .second, .val (.long c3_), .second, .val (.long c4_), .second, .val (.int vk), .val (.long lo0), .second, .val (.long hi0), .second, .val (.long lo1), .second, .val (.long hi1), .second, .val (.long r113), .second, .val (.long (r113 + (1 : Int64))), .second, .val (.int (1 : Int32)), .val (.ref b122), .unset, .unset] [(.ref b122), (.ref b125), (.ref b125)])) _
      refine st126.trans ?_
      show Steps p.tables e below (T126.setTop (mkF m 175 #[.val (.long c0_), .second, .val (.long c1_), .second, .val (.long c2_), .second, .val (.long c3_), .second, .val (.long c4_), .second, .val (.int vk), .val (.long lo0), .second, .val (.long hi0), .second, .val (.long lo1), .second, .val (.long hi1), .second, .val (.long r113), .second, .val (.long (r113 + (1 : Int64))), .second, .val (.int (1 : Int32)), .val (.ref b122), .unset, .unset] [(.ref b125)])) _
      refine XS.astore X126.here hx rfl (hb hby at_175) rfl rfl (l' := #[.val (.long c0_), .second, .val (.long c1_), .second, .val (.long c2_), .second, .val (.long c3_), .second, .val (.long c4_), .second, .val (.int vk), .val (.long lo0), .second, .val (.long hi0), .second, .val (.long lo1), .second, .val (.long hi1), .second, .val (.long r113), .second, .val (.long (r113 + (1 : Int64))), .second, .val (.int (1 : Int32)), .val (.ref b122), .val (.ref b125), .unset]) rfl ?_
      show Steps p.tables e below (T126.setTop (mkF m 177 #[.val (.long c0_), .second, .val (.long c1_), .second, .val (.long c2_), .second, .val (.long c3_), .second, .val (.long c4_), .second, .val (.int vk), .val (.long lo0), .second, .val (.long hi0), .second, .val (.long lo1), .second, .val (.long hi1), .second, .val (.long r113), .second, .val (.long (r113 + (1 : Int64))), .second, .val (.int (1 : Int32)), .val (.ref b122), .val (.ref b125), .unset] [])) _
      refine XS.aload X126.here hx rfl (hb hby at_177) rfl rfl ?_
      show Steps p.tables e below (T126.setTop (mkF m 179 #[.val (.long c0_), .second, .val (.long c1_), .second, .val (.long c2_), .second, .val (.long c3_), .second, .val (.long c4_), .second, .val (.int vk), .val (.long lo0), .second, .val (.long hi0), .second, .val (.long lo1), .second, .val (.long hi1), .second, .val (.long r113), .second, .val (.long (r113 + (1 : Int64))), .second, .val (.int (1 : Int32)), .val (.ref b122), .val (.ref b125), .unset] [(.ref b125)])) _
      refine XS.lload X126.here hx rfl (hb hby at_179) rfl ?_
      show Steps p.tables e below (T126.setTop (mkF m 181 #[.val (.long c0_), .second, .val (.long c1_), .second, .val (.long c2_), .second, .val (.long c3_), .second, .val (.long c4_), .second, .val (.int vk), .val (.long lo0), .second, .val (.long hi0), .second, .val (.long lo1), .second, .val (.long hi1), .second, .val (.long r113), .second, .val (.long (r113 + (1 : Int64))), .second, .val (.int (1 : Int32)), .val (.ref b122), .val (.ref b125), .unset] [(.long lo0), (.ref b125)])) _
      refine XS.lload X126.here hx rfl (hb hby at_181) rfl ?_
      show Steps p.tables e below (T126.setTop (mkF m 183 #[.val (.long c0_), .second, .val (.long c1_), .second, .val (.long c2_), .second, .val (.long c3_), .second, .val (.long c4_), .second, .val (.int vk), .val (.long lo0), .second, .val (.long hi0), .second, .val (.long lo1), .second, .val (.long hi1), .second, .val (.long r113), .second, .val (.long (r113 + (1 : Int64))), .second, .val (.int (1 : Int32)), .val (.ref b122), .val (.ref b125), .unset] [(.long hi0), (.long lo0), (.ref b125)])) _
      refine st127.trans ?_
      show Steps p.tables e below (T127.setTop (mkF m 186 #[.val (.long c0_), .second, .val (.long c1_), .second, .val (.long c2_), .second, .val (.long c3_), .second, .val (.long c4_), .second, .val (.int vk), .val (.long lo0), .second, .val (.long hi0), .second, .val (.long lo1), .second, .val (.long hi1), .second, .val (.long r113), .second, .val (.long (r113 + (1 : Int64))), .second, .val (.int (1 : Int32)), .val (.ref b122), .val (.ref b125), .unset] [(.ref r127)])) _
      refine XS.astore X127.here hx rfl (hb hby at_186) rfl rfl (l' := #[.val (.long c0_), .second, .val (.long c1_), .second, .val (.long c2_), .second, .val (.long c3_), .second, .val (.long c4_), .second, .val (.int vk), .val (.long lo0), .second, .val (.long hi0), .second, .val (.long lo1), .second, .val (.long hi1), .second, .val (.long r113), .second, .val (.long (r113 + (1 : Int64))), .second, .val (.int (1 : Int32)), .val (.ref b122), .val (.ref b125), .val (.ref r127)]) rfl ?_
      show Steps p.tables e below (T127.setTop (mkF m 188 #[.val (.long c0_), .second, .val (.long c1_), .second, .val (.long c2_), .second, .val (.long c3_), .second, .val (.long c4_), .second, .val (.int vk), .val (.long lo0), .second, .val (.long hi0), .second, .val (.long lo1), .second, .val (.long hi1), .second, .val (.long r113), .second, .val (.long (r113 + (1 : Int64))), .second, .val (.int (1 : Int32)), .val (.ref b122), .val (.ref b125), .val (.ref r127)] [])) _
      refine XS.aload X127.here hx rfl (hb hby at_188) rfl rfl ?_
      show Steps p.tables e below (T127.setTop (mkF m 190 #[.val (.long c0_), .second, .val (.long c1_), .second, .val (.long c2_), .second, .val (.long c3_), .second, .val (.long c4_), .second, .val (.int vk), .val (.long lo0), .second, .val (.long hi0), .second, .val (.long lo1), .second, .val (.long hi1), .second, .val (.long r113), .second, .val (.long (r113 + (1 : Int64))), .second, .val (.int (1 : Int32)), .val (.ref b122), .val (.ref b125), .val (.ref r127)] [(.ref b125)])) _
      refine st128.trans ?_
      show Steps p.tables e below (T128.setTop (mkF m 193 #[.val (.long c0_), .second, .val (.long c1_), .second, .val (.long c2_), .second, .val (.long c3_), .second, .val (.long c4_), .second, .val (.int vk), .val (.long lo0), .second, .val (.long hi0), .second, .val (.long lo1), .second, .val (.long hi1), .second, .val (.long r113), .second, .val (.long (r113 + (1 : Int64))), .second, .val (.int (1 : Int32)), .val (.ref b122), .val (.ref b125), .val (.ref r127)] [(.int (1 : Int32))])) _
      refine XS.iload X128.here hx rfl (hb hby at_193) rfl ?_
      show Steps p.tables e below (T128.setTop (mkF m 195 #[.val (.long c0_), .second, .val (.long c1_), .second, .val (.long c2_), .second, .val (.long c3_), .second, .val (.long c4_), .second, .val (.int vk), .val (.long lo0), .second, .val (.long hi0), .second, .val (.long lo1), .second, .val (.long hi1), .second, .val (.long r113), .second, .val (.long (r113 + (1 : Int64))), .second, .val (.int (1 : Int32)), .val (.ref b122), .val (.ref b125), .val (.ref r127)] [(.int (1 : Int32)), (.int (1 : Int32))])) _
      refine XS.icmpYes X128.here hx rfl (pc0 := 195) (pc' := 200) rfl (hb hby at_195) rfl (teq (by decide : (1 : Int32) = (1 : Int32))).1 (by decide) (by decide) ?_
      show Steps p.tables e below (T128.setTop (mkF m 200 #[.val (.long c0_), .second, .val (.long c1_), .second, .val (.long c2_), .second, .val (.long c3_), .second, .val (.long c4_), .second, .val (.int vk), .val (.long lo0), .second, .val (.long hi0), .second, .val (.long lo1), .second, .val (.long hi1), .second, .val (.long r113), .second, .val (.long (r113 + (1 : Int64))), .second, .val (.int (1 : Int32)), .val (.ref b122), .val (.ref b125), .val (.ref r127)] [])) _
      refine XS.aload X128.here hx rfl (hb hby at_200) rfl rfl ?_
      show Steps p.tables e below (T128.setTop (mkF m 202 #[.val (.long c0_), .second, .val (.long c1_), .second, .val (.long c2_), .second, .val (.long c3_), .second, .val (.long c4_), .second, .val (.int vk), .val (.long lo0), .second, .val (.long hi0), .second, .val (.long lo1), .second, .val (.long hi1), .second, .val (.long r113), .second, .val (.long (r113 + (1 : Int64))), .second, .val (.int (1 : Int32)), .val (.ref b122), .val (.ref b125), .val (.ref r127)] [(.ref r127)])) _
      refine st129.trans ?_
      show Steps p.tables e below (T129.setTop (mkF m 205 #[.val (.long c0_), .second, .val (.long c1_), .second, .val (.long c2_), .second, .val (.long c3_), .second, .val (.long c4_), .second, .val (.int vk), .val (.long lo0), .second, .val (.long hi0), .second, .val (.long lo1), .second, .val (.long hi1), .second, .val (.long r113), .second, .val (.long (r113 + (1 : Int64))), .second, .val (.int (1 : Int32)), .val (.ref b122), .val (.ref b125), .val (.ref r127)] [(.int (2 : Int32))])) _
      refine XS.iload X129.here hx rfl (hb hby at_205) rfl ?_
      show Steps p.tables e below (T129.setTop (mkF m 207 #[.val (.long c0_), .second, .val (.long c1_), .second, .val (.long c2_), .second, .val (.long c3_), .second, .val (.long c4_), .second, .val (.int vk), .val (.long lo0), .second, .val (.long hi0), .second, .val (.long lo1), .second, .val (.long hi1), .second, .val (.long r113), .second, .val (.long (r113 + (1 : Int64))), .second, .val (.int (1 : Int32)), .val (.ref b122), .val (.ref b125), .val (.ref r127)] [(.int (1 : Int32)), (.int (2 : Int32))])) _
      refine XS.iconst X129.here hx rfl (hb hby at_207) ?_
      show Steps p.tables e below (T129.setTop (mkF m 208 #[.val (.long c0_), .second, .val (.long c1_), .second, .val (.long c2_), .second, .val (.long c3_), .second, .val (.long c4_), .second, .val (.int vk), .val (.long lo0), .second, .val (.long hi0), .second, .val (.long lo1), .second, .val (.long hi1), .second, .val (.long r113), .second, .val (.long (r113 + (1 : Int64))), .second, .val (.int (1 : Int32)), .val (.ref b122), .val (.ref b125), .val (.ref r127)] [(.int (1 : Int32)), (.int (1 : Int32)), (.int (2 : Int32))])) _
      refine XS.iadd X129.here hx rfl (hb hby at_208) rfl ?_
      show Steps p.tables e below (T129.setTop (mkF m 209 #[.val (.long c0_), .second, .val (.long c1_), .second, .val (.long c2_), .second, .val (.long c3_), .second, .val (.long c4_), .second, .val (.int vk), .val (.long lo0), .second, .val (.long hi0), .second, .val (.long lo1), .second, .val (.long hi1), .second, .val (.long r113), .second, .val (.long (r113 + (1 : Int64))), .second, .val (.int (1 : Int32)), .val (.ref b122), .val (.ref b125), .val (.ref r127)] [(.int (2 : Int32)), (.int (2 : Int32))])) _
      refine XS.icmpYes X129.here hx rfl (pc0 := 209) (pc' := 214) rfl (hb hby at_209) rfl (teq (by decide : (2 : Int32) = (2 : Int32))).1 (by decide) (by decide) ?_
      show Steps p.tables e below (T129.setTop (mkF m 214 #[.val (.long c0_), .second, .val (.long c1_), .second, .val (.long c2_), .second, .val (.long c3_), .second, .val (.long c4_), .second, .val (.int vk), .val (.long lo0), .second, .val (.long hi0), .second, .val (.long lo1), .second, .val (.long hi1), .second, .val (.long r113), .second, .val (.long (r113 + (1 : Int64))), .second, .val (.int (1 : Int32)), .val (.ref b122), .val (.ref b125), .val (.ref r127)] [])) _
      refine XS.aload X129.here hx rfl (hb hby at_214) rfl rfl ?_
      show Steps p.tables e below (T129.setTop (mkF m 216 #[.val (.long c0_), .second, .val (.long c1_), .second, .val (.long c2_), .second, .val (.long c3_), .second, .val (.long c4_), .second, .val (.int vk), .val (.long lo0), .second, .val (.long hi0), .second, .val (.long lo1), .second, .val (.long hi1), .second, .val (.long r113), .second, .val (.long (r113 + (1 : Int64))), .second, .val (.int (1 : Int32)), .val (.ref b122), .val (.ref b125), .val (.ref r127)] [(.ref r127)])) _
      refine XS.iload X129.here hx rfl (hb hby at_216) rfl ?_
      show Steps p.tables e below (T129.setTop (mkF m 218 #[.val (.long c0_), .second, .val (.long c1_), .second, .val (.long c2_), .second, .val (.long c3_), .second, .val (.long c4_), .second, .val (.int vk), .val (.long lo0), .second, .val (.long hi0), .second, .val (.long lo1), .second, .val (.long hi1), .second, .val (.long r113), .second, .val (.long (r113 + (1 : Int64))), .second, .val (.int (1 : Int32)), .val (.ref b122), .val (.ref b125), .val (.ref r127)] [(.int (1 : Int32)), (.ref r127)])) _
      refine st130.trans ?_
      show Steps p.tables e below (T130.setTop (mkF m 221 #[.val (.long c0_), .second, .val (.long c1_), .second, .val (.long c2_), .second, .val (.long c3_), .second, .val (.long c4_), .second, .val (.int vk), .val (.long lo0), .second, .val (.long hi0), .second, .val (.long lo1), .second, .val (.long hi1), .second, .val (.long r113), .second, .val (.long (r113 + (1 : Int64))), .second, .val (.int (1 : Int32)), .val (.ref b122), .val (.ref b125), .val (.ref r127)] [(.long lo0)])) _
      refine XS.lload X130.here hx rfl (hb hby at_221) rfl ?_
      show Steps p.tables e below (T130.setTop (mkF m 223 #[.val (.long c0_), .second, .val (.long c1_), .second, .val (.long c2_), .second, .val (.long c3_), .second, .val (.long c4_), .second, .val (.int vk), .val (.long lo0), .second, .val (.long hi0), .second, .val (.long lo1), .second, .val (.long hi1), .second, .val (.long r113), .second, .val (.long (r113 + (1 : Int64))), .second, .val (.int (1 : Int32)), .val (.ref b122), .val (.ref b125), .val (.ref r127)] [(.long lo0), (.long lo0)])) _
      refine XS.lcmp X130.here hx rfl (hb hby at_223) rfl ?_
      show Steps p.tables e below (T130.setTop (mkF m 224 #[.val (.long c0_), .second, .val (.long c1_), .second, .val (.long c2_), .second, .val (.long c3_), .second, .val (.long c4_), .second, .val (.int vk), .val (.long lo0), .second, .val (.long hi0), .second, .val (.long lo1), .second, .val (.long hi1), .second, .val (.long r113), .second, .val (.long (r113 + (1 : Int64))), .second, .val (.int (1 : Int32)), .val (.ref b122), .val (.ref b125), .val (.ref r127)] [(.int (lcmpW lo0 lo0))])) _
      refine XS.ifNo X130.here hx rfl (hb hby at_224) rfl ((if0 _ _).trans (teq ((lw_eq _ _).mpr (rfl : lo0 = lo0))).2) ?_
      show Steps p.tables e below (T130.setTop (mkF m 227 #[.val (.long c0_), .second, .val (.long c1_), .second, .val (.long c2_), .second, .val (.long c3_), .second, .val (.long c4_), .second, .val (.int vk), .val (.long lo0), .second, .val (.long hi0), .second, .val (.long lo1), .second, .val (.long hi1), .second, .val (.long r113), .second, .val (.long (r113 + (1 : Int64))), .second, .val (.int (1 : Int32)), .val (.ref b122), .val (.ref b125), .val (.ref r127)] [])) _
      refine XS.aload X130.here hx rfl (hb hby at_227) rfl rfl ?_
      show Steps p.tables e below (T130.setTop (mkF m 229 #[.val (.long c0_), .second, .val (.long c1_), .second, .val (.long c2_), .second, .val (.long c3_), .second, .val (.long c4_), .second, .val (.int vk), .val (.long lo0), .second, .val (.long hi0), .second, .val (.long lo1), .second, .val (.long hi1), .second, .val (.long r113), .second, .val (.long (r113 + (1 : Int64))), .second, .val (.int (1 : Int32)), .val (.ref b122), .val (.ref b125), .val (.ref r127)] [(.ref r127)])) _
      refine XS.iload X130.here hx rfl (hb hby at_229) rfl ?_
      show Steps p.tables e below (T130.setTop (mkF m 231 #[.val (.long c0_), .second, .val (.long c1_), .second, .val (.long c2_), .second, .val (.long c3_), .second, .val (.long c4_), .second, .val (.int vk), .val (.long lo0), .second, .val (.long hi0), .second, .val (.long lo1), .second, .val (.long hi1), .second, .val (.long r113), .second, .val (.long (r113 + (1 : Int64))), .second, .val (.int (1 : Int32)), .val (.ref b122), .val (.ref b125), .val (.ref r127)] [(.int (1 : Int32)), (.ref r127)])) _
      refine st131.trans ?_
      show Steps p.tables e below (T131.setTop (mkF m 234 #[.val (.long c0_), .second, .val (.long c1_), .second, .val (.long c2_), .second, .val (.long c3_), .second, .val (.long c4_), .second, .val (.int vk), .val (.long lo0), .second, .val (.long hi0), .second, .val (.long lo1), .second, .val (.long hi1), .second, .val (.long r113), .second, .val (.long (r113 + (1 : Int64))), .second, .val (.int (1 : Int32)), .val (.ref b122), .val (.ref b125), .val (.ref r127)] [(.long hi0)])) _
      refine XS.lload X131.here hx rfl (hb hby at_234) rfl ?_
      show Steps p.tables e below (T131.setTop (mkF m 236 #[.val (.long c0_), .second, .val (.long c1_), .second, .val (.long c2_), .second, .val (.long c3_), .second, .val (.long c4_), .second, .val (.int vk), .val (.long lo0), .second, .val (.long hi0), .second, .val (.long lo1), .second, .val (.long hi1), .second, .val (.long r113), .second, .val (.long (r113 + (1 : Int64))), .second, .val (.int (1 : Int32)), .val (.ref b122), .val (.ref b125), .val (.ref r127)] [(.long hi0), (.long hi0)])) _
      refine XS.lcmp X131.here hx rfl (hb hby at_236) rfl ?_
      show Steps p.tables e below (T131.setTop (mkF m 237 #[.val (.long c0_), .second, .val (.long c1_), .second, .val (.long c2_), .second, .val (.long c3_), .second, .val (.long c4_), .second, .val (.int vk), .val (.long lo0), .second, .val (.long hi0), .second, .val (.long lo1), .second, .val (.long hi1), .second, .val (.long r113), .second, .val (.long (r113 + (1 : Int64))), .second, .val (.int (1 : Int32)), .val (.ref b122), .val (.ref b125), .val (.ref r127)] [(.int (lcmpW hi0 hi0))])) _
      refine XS.ifYes X131.here hx rfl (pc0 := 237) (pc' := 242) rfl (hb hby at_237) rfl ((if0 _ _).trans (teq ((lw_eq _ _).mpr (rfl : hi0 = hi0))).1) (by decide) (by decide) ?_
      show Steps p.tables e below (T131.setTop (mkF m 242 #[.val (.long c0_), .second, .val (.long c1_), .second, .val (.long c2_), .second, .val (.long c3_), .second, .val (.long c4_), .second, .val (.int vk), .val (.long lo0), .second, .val (.long hi0), .second, .val (.long lo1), .second, .val (.long hi1), .second, .val (.long r113), .second, .val (.long (r113 + (1 : Int64))), .second, .val (.int (1 : Int32)), .val (.ref b122), .val (.ref b125), .val (.ref r127)] [])) _
      refine XS.iload X131.here hx rfl (hb hby at_242) rfl ?_
      show Steps p.tables e below (T131.setTop (mkF m 244 #[.val (.long c0_), .second, .val (.long c1_), .second, .val (.long c2_), .second, .val (.long c3_), .second, .val (.long c4_), .second, .val (.int vk), .val (.long lo0), .second, .val (.long hi0), .second, .val (.long lo1), .second, .val (.long hi1), .second, .val (.long r113), .second, .val (.long (r113 + (1 : Int64))), .second, .val (.int (1 : Int32)), .val (.ref b122), .val (.ref b125), .val (.ref r127)] [(.int (1 : Int32))])) _
      refine XS.iconst X131.here hx rfl (hb hby at_244) ?_
      show Steps p.tables e below (T131.setTop (mkF m 245 #[.val (.long c0_), .second, .val (.long c1_), .second, .val (.long c2_), .second, .val (.long c3_), .second, .val (.long c4_), .second, .val (.int vk), .val (.long lo0), .second, .val (.long hi0), .second, .val (.long lo1), .second, .val (.long hi1), .second, .val (.long r113), .second, .val (.long (r113 + (1 : Int64))), .second, .val (.int (1 : Int32)), .val (.ref b122), .val (.ref b125), .val (.ref r127)] [(.int (1 : Int32)), (.int (1 : Int32))])) _
      refine XS.icmpNo X131.here hx rfl (hb hby at_245) rfl (flt (by decide : ¬ ((1 : Int32) < (1 : Int32)))).1 ?_
      show Steps p.tables e below (T131.setTop (mkF m 248 #[.val (.long c0_), .second, .val (.long c1_), .second, .val (.long c2_), .second, .val (.long c3_), .second, .val (.long c4_), .second, .val (.int vk), .val (.long lo0), .second, .val (.long hi0), .second, .val (.long lo1), .second, .val (.long hi1), .second, .val (.long r113), .second, .val (.long (r113 + (1 : Int64))), .second, .val (.int (1 : Int32)), .val (.ref b122), .val (.ref b125), .val (.ref r127)] [])) _
      refine XS.aload X131.here hx rfl (hb hby at_248) rfl rfl ?_
      show Steps p.tables e below (T131.setTop (mkF m 250 #[.val (.long c0_), .second, .val (.long c1_), .second, .val (.long c2_), .second, .val (.long c3_), .second, .val (.long c4_), .second, .val (.int vk), .val (.long lo0), .second, .val (.long hi0), .second, .val (.long lo1), .second, .val (.long hi1), .second, .val (.long r113), .second, .val (.long (r113 + (1 : Int64))), .second, .val (.int (1 : Int32)), .val (.ref b122), .val (.ref b125), .val (.ref r127)] [(.ref r127)])) _
      refine XS.iconst X131.here hx rfl (hb hby at_250) ?_
      show Steps p.tables e below (T131.setTop (mkF m 251 #[.val (.long c0_), .second, .val (.long c1_), .second, .val (.long c2_), .second, .val (.long c3_), .second, .val (.long c4_), .second, .val (.int vk), .val (.long lo0), .second, .val (.long hi0), .second, .val (.long lo1), .second, .val (.long hi1), .second, .val (.long r113), .second, .val (.long (r113 + (1 : Int64))), .second, .val (.int (1 : Int32)), .val (.ref b122), .val (.ref b125), .val (.ref r127)] [(.int (0 : Int32)), (.ref r127)])) _
      refine st132.trans ?_
      show Steps p.tables e below (T132.setTop (mkF m 254 #[.val (.long c0_), .second, .val (.long c1_), .second, .val (.long c2_), .second, .val (.long c3_), .second, .val (.long c4_), .second, .val (.int vk), .val (.long lo0), .second, .val (.long hi0), .second, .val (.long lo1), .second, .val (.long hi1), .second, .val (.long r113), .second, .val (.long (r113 + (1 : Int64))), .second, .val (.int (1 : Int32)), .val (.ref b122), .val (.ref b125), .val (.ref r127)] [(.long lo1)])) _
      refine XS.lload X132.here hx rfl (hb hby at_254) rfl ?_
      show Steps p.tables e below (T132.setTop (mkF m 256 #[.val (.long c0_), .second, .val (.long c1_), .second, .val (.long c2_), .second, .val (.long c3_), .second, .val (.long c4_), .second, .val (.int vk), .val (.long lo0), .second, .val (.long hi0), .second, .val (.long lo1), .second, .val (.long hi1), .second, .val (.long r113), .second, .val (.long (r113 + (1 : Int64))), .second, .val (.int (1 : Int32)), .val (.ref b122), .val (.ref b125), .val (.ref r127)] [(.long lo1), (.long lo1)])) _
      refine XS.lcmp X132.here hx rfl (hb hby at_256) rfl ?_
      show Steps p.tables e below (T132.setTop (mkF m 257 #[.val (.long c0_), .second, .val (.long c1_), .second, .val (.long c2_), .second, .val (.long c3_), .second, .val (.long c4_), .second, .val (.int vk), .val (.long lo0), .second, .val (.long hi0), .second, .val (.long lo1), .second, .val (.long hi1), .second, .val (.long r113), .second, .val (.long (r113 + (1 : Int64))), .second, .val (.int (1 : Int32)), .val (.ref b122), .val (.ref b125), .val (.ref r127)] [(.int (lcmpW lo1 lo1))])) _
      refine XS.ifNo X132.here hx rfl (hb hby at_257) rfl ((if0 _ _).trans (teq ((lw_eq _ _).mpr (rfl : lo1 = lo1))).2) ?_
      show Steps p.tables e below (T132.setTop (mkF m 260 #[.val (.long c0_), .second, .val (.long c1_), .second, .val (.long c2_), .second, .val (.long c3_), .second, .val (.long c4_), .second, .val (.int vk), .val (.long lo0), .second, .val (.long hi0), .second, .val (.long lo1), .second, .val (.long hi1), .second, .val (.long r113), .second, .val (.long (r113 + (1 : Int64))), .second, .val (.int (1 : Int32)), .val (.ref b122), .val (.ref b125), .val (.ref r127)] [])) _
      refine XS.aload X132.here hx rfl (hb hby at_260) rfl rfl ?_
      show Steps p.tables e below (T132.setTop (mkF m 262 #[.val (.long c0_), .second, .val (.long c1_), .second, .val (.long c2_), .second, .val (.long c3_), .second, .val (.long c4_), .second, .val (.int vk), .val (.long lo0), .second, .val (.long hi0), .second, .val (.long lo1), .second, .val (.long hi1), .second, .val (.long r113), .second, .val (.long (r113 + (1 : Int64))), .second, .val (.int (1 : Int32)), .val (.ref b122), .val (.ref b125), .val (.ref r127)] [(.ref r127)])) _
      refine XS.iconst X132.here hx rfl (hb hby at_262) ?_
      show Steps p.tables e below (T132.setTop (mkF m 263 #[.val (.long c0_), .second, .val (.long c1_), .second, .val (.long c2_), .second, .val (.long c3_), .second, .val (.long c4_), .second, .val (.int vk), .val (.long lo0), .second, .val (.long hi0), .second, .val (.long lo1), .second, .val (.long hi1), .second, .val (.long r113), .second, .val (.long (r113 + (1 : Int64))), .second, .val (.int (1 : Int32)), .val (.ref b122), .val (.ref b125), .val (.ref r127)] [(.int (0 : Int32)), (.ref r127)])) _
      refine st133.trans ?_
      show Steps p.tables e below (T133.setTop (mkF m 266 #[.val (.long c0_), .second, .val (.long c1_), .second, .val (.long c2_), .second, .val (.long c3_), .second, .val (.long c4_), .second, .val (.int vk), .val (.long lo0), .second, .val (.long hi0), .second, .val (.long lo1), .second, .val (.long hi1), .second, .val (.long r113), .second, .val (.long (r113 + (1 : Int64))), .second, .val (.int (1 : Int32)), .val (.ref b122), .val (.ref b125), .val (.ref r127)] [(.long hi1)])) _
      refine XS.lload X133.here hx rfl (hb hby at_266) rfl ?_
      show Steps p.tables e below (T133.setTop (mkF m 268 #[.val (.long c0_), .second, .val (.long c1_), .second, .val (.long c2_), .second, .val (.long c3_), .second, .val (.long c4_), .second, .val (.int vk), .val (.long lo0), .second, .val (.long hi0), .second, .val (.long lo1), .second, .val (.long hi1), .second, .val (.long r113), .second, .val (.long (r113 + (1 : Int64))), .second, .val (.int (1 : Int32)), .val (.ref b122), .val (.ref b125), .val (.ref r127)] [(.long hi1), (.long hi1)])) _
      refine XS.lcmp X133.here hx rfl (hb hby at_268) rfl ?_
      show Steps p.tables e below (T133.setTop (mkF m 269 #[.val (.long c0_), .second, .val (.long c1_), .second, .val (.long c2_), .second, .val (.long c3_), .second, .val (.long c4_), .second, .val (.int vk), .val (.long lo0), .second, .val (.long hi0), .second, .val (.long lo1), .second, .val (.long hi1), .second, .val (.long r113), .second, .val (.long (r113 + (1 : Int64))), .second, .val (.int (1 : Int32)), .val (.ref b122), .val (.ref b125), .val (.ref r127)] [(.int (lcmpW hi1 hi1))])) _
      refine XS.ifYes X133.here hx rfl (pc0 := 269) (pc' := 274) rfl (hb hby at_269) rfl ((if0 _ _).trans (teq ((lw_eq _ _).mpr (rfl : hi1 = hi1))).1) (by decide) (by decide) ?_
      show Steps p.tables e below (T133.setTop (mkF m 274 #[.val (.long c0_), .second, .val (.long c1_), .second, .val (.long c2_), .second, .val (.long c3_), .second, .val (.long c4_), .second, .val (.int vk), .val (.long lo0), .second, .val (.long hi0), .second, .val (.long lo1), .second, .val (.long hi1), .second, .val (.long r113), .second, .val (.long (r113 + (1 : Int64))), .second, .val (.int (1 : Int32)), .val (.ref b122), .val (.ref b125), .val (.ref r127)] [])) _
      refine XS.iload X133.here hx rfl (hb hby at_274) rfl ?_
      show Steps p.tables e below (T133.setTop (mkF m 276 #[.val (.long c0_), .second, .val (.long c1_), .second, .val (.long c2_), .second, .val (.long c3_), .second, .val (.long c4_), .second, .val (.int vk), .val (.long lo0), .second, .val (.long hi0), .second, .val (.long lo1), .second, .val (.long hi1), .second, .val (.long r113), .second, .val (.long (r113 + (1 : Int64))), .second, .val (.int (1 : Int32)), .val (.ref b122), .val (.ref b125), .val (.ref r127)] [(.int (1 : Int32))])) _
      refine XS.iconst X133.here hx rfl (hb hby at_276) ?_
      show Steps p.tables e below (T133.setTop (mkF m 277 #[.val (.long c0_), .second, .val (.long c1_), .second, .val (.long c2_), .second, .val (.long c3_), .second, .val (.long c4_), .second, .val (.int vk), .val (.long lo0), .second, .val (.long hi0), .second, .val (.long lo1), .second, .val (.long hi1), .second, .val (.long r113), .second, .val (.long (r113 + (1 : Int64))), .second, .val (.int (1 : Int32)), .val (.ref b122), .val (.ref b125), .val (.ref r127)] [(.int (2 : Int32)), (.int (1 : Int32))])) _
      refine XS.icmpYes X133.here hx rfl (pc0 := 277) (pc' := 306) rfl (hb hby at_277) rfl (feq (by decide : ¬ ((1 : Int32) = (2 : Int32)))).2 (by decide) (by decide) ?_
      show Steps p.tables e below (T133.setTop (mkF m 306 #[.val (.long c0_), .second, .val (.long c1_), .second, .val (.long c2_), .second, .val (.long c3_), .second, .val (.long c4_), .second, .val (.int vk), .val (.long lo0), .second, .val (.long hi0), .second, .val (.long lo1), .second, .val (.long hi1), .second, .val (.long r113), .second, .val (.long (r113 + (1 : Int64))), .second, .val (.int (1 : Int32)), .val (.ref b122), .val (.ref b125), .val (.ref r127)] [])) _
      refine XS.iconst X133.here hx rfl (hb hby at_306) ?_
      show Steps p.tables e below (T133.setTop (mkF m 307 #[.val (.long c0_), .second, .val (.long c1_), .second, .val (.long c2_), .second, .val (.long c3_), .second, .val (.long c4_), .second, .val (.int vk), .val (.long lo0), .second, .val (.long hi0), .second, .val (.long lo1), .second, .val (.long hi1), .second, .val (.long r113), .second, .val (.long (r113 + (1 : Int64))), .second, .val (.int (1 : Int32)), .val (.ref b122), .val (.ref b125), .val (.ref r127)] [(.int (1 : Int32))])) _
      exact retN X133 hx (t := .boolean) Bd.returns (by simp) (hb hby at_307) hr
    · show Q_law Z c0_ c1_ c2_ c3_ c4_ vk h0 n0 _ T133.heap _
      rw [e133]
      exact ⟨rfl, N133⟩
  · obtain ⟨T134, h134, k134, X134, e134, E134, A134, B134, st134⟩ := newPE X113 hx hZ (hw _ (List.mem_of_getElem? (i := 9) rfl)) e113 (g := (mkF m 142 #[.val (.long c0_), .second, .val (.long c1_), .second, .val (.long c2_), .second, .val (.long c3_), .second, .val (.long c4_), .second, .val (.int vk), .val (.long lo0), .second, .val (.long hi0), .second, .val (.long lo1), .second, .val (.long hi1), .second, .val (.long r113), .second, .val (.long (r113 + (1 : Int64))), .second, .val (.int (2 : Int32)), .unset, .unset, .unset] [(.int (4 : Int32))])) rfl (hb hby at_142) rfl (by decide) (cap := 4) (by decide) (by decide) (by decide) (by decide) (ad := "[J") (by decide)
    obtain ⟨b134, g134⟩ : ∃ z, z = h0.size := ⟨_, rfl⟩
    rw [← g134] at A134 B134 st134
    have g_b134 : n0 ≤ b134 := Nat.le_trans Z0 (Nat.le_of_eq g134.symm)
    have Z134 : n0 ≤ h134.size := Nat.le_trans Z0 E134.1
    have Av_b134_134 : Arv Z h134 b134 k134 .long (4 : Int32) [(.long (0 : Int64)), (.long (0 : Int64)), (.long (0 : Int64)), (.long (0 : Int64))] (.long (0 : Int64)) := (Arv.new A134 (by decide)).pad (pad_rep [] (.long (0 : Int64)) 4)
    have Ex_b134_134 := B134
    obtain ⟨cl135, Ar135, q135, S135, N135a, H135, G135⟩ := id Av_b134_134
    have hin135 : ¬ ((0 : Int32) < 0 ∨ cl135.slots.size ≤ ((0 : Int32)).toNatClampNeg) := inb_of S135 ⟨by decide, by decide⟩
    obtain ⟨T135, h135, X135, e135, W135, st135⟩ := stJ X134 hx hZ e134 Ar135 (j := (0 : Int32)) hin135 (g := (mkF m 148 #[.val (.long c0_), .second, .val (.long c1_), .second, .val (.long c2_), .second, .val (.long c3_), .second, .val (.long c4_), .second, .val (.int vk), .val (.long lo0), .second, .val (.long hi0), .second, .val (.long lo1), .second, .val (.long hi1), .second, .val (.long r113), .second, .val (.long (r113 + (1 : Int64))), .second, .val (.int (2 : Int32)), .unset, .unset, .unset] [(.long lo1), (.int (0 : Int32)), (.ref b134), (.ref b134)])) rfl rfl (hb hby at_148)
    have Av_b134_135 : Arv Z h135 b134 k134 .long (4 : Int32) [(.long lo1), (.long (0 : Int64)), (.long (0 : Int64)), (.long (0 : Int64))] (.long (0 : Int64)) := Arv.set Ar135 q135 S135 N135a H135 G135 rfl W135 0 rfl (Nat.le_of_ble_eq_true rfl)
    have Ex_b134_134_c135 := Ex_b134_134.wr W135
    have Z135 : n0 ≤ h135.size := Nat.le_trans Z134 (Keep.of_wr W135).1
    have N135 := Fr.snoc X135 N113 g_b134
    obtain ⟨cl136, Ar136, q136, S136, N136a, H136, G136⟩ := id Av_b134_135
    have hin136 : ¬ ((1 : Int32) < 0 ∨ cl136.slots.size ≤ ((1 : Int32)).toNatClampNeg) := inb_of S136 ⟨by decide, by decide⟩
    obtain ⟨T136, h136, X136, e136, W136, st136⟩ := stJ X135 hx hZ e135 Ar136 (j := (1 : Int32)) hin136 (g := (mkF m 153 #[.val (.long c0_), .second, .val (.long c1_), .second, .val (.long c2_), .second, .val (.long c3_), .second, .val (.long c4_), .second, .val (.int vk), .val (.long lo0), .second, .val (.long hi0), .second, .val (.long lo1), .second, .val (.long hi1), .second, .val (.long r113), .second, .val (.long (r113 + (1 : Int64))), .second, .val (.int (2 : Int32)), .unset, .unset, .unset] [(.long hi1), (.int (1 : Int32)), (.ref b134), (.ref b134)])) rfl rfl (hb hby at_153)
    have Av_b134_136 : Arv Z h136 b134 k134 .long (4 : Int32) [(.long lo1), (.long hi1), (.long (0 : Int64)), (.long (0 : Int64))] (.long (0 : Int64)) := Arv.set Ar136 q136 S136 N136a H136 G136 rfl W136 1 rfl (Nat.le_of_ble_eq_true rfl)
    have Ex_b134_134_c136 := Ex_b134_134_c135.wr W136
    have Z136 : n0 ≤ h136.size := Nat.le_trans Z135 (Keep.of_wr W136).1
    have N136 := Fr.snoc X136 N135 g_b134
    obtain ⟨cl137, Ar137, q137, S137, N137a, H137, G137⟩ := id Av_b134_136
    have hin137 : ¬ ((2 : Int32) < 0 ∨ cl137.slots.size ≤ ((2 : Int32)).toNatClampNeg) := inb_of S137 ⟨by decide, by decide⟩
    obtain ⟨T137, h137, X137, e137, W137, st137⟩ := stJ X136 hx hZ e136 Ar137 (j := (2 : Int32)) hin137 (g := (mkF m 158 #[.val (.long c0_), .second, .val (.long c1_), .second, .val (.long c2_), .second, .val (.long c3_), .second, .val (.long c4_), .second, .val (.int vk), .val (.long lo0), .second, .val (.long hi0), .second, .val (.long lo1), .second, .val (.long hi1), .second, .val (.long r113), .second, .val (.long (r113 + (1 : Int64))), .second, .val (.int (2 : Int32)), .unset, .unset, .unset] [(.long r113), (.int (2 : Int32)), (.ref b134), (.ref b134)])) rfl rfl (hb hby at_158)
    have Av_b134_137 : Arv Z h137 b134 k134 .long (4 : Int32) [(.long lo1), (.long hi1), (.long r113), (.long (0 : Int64))] (.long (0 : Int64)) := Arv.set Ar137 q137 S137 N137a H137 G137 rfl W137 2 rfl (Nat.le_of_ble_eq_true rfl)
    have Ex_b134_134_c137 := Ex_b134_134_c136.wr W137
    have Z137 : n0 ≤ h137.size := Nat.le_trans Z136 (Keep.of_wr W137).1
    have N137 := Fr.snoc X137 N136 g_b134
    obtain ⟨cl138, Ar138, q138, S138, N138a, H138, G138⟩ := id Av_b134_137
    have hin138 : ¬ ((3 : Int32) < 0 ∨ cl138.slots.size ≤ ((3 : Int32)).toNatClampNeg) := inb_of S138 ⟨by decide, by decide⟩
    obtain ⟨T138, h138, X138, e138, W138, st138⟩ := stJ X137 hx hZ e137 Ar138 (j := (3 : Int32)) hin138 (g := (mkF m 163 #[.val (.long c0_), .second, .val (.long c1_), .second, .val (.long c2_), .second, .val (.long c3_), .second, .val (.long c4_), .second, .val (.int vk), .val (.long lo0), .second, .val (.long hi0), .second, .val (.long lo1), .second, .val (.long hi1), .second, .val (.long r113), .second, .val (.long (r113 + (1 : Int64))), .second, .val (.int (2 : Int32)), .unset, .unset, .unset] [(.long (r113 + (1 : Int64))), (.int (3 : Int32)), (.ref b134), (.ref b134)])) rfl rfl (hb hby at_163)
    have Av_b134_138 : Arv Z h138 b134 k134 .long (4 : Int32) [(.long lo1), (.long hi1), (.long r113), (.long (r113 + (1 : Int64)))] (.long (0 : Int64)) := Arv.set Ar138 q138 S138 N138a H138 G138 rfl W138 3 rfl (Nat.le_of_ble_eq_true rfl)
    have Ex_b134_134_c138 := Ex_b134_134_c137.wr W138
    have Z138 : n0 ≤ h138.size := Nat.le_trans Z137 (Keep.of_wr W138).1
    have N138 := Fr.snoc X138 N137 g_b134
    obtain ⟨T139, h139, X139, e139, E139, A139, D139, -, st139⟩ := newO X138 hx hZ hown (hw _ (List.mem_of_getElem? (i := 10) rfl)) (hw _ (List.mem_of_getElem? (i := 11) rfl)) (hw _ (List.mem_of_getElem? (i := 12) rfl)) e138 (g := (mkF m 166 #[.val (.long c0_), .second, .val (.long c1_), .second, .val (.long c2_), .second, .val (.long c3_), .second, .val (.long c4_), .second, .val (.int vk), .val (.long lo0), .second, .val (.long hi0), .second, .val (.long lo1), .second, .val (.long hi1), .second, .val (.long r113), .second, .val (.long (r113 + (1 : Int64))), .second, .val (.int (2 : Int32)), .val (.ref b134), .unset, .unset] [])) rfl (hb hby at_166) (by decide) (by decide)
    obtain ⟨b139, g139⟩ : ∃ z, z = h138.size := ⟨_, rfl⟩
    rw [← g139] at A139 D139 st139
    have ne_b134_b139 : b134 ≠ b139 := Nat.ne_of_lt (Nat.lt_of_lt_of_le Ex_b134_134_c138.lt (Nat.le_of_eq g139.symm))
    have g_b139 : n0 ≤ b139 := Nat.le_trans Z138 (Nat.le_of_eq g139.symm)
    have Ex_b134_134_c139 := Ex_b134_134_c138.ext E139
    have Av_b134_138_c139 := Av_b134_138.ext E139
    have Z139 : n0 ≤ h139.size := Nat.le_trans Z138 E139.1
    have Ex_b139_139 := A139
    have Fd_bounds_b139_139 : Fld Z h139 b139 "com/example/chronotriple/chronotriple/Box" "bounds" "[J" .null := D139 (Or.inr (hw _ (List.mem_of_getElem? (i := 29) rfl))) (ty := (.array .long)) (by decide)
    obtain ⟨_, _, ⟨T140, L140, k140, n140⟩, -, X140, ⟨Lc140, hQ140, l140, y140, z140⟩, st140⟩ := X139.specialBack hx (y := (⟨"com/example/chronotriple/chronotriple/Box", "<init>", "([J)V"⟩ : MethodName)) rfl hown (mvT hZ (hw _ (List.mem_of_getElem? (i := 13) rfl))) (mvT hZ (hw _ (List.mem_of_getElem? (i := 14) rfl))) (mvT hZ (hw _ (List.mem_of_getElem? (i := 15) rfl))) (by decide) (backOf (W := 1) (rm_ini4 l Z a0 hw [] b139 b134 k134 lo1 hi1 r113 (r113 + (1 : Int64)) h139 n0 Z139 Ex_b139_139 Fd_bounds_b139_139 Av_b134_138_c139 Ex_b134_134_c139 g_b139 ne_b134_b139 hp108 hp3) hZ (hw _ (List.mem_of_getElem? (i := 15) rfl)) (hw _ (List.mem_of_getElem? (i := 12) rfl)) (by decide) (by decide)) (g := (mkF m 172 #[.val (.long c0_), .second, .val (.long c1_), .second, .val (.long c2_), .second, .val (.long c3_), .second, .val (.long c4_), .second, .val (.int vk), .val (.long lo0), .second, .val (.long hi0), .second, .val (.long lo1), .second, .val (.long hi1), .second, .val (.long r113), .second, .val (.long (r113 + (1 : Int64))), .second, .val (.int (2 : Int32)), .val (.ref b134), .unset, .unset] [(.ref b134), (.ref b139), (.ref b139)])) rfl (by rw [hml]; rfl) (Steps.refl _) (a := b139) (argsL := [(.ref b134)]) (rest := [(.ref b139)]) (lenOf pd_2 rfl) rfl (by show 2 * 0 + _ ≤ _; exact Nat.le_of_eq rfl) (hb hby at_172) (fun _ _ => ⟨rfl, e139, (by decide : 2 + 1 ≤ _), (by decide : 5 + 4 ≤ _)⟩)
    dsimp only [Pt.U, Pt.locs, Pt.cells, Pt.slots] at X140 l140 y140 z140 st140 hQ140
    subst l140 y140 z140
    obtain ⟨rfl, N140q, K140, ⟨cb140, ck140, cg140, cs140, Fq_140, Aq_140, Eq_140⟩⟩ := hQ140
    have N140 := Fr.app N138 N140q
    have Ex_b134_134_c140 := Ex_b134_134_c139.keep K140
    have Av_b134_138_c140 := Av_b134_138_c139.keep K140 (ninS ne_b134_b139 nin0)
    have Ex_b139_139_c140 := Ex_b139_139.keep K140
    have Z140 : n0 ≤ T140.heap.size := Nat.le_trans Z139 K140.1
    have ne_b134_cb140 : b134 ≠ cb140 := Nat.ne_of_lt (Nat.lt_of_lt_of_le Ex_b134_134_c139.lt cs140)
    have ne_b139_cb140 : b139 ≠ cb140 := Nat.ne_of_lt (Nat.lt_of_lt_of_le Ex_b139_139.lt cs140)
    obtain ⟨cq141, kq141, q141a, q141b, q141c⟩ := isOf hZ rfl Ex_b139_139_c140
    obtain ⟨_, _, ⟨T141, L141, k141, n141⟩, -, X141, ⟨Lc141, hQ141, l141, y141, z141⟩, st141⟩ := X140.virtualBack hx (y := (⟨"com/example/chronotriple/chronotriple/Box", "withAxis", "(JJ)Lcom/example/chronotriple/chronotriple/Box;"⟩ : MethodName)) (z := (⟨"com/example/chronotriple/chronotriple/Box", "withAxis", "(JJ)Lcom/example/chronotriple/chronotriple/Box;"⟩ : MethodName)) hown (mvT hZ (hw _ (List.mem_of_getElem? (i := 30) rfl))) (mvT hZ (hw _ (List.mem_of_getElem? (i := 31) rfl))) (notFace_of_selects (args := #[]) (mvT hZ (hw _ (List.mem_of_getElem? (i := 33) rfl)))) (mvT hZ (hw _ (List.mem_of_getElem? (i := 33) rfl))) (mvT hZ (hw _ (List.mem_of_getElem? (i := 32) rfl))) (by decide) (backOf (W := 0) (rm_wax4 l Z a0 hw [] b139 lo0 hi0 cb140 ck140 lo1 hi1 r113 (r113 + (1 : Int64)) T140.heap n0 Z140 Ex_b139_139_c140 Fq_140 Aq_140 hp108 hp3 hp103) hZ (hw _ (List.mem_of_getElem? (i := 34) rfl)) (hw _ (List.mem_of_getElem? (i := 12) rfl)) (by decide) (by decide)) q141a q141c (g := (mkF m 183 #[.val (.long c0_), .second, .val (.long c1_), .second, .val (.long c2_), .second, .val (.long c3_), .second, .val (.long c4_), .second, .val (.int vk), .val (.long lo0), .second, .val (.long hi0), .second, .val (.long lo1), .second, .val (.long hi1), .second, .val (.long r113), .second, .val (.long (r113 + (1 : Int64))), .second, .val (.int (2 : Int32)), .val (.ref b134), .val (.ref b139), .unset] [(.long hi0), (.long lo0), (.ref b139)])) rfl (by rw [hml]; rfl) (Steps.refl _) (argsL := [(.long lo0), (.long hi0)]) (rest := []) (lenOf pd_4 rfl) rfl (by show 2 * 0 + _ ≤ _; exact Nat.le_of_eq rfl) (hb hby at_183) (fun _ _ => ⟨rfl, rfl, (by decide : 3 + 3 ≤ _), (by decide : 9 + 13 ≤ _)⟩)
    dsimp only [Pt.U, Pt.locs, Pt.cells, Pt.slots] at X141 l141 y141 z141 st141 hQ141
    subst l141 y141 z141
    obtain ⟨⟨r141, rfl, hr141⟩, N141q, K141⟩ := hQ141
    have N141 := Fr.app N140 N141q
    have Ex_b134_134_c141 := Ex_b134_134_c140.keep K141
    have Av_b134_138_c141 := Av_b134_138_c140.keep K141 nin0
    have Ex_b139_139_c141 := Ex_b139_139_c140.keep K141
    have Fq_140_c141 := Fq_140.keep K141 nin0
    have Aq_140_c141 := Aq_140.keep K141 nin0
    have Eq_140_c141 := Eq_140.keep K141
    have Z141 : n0 ≤ T141.heap.size := Nat.le_trans Z140 K141.1
    obtain ⟨cg141, cs141, Ez_141, ⟨cb141, ck141, dg141, ds141, Fq_141, Aq_141, Eq_141⟩⟩ := hr141
    have ne_b134_r141 : b134 ≠ r141 := Nat.ne_of_lt (Nat.lt_of_lt_of_le Ex_b134_134_c140.lt cs141)
    have ne_b139_r141 : b139 ≠ r141 := Nat.ne_of_lt (Nat.lt_of_lt_of_le Ex_b139_139_c140.lt cs141)
    have ne_cb140_r141 : cb140 ≠ r141 := Nat.ne_of_lt (Nat.lt_of_lt_of_le Aq_140.lt cs141)
    have ne_b134_cb141 : b134 ≠ cb141 := Nat.ne_of_lt (Nat.lt_of_lt_of_le Ex_b134_134_c140.lt ds141)
    have ne_b139_cb141 : b139 ≠ cb141 := Nat.ne_of_lt (Nat.lt_of_lt_of_le Ex_b139_139_c140.lt ds141)
    have ne_cb140_cb141 : cb140 ≠ cb141 := Nat.ne_of_lt (Nat.lt_of_lt_of_le Aq_140.lt ds141)
    obtain ⟨cq142, kq142, q142a, q142b, q142c⟩ := isOf hZ rfl Ex_b139_139_c141
    obtain ⟨_, _, ⟨T142, L142, k142, n142⟩, -, X142, ⟨Lc142, hQ142, l142, y142, z142⟩, st142⟩ := X141.virtualBack hx (y := (⟨"com/example/chronotriple/chronotriple/Box", "dimensions", "()I"⟩ : MethodName)) (z := (⟨"com/example/chronotriple/chronotriple/Box", "dimensions", "()I"⟩ : MethodName)) hown (mvT hZ (hw _ (List.mem_of_getElem? (i := 48) rfl))) (mvT hZ (hw _ (List.mem_of_getElem? (i := 49) rfl))) (notFace_of_selects (args := #[]) (mvT hZ (hw _ (List.mem_of_getElem? (i := 51) rfl)))) (mvT hZ (hw _ (List.mem_of_getElem? (i := 51) rfl))) (mvT hZ (hw _ (List.mem_of_getElem? (i := 50) rfl))) (by decide) (backOf (W := 0) (rm_dim l Z a0 hw [] b139 cb140 ck140 (4 : Int32) [lo1, hi1, r113, (r113 + (1 : Int64))] T141.heap n0 Z141 Fq_140_c141 Aq_140_c141) hZ (hw _ (List.mem_of_getElem? (i := 52) rfl)) (hw _ (List.mem_of_getElem? (i := 12) rfl)) (by decide) (by decide)) q142a q142c (g := (mkF m 190 #[.val (.long c0_), .second, .val (.long c1_), .second, .val (.long c2_), .second, .val (.long c3_), .second, .val (.long c4_), .second, .val (.int vk), .val (.long lo0), .second, .val (.long hi0), .second, .val (.long lo1), .second, .val (.long hi1), .second, .val (.long r113), .second, .val (.long (r113 + (1 : Int64))), .second, .val (.int (2 : Int32)), .val (.ref b134), .val (.ref b139), .val (.ref r141)] [(.ref b139)])) rfl (by rw [hml]; rfl) (Steps.refl _) (argsL := []) (rest := []) (lenOf pd_5 rfl) rfl (by show 2 * 0 + _ ≤ _; exact Nat.le_of_eq rfl) (hb hby at_190) (fun _ _ => ⟨rfl, rfl, (by decide : 6 + 0 ≤ _), (by decide : 22 + 0 ≤ _)⟩)
    dsimp only [Pt.U, Pt.locs, Pt.cells, Pt.slots] at X142 l142 y142 z142 st142 hQ142
    subst l142 y142 z142
    obtain ⟨⟨r142, rfl, hr142⟩, N142q, e142⟩ := hQ142
    have N142 := Fr.app N141 N142q
    obtain rfl : (2 : Int32) = r142 := (hr142.trans (by decide)).symm
    obtain ⟨cq143, kq143, q143a, q143b, q143c⟩ := isOf hZ e142 Ez_141
    obtain ⟨_, _, ⟨T143, L143, k143, n143⟩, -, X143, ⟨Lc143, hQ143, l143, y143, z143⟩, st143⟩ := X142.virtualBack hx (y := (⟨"com/example/chronotriple/chronotriple/Box", "dimensions", "()I"⟩ : MethodName)) (z := (⟨"com/example/chronotriple/chronotriple/Box", "dimensions", "()I"⟩ : MethodName)) hown (mvT hZ (hw _ (List.mem_of_getElem? (i := 48) rfl))) (mvT hZ (hw _ (List.mem_of_getElem? (i := 49) rfl))) (notFace_of_selects (args := #[]) (mvT hZ (hw _ (List.mem_of_getElem? (i := 51) rfl)))) (mvT hZ (hw _ (List.mem_of_getElem? (i := 51) rfl))) (mvT hZ (hw _ (List.mem_of_getElem? (i := 50) rfl))) (by decide) (backOf (W := 0) (rm_dim l Z a0 hw [] r141 cb141 ck141 (6 : Int32) [lo1, hi1, r113, (r113 + (1 : Int64)), lo0, hi0] T141.heap n0 Z141 Fq_141 Aq_141) hZ (hw _ (List.mem_of_getElem? (i := 52) rfl)) (hw _ (List.mem_of_getElem? (i := 12) rfl)) (by decide) (by decide)) q143a q143c (g := (mkF m 202 #[.val (.long c0_), .second, .val (.long c1_), .second, .val (.long c2_), .second, .val (.long c3_), .second, .val (.long c4_), .second, .val (.int vk), .val (.long lo0), .second, .val (.long hi0), .second, .val (.long lo1), .second, .val (.long hi1), .second, .val (.long r113), .second, .val (.long (r113 + (1 : Int64))), .second, .val (.int (2 : Int32)), .val (.ref b134), .val (.ref b139), .val (.ref r141)] [(.ref r141)])) rfl (by rw [hml]; rfl) (Steps.refl _) (argsL := []) (rest := []) (lenOf pd_5 rfl) rfl (by show 2 * 0 + _ ≤ _; exact Nat.le_of_eq rfl) (hb hby at_202) (fun _ _ => ⟨rfl, e142, (by decide : 6 + 0 ≤ _), (by decide : 22 + 0 ≤ _)⟩)
    dsimp only [Pt.U, Pt.locs, Pt.cells, Pt.slots] at X143 l143 y143 z143 st143 hQ143
    subst l143 y143 z143
    obtain ⟨⟨r143, rfl, hr143⟩, N143q, e143⟩ := hQ143
    have N143 := Fr.app N142 N143q
    obtain rfl : (3 : Int32) = r143 := (hr143.trans (by decide)).symm
    obtain ⟨cq144, kq144, q144a, q144b, q144c⟩ := isOf hZ e143 Ez_141
    obtain ⟨_, _, ⟨T144, L144, k144, n144⟩, -, X144, ⟨Lc144, hQ144, l144, y144, z144⟩, st144⟩ := X143.virtualBack hx (y := (⟨"com/example/chronotriple/chronotriple/Box", "from", "(I)J"⟩ : MethodName)) (z := (⟨"com/example/chronotriple/chronotriple/Box", "from", "(I)J"⟩ : MethodName)) hown (mvT hZ (hw _ (List.mem_of_getElem? (i := 53) rfl))) (mvT hZ (hw _ (List.mem_of_getElem? (i := 54) rfl))) (notFace_of_selects (args := #[]) (mvT hZ (hw _ (List.mem_of_getElem? (i := 56) rfl)))) (mvT hZ (hw _ (List.mem_of_getElem? (i := 56) rfl))) (mvT hZ (hw _ (List.mem_of_getElem? (i := 55) rfl))) (by decide) (backOf (W := 0) (rm_frm l Z a0 hw [] r141 (2 : Int32) cb141 ck141 (6 : Int32) [lo1, hi1, r113, (r113 + (1 : Int64)), lo0, hi0] T141.heap n0 Z141 Fq_141 Aq_141 (by decide)) hZ (hw _ (List.mem_of_getElem? (i := 57) rfl)) (hw _ (List.mem_of_getElem? (i := 12) rfl)) (by decide) (by decide)) q144a q144c (g := (mkF m 218 #[.val (.long c0_), .second, .val (.long c1_), .second, .val (.long c2_), .second, .val (.long c3_), .second, .val (.long c4_), .second, .val (.int vk), .val (.long lo0), .second, .val (.long hi0), .second, .val (.long lo1), .second, .val (.long hi1), .second, .val (.long r113), .second, .val (.long (r113 + (1 : Int64))), .second, .val (.int (2 : Int32)), .val (.ref b134), .val (.ref b139), .val (.ref r141)] [(.int (2 : Int32)), (.ref r141)])) rfl (by rw [hml]; rfl) (Steps.refl _) (argsL := [(.int (2 : Int32))]) (rest := []) (lenOf pd_6 rfl) rfl (by show 2 * 0 + _ ≤ _; exact Nat.le_of_eq rfl) (hb hby at_218) (fun _ _ => ⟨rfl, e143, (by decide : 6 + 0 ≤ _), (by decide : 22 + 0 ≤ _)⟩)
    dsimp only [Pt.U, Pt.locs, Pt.cells, Pt.slots] at X144 l144 y144 z144 st144 hQ144
    subst l144 y144 z144
    obtain ⟨⟨r144, rfl, hr144⟩, N144q, e144⟩ := hQ144
    have N144 := Fr.app N143 N144q
    obtain rfl : lo0 = r144 := (hr144.trans rfl).symm
    obtain ⟨cq145, kq145, q145a, q145b, q145c⟩ := isOf hZ e144 Ez_141
    obtain ⟨_, _, ⟨T145, L145, k145, n145⟩, -, X145, ⟨Lc145, hQ145, l145, y145, z145⟩, st145⟩ := X144.virtualBack hx (y := (⟨"com/example/chronotriple/chronotriple/Box", "to", "(I)J"⟩ : MethodName)) (z := (⟨"com/example/chronotriple/chronotriple/Box", "to", "(I)J"⟩ : MethodName)) hown (mvT hZ (hw _ (List.mem_of_getElem? (i := 58) rfl))) (mvT hZ (hw _ (List.mem_of_getElem? (i := 59) rfl))) (notFace_of_selects (args := #[]) (mvT hZ (hw _ (List.mem_of_getElem? (i := 61) rfl)))) (mvT hZ (hw _ (List.mem_of_getElem? (i := 61) rfl))) (mvT hZ (hw _ (List.mem_of_getElem? (i := 60) rfl))) (by decide) (backOf (W := 0) (rm_to l Z a0 hw [] r141 (2 : Int32) cb141 ck141 (6 : Int32) [lo1, hi1, r113, (r113 + (1 : Int64)), lo0, hi0] T141.heap n0 Z141 Fq_141 Aq_141 (by decide)) hZ (hw _ (List.mem_of_getElem? (i := 62) rfl)) (hw _ (List.mem_of_getElem? (i := 12) rfl)) (by decide) (by decide)) q145a q145c (g := (mkF m 231 #[.val (.long c0_), .second, .val (.long c1_), .second, .val (.long c2_), .second, .val (.long c3_), .second, .val (.long c4_), .second, .val (.int vk), .val (.long lo0), .second, .val (.long hi0), .second, .val (.long lo1), .second, .val (.long hi1), .second, .val (.long r113), .second, .val (.long (r113 + (1 : Int64))), .second, .val (.int (2 : Int32)), .val (.ref b134), .val (.ref b139), .val (.ref r141)] [(.int (2 : Int32)), (.ref r141)])) rfl (by rw [hml]; rfl) (Steps.refl _) (argsL := [(.int (2 : Int32))]) (rest := []) (lenOf pd_6 rfl) rfl (by show 2 * 0 + _ ≤ _; exact Nat.le_of_eq rfl) (hb hby at_231) (fun _ _ => ⟨rfl, e144, (by decide : 6 + 0 ≤ _), (by decide : 22 + 0 ≤ _)⟩)
    dsimp only [Pt.U, Pt.locs, Pt.cells, Pt.slots] at X145 l145 y145 z145 st145 hQ145
    subst l145 y145 z145
    obtain ⟨⟨r145, rfl, hr145⟩, N145q, e145⟩ := hQ145
    have N145 := Fr.app N144 N145q
    obtain rfl : hi0 = r145 := (hr145.trans rfl).symm
    obtain ⟨cq146, kq146, q146a, q146b, q146c⟩ := isOf hZ e145 Ez_141
    obtain ⟨_, _, ⟨T146, L146, k146, n146⟩, -, X146, ⟨Lc146, hQ146, l146, y146, z146⟩, st146⟩ := X145.virtualBack hx (y := (⟨"com/example/chronotriple/chronotriple/Box", "from", "(I)J"⟩ : MethodName)) (z := (⟨"com/example/chronotriple/chronotriple/Box", "from", "(I)J"⟩ : MethodName)) hown (mvT hZ (hw _ (List.mem_of_getElem? (i := 53) rfl))) (mvT hZ (hw _ (List.mem_of_getElem? (i := 54) rfl))) (notFace_of_selects (args := #[]) (mvT hZ (hw _ (List.mem_of_getElem? (i := 56) rfl)))) (mvT hZ (hw _ (List.mem_of_getElem? (i := 56) rfl))) (mvT hZ (hw _ (List.mem_of_getElem? (i := 55) rfl))) (by decide) (backOf (W := 0) (rm_frm l Z a0 hw [] r141 (0 : Int32) cb141 ck141 (6 : Int32) [lo1, hi1, r113, (r113 + (1 : Int64)), lo0, hi0] T141.heap n0 Z141 Fq_141 Aq_141 (by decide)) hZ (hw _ (List.mem_of_getElem? (i := 57) rfl)) (hw _ (List.mem_of_getElem? (i := 12) rfl)) (by decide) (by decide)) q146a q146c (g := (mkF m 251 #[.val (.long c0_), .second, .val (.long c1_), .second, .val (.long c2_), .second, .val (.long c3_), .second, .val (.long c4_), .second, .val (.int vk), .val (.long lo0), .second, .val (.long hi0), .second, .val (.long lo1), .second, .val (.long hi1), .second, .val (.long r113), .second, .val (.long (r113 + (1 : Int64))), .second, .val (.int (2 : Int32)), .val (.ref b134), .val (.ref b139), .val (.ref r141)] [(.int (0 : Int32)), (.ref r141)])) rfl (by rw [hml]; rfl) (Steps.refl _) (argsL := [(.int (0 : Int32))]) (rest := []) (lenOf pd_6 rfl) rfl (by show 2 * 0 + _ ≤ _; exact Nat.le_of_eq rfl) (hb hby at_251) (fun _ _ => ⟨rfl, e145, (by decide : 6 + 0 ≤ _), (by decide : 22 + 0 ≤ _)⟩)
    dsimp only [Pt.U, Pt.locs, Pt.cells, Pt.slots] at X146 l146 y146 z146 st146 hQ146
    subst l146 y146 z146
    obtain ⟨⟨r146, rfl, hr146⟩, N146q, e146⟩ := hQ146
    have N146 := Fr.app N145 N146q
    obtain rfl : lo1 = r146 := (hr146.trans rfl).symm
    obtain ⟨cq147, kq147, q147a, q147b, q147c⟩ := isOf hZ e146 Ez_141
    obtain ⟨_, _, ⟨T147, L147, k147, n147⟩, -, X147, ⟨Lc147, hQ147, l147, y147, z147⟩, st147⟩ := X146.virtualBack hx (y := (⟨"com/example/chronotriple/chronotriple/Box", "to", "(I)J"⟩ : MethodName)) (z := (⟨"com/example/chronotriple/chronotriple/Box", "to", "(I)J"⟩ : MethodName)) hown (mvT hZ (hw _ (List.mem_of_getElem? (i := 58) rfl))) (mvT hZ (hw _ (List.mem_of_getElem? (i := 59) rfl))) (notFace_of_selects (args := #[]) (mvT hZ (hw _ (List.mem_of_getElem? (i := 61) rfl)))) (mvT hZ (hw _ (List.mem_of_getElem? (i := 61) rfl))) (mvT hZ (hw _ (List.mem_of_getElem? (i := 60) rfl))) (by decide) (backOf (W := 0) (rm_to l Z a0 hw [] r141 (0 : Int32) cb141 ck141 (6 : Int32) [lo1, hi1, r113, (r113 + (1 : Int64)), lo0, hi0] T141.heap n0 Z141 Fq_141 Aq_141 (by decide)) hZ (hw _ (List.mem_of_getElem? (i := 62) rfl)) (hw _ (List.mem_of_getElem? (i := 12) rfl)) (by decide) (by decide)) q147a q147c (g := (mkF m 263 #[.val (.long c0_), .second, .val (.long c1_), .second, .val (.long c2_), .second, .val (.long c3_), .second, .val (.long c4_), .second, .val (.int vk), .val (.long lo0), .second, .val (.long hi0), .second, .val (.long lo1), .second, .val (.long hi1), .second, .val (.long r113), .second, .val (.long (r113 + (1 : Int64))), .second, .val (.int (2 : Int32)), .val (.ref b134), .val (.ref b139), .val (.ref r141)] [(.int (0 : Int32)), (.ref r141)])) rfl (by rw [hml]; rfl) (Steps.refl _) (argsL := [(.int (0 : Int32))]) (rest := []) (lenOf pd_6 rfl) rfl (by show 2 * 0 + _ ≤ _; exact Nat.le_of_eq rfl) (hb hby at_263) (fun _ _ => ⟨rfl, e146, (by decide : 6 + 0 ≤ _), (by decide : 22 + 0 ≤ _)⟩)
    dsimp only [Pt.U, Pt.locs, Pt.cells, Pt.slots] at X147 l147 y147 z147 st147 hQ147
    subst l147 y147 z147
    obtain ⟨⟨r147, rfl, hr147⟩, N147q, e147⟩ := hQ147
    have N147 := Fr.app N146 N147q
    obtain rfl : hi1 = r147 := (hr147.trans rfl).symm
    obtain ⟨cq148, kq148, q148a, q148b, q148c⟩ := isOf hZ e147 Ez_141
    obtain ⟨_, _, ⟨T148, L148, k148, n148⟩, -, X148, ⟨Lc148, hQ148, l148, y148, z148⟩, st148⟩ := X147.virtualBack hx (y := (⟨"com/example/chronotriple/chronotriple/Box", "from", "(I)J"⟩ : MethodName)) (z := (⟨"com/example/chronotriple/chronotriple/Box", "from", "(I)J"⟩ : MethodName)) hown (mvT hZ (hw _ (List.mem_of_getElem? (i := 53) rfl))) (mvT hZ (hw _ (List.mem_of_getElem? (i := 54) rfl))) (notFace_of_selects (args := #[]) (mvT hZ (hw _ (List.mem_of_getElem? (i := 56) rfl)))) (mvT hZ (hw _ (List.mem_of_getElem? (i := 56) rfl))) (mvT hZ (hw _ (List.mem_of_getElem? (i := 55) rfl))) (by decide) (backOf (W := 0) (rm_frm l Z a0 hw [] r141 (1 : Int32) cb141 ck141 (6 : Int32) [lo1, hi1, r113, (r113 + (1 : Int64)), lo0, hi0] T141.heap n0 Z141 Fq_141 Aq_141 (by decide)) hZ (hw _ (List.mem_of_getElem? (i := 57) rfl)) (hw _ (List.mem_of_getElem? (i := 12) rfl)) (by decide) (by decide)) q148a q148c (g := (mkF m 283 #[.val (.long c0_), .second, .val (.long c1_), .second, .val (.long c2_), .second, .val (.long c3_), .second, .val (.long c4_), .second, .val (.int vk), .val (.long lo0), .second, .val (.long hi0), .second, .val (.long lo1), .second, .val (.long hi1), .second, .val (.long r113), .second, .val (.long (r113 + (1 : Int64))), .second, .val (.int (2 : Int32)), .val (.ref b134), .val (.ref b139), .val (.ref r141)] [(.int (1 : Int32)), (.ref r141)])) rfl (by rw [hml]; rfl) (Steps.refl _) (argsL := [(.int (1 : Int32))]) (rest := []) (lenOf pd_6 rfl) rfl (by show 2 * 0 + _ ≤ _; exact Nat.le_of_eq rfl) (hb hby at_283) (fun _ _ => ⟨rfl, e147, (by decide : 6 + 0 ≤ _), (by decide : 22 + 0 ≤ _)⟩)
    dsimp only [Pt.U, Pt.locs, Pt.cells, Pt.slots] at X148 l148 y148 z148 st148 hQ148
    subst l148 y148 z148
    obtain ⟨⟨r148, rfl, hr148⟩, N148q, e148⟩ := hQ148
    have N148 := Fr.app N147 N148q
    obtain rfl : r113 = r148 := (hr148.trans rfl).symm
    obtain ⟨cq149, kq149, q149a, q149b, q149c⟩ := isOf hZ e148 Ez_141
    obtain ⟨_, _, ⟨T149, L149, k149, n149⟩, -, X149, ⟨Lc149, hQ149, l149, y149, z149⟩, st149⟩ := X148.virtualBack hx (y := (⟨"com/example/chronotriple/chronotriple/Box", "to", "(I)J"⟩ : MethodName)) (z := (⟨"com/example/chronotriple/chronotriple/Box", "to", "(I)J"⟩ : MethodName)) hown (mvT hZ (hw _ (List.mem_of_getElem? (i := 58) rfl))) (mvT hZ (hw _ (List.mem_of_getElem? (i := 59) rfl))) (notFace_of_selects (args := #[]) (mvT hZ (hw _ (List.mem_of_getElem? (i := 61) rfl)))) (mvT hZ (hw _ (List.mem_of_getElem? (i := 61) rfl))) (mvT hZ (hw _ (List.mem_of_getElem? (i := 60) rfl))) (by decide) (backOf (W := 0) (rm_to l Z a0 hw [] r141 (1 : Int32) cb141 ck141 (6 : Int32) [lo1, hi1, r113, (r113 + (1 : Int64)), lo0, hi0] T141.heap n0 Z141 Fq_141 Aq_141 (by decide)) hZ (hw _ (List.mem_of_getElem? (i := 62) rfl)) (hw _ (List.mem_of_getElem? (i := 12) rfl)) (by decide) (by decide)) q149a q149c (g := (mkF m 295 #[.val (.long c0_), .second, .val (.long c1_), .second, .val (.long c2_), .second, .val (.long c3_), .second, .val (.long c4_), .second, .val (.int vk), .val (.long lo0), .second, .val (.long hi0), .second, .val (.long lo1), .second, .val (.long hi1), .second, .val (.long r113), .second, .val (.long (r113 + (1 : Int64))), .second, .val (.int (2 : Int32)), .val (.ref b134), .val (.ref b139), .val (.ref r141)] [(.int (1 : Int32)), (.ref r141)])) rfl (by rw [hml]; rfl) (Steps.refl _) (argsL := [(.int (1 : Int32))]) (rest := []) (lenOf pd_6 rfl) rfl (by show 2 * 0 + _ ≤ _; exact Nat.le_of_eq rfl) (hb hby at_295) (fun _ _ => ⟨rfl, e148, (by decide : 6 + 0 ≤ _), (by decide : 22 + 0 ≤ _)⟩)
    dsimp only [Pt.U, Pt.locs, Pt.cells, Pt.slots] at X149 l149 y149 z149 st149 hQ149
    subst l149 y149 z149
    obtain ⟨⟨r149, rfl, hr149⟩, N149q, e149⟩ := hQ149
    have N149 := Fr.app N148 N149q
    obtain rfl : (r113 + (1 : Int64)) = r149 := (hr149.trans rfl).symm
    obtain ⟨fs, hr, hrun, hended, hW, hsame⟩ := X149.leave (v := some (.int (1 : Int32))) (fun h => by rw [Bd.returns] at h; cases h)
    refine ⟨_, _, pre0 _ ?_, hrun, hended, _, _, rfl, ?_, ⟨_, rfl⟩, hW, hsame.mono (by decide) (by decide)⟩
    · show Steps p.tables e below (s₁.setTop (mkF m 0 #[.val (.long c0_), .second, .val (.long c1_), .second, .val (.long c2_), .second, .val (.long c3_), .second, .val (.long c4_), .second, .val (.int vk), .unset, .unset, .unset, .unset, .unset, .unset, .unset, .unset, .unset, .unset, .unset, .unset, .unset, .unset, .unset, .unset] [])) _
      refine st103 _ ?_
      show Steps p.tables e below (T103.setTop (mkF m 37 #[.val (.long c0_), .second, .val (.long c1_), .second, .val (.long c2_), .second, .val (.long c3_), .second, .val (.long c4_), .second, .val (.int vk), .val (.long lo0), .second, .val (.long hi0), .second, .unset, .unset, .unset, .unset, .unset, .unset, .unset, .unset, .unset, .unset, .unset, .unset] [])) _
      refine st108 _ ?_
      show Steps p.tables e below (T108.setTop (mkF m 79 #[.val (.long c0_), .second, .val (.long c1_), .second, .val (.long c2_), .second, .val (.long c3_), .second, .val (.long c4_), .second, .val (.int vk), .val (.long lo0), .second, .val (.long hi0), .second, .val (.long lo1), .second, .val (.long hi1), .second, .unset, .unset, .unset, .unset, .unset, .unset, .unset, .unset] [])) _
      refine XS.lload X108.here hx rfl (hb hby at_79) rfl ?_
      show Steps p.tables e below (T108.setTop (mkF m 81 #[.val (.long c0_), .second, .val (.long c1_), .second, .val (.long c2_), .second, .val (.long c3_), .second, .val (.long c4_), .second, .val (.int vk), .val (.long lo0), .second, .val (.long hi0), .second, .val (.long lo1), .second, .val (.long hi1), .second, .unset, .unset, .unset, .unset, .unset, .unset, .unset, .unset] [(.long c4_)])) _
      refine X108.ldc2Long hx hown (mvT hZ (hw _ (List.mem_of_getElem? (i := 7) rfl))) (g := (mkF m 81 #[.val (.long c0_), .second, .val (.long c1_), .second, .val (.long c2_), .second, .val (.long c3_), .second, .val (.long c4_), .second, .val (.int vk), .val (.long lo0), .second, .val (.long hi0), .second, .val (.long lo1), .second, .val (.long hi1), .second, .unset, .unset, .unset, .unset, .unset, .unset, .unset, .unset] [(.long c4_)])) rfl (hb hby at_81) _ ?_
      show Steps p.tables e below (T108.setTop (mkF m 84 #[.val (.long c0_), .second, .val (.long c1_), .second, .val (.long c2_), .second, .val (.long c3_), .second, .val (.long c4_), .second, .val (.int vk), .val (.long lo0), .second, .val (.long hi0), .second, .val (.long lo1), .second, .val (.long hi1), .second, .unset, .unset, .unset, .unset, .unset, .unset, .unset, .unset] [(.long (9223372036854775806 : Int64)), (.long c4_)])) _
      refine st113 _ ?_
      show Steps p.tables e below (T113.setTop (mkF m 87 #[.val (.long c0_), .second, .val (.long c1_), .second, .val (.long c2_), .second, .val (.long c3_), .second, .val (.long c4_), .second, .val (.int vk), .val (.long lo0), .second, .val (.long hi0), .second, .val (.long lo1), .second, .val (.long hi1), .second, .unset, .unset, .unset, .unset, .unset, .unset, .unset, .unset] [(.long r113)])) _
      refine XS.lstore X113.here hx rfl (hb hby at_87) rfl (l' := #[.val (.long c0_), .second, .val (.long c1_), .second, .val (.long c2_), .second, .val (.long c3_), .second, .val (.long c4_), .second, .val (.int vk), .val (.long lo0), .second, .val (.long hi0), .second, .val (.long lo1), .second, .val (.long hi1), .second, .val (.long r113), .second, .unset, .unset, .unset, .unset, .unset, .unset]) rfl ?_
      show Steps p.tables e below (T113.setTop (mkF m 89 #[.val (.long c0_), .second, .val (.long c1_), .second, .val (.long c2_), .second, .val (.long c3_), .second, .val (.long c4_), .second, .val (.int vk), .val (.long lo0), .second, .val (.long hi0), .second, .val (.long lo1), .second, .val (.long hi1), .second, .val (.long r113), .second, .unset, .unset, .unset, .unset, .unset, .unset] [])) _
      refine XS.lload X113.here hx rfl (hb hby at_89) rfl ?_
      show Steps p.tables e below (T113.setTop (mkF m 91 #[.val (.long c0_), .second, .val (.long c1_), .second, .val (.long c2_), .second, .val (.long c3_), .second, .val (.long c4_), .second, .val (.int vk), .val (.long lo0), .second, .val (.long hi0), .second, .val (.long lo1), .second, .val (.long hi1), .second, .val (.long r113), .second, .unset, .unset, .unset, .unset, .unset, .unset] [(.long r113)])) _
      refine XS.lconst X113.here hx rfl (hb hby at_91) ?_
      show Steps p.tables e below (T113.setTop (mkF m 92 #[.val (.long c0_), .second, .val (.long c1_), .second, .val (.long c2_), .second, .val (.long c3_), .second, .val (.long c4_), .second, .val (.int vk), .val (.long lo0), .second, .val (.long hi0), .second, .val (.long lo1), .second, .val (.long hi1), .second, .val (.long r113), .second, .unset, .unset, .unset, .unset, .unset, .unset] [(.long (1 : Int64)), (.long r113)])) _
      refine XS.ladd X113.here hx rfl (hb hby at_92) rfl ?_
      show Steps p.tables e below (T113.setTop (mkF m 93 #[.val (.long c0_), .second, .val (.long c1_), .second, .val (.long c2_), .second, .val (.long c3_), .second, .val (.long c4_), .second, .val (.int vk), .val (.long lo0), .second, .val (.long hi0), .second, .val (.long lo1), .second, .val (.long hi1), .second, .val (.long r113), .second, .unset, .unset, .unset, .unset, .unset, .unset] [(.long (r113 + (1 : Int64)))])) _
      refine XS.lstore X113.here hx rfl (hb hby at_93) rfl (l' := #[.val (.long c0_), .second, .val (.long c1_), .second, .val (.long c2_), .second, .val (.long c3_), .second, .val (.long c4_), .second, .val (.int vk), .val (.long lo0), .second, .val (.long hi0), .second, .val (.long lo1), .second, .val (.long hi1), .second, .val (.long r113), .second, .val (.long (r113 + (1 : Int64))), .second, .unset, .unset, .unset, .unset]) rfl ?_
      show Steps p.tables e below (T113.setTop (mkF m 95 #[.val (.long c0_), .second, .val (.long c1_), .second, .val (.long c2_), .second, .val (.long c3_), .second, .val (.long c4_), .second, .val (.int vk), .val (.long lo0), .second, .val (.long hi0), .second, .val (.long lo1), .second, .val (.long hi1), .second, .val (.long r113), .second, .val (.long (r113 + (1 : Int64))), .second, .unset, .unset, .unset, .unset] [])) _
      refine XS.iload X113.here hx rfl (hb hby at_95) rfl ?_
      show Steps p.tables e below (T113.setTop (mkF m 97 #[.val (.long c0_), .second, .val (.long c1_), .second, .val (.long c2_), .second, .val (.long c3_), .second, .val (.long c4_), .second, .val (.int vk), .val (.long lo0), .second, .val (.long hi0), .second, .val (.long lo1), .second, .val (.long hi1), .second, .val (.long r113), .second, .val (.long (r113 + (1 : Int64))), .second, .unset, .unset, .unset, .unset] [(.int vk)])) _
      refine X113.ldcInt hx hown (mvT hZ (hw _ (List.mem_of_getElem? (i := 8) rfl))) (g := (mkF m 97 #[.val (.long c0_), .second, .val (.long c1_), .second, .val (.long c2_), .second, .val (.long c3_), .second, .val (.long c4_), .second, .val (.int vk), .val (.long lo0), .second, .val (.long hi0), .second, .val (.long lo1), .second, .val (.long hi1), .second, .val (.long r113), .second, .val (.long (r113 + (1 : Int64))), .second, .unset, .unset, .unset, .unset] [(.int vk)])) rfl (hb hby at_97) _ ?_
      show Steps p.tables e below (T113.setTop (mkF m 99 #[.val (.long c0_), .second, .val (.long c1_), .second, .val (.long c2_), .second, .val (.long c3_), .second, .val (.long c4_), .second, .val (.int vk), .val (.long lo0), .second, .val (.long hi0), .second, .val (.long lo1), .second, .val (.long hi1), .second, .val (.long r113), .second, .val (.long (r113 + (1 : Int64))), .second, .unset, .unset, .unset, .unset] [(.int (2147483647 : Int32)), (.int vk)])) _
      refine XS.iand X113.here hx rfl (hb hby at_99) rfl ?_
      show Steps p.tables e below (T113.setTop (mkF m 100 #[.val (.long c0_), .second, .val (.long c1_), .second, .val (.long c2_), .second, .val (.long c3_), .second, .val (.long c4_), .second, .val (.int vk), .val (.long lo0), .second, .val (.long hi0), .second, .val (.long lo1), .second, .val (.long hi1), .second, .val (.long r113), .second, .val (.long (r113 + (1 : Int64))), .second, .unset, .unset, .unset, .unset] [(.int (vk &&& (2147483647 : Int32)))])) _
      refine XS.iconst X113.here hx rfl (hb hby at_100) ?_
      show Steps p.tables e below (T113.setTop (mkF m 101 #[.val (.long c0_), .second, .val (.long c1_), .second, .val (.long c2_), .second, .val (.long c3_), .second, .val (.long c4_), .second, .val (.int vk), .val (.long lo0), .second, .val (.long hi0), .second, .val (.long lo1), .second, .val (.long hi1), .second, .val (.long r113), .second, .val (.long (r113 + (1 : Int64))), .second, .unset, .unset, .unset, .unset] [(.int (3 : Int32)), (.int (vk &&& (2147483647 : Int32)))])) _
      refine iremM X113 hx rfl (hb hby at_101) rfl (by decide) ?_
      show Steps p.tables e below (T113.setTop (mkF m 102 #[.val (.long c0_), .second, .val (.long c1_), .second, .val (.long c2_), .second, .val (.long c3_), .second, .val (.long c4_), .second, .val (.int vk), .val (.long lo0), .second, .val (.long hi0), .second, .val (.long lo1), .second, .val (.long hi1), .second, .val (.long r113), .second, .val (.long (r113 + (1 : Int64))), .second, .unset, .unset, .unset, .unset] [(.int ((vk &&& (2147483647 : Int32)) % (3 : Int32)))])) _
      rw [hd]
      show Steps p.tables e below (T113.setTop (mkF m 102 #[.val (.long c0_), .second, .val (.long c1_), .second, .val (.long c2_), .second, .val (.long c3_), .second, .val (.long c4_), .second, .val (.int vk), .val (.long lo0), .second, .val (.long hi0), .second, .val (.long lo1), .second, .val (.long hi1), .second, .val (.long r113), .second, .val (.long (r113 + (1 : Int64))), .second, .unset, .unset, .unset, .unset] [(.int (2 : Int32))])) _
      refine XS.istore X113.here hx rfl (hb hby at_102) rfl (l' := #[.val (.long c0_), .second, .val (.long c1_), .second, .val (.long c2_), .second, .val (.long c3_), .second, .val (.long c4_), .second, .val (.int vk), .val (.long lo0), .second, .val (.long hi0), .second, .val (.long lo1), .second, .val (.long hi1), .second, .val (.long r113), .second, .val (.long (r113 + (1 : Int64))), .second, .val (.int (2 : Int32)), .unset, .unset, .unset]) rfl ?_
      show Steps p.tables e below (T113.setTop (mkF m 104 #[.val (.long c0_), .second, .val (.long c1_), .second, .val (.long c2_), .second, .val (.long c3_), .second, .val (.long c4_), .second, .val (.int vk), .val (.long lo0), .second, .val (.long hi0), .second, .val (.long lo1), .second, .val (.long hi1), .second, .val (.long r113), .second, .val (.long (r113 + (1 : Int64))), .second, .val (.int (2 : Int32)), .unset, .unset, .unset] [])) _
      refine XS.iload X113.here hx rfl (hb hby at_104) rfl ?_
      show Steps p.tables e below (T113.setTop (mkF m 106 #[.val (.long c0_), .second, .val (.long c1_), .second, .val (.long c2_), .second, .val (.long c3_), .second, .val (.long c4_), .second, .val (.int vk), .val (.long lo0), .second, .val (.long hi0), .second, .val (.long lo1), .second, .val (.long hi1), .second, .val (.long r113), .second, .val (.long (r113 + (1 : Int64))), .second, .val (.int (2 : Int32)), .unset, .unset, .unset] [(.int (2 : Int32))])) _
      refine XS.ifYes X113.here hx rfl (pc0 := 106) (pc' := 117) rfl (hb hby at_106) rfl ((if0 _ _).trans (feq (by decide : ¬ ((2 : Int32) = (0 : Int32)))).2) (by decide) (by decide) ?_
      show Steps p.tables e below (T113.setTop (mkF m 117 #[.val (.long c0_), .second, .val (.long c1_), .second, .val (.long c2_), .second, .val (.long c3_), .second, .val (.long c4_), .second, .val (.int vk), .val (.long lo0), .second, .val (.long hi0), .second, .val (.long lo1), .second, .val (.long hi1), .second, .val (.long r113), .second, .val (.long (r113 + (1 : Int64))), .second, .val (.int (2 : Int32)), .unset, .unset, .unset] [])) _
      refine XS.iload X113.here hx rfl (hb hby at_117) rfl ?_
      show Steps p.tables e below (T113.setTop (mkF m 119 #[.val (.long c0_), .second, .val (.long c1_), .second, .val (.long c2_), .second, .val (.long c3_), .second, .val (.long c4_), .second, .val (.int vk), .val (.long lo0), .second, .val (.long hi0), .second, .val (.long lo1), .second, .val (.long hi1), .second, .val (.long r113), .second, .val (.long (r113 + (1 : Int64))), .second, .val (.int (2 : Int32)), .unset, .unset, .unset] [(.int (2 : Int32))])) _
      refine XS.iconst X113.here hx rfl (hb hby at_119) ?_
      show Steps p.tables e below (T113.setTop (mkF m 120 #[.val (.long c0_), .second, .val (.long c1_), .second, .val (.long c2_), .second, .val (.long c3_), .second, .val (.long c4_), .second, .val (.int vk), .val (.long lo0), .second, .val (.long hi0), .second, .val (.long lo1), .second, .val (.long hi1), .second, .val (.long r113), .second, .val (.long (r113 + (1 : Int64))), .second, .val (.int (2 : Int32)), .unset, .unset, .unset] [(.int (1 : Int32)), (.int (2 : Int32))])) _
      refine XS.icmpYes X113.here hx rfl (pc0 := 120) (pc' := 141) rfl (hb hby at_120) rfl (feq (by decide : ¬ ((2 : Int32) = (1 : Int32)))).2 (by decide) (by decide) ?_
      show Steps p.tables e below (T113.setTop (mkF m 141 #[.val (.long c0_), .second, .val (.long c1_), .second, .val (.long c2_), .second, .val (.long c3_), .second, .val (.long c4_), .second, .val (.int vk), .val (.long lo0), .second, .val (.long hi0), .second, .val (.long lo1), .second, .val (.long hi1), .second, .val (.long r113), .second, .val (.long (r113 + (1 : Int64))), .second, .val (.int (2 : Int32)), .unset, .unset, .unset] [])) _
      refine XS.iconst X113.here hx rfl (hb hby at_141) ?_
      show Steps p.tables e below (T113.setTop (mkF m 142 #[.val (.long c0_), .second, .val (.long c1_), .second, .val (.long c2_), .second, .val (.long c3_), .second, .val (.long c4_), .second, .val (.int vk), .val (.long lo0), .second, .val (.long hi0), .second, .val (.long lo1), .second, .val (.long hi1), .second, .val (.long r113), .second, .val (.long (r113 + (1 : Int64))), .second, .val (.int (2 : Int32)), .unset, .unset, .unset] [(.int (4 : Int32))])) _
      refine st134 _ ?_
      show Steps p.tables e below (T134.setTop (mkF m 144 #[.val (.long c0_), .second, .val (.long c1_), .second, .val (.long c2_), .second, .val (.long c3_), .second, .val (.long c4_), .second, .val (.int vk), .val (.long lo0), .second, .val (.long hi0), .second, .val (.long lo1), .second, .val (.long hi1), .second, .val (.long r113), .second, .val (.long (r113 + (1 : Int64))), .second, .val (.int (2 : Int32)), .unset, .unset, .unset] [(.ref b134)])) _
      refine XS.dup X134.here hx rfl (hb hby at_144) rfl rfl ?_
      show Steps p.tables e below (T134.setTop (mkF m 145 #[.val (.long c0_), .second, .val (.long c1_), .second, .val (.long c2_), .second, .val (.long c3_), .second, .val (.long c4_), .second, .val (.int vk), .val (.long lo0), .second, .val (.long hi0), .second, .val (.long lo1), .second, .val (.long hi1), .second, .val (.long r113), .second, .val (.long (r113 + (1 : Int64))), .second, .val (.int (2 : Int32)), .unset, .unset, .unset] [(.ref b134), (.ref b134)])) _
      refine XS.iconst X134.here hx rfl (hb hby at_145) ?_
      show Steps p.tables e below (T134.setTop (mkF m 146 #[.val (.long c0_), .second, .val (.long c1_), .second, .val (.long c2_), .second, .val (.long c3_), .second, .val (.long c4_), .second, .val (.int vk), .val (.long lo0), .second, .val (.long hi0), .second, .val (.long lo1), .second, .val (.long hi1), .second, .val (.long r113), .second, .val (.long (r113 + (1 : Int64))), .second, .val (.int (2 : Int32)), .unset, .unset, .unset] [(.int (0 : Int32)), (.ref b134), (.ref b134)])) _
      refine XS.lload X134.here hx rfl (hb hby at_146) rfl ?_
      show Steps p.tables e below (T134.setTop (mkF m 148 #[.val (.long c0_), .second, .val (.long c1_), .second, .val (.long c2_), .second, .val (.long c3_), .second, .val (.long c4_), .second, .val (.int vk), .val (.long lo0), .second, .val (.long hi0), .second, .val (.long lo1), .second, .val (.long hi1), .second, .val (.long r113), .second, .val (.long (r113 + (1 : Int64))), .second, .val (.int (2 : Int32)), .unset, .unset, .unset] [(.long lo1), (.int (0 : Int32)), (.ref b134), (.ref b134)])) _
      refine st135 _ ?_
      show Steps p.tables e below (T135.setTop (mkF m 149 #[.val (.long c0_), .second, .val (.long c1_), .second, .val (.long c2_), .second, .val (.long c3_), .second, .val (.long c4_), .second, .val (.int vk), .val (.long lo0), .second, .val (.long hi0), .second, .val (.long lo1), .second, .val (.long hi1), .second, .val (.long r113), .second, .val (.long (r113 + (1 : Int64))), .second, .val (.int (2 : Int32)), .unset, .unset, .unset] [(.ref b134)])) _
      refine XS.dup X135.here hx rfl (hb hby at_149) rfl rfl ?_
      show Steps p.tables e below (T135.setTop (mkF m 150 #[.val (.long c0_), .second, .val (.long c1_), .second, .val (.long c2_), .second, .val (.long c3_), .second, .val (.long c4_), .second, .val (.int vk), .val (.long lo0), .second, .val (.long hi0), .second, .val (.long lo1), .second, .val (.long hi1), .second, .val (.long r113), .second, .val (.long (r113 + (1 : Int64))), .second, .val (.int (2 : Int32)), .unset, .unset, .unset] [(.ref b134), (.ref b134)])) _
      refine XS.iconst X135.here hx rfl (hb hby at_150) ?_
      show Steps p.tables e below (T135.setTop (mkF m 151 #[.val (.long c0_), .second, .val (.long c1_), .second, .val (.long c2_), .second, .val (.long c3_), .second, .val (.long c4_), .second, .val (.int vk), .val (.long lo0), .second, .val (.long hi0), .second, .val (.long lo1), .second, .val (.long hi1), .second, .val (.long r113), .second, .val (.long (r113 + (1 : Int64))), .second, .val (.int (2 : Int32)), .unset, .unset, .unset] [(.int (1 : Int32)), (.ref b134), (.ref b134)])) _
      refine XS.lload X135.here hx rfl (hb hby at_151) rfl ?_
      show Steps p.tables e below (T135.setTop (mkF m 153 #[.val (.long c0_), .second, .val (.long c1_), .second, .val (.long c2_), .second, .val (.long c3_), .second, .val (.long c4_), .second, .val (.int vk), .val (.long lo0), .second, .val (.long hi0), .second, .val (.long lo1), .second, .val (.long hi1), .second, .val (.long r113), .second, .val (.long (r113 + (1 : Int64))), .second, .val (.int (2 : Int32)), .unset, .unset, .unset] [(.long hi1), (.int (1 : Int32)), (.ref b134), (.ref b134)])) _
      refine st136 _ ?_
      show Steps p.tables e below (T136.setTop (mkF m 154 #[.val (.long c0_), .second, .val (.long c1_), .second, .val (.long c2_), .second, .val (.long c3_), .second, .val (.long c4_), .second, .val (.int vk), .val (.long lo0), .second, .val (.long hi0), .second, .val (.long lo1), .second, .val (.long hi1), .second, .val (.long r113), .second, .val (.long (r113 + (1 : Int64))), .second, .val (.int (2 : Int32)), .unset, .unset, .unset] [(.ref b134)])) _
      refine XS.dup X136.here hx rfl (hb hby at_154) rfl rfl ?_
      show Steps p.tables e below (T136.setTop (mkF m 155 #[.val (.long c0_), .second, .val (.long c1_), .second, .val (.long c2_), .second, .val (.long c3_), .second, .val (.long c4_), .second, .val (.int vk), .val (.long lo0), .second, .val (.long hi0), .second, .val (.long lo1), .second, .val (.long hi1), .second, .val (.long r113), .second, .val (.long (r113 + (1 : Int64))), .second, .val (.int (2 : Int32)), .unset, .unset, .unset] [(.ref b134), (.ref b134)])) _
      refine XS.iconst X136.here hx rfl (hb hby at_155) ?_
      show Steps p.tables e below (T136.setTop (mkF m 156 #[.val (.long c0_), .second, .val (.long c1_), .second, .val (.long c2_), .second, .val (.long c3_), .second, .val (.long c4_), .second, .val (.int vk), .val (.long lo0), .second, .val (.long hi0), .second, .val (.long lo1), .second, .val (.long hi1), .second, .val (.long r113), .second, .val (.long (r113 + (1 : Int64))), .second, .val (.int (2 : Int32)), .unset, .unset, .unset] [(.int (2 : Int32)), (.ref b134), (.ref b134)])) _
      refine XS.lload X136.here hx rfl (hb hby at_156) rfl ?_
      show Steps p.tables e below (T136.setTop (mkF m 158 #[.val (.long c0_), .second, .val (.long c1_), .second, .val (.long c2_), .second, .val (.long c3_), .second, .val (.long c4_), .second, .val (.int vk), .val (.long lo0), .second, .val (.long hi0), .second, .val (.long lo1), .second, .val (.long hi1), .second, .val (.long r113), .second, .val (.long (r113 + (1 : Int64))), .second, .val (.int (2 : Int32)), .unset, .unset, .unset] [(.long r113), (.int (2 : Int32)), (.ref b134), (.ref b134)])) _
      refine st137 _ ?_
      show Steps p.tables e below (T137.setTop (mkF m 159 #[.val (.long c0_), .second, .val (.long c1_), .second, .val (.long c2_), .second, .val (.long c3_), .second, .val (.long c4_), .second, .val (.int vk), .val (.long lo0), .second, .val (.long hi0), .second, .val (.long lo1), .second, .val (.long hi1), .second, .val (.long r113), .second, .val (.long (r113 + (1 : Int64))), .second, .val (.int (2 : Int32)), .unset, .unset, .unset] [(.ref b134)])) _
      refine XS.dup X137.here hx rfl (hb hby at_159) rfl rfl ?_
      show Steps p.tables e below (T137.setTop (mkF m 160 #[.val (.long c0_), .second, .val (.long c1_), .second, .val (.long c2_), .second, .val (.long c3_), .second, .val (.long c4_), .second, .val (.int vk), .val (.long lo0), .second, .val (.long hi0), .second, .val (.long lo1), .second, .val (.long hi1), .second, .val (.long r113), .second, .val (.long (r113 + (1 : Int64))), .second, .val (.int (2 : Int32)), .unset, .unset, .unset] [(.ref b134), (.ref b134)])) _
      refine XS.iconst X137.here hx rfl (hb hby at_160) ?_
      show Steps p.tables e below (T137.setTop (mkF m 161 #[.val (.long c0_), .second, .val (.long c1_), .second, .val (.long c2_), .second, .val (.long c3_), .second, .val (.long c4_), .second, .val (.int vk), .val (.long lo0), .second, .val (.long hi0), .second, .val (.long lo1), .second, .val (.long hi1), .second, .val (.long r113), .second, .val (.long (r113 + (1 : Int64))), .second, .val (.int (2 : Int32)), .unset, .unset, .unset] [(.int (3 : Int32)), (.ref b134), (.ref b134)])) _
      refine XS.lload X137.here hx rfl (hb hby at_161) rfl ?_
      show Steps p.tables e below (T137.setTop (mkF m 163 #[.val (.long c0_), .second, .val (.long c1_), .second, .val (.long c2_), .second, .val (.long c3_), .second, .val (.long c4_), .second, .val (.int vk), .val (.long lo0), .second, .val (.long hi0), .second, .val (.long lo1), .second, .val (.long hi1), .second, .val (.long r113), .second, .val (.long (r113 + (1 : Int64))), .second, .val (.int (2 : Int32)), .unset, .unset, .unset] [(.long (r113 + (1 : Int64))), (.int (3 : Int32)), (.ref b134), (.ref b134)])) _
      refine st138 _ ?_
      show Steps p.tables e below (T138.setTop (mkF m 164 #[.val (.long c0_), .second, .val (.long c1_), .second, .val (.long c2_), .second, .val (.long c3_), .second, .val (.long c4_), .second, .val (.int vk), .val (.long lo0), .second, .val (.long hi0), .second, .val (.long lo1), .second, .val (.long hi1), .second, .val (.long r113), .second, .val (.long (r113 + (1 : Int64))), .second, .val (.int (2 : Int32)), .unset, .unset, .unset] [(.ref b134)])) _
      refine XS.astore X138.here hx rfl (hb hby at_164) rfl rfl (l' := #[.val (.long c0_), .second, .val (.long c1_), .second, .val (.long c2_), .second, .val (.long c3_), .second, .val (.long c4_), .second, .val (.int vk), .val (.long lo0), .second, .val (.long hi0), .second, .val (.long lo1), .second, .val (.long hi1), .second, .val (.long r113), .second, .val (.long (r113 + (1 : Int64))), .second, .val (.int (2 : Int32)), .val (.ref b134), .unset, .unset]) rfl ?_
      show Steps p.tables e below (T138.setTop (mkF m 166 #[.val (.long c0_), .second, .val (.long c1_), .second, .val (.long c2_), .second, .val (.long c3_), .second, .val (.long c4_), .second, .val (.int vk), .val (.long lo0), .second, .val (.long hi0), .second, .val (.long lo1), .second, .val (.long hi1), .second, .val (.long r113), .second, .val (.long (r113 + (1 : Int64))), .second, .val (.int (2 : Int32)), .val (.ref b134), .unset, .unset] [])) _
      refine st139 _ ?_
      show Steps p.tables e below (T139.setTop (mkF m 169 #[.val (.long c0_), .second, .val (.long c1_), .second, .val (.long c2_), .second, .val (.long c3_), .second, .val (.long c4_), .second, .val (.int vk), .val (.long lo0), .second, .val (.long hi0), .second, .val (.long lo1), .second, .val (.long hi1), .second, .val (.long r113), .second, .val (.long (r113 + (1 : Int64))), .second, .val (.int (2 : Int32)), .val (.ref b134), .unset, .unset] [(.ref b139)])) _
      refine XS.dup X139.here hx rfl (hb hby at_169) rfl rfl ?_
      show Steps p.tables e below (T139.setTop (mkF m 170 #[.val (.long c0_), .second, .val (.long c1_), .second, .val (.long c2_), .second, .val (.long c3_), .second, .val (.long c4_), .second, .val (.int vk), .val (.long lo0), .second, .val (.long hi0), .second, .val (.long lo1), .second, .val (.long hi1), .second, .val (.long r113), .second, .val (.long (r113 + (1 : Int64))), .second, .val (.int (2 : Int32)), .val (.ref b134), .unset, .unset] [(.ref b139), (.ref b139)])) _
      refine XS.aload X139.here hx rfl (hb hby at_170) rfl rfl ?_
      show Steps p.tables e below (T139.setTop (mkF m 172 #[.val (.long c0_), .second, .val (.long c1_), .second, .val (.long c2_), .second, .val (.long c3_), .second, .val (.long c4_), .second, .val (.int vk), .val (.long lo0), .second, .val (.long hi0), .second, .val (.long lo1), .second, .val (.long hi1), .second, .val (.long r113), .second, .val (.long (r113 + (1 : Int64))), .second, .val (.int (2 : Int32)), .val (.ref b134), .unset, .unset] [(.ref b134), (.ref b139), (.ref b139)])) _
      refine st140.trans ?_
      show Steps p.tables e below (T140.setTop (mkF m 175 #[.val (.long c0_), .second, .val (.long c1_), .second, .val (.long c2_), .second, .val (.long c3_), .second, .val (.long c4_), .second, .val (.int vk), .val (.long lo0), .second, .val (.long hi0), .second, .val (.long lo1), .second, .val (.long hi1), .second, .val (.long r113), .second, .val (.long (r113 + (1 : Int64))), .second, .val (.int (2 : Int32)), .val (.ref b134), .unset, .unset] [(.ref b139)])) _
      refine XS.astore X140.here hx rfl (hb hby at_175) rfl rfl (l' := #[.val (.long c0_), .second, .val (.long c1_), .second, .val (.long c2_), .second, .val (.long c3_), .second, .val (.long c4_), .second, .val (.int vk), .val (.long lo0), .second, .val (.long hi0), .second, .val (.long lo1), .second, .val (.long hi1), .second, .val (.long r113), .second, .val (.long (r113 + (1 : Int64))), .second, .val (.int (2 : Int32)), .val (.ref b134), .val (.ref b139), .unset]) rfl ?_
      show Steps p.tables e below (T140.setTop (mkF m 177 #[.val (.long c0_), .second, .val (.long c1_), .second, .val (.long c2_), .second, .val (.long c3_), .second, .val (.long c4_), .second, .val (.int vk), .val (.long lo0), .second, .val (.long hi0), .second, .val (.long lo1), .second, .val (.long hi1), .second, .val (.long r113), .second, .val (.long (r113 + (1 : Int64))), .second, .val (.int (2 : Int32)), .val (.ref b134), .val (.ref b139), .unset] [])) _
      refine XS.aload X140.here hx rfl (hb hby at_177) rfl rfl ?_
      show Steps p.tables e below (T140.setTop (mkF m 179 #[.val (.long c0_), .second, .val (.long c1_), .second, .val (.long c2_), .second, .val (.long c3_), .second, .val (.long c4_), .second, .val (.int vk), .val (.long lo0), .second, .val (.long hi0), .second, .val (.long lo1), .second, .val (.long hi1), .second, .val (.long r113), .second, .val (.long (r113 + (1 : Int64))), .second, .val (.int (2 : Int32)), .val (.ref b134), .val (.ref b139), .unset] [(.ref b139)])) _
      refine XS.lload X140.here hx rfl (hb hby at_179) rfl ?_
      show Steps p.tables e below (T140.setTop (mkF m 181 #[.val (.long c0_), .second, .val (.long c1_), .second, .val (.long c2_), .second, .val (.long c3_), .second, .val (.long c4_), .second, .val (.int vk), .val (.long lo0), .second, .val (.long hi0), .second, .val (.long lo1), .second, .val (.long hi1), .second, .val (.long r113), .second, .val (.long (r113 + (1 : Int64))), .second, .val (.int (2 : Int32)), .val (.ref b134), .val (.ref b139), .unset] [(.long lo0), (.ref b139)])) _
      refine XS.lload X140.here hx rfl (hb hby at_181) rfl ?_
      show Steps p.tables e below (T140.setTop (mkF m 183 #[.val (.long c0_), .second, .val (.long c1_), .second, .val (.long c2_), .second, .val (.long c3_), .second, .val (.long c4_), .second, .val (.int vk), .val (.long lo0), .second, .val (.long hi0), .second, .val (.long lo1), .second, .val (.long hi1), .second, .val (.long r113), .second, .val (.long (r113 + (1 : Int64))), .second, .val (.int (2 : Int32)), .val (.ref b134), .val (.ref b139), .unset] [(.long hi0), (.long lo0), (.ref b139)])) _
      refine st141.trans ?_
      show Steps p.tables e below (T141.setTop (mkF m 186 #[.val (.long c0_), .second, .val (.long c1_), .second, .val (.long c2_), .second, .val (.long c3_), .second, .val (.long c4_), .second, .val (.int vk), .val (.long lo0), .second, .val (.long hi0), .second, .val (.long lo1), .second, .val (.long hi1), .second, .val (.long r113), .second, .val (.long (r113 + (1 : Int64))), .second, .val (.int (2 : Int32)), .val (.ref b134), .val (.ref b139), .unset] [(.ref r141)])) _
      refine XS.astore X141.here hx rfl (hb hby at_186) rfl rfl (l' := #[.val (.long c0_), .second, .val (.long c1_), .second, .val (.long c2_), .second, .val (.long c3_), .second, .val (.long c4_), .second, .val (.int vk), .val (.long lo0), .second, .val (.long hi0), .second, .val (.long lo1), .second, .val (.long hi1), .second, .val (.long r113), .second, .val (.long (r113 + (1 : Int64))), .second, .val (.int (2 : Int32)), .val (.ref b134), .val (.ref b139), .val (.ref r141)]) rfl ?_
      show Steps p.tables e below (T141.setTop (mkF m 188 #[.val (.long c0_), .second, .val (.long c1_), .second, .val (.long c2_), .second, .val (.long c3_), .second, .val (.long c4_), .second, .val (.int vk), .val (.long lo0), .second, .val (.long hi0), .second, .val (.long lo1), .second, .val (.long hi1), .second, .val (.long r113), .second, .val (.long (r113 + (1 : Int64))), .second, .val (.int (2 : Int32)), .val (.ref b134), .val (.ref b139), .val (.ref r141)] [])) _
      refine XS.aload X141.here hx rfl (hb hby at_188) rfl rfl ?_
      show Steps p.tables e below (T141.setTop (mkF m 190 #[.val (.long c0_), .second, .val (.long c1_), .second, .val (.long c2_), .second, .val (.long c3_), .second, .val (.long c4_), .second, .val (.int vk), .val (.long lo0), .second, .val (.long hi0), .second, .val (.long lo1), .second, .val (.long hi1), .second, .val (.long r113), .second, .val (.long (r113 + (1 : Int64))), .second, .val (.int (2 : Int32)), .val (.ref b134), .val (.ref b139), .val (.ref r141)] [(.ref b139)])) _
      refine st142.trans ?_
      show Steps p.tables e below (T142.setTop (mkF m 193 #[.val (.long c0_), .second, .val (.long c1_), .second, .val (.long c2_), .second, .val (.long c3_), .second, .val (.long c4_), .second, .val (.int vk), .val (.long lo0), .second, .val (.long hi0), .second, .val (.long lo1), .second, .val (.long hi1), .second, .val (.long r113), .second, .val (.long (r113 + (1 : Int64))), .second, .val (.int (2 : Int32)), .val (.ref b134), .val (.ref b139), .val (.ref r141)] [(.int (2 : Int32))])) _
      refine XS.iload X142.here hx rfl (hb hby at_193) rfl ?_
      show Steps p.tables e below (T142.setTop (mkF m 195 #[.val (.long c0_), .second, .val (.long c1_), .second, .val (.long c2_), .second, .val (.long c3_), .second, .val (.long c4_), .second, .val (.int vk), .val (.long lo0), .second, .val (.long hi0), .second, .val (.long lo1), .second, .val (.long hi1), .second, .val (.long r113), .second, .val (.long (r113 + (1 : Int64))), .second, .val (.int (2 : Int32)), .val (.ref b134), .val (.ref b139), .val (.ref r141)] [(.int (2 : Int32)), (.int (2 : Int32))])) _
      refine XS.icmpYes X142.here hx rfl (pc0 := 195) (pc' := 200) rfl (hb hby at_195) rfl (teq (by decide : (2 : Int32) = (2 : Int32))).1 (by decide) (by decide) ?_
      show Steps p.tables e below (T142.setTop (mkF m 200 #[.val (.long c0_), .second, .val (.long c1_), .second, .val (.long c2_), .second, .val (.long c3_), .second, .val (.long c4_), .second, .val (.int vk), .val (.long lo0), .second, .val (.long hi0), .second, .val (.long lo1), .second, .val (.long hi1), .second, .val (.long r113), .second, .val (.long (r113 + (1 : Int64))), .second, .val (.int (2 : Int32)), .val (.ref b134), .val (.ref b139), .val (.ref r141)] [])) _
      refine XS.aload X142.here hx rfl (hb hby at_200) rfl rfl ?_
      show Steps p.tables e below (T142.setTop (mkF m 202 #[.val (.long c0_), .second, .val (.long c1_), .second, .val (.long c2_), .second, .val (.long c3_), .second, .val (.long c4_), .second, .val (.int vk), .val (.long lo0), .second, .val (.long hi0), .second, .val (.long lo1), .second, .val (.long hi1), .second, .val (.long r113), .second, .val (.long (r113 + (1 : Int64))), .second, .val (.int (2 : Int32)), .val (.ref b134), .val (.ref b139), .val (.ref r141)] [(.ref r141)])) _
      refine st143.trans ?_
      show Steps p.tables e below (T143.setTop (mkF m 205 #[.val (.long c0_), .second, .val (.long c1_), .second, .val (.long c2_), .second, .val (.long c3_), .second, .val (.long c4_), .second, .val (.int vk), .val (.long lo0), .second, .val (.long hi0), .second, .val (.long lo1), .second, .val (.long hi1), .second, .val (.long r113), .second, .val (.long (r113 + (1 : Int64))), .second, .val (.int (2 : Int32)), .val (.ref b134), .val (.ref b139), .val (.ref r141)] [(.int (3 : Int32))])) _
      refine XS.iload X143.here hx rfl (hb hby at_205) rfl ?_
      show Steps p.tables e below (T143.setTop (mkF m 207 #[.val (.long c0_), .second, .val (.long c1_), .second, .val (.long c2_), .second, .val (.long c3_), .second, .val (.long c4_), .second, .val (.int vk), .val (.long lo0), .second, .val (.long hi0), .second, .val (.long lo1), .second, .val (.long hi1), .second, .val (.long r113), .second, .val (.long (r113 + (1 : Int64))), .second, .val (.int (2 : Int32)), .val (.ref b134), .val (.ref b139), .val (.ref r141)] [(.int (2 : Int32)), (.int (3 : Int32))])) _
      refine XS.iconst X143.here hx rfl (hb hby at_207) ?_
      show Steps p.tables e below (T143.setTop (mkF m 208 #[.val (.long c0_), .second, .val (.long c1_), .second, .val (.long c2_), .second, .val (.long c3_), .second, .val (.long c4_), .second, .val (.int vk), .val (.long lo0), .second, .val (.long hi0), .second, .val (.long lo1), .second, .val (.long hi1), .second, .val (.long r113), .second, .val (.long (r113 + (1 : Int64))), .second, .val (.int (2 : Int32)), .val (.ref b134), .val (.ref b139), .val (.ref r141)] [(.int (1 : Int32)), (.int (2 : Int32)), (.int (3 : Int32))])) _
      refine XS.iadd X143.here hx rfl (hb hby at_208) rfl ?_
      show Steps p.tables e below (T143.setTop (mkF m 209 #[.val (.long c0_), .second, .val (.long c1_), .second, .val (.long c2_), .second, .val (.long c3_), .second, .val (.long c4_), .second, .val (.int vk), .val (.long lo0), .second, .val (.long hi0), .second, .val (.long lo1), .second, .val (.long hi1), .second, .val (.long r113), .second, .val (.long (r113 + (1 : Int64))), .second, .val (.int (2 : Int32)), .val (.ref b134), .val (.ref b139), .val (.ref r141)] [(.int (3 : Int32)), (.int (3 : Int32))])) _
      refine XS.icmpYes X143.here hx rfl (pc0 := 209) (pc' := 214) rfl (hb hby at_209) rfl (teq (by decide : (3 : Int32) = (3 : Int32))).1 (by decide) (by decide) ?_
      show Steps p.tables e below (T143.setTop (mkF m 214 #[.val (.long c0_), .second, .val (.long c1_), .second, .val (.long c2_), .second, .val (.long c3_), .second, .val (.long c4_), .second, .val (.int vk), .val (.long lo0), .second, .val (.long hi0), .second, .val (.long lo1), .second, .val (.long hi1), .second, .val (.long r113), .second, .val (.long (r113 + (1 : Int64))), .second, .val (.int (2 : Int32)), .val (.ref b134), .val (.ref b139), .val (.ref r141)] [])) _
      refine XS.aload X143.here hx rfl (hb hby at_214) rfl rfl ?_
      show Steps p.tables e below (T143.setTop (mkF m 216 #[.val (.long c0_), .second, .val (.long c1_), .second, .val (.long c2_), .second, .val (.long c3_), .second, .val (.long c4_), .second, .val (.int vk), .val (.long lo0), .second, .val (.long hi0), .second, .val (.long lo1), .second, .val (.long hi1), .second, .val (.long r113), .second, .val (.long (r113 + (1 : Int64))), .second, .val (.int (2 : Int32)), .val (.ref b134), .val (.ref b139), .val (.ref r141)] [(.ref r141)])) _
      refine XS.iload X143.here hx rfl (hb hby at_216) rfl ?_
      show Steps p.tables e below (T143.setTop (mkF m 218 #[.val (.long c0_), .second, .val (.long c1_), .second, .val (.long c2_), .second, .val (.long c3_), .second, .val (.long c4_), .second, .val (.int vk), .val (.long lo0), .second, .val (.long hi0), .second, .val (.long lo1), .second, .val (.long hi1), .second, .val (.long r113), .second, .val (.long (r113 + (1 : Int64))), .second, .val (.int (2 : Int32)), .val (.ref b134), .val (.ref b139), .val (.ref r141)] [(.int (2 : Int32)), (.ref r141)])) _
      refine st144.trans ?_
      show Steps p.tables e below (T144.setTop (mkF m 221 #[.val (.long c0_), .second, .val (.long c1_), .second, .val (.long c2_), .second, .val (.long c3_), .second, .val (.long c4_), .second, .val (.int vk), .val (.long lo0), .second, .val (.long hi0), .second, .val (.long lo1), .second, .val (.long hi1), .second, .val (.long r113), .second, .val (.long (r113 + (1 : Int64))), .second, .val (.int (2 : Int32)), .val (.ref b134), .val (.ref b139), .val (.ref r141)] [(.long lo0)])) _
      refine XS.lload X144.here hx rfl (hb hby at_221) rfl ?_
      show Steps p.tables e below (T144.setTop (mkF m 223 #[.val (.long c0_), .second, .val (.long c1_), .second, .val (.long c2_), .second, .val (.long c3_), .second, .val (.long c4_), .second, .val (.int vk), .val (.long lo0), .second, .val (.long hi0), .second, .val (.long lo1), .second, .val (.long hi1), .second, .val (.long r113), .second, .val (.long (r113 + (1 : Int64))), .second, .val (.int (2 : Int32)), .val (.ref b134), .val (.ref b139), .val (.ref r141)] [(.long lo0), (.long lo0)])) _
      refine XS.lcmp X144.here hx rfl (hb hby at_223) rfl ?_
      show Steps p.tables e below (T144.setTop (mkF m 224 #[.val (.long c0_), .second, .val (.long c1_), .second, .val (.long c2_), .second, .val (.long c3_), .second, .val (.long c4_), .second, .val (.int vk), .val (.long lo0), .second, .val (.long hi0), .second, .val (.long lo1), .second, .val (.long hi1), .second, .val (.long r113), .second, .val (.long (r113 + (1 : Int64))), .second, .val (.int (2 : Int32)), .val (.ref b134), .val (.ref b139), .val (.ref r141)] [(.int (lcmpW lo0 lo0))])) _
      refine XS.ifNo X144.here hx rfl (hb hby at_224) rfl ((if0 _ _).trans (teq ((lw_eq _ _).mpr (rfl : lo0 = lo0))).2) ?_
      show Steps p.tables e below (T144.setTop (mkF m 227 #[.val (.long c0_), .second, .val (.long c1_), .second, .val (.long c2_), .second, .val (.long c3_), .second, .val (.long c4_), .second, .val (.int vk), .val (.long lo0), .second, .val (.long hi0), .second, .val (.long lo1), .second, .val (.long hi1), .second, .val (.long r113), .second, .val (.long (r113 + (1 : Int64))), .second, .val (.int (2 : Int32)), .val (.ref b134), .val (.ref b139), .val (.ref r141)] [])) _
      refine XS.aload X144.here hx rfl (hb hby at_227) rfl rfl ?_
      show Steps p.tables e below (T144.setTop (mkF m 229 #[.val (.long c0_), .second, .val (.long c1_), .second, .val (.long c2_), .second, .val (.long c3_), .second, .val (.long c4_), .second, .val (.int vk), .val (.long lo0), .second, .val (.long hi0), .second, .val (.long lo1), .second, .val (.long hi1), .second, .val (.long r113), .second, .val (.long (r113 + (1 : Int64))), .second, .val (.int (2 : Int32)), .val (.ref b134), .val (.ref b139), .val (.ref r141)] [(.ref r141)])) _
      refine XS.iload X144.here hx rfl (hb hby at_229) rfl ?_
      show Steps p.tables e below (T144.setTop (mkF m 231 #[.val (.long c0_), .second, .val (.long c1_), .second, .val (.long c2_), .second, .val (.long c3_), .second, .val (.long c4_), .second, .val (.int vk), .val (.long lo0), .second, .val (.long hi0), .second, .val (.long lo1), .second, .val (.long hi1), .second, .val (.long r113), .second, .val (.long (r113 + (1 : Int64))), .second, .val (.int (2 : Int32)), .val (.ref b134), .val (.ref b139), .val (.ref r141)] [(.int (2 : Int32)), (.ref r141)])) _
      refine st145.trans ?_
      show Steps p.tables e below (T145.setTop (mkF m 234 #[.val (.long c0_), .second, .val (.long c1_), .second, .val (.long c2_), .second, .val (.long c3_), .second, .val (.long c4_), .second, .val (.int vk), .val (.long lo0), .second, .val (.long hi0), .second, .val (.long lo1), .second, .val (.long hi1), .second, .val (.long r113), .second, .val (.long (r113 + (1 : Int64))), .second, .val (.int (2 : Int32)), .val (.ref b134), .val (.ref b139), .val (.ref r141)] [(.long hi0)])) _
      refine XS.lload X145.here hx rfl (hb hby at_234) rfl ?_
      show Steps p.tables e below (T145.setTop (mkF m 236 #[.val (.long c0_), .second, .val (.long c1_), .second, .val (.long c2_), .second, .val (.long c3_), .second, .val (.long c4_), .second, .val (.int vk), .val (.long lo0), .second, .val (.long hi0), .second, .val (.long lo1), .second, .val (.long hi1), .second, .val (.long r113), .second, .val (.long (r113 + (1 : Int64))), .second, .val (.int (2 : Int32)), .val (.ref b134), .val (.ref b139), .val (.ref r141)] [(.long hi0), (.long hi0)])) _
      refine XS.lcmp X145.here hx rfl (hb hby at_236) rfl ?_
      show Steps p.tables e below (T145.setTop (mkF m 237 #[.val (.long c0_), .second, .val (.long c1_), .second, .val (.long c2_), .second, .val (.long c3_), .second, .val (.long c4_), .second, .val (.int vk), .val (.long lo0), .second, .val (.long hi0), .second, .val (.long lo1), .second, .val (.long hi1), .second, .val (.long r113), .second, .val (.long (r113 + (1 : Int64))), .second, .val (.int (2 : Int32)), .val (.ref b134), .val (.ref b139), .val (.ref r141)] [(.int (lcmpW hi0 hi0))])) _
      refine XS.ifYes X145.here hx rfl (pc0 := 237) (pc' := 242) rfl (hb hby at_237) rfl ((if0 _ _).trans (teq ((lw_eq _ _).mpr (rfl : hi0 = hi0))).1) (by decide) (by decide) ?_
      show Steps p.tables e below (T145.setTop (mkF m 242 #[.val (.long c0_), .second, .val (.long c1_), .second, .val (.long c2_), .second, .val (.long c3_), .second, .val (.long c4_), .second, .val (.int vk), .val (.long lo0), .second, .val (.long hi0), .second, .val (.long lo1), .second, .val (.long hi1), .second, .val (.long r113), .second, .val (.long (r113 + (1 : Int64))), .second, .val (.int (2 : Int32)), .val (.ref b134), .val (.ref b139), .val (.ref r141)] [])) _
      refine XS.iload X145.here hx rfl (hb hby at_242) rfl ?_
      show Steps p.tables e below (T145.setTop (mkF m 244 #[.val (.long c0_), .second, .val (.long c1_), .second, .val (.long c2_), .second, .val (.long c3_), .second, .val (.long c4_), .second, .val (.int vk), .val (.long lo0), .second, .val (.long hi0), .second, .val (.long lo1), .second, .val (.long hi1), .second, .val (.long r113), .second, .val (.long (r113 + (1 : Int64))), .second, .val (.int (2 : Int32)), .val (.ref b134), .val (.ref b139), .val (.ref r141)] [(.int (2 : Int32))])) _
      refine XS.iconst X145.here hx rfl (hb hby at_244) ?_
      show Steps p.tables e below (T145.setTop (mkF m 245 #[.val (.long c0_), .second, .val (.long c1_), .second, .val (.long c2_), .second, .val (.long c3_), .second, .val (.long c4_), .second, .val (.int vk), .val (.long lo0), .second, .val (.long hi0), .second, .val (.long lo1), .second, .val (.long hi1), .second, .val (.long r113), .second, .val (.long (r113 + (1 : Int64))), .second, .val (.int (2 : Int32)), .val (.ref b134), .val (.ref b139), .val (.ref r141)] [(.int (1 : Int32)), (.int (2 : Int32))])) _
      refine XS.icmpNo X145.here hx rfl (hb hby at_245) rfl (flt (by decide : ¬ ((2 : Int32) < (1 : Int32)))).1 ?_
      show Steps p.tables e below (T145.setTop (mkF m 248 #[.val (.long c0_), .second, .val (.long c1_), .second, .val (.long c2_), .second, .val (.long c3_), .second, .val (.long c4_), .second, .val (.int vk), .val (.long lo0), .second, .val (.long hi0), .second, .val (.long lo1), .second, .val (.long hi1), .second, .val (.long r113), .second, .val (.long (r113 + (1 : Int64))), .second, .val (.int (2 : Int32)), .val (.ref b134), .val (.ref b139), .val (.ref r141)] [])) _
      refine XS.aload X145.here hx rfl (hb hby at_248) rfl rfl ?_
      show Steps p.tables e below (T145.setTop (mkF m 250 #[.val (.long c0_), .second, .val (.long c1_), .second, .val (.long c2_), .second, .val (.long c3_), .second, .val (.long c4_), .second, .val (.int vk), .val (.long lo0), .second, .val (.long hi0), .second, .val (.long lo1), .second, .val (.long hi1), .second, .val (.long r113), .second, .val (.long (r113 + (1 : Int64))), .second, .val (.int (2 : Int32)), .val (.ref b134), .val (.ref b139), .val (.ref r141)] [(.ref r141)])) _
      refine XS.iconst X145.here hx rfl (hb hby at_250) ?_
      show Steps p.tables e below (T145.setTop (mkF m 251 #[.val (.long c0_), .second, .val (.long c1_), .second, .val (.long c2_), .second, .val (.long c3_), .second, .val (.long c4_), .second, .val (.int vk), .val (.long lo0), .second, .val (.long hi0), .second, .val (.long lo1), .second, .val (.long hi1), .second, .val (.long r113), .second, .val (.long (r113 + (1 : Int64))), .second, .val (.int (2 : Int32)), .val (.ref b134), .val (.ref b139), .val (.ref r141)] [(.int (0 : Int32)), (.ref r141)])) _
      refine st146.trans ?_
      show Steps p.tables e below (T146.setTop (mkF m 254 #[.val (.long c0_), .second, .val (.long c1_), .second, .val (.long c2_), .second, .val (.long c3_), .second, .val (.long c4_), .second, .val (.int vk), .val (.long lo0), .second, .val (.long hi0), .second, .val (.long lo1), .second, .val (.long hi1), .second, .val (.long r113), .second, .val (.long (r113 + (1 : Int64))), .second, .val (.int (2 : Int32)), .val (.ref b134), .val (.ref b139), .val (.ref r141)] [(.long lo1)])) _
      refine XS.lload X146.here hx rfl (hb hby at_254) rfl ?_
      show Steps p.tables e below (T146.setTop (mkF m 256 #[.val (.long c0_), .second, .val (.long c1_), .second, .val (.long c2_), .second, .val (.long c3_), .second, .val (.long c4_), .second, .val (.int vk), .val (.long lo0), .second, .val (.long hi0), .second, .val (.long lo1), .second, .val (.long hi1), .second, .val (.long r113), .second, .val (.long (r113 + (1 : Int64))), .second, .val (.int (2 : Int32)), .val (.ref b134), .val (.ref b139), .val (.ref r141)] [(.long lo1), (.long lo1)])) _
      refine XS.lcmp X146.here hx rfl (hb hby at_256) rfl ?_
      show Steps p.tables e below (T146.setTop (mkF m 257 #[.val (.long c0_), .second, .val (.long c1_), .second, .val (.long c2_), .second, .val (.long c3_), .second, .val (.long c4_), .second, .val (.int vk), .val (.long lo0), .second, .val (.long hi0), .second, .val (.long lo1), .second, .val (.long hi1), .second, .val (.long r113), .second, .val (.long (r113 + (1 : Int64))), .second, .val (.int (2 : Int32)), .val (.ref b134), .val (.ref b139), .val (.ref r141)] [(.int (lcmpW lo1 lo1))])) _
      refine XS.ifNo X146.here hx rfl (hb hby at_257) rfl ((if0 _ _).trans (teq ((lw_eq _ _).mpr (rfl : lo1 = lo1))).2) ?_
      show Steps p.tables e below (T146.setTop (mkF m 260 #[.val (.long c0_), .second, .val (.long c1_), .second, .val (.long c2_), .second, .val (.long c3_), .second, .val (.long c4_), .second, .val (.int vk), .val (.long lo0), .second, .val (.long hi0), .second, .val (.long lo1), .second, .val (.long hi1), .second, .val (.long r113), .second, .val (.long (r113 + (1 : Int64))), .second, .val (.int (2 : Int32)), .val (.ref b134), .val (.ref b139), .val (.ref r141)] [])) _
      refine XS.aload X146.here hx rfl (hb hby at_260) rfl rfl ?_
      show Steps p.tables e below (T146.setTop (mkF m 262 #[.val (.long c0_), .second, .val (.long c1_), .second, .val (.long c2_), .second, .val (.long c3_), .second, .val (.long c4_), .second, .val (.int vk), .val (.long lo0), .second, .val (.long hi0), .second, .val (.long lo1), .second, .val (.long hi1), .second, .val (.long r113), .second, .val (.long (r113 + (1 : Int64))), .second, .val (.int (2 : Int32)), .val (.ref b134), .val (.ref b139), .val (.ref r141)] [(.ref r141)])) _
      refine XS.iconst X146.here hx rfl (hb hby at_262) ?_
      show Steps p.tables e below (T146.setTop (mkF m 263 #[.val (.long c0_), .second, .val (.long c1_), .second, .val (.long c2_), .second, .val (.long c3_), .second, .val (.long c4_), .second, .val (.int vk), .val (.long lo0), .second, .val (.long hi0), .second, .val (.long lo1), .second, .val (.long hi1), .second, .val (.long r113), .second, .val (.long (r113 + (1 : Int64))), .second, .val (.int (2 : Int32)), .val (.ref b134), .val (.ref b139), .val (.ref r141)] [(.int (0 : Int32)), (.ref r141)])) _
      refine st147.trans ?_
      show Steps p.tables e below (T147.setTop (mkF m 266 #[.val (.long c0_), .second, .val (.long c1_), .second, .val (.long c2_), .second, .val (.long c3_), .second, .val (.long c4_), .second, .val (.int vk), .val (.long lo0), .second, .val (.long hi0), .second, .val (.long lo1), .second, .val (.long hi1), .second, .val (.long r113), .second, .val (.long (r113 + (1 : Int64))), .second, .val (.int (2 : Int32)), .val (.ref b134), .val (.ref b139), .val (.ref r141)] [(.long hi1)])) _
      refine XS.lload X147.here hx rfl (hb hby at_266) rfl ?_
      show Steps p.tables e below (T147.setTop (mkF m 268 #[.val (.long c0_), .second, .val (.long c1_), .second, .val (.long c2_), .second, .val (.long c3_), .second, .val (.long c4_), .second, .val (.int vk), .val (.long lo0), .second, .val (.long hi0), .second, .val (.long lo1), .second, .val (.long hi1), .second, .val (.long r113), .second, .val (.long (r113 + (1 : Int64))), .second, .val (.int (2 : Int32)), .val (.ref b134), .val (.ref b139), .val (.ref r141)] [(.long hi1), (.long hi1)])) _
      refine XS.lcmp X147.here hx rfl (hb hby at_268) rfl ?_
      show Steps p.tables e below (T147.setTop (mkF m 269 #[.val (.long c0_), .second, .val (.long c1_), .second, .val (.long c2_), .second, .val (.long c3_), .second, .val (.long c4_), .second, .val (.int vk), .val (.long lo0), .second, .val (.long hi0), .second, .val (.long lo1), .second, .val (.long hi1), .second, .val (.long r113), .second, .val (.long (r113 + (1 : Int64))), .second, .val (.int (2 : Int32)), .val (.ref b134), .val (.ref b139), .val (.ref r141)] [(.int (lcmpW hi1 hi1))])) _
      refine XS.ifYes X147.here hx rfl (pc0 := 269) (pc' := 274) rfl (hb hby at_269) rfl ((if0 _ _).trans (teq ((lw_eq _ _).mpr (rfl : hi1 = hi1))).1) (by decide) (by decide) ?_
      show Steps p.tables e below (T147.setTop (mkF m 274 #[.val (.long c0_), .second, .val (.long c1_), .second, .val (.long c2_), .second, .val (.long c3_), .second, .val (.long c4_), .second, .val (.int vk), .val (.long lo0), .second, .val (.long hi0), .second, .val (.long lo1), .second, .val (.long hi1), .second, .val (.long r113), .second, .val (.long (r113 + (1 : Int64))), .second, .val (.int (2 : Int32)), .val (.ref b134), .val (.ref b139), .val (.ref r141)] [])) _
      refine XS.iload X147.here hx rfl (hb hby at_274) rfl ?_
      show Steps p.tables e below (T147.setTop (mkF m 276 #[.val (.long c0_), .second, .val (.long c1_), .second, .val (.long c2_), .second, .val (.long c3_), .second, .val (.long c4_), .second, .val (.int vk), .val (.long lo0), .second, .val (.long hi0), .second, .val (.long lo1), .second, .val (.long hi1), .second, .val (.long r113), .second, .val (.long (r113 + (1 : Int64))), .second, .val (.int (2 : Int32)), .val (.ref b134), .val (.ref b139), .val (.ref r141)] [(.int (2 : Int32))])) _
      refine XS.iconst X147.here hx rfl (hb hby at_276) ?_
      show Steps p.tables e below (T147.setTop (mkF m 277 #[.val (.long c0_), .second, .val (.long c1_), .second, .val (.long c2_), .second, .val (.long c3_), .second, .val (.long c4_), .second, .val (.int vk), .val (.long lo0), .second, .val (.long hi0), .second, .val (.long lo1), .second, .val (.long hi1), .second, .val (.long r113), .second, .val (.long (r113 + (1 : Int64))), .second, .val (.int (2 : Int32)), .val (.ref b134), .val (.ref b139), .val (.ref r141)] [(.int (2 : Int32)), (.int (2 : Int32))])) _
      refine XS.icmpNo X147.here hx rfl (hb hby at_277) rfl (teq (by decide : (2 : Int32) = (2 : Int32))).2 ?_
      show Steps p.tables e below (T147.setTop (mkF m 280 #[.val (.long c0_), .second, .val (.long c1_), .second, .val (.long c2_), .second, .val (.long c3_), .second, .val (.long c4_), .second, .val (.int vk), .val (.long lo0), .second, .val (.long hi0), .second, .val (.long lo1), .second, .val (.long hi1), .second, .val (.long r113), .second, .val (.long (r113 + (1 : Int64))), .second, .val (.int (2 : Int32)), .val (.ref b134), .val (.ref b139), .val (.ref r141)] [])) _
      refine XS.aload X147.here hx rfl (hb hby at_280) rfl rfl ?_
      show Steps p.tables e below (T147.setTop (mkF m 282 #[.val (.long c0_), .second, .val (.long c1_), .second, .val (.long c2_), .second, .val (.long c3_), .second, .val (.long c4_), .second, .val (.int vk), .val (.long lo0), .second, .val (.long hi0), .second, .val (.long lo1), .second, .val (.long hi1), .second, .val (.long r113), .second, .val (.long (r113 + (1 : Int64))), .second, .val (.int (2 : Int32)), .val (.ref b134), .val (.ref b139), .val (.ref r141)] [(.ref r141)])) _
      refine XS.iconst X147.here hx rfl (hb hby at_282) ?_
      show Steps p.tables e below (T147.setTop (mkF m 283 #[.val (.long c0_), .second, .val (.long c1_), .second, .val (.long c2_), .second, .val (.long c3_), .second, .val (.long c4_), .second, .val (.int vk), .val (.long lo0), .second, .val (.long hi0), .second, .val (.long lo1), .second, .val (.long hi1), .second, .val (.long r113), .second, .val (.long (r113 + (1 : Int64))), .second, .val (.int (2 : Int32)), .val (.ref b134), .val (.ref b139), .val (.ref r141)] [(.int (1 : Int32)), (.ref r141)])) _
      refine st148.trans ?_
      show Steps p.tables e below (T148.setTop (mkF m 286 #[.val (.long c0_), .second, .val (.long c1_), .second, .val (.long c2_), .second, .val (.long c3_), .second, .val (.long c4_), .second, .val (.int vk), .val (.long lo0), .second, .val (.long hi0), .second, .val (.long lo1), .second, .val (.long hi1), .second, .val (.long r113), .second, .val (.long (r113 + (1 : Int64))), .second, .val (.int (2 : Int32)), .val (.ref b134), .val (.ref b139), .val (.ref r141)] [(.long r113)])) _
      refine XS.lload X148.here hx rfl (hb hby at_286) rfl ?_
      show Steps p.tables e below (T148.setTop (mkF m 288 #[.val (.long c0_), .second, .val (.long c1_), .second, .val (.long c2_), .second, .val (.long c3_), .second, .val (.long c4_), .second, .val (.int vk), .val (.long lo0), .second, .val (.long hi0), .second, .val (.long lo1), .second, .val (.long hi1), .second, .val (.long r113), .second, .val (.long (r113 + (1 : Int64))), .second, .val (.int (2 : Int32)), .val (.ref b134), .val (.ref b139), .val (.ref r141)] [(.long r113), (.long r113)])) _
      refine XS.lcmp X148.here hx rfl (hb hby at_288) rfl ?_
      show Steps p.tables e below (T148.setTop (mkF m 289 #[.val (.long c0_), .second, .val (.long c1_), .second, .val (.long c2_), .second, .val (.long c3_), .second, .val (.long c4_), .second, .val (.int vk), .val (.long lo0), .second, .val (.long hi0), .second, .val (.long lo1), .second, .val (.long hi1), .second, .val (.long r113), .second, .val (.long (r113 + (1 : Int64))), .second, .val (.int (2 : Int32)), .val (.ref b134), .val (.ref b139), .val (.ref r141)] [(.int (lcmpW r113 r113))])) _
      refine XS.ifNo X148.here hx rfl (hb hby at_289) rfl ((if0 _ _).trans (teq ((lw_eq _ _).mpr (rfl : r113 = r113))).2) ?_
      show Steps p.tables e below (T148.setTop (mkF m 292 #[.val (.long c0_), .second, .val (.long c1_), .second, .val (.long c2_), .second, .val (.long c3_), .second, .val (.long c4_), .second, .val (.int vk), .val (.long lo0), .second, .val (.long hi0), .second, .val (.long lo1), .second, .val (.long hi1), .second, .val (.long r113), .second, .val (.long (r113 + (1 : Int64))), .second, .val (.int (2 : Int32)), .val (.ref b134), .val (.ref b139), .val (.ref r141)] [])) _
      refine XS.aload X148.here hx rfl (hb hby at_292) rfl rfl ?_
      show Steps p.tables e below (T148.setTop (mkF m 294 #[.val (.long c0_), .second, .val (.long c1_), .second, .val (.long c2_), .second, .val (.long c3_), .second, .val (.long c4_), .second, .val (.int vk), .val (.long lo0), .second, .val (.long hi0), .second, .val (.long lo1), .second, .val (.long hi1), .second, .val (.long r113), .second, .val (.long (r113 + (1 : Int64))), .second, .val (.int (2 : Int32)), .val (.ref b134), .val (.ref b139), .val (.ref r141)] [(.ref r141)])) _
      refine XS.iconst X148.here hx rfl (hb hby at_294) ?_
      show Steps p.tables e below (T148.setTop (mkF m 295 #[.val (.long c0_), .second, .val (.long c1_), .second, .val (.long c2_), .second, .val (.long c3_), .second, .val (.long c4_), .second, .val (.int vk), .val (.long lo0), .second, .val (.long hi0), .second, .val (.long lo1), .second, .val (.long hi1), .second, .val (.long r113), .second, .val (.long (r113 + (1 : Int64))), .second, .val (.int (2 : Int32)), .val (.ref b134), .val (.ref b139), .val (.ref r141)] [(.int (1 : Int32)), (.ref r141)])) _
      refine st149.trans ?_
      show Steps p.tables e below (T149.setTop (mkF m 298 #[.val (.long c0_), .second, .val (.long c1_), .second, .val (.long c2_), .second, .val (.long c3_), .second, .val (.long c4_), .second, .val (.int vk), .val (.long lo0), .second, .val (.long hi0), .second, .val (.long lo1), .second, .val (.long hi1), .second, .val (.long r113), .second, .val (.long (r113 + (1 : Int64))), .second, .val (.int (2 : Int32)), .val (.ref b134), .val (.ref b139), .val (.ref r141)] [(.long (r113 + (1 : Int64)))])) _
      refine XS.lload X149.here hx rfl (hb hby at_298) rfl ?_
      show Steps p.tables e below (T149.setTop (mkF m 300 #[.val (.long c0_), .second, .val (.long c1_), .second, .val (.long c2_), .second, .val (.long c3_), .second, .val (.long c4_), .second, .val (.int vk), .val (.long lo0), .second, .val (.long hi0), .second, .val (.long lo1), .second, .val (.long hi1), .second, .val (.long r113), .second, .val (.long (r113 + (1 : Int64))), .second, .val (.int (2 : Int32)), .val (.ref b134), .val (.ref b139), .val (.ref r141)] [(.long (r113 + (1 : Int64))), (.long (r113 + (1 : Int64)))])) _
      refine XS.lcmp X149.here hx rfl (hb hby at_300) rfl ?_
      show Steps p.tables e below (T149.setTop (mkF m 301 #[.val (.long c0_), .second, .val (.long c1_), .second, .val (.long c2_), .second, .val (.long c3_), .second, .val (.long c4_), .second, .val (.int vk), .val (.long lo0), .second, .val (.long hi0), .second, .val (.long lo1), .second, .val (.long hi1), .second, .val (.long r113), .second, .val (.long (r113 + (1 : Int64))), .second, .val (.int (2 : Int32)), .val (.ref b134), .val (.ref b139), .val (.ref r141)] [(.int (lcmpW (r113 + (1 : Int64)) (r113 + (1 : Int64))))])) _
      refine XS.ifYes X149.here hx rfl (pc0 := 301) (pc' := 306) rfl (hb hby at_301) rfl ((if0 _ _).trans (teq ((lw_eq _ _).mpr (rfl : (r113 + (1 : Int64)) = (r113 + (1 : Int64))))).1) (by decide) (by decide) ?_
      show Steps p.tables e below (T149.setTop (mkF m 306 #[.val (.long c0_), .second, .val (.long c1_), .second, .val (.long c2_), .second, .val (.long c3_), .second, .val (.long c4_), .second, .val (.int vk), .val (.long lo0), .second, .val (.long hi0), .second, .val (.long lo1), .second, .val (.long hi1), .second, .val (.long r113), .second, .val (.long (r113 + (1 : Int64))), .second, .val (.int (2 : Int32)), .val (.ref b134), .val (.ref b139), .val (.ref r141)] [])) _
      refine XS.iconst X149.here hx rfl (hb hby at_306) ?_
      show Steps p.tables e below (T149.setTop (mkF m 307 #[.val (.long c0_), .second, .val (.long c1_), .second, .val (.long c2_), .second, .val (.long c3_), .second, .val (.long c4_), .second, .val (.int vk), .val (.long lo0), .second, .val (.long hi0), .second, .val (.long lo1), .second, .val (.long hi1), .second, .val (.long r113), .second, .val (.long (r113 + (1 : Int64))), .second, .val (.int (2 : Int32)), .val (.ref b134), .val (.ref b139), .val (.ref r141)] [(.int (1 : Int32))])) _
      exact retN X149 hx (t := .boolean) Bd.returns (by simp) (hb hby at_307) hr
    · show Q_law Z c0_ c1_ c2_ c3_ c4_ vk h0 n0 _ T149.heap _
      rw [e149]
      exact ⟨rfl, N149⟩
set_option maxRecDepth 65536 in
set_option maxHeartbeats 40000000 in
theorem comes_1 {Post : Tables → Env → Array Value → State → Outcome → State → Prop} (hpost : ∀ tb e args s v u, (limb_1_1.after args s (.returned v) u = true ∧ limb_1_2.after args s (.returned v) u = true ∧ True) → FrameEnd s (.returned v) u (Jvm.fieldLocs frame_1_writes args s ++ Jvm.arrayLocs frame_1_arrays args s ++ Jvm.staticLocs frame_1_statics s) 24 128 → Post tb e args s (.returned v) u) :
    ArmFor flags0 classFile x code maxLocals ret World_1 tables_1 room_1 Calls_1 rest_1 Pre_1 Post := by
  intro l hfl _ _ p e ha hc hk s m args below hf hA hF happ hP
  obtain ⟨hcalls, hrest, hpre⟩ := hP
  obtain ⟨-, -, -, hnamed, -, -, -, hat⟩ := (Spec.applies_iff hf).mp happ
  obtain ⟨hg, hn⟩ := and_e (Cond.before_iff.mp (show (Jvm.Cond.and given_1 narrow_1).before args s = true from hpre))
  obtain ⟨hg0, hr0⟩ := and_e hg
  obtain ⟨ha0, hr1⟩ := and_e hr0
  obtain ⟨ha1, hr2⟩ := and_e hr1
  obtain ⟨ha2, hr3⟩ := and_e hr2
  obtain ⟨ha3, hr4⟩ := and_e hr3
  obtain ⟨ha4, hr5⟩ := and_e hr4
  obtain ⟨w0, w1, w2, w3, w4, w5, rfl⟩ : ∃ w0 w1 w2 w3 w4 w5 : Value, args = #[w0, w1, w2, w3, w4, w5] := by
    have hs : args.size = 6 := by simpa [Cond.value, given_1] using hg0
    obtain ⟨L⟩ := args
    match L, hs with
    | [w0, w1, w2, w3, w4, w5], _ => exact ⟨w0, w1, w2, w3, w4, w5, rfl⟩
  have hw := fun d (hd : d ∈ tables_1) => atoms_spec (ws := Jvm.Cond.code x code maxLocals ret :: tables_1) hat d (List.mem_cons_of_mem _ hd)
  obtain ⟨i0, ei0⟩ := isL_v ha0
  obtain rfl : w0 = (.long i0) := Option.some.inj ei0
  obtain ⟨i1, ei1⟩ := isL_v ha1
  obtain rfl : w1 = (.long i1) := Option.some.inj ei1
  obtain ⟨i2, ei2⟩ := isL_v ha2
  obtain rfl : w2 = (.long i2) := Option.some.inj ei2
  obtain ⟨i3, ei3⟩ := isL_v ha3
  obtain rfl : w3 = (.long i3) := Option.some.inj ei3
  obtain ⟨i4, ei4⟩ := isL_v ha4
  obtain rfl : w4 = (.long i4) := Option.some.inj ei4
  obtain ⟨i5, ei5⟩ := is_v hr5
  obtain rfl : w5 = (.int i5) := Option.some.inj ei5
  obtain ⟨n, o, h1, h2, h3, _, L, rfl, ⟨rfl, N⟩, hq⟩ := rm_law l s _ hw tables_1 i0 i1 i2 i3 i4 i5 s.heap s.heap.size (Nat.le_refl _)  p e ha hc hk s m _ below hf ((Spec.applies_iff_loose hf).mp happ).1 ⟨rfl, State.Warmed39.refl s, rfl⟩ trivial
  refine ⟨n, _, h1, h2, h3, hpost _ _ _ _ _ _ ⟨Cond.after_iff.mpr rfl, Cond.after_iff.mpr (eq_i res_at (Term.int_eval (1)) rfl), trivial⟩ ⟨hq.1, hq.2.1, (hq.2.2.sift fun y hy => Or.inr (N y hy)).mono (by decide) (by decide)⟩⟩
theorem main_1_1 : Claimed_1_1 := comes_1 fun _ _ _ _ _ _ h hF => ⟨h.1, hF⟩
theorem main_1_2 : Claimed_1_2 := comes_1 fun _ _ _ _ _ _ h hF => ⟨h.2.1, hF⟩
end Jvm.Pilot.@@N@@
namespace Jvm.Pilot.@@N@@
open Jvm Jvm.ClassFile Sem Op Lib Jvm.Free Jvm.Stand Jvm.Pilot.@@N@@.Jvm.D
/-! MADE BY PROGRAM (witnessworld.py) out of the Statement's table words and the real class files: 14 classes; the members and pool entries that the words name. The judged class is class 1, her method 1. -/
namespace start1
open Jvm.ClassFile
def u (s : String) : CpInfo := .utf8 (stringToUtf16 s)
/-- a pool by its gaps: so many unusable entries, then the entry; so many at the end -/
def gap : Nat → List CpInfo → List CpInfo
  | 0, r => r
  | n + 1, r => .unusable :: gap n r
def poolList (es : List (Nat × CpInfo)) (last : Nat) : List CpInfo := es.foldr (fun e r => gap e.1 (e.2 :: r)) (gap last [])
def pool (es : List (Nat × CpInfo)) (last : Nat) : Array CpInfo := ⟨poolList es last⟩
def fileOf (pool : Array CpInfo) (this : Nat) (attrs : Array Attribute := #[]) (ms : Array MethodInfo := #[]) (fl : Nat := 33) (sup : Nat := 0) (ifs : Array Nat := #[]) (fds : Array FieldInfo := #[]) : ClassFile where
  minorVersion := 0
  majorVersion := 65
  constantPool := pool
  accessFlags := fl
  thisClass := this
  superClass := sup
  interfaces := ifs
  fields := fds
  methods := ms
  attributes := attrs
def plain (name : String) (sup : Option ClassId) : Class where
  name := name
  kind := .ordinary
  loader := none
  accessFlags := 33
  super := sup
  interfaces := #[]
  cf := none
  fields := #[]
  methods := #[]
  instanceTypes := #[]
  staticTypes := #[]
  resolved := #[]
  callSites := []
  init := .initialized
  statics := none
  mirror := none

def pool0 : Array CpInfo := pool [(5, u "<init>"), (0, u "()V"), (1, .class_ 10), (1, u "java/lang/Object"), (85, u "clone"), (0, u "()Ljava/lang/Object;")] 26

def k0c0 : Code := { maxStack := 0, maxLocals := 1, code := object_method_1_code, exceptionTable := #[], attributes := #[] }
def k0m0 : Method := { name := "<init>", desc := "()V", sig := { parameters := [], returnType := none }, accessFlags := 1, code := some k0c0 }
def k0m1 : Method := { name := "clone", desc := "()Ljava/lang/Object;", sig := { parameters := [], returnType := some (.object "java/lang/Object") }, accessFlags := 260, code := none }
/-- java/lang/Object -/
def k0 : Class := { plain "java/lang/Object" none with
  accessFlags := 33
  interfaces := #[]
  cf := some (fileOf pool0 8 #[] #[{ accessFlags := 1, nameIndex := 5, descriptorIndex := 6, attributes := #[] }, { accessFlags := 260, nameIndex := 96, descriptorIndex := 97, attributes := #[] }] 33 0 #[] #[])
  fields := #[]
  methods := #[k0m0, k0m1]
  instanceTypes := #[]
  staticTypes := #[]
  resolved := Array.replicate 124 none
  statics := none }

def pool1 : Array CpInfo := pool [(2, .class_ 4), (1, u "java/lang/Object"), (0, u "<init>"), (0, u "()V"), (0, .methodref 8 9), (0, .class_ 10), (0, .nameAndType 11 12), (0, u "java/lang/Math"), (0, u "min"), (0, u "(JJ)J"), (0, .methodref 8 14), (0, .nameAndType 15 12), (0, u "max"), (2, .long 9223372036854775806), (1, .integer 2147483647), (0, .class_ 22), (0, u "com/example/chronotriple/chronotriple/Box"), (0, .methodref 21 24), (0, .nameAndType 5 25), (0, u "([J)V"), (0, .methodref 21 27), (0, .nameAndType 28 29), (0, u "withAxis"), (0, u "(JJ)Lcom/example/chronotriple/chronotriple/Box;"), (0, .methodref 21 31), (0, .nameAndType 32 33), (0, u "dimensions"), (0, u "()I"), (0, .methodref 21 35), (0, .nameAndType 36 37), (0, u "from"), (0, u "(I)J"), (0, .methodref 21 39), (0, .nameAndType 40 37), (0, u "to"), (0, .class_ 42), (0, u "com/example/chronotriple/chronotriple/BoxWithAxisPinLaw"), (2, u "law"), (0, u "(JJJJJI)Z")] 5

def k1m0 : Method := { name := "<init>", desc := "()V", sig := { parameters := [], returnType := none }, accessFlags := 2, code := none }
def k1c1 : Code := { maxStack := 5, maxLocals := 27, code := code, exceptionTable := #[], attributes := #[] }
def k1m1 : Method := { name := "law", desc := "(JJJJJI)Z", sig := { parameters := [.long, .long, .long, .long, .long, .int], returnType := some .boolean }, accessFlags := 9, code := some k1c1 }
/-- com/example/chronotriple/chronotriple/BoxWithAxisPinLaw -/
def k1 : Class := { plain "com/example/chronotriple/chronotriple/BoxWithAxisPinLaw" (some 0) with
  accessFlags := 49
  interfaces := #[]
  cf := some (fileOf pool1 41 #[] #[{ accessFlags := 2, nameIndex := 5, descriptorIndex := 6, attributes := #[] }, { accessFlags := 9, nameIndex := 45, descriptorIndex := 46, attributes := #[] }] 49 2 #[] #[])
  fields := #[]
  methods := #[k1m0, k1m1]
  instanceTypes := #[]
  staticTypes := #[]
  resolved := Array.replicate 52 none
  statics := none }

def pool2 : Array CpInfo := pool [(1, .class_ 2), (0, u "java/lang/Math"), (1, .class_ 6), (1, u "java/lang/Object"), (0, u "<init>"), (0, u "()V"), (89, .class_ 100), (1, u "java/lang/Math$RandomNumberGeneratorHolder"), (20, u "(JJ)J"), (50, u "negativeZeroFloatBits"), (0, u "J"), (2, u "negativeZeroDoubleBits"), (21, u "max"), (2, u "min"), (43, u "$assertionsDisabled"), (0, u "Z"), (88, u "(II)I"), (2, u "twoToTheDoubleScaleDown"), (0, u "D"), (4, u "twoToTheDoubleScaleUp"), (9, u "E"), (3, u "PI"), (2, u "TAU"), (2, u "DEGREES_TO_RADIANS"), (0, u "RADIANS_TO_DEGREES")] 94

def k2m0 : Method := { name := "<init>", desc := "()V", sig := { parameters := [], returnType := none }, accessFlags := 2, code := none }
def k2c1 : Code := { maxStack := 4, maxLocals := 4, code := jdk_29_method_66_code, exceptionTable := #[], attributes := #[] }
def k2m1 : Method := { name := "max", desc := "(JJ)J", sig := { parameters := [.long, .long], returnType := some .long }, accessFlags := 9, code := some k2c1 }
def k2c2 : Code := { maxStack := 2, maxLocals := 2, code := jdk_29_method_69_code, exceptionTable := #[], attributes := #[] }
def k2m2 : Method := { name := "min", desc := "(II)I", sig := { parameters := [.int, .int], returnType := some .int }, accessFlags := 9, code := some k2c2 }
def k2c3 : Code := { maxStack := 4, maxLocals := 4, code := jdk_29_method_70_code, exceptionTable := #[], attributes := #[] }
def k2m3 : Method := { name := "min", desc := "(JJ)J", sig := { parameters := [.long, .long], returnType := some .long }, accessFlags := 9, code := some k2c3 }
/-- java/lang/Math -/
def k2 : Class := { plain "java/lang/Math" (some 0) with
  accessFlags := 49
  interfaces := #[]
  cf := some (fileOf pool2 1 #[.nestMembers #[98]] #[{ accessFlags := 2, nameIndex := 7, descriptorIndex := 8, attributes := #[] }, { accessFlags := 9, nameIndex := 198, descriptorIndex := 121, attributes := #[] }, { accessFlags := 9, nameIndex := 201, descriptorIndex := 335, attributes := #[] }, { accessFlags := 9, nameIndex := 201, descriptorIndex := 121, attributes := #[] }] 49 4 #[] #[{ accessFlags := 25, nameIndex := 354, descriptorIndex := 339, attributes := #[] }, { accessFlags := 25, nameIndex := 358, descriptorIndex := 339, attributes := #[] }, { accessFlags := 25, nameIndex := 361, descriptorIndex := 339, attributes := #[] }, { accessFlags := 26, nameIndex := 364, descriptorIndex := 339, attributes := #[] }, { accessFlags := 26, nameIndex := 365, descriptorIndex := 339, attributes := #[] }, { accessFlags := 26, nameIndex := 172, descriptorIndex := 173, attributes := #[] }, { accessFlags := 26, nameIndex := 176, descriptorIndex := 173, attributes := #[] }, { accessFlags := 8, nameIndex := 344, descriptorIndex := 339, attributes := #[] }, { accessFlags := 8, nameIndex := 338, descriptorIndex := 339, attributes := #[] }, { accessFlags := 4120, nameIndex := 245, descriptorIndex := 246, attributes := #[] }])
  fields := #[{ name := "E", type := .double, accessFlags := 25, slot := 0, constantValue := 0 }, { name := "PI", type := .double, accessFlags := 25, slot := 1, constantValue := 0 }, { name := "TAU", type := .double, accessFlags := 25, slot := 2, constantValue := 0 }, { name := "DEGREES_TO_RADIANS", type := .double, accessFlags := 26, slot := 3, constantValue := 0 }, { name := "RADIANS_TO_DEGREES", type := .double, accessFlags := 26, slot := 4, constantValue := 0 }, { name := "negativeZeroFloatBits", type := .long, accessFlags := 26, slot := 5, constantValue := 0 }, { name := "negativeZeroDoubleBits", type := .long, accessFlags := 26, slot := 6, constantValue := 0 }, { name := "twoToTheDoubleScaleUp", type := .double, accessFlags := 8, slot := 7, constantValue := 0 }, { name := "twoToTheDoubleScaleDown", type := .double, accessFlags := 8, slot := 8, constantValue := 0 }, { name := "$assertionsDisabled", type := .boolean, accessFlags := 4120, slot := 9, constantValue := 0 }]
  methods := #[k2m0, k2m1, k2m2, k2m3]
  instanceTypes := #[]
  staticTypes := #[.double, .double, .double, .double, .double, .long, .long, .double, .double, .boolean]
  resolved := Array.replicate 460 none
  statics := none }

def pool3 : Array CpInfo := pool [(1, .methodref 2 3), (0, .class_ 4), (0, .nameAndType 5 6), (0, u "java/lang/Object"), (0, u "<init>"), (0, u "()V"), (9, .methodref 17 18), (0, .class_ 19), (0, .nameAndType 20 21), (0, u "[J"), (0, u "clone"), (0, u "()Ljava/lang/Object;"), (0, .fieldref 23 24), (0, .class_ 25), (0, .nameAndType 26 19), (0, u "com/example/chronotriple/chronotriple/Box"), (0, u "bounds"), (5, u "()I"), (8, u "from"), (3, u "to"), (0, .methodref 23 47), (0, .nameAndType 5 48), (0, u "([J)V"), (0, .methodref 50 51), (0, .class_ 52), (0, .nameAndType 53 54), (0, u "java/util/Arrays"), (0, u "copyOf"), (0, u "([JI)[J"), (2, u "dimensions"), (2, u "(I)J"), (76, u "ORDER"), (0, u "Ljava/util/Comparator;"), (9, u "withAxis"), (0, u "(JJ)Lcom/example/chronotriple/chronotriple/Box;")] 45

def k3c0 : Code := { maxStack := 5, maxLocals := 3, code := prog_2_method_1_code, exceptionTable := #[], attributes := #[] }
def k3m0 : Method := { name := "<init>", desc := "([J)V", sig := { parameters := [(.array .long)], returnType := none }, accessFlags := 128, code := some k3c0 }
def k3c1 : Code := { maxStack := 2, maxLocals := 1, code := prog_2_method_3_code, exceptionTable := #[], attributes := #[] }
def k3m1 : Method := { name := "dimensions", desc := "()I", sig := { parameters := [], returnType := some .int }, accessFlags := 0, code := some k3c1 }
def k3c2 : Code := { maxStack := 3, maxLocals := 2, code := prog_2_method_4_code, exceptionTable := #[], attributes := #[] }
def k3m2 : Method := { name := "from", desc := "(I)J", sig := { parameters := [.int], returnType := some .long }, accessFlags := 0, code := some k3c2 }
def k3c3 : Code := { maxStack := 3, maxLocals := 2, code := prog_2_method_5_code, exceptionTable := #[], attributes := #[] }
def k3m3 : Method := { name := "to", desc := "(I)J", sig := { parameters := [.int], returnType := some .long }, accessFlags := 0, code := some k3c3 }
def k3c4 : Code := { maxStack := 4, maxLocals := 6, code := prog_2_method_7_code, exceptionTable := #[], attributes := #[] }
def k3m4 : Method := { name := "withAxis", desc := "(JJ)Lcom/example/chronotriple/chronotriple/Box;", sig := { parameters := [.long, .long], returnType := some (.object "com/example/chronotriple/chronotriple/Box") }, accessFlags := 0, code := some k3c4 }
/-- com/example/chronotriple/chronotriple/Box -/
def k3 : Class := { plain "com/example/chronotriple/chronotriple/Box" (some 0) with
  accessFlags := 48
  interfaces := #[]
  cf := some (fileOf pool3 23 #[] #[{ accessFlags := 128, nameIndex := 5, descriptorIndex := 48, attributes := #[] }, { accessFlags := 0, nameIndex := 57, descriptorIndex := 32, attributes := #[] }, { accessFlags := 0, nameIndex := 41, descriptorIndex := 60, attributes := #[] }, { accessFlags := 0, nameIndex := 45, descriptorIndex := 60, attributes := #[] }, { accessFlags := 0, nameIndex := 148, descriptorIndex := 149, attributes := #[] }] 48 2 #[] #[{ accessFlags := 24, nameIndex := 137, descriptorIndex := 138, attributes := #[] }, { accessFlags := 18, nameIndex := 26, descriptorIndex := 19, attributes := #[] }])
  fields := #[{ name := "ORDER", type := (.object "java/util/Comparator"), accessFlags := 24, slot := 0, constantValue := 0 }, { name := "bounds", type := (.array .long), accessFlags := 18, slot := 0, constantValue := 0 }]
  methods := #[k3m0, k3m1, k3m2, k3m3, k3m4]
  instanceTypes := #[(.array .long)]
  staticTypes := #[(.object "java/util/Comparator")]
  resolved := Array.replicate 195 none
  statics := none }

def pool4 : Array CpInfo := pool [(1, .class_ 2), (0, u "java/lang/Cloneable"), (0, .class_ 4), (0, u "java/lang/Object")] 2

/-- java/lang/Cloneable -/
def k4 : Class := { plain "java/lang/Cloneable" (some 0) with
  accessFlags := 1537
  interfaces := #[]
  cf := some (fileOf pool4 1 #[] #[] 1537 3 #[] #[])
  fields := #[]
  methods := #[]
  instanceTypes := #[]
  staticTypes := #[]
  resolved := Array.replicate 7 none
  statics := none }

def pool5 : Array CpInfo := pool [(2, .class_ 4), (1, u "java/lang/Object"), (0, u "<init>"), (0, u "()V"), (7, .class_ 16), (1, u "java/util/Arrays"), (57, .class_ 76), (1, u "java/util/Arrays$NaturalOrder"), (36, .class_ 115), (1, u "java/util/Arrays$LegacyMergeSort"), (1, u "Z"), (32, .methodref 151 152), (0, .class_ 153), (0, .nameAndType 154 155), (0, u "java/lang/System"), (0, u "arraycopy"), (0, u "(Ljava/lang/Object;ILjava/lang/Object;II)V"), (146, u "copyOf"), (1, .methodref 305 306), (0, .class_ 307), (0, .nameAndType 308 309), (0, u "java/lang/Math"), (0, u "min"), (0, u "(II)I"), (65, .class_ 376), (0, u "java/util/Arrays$ArrayList"), (68, u "$assertionsDisabled"), (269, u "MIN_ARRAY_SORT_GRAN"), (0, u "I"), (2, u "INSERTIONSORT_THRESHOLD"), (152, u "([JI)[J"), (102, .class_ 976), (0, u "java/util/Arrays$ArrayItr")] 52

def k5m0 : Method := { name := "<init>", desc := "()V", sig := { parameters := [], returnType := none }, accessFlags := 2, code := none }
def k5c1 : Code := { maxStack := 6, maxLocals := 3, code := jdk_65_method_124_code, exceptionTable := #[], attributes := #[] }
def k5m1 : Method := { name := "copyOf", desc := "([JI)[J", sig := { parameters := [(.array .long), .int], returnType := some (.array .long) }, accessFlags := 9, code := some k5c1 }
/-- java/util/Arrays -/
def k5 : Class := { plain "java/util/Arrays" (some 0) with
  accessFlags := 49
  interfaces := #[]
  cf := some (fileOf pool5 14 #[.nestMembers #[975, 375, 113, 74]] #[{ accessFlags := 2, nameIndex := 5, descriptorIndex := 6, attributes := #[] }, { accessFlags := 9, nameIndex := 302, descriptorIndex := 872, attributes := #[] }] 49 2 #[] #[{ accessFlags := 26, nameIndex := 715, descriptorIndex := 716, attributes := #[] }, { accessFlags := 26, nameIndex := 719, descriptorIndex := 716, attributes := #[] }, { accessFlags := 4120, nameIndex := 445, descriptorIndex := 117, attributes := #[] }])
  fields := #[{ name := "MIN_ARRAY_SORT_GRAN", type := .int, accessFlags := 26, slot := 0, constantValue := 0 }, { name := "INSERTIONSORT_THRESHOLD", type := .int, accessFlags := 26, slot := 1, constantValue := 0 }, { name := "$assertionsDisabled", type := .boolean, accessFlags := 4120, slot := 2, constantValue := 0 }]
  methods := #[k5m0, k5m1]
  instanceTypes := #[]
  staticTypes := #[.int, .int, .boolean]
  resolved := Array.replicate 1029 none
  statics := none }

def pool6 : Array CpInfo := pool [(2, .class_ 4), (1, u "java/lang/Object"), (0, u "<init>"), (0, u "()V"), (1, .class_ 10), (1, u "java/lang/System"), (0, u "allowSecurityManager"), (0, u "I"), (16, u "cons"), (0, u "Ljava/io/Console;"), (77, .class_ 110), (1, u "java/lang/System$CallersHolder"), (43, u "initialErrStream"), (0, u "Ljava/io/PrintStream;"), (19, u "security"), (0, u "Ljava/lang/SecurityManager;"), (31, .class_ 209), (0, u "java/lang/System$1"), (7, u "props"), (0, u "Ljava/util/Properties;"), (2, u "lineSeparator"), (0, u "Ljava/lang/String;"), (96, .class_ 321), (1, u "java/lang/System$LoggerFinder"), (5, .class_ 328), (0, u "java/lang/System$Logger"), (67, u "err"), (2, u "out"), (91, u "notSupportedJnuEncoding"), (15, u "in"), (17, u "initialIn"), (0, u "Ljava/io/InputStream;"), (35, u "bootLayer"), (0, u "Ljava/lang/ModuleLayer;"), (99, .class_ 664), (0, u "java/lang/System$2"), (9, u "NEVER"), (2, u "MAYBE"), (49, u "arraycopy"), (0, u "(Ljava/lang/Object;ILjava/lang/Object;II)V"), (72, .class_ 802), (0, u "java/lang/System$Logger$Level")] 31

def k6m0 : Method := { name := "<init>", desc := "()V", sig := { parameters := [], returnType := none }, accessFlags := 2, code := none }
def k6m1 : Method := { name := "arraycopy", desc := "(Ljava/lang/Object;ILjava/lang/Object;II)V", sig := { parameters := [(.object "java/lang/Object"), .int, (.object "java/lang/Object"), .int, .int], returnType := none }, accessFlags := 265, code := none }
/-- java/lang/System -/
def k6 : Class := { plain "java/lang/System" (some 0) with
  accessFlags := 49
  interfaces := #[]
  cf := some (fileOf pool6 8 #[.nestMembers #[319, 327, 801, 108, 663, 208]] #[{ accessFlags := 2, nameIndex := 5, descriptorIndex := 6, attributes := #[] }, { accessFlags := 265, nameIndex := 727, descriptorIndex := 728, attributes := #[] }] 49 2 #[] #[{ accessFlags := 25, nameIndex := 507, descriptorIndex := 526, attributes := #[] }, { accessFlags := 25, nameIndex := 399, descriptorIndex := 155, attributes := #[] }, { accessFlags := 25, nameIndex := 396, descriptorIndex := 155, attributes := #[] }, { accessFlags := 10, nameIndex := 525, descriptorIndex := 526, attributes := #[] }, { accessFlags := 26, nameIndex := 674, descriptorIndex := 12, attributes := #[] }, { accessFlags := 26, nameIndex := 677, descriptorIndex := 12, attributes := #[] }, { accessFlags := 10, nameIndex := 11, descriptorIndex := 12, attributes := #[] }, { accessFlags := 74, nameIndex := 175, descriptorIndex := 176, attributes := #[] }, { accessFlags := 10, nameIndex := 491, descriptorIndex := 222, attributes := #[] }, { accessFlags := 74, nameIndex := 29, descriptorIndex := 30, attributes := #[] }, { accessFlags := 74, nameIndex := 154, descriptorIndex := 155, attributes := #[] }, { accessFlags := 10, nameIndex := 217, descriptorIndex := 218, attributes := #[] }, { accessFlags := 10, nameIndex := 221, descriptorIndex := 222, attributes := #[] }, { accessFlags := 8, nameIndex := 562, descriptorIndex := 563, attributes := #[] }])
  fields := #[{ name := "in", type := (.object "java/io/InputStream"), accessFlags := 25, slot := 0, constantValue := 0 }, { name := "out", type := (.object "java/io/PrintStream"), accessFlags := 25, slot := 1, constantValue := 0 }, { name := "err", type := (.object "java/io/PrintStream"), accessFlags := 25, slot := 2, constantValue := 0 }, { name := "initialIn", type := (.object "java/io/InputStream"), accessFlags := 10, slot := 3, constantValue := 0 }, { name := "NEVER", type := .int, accessFlags := 26, slot := 4, constantValue := 0 }, { name := "MAYBE", type := .int, accessFlags := 26, slot := 5, constantValue := 0 }, { name := "allowSecurityManager", type := .int, accessFlags := 10, slot := 6, constantValue := 0 }, { name := "security", type := (.object "java/lang/SecurityManager"), accessFlags := 74, slot := 7, constantValue := 0 }, { name := "notSupportedJnuEncoding", type := (.object "java/lang/String"), accessFlags := 10, slot := 8, constantValue := 0 }, { name := "cons", type := (.object "java/io/Console"), accessFlags := 74, slot := 9, constantValue := 0 }, { name := "initialErrStream", type := (.object "java/io/PrintStream"), accessFlags := 74, slot := 10, constantValue := 0 }, { name := "props", type := (.object "java/util/Properties"), accessFlags := 10, slot := 11, constantValue := 0 }, { name := "lineSeparator", type := (.object "java/lang/String"), accessFlags := 10, slot := 12, constantValue := 0 }, { name := "bootLayer", type := (.object "java/lang/ModuleLayer"), accessFlags := 8, slot := 13, constantValue := 0 }]
  methods := #[k6m0, k6m1]
  instanceTypes := #[]
  staticTypes := #[(.object "java/io/InputStream"), (.object "java/io/PrintStream"), (.object "java/io/PrintStream"), (.object "java/io/InputStream"), .int, .int, .int, (.object "java/lang/SecurityManager"), (.object "java/lang/String"), (.object "java/io/Console"), (.object "java/io/PrintStream"), (.object "java/util/Properties"), (.object "java/lang/String"), (.object "java/lang/ModuleLayer")]
  resolved := Array.replicate 834 none
  statics := none }

def pool7 : Array CpInfo := pool [(1, u "java/io/Serializable"), (0, .class_ 1), (0, u "java/lang/Object"), (0, .class_ 3)] 3

/-- java/io/Serializable -/
def k7 : Class := { plain "java/io/Serializable" (some 0) with
  accessFlags := 1537
  interfaces := #[]
  cf := some (fileOf pool7 2 #[] #[] 1537 4 #[] #[])
  fields := #[]
  methods := #[]
  instanceTypes := #[]
  staticTypes := #[]
  resolved := Array.replicate 8 none
  statics := none }

/-- the primitive byte -/
def k8 : Class := { plain "byte" none with kind := .primitive 'B', accessFlags := 0x411 }
/-- [B -/
def k9 : Class := { plain "[B" (some 0) with kind := .array 8 .byte, interfaces := #[4, 7], accessFlags := 1041 }

/-- the primitive int -/
def k10 : Class := { plain "int" none with kind := .primitive 'I', accessFlags := 0x411 }
/-- [I -/
def k11 : Class := { plain "[I" (some 0) with kind := .array 10 .int, interfaces := #[4, 7], accessFlags := 1041 }

/-- the primitive long -/
def k12 : Class := { plain "long" none with kind := .primitive 'J', accessFlags := 0x411 }
/-- [J -/
def k13 : Class := { plain "[J" (some 0) with kind := .array 12 .long, interfaces := #[4, 7], accessFlags := 1041 }

def heap : Heap := #[]
def classes : Array Class := #[k0, k1, k2, k3, k4, k5, k6, k7, k8, k9, k10, k11, k12, k13]
def interned : List (Array UInt16 × Addr) := []
def slotsUsed : Nat := 0
def theMethod : MethodId := ⟨1, 1⟩
def args0 : Array Value := #[.long 5, .long 3, .long 9, .long 5, .long 3, .int 9]
def aboutOver (below : List Frame) : State where
  vm := { classes := classes, interned := interned.toArray }
  heap := heap
  slotsUsed := slotsUsed
  threads := #[{ frames := .invoking theMethod args0 :: below }]
def below0 : List Frame := [.native { method := ⟨0, 0⟩, args := #[] }]
def about1 : State := aboutOver below0
def p0 : Program := .bare "" "" ""
def e0 : Env := launch0.env 0 0 0
theorem w_frames : about1.frames = Frame.invoking theMethod args0 :: below0 := rfl
set_option maxRecDepth 65536 in
theorem w_args : argsFit about1.vm theMethod args0 = true := by decide +kernel
set_option maxRecDepth 65536 in
theorem w_heap : heapFits about1 = true := by decide +kernel
set_option maxRecDepth 65536 in
theorem w_runnable : about1.curStatus? = some .runnable := by decide +kernel
set_option maxRecDepth 65536 in
theorem w_alone : about1.alone = true := by decide +kernel
set_option maxRecDepth 65536 in
theorem w_named : about1.methodNamed? x = some theMethod := by decide +kernel
set_option maxRecDepth 65536 in
theorem w_hears : about1.hears theMethod below0 = true := by decide +kernel
set_option maxRecDepth 65536 in
theorem w_ripe : about1.ripe theMethod args0 below0 = true := by decide +kernel
theorem w_running : about1.status = .running := rfl
set_option maxRecDepth 65536 in
theorem w_room : about1.hasRoom e0.platform room_1 = true :=
  launch0.hasRoom_least _ room_1 (by decide +kernel) (by decide +kernel) (by decide +kernel) (by decide +kernel) (by decide +kernel) (by decide +kernel)
theorem allAtoms_all (ts : List Jvm.Cond) (a : Array Jvm.Value) (st : Jvm.State) : (allAtoms ts).before a st = ts.all (fun c => c.before a st) := by
  induction ts with
  | nil => rfl
  | cons c t ih =>
    show (Jvm.Cond.and c (allAtoms t)).before a st = _
    rw [Jvm.Cond.before_and, ih, List.all_cons]
def words1 : List Jvm.Cond := Jvm.Cond.code x code maxLocals ret :: tables_1
/-- a 'code' word, met by the world's own term for the bytes: nothing is compared byte by byte -/
theorem code_word {y : MethodName} {bytes : ByteArray} {mx : Nat} {rt : Option FieldType} {a : Array Value} {s : State} {m : MethodId} {meth : Method} {c : Code} (h1 : s.methodNamed? y = some m) (h2 : s.vm.method? m = some meth) (h3 : meth.code = some c) (h4 : c.code = bytes)
    (h5 : (c.maxLocals == mx && c.exceptionTable.isEmpty && decide (c.maxStack ≤ mostOperands) && decide (meth.sig.returnType = rt) && !meth.locks && decide (parseMethodDescriptor y.desc = some meth.sig)) = true) : (Jvm.Cond.code y bytes mx rt).before a s = true := by
  simp only [Bool.and_eq_true, beq_iff_eq, Bool.not_eq_true', decide_eq_true_eq] at h5
  obtain ⟨⟨⟨⟨⟨g1, g2⟩, g3⟩, g4⟩, g5⟩, g6⟩ := h5
  simp [Cond.before, Cond.holds, Cond.value, h1, h2, h3, h4, g1, g2, g3, g4, g5, g6]
def isCode : Jvm.Cond → Bool
  | .code _ _ _ _ => true
  | _ => false
theorem all_split {L : List Jvm.Cond} {P : Jvm.Cond → Bool} (h1 : L.all (fun c => isCode c || P c) = true) (h2 : ∀ c ∈ L.filter isCode, P c = true) : L.all P = true := by
  refine List.all_eq_true.mpr fun c hc => ?_
  have h := List.all_eq_true.mp h1 c hc
  rcases Bool.eq_false_or_eq_true (isCode c) with hi | hi
  · exact h2 c (List.mem_filter.mpr ⟨hc, hi⟩)
  · simpa [hi] using h
set_option maxRecDepth 65536 in
theorem w_c0 : (Jvm.Cond.code x code maxLocals ret).before args0 about1 = true := code_word (m := ⟨1, 1⟩) (meth := k1m1) (c := k1c1) (by decide +kernel) rfl rfl rfl (by decide +kernel)
set_option maxRecDepth 65536 in
theorem w_c1 : (Jvm.Cond.code ({ cls := "java/lang/Math", name := "min", desc := "(JJ)J" } : Jvm.MethodName) jdk_29_method_70_code (4 : Nat) (Option.some Jvm.ClassFile.FieldType.long)).before args0 about1 = true := code_word (m := ⟨2, 3⟩) (meth := k2m3) (c := k2c3) (by decide +kernel) rfl rfl rfl (by decide +kernel)
set_option maxRecDepth 65536 in
theorem w_c2 : (Jvm.Cond.code ({ cls := "java/lang/Math", name := "max", desc := "(JJ)J" } : Jvm.MethodName) jdk_29_method_66_code (4 : Nat) (Option.some Jvm.ClassFile.FieldType.long)).before args0 about1 = true := code_word (m := ⟨2, 1⟩) (meth := k2m1) (c := k2c1) (by decide +kernel) rfl rfl rfl (by decide +kernel)
set_option maxRecDepth 65536 in
theorem w_c3 : (Jvm.Cond.code ({ cls := "com/example/chronotriple/chronotriple/Box", name := "<init>", desc := "([J)V" } : Jvm.MethodName) prog_2_method_1_code (3 : Nat) (Option.none : Option Jvm.ClassFile.FieldType)).before args0 about1 = true := code_word (m := ⟨3, 0⟩) (meth := k3m0) (c := k3c0) (by decide +kernel) rfl rfl rfl (by decide +kernel)
set_option maxRecDepth 65536 in
theorem w_c4 : (Jvm.Cond.code ({ cls := "java/lang/Object", name := "<init>", desc := "()V" } : Jvm.MethodName) object_method_1_code (1 : Nat) (Option.none : Option Jvm.ClassFile.FieldType)).before args0 about1 = true := code_word (m := ⟨0, 0⟩) (meth := k0m0) (c := k0c0) (by decide +kernel) rfl rfl rfl (by decide +kernel)
set_option maxRecDepth 65536 in
theorem w_c5 : (Jvm.Cond.code ({ cls := "com/example/chronotriple/chronotriple/Box", name := "withAxis", desc := "(JJ)Lcom/example/chronotriple/chronotriple/Box;" } : Jvm.MethodName) prog_2_method_7_code (6 : Nat) (Option.some (Jvm.ClassFile.FieldType.object "com/example/chronotriple/chronotriple/Box"))).before args0 about1 = true := code_word (m := ⟨3, 4⟩) (meth := k3m4) (c := k3c4) (by decide +kernel) rfl rfl rfl (by decide +kernel)
set_option maxRecDepth 65536 in
theorem w_c6 : (Jvm.Cond.code ({ cls := "java/util/Arrays", name := "copyOf", desc := "([JI)[J" } : Jvm.MethodName) jdk_65_method_124_code (3 : Nat) (Option.some (Jvm.ClassFile.FieldType.array Jvm.ClassFile.FieldType.long))).before args0 about1 = true := code_word (m := ⟨5, 1⟩) (meth := k5m1) (c := k5c1) (by decide +kernel) rfl rfl rfl (by decide +kernel)
set_option maxRecDepth 65536 in
theorem w_c7 : (Jvm.Cond.code ({ cls := "java/lang/Math", name := "min", desc := "(II)I" } : Jvm.MethodName) jdk_29_method_69_code (2 : Nat) (Option.some Jvm.ClassFile.FieldType.int)).before args0 about1 = true := code_word (m := ⟨2, 2⟩) (meth := k2m2) (c := k2c2) (by decide +kernel) rfl rfl rfl (by decide +kernel)
set_option maxRecDepth 65536 in
theorem w_c8 : (Jvm.Cond.code ({ cls := "com/example/chronotriple/chronotriple/Box", name := "dimensions", desc := "()I" } : Jvm.MethodName) prog_2_method_3_code (1 : Nat) (Option.some Jvm.ClassFile.FieldType.int)).before args0 about1 = true := code_word (m := ⟨3, 1⟩) (meth := k3m1) (c := k3c1) (by decide +kernel) rfl rfl rfl (by decide +kernel)
set_option maxRecDepth 65536 in
theorem w_c9 : (Jvm.Cond.code ({ cls := "com/example/chronotriple/chronotriple/Box", name := "from", desc := "(I)J" } : Jvm.MethodName) prog_2_method_4_code (2 : Nat) (Option.some Jvm.ClassFile.FieldType.long)).before args0 about1 = true := code_word (m := ⟨3, 2⟩) (meth := k3m2) (c := k3c2) (by decide +kernel) rfl rfl rfl (by decide +kernel)
set_option maxRecDepth 65536 in
theorem w_c10 : (Jvm.Cond.code ({ cls := "com/example/chronotriple/chronotriple/Box", name := "to", desc := "(I)J" } : Jvm.MethodName) prog_2_method_5_code (2 : Nat) (Option.some Jvm.ClassFile.FieldType.long)).before args0 about1 = true := code_word (m := ⟨3, 3⟩) (meth := k3m3) (c := k3c3) (by decide +kernel) rfl rfl rfl (by decide +kernel)
def codes1 : List Jvm.Cond := [Jvm.Cond.code x code maxLocals ret, Jvm.Cond.code ({ cls := "java/lang/Math", name := "min", desc := "(JJ)J" } : Jvm.MethodName) jdk_29_method_70_code (4 : Nat) (Option.some Jvm.ClassFile.FieldType.long), Jvm.Cond.code ({ cls := "java/lang/Math", name := "max", desc := "(JJ)J" } : Jvm.MethodName) jdk_29_method_66_code (4 : Nat) (Option.some Jvm.ClassFile.FieldType.long), Jvm.Cond.code ({ cls := "com/example/chronotriple/chronotriple/Box", name := "<init>", desc := "([J)V" } : Jvm.MethodName) prog_2_method_1_code (3 : Nat) (Option.none : Option Jvm.ClassFile.FieldType), Jvm.Cond.code ({ cls := "java/lang/Object", name := "<init>", desc := "()V" } : Jvm.MethodName) object_method_1_code (1 : Nat) (Option.none : Option Jvm.ClassFile.FieldType), Jvm.Cond.code ({ cls := "com/example/chronotriple/chronotriple/Box", name := "withAxis", desc := "(JJ)Lcom/example/chronotriple/chronotriple/Box;" } : Jvm.MethodName) prog_2_method_7_code (6 : Nat) (Option.some (Jvm.ClassFile.FieldType.object "com/example/chronotriple/chronotriple/Box")), Jvm.Cond.code ({ cls := "java/util/Arrays", name := "copyOf", desc := "([JI)[J" } : Jvm.MethodName) jdk_65_method_124_code (3 : Nat) (Option.some (Jvm.ClassFile.FieldType.array Jvm.ClassFile.FieldType.long)), Jvm.Cond.code ({ cls := "java/lang/Math", name := "min", desc := "(II)I" } : Jvm.MethodName) jdk_29_method_69_code (2 : Nat) (Option.some Jvm.ClassFile.FieldType.int), Jvm.Cond.code ({ cls := "com/example/chronotriple/chronotriple/Box", name := "dimensions", desc := "()I" } : Jvm.MethodName) prog_2_method_3_code (1 : Nat) (Option.some Jvm.ClassFile.FieldType.int), Jvm.Cond.code ({ cls := "com/example/chronotriple/chronotriple/Box", name := "from", desc := "(I)J" } : Jvm.MethodName) prog_2_method_4_code (2 : Nat) (Option.some Jvm.ClassFile.FieldType.long), Jvm.Cond.code ({ cls := "com/example/chronotriple/chronotriple/Box", name := "to", desc := "(I)J" } : Jvm.MethodName) prog_2_method_5_code (2 : Nat) (Option.some Jvm.ClassFile.FieldType.long)]
set_option maxRecDepth 65536 in
theorem codes_eq : words1.filter isCode = codes1 := rfl
theorem w_codes : ∀ c ∈ words1.filter isCode, c.before args0 about1 = true := by
  rw [codes_eq]
  intro c hc
  simp only [codes1, List.mem_cons, List.not_mem_nil, or_false] at hc
  rcases hc with rfl | rfl | rfl | rfl | rfl | rfl | rfl | rfl | rfl | rfl | rfl
  · exact w_c0
  · exact w_c1
  · exact w_c2
  · exact w_c3
  · exact w_c4
  · exact w_c5
  · exact w_c6
  · exact w_c7
  · exact w_c8
  · exact w_c9
  · exact w_c10
set_option maxRecDepth 65536 in
theorem w_t1 : (words1.take 24).all (fun c => isCode c || c.before args0 about1) = true := by decide +kernel
set_option maxRecDepth 65536 in
theorem w_t2 : ((words1.drop 24).take 24).all (fun c => isCode c || c.before args0 about1) = true := by decide +kernel
set_option maxRecDepth 65536 in
theorem w_t3 : ((words1.drop 24).drop 24).all (fun c => isCode c || c.before args0 about1) = true := by decide +kernel
theorem w_tables : (allAtoms (Jvm.Cond.code x code maxLocals ret :: tables_1)).before args0 about1 = true := by
  rw [allAtoms_all]
  show words1.all (fun c => c.before args0 about1) = true
  refine all_split ?_ w_codes
  rw [← List.take_append_drop 24 words1, List.all_append, w_t1, ← List.take_append_drop 24 (words1.drop 24), List.all_append, w_t2, w_t3]
  rfl
set_option maxRecDepth 65536 in
theorem w_case : (Jvm.Cond.and given_1 narrow_1).before args0 about1 = true := by decide +kernel
theorem w_applies : (headSpec (Jvm.Cond.code x code maxLocals ret :: tables_1) room_1).applies x e0.platform about1 = true :=
  (Spec.applies_iff w_frames).mpr ⟨w_running, w_runnable, w_alone, w_named, w_hears, w_ripe, w_room, w_tables⟩
theorem atStart : AtStart classFile x code maxLocals ret World_1 tables_1 room_1 Calls_1 rest_1 Pre_1 launch0 p0 e0 about1 theMethod args0 below0 :=
  ⟨lists_1, trivial, launch0.admits_env _ _ _, launch0.least_env, fairChoices_fair.cas, fairChoices_fair.clock, w_frames, w_args, w_heap, w_applies, trivial, trivial, w_case⟩
end start1
theorem witness_1 : WitnessClaimed_1 := ⟨start1.p0, start1.e0, start1.about1, start1.theMethod, start1.args0, start1.below0, start1.atStart⟩
end Jvm.Pilot.@@N@@
