import JvmDerived
import JvmDerived.Pilot.@@N@@Statement
import JvmDerived.Pilot.@@N@@Code
set_option linter.unusedVariables false
set_option linter.unusedSimpArgs false
namespace Jvm.RoadKit
open Sem ClassFile Op Lib Jvm.Stand Jvm.Free Jvm.LawKit
section New
variable {p : Program} {l : Launch} {e : Env} {R : Room} {s : State} {m : MethodId} {args : Array Value} {below : List Frame} {meth : Method} {c : Code} {T : State} {locs : List Loc} {cells slots : Nat}
theorem retI (X : Stand p l e R s m args below meth c T locs cells slots) (hx : p.tables.exec = Jvm.exec) {pc : Nat} {Ls : Array Slot} {z : Int32} {rest : List Value} (hret : meth.sig.returnType = some .int) (hd : decode c.code pc = .ok (.ireturn, 1)) {fs : List Frame}
    (hl : ∀ (f : JFrame) (acts : List Action), f.method = m → f.locked = none → f.entered = [] → (doReturn e (T.setTop f) acts (some (.int z))).1 = T.setFrames fs) : Steps p.tables e below (T.setTop (mkF m pc Ls (.int z :: rest))) (T.setFrames fs) := by
  have hm' : T.vm.method? m = some meth := X.method'
  have hn : narrow .int (.int z) = .int z := rfl
  show Steps p.tables e below (T.setTop { method := m, pc := pc, locals := Ls, stack := _ :: rest, locked := none }) _
  jvm_step X.here [X.here.top, hx, hd, hm', hret, hn]
  first | (intro acts; rw [hl _ acts rfl rfl rfl]) | rw [hl _ _ rfl rfl rfl]
  exact Steps.refl _
end New
end Jvm.RoadKit
namespace Jvm.Pilot.@@N@@
open Jvm Jvm.ClassFile Sem Op Lib Jvm.Free Jvm.Stand Jvm.LawKit Jvm.RoadKit Bundle Jvm.Pilot.@@N@@.Jvm.D
theorem own_getD (L : List Int64) (k : Nat) : (L.map Value.long).getD k (.long 0) = .long (L.getD k 0) := by
  induction L generalizing k with
  | nil => simp
  | cons a t ih => cases k with
    | zero => simp
    | succ n => simpa using ih n
theorem d_jdk_29_method_70_code_0 : decode jdk_29_method_70_code 0 = .ok (.lload_n 0, 1) := by decide +kernel
theorem d_jdk_29_method_70_code_1 : decode jdk_29_method_70_code 1 = .ok (.lload_n 2, 1) := by decide +kernel
theorem d_jdk_29_method_70_code_2 : decode jdk_29_method_70_code 2 = .ok (.lcmp, 1) := by decide +kernel
theorem d_jdk_29_method_70_code_3 : decode jdk_29_method_70_code 3 = .ok (.ifCond .gt 7, 3) := by decide +kernel
theorem d_jdk_29_method_70_code_10 : decode jdk_29_method_70_code 10 = .ok (.lload_n 2, 1) := by decide +kernel
theorem d_jdk_29_method_70_code_11 : decode jdk_29_method_70_code 11 = .ok (.lreturn, 1) := by decide +kernel
theorem d_jdk_29_method_70_code_6 : decode jdk_29_method_70_code 6 = .ok (.lload_n 0, 1) := by decide +kernel
theorem d_jdk_29_method_70_code_7 : decode jdk_29_method_70_code 7 = .ok (.goto 4, 3) := by decide +kernel
theorem ef_min (m : MethodId) (va : Int64) (vb : Int64) : entryFrame m #[(.long va), (.long vb)] 4 = mkF m 0 #[.val (.long va), .second, .val (.long vb), .second] [] := by first | (simp [entryFrame, mkF, argsToLocals, Value.category]; done) | rfl
def Q_min (Z : State) (va : Int64) (vb : Int64) (h0 : Heap) (n0 : Nat) (v : Option Value) (h : Heap) (L : List Loc) : Prop := (∃ z : Int64, v = some (.long z) ∧ (z = if vb < va then vb else va)) ∧ Fr n0 L ∧ h = h0
set_option maxRecDepth 65536 in
set_option maxHeartbeats 40000000 in
theorem rm_min (l : Launch) (Z : State) (a0 : Array Value) (hw : ∀ d ∈ tables_1, d.before a0 Z = true) (ws : List Jvm.Cond) (va : Int64) (vb : Int64) (h0 : Heap) (n0 : Nat) (Z0 : n0 ≤ h0.size) :
    MetFree l (⟨"java/lang/Math", "min", "(JJ)J"⟩ : MethodName) (head1 (Jvm.Cond.code (⟨"java/lang/Math", "min", "(JJ)J"⟩ : MethodName) jdk_29_method_70_code 4 (some .long) :: ws) ({ frames := 0, cells := 0, slots := 0, locals := 0 } : Room)) (fun a U => a = #[(.long va), (.long vb)] ∧ Z.Warmed39 U.vm ∧ U.heap = h0) (fun _ _ _ _ _ => True) (fun _ U o U' => ∃ v L, o = .returned v ∧ Q_min Z va vb h0 n0 v U'.heap L ∧ FrameEnd U o U' L ({ frames := 0, cells := 0, slots := 0, locals := 0 } : Room).cells ({ frames := 0, cells := 0, slots := 0, locals := 0 } : Room).slots) := by
  refine MetFree.of_bodySF (Jvm.Free.JP.mathPlain rfl (by decide +kernel)) hisR ?_
  intro p e s m args below meth c s₁ Bd hml0 hP hK
  obtain ⟨rfl, hZ, hh⟩ := hP
  have hx := Bd.exec
  have hby := Bd.bytes
  have hml : c.maxLocals = 4 := hml0
  have hown : s.vm.findClass "java/lang/Math" = some m.cls := findClass_of_methodNamed Bd.named
  have hnm := (name_of_methodNamed Bd.named Bd.method).1
  have X0 : Stand p l e ({ frames := 0, cells := 0, slots := 0, locals := 0 } : Room) s m #[(.long va), (.long vb)] below meth c s₁ [] 0 0 := Stand.of_body Bd
  have e0 : s₁.heap = h0 := by rw [← hh, Bd.state]; rfl
  have N0 := Fr.nil n0
  have pre0 : ∀ t, Steps p.tables e below (s₁.setTop (mkF m 0 #[.val (.long va), .second, .val (.long vb), .second] [])) t → Steps p.tables e below (s₁.setTop (entryFrame m #[(.long va), (.long vb)] 4)) t := fun t k => castTop (ef_min m va vb) k
  by_cases h3_1 : vb < va
  · obtain ⟨fs, hr, hrun, hended, hW, hsame⟩ := X0.leave (v := some (.long vb)) (fun h => by rw [Bd.returns] at h; cases h)
    refine ⟨_, _, pre0 _ ?_, hrun, hended, _, _, rfl, ?_, ⟨_, rfl⟩, hW, hsame.mono (by decide) (by decide)⟩
    · show Steps p.tables e below (s₁.setTop (mkF m 0 #[.val (.long va), .second, .val (.long vb), .second] [])) _
      refine XS.lloadN X0.here hx rfl (hb hby d_jdk_29_method_70_code_0) rfl ?_
      show Steps p.tables e below (s₁.setTop (mkF m 1 #[.val (.long va), .second, .val (.long vb), .second] [(.long va)])) _
      refine XS.lloadN X0.here hx rfl (hb hby d_jdk_29_method_70_code_1) rfl ?_
      show Steps p.tables e below (s₁.setTop (mkF m 2 #[.val (.long va), .second, .val (.long vb), .second] [(.long vb), (.long va)])) _
      refine XS.lcmp X0.here hx rfl (hb hby d_jdk_29_method_70_code_2) rfl ?_
      show Steps p.tables e below (s₁.setTop (mkF m 3 #[.val (.long va), .second, .val (.long vb), .second] [(.int (lcmpW va vb))])) _
      refine XS.ifYes X0.here hx rfl (pc0 := 3) (pc' := 10) rfl (hb hby d_jdk_29_method_70_code_3) rfl ((if0 _ _).trans (tlt ((lw_gt _ _).mpr h3_1)).2.2.1) (by decide) (by decide) ?_
      show Steps p.tables e below (s₁.setTop (mkF m 10 #[.val (.long va), .second, .val (.long vb), .second] [])) _
      refine XS.lloadN X0.here hx rfl (hb hby d_jdk_29_method_70_code_10) rfl ?_
      show Steps p.tables e below (s₁.setTop (mkF m 11 #[.val (.long va), .second, .val (.long vb), .second] [(.long vb)])) _
      exact X0.lreturnOut hx Bd.returns (hb hby d_jdk_29_method_70_code_11) hr
    · show Q_min Z va vb h0 n0 _ s₁.heap _
      rw [e0]
      exact ⟨⟨_, rfl, by simp [h3_1]⟩, N0, rfl⟩
  · obtain ⟨fs, hr, hrun, hended, hW, hsame⟩ := X0.leave (v := some (.long va)) (fun h => by rw [Bd.returns] at h; cases h)
    refine ⟨_, _, pre0 _ ?_, hrun, hended, _, _, rfl, ?_, ⟨_, rfl⟩, hW, hsame.mono (by decide) (by decide)⟩
    · show Steps p.tables e below (s₁.setTop (mkF m 0 #[.val (.long va), .second, .val (.long vb), .second] [])) _
      refine XS.lloadN X0.here hx rfl (hb hby d_jdk_29_method_70_code_0) rfl ?_
      show Steps p.tables e below (s₁.setTop (mkF m 1 #[.val (.long va), .second, .val (.long vb), .second] [(.long va)])) _
      refine XS.lloadN X0.here hx rfl (hb hby d_jdk_29_method_70_code_1) rfl ?_
      show Steps p.tables e below (s₁.setTop (mkF m 2 #[.val (.long va), .second, .val (.long vb), .second] [(.long vb), (.long va)])) _
      refine XS.lcmp X0.here hx rfl (hb hby d_jdk_29_method_70_code_2) rfl ?_
      show Steps p.tables e below (s₁.setTop (mkF m 3 #[.val (.long va), .second, .val (.long vb), .second] [(.int (lcmpW va vb))])) _
      refine XS.ifNo X0.here hx rfl (hb hby d_jdk_29_method_70_code_3) rfl ((if0 _ _).trans (flt (fun q => h3_1 ((lw_gt _ _).mp q))).2.2.1) ?_
      show Steps p.tables e below (s₁.setTop (mkF m 6 #[.val (.long va), .second, .val (.long vb), .second] [])) _
      refine XS.lloadN X0.here hx rfl (hb hby d_jdk_29_method_70_code_6) rfl ?_
      show Steps p.tables e below (s₁.setTop (mkF m 7 #[.val (.long va), .second, .val (.long vb), .second] [(.long va)])) _
      refine XS.goto X0.here hx rfl (pc0 := 7) (pc' := 11) rfl (hb hby d_jdk_29_method_70_code_7) (by decide) (by decide) ?_
      show Steps p.tables e below (s₁.setTop (mkF m 11 #[.val (.long va), .second, .val (.long vb), .second] [(.long va)])) _
      exact X0.lreturnOut hx Bd.returns (hb hby d_jdk_29_method_70_code_11) hr
    · show Q_min Z va vb h0 n0 _ s₁.heap _
      rw [e0]
      exact ⟨⟨_, rfl, by simp [h3_1]⟩, N0, rfl⟩
theorem d_jdk_29_method_66_code_0 : decode jdk_29_method_66_code 0 = .ok (.lload_n 0, 1) := by decide +kernel
theorem d_jdk_29_method_66_code_1 : decode jdk_29_method_66_code 1 = .ok (.lload_n 2, 1) := by decide +kernel
theorem d_jdk_29_method_66_code_2 : decode jdk_29_method_66_code 2 = .ok (.lcmp, 1) := by decide +kernel
theorem d_jdk_29_method_66_code_3 : decode jdk_29_method_66_code 3 = .ok (.ifCond .lt 7, 3) := by decide +kernel
theorem d_jdk_29_method_66_code_10 : decode jdk_29_method_66_code 10 = .ok (.lload_n 2, 1) := by decide +kernel
theorem d_jdk_29_method_66_code_11 : decode jdk_29_method_66_code 11 = .ok (.lreturn, 1) := by decide +kernel
theorem d_jdk_29_method_66_code_6 : decode jdk_29_method_66_code 6 = .ok (.lload_n 0, 1) := by decide +kernel
theorem d_jdk_29_method_66_code_7 : decode jdk_29_method_66_code 7 = .ok (.goto 4, 3) := by decide +kernel
theorem ef_max (m : MethodId) (va : Int64) (vb : Int64) : entryFrame m #[(.long va), (.long vb)] 4 = mkF m 0 #[.val (.long va), .second, .val (.long vb), .second] [] := by first | (simp [entryFrame, mkF, argsToLocals, Value.category]; done) | rfl
def Q_max (Z : State) (va : Int64) (vb : Int64) (h0 : Heap) (n0 : Nat) (v : Option Value) (h : Heap) (L : List Loc) : Prop := (∃ z : Int64, v = some (.long z) ∧ (z = if va < vb then vb else va)) ∧ Fr n0 L ∧ h = h0
set_option maxRecDepth 65536 in
set_option maxHeartbeats 40000000 in
theorem rm_max (l : Launch) (Z : State) (a0 : Array Value) (hw : ∀ d ∈ tables_1, d.before a0 Z = true) (ws : List Jvm.Cond) (va : Int64) (vb : Int64) (h0 : Heap) (n0 : Nat) (Z0 : n0 ≤ h0.size) :
    MetFree l (⟨"java/lang/Math", "max", "(JJ)J"⟩ : MethodName) (head1 (Jvm.Cond.code (⟨"java/lang/Math", "max", "(JJ)J"⟩ : MethodName) jdk_29_method_66_code 4 (some .long) :: ws) ({ frames := 0, cells := 0, slots := 0, locals := 0 } : Room)) (fun a U => a = #[(.long va), (.long vb)] ∧ Z.Warmed39 U.vm ∧ U.heap = h0) (fun _ _ _ _ _ => True) (fun _ U o U' => ∃ v L, o = .returned v ∧ Q_max Z va vb h0 n0 v U'.heap L ∧ FrameEnd U o U' L ({ frames := 0, cells := 0, slots := 0, locals := 0 } : Room).cells ({ frames := 0, cells := 0, slots := 0, locals := 0 } : Room).slots) := by
  refine MetFree.of_bodySF (Jvm.Free.JP.mathPlain rfl (by decide +kernel)) hisR ?_
  intro p e s m args below meth c s₁ Bd hml0 hP hK
  obtain ⟨rfl, hZ, hh⟩ := hP
  have hx := Bd.exec
  have hby := Bd.bytes
  have hml : c.maxLocals = 4 := hml0
  have hown : s.vm.findClass "java/lang/Math" = some m.cls := findClass_of_methodNamed Bd.named
  have hnm := (name_of_methodNamed Bd.named Bd.method).1
  have X0 : Stand p l e ({ frames := 0, cells := 0, slots := 0, locals := 0 } : Room) s m #[(.long va), (.long vb)] below meth c s₁ [] 0 0 := Stand.of_body Bd
  have e0 : s₁.heap = h0 := by rw [← hh, Bd.state]; rfl
  have N0 := Fr.nil n0
  have pre0 : ∀ t, Steps p.tables e below (s₁.setTop (mkF m 0 #[.val (.long va), .second, .val (.long vb), .second] [])) t → Steps p.tables e below (s₁.setTop (entryFrame m #[(.long va), (.long vb)] 4)) t := fun t k => castTop (ef_max m va vb) k
  by_cases h3_2 : va < vb
  · obtain ⟨fs, hr, hrun, hended, hW, hsame⟩ := X0.leave (v := some (.long vb)) (fun h => by rw [Bd.returns] at h; cases h)
    refine ⟨_, _, pre0 _ ?_, hrun, hended, _, _, rfl, ?_, ⟨_, rfl⟩, hW, hsame.mono (by decide) (by decide)⟩
    · show Steps p.tables e below (s₁.setTop (mkF m 0 #[.val (.long va), .second, .val (.long vb), .second] [])) _
      refine XS.lloadN X0.here hx rfl (hb hby d_jdk_29_method_66_code_0) rfl ?_
      show Steps p.tables e below (s₁.setTop (mkF m 1 #[.val (.long va), .second, .val (.long vb), .second] [(.long va)])) _
      refine XS.lloadN X0.here hx rfl (hb hby d_jdk_29_method_66_code_1) rfl ?_
      show Steps p.tables e below (s₁.setTop (mkF m 2 #[.val (.long va), .second, .val (.long vb), .second] [(.long vb), (.long va)])) _
      refine XS.lcmp X0.here hx rfl (hb hby d_jdk_29_method_66_code_2) rfl ?_
      show Steps p.tables e below (s₁.setTop (mkF m 3 #[.val (.long va), .second, .val (.long vb), .second] [(.int (lcmpW va vb))])) _
      refine XS.ifYes X0.here hx rfl (pc0 := 3) (pc' := 10) rfl (hb hby d_jdk_29_method_66_code_3) rfl ((if0 _ _).trans (tlt ((lw_lt _ _).mpr h3_2)).1) (by decide) (by decide) ?_
      show Steps p.tables e below (s₁.setTop (mkF m 10 #[.val (.long va), .second, .val (.long vb), .second] [])) _
      refine XS.lloadN X0.here hx rfl (hb hby d_jdk_29_method_66_code_10) rfl ?_
      show Steps p.tables e below (s₁.setTop (mkF m 11 #[.val (.long va), .second, .val (.long vb), .second] [(.long vb)])) _
      exact X0.lreturnOut hx Bd.returns (hb hby d_jdk_29_method_66_code_11) hr
    · show Q_max Z va vb h0 n0 _ s₁.heap _
      rw [e0]
      exact ⟨⟨_, rfl, by simp [h3_2]⟩, N0, rfl⟩
  · obtain ⟨fs, hr, hrun, hended, hW, hsame⟩ := X0.leave (v := some (.long va)) (fun h => by rw [Bd.returns] at h; cases h)
    refine ⟨_, _, pre0 _ ?_, hrun, hended, _, _, rfl, ?_, ⟨_, rfl⟩, hW, hsame.mono (by decide) (by decide)⟩
    · show Steps p.tables e below (s₁.setTop (mkF m 0 #[.val (.long va), .second, .val (.long vb), .second] [])) _
      refine XS.lloadN X0.here hx rfl (hb hby d_jdk_29_method_66_code_0) rfl ?_
      show Steps p.tables e below (s₁.setTop (mkF m 1 #[.val (.long va), .second, .val (.long vb), .second] [(.long va)])) _
      refine XS.lloadN X0.here hx rfl (hb hby d_jdk_29_method_66_code_1) rfl ?_
      show Steps p.tables e below (s₁.setTop (mkF m 2 #[.val (.long va), .second, .val (.long vb), .second] [(.long vb), (.long va)])) _
      refine XS.lcmp X0.here hx rfl (hb hby d_jdk_29_method_66_code_2) rfl ?_
      show Steps p.tables e below (s₁.setTop (mkF m 3 #[.val (.long va), .second, .val (.long vb), .second] [(.int (lcmpW va vb))])) _
      refine XS.ifNo X0.here hx rfl (hb hby d_jdk_29_method_66_code_3) rfl ((if0 _ _).trans (flt (fun q => h3_2 ((lw_lt _ _).mp q))).1) ?_
      show Steps p.tables e below (s₁.setTop (mkF m 6 #[.val (.long va), .second, .val (.long vb), .second] [])) _
      refine XS.lloadN X0.here hx rfl (hb hby d_jdk_29_method_66_code_6) rfl ?_
      show Steps p.tables e below (s₁.setTop (mkF m 7 #[.val (.long va), .second, .val (.long vb), .second] [(.long va)])) _
      refine XS.goto X0.here hx rfl (pc0 := 7) (pc' := 11) rfl (hb hby d_jdk_29_method_66_code_7) (by decide) (by decide) ?_
      show Steps p.tables e below (s₁.setTop (mkF m 11 #[.val (.long va), .second, .val (.long vb), .second] [(.long va)])) _
      exact X0.lreturnOut hx Bd.returns (hb hby d_jdk_29_method_66_code_11) hr
    · show Q_max Z va vb h0 n0 _ s₁.heap _
      rw [e0]
      exact ⟨⟨_, rfl, by simp [h3_2]⟩, N0, rfl⟩
theorem own_lohi (va vb lo hi : Int64) (h1 : lo = if va = vb then (if va = (9223372036854775807 : Int64) then va - (1 : Int64) else va) else (if vb < va then vb else va)) (h2 : hi = if va = vb then (if va = (9223372036854775807 : Int64) then va else va + (1 : Int64)) else (if va < vb then vb else va)) : lo < hi := by
  have e : (9223372036854775807 : Int64).toInt = 9223372036854775807 := by decide
  have e1 : (1 : Int64).toInt = 1 := by decide
  by_cases a : va = vb
  · rw [if_pos a] at h1 h2
    by_cases b : va = (9223372036854775807 : Int64)
    · rw [if_pos b] at h1 h2; rw [h1, h2, b]; decide
    · rw [if_neg b] at h1 h2
      have q := c_ladd va 1
      have r := rng64 va
      have r2 := rng64 (va + 1)
      have n : va.toInt ≠ 9223372036854775807 := fun z => b (Int64.toInt_inj.mp (by rw [z, e]))
      rw [h1, h2, Int64.lt_iff_toInt_lt]; omega
  · rw [if_neg a] at h1 h2
    have n : va.toInt ≠ vb.toInt := fun z => a (Int64.toInt_inj.mp z)
    rw [h1, h2]
    by_cases b : vb < va <;> by_cases d : va < vb <;> simp only [b, d, if_true, if_false] <;> rw [Int64.lt_iff_toInt_lt] at * <;> omega
theorem own_and (p0 p1 lo0 hi0 lo1 hi1 : Int64) (r z a b : Int32) (hr : r = if p0 < lo0 then 0 else if p0 < hi0 then (if p1 < lo1 then 0 else if p1 < hi1 then 1 else 0) else 0) (hz : z = if a = 0 then 0 else if b = 0 then 0 else 1) (ha : a = if p0 < lo0 then 0 else if p0 < hi0 then 1 else 0) (hb : b = if p1 < lo1 then 0 else if p1 < hi1 then 1 else 0) : r = z := by
  subst ha hb; rw [hr, hz]
  by_cases q1 : p0 < lo0 <;> by_cases q2 : p0 < hi0 <;> by_cases q3 : p1 < lo1 <;> by_cases q4 : p1 < hi1 <;> simp [q1, q2, q3, q4]
theorem pn_0 : plainName "com/example/chronotriple/chronotriple/BoxContainsPinLaw" = true := by first | (simp [plainName, overriddenIn]; done) | decide +kernel
theorem d_method_3_code_0 : decode method_3_code 0 = .ok (.lload_n 0, 1) := by decide +kernel
theorem d_method_3_code_1 : decode method_3_code 1 = .ok (.lload_n 2, 1) := by decide +kernel
theorem d_method_3_code_2 : decode method_3_code 2 = .ok (.lcmp, 1) := by decide +kernel
theorem d_method_3_code_3 : decode method_3_code 3 = .ok (.ifCond .ne 19, 3) := by decide +kernel
theorem d_method_3_code_6 : decode method_3_code 6 = .ok (.lload_n 0, 1) := by decide +kernel
theorem d_method_3_code_7 : decode method_3_code 7 = .ok (.ldc2_w 27, 3) := by decide +kernel
theorem d_method_3_code_10 : decode method_3_code 10 = .ok (.lcmp, 1) := by decide +kernel
theorem d_method_3_code_11 : decode method_3_code 11 = .ok (.ifCond .ne 9, 3) := by decide +kernel
theorem d_method_3_code_14 : decode method_3_code 14 = .ok (.lload_n 0, 1) := by decide +kernel
theorem d_method_3_code_15 : decode method_3_code 15 = .ok (.lconst 1, 1) := by decide +kernel
theorem d_method_3_code_16 : decode method_3_code 16 = .ok (.lsub, 1) := by decide +kernel
theorem d_method_3_code_17 : decode method_3_code 17 = .ok (.goto 4, 3) := by decide +kernel
theorem d_method_3_code_21 : decode method_3_code 21 = .ok (.lreturn, 1) := by decide +kernel
theorem d_method_3_code_20 : decode method_3_code 20 = .ok (.lload_n 0, 1) := by decide +kernel
theorem d_method_3_code_22 : decode method_3_code 22 = .ok (.lload_n 0, 1) := by decide +kernel
theorem d_method_3_code_23 : decode method_3_code 23 = .ok (.lload_n 2, 1) := by decide +kernel
theorem d_method_3_code_24 : decode method_3_code 24 = .ok (.invokestatic 29, 3) := by decide +kernel
theorem pd_0 : parseMethodDescriptor "(JJ)J" = some ⟨[.long, .long], some .long⟩ := by decide +kernel
theorem d_method_3_code_27 : decode method_3_code 27 = .ok (.lreturn, 1) := by decide +kernel
theorem ef_low (m : MethodId) (va : Int64) (vb : Int64) : entryFrame m #[(.long va), (.long vb)] 4 = mkF m 0 #[.val (.long va), .second, .val (.long vb), .second] [] := by first | (simp [entryFrame, mkF, argsToLocals, Value.category]; done) | rfl
def Q_low (Z : State) (va : Int64) (vb : Int64) (h0 : Heap) (n0 : Nat) (v : Option Value) (h : Heap) (L : List Loc) : Prop := (∃ z : Int64, v = some (.long z) ∧ (z = if va = vb then (if va = (9223372036854775807 : Int64) then va - (1 : Int64) else va) else (if vb < va then vb else va))) ∧ Fr n0 L ∧ h = h0
set_option maxRecDepth 65536 in
set_option maxHeartbeats 40000000 in
theorem rm_low (l : Launch) (Z : State) (a0 : Array Value) (hw : ∀ d ∈ tables_1, d.before a0 Z = true) (ws : List Jvm.Cond) (va : Int64) (vb : Int64) (h0 : Heap) (n0 : Nat) (Z0 : n0 ≤ h0.size) :
    MetFree l (⟨"com/example/chronotriple/chronotriple/BoxContainsPinLaw", "lowOf", "(JJ)J"⟩ : MethodName) (head1 (Jvm.Cond.code (⟨"com/example/chronotriple/chronotriple/BoxContainsPinLaw", "lowOf", "(JJ)J"⟩ : MethodName) method_3_code 4 (some .long) :: ws) ({ frames := 1, cells := 0, slots := 0, locals := 15 } : Room)) (fun a U => a = #[(.long va), (.long vb)] ∧ Z.Warmed39 U.vm ∧ U.heap = h0) (fun _ _ _ _ _ => True) (fun _ U o U' => ∃ v L, o = .returned v ∧ Q_low Z va vb h0 n0 v U'.heap L ∧ FrameEnd U o U' L ({ frames := 1, cells := 0, slots := 0, locals := 15 } : Room).cells ({ frames := 1, cells := 0, slots := 0, locals := 15 } : Room).slots) := by
  refine MetFree.of_bodySF (plainFor_of_name pn_0) hisR ?_
  intro p e s m args below meth c s₁ Bd hml0 hP hK
  obtain ⟨rfl, hZ, hh⟩ := hP
  have hx := Bd.exec
  have hby := Bd.bytes
  have hml : c.maxLocals = 4 := hml0
  have hown : s.vm.findClass "com/example/chronotriple/chronotriple/BoxContainsPinLaw" = some m.cls := findClass_of_methodNamed Bd.named
  have hnm := (name_of_methodNamed Bd.named Bd.method).1
  have X0 : Stand p l e ({ frames := 1, cells := 0, slots := 0, locals := 15 } : Room) s m #[(.long va), (.long vb)] below meth c s₁ [] 0 0 := Stand.of_body Bd
  have e0 : s₁.heap = h0 := by rw [← hh, Bd.state]; rfl
  have N0 := Fr.nil n0
  have pre0 : ∀ t, Steps p.tables e below (s₁.setTop (mkF m 0 #[.val (.long va), .second, .val (.long vb), .second] [])) t → Steps p.tables e below (s₁.setTop (entryFrame m #[(.long va), (.long vb)] 4)) t := fun t k => castTop (ef_low m va vb) k
  by_cases h3_3 : va = vb
  · by_cases h11_4 : va = (9223372036854775807 : Int64)
    · obtain ⟨fs, hr, hrun, hended, hW, hsame⟩ := X0.leave (v := some (.long (va - (1 : Int64)))) (fun h => by rw [Bd.returns] at h; cases h)
      refine ⟨_, _, pre0 _ ?_, hrun, hended, _, _, rfl, ?_, ⟨_, rfl⟩, hW, hsame.mono (by decide) (by decide)⟩
      · show Steps p.tables e below (s₁.setTop (mkF m 0 #[.val (.long va), .second, .val (.long vb), .second] [])) _
        refine XS.lloadN X0.here hx rfl (hb hby d_method_3_code_0) rfl ?_
        show Steps p.tables e below (s₁.setTop (mkF m 1 #[.val (.long va), .second, .val (.long vb), .second] [(.long va)])) _
        refine XS.lloadN X0.here hx rfl (hb hby d_method_3_code_1) rfl ?_
        show Steps p.tables e below (s₁.setTop (mkF m 2 #[.val (.long va), .second, .val (.long vb), .second] [(.long vb), (.long va)])) _
        refine XS.lcmp X0.here hx rfl (hb hby d_method_3_code_2) rfl ?_
        show Steps p.tables e below (s₁.setTop (mkF m 3 #[.val (.long va), .second, .val (.long vb), .second] [(.int (lcmpW va vb))])) _
        refine XS.ifNo X0.here hx rfl (hb hby d_method_3_code_3) rfl ((if0 _ _).trans (teq ((lw_eq _ _).mpr h3_3)).2) ?_
        show Steps p.tables e below (s₁.setTop (mkF m 6 #[.val (.long va), .second, .val (.long vb), .second] [])) _
        refine XS.lloadN X0.here hx rfl (hb hby d_method_3_code_6) rfl ?_
        show Steps p.tables e below (s₁.setTop (mkF m 7 #[.val (.long va), .second, .val (.long vb), .second] [(.long va)])) _
        refine X0.ldc2Long hx hown (mvT hZ (hw _ (List.mem_of_getElem? (i := 55) rfl))) (g := (mkF m 7 #[.val (.long va), .second, .val (.long vb), .second] [(.long va)])) rfl (hb hby d_method_3_code_7) _ ?_
        show Steps p.tables e below (s₁.setTop (mkF m 10 #[.val (.long va), .second, .val (.long vb), .second] [(.long (9223372036854775807 : Int64)), (.long va)])) _
        refine XS.lcmp X0.here hx rfl (hb hby d_method_3_code_10) rfl ?_
        show Steps p.tables e below (s₁.setTop (mkF m 11 #[.val (.long va), .second, .val (.long vb), .second] [(.int (lcmpW va (9223372036854775807 : Int64)))])) _
        refine XS.ifNo X0.here hx rfl (hb hby d_method_3_code_11) rfl ((if0 _ _).trans (teq ((lw_eq _ _).mpr h11_4)).2) ?_
        show Steps p.tables e below (s₁.setTop (mkF m 14 #[.val (.long va), .second, .val (.long vb), .second] [])) _
        refine XS.lloadN X0.here hx rfl (hb hby d_method_3_code_14) rfl ?_
        show Steps p.tables e below (s₁.setTop (mkF m 15 #[.val (.long va), .second, .val (.long vb), .second] [(.long va)])) _
        refine XS.lconst X0.here hx rfl (hb hby d_method_3_code_15) ?_
        show Steps p.tables e below (s₁.setTop (mkF m 16 #[.val (.long va), .second, .val (.long vb), .second] [(.long (1 : Int64)), (.long va)])) _
        refine XS.lsub X0.here hx rfl (hb hby d_method_3_code_16) rfl ?_
        show Steps p.tables e below (s₁.setTop (mkF m 17 #[.val (.long va), .second, .val (.long vb), .second] [(.long (va - (1 : Int64)))])) _
        refine XS.goto X0.here hx rfl (pc0 := 17) (pc' := 21) rfl (hb hby d_method_3_code_17) (by decide) (by decide) ?_
        show Steps p.tables e below (s₁.setTop (mkF m 21 #[.val (.long va), .second, .val (.long vb), .second] [(.long (va - (1 : Int64)))])) _
        exact X0.lreturnOut hx Bd.returns (hb hby d_method_3_code_21) hr
      · show Q_low Z va vb h0 n0 _ s₁.heap _
        rw [e0]
        exact ⟨⟨_, rfl, by rw [if_pos h3_3, if_pos h11_4]⟩, N0, rfl⟩
    · obtain ⟨fs, hr, hrun, hended, hW, hsame⟩ := X0.leave (v := some (.long va)) (fun h => by rw [Bd.returns] at h; cases h)
      refine ⟨_, _, pre0 _ ?_, hrun, hended, _, _, rfl, ?_, ⟨_, rfl⟩, hW, hsame.mono (by decide) (by decide)⟩
      · show Steps p.tables e below (s₁.setTop (mkF m 0 #[.val (.long va), .second, .val (.long vb), .second] [])) _
        refine XS.lloadN X0.here hx rfl (hb hby d_method_3_code_0) rfl ?_
        show Steps p.tables e below (s₁.setTop (mkF m 1 #[.val (.long va), .second, .val (.long vb), .second] [(.long va)])) _
        refine XS.lloadN X0.here hx rfl (hb hby d_method_3_code_1) rfl ?_
        show Steps p.tables e below (s₁.setTop (mkF m 2 #[.val (.long va), .second, .val (.long vb), .second] [(.long vb), (.long va)])) _
        refine XS.lcmp X0.here hx rfl (hb hby d_method_3_code_2) rfl ?_
        show Steps p.tables e below (s₁.setTop (mkF m 3 #[.val (.long va), .second, .val (.long vb), .second] [(.int (lcmpW va vb))])) _
        refine XS.ifNo X0.here hx rfl (hb hby d_method_3_code_3) rfl ((if0 _ _).trans (teq ((lw_eq _ _).mpr h3_3)).2) ?_
        show Steps p.tables e below (s₁.setTop (mkF m 6 #[.val (.long va), .second, .val (.long vb), .second] [])) _
        refine XS.lloadN X0.here hx rfl (hb hby d_method_3_code_6) rfl ?_
        show Steps p.tables e below (s₁.setTop (mkF m 7 #[.val (.long va), .second, .val (.long vb), .second] [(.long va)])) _
        refine X0.ldc2Long hx hown (mvT hZ (hw _ (List.mem_of_getElem? (i := 55) rfl))) (g := (mkF m 7 #[.val (.long va), .second, .val (.long vb), .second] [(.long va)])) rfl (hb hby d_method_3_code_7) _ ?_
        show Steps p.tables e below (s₁.setTop (mkF m 10 #[.val (.long va), .second, .val (.long vb), .second] [(.long (9223372036854775807 : Int64)), (.long va)])) _
        refine XS.lcmp X0.here hx rfl (hb hby d_method_3_code_10) rfl ?_
        show Steps p.tables e below (s₁.setTop (mkF m 11 #[.val (.long va), .second, .val (.long vb), .second] [(.int (lcmpW va (9223372036854775807 : Int64)))])) _
        refine XS.ifYes X0.here hx rfl (pc0 := 11) (pc' := 20) rfl (hb hby d_method_3_code_11) rfl ((if0 _ _).trans (feq (fun q => h11_4 ((lw_eq _ _).mp q))).2) (by decide) (by decide) ?_
        show Steps p.tables e below (s₁.setTop (mkF m 20 #[.val (.long va), .second, .val (.long vb), .second] [])) _
        refine XS.lloadN X0.here hx rfl (hb hby d_method_3_code_20) rfl ?_
        show Steps p.tables e below (s₁.setTop (mkF m 21 #[.val (.long va), .second, .val (.long vb), .second] [(.long va)])) _
        exact X0.lreturnOut hx Bd.returns (hb hby d_method_3_code_21) hr
      · show Q_low Z va vb h0 n0 _ s₁.heap _
        rw [e0]
        exact ⟨⟨_, rfl, by rw [if_pos h3_3, if_neg h11_4]⟩, N0, rfl⟩
  · obtain ⟨_, _, ⟨T5, L5, k5, n5⟩, -, X5, ⟨Lc5, hQ5, l5, y5, z5⟩, st5⟩ := Jvm.LawKit.callS X0 hx (y := (⟨"java/lang/Math", "min", "(JJ)J"⟩ : MethodName)) hown (mvT hZ (hw _ (List.mem_of_getElem? (i := 4) rfl))) (mvT hZ (hw _ (List.mem_of_getElem? (i := 5) rfl))) (mvT hZ (hw _ (List.mem_of_getElem? (i := 6) rfl))) (mvT hZ (hw _ (List.mem_of_getElem? (i := 7) rfl))) (by decide) (backOf (W := 0) (rm_min l Z a0 hw [] va vb h0 n0 Z0 ) hZ (hw _ (List.mem_of_getElem? (i := 7) rfl)) (hw _ (List.mem_of_getElem? (i := 6) rfl)) (by decide) (by decide)) (g := (mkF m 24 #[.val (.long va), .second, .val (.long vb), .second] [(.long vb), (.long va)])) rfl (by rw [hml]; rfl) (argsL := [(.long va), (.long vb)]) (rest := []) (lenOf pd_0 rfl) rfl (by show 2 * 0 + _ ≤ _; exact Nat.le_of_eq rfl) (hb hby d_method_3_code_24) (fun _ _ => ⟨rfl, e0, (by decide : 0 + 0 ≤ _), (by decide : 0 + 0 ≤ _)⟩)
    dsimp only [Pt.U, Pt.locs, Pt.cells, Pt.slots] at X5 l5 y5 z5 st5 hQ5
    subst l5 y5 z5
    obtain ⟨⟨r5, rfl, hr5⟩, N5q, e5⟩ := hQ5
    have N5 := Fr.app N0 N5q
    obtain ⟨fs, hr, hrun, hended, hW, hsame⟩ := X5.leave (v := some (.long r5)) (fun h => by rw [Bd.returns] at h; cases h)
    refine ⟨_, _, pre0 _ ?_, hrun, hended, _, _, rfl, ?_, ⟨_, rfl⟩, hW, hsame.mono (by decide) (by decide)⟩
    · show Steps p.tables e below (s₁.setTop (mkF m 0 #[.val (.long va), .second, .val (.long vb), .second] [])) _
      refine XS.lloadN X0.here hx rfl (hb hby d_method_3_code_0) rfl ?_
      show Steps p.tables e below (s₁.setTop (mkF m 1 #[.val (.long va), .second, .val (.long vb), .second] [(.long va)])) _
      refine XS.lloadN X0.here hx rfl (hb hby d_method_3_code_1) rfl ?_
      show Steps p.tables e below (s₁.setTop (mkF m 2 #[.val (.long va), .second, .val (.long vb), .second] [(.long vb), (.long va)])) _
      refine XS.lcmp X0.here hx rfl (hb hby d_method_3_code_2) rfl ?_
      show Steps p.tables e below (s₁.setTop (mkF m 3 #[.val (.long va), .second, .val (.long vb), .second] [(.int (lcmpW va vb))])) _
      refine XS.ifYes X0.here hx rfl (pc0 := 3) (pc' := 22) rfl (hb hby d_method_3_code_3) rfl ((if0 _ _).trans (feq (fun q => h3_3 ((lw_eq _ _).mp q))).2) (by decide) (by decide) ?_
      show Steps p.tables e below (s₁.setTop (mkF m 22 #[.val (.long va), .second, .val (.long vb), .second] [])) _
      refine XS.lloadN X0.here hx rfl (hb hby d_method_3_code_22) rfl ?_
      show Steps p.tables e below (s₁.setTop (mkF m 23 #[.val (.long va), .second, .val (.long vb), .second] [(.long va)])) _
      refine XS.lloadN X0.here hx rfl (hb hby d_method_3_code_23) rfl ?_
      show Steps p.tables e below (s₁.setTop (mkF m 24 #[.val (.long va), .second, .val (.long vb), .second] [(.long vb), (.long va)])) _
      refine st5 _ ?_
      show Steps p.tables e below (T5.setTop (mkF m 27 #[.val (.long va), .second, .val (.long vb), .second] [(.long r5)])) _
      exact X5.lreturnOut hx Bd.returns (hb hby d_method_3_code_27) hr
    · show Q_low Z va vb h0 n0 _ T5.heap _
      rw [e5]
      exact ⟨⟨_, rfl, by rw [if_neg h3_3]; exact hr5⟩, N5, rfl⟩
theorem d_method_4_code_0 : decode method_4_code 0 = .ok (.lload_n 0, 1) := by decide +kernel
theorem d_method_4_code_1 : decode method_4_code 1 = .ok (.lload_n 2, 1) := by decide +kernel
theorem d_method_4_code_2 : decode method_4_code 2 = .ok (.lcmp, 1) := by decide +kernel
theorem d_method_4_code_3 : decode method_4_code 3 = .ok (.ifCond .ne 19, 3) := by decide +kernel
theorem d_method_4_code_6 : decode method_4_code 6 = .ok (.lload_n 0, 1) := by decide +kernel
theorem d_method_4_code_7 : decode method_4_code 7 = .ok (.ldc2_w 27, 3) := by decide +kernel
theorem d_method_4_code_10 : decode method_4_code 10 = .ok (.lcmp, 1) := by decide +kernel
theorem d_method_4_code_11 : decode method_4_code 11 = .ok (.ifCond .ne 7, 3) := by decide +kernel
theorem d_method_4_code_14 : decode method_4_code 14 = .ok (.lload_n 0, 1) := by decide +kernel
theorem d_method_4_code_15 : decode method_4_code 15 = .ok (.goto 6, 3) := by decide +kernel
theorem d_method_4_code_21 : decode method_4_code 21 = .ok (.lreturn, 1) := by decide +kernel
theorem d_method_4_code_18 : decode method_4_code 18 = .ok (.lload_n 0, 1) := by decide +kernel
theorem d_method_4_code_19 : decode method_4_code 19 = .ok (.lconst 1, 1) := by decide +kernel
theorem d_method_4_code_20 : decode method_4_code 20 = .ok (.ladd, 1) := by decide +kernel
theorem d_method_4_code_22 : decode method_4_code 22 = .ok (.lload_n 0, 1) := by decide +kernel
theorem d_method_4_code_23 : decode method_4_code 23 = .ok (.lload_n 2, 1) := by decide +kernel
theorem d_method_4_code_24 : decode method_4_code 24 = .ok (.invokestatic 34, 3) := by decide +kernel
theorem d_method_4_code_27 : decode method_4_code 27 = .ok (.lreturn, 1) := by decide +kernel
theorem ef_high (m : MethodId) (va : Int64) (vb : Int64) : entryFrame m #[(.long va), (.long vb)] 4 = mkF m 0 #[.val (.long va), .second, .val (.long vb), .second] [] := by first | (simp [entryFrame, mkF, argsToLocals, Value.category]; done) | rfl
def Q_high (Z : State) (va : Int64) (vb : Int64) (h0 : Heap) (n0 : Nat) (v : Option Value) (h : Heap) (L : List Loc) : Prop := (∃ z : Int64, v = some (.long z) ∧ (z = if va = vb then (if va = (9223372036854775807 : Int64) then va else va + (1 : Int64)) else (if va < vb then vb else va))) ∧ Fr n0 L ∧ h = h0
set_option maxRecDepth 65536 in
set_option maxHeartbeats 40000000 in
theorem rm_high (l : Launch) (Z : State) (a0 : Array Value) (hw : ∀ d ∈ tables_1, d.before a0 Z = true) (ws : List Jvm.Cond) (va : Int64) (vb : Int64) (h0 : Heap) (n0 : Nat) (Z0 : n0 ≤ h0.size) :
    MetFree l (⟨"com/example/chronotriple/chronotriple/BoxContainsPinLaw", "highOf", "(JJ)J"⟩ : MethodName) (head1 (Jvm.Cond.code (⟨"com/example/chronotriple/chronotriple/BoxContainsPinLaw", "highOf", "(JJ)J"⟩ : MethodName) method_4_code 4 (some .long) :: ws) ({ frames := 1, cells := 0, slots := 0, locals := 15 } : Room)) (fun a U => a = #[(.long va), (.long vb)] ∧ Z.Warmed39 U.vm ∧ U.heap = h0) (fun _ _ _ _ _ => True) (fun _ U o U' => ∃ v L, o = .returned v ∧ Q_high Z va vb h0 n0 v U'.heap L ∧ FrameEnd U o U' L ({ frames := 1, cells := 0, slots := 0, locals := 15 } : Room).cells ({ frames := 1, cells := 0, slots := 0, locals := 15 } : Room).slots) := by
  refine MetFree.of_bodySF (plainFor_of_name pn_0) hisR ?_
  intro p e s m args below meth c s₁ Bd hml0 hP hK
  obtain ⟨rfl, hZ, hh⟩ := hP
  have hx := Bd.exec
  have hby := Bd.bytes
  have hml : c.maxLocals = 4 := hml0
  have hown : s.vm.findClass "com/example/chronotriple/chronotriple/BoxContainsPinLaw" = some m.cls := findClass_of_methodNamed Bd.named
  have hnm := (name_of_methodNamed Bd.named Bd.method).1
  have X0 : Stand p l e ({ frames := 1, cells := 0, slots := 0, locals := 15 } : Room) s m #[(.long va), (.long vb)] below meth c s₁ [] 0 0 := Stand.of_body Bd
  have e0 : s₁.heap = h0 := by rw [← hh, Bd.state]; rfl
  have N0 := Fr.nil n0
  have pre0 : ∀ t, Steps p.tables e below (s₁.setTop (mkF m 0 #[.val (.long va), .second, .val (.long vb), .second] [])) t → Steps p.tables e below (s₁.setTop (entryFrame m #[(.long va), (.long vb)] 4)) t := fun t k => castTop (ef_high m va vb) k
  by_cases h3_6 : va = vb
  · by_cases h11_7 : va = (9223372036854775807 : Int64)
    · obtain ⟨fs, hr, hrun, hended, hW, hsame⟩ := X0.leave (v := some (.long va)) (fun h => by rw [Bd.returns] at h; cases h)
      refine ⟨_, _, pre0 _ ?_, hrun, hended, _, _, rfl, ?_, ⟨_, rfl⟩, hW, hsame.mono (by decide) (by decide)⟩
      · show Steps p.tables e below (s₁.setTop (mkF m 0 #[.val (.long va), .second, .val (.long vb), .second] [])) _
        refine XS.lloadN X0.here hx rfl (hb hby d_method_4_code_0) rfl ?_
        show Steps p.tables e below (s₁.setTop (mkF m 1 #[.val (.long va), .second, .val (.long vb), .second] [(.long va)])) _
        refine XS.lloadN X0.here hx rfl (hb hby d_method_4_code_1) rfl ?_
        show Steps p.tables e below (s₁.setTop (mkF m 2 #[.val (.long va), .second, .val (.long vb), .second] [(.long vb), (.long va)])) _
        refine XS.lcmp X0.here hx rfl (hb hby d_method_4_code_2) rfl ?_
        show Steps p.tables e below (s₁.setTop (mkF m 3 #[.val (.long va), .second, .val (.long vb), .second] [(.int (lcmpW va vb))])) _
        refine XS.ifNo X0.here hx rfl (hb hby d_method_4_code_3) rfl ((if0 _ _).trans (teq ((lw_eq _ _).mpr h3_6)).2) ?_
        show Steps p.tables e below (s₁.setTop (mkF m 6 #[.val (.long va), .second, .val (.long vb), .second] [])) _
        refine XS.lloadN X0.here hx rfl (hb hby d_method_4_code_6) rfl ?_
        show Steps p.tables e below (s₁.setTop (mkF m 7 #[.val (.long va), .second, .val (.long vb), .second] [(.long va)])) _
        refine X0.ldc2Long hx hown (mvT hZ (hw _ (List.mem_of_getElem? (i := 55) rfl))) (g := (mkF m 7 #[.val (.long va), .second, .val (.long vb), .second] [(.long va)])) rfl (hb hby d_method_4_code_7) _ ?_
        show Steps p.tables e below (s₁.setTop (mkF m 10 #[.val (.long va), .second, .val (.long vb), .second] [(.long (9223372036854775807 : Int64)), (.long va)])) _
        refine XS.lcmp X0.here hx rfl (hb hby d_method_4_code_10) rfl ?_
        show Steps p.tables e below (s₁.setTop (mkF m 11 #[.val (.long va), .second, .val (.long vb), .second] [(.int (lcmpW va (9223372036854775807 : Int64)))])) _
        refine XS.ifNo X0.here hx rfl (hb hby d_method_4_code_11) rfl ((if0 _ _).trans (teq ((lw_eq _ _).mpr h11_7)).2) ?_
        show Steps p.tables e below (s₁.setTop (mkF m 14 #[.val (.long va), .second, .val (.long vb), .second] [])) _
        refine XS.lloadN X0.here hx rfl (hb hby d_method_4_code_14) rfl ?_
        show Steps p.tables e below (s₁.setTop (mkF m 15 #[.val (.long va), .second, .val (.long vb), .second] [(.long va)])) _
        refine XS.goto X0.here hx rfl (pc0 := 15) (pc' := 21) rfl (hb hby d_method_4_code_15) (by decide) (by decide) ?_
        show Steps p.tables e below (s₁.setTop (mkF m 21 #[.val (.long va), .second, .val (.long vb), .second] [(.long va)])) _
        exact X0.lreturnOut hx Bd.returns (hb hby d_method_4_code_21) hr
      · show Q_high Z va vb h0 n0 _ s₁.heap _
        rw [e0]
        exact ⟨⟨_, rfl, by rw [if_pos h3_6, if_pos h11_7]⟩, N0, rfl⟩
    · obtain ⟨fs, hr, hrun, hended, hW, hsame⟩ := X0.leave (v := some (.long (va + (1 : Int64)))) (fun h => by rw [Bd.returns] at h; cases h)
      refine ⟨_, _, pre0 _ ?_, hrun, hended, _, _, rfl, ?_, ⟨_, rfl⟩, hW, hsame.mono (by decide) (by decide)⟩
      · show Steps p.tables e below (s₁.setTop (mkF m 0 #[.val (.long va), .second, .val (.long vb), .second] [])) _
        refine XS.lloadN X0.here hx rfl (hb hby d_method_4_code_0) rfl ?_
        show Steps p.tables e below (s₁.setTop (mkF m 1 #[.val (.long va), .second, .val (.long vb), .second] [(.long va)])) _
        refine XS.lloadN X0.here hx rfl (hb hby d_method_4_code_1) rfl ?_
        show Steps p.tables e below (s₁.setTop (mkF m 2 #[.val (.long va), .second, .val (.long vb), .second] [(.long vb), (.long va)])) _
        refine XS.lcmp X0.here hx rfl (hb hby d_method_4_code_2) rfl ?_
        show Steps p.tables e below (s₁.setTop (mkF m 3 #[.val (.long va), .second, .val (.long vb), .second] [(.int (lcmpW va vb))])) _
        refine XS.ifNo X0.here hx rfl (hb hby d_method_4_code_3) rfl ((if0 _ _).trans (teq ((lw_eq _ _).mpr h3_6)).2) ?_
        show Steps p.tables e below (s₁.setTop (mkF m 6 #[.val (.long va), .second, .val (.long vb), .second] [])) _
        refine XS.lloadN X0.here hx rfl (hb hby d_method_4_code_6) rfl ?_
        show Steps p.tables e below (s₁.setTop (mkF m 7 #[.val (.long va), .second, .val (.long vb), .second] [(.long va)])) _
        refine X0.ldc2Long hx hown (mvT hZ (hw _ (List.mem_of_getElem? (i := 55) rfl))) (g := (mkF m 7 #[.val (.long va), .second, .val (.long vb), .second] [(.long va)])) rfl (hb hby d_method_4_code_7) _ ?_
        show Steps p.tables e below (s₁.setTop (mkF m 10 #[.val (.long va), .second, .val (.long vb), .second] [(.long (9223372036854775807 : Int64)), (.long va)])) _
        refine XS.lcmp X0.here hx rfl (hb hby d_method_4_code_10) rfl ?_
        show Steps p.tables e below (s₁.setTop (mkF m 11 #[.val (.long va), .second, .val (.long vb), .second] [(.int (lcmpW va (9223372036854775807 : Int64)))])) _
        refine XS.ifYes X0.here hx rfl (pc0 := 11) (pc' := 18) rfl (hb hby d_method_4_code_11) rfl ((if0 _ _).trans (feq (fun q => h11_7 ((lw_eq _ _).mp q))).2) (by decide) (by decide) ?_
        show Steps p.tables e below (s₁.setTop (mkF m 18 #[.val (.long va), .second, .val (.long vb), .second] [])) _
        refine XS.lloadN X0.here hx rfl (hb hby d_method_4_code_18) rfl ?_
        show Steps p.tables e below (s₁.setTop (mkF m 19 #[.val (.long va), .second, .val (.long vb), .second] [(.long va)])) _
        refine XS.lconst X0.here hx rfl (hb hby d_method_4_code_19) ?_
        show Steps p.tables e below (s₁.setTop (mkF m 20 #[.val (.long va), .second, .val (.long vb), .second] [(.long (1 : Int64)), (.long va)])) _
        refine XS.ladd X0.here hx rfl (hb hby d_method_4_code_20) rfl ?_
        show Steps p.tables e below (s₁.setTop (mkF m 21 #[.val (.long va), .second, .val (.long vb), .second] [(.long (va + (1 : Int64)))])) _
        exact X0.lreturnOut hx Bd.returns (hb hby d_method_4_code_21) hr
      · show Q_high Z va vb h0 n0 _ s₁.heap _
        rw [e0]
        exact ⟨⟨_, rfl, by rw [if_pos h3_6, if_neg h11_7]⟩, N0, rfl⟩
  · obtain ⟨_, _, ⟨T8, L8, k8, n8⟩, -, X8, ⟨Lc8, hQ8, l8, y8, z8⟩, st8⟩ := Jvm.LawKit.callS X0 hx (y := (⟨"java/lang/Math", "max", "(JJ)J"⟩ : MethodName)) hown (mvT hZ (hw _ (List.mem_of_getElem? (i := 11) rfl))) (mvT hZ (hw _ (List.mem_of_getElem? (i := 12) rfl))) (mvT hZ (hw _ (List.mem_of_getElem? (i := 6) rfl))) (mvT hZ (hw _ (List.mem_of_getElem? (i := 13) rfl))) (by decide) (backOf (W := 0) (rm_max l Z a0 hw [] va vb h0 n0 Z0 ) hZ (hw _ (List.mem_of_getElem? (i := 13) rfl)) (hw _ (List.mem_of_getElem? (i := 6) rfl)) (by decide) (by decide)) (g := (mkF m 24 #[.val (.long va), .second, .val (.long vb), .second] [(.long vb), (.long va)])) rfl (by rw [hml]; rfl) (argsL := [(.long va), (.long vb)]) (rest := []) (lenOf pd_0 rfl) rfl (by show 2 * 0 + _ ≤ _; exact Nat.le_of_eq rfl) (hb hby d_method_4_code_24) (fun _ _ => ⟨rfl, e0, (by decide : 0 + 0 ≤ _), (by decide : 0 + 0 ≤ _)⟩)
    dsimp only [Pt.U, Pt.locs, Pt.cells, Pt.slots] at X8 l8 y8 z8 st8 hQ8
    subst l8 y8 z8
    obtain ⟨⟨r8, rfl, hr8⟩, N8q, e8⟩ := hQ8
    have N8 := Fr.app N0 N8q
    obtain ⟨fs, hr, hrun, hended, hW, hsame⟩ := X8.leave (v := some (.long r8)) (fun h => by rw [Bd.returns] at h; cases h)
    refine ⟨_, _, pre0 _ ?_, hrun, hended, _, _, rfl, ?_, ⟨_, rfl⟩, hW, hsame.mono (by decide) (by decide)⟩
    · show Steps p.tables e below (s₁.setTop (mkF m 0 #[.val (.long va), .second, .val (.long vb), .second] [])) _
      refine XS.lloadN X0.here hx rfl (hb hby d_method_4_code_0) rfl ?_
      show Steps p.tables e below (s₁.setTop (mkF m 1 #[.val (.long va), .second, .val (.long vb), .second] [(.long va)])) _
      refine XS.lloadN X0.here hx rfl (hb hby d_method_4_code_1) rfl ?_
      show Steps p.tables e below (s₁.setTop (mkF m 2 #[.val (.long va), .second, .val (.long vb), .second] [(.long vb), (.long va)])) _
      refine XS.lcmp X0.here hx rfl (hb hby d_method_4_code_2) rfl ?_
      show Steps p.tables e below (s₁.setTop (mkF m 3 #[.val (.long va), .second, .val (.long vb), .second] [(.int (lcmpW va vb))])) _
      refine XS.ifYes X0.here hx rfl (pc0 := 3) (pc' := 22) rfl (hb hby d_method_4_code_3) rfl ((if0 _ _).trans (feq (fun q => h3_6 ((lw_eq _ _).mp q))).2) (by decide) (by decide) ?_
      show Steps p.tables e below (s₁.setTop (mkF m 22 #[.val (.long va), .second, .val (.long vb), .second] [])) _
      refine XS.lloadN X0.here hx rfl (hb hby d_method_4_code_22) rfl ?_
      show Steps p.tables e below (s₁.setTop (mkF m 23 #[.val (.long va), .second, .val (.long vb), .second] [(.long va)])) _
      refine XS.lloadN X0.here hx rfl (hb hby d_method_4_code_23) rfl ?_
      show Steps p.tables e below (s₁.setTop (mkF m 24 #[.val (.long va), .second, .val (.long vb), .second] [(.long vb), (.long va)])) _
      refine st8 _ ?_
      show Steps p.tables e below (T8.setTop (mkF m 27 #[.val (.long va), .second, .val (.long vb), .second] [(.long r8)])) _
      exact X8.lreturnOut hx Bd.returns (hb hby d_method_4_code_27) hr
    · show Q_high Z va vb h0 n0 _ T8.heap _
      rw [e8]
      exact ⟨⟨_, rfl, by rw [if_neg h3_6]; exact hr8⟩, N8, rfl⟩
theorem pn_1 : plainName "com/example/chronotriple/chronotriple/Box" = true := by first | (simp [plainName, overriddenIn]; done) | decide +kernel
theorem d_prog_2_method_1_code_0 : decode prog_2_method_1_code 0 = .ok (.aload_n 0, 1) := by decide +kernel
theorem d_prog_2_method_1_code_1 : decode prog_2_method_1_code 1 = .ok (.invokespecial 1, 3) := by decide +kernel
theorem d_prog_2_method_1_code_4 : decode prog_2_method_1_code 4 = .ok (.aload_n 1, 1) := by decide +kernel
theorem d_prog_2_method_1_code_5 : decode prog_2_method_1_code 5 = .ok (.arraylength, 1) := by decide +kernel
theorem d_prog_2_method_1_code_6 : decode prog_2_method_1_code 6 = .ok (.iconst 2, 1) := by decide +kernel
theorem d_prog_2_method_1_code_7 : decode prog_2_method_1_code 7 = .ok (.irem, 1) := by decide +kernel
theorem d_prog_2_method_1_code_8 : decode prog_2_method_1_code 8 = .ok (.ifCond .eq 13, 3) := by decide +kernel
theorem d_prog_2_method_1_code_21 : decode prog_2_method_1_code 21 = .ok (.iconst 0, 1) := by decide +kernel
theorem d_prog_2_method_1_code_22 : decode prog_2_method_1_code 22 = .ok (.istore_n 2, 1) := by decide +kernel
theorem d_prog_2_method_1_code_23 : decode prog_2_method_1_code 23 = .ok (.iload_n 2, 1) := by decide +kernel
theorem d_prog_2_method_1_code_24 : decode prog_2_method_1_code 24 = .ok (.aload_n 1, 1) := by decide +kernel
theorem d_prog_2_method_1_code_25 : decode prog_2_method_1_code 25 = .ok (.arraylength, 1) := by decide +kernel
theorem d_prog_2_method_1_code_26 : decode prog_2_method_1_code 26 = .ok (.if_icmp .ge 31, 3) := by decide +kernel
theorem d_prog_2_method_1_code_57 : decode prog_2_method_1_code 57 = .ok (.aload_n 0, 1) := by decide +kernel
theorem d_prog_2_method_1_code_58 : decode prog_2_method_1_code 58 = .ok (.aload_n 1, 1) := by decide +kernel
theorem d_prog_2_method_1_code_59 : decode prog_2_method_1_code 59 = .ok (.invokevirtual 16, 3) := by decide +kernel
theorem d_prog_2_method_1_code_62 : decode prog_2_method_1_code 62 = .ok (.checkcast 17, 3) := by decide +kernel
theorem d_prog_2_method_1_code_65 : decode prog_2_method_1_code 65 = .ok (.putfield 22, 3) := by decide +kernel
theorem d_prog_2_method_1_code_68 : decode prog_2_method_1_code 68 = .ok (.return_, 1) := by decide +kernel
theorem ef_ini0 (m : MethodId) (ra : Addr) (rb : Addr) : entryFrame m #[(.ref ra), (.ref rb)] 3 = mkF m 0 #[.val (.ref ra), .val (.ref rb), .unset] [] := by first | (simp [entryFrame, mkF, argsToLocals, Value.category]; done) | rfl
def Q_ini0 (Z : State) (ra : Addr) (rb : Addr) (kb : ClassId) (h0 : Heap) (n0 : Nat) (v : Option Value) (h : Heap) (L : List Loc) : Prop := v = none ∧ Fr n0 L ∧ Keep h0 h [ra] ∧ (∃ (b : Addr) (k : ClassId), n0 ≤ b ∧ h0.size ≤ b ∧ Fld Z h ra "com/example/chronotriple/chronotriple/Box" "bounds" "[J" (.ref b) ∧ Arv Z h b k .long (0 : Int32) [] (.long (0 : Int64)) ∧ Exa Z h b "[J")
set_option maxRecDepth 65536 in
set_option maxHeartbeats 40000000 in
theorem rm_ini0 (l : Launch) (Z : State) (a0 : Array Value) (hw : ∀ d ∈ tables_1, d.before a0 Z = true) (ws : List Jvm.Cond) (ra : Addr) (rb : Addr) (kb : ClassId) (h0 : Heap) (n0 : Nat) (Z0 : n0 ≤ h0.size) (E_ra : Exa Z h0 ra "com/example/chronotriple/chronotriple/Box") (F_b : Fld Z h0 ra "com/example/chronotriple/chronotriple/Box" "bounds" "[J" .null) (Av : Arv Z h0 rb kb .long (0 : Int32) [] (.long (0 : Int64))) (Eb : Exa Z h0 rb "[J") (g_ra : n0 ≤ ra) (ne_ba : rb ≠ ra) :
    MetFree l (⟨"com/example/chronotriple/chronotriple/Box", "<init>", "([J)V"⟩ : MethodName) (head1 (Jvm.Cond.code (⟨"com/example/chronotriple/chronotriple/Box", "<init>", "([J)V"⟩ : MethodName) prog_2_method_1_code 3 none :: ws) ({ frames := 1, cells := 1, slots := 0, locals := 15 } : Room)) (fun a U => a = #[(.ref ra), (.ref rb)] ∧ Z.Warmed39 U.vm ∧ U.heap = h0) (fun _ _ _ _ _ => True) (fun _ U o U' => ∃ v L, o = .returned v ∧ Q_ini0 Z ra rb kb h0 n0 v U'.heap L ∧ FrameEnd U o U' L ({ frames := 1, cells := 1, slots := 0, locals := 15 } : Room).cells ({ frames := 1, cells := 1, slots := 0, locals := 15 } : Room).slots) := by
  refine MetFree.of_bodySF (plainFor_of_name pn_1) hisR ?_
  intro p e s m args below meth c s₁ Bd hml0 hP hK
  obtain ⟨rfl, hZ, hh⟩ := hP
  have hx := Bd.exec
  have hby := Bd.bytes
  have hml : c.maxLocals = 3 := hml0
  have hown : s.vm.findClass "com/example/chronotriple/chronotriple/Box" = some m.cls := findClass_of_methodNamed Bd.named
  have hnm := (name_of_methodNamed Bd.named Bd.method).1
  have X0 : Stand p l e ({ frames := 1, cells := 1, slots := 0, locals := 15 } : Room) s m #[(.ref ra), (.ref rb)] below meth c s₁ [] 0 0 := Stand.of_body Bd
  have e0 : s₁.heap = h0 := by rw [← hh, Bd.state]; rfl
  have N0 := Fr.nil n0
  have pre0 : ∀ t, Steps p.tables e below (s₁.setTop (mkF m 0 #[.val (.ref ra), .val (.ref rb), .unset] [])) t → Steps p.tables e below (s₁.setTop (entryFrame m #[(.ref ra), (.ref rb)] 3)) t := fun t k => castTop (ef_ini0 m ra rb) k
  have kp0 : Keep h0 h0 [ra] := Keep.refl h0 _
  obtain ⟨T9, X9, e9, st9⟩ := initO X0 hx hZ hown (hw _ (List.mem_of_getElem? (i := 21) rfl)) (hw _ (List.mem_of_getElem? (i := 22) rfl)) (hw _ (List.mem_of_getElem? (i := 23) rfl)) e0 (g := (mkF m 1 #[.val (.ref ra), .val (.ref rb), .unset] [(.ref ra)])) rfl (by rw [hml]; rfl) rfl (hb hby d_prog_2_method_1_code_1) (by decide) (W := 0) (by show 2 * 0 + _ ≤ _; exact Nat.le_of_eq rfl) (by decide)
  obtain ⟨cl10, Ar10, -, S10, N10a, -, -⟩ := id Av
  obtain ⟨cl11, Ar11, -, S11, N11a, -, -⟩ := id Av
  obtain ⟨T12, h12, X12, e12, E12, A12, B12, st12⟩ := cloneH X9 hx hZ hown (hw _ (List.mem_of_getElem? (i := 24) rfl)) (hw _ (List.mem_of_getElem? (i := 25) rfl)) (hw _ (List.mem_of_getElem? (i := 29) rfl)) (hw _ (List.mem_of_getElem? (i := 27) rfl)) (hw _ (List.mem_of_getElem? (i := 28) rfl)) (hw _ (List.mem_of_getElem? (i := 30) rfl)) e9 (hs := []) Av Eb (g := (mkF m 59 #[.val (.ref ra), .val (.ref rb), .val (.int (0 : Int32))] [(.ref rb), (.ref ra)])) rfl (by rw [hml]; rfl) rfl (hb hby d_prog_2_method_1_code_59) (by decide) (W := 1) (by show 2 * 0 + _ ≤ _; exact Nat.le_of_eq rfl) (by decide) (cap := 0) (by decide) (by decide) (by decide)
  obtain ⟨b12, g12⟩ : ∃ z, z = h0.size := ⟨_, rfl⟩
  rw [← g12] at A12 B12 st12
  have ne_ra_b12 : ra ≠ b12 := Nat.ne_of_lt (Nat.lt_of_lt_of_le E_ra.lt (Nat.le_of_eq g12.symm))
  have ne_rb_b12 : rb ≠ b12 := Nat.ne_of_lt (Nat.lt_of_lt_of_le Av.lt (Nat.le_of_eq g12.symm))
  have g_b12 : n0 ≤ b12 := Nat.le_trans Z0 (Nat.le_of_eq g12.symm)
  have sz_b12 : h0.size ≤ b12 := Nat.le_trans kp0.1 (Nat.le_of_eq g12.symm)
  have E_ra_c12 := E_ra.ext E12
  have F_b_c12 := F_b.ext E12
  have Av_c12 := Av.ext E12
  have Eb_c12 := Eb.ext E12
  have Z12 : n0 ≤ h12.size := Nat.le_trans Z0 E12.1
  have kp12 := kp0.ext E12
  have Av_b12_12 : Arv Z h12 b12 kb .long (0 : Int32) [] (.long (0 : Int64)) := A12
  have Ex_b12_12 := B12
  obtain ⟨T13, X13, e13, st13⟩ := castY X12 hx hZ hown (hw _ (List.mem_of_getElem? (i := 31) rfl)) e12 (Ins.self Ex_b12_12) (g := (mkF m 62 #[.val (.ref ra), .val (.ref rb), .val (.int (0 : Int32))] [(.ref b12), (.ref ra)])) rfl rfl (hb hby d_prog_2_method_1_code_62)
  obtain ⟨T14, h14, X14, e14, W14, st14⟩ := putF X13 hx hZ hown (host := "") (Or.inl (hw _ (List.mem_of_getElem? (i := 33) rfl))) Via.refl e13 F_b_c12 E_ra_c12 (Or.inr ⟨(hw _ (List.mem_of_getElem? (i := 34) rfl)), rfl, hnm⟩) (hw _ (List.mem_of_getElem? (i := 15) rfl)) (ty := (.array .long)) (by decide) rfl rfl (g := (mkF m 65 #[.val (.ref ra), .val (.ref rb), .val (.int (0 : Int32))] [(.ref b12), (.ref ra)])) rfl rfl (hb hby d_prog_2_method_1_code_65)
  have E_ra_c14 := E_ra_c12.wr W14
  have Av_c14 := Av_c12.other W14 ne_ba
  have Eb_c14 := Eb_c12.wr W14
  have Av_b12_12_c14 := Av_b12_12.other W14 (Ne.symm ne_ra_b12)
  have Ex_b12_12_c14 := Ex_b12_12.wr W14
  have Fd_bounds_ra_14 := F_b_c12.same W14
  have Z14 : n0 ≤ h14.size := Nat.le_trans Z12 (Keep.of_wr W14).1
  have kp14 := kp12.wr W14 (Or.inl (List.mem_of_getElem? (i := 0) rfl))
  have N14 := Fr.snoc X14 N0 g_ra
  obtain ⟨fs, hr, hrun, hended, hW, hsame⟩ := X14.leave (v := none) (fun _ => rfl)
  refine ⟨_, _, pre0 _ ?_, hrun, hended, _, _, rfl, ?_, ⟨_, rfl⟩, hW, hsame.mono (by decide) (by decide)⟩
  · show Steps p.tables e below (s₁.setTop (mkF m 0 #[.val (.ref ra), .val (.ref rb), .unset] [])) _
    refine XS.aloadN X0.here hx rfl (hb hby d_prog_2_method_1_code_0) rfl rfl ?_
    show Steps p.tables e below (s₁.setTop (mkF m 1 #[.val (.ref ra), .val (.ref rb), .unset] [(.ref ra)])) _
    refine st9 _ ?_
    show Steps p.tables e below (T9.setTop (mkF m 4 #[.val (.ref ra), .val (.ref rb), .unset] [])) _
    refine XS.aloadN X9.here hx rfl (hb hby d_prog_2_method_1_code_4) rfl rfl ?_
    show Steps p.tables e below (T9.setTop (mkF m 5 #[.val (.ref ra), .val (.ref rb), .unset] [(.ref rb)])) _
    refine X9.arraylength hx (by rw [e9]; exact Ar10.1) (State.isArrayOf_alike hZ.alike Ar10.2.1) (g := (mkF m 5 #[.val (.ref ra), .val (.ref rb), .unset] [(.ref rb)])) rfl rfl (hb hby d_prog_2_method_1_code_5) _ ?_
    rw [len_of S10 N10a]
    show Steps p.tables e below (T9.setTop (mkF m 6 #[.val (.ref ra), .val (.ref rb), .unset] [(.int (0 : Int32))])) _
    refine XS.iconst X9.here hx rfl (hb hby d_prog_2_method_1_code_6) ?_
    show Steps p.tables e below (T9.setTop (mkF m 7 #[.val (.ref ra), .val (.ref rb), .unset] [(.int (2 : Int32)), (.int (0 : Int32))])) _
    refine iremM X9 hx rfl (hb hby d_prog_2_method_1_code_7) rfl (by decide) ?_
    show Steps p.tables e below (T9.setTop (mkF m 8 #[.val (.ref ra), .val (.ref rb), .unset] [(.int (0 : Int32))])) _
    refine XS.ifYes X9.here hx rfl (pc0 := 8) (pc' := 21) rfl (hb hby d_prog_2_method_1_code_8) rfl ((if0 _ _).trans (teq (by decide : (0 : Int32) = (0 : Int32))).1) (by decide) (by decide) ?_
    show Steps p.tables e below (T9.setTop (mkF m 21 #[.val (.ref ra), .val (.ref rb), .unset] [])) _
    refine XS.iconst X9.here hx rfl (hb hby d_prog_2_method_1_code_21) ?_
    show Steps p.tables e below (T9.setTop (mkF m 22 #[.val (.ref ra), .val (.ref rb), .unset] [(.int (0 : Int32))])) _
    refine XS.istoreN X9.here hx rfl (hb hby d_prog_2_method_1_code_22) rfl (l' := #[.val (.ref ra), .val (.ref rb), .val (.int (0 : Int32))]) rfl ?_
    show Steps p.tables e below (T9.setTop (mkF m 23 #[.val (.ref ra), .val (.ref rb), .val (.int (0 : Int32))] [])) _
    refine XS.iloadN X9.here hx rfl (hb hby d_prog_2_method_1_code_23) rfl ?_
    show Steps p.tables e below (T9.setTop (mkF m 24 #[.val (.ref ra), .val (.ref rb), .val (.int (0 : Int32))] [(.int (0 : Int32))])) _
    refine XS.aloadN X9.here hx rfl (hb hby d_prog_2_method_1_code_24) rfl rfl ?_
    show Steps p.tables e below (T9.setTop (mkF m 25 #[.val (.ref ra), .val (.ref rb), .val (.int (0 : Int32))] [(.ref rb), (.int (0 : Int32))])) _
    refine X9.arraylength hx (by rw [e9]; exact Ar11.1) (State.isArrayOf_alike hZ.alike Ar11.2.1) (g := (mkF m 25 #[.val (.ref ra), .val (.ref rb), .val (.int (0 : Int32))] [(.ref rb), (.int (0 : Int32))])) rfl rfl (hb hby d_prog_2_method_1_code_25) _ ?_
    rw [len_of S11 N11a]
    show Steps p.tables e below (T9.setTop (mkF m 26 #[.val (.ref ra), .val (.ref rb), .val (.int (0 : Int32))] [(.int (0 : Int32)), (.int (0 : Int32))])) _
    refine XS.icmpYes X9.here hx rfl (pc0 := 26) (pc' := 57) rfl (hb hby d_prog_2_method_1_code_26) rfl (flt (by decide : ¬ ((0 : Int32) < (0 : Int32)))).2.1 (by decide) (by decide) ?_
    show Steps p.tables e below (T9.setTop (mkF m 57 #[.val (.ref ra), .val (.ref rb), .val (.int (0 : Int32))] [])) _
    refine XS.aloadN X9.here hx rfl (hb hby d_prog_2_method_1_code_57) rfl rfl ?_
    show Steps p.tables e below (T9.setTop (mkF m 58 #[.val (.ref ra), .val (.ref rb), .val (.int (0 : Int32))] [(.ref ra)])) _
    refine XS.aloadN X9.here hx rfl (hb hby d_prog_2_method_1_code_58) rfl rfl ?_
    show Steps p.tables e below (T9.setTop (mkF m 59 #[.val (.ref ra), .val (.ref rb), .val (.int (0 : Int32))] [(.ref rb), (.ref ra)])) _
    refine st12 _ ?_
    show Steps p.tables e below (T12.setTop (mkF m 62 #[.val (.ref ra), .val (.ref rb), .val (.int (0 : Int32))] [(.ref b12), (.ref ra)])) _
    refine st13 _ ?_
    show Steps p.tables e below (T13.setTop (mkF m 65 #[.val (.ref ra), .val (.ref rb), .val (.int (0 : Int32))] [(.ref b12), (.ref ra)])) _
    refine st14 _ ?_
    show Steps p.tables e below (T14.setTop (mkF m 68 #[.val (.ref ra), .val (.ref rb), .val (.int (0 : Int32))] [])) _
    exact X14.returnOut hx Bd.returns (hb hby d_prog_2_method_1_code_68) hr
  · show Q_ini0 Z ra rb kb h0 n0 _ T14.heap _
    rw [e14]
    exact ⟨rfl, N14, kp14, b12, kb, g_b12, sz_b12, Fd_bounds_ra_14, Av_b12_12_c14, Ex_b12_12_c14⟩
theorem d_prog_2_method_1_code_29 : decode prog_2_method_1_code 29 = .ok (.aload_n 1, 1) := by decide +kernel
theorem d_prog_2_method_1_code_30 : decode prog_2_method_1_code 30 = .ok (.iload_n 2, 1) := by decide +kernel
theorem d_prog_2_method_1_code_31 : decode prog_2_method_1_code 31 = .ok (.laload, 1) := by decide +kernel
theorem d_prog_2_method_1_code_32 : decode prog_2_method_1_code 32 = .ok (.aload_n 1, 1) := by decide +kernel
theorem d_prog_2_method_1_code_33 : decode prog_2_method_1_code 33 = .ok (.iload_n 2, 1) := by decide +kernel
theorem d_prog_2_method_1_code_34 : decode prog_2_method_1_code 34 = .ok (.iconst 1, 1) := by decide +kernel
theorem d_prog_2_method_1_code_35 : decode prog_2_method_1_code 35 = .ok (.iadd, 1) := by decide +kernel
theorem d_prog_2_method_1_code_36 : decode prog_2_method_1_code 36 = .ok (.laload, 1) := by decide +kernel
theorem d_prog_2_method_1_code_37 : decode prog_2_method_1_code 37 = .ok (.lcmp, 1) := by decide +kernel
theorem d_prog_2_method_1_code_38 : decode prog_2_method_1_code 38 = .ok (.ifCond .lt 13, 3) := by decide +kernel
theorem d_prog_2_method_1_code_51 : decode prog_2_method_1_code 51 = .ok (.iinc 2 2, 3) := by decide +kernel
theorem d_prog_2_method_1_code_54 : decode prog_2_method_1_code 54 = .ok (.goto (-31), 3) := by decide +kernel
theorem ef_ini2 (m : MethodId) (ra : Addr) (rb : Addr) : entryFrame m #[(.ref ra), (.ref rb)] 3 = mkF m 0 #[.val (.ref ra), .val (.ref rb), .unset] [] := by first | (simp [entryFrame, mkF, argsToLocals, Value.category]; done) | rfl
def Q_ini2 (Z : State) (ra : Addr) (rb : Addr) (kb : ClassId) (v0 : Int64) (v1 : Int64) (h0 : Heap) (n0 : Nat) (v : Option Value) (h : Heap) (L : List Loc) : Prop := v = none ∧ Fr n0 L ∧ Keep h0 h [ra] ∧ (∃ (b : Addr) (k : ClassId), n0 ≤ b ∧ h0.size ≤ b ∧ Fld Z h ra "com/example/chronotriple/chronotriple/Box" "bounds" "[J" (.ref b) ∧ Arv Z h b k .long (2 : Int32) [(.long v0), (.long v1)] (.long (0 : Int64)) ∧ Exa Z h b "[J")
set_option maxRecDepth 65536 in
set_option maxHeartbeats 40000000 in
theorem rm_ini2 (l : Launch) (Z : State) (a0 : Array Value) (hw : ∀ d ∈ tables_1, d.before a0 Z = true) (ws : List Jvm.Cond) (ra : Addr) (rb : Addr) (kb : ClassId) (v0 : Int64) (v1 : Int64) (h0 : Heap) (n0 : Nat) (Z0 : n0 ≤ h0.size) (E_ra : Exa Z h0 ra "com/example/chronotriple/chronotriple/Box") (F_b : Fld Z h0 ra "com/example/chronotriple/chronotriple/Box" "bounds" "[J" .null) (Av : Arv Z h0 rb kb .long (2 : Int32) [(.long v0), (.long v1)] (.long (0 : Int64))) (Eb : Exa Z h0 rb "[J") (g_ra : n0 ≤ ra) (ne_ba : rb ≠ ra) (o0 : v0 < v1) :
    MetFree l (⟨"com/example/chronotriple/chronotriple/Box", "<init>", "([J)V"⟩ : MethodName) (head1 (Jvm.Cond.code (⟨"com/example/chronotriple/chronotriple/Box", "<init>", "([J)V"⟩ : MethodName) prog_2_method_1_code 3 none :: ws) ({ frames := 1, cells := 1, slots := 2, locals := 15 } : Room)) (fun a U => a = #[(.ref ra), (.ref rb)] ∧ Z.Warmed39 U.vm ∧ U.heap = h0) (fun _ _ _ _ _ => True) (fun _ U o U' => ∃ v L, o = .returned v ∧ Q_ini2 Z ra rb kb v0 v1 h0 n0 v U'.heap L ∧ FrameEnd U o U' L ({ frames := 1, cells := 1, slots := 2, locals := 15 } : Room).cells ({ frames := 1, cells := 1, slots := 2, locals := 15 } : Room).slots) := by
  refine MetFree.of_bodySF (plainFor_of_name pn_1) hisR ?_
  intro p e s m args below meth c s₁ Bd hml0 hP hK
  obtain ⟨rfl, hZ, hh⟩ := hP
  have hx := Bd.exec
  have hby := Bd.bytes
  have hml : c.maxLocals = 3 := hml0
  have hown : s.vm.findClass "com/example/chronotriple/chronotriple/Box" = some m.cls := findClass_of_methodNamed Bd.named
  have hnm := (name_of_methodNamed Bd.named Bd.method).1
  have X0 : Stand p l e ({ frames := 1, cells := 1, slots := 2, locals := 15 } : Room) s m #[(.ref ra), (.ref rb)] below meth c s₁ [] 0 0 := Stand.of_body Bd
  have e0 : s₁.heap = h0 := by rw [← hh, Bd.state]; rfl
  have N0 := Fr.nil n0
  have pre0 : ∀ t, Steps p.tables e below (s₁.setTop (mkF m 0 #[.val (.ref ra), .val (.ref rb), .unset] [])) t → Steps p.tables e below (s₁.setTop (entryFrame m #[(.ref ra), (.ref rb)] 3)) t := fun t k => castTop (ef_ini2 m ra rb) k
  have kp0 : Keep h0 h0 [ra] := Keep.refl h0 _
  obtain ⟨T15, X15, e15, st15⟩ := initO X0 hx hZ hown (hw _ (List.mem_of_getElem? (i := 21) rfl)) (hw _ (List.mem_of_getElem? (i := 22) rfl)) (hw _ (List.mem_of_getElem? (i := 23) rfl)) e0 (g := (mkF m 1 #[.val (.ref ra), .val (.ref rb), .unset] [(.ref ra)])) rfl (by rw [hml]; rfl) rfl (hb hby d_prog_2_method_1_code_1) (by decide) (W := 0) (by show 2 * 0 + _ ≤ _; exact Nat.le_of_eq rfl) (by decide)
  obtain ⟨cl16, Ar16, -, S16, N16a, -, -⟩ := id Av
  obtain ⟨cl17, Ar17, -, S17, N17a, -, -⟩ := id Av
  obtain ⟨cl18, Ar18, q18, S18, N18a, H18, G18⟩ := id Av
  have hin18 : ¬ ((0 : Int32) < 0 ∨ cl18.slots.size ≤ ((0 : Int32)).toNatClampNeg) := inb_of S18 ⟨by decide, by decide⟩
  have hat18 : cl18.slots[((0 : Int32)).toNatClampNeg]? = some (.long v0) := H18.at hin18 rfl
  obtain ⟨cl19, Ar19, q19, S19, N19a, H19, G19⟩ := id Av
  have hin19 : ¬ ((1 : Int32) < 0 ∨ cl19.slots.size ≤ ((1 : Int32)).toNatClampNeg) := inb_of S19 ⟨by decide, by decide⟩
  have hat19 : cl19.slots[((1 : Int32)).toNatClampNeg]? = some (.long v1) := H19.at hin19 rfl
  obtain ⟨cl20, Ar20, -, S20, N20a, -, -⟩ := id Av
  obtain ⟨T21, h21, X21, e21, E21, A21, B21, st21⟩ := cloneH X15 hx hZ hown (hw _ (List.mem_of_getElem? (i := 24) rfl)) (hw _ (List.mem_of_getElem? (i := 25) rfl)) (hw _ (List.mem_of_getElem? (i := 29) rfl)) (hw _ (List.mem_of_getElem? (i := 27) rfl)) (hw _ (List.mem_of_getElem? (i := 28) rfl)) (hw _ (List.mem_of_getElem? (i := 30) rfl)) e15 (hs := []) Av Eb (g := (mkF m 59 #[.val (.ref ra), .val (.ref rb), .val (.int (2 : Int32))] [(.ref rb), (.ref ra)])) rfl (by rw [hml]; rfl) rfl (hb hby d_prog_2_method_1_code_59) (by decide) (W := 1) (by show 2 * 0 + _ ≤ _; exact Nat.le_of_eq rfl) (by decide) (cap := 2) (by decide) (by decide) (by decide)
  obtain ⟨b21, g21⟩ : ∃ z, z = h0.size := ⟨_, rfl⟩
  rw [← g21] at A21 B21 st21
  have ne_ra_b21 : ra ≠ b21 := Nat.ne_of_lt (Nat.lt_of_lt_of_le E_ra.lt (Nat.le_of_eq g21.symm))
  have ne_rb_b21 : rb ≠ b21 := Nat.ne_of_lt (Nat.lt_of_lt_of_le Av.lt (Nat.le_of_eq g21.symm))
  have g_b21 : n0 ≤ b21 := Nat.le_trans Z0 (Nat.le_of_eq g21.symm)
  have sz_b21 : h0.size ≤ b21 := Nat.le_trans kp0.1 (Nat.le_of_eq g21.symm)
  have E_ra_c21 := E_ra.ext E21
  have F_b_c21 := F_b.ext E21
  have Av_c21 := Av.ext E21
  have Eb_c21 := Eb.ext E21
  have Z21 : n0 ≤ h21.size := Nat.le_trans Z0 E21.1
  have kp21 := kp0.ext E21
  have Av_b21_21 : Arv Z h21 b21 kb .long (2 : Int32) [(.long v0), (.long v1)] (.long (0 : Int64)) := A21
  have Ex_b21_21 := B21
  obtain ⟨T22, X22, e22, st22⟩ := castY X21 hx hZ hown (hw _ (List.mem_of_getElem? (i := 31) rfl)) e21 (Ins.self Ex_b21_21) (g := (mkF m 62 #[.val (.ref ra), .val (.ref rb), .val (.int (2 : Int32))] [(.ref b21), (.ref ra)])) rfl rfl (hb hby d_prog_2_method_1_code_62)
  obtain ⟨T23, h23, X23, e23, W23, st23⟩ := putF X22 hx hZ hown (host := "") (Or.inl (hw _ (List.mem_of_getElem? (i := 33) rfl))) Via.refl e22 F_b_c21 E_ra_c21 (Or.inr ⟨(hw _ (List.mem_of_getElem? (i := 34) rfl)), rfl, hnm⟩) (hw _ (List.mem_of_getElem? (i := 15) rfl)) (ty := (.array .long)) (by decide) rfl rfl (g := (mkF m 65 #[.val (.ref ra), .val (.ref rb), .val (.int (2 : Int32))] [(.ref b21), (.ref ra)])) rfl rfl (hb hby d_prog_2_method_1_code_65)
  have E_ra_c23 := E_ra_c21.wr W23
  have Av_c23 := Av_c21.other W23 ne_ba
  have Eb_c23 := Eb_c21.wr W23
  have Av_b21_21_c23 := Av_b21_21.other W23 (Ne.symm ne_ra_b21)
  have Ex_b21_21_c23 := Ex_b21_21.wr W23
  have Fd_bounds_ra_23 := F_b_c21.same W23
  have Z23 : n0 ≤ h23.size := Nat.le_trans Z21 (Keep.of_wr W23).1
  have kp23 := kp21.wr W23 (Or.inl (List.mem_of_getElem? (i := 0) rfl))
  have N23 := Fr.snoc X23 N0 g_ra
  obtain ⟨fs, hr, hrun, hended, hW, hsame⟩ := X23.leave (v := none) (fun _ => rfl)
  refine ⟨_, _, pre0 _ ?_, hrun, hended, _, _, rfl, ?_, ⟨_, rfl⟩, hW, hsame.mono (by decide) (by decide)⟩
  · show Steps p.tables e below (s₁.setTop (mkF m 0 #[.val (.ref ra), .val (.ref rb), .unset] [])) _
    refine XS.aloadN X0.here hx rfl (hb hby d_prog_2_method_1_code_0) rfl rfl ?_
    show Steps p.tables e below (s₁.setTop (mkF m 1 #[.val (.ref ra), .val (.ref rb), .unset] [(.ref ra)])) _
    refine st15 _ ?_
    show Steps p.tables e below (T15.setTop (mkF m 4 #[.val (.ref ra), .val (.ref rb), .unset] [])) _
    refine XS.aloadN X15.here hx rfl (hb hby d_prog_2_method_1_code_4) rfl rfl ?_
    show Steps p.tables e below (T15.setTop (mkF m 5 #[.val (.ref ra), .val (.ref rb), .unset] [(.ref rb)])) _
    refine X15.arraylength hx (by rw [e15]; exact Ar16.1) (State.isArrayOf_alike hZ.alike Ar16.2.1) (g := (mkF m 5 #[.val (.ref ra), .val (.ref rb), .unset] [(.ref rb)])) rfl rfl (hb hby d_prog_2_method_1_code_5) _ ?_
    rw [len_of S16 N16a]
    show Steps p.tables e below (T15.setTop (mkF m 6 #[.val (.ref ra), .val (.ref rb), .unset] [(.int (2 : Int32))])) _
    refine XS.iconst X15.here hx rfl (hb hby d_prog_2_method_1_code_6) ?_
    show Steps p.tables e below (T15.setTop (mkF m 7 #[.val (.ref ra), .val (.ref rb), .unset] [(.int (2 : Int32)), (.int (2 : Int32))])) _
    refine iremM X15 hx rfl (hb hby d_prog_2_method_1_code_7) rfl (by decide) ?_
    show Steps p.tables e below (T15.setTop (mkF m 8 #[.val (.ref ra), .val (.ref rb), .unset] [(.int (0 : Int32))])) _
    refine XS.ifYes X15.here hx rfl (pc0 := 8) (pc' := 21) rfl (hb hby d_prog_2_method_1_code_8) rfl ((if0 _ _).trans (teq (by decide : (0 : Int32) = (0 : Int32))).1) (by decide) (by decide) ?_
    show Steps p.tables e below (T15.setTop (mkF m 21 #[.val (.ref ra), .val (.ref rb), .unset] [])) _
    refine XS.iconst X15.here hx rfl (hb hby d_prog_2_method_1_code_21) ?_
    show Steps p.tables e below (T15.setTop (mkF m 22 #[.val (.ref ra), .val (.ref rb), .unset] [(.int (0 : Int32))])) _
    refine XS.istoreN X15.here hx rfl (hb hby d_prog_2_method_1_code_22) rfl (l' := #[.val (.ref ra), .val (.ref rb), .val (.int (0 : Int32))]) rfl ?_
    show Steps p.tables e below (T15.setTop (mkF m 23 #[.val (.ref ra), .val (.ref rb), .val (.int (0 : Int32))] [])) _
    refine XS.iloadN X15.here hx rfl (hb hby d_prog_2_method_1_code_23) rfl ?_
    show Steps p.tables e below (T15.setTop (mkF m 24 #[.val (.ref ra), .val (.ref rb), .val (.int (0 : Int32))] [(.int (0 : Int32))])) _
    refine XS.aloadN X15.here hx rfl (hb hby d_prog_2_method_1_code_24) rfl rfl ?_
    show Steps p.tables e below (T15.setTop (mkF m 25 #[.val (.ref ra), .val (.ref rb), .val (.int (0 : Int32))] [(.ref rb), (.int (0 : Int32))])) _
    refine X15.arraylength hx (by rw [e15]; exact Ar17.1) (State.isArrayOf_alike hZ.alike Ar17.2.1) (g := (mkF m 25 #[.val (.ref ra), .val (.ref rb), .val (.int (0 : Int32))] [(.ref rb), (.int (0 : Int32))])) rfl rfl (hb hby d_prog_2_method_1_code_25) _ ?_
    rw [len_of S17 N17a]
    show Steps p.tables e below (T15.setTop (mkF m 26 #[.val (.ref ra), .val (.ref rb), .val (.int (0 : Int32))] [(.int (2 : Int32)), (.int (0 : Int32))])) _
    refine XS.icmpNo X15.here hx rfl (hb hby d_prog_2_method_1_code_26) rfl (tlt (by decide : (0 : Int32) < (2 : Int32))).2.1 ?_
    show Steps p.tables e below (T15.setTop (mkF m 29 #[.val (.ref ra), .val (.ref rb), .val (.int (0 : Int32))] [])) _
    refine XS.aloadN X15.here hx rfl (hb hby d_prog_2_method_1_code_29) rfl rfl ?_
    show Steps p.tables e below (T15.setTop (mkF m 30 #[.val (.ref ra), .val (.ref rb), .val (.int (0 : Int32))] [(.ref rb)])) _
    refine XS.iloadN X15.here hx rfl (hb hby d_prog_2_method_1_code_30) rfl ?_
    show Steps p.tables e below (T15.setTop (mkF m 31 #[.val (.ref ra), .val (.ref rb), .val (.int (0 : Int32))] [(.int (0 : Int32)), (.ref rb)])) _
    refine X15.laload hx (j := (0 : Int32)) (v := (.long v0)) (by rw [e15]; exact Ar18.1) (State.isArrayOf_alike hZ.alike Ar18.2.1) Ar18.2.2 hin18 hat18 (g := (mkF m 31 #[.val (.ref ra), .val (.ref rb), .val (.int (0 : Int32))] [(.int (0 : Int32)), (.ref rb)])) rfl rfl (hb hby d_prog_2_method_1_code_31) _ ?_
    show Steps p.tables e below (T15.setTop (mkF m 32 #[.val (.ref ra), .val (.ref rb), .val (.int (0 : Int32))] [(.long v0)])) _
    refine XS.aloadN X15.here hx rfl (hb hby d_prog_2_method_1_code_32) rfl rfl ?_
    show Steps p.tables e below (T15.setTop (mkF m 33 #[.val (.ref ra), .val (.ref rb), .val (.int (0 : Int32))] [(.ref rb), (.long v0)])) _
    refine XS.iloadN X15.here hx rfl (hb hby d_prog_2_method_1_code_33) rfl ?_
    show Steps p.tables e below (T15.setTop (mkF m 34 #[.val (.ref ra), .val (.ref rb), .val (.int (0 : Int32))] [(.int (0 : Int32)), (.ref rb), (.long v0)])) _
    refine XS.iconst X15.here hx rfl (hb hby d_prog_2_method_1_code_34) ?_
    show Steps p.tables e below (T15.setTop (mkF m 35 #[.val (.ref ra), .val (.ref rb), .val (.int (0 : Int32))] [(.int (1 : Int32)), (.int (0 : Int32)), (.ref rb), (.long v0)])) _
    refine XS.iadd X15.here hx rfl (hb hby d_prog_2_method_1_code_35) rfl ?_
    show Steps p.tables e below (T15.setTop (mkF m 36 #[.val (.ref ra), .val (.ref rb), .val (.int (0 : Int32))] [(.int (1 : Int32)), (.ref rb), (.long v0)])) _
    refine X15.laload hx (j := (1 : Int32)) (v := (.long v1)) (by rw [e15]; exact Ar19.1) (State.isArrayOf_alike hZ.alike Ar19.2.1) Ar19.2.2 hin19 hat19 (g := (mkF m 36 #[.val (.ref ra), .val (.ref rb), .val (.int (0 : Int32))] [(.int (1 : Int32)), (.ref rb), (.long v0)])) rfl rfl (hb hby d_prog_2_method_1_code_36) _ ?_
    show Steps p.tables e below (T15.setTop (mkF m 37 #[.val (.ref ra), .val (.ref rb), .val (.int (0 : Int32))] [(.long v1), (.long v0)])) _
    refine XS.lcmp X15.here hx rfl (hb hby d_prog_2_method_1_code_37) rfl ?_
    show Steps p.tables e below (T15.setTop (mkF m 38 #[.val (.ref ra), .val (.ref rb), .val (.int (0 : Int32))] [(.int (lcmpW v0 v1))])) _
    refine XS.ifYes X15.here hx rfl (pc0 := 38) (pc' := 51) rfl (hb hby d_prog_2_method_1_code_38) rfl ((if0 _ _).trans (tlt ((lw_lt _ _).mpr (o0 : v0 < v1))).1) (by decide) (by decide) ?_
    show Steps p.tables e below (T15.setTop (mkF m 51 #[.val (.ref ra), .val (.ref rb), .val (.int (0 : Int32))] [])) _
    refine XS.iinc X15.here hx rfl (hb hby d_prog_2_method_1_code_51) rfl (l' := #[.val (.ref ra), .val (.ref rb), .val (.int (2 : Int32))]) rfl ?_
    show Steps p.tables e below (T15.setTop (mkF m 54 #[.val (.ref ra), .val (.ref rb), .val (.int (2 : Int32))] [])) _
    refine XS.goto X15.here hx rfl (pc0 := 54) (pc' := 23) rfl (hb hby d_prog_2_method_1_code_54) (by decide) (by decide) ?_
    show Steps p.tables e below (T15.setTop (mkF m 23 #[.val (.ref ra), .val (.ref rb), .val (.int (2 : Int32))] [])) _
    refine XS.iloadN X15.here hx rfl (hb hby d_prog_2_method_1_code_23) rfl ?_
    show Steps p.tables e below (T15.setTop (mkF m 24 #[.val (.ref ra), .val (.ref rb), .val (.int (2 : Int32))] [(.int (2 : Int32))])) _
    refine XS.aloadN X15.here hx rfl (hb hby d_prog_2_method_1_code_24) rfl rfl ?_
    show Steps p.tables e below (T15.setTop (mkF m 25 #[.val (.ref ra), .val (.ref rb), .val (.int (2 : Int32))] [(.ref rb), (.int (2 : Int32))])) _
    refine X15.arraylength hx (by rw [e15]; exact Ar20.1) (State.isArrayOf_alike hZ.alike Ar20.2.1) (g := (mkF m 25 #[.val (.ref ra), .val (.ref rb), .val (.int (2 : Int32))] [(.ref rb), (.int (2 : Int32))])) rfl rfl (hb hby d_prog_2_method_1_code_25) _ ?_
    rw [len_of S20 N20a]
    show Steps p.tables e below (T15.setTop (mkF m 26 #[.val (.ref ra), .val (.ref rb), .val (.int (2 : Int32))] [(.int (2 : Int32)), (.int (2 : Int32))])) _
    refine XS.icmpYes X15.here hx rfl (pc0 := 26) (pc' := 57) rfl (hb hby d_prog_2_method_1_code_26) rfl (flt (by decide : ¬ ((2 : Int32) < (2 : Int32)))).2.1 (by decide) (by decide) ?_
    show Steps p.tables e below (T15.setTop (mkF m 57 #[.val (.ref ra), .val (.ref rb), .val (.int (2 : Int32))] [])) _
    refine XS.aloadN X15.here hx rfl (hb hby d_prog_2_method_1_code_57) rfl rfl ?_
    show Steps p.tables e below (T15.setTop (mkF m 58 #[.val (.ref ra), .val (.ref rb), .val (.int (2 : Int32))] [(.ref ra)])) _
    refine XS.aloadN X15.here hx rfl (hb hby d_prog_2_method_1_code_58) rfl rfl ?_
    show Steps p.tables e below (T15.setTop (mkF m 59 #[.val (.ref ra), .val (.ref rb), .val (.int (2 : Int32))] [(.ref rb), (.ref ra)])) _
    refine st21 _ ?_
    show Steps p.tables e below (T21.setTop (mkF m 62 #[.val (.ref ra), .val (.ref rb), .val (.int (2 : Int32))] [(.ref b21), (.ref ra)])) _
    refine st22 _ ?_
    show Steps p.tables e below (T22.setTop (mkF m 65 #[.val (.ref ra), .val (.ref rb), .val (.int (2 : Int32))] [(.ref b21), (.ref ra)])) _
    refine st23 _ ?_
    show Steps p.tables e below (T23.setTop (mkF m 68 #[.val (.ref ra), .val (.ref rb), .val (.int (2 : Int32))] [])) _
    exact X23.returnOut hx Bd.returns (hb hby d_prog_2_method_1_code_68) hr
  · show Q_ini2 Z ra rb kb v0 v1 h0 n0 _ T23.heap _
    rw [e23]
    exact ⟨rfl, N23, kp23, b21, kb, g_b21, sz_b21, Fd_bounds_ra_23, Av_b21_21_c23, Ex_b21_21_c23⟩
theorem ef_ini4 (m : MethodId) (ra : Addr) (rb : Addr) : entryFrame m #[(.ref ra), (.ref rb)] 3 = mkF m 0 #[.val (.ref ra), .val (.ref rb), .unset] [] := by first | (simp [entryFrame, mkF, argsToLocals, Value.category]; done) | rfl
def Q_ini4 (Z : State) (ra : Addr) (rb : Addr) (kb : ClassId) (v0 : Int64) (v1 : Int64) (v2 : Int64) (v3 : Int64) (h0 : Heap) (n0 : Nat) (v : Option Value) (h : Heap) (L : List Loc) : Prop := v = none ∧ Fr n0 L ∧ Keep h0 h [ra] ∧ (∃ (b : Addr) (k : ClassId), n0 ≤ b ∧ h0.size ≤ b ∧ Fld Z h ra "com/example/chronotriple/chronotriple/Box" "bounds" "[J" (.ref b) ∧ Arv Z h b k .long (4 : Int32) [(.long v0), (.long v1), (.long v2), (.long v3)] (.long (0 : Int64)) ∧ Exa Z h b "[J")
set_option maxRecDepth 65536 in
set_option maxHeartbeats 40000000 in
theorem rm_ini4 (l : Launch) (Z : State) (a0 : Array Value) (hw : ∀ d ∈ tables_1, d.before a0 Z = true) (ws : List Jvm.Cond) (ra : Addr) (rb : Addr) (kb : ClassId) (v0 : Int64) (v1 : Int64) (v2 : Int64) (v3 : Int64) (h0 : Heap) (n0 : Nat) (Z0 : n0 ≤ h0.size) (E_ra : Exa Z h0 ra "com/example/chronotriple/chronotriple/Box") (F_b : Fld Z h0 ra "com/example/chronotriple/chronotriple/Box" "bounds" "[J" .null) (Av : Arv Z h0 rb kb .long (4 : Int32) [(.long v0), (.long v1), (.long v2), (.long v3)] (.long (0 : Int64))) (Eb : Exa Z h0 rb "[J") (g_ra : n0 ≤ ra) (ne_ba : rb ≠ ra) (o0 : v0 < v1) (o2 : v2 < v3) :
    MetFree l (⟨"com/example/chronotriple/chronotriple/Box", "<init>", "([J)V"⟩ : MethodName) (head1 (Jvm.Cond.code (⟨"com/example/chronotriple/chronotriple/Box", "<init>", "([J)V"⟩ : MethodName) prog_2_method_1_code 3 none :: ws) ({ frames := 1, cells := 1, slots := 4, locals := 15 } : Room)) (fun a U => a = #[(.ref ra), (.ref rb)] ∧ Z.Warmed39 U.vm ∧ U.heap = h0) (fun _ _ _ _ _ => True) (fun _ U o U' => ∃ v L, o = .returned v ∧ Q_ini4 Z ra rb kb v0 v1 v2 v3 h0 n0 v U'.heap L ∧ FrameEnd U o U' L ({ frames := 1, cells := 1, slots := 4, locals := 15 } : Room).cells ({ frames := 1, cells := 1, slots := 4, locals := 15 } : Room).slots) := by
  refine MetFree.of_bodySF (plainFor_of_name pn_1) hisR ?_
  intro p e s m args below meth c s₁ Bd hml0 hP hK
  obtain ⟨rfl, hZ, hh⟩ := hP
  have hx := Bd.exec
  have hby := Bd.bytes
  have hml : c.maxLocals = 3 := hml0
  have hown : s.vm.findClass "com/example/chronotriple/chronotriple/Box" = some m.cls := findClass_of_methodNamed Bd.named
  have hnm := (name_of_methodNamed Bd.named Bd.method).1
  have X0 : Stand p l e ({ frames := 1, cells := 1, slots := 4, locals := 15 } : Room) s m #[(.ref ra), (.ref rb)] below meth c s₁ [] 0 0 := Stand.of_body Bd
  have e0 : s₁.heap = h0 := by rw [← hh, Bd.state]; rfl
  have N0 := Fr.nil n0
  have pre0 : ∀ t, Steps p.tables e below (s₁.setTop (mkF m 0 #[.val (.ref ra), .val (.ref rb), .unset] [])) t → Steps p.tables e below (s₁.setTop (entryFrame m #[(.ref ra), (.ref rb)] 3)) t := fun t k => castTop (ef_ini4 m ra rb) k
  have kp0 : Keep h0 h0 [ra] := Keep.refl h0 _
  obtain ⟨T24, X24, e24, st24⟩ := initO X0 hx hZ hown (hw _ (List.mem_of_getElem? (i := 21) rfl)) (hw _ (List.mem_of_getElem? (i := 22) rfl)) (hw _ (List.mem_of_getElem? (i := 23) rfl)) e0 (g := (mkF m 1 #[.val (.ref ra), .val (.ref rb), .unset] [(.ref ra)])) rfl (by rw [hml]; rfl) rfl (hb hby d_prog_2_method_1_code_1) (by decide) (W := 0) (by show 2 * 0 + _ ≤ _; exact Nat.le_of_eq rfl) (by decide)
  obtain ⟨cl25, Ar25, -, S25, N25a, -, -⟩ := id Av
  obtain ⟨cl26, Ar26, -, S26, N26a, -, -⟩ := id Av
  obtain ⟨cl27, Ar27, q27, S27, N27a, H27, G27⟩ := id Av
  have hin27 : ¬ ((0 : Int32) < 0 ∨ cl27.slots.size ≤ ((0 : Int32)).toNatClampNeg) := inb_of S27 ⟨by decide, by decide⟩
  have hat27 : cl27.slots[((0 : Int32)).toNatClampNeg]? = some (.long v0) := H27.at hin27 rfl
  obtain ⟨cl28, Ar28, q28, S28, N28a, H28, G28⟩ := id Av
  have hin28 : ¬ ((1 : Int32) < 0 ∨ cl28.slots.size ≤ ((1 : Int32)).toNatClampNeg) := inb_of S28 ⟨by decide, by decide⟩
  have hat28 : cl28.slots[((1 : Int32)).toNatClampNeg]? = some (.long v1) := H28.at hin28 rfl
  obtain ⟨cl29, Ar29, -, S29, N29a, -, -⟩ := id Av
  obtain ⟨cl30, Ar30, q30, S30, N30a, H30, G30⟩ := id Av
  have hin30 : ¬ ((2 : Int32) < 0 ∨ cl30.slots.size ≤ ((2 : Int32)).toNatClampNeg) := inb_of S30 ⟨by decide, by decide⟩
  have hat30 : cl30.slots[((2 : Int32)).toNatClampNeg]? = some (.long v2) := H30.at hin30 rfl
  obtain ⟨cl31, Ar31, q31, S31, N31a, H31, G31⟩ := id Av
  have hin31 : ¬ ((3 : Int32) < 0 ∨ cl31.slots.size ≤ ((3 : Int32)).toNatClampNeg) := inb_of S31 ⟨by decide, by decide⟩
  have hat31 : cl31.slots[((3 : Int32)).toNatClampNeg]? = some (.long v3) := H31.at hin31 rfl
  obtain ⟨cl32, Ar32, -, S32, N32a, -, -⟩ := id Av
  obtain ⟨T33, h33, X33, e33, E33, A33, B33, st33⟩ := cloneH X24 hx hZ hown (hw _ (List.mem_of_getElem? (i := 24) rfl)) (hw _ (List.mem_of_getElem? (i := 25) rfl)) (hw _ (List.mem_of_getElem? (i := 29) rfl)) (hw _ (List.mem_of_getElem? (i := 27) rfl)) (hw _ (List.mem_of_getElem? (i := 28) rfl)) (hw _ (List.mem_of_getElem? (i := 30) rfl)) e24 (hs := []) Av Eb (g := (mkF m 59 #[.val (.ref ra), .val (.ref rb), .val (.int (4 : Int32))] [(.ref rb), (.ref ra)])) rfl (by rw [hml]; rfl) rfl (hb hby d_prog_2_method_1_code_59) (by decide) (W := 1) (by show 2 * 0 + _ ≤ _; exact Nat.le_of_eq rfl) (by decide) (cap := 4) (by decide) (by decide) (by decide)
  obtain ⟨b33, g33⟩ : ∃ z, z = h0.size := ⟨_, rfl⟩
  rw [← g33] at A33 B33 st33
  have ne_ra_b33 : ra ≠ b33 := Nat.ne_of_lt (Nat.lt_of_lt_of_le E_ra.lt (Nat.le_of_eq g33.symm))
  have ne_rb_b33 : rb ≠ b33 := Nat.ne_of_lt (Nat.lt_of_lt_of_le Av.lt (Nat.le_of_eq g33.symm))
  have g_b33 : n0 ≤ b33 := Nat.le_trans Z0 (Nat.le_of_eq g33.symm)
  have sz_b33 : h0.size ≤ b33 := Nat.le_trans kp0.1 (Nat.le_of_eq g33.symm)
  have E_ra_c33 := E_ra.ext E33
  have F_b_c33 := F_b.ext E33
  have Av_c33 := Av.ext E33
  have Eb_c33 := Eb.ext E33
  have Z33 : n0 ≤ h33.size := Nat.le_trans Z0 E33.1
  have kp33 := kp0.ext E33
  have Av_b33_33 : Arv Z h33 b33 kb .long (4 : Int32) [(.long v0), (.long v1), (.long v2), (.long v3)] (.long (0 : Int64)) := A33
  have Ex_b33_33 := B33
  obtain ⟨T34, X34, e34, st34⟩ := castY X33 hx hZ hown (hw _ (List.mem_of_getElem? (i := 31) rfl)) e33 (Ins.self Ex_b33_33) (g := (mkF m 62 #[.val (.ref ra), .val (.ref rb), .val (.int (4 : Int32))] [(.ref b33), (.ref ra)])) rfl rfl (hb hby d_prog_2_method_1_code_62)
  obtain ⟨T35, h35, X35, e35, W35, st35⟩ := putF X34 hx hZ hown (host := "") (Or.inl (hw _ (List.mem_of_getElem? (i := 33) rfl))) Via.refl e34 F_b_c33 E_ra_c33 (Or.inr ⟨(hw _ (List.mem_of_getElem? (i := 34) rfl)), rfl, hnm⟩) (hw _ (List.mem_of_getElem? (i := 15) rfl)) (ty := (.array .long)) (by decide) rfl rfl (g := (mkF m 65 #[.val (.ref ra), .val (.ref rb), .val (.int (4 : Int32))] [(.ref b33), (.ref ra)])) rfl rfl (hb hby d_prog_2_method_1_code_65)
  have E_ra_c35 := E_ra_c33.wr W35
  have Av_c35 := Av_c33.other W35 ne_ba
  have Eb_c35 := Eb_c33.wr W35
  have Av_b33_33_c35 := Av_b33_33.other W35 (Ne.symm ne_ra_b33)
  have Ex_b33_33_c35 := Ex_b33_33.wr W35
  have Fd_bounds_ra_35 := F_b_c33.same W35
  have Z35 : n0 ≤ h35.size := Nat.le_trans Z33 (Keep.of_wr W35).1
  have kp35 := kp33.wr W35 (Or.inl (List.mem_of_getElem? (i := 0) rfl))
  have N35 := Fr.snoc X35 N0 g_ra
  obtain ⟨fs, hr, hrun, hended, hW, hsame⟩ := X35.leave (v := none) (fun _ => rfl)
  refine ⟨_, _, pre0 _ ?_, hrun, hended, _, _, rfl, ?_, ⟨_, rfl⟩, hW, hsame.mono (by decide) (by decide)⟩
  · show Steps p.tables e below (s₁.setTop (mkF m 0 #[.val (.ref ra), .val (.ref rb), .unset] [])) _
    refine XS.aloadN X0.here hx rfl (hb hby d_prog_2_method_1_code_0) rfl rfl ?_
    show Steps p.tables e below (s₁.setTop (mkF m 1 #[.val (.ref ra), .val (.ref rb), .unset] [(.ref ra)])) _
    refine st24 _ ?_
    show Steps p.tables e below (T24.setTop (mkF m 4 #[.val (.ref ra), .val (.ref rb), .unset] [])) _
    refine XS.aloadN X24.here hx rfl (hb hby d_prog_2_method_1_code_4) rfl rfl ?_
    show Steps p.tables e below (T24.setTop (mkF m 5 #[.val (.ref ra), .val (.ref rb), .unset] [(.ref rb)])) _
    refine X24.arraylength hx (by rw [e24]; exact Ar25.1) (State.isArrayOf_alike hZ.alike Ar25.2.1) (g := (mkF m 5 #[.val (.ref ra), .val (.ref rb), .unset] [(.ref rb)])) rfl rfl (hb hby d_prog_2_method_1_code_5) _ ?_
    rw [len_of S25 N25a]
    show Steps p.tables e below (T24.setTop (mkF m 6 #[.val (.ref ra), .val (.ref rb), .unset] [(.int (4 : Int32))])) _
    refine XS.iconst X24.here hx rfl (hb hby d_prog_2_method_1_code_6) ?_
    show Steps p.tables e below (T24.setTop (mkF m 7 #[.val (.ref ra), .val (.ref rb), .unset] [(.int (2 : Int32)), (.int (4 : Int32))])) _
    refine iremM X24 hx rfl (hb hby d_prog_2_method_1_code_7) rfl (by decide) ?_
    show Steps p.tables e below (T24.setTop (mkF m 8 #[.val (.ref ra), .val (.ref rb), .unset] [(.int (0 : Int32))])) _
    refine XS.ifYes X24.here hx rfl (pc0 := 8) (pc' := 21) rfl (hb hby d_prog_2_method_1_code_8) rfl ((if0 _ _).trans (teq (by decide : (0 : Int32) = (0 : Int32))).1) (by decide) (by decide) ?_
    show Steps p.tables e below (T24.setTop (mkF m 21 #[.val (.ref ra), .val (.ref rb), .unset] [])) _
    refine XS.iconst X24.here hx rfl (hb hby d_prog_2_method_1_code_21) ?_
    show Steps p.tables e below (T24.setTop (mkF m 22 #[.val (.ref ra), .val (.ref rb), .unset] [(.int (0 : Int32))])) _
    refine XS.istoreN X24.here hx rfl (hb hby d_prog_2_method_1_code_22) rfl (l' := #[.val (.ref ra), .val (.ref rb), .val (.int (0 : Int32))]) rfl ?_
    show Steps p.tables e below (T24.setTop (mkF m 23 #[.val (.ref ra), .val (.ref rb), .val (.int (0 : Int32))] [])) _
    refine XS.iloadN X24.here hx rfl (hb hby d_prog_2_method_1_code_23) rfl ?_
    show Steps p.tables e below (T24.setTop (mkF m 24 #[.val (.ref ra), .val (.ref rb), .val (.int (0 : Int32))] [(.int (0 : Int32))])) _
    refine XS.aloadN X24.here hx rfl (hb hby d_prog_2_method_1_code_24) rfl rfl ?_
    show Steps p.tables e below (T24.setTop (mkF m 25 #[.val (.ref ra), .val (.ref rb), .val (.int (0 : Int32))] [(.ref rb), (.int (0 : Int32))])) _
    refine X24.arraylength hx (by rw [e24]; exact Ar26.1) (State.isArrayOf_alike hZ.alike Ar26.2.1) (g := (mkF m 25 #[.val (.ref ra), .val (.ref rb), .val (.int (0 : Int32))] [(.ref rb), (.int (0 : Int32))])) rfl rfl (hb hby d_prog_2_method_1_code_25) _ ?_
    rw [len_of S26 N26a]
    show Steps p.tables e below (T24.setTop (mkF m 26 #[.val (.ref ra), .val (.ref rb), .val (.int (0 : Int32))] [(.int (4 : Int32)), (.int (0 : Int32))])) _
    refine XS.icmpNo X24.here hx rfl (hb hby d_prog_2_method_1_code_26) rfl (tlt (by decide : (0 : Int32) < (4 : Int32))).2.1 ?_
    show Steps p.tables e below (T24.setTop (mkF m 29 #[.val (.ref ra), .val (.ref rb), .val (.int (0 : Int32))] [])) _
    refine XS.aloadN X24.here hx rfl (hb hby d_prog_2_method_1_code_29) rfl rfl ?_
    show Steps p.tables e below (T24.setTop (mkF m 30 #[.val (.ref ra), .val (.ref rb), .val (.int (0 : Int32))] [(.ref rb)])) _
    refine XS.iloadN X24.here hx rfl (hb hby d_prog_2_method_1_code_30) rfl ?_
    show Steps p.tables e below (T24.setTop (mkF m 31 #[.val (.ref ra), .val (.ref rb), .val (.int (0 : Int32))] [(.int (0 : Int32)), (.ref rb)])) _
    refine X24.laload hx (j := (0 : Int32)) (v := (.long v0)) (by rw [e24]; exact Ar27.1) (State.isArrayOf_alike hZ.alike Ar27.2.1) Ar27.2.2 hin27 hat27 (g := (mkF m 31 #[.val (.ref ra), .val (.ref rb), .val (.int (0 : Int32))] [(.int (0 : Int32)), (.ref rb)])) rfl rfl (hb hby d_prog_2_method_1_code_31) _ ?_
    show Steps p.tables e below (T24.setTop (mkF m 32 #[.val (.ref ra), .val (.ref rb), .val (.int (0 : Int32))] [(.long v0)])) _
    refine XS.aloadN X24.here hx rfl (hb hby d_prog_2_method_1_code_32) rfl rfl ?_
    show Steps p.tables e below (T24.setTop (mkF m 33 #[.val (.ref ra), .val (.ref rb), .val (.int (0 : Int32))] [(.ref rb), (.long v0)])) _
    refine XS.iloadN X24.here hx rfl (hb hby d_prog_2_method_1_code_33) rfl ?_
    show Steps p.tables e below (T24.setTop (mkF m 34 #[.val (.ref ra), .val (.ref rb), .val (.int (0 : Int32))] [(.int (0 : Int32)), (.ref rb), (.long v0)])) _
    refine XS.iconst X24.here hx rfl (hb hby d_prog_2_method_1_code_34) ?_
    show Steps p.tables e below (T24.setTop (mkF m 35 #[.val (.ref ra), .val (.ref rb), .val (.int (0 : Int32))] [(.int (1 : Int32)), (.int (0 : Int32)), (.ref rb), (.long v0)])) _
    refine XS.iadd X24.here hx rfl (hb hby d_prog_2_method_1_code_35) rfl ?_
    show Steps p.tables e below (T24.setTop (mkF m 36 #[.val (.ref ra), .val (.ref rb), .val (.int (0 : Int32))] [(.int (1 : Int32)), (.ref rb), (.long v0)])) _
    refine X24.laload hx (j := (1 : Int32)) (v := (.long v1)) (by rw [e24]; exact Ar28.1) (State.isArrayOf_alike hZ.alike Ar28.2.1) Ar28.2.2 hin28 hat28 (g := (mkF m 36 #[.val (.ref ra), .val (.ref rb), .val (.int (0 : Int32))] [(.int (1 : Int32)), (.ref rb), (.long v0)])) rfl rfl (hb hby d_prog_2_method_1_code_36) _ ?_
    show Steps p.tables e below (T24.setTop (mkF m 37 #[.val (.ref ra), .val (.ref rb), .val (.int (0 : Int32))] [(.long v1), (.long v0)])) _
    refine XS.lcmp X24.here hx rfl (hb hby d_prog_2_method_1_code_37) rfl ?_
    show Steps p.tables e below (T24.setTop (mkF m 38 #[.val (.ref ra), .val (.ref rb), .val (.int (0 : Int32))] [(.int (lcmpW v0 v1))])) _
    refine XS.ifYes X24.here hx rfl (pc0 := 38) (pc' := 51) rfl (hb hby d_prog_2_method_1_code_38) rfl ((if0 _ _).trans (tlt ((lw_lt _ _).mpr (o0 : v0 < v1))).1) (by decide) (by decide) ?_
    show Steps p.tables e below (T24.setTop (mkF m 51 #[.val (.ref ra), .val (.ref rb), .val (.int (0 : Int32))] [])) _
    refine XS.iinc X24.here hx rfl (hb hby d_prog_2_method_1_code_51) rfl (l' := #[.val (.ref ra), .val (.ref rb), .val (.int (2 : Int32))]) rfl ?_
    show Steps p.tables e below (T24.setTop (mkF m 54 #[.val (.ref ra), .val (.ref rb), .val (.int (2 : Int32))] [])) _
    refine XS.goto X24.here hx rfl (pc0 := 54) (pc' := 23) rfl (hb hby d_prog_2_method_1_code_54) (by decide) (by decide) ?_
    show Steps p.tables e below (T24.setTop (mkF m 23 #[.val (.ref ra), .val (.ref rb), .val (.int (2 : Int32))] [])) _
    refine XS.iloadN X24.here hx rfl (hb hby d_prog_2_method_1_code_23) rfl ?_
    show Steps p.tables e below (T24.setTop (mkF m 24 #[.val (.ref ra), .val (.ref rb), .val (.int (2 : Int32))] [(.int (2 : Int32))])) _
    refine XS.aloadN X24.here hx rfl (hb hby d_prog_2_method_1_code_24) rfl rfl ?_
    show Steps p.tables e below (T24.setTop (mkF m 25 #[.val (.ref ra), .val (.ref rb), .val (.int (2 : Int32))] [(.ref rb), (.int (2 : Int32))])) _
    refine X24.arraylength hx (by rw [e24]; exact Ar29.1) (State.isArrayOf_alike hZ.alike Ar29.2.1) (g := (mkF m 25 #[.val (.ref ra), .val (.ref rb), .val (.int (2 : Int32))] [(.ref rb), (.int (2 : Int32))])) rfl rfl (hb hby d_prog_2_method_1_code_25) _ ?_
    rw [len_of S29 N29a]
    show Steps p.tables e below (T24.setTop (mkF m 26 #[.val (.ref ra), .val (.ref rb), .val (.int (2 : Int32))] [(.int (4 : Int32)), (.int (2 : Int32))])) _
    refine XS.icmpNo X24.here hx rfl (hb hby d_prog_2_method_1_code_26) rfl (tlt (by decide : (2 : Int32) < (4 : Int32))).2.1 ?_
    show Steps p.tables e below (T24.setTop (mkF m 29 #[.val (.ref ra), .val (.ref rb), .val (.int (2 : Int32))] [])) _
    refine XS.aloadN X24.here hx rfl (hb hby d_prog_2_method_1_code_29) rfl rfl ?_
    show Steps p.tables e below (T24.setTop (mkF m 30 #[.val (.ref ra), .val (.ref rb), .val (.int (2 : Int32))] [(.ref rb)])) _
    refine XS.iloadN X24.here hx rfl (hb hby d_prog_2_method_1_code_30) rfl ?_
    show Steps p.tables e below (T24.setTop (mkF m 31 #[.val (.ref ra), .val (.ref rb), .val (.int (2 : Int32))] [(.int (2 : Int32)), (.ref rb)])) _
    refine X24.laload hx (j := (2 : Int32)) (v := (.long v2)) (by rw [e24]; exact Ar30.1) (State.isArrayOf_alike hZ.alike Ar30.2.1) Ar30.2.2 hin30 hat30 (g := (mkF m 31 #[.val (.ref ra), .val (.ref rb), .val (.int (2 : Int32))] [(.int (2 : Int32)), (.ref rb)])) rfl rfl (hb hby d_prog_2_method_1_code_31) _ ?_
    show Steps p.tables e below (T24.setTop (mkF m 32 #[.val (.ref ra), .val (.ref rb), .val (.int (2 : Int32))] [(.long v2)])) _
    refine XS.aloadN X24.here hx rfl (hb hby d_prog_2_method_1_code_32) rfl rfl ?_
    show Steps p.tables e below (T24.setTop (mkF m 33 #[.val (.ref ra), .val (.ref rb), .val (.int (2 : Int32))] [(.ref rb), (.long v2)])) _
    refine XS.iloadN X24.here hx rfl (hb hby d_prog_2_method_1_code_33) rfl ?_
    show Steps p.tables e below (T24.setTop (mkF m 34 #[.val (.ref ra), .val (.ref rb), .val (.int (2 : Int32))] [(.int (2 : Int32)), (.ref rb), (.long v2)])) _
    refine XS.iconst X24.here hx rfl (hb hby d_prog_2_method_1_code_34) ?_
    show Steps p.tables e below (T24.setTop (mkF m 35 #[.val (.ref ra), .val (.ref rb), .val (.int (2 : Int32))] [(.int (1 : Int32)), (.int (2 : Int32)), (.ref rb), (.long v2)])) _
    refine XS.iadd X24.here hx rfl (hb hby d_prog_2_method_1_code_35) rfl ?_
    show Steps p.tables e below (T24.setTop (mkF m 36 #[.val (.ref ra), .val (.ref rb), .val (.int (2 : Int32))] [(.int (3 : Int32)), (.ref rb), (.long v2)])) _
    refine X24.laload hx (j := (3 : Int32)) (v := (.long v3)) (by rw [e24]; exact Ar31.1) (State.isArrayOf_alike hZ.alike Ar31.2.1) Ar31.2.2 hin31 hat31 (g := (mkF m 36 #[.val (.ref ra), .val (.ref rb), .val (.int (2 : Int32))] [(.int (3 : Int32)), (.ref rb), (.long v2)])) rfl rfl (hb hby d_prog_2_method_1_code_36) _ ?_
    show Steps p.tables e below (T24.setTop (mkF m 37 #[.val (.ref ra), .val (.ref rb), .val (.int (2 : Int32))] [(.long v3), (.long v2)])) _
    refine XS.lcmp X24.here hx rfl (hb hby d_prog_2_method_1_code_37) rfl ?_
    show Steps p.tables e below (T24.setTop (mkF m 38 #[.val (.ref ra), .val (.ref rb), .val (.int (2 : Int32))] [(.int (lcmpW v2 v3))])) _
    refine XS.ifYes X24.here hx rfl (pc0 := 38) (pc' := 51) rfl (hb hby d_prog_2_method_1_code_38) rfl ((if0 _ _).trans (tlt ((lw_lt _ _).mpr (o2 : v2 < v3))).1) (by decide) (by decide) ?_
    show Steps p.tables e below (T24.setTop (mkF m 51 #[.val (.ref ra), .val (.ref rb), .val (.int (2 : Int32))] [])) _
    refine XS.iinc X24.here hx rfl (hb hby d_prog_2_method_1_code_51) rfl (l' := #[.val (.ref ra), .val (.ref rb), .val (.int (4 : Int32))]) rfl ?_
    show Steps p.tables e below (T24.setTop (mkF m 54 #[.val (.ref ra), .val (.ref rb), .val (.int (4 : Int32))] [])) _
    refine XS.goto X24.here hx rfl (pc0 := 54) (pc' := 23) rfl (hb hby d_prog_2_method_1_code_54) (by decide) (by decide) ?_
    show Steps p.tables e below (T24.setTop (mkF m 23 #[.val (.ref ra), .val (.ref rb), .val (.int (4 : Int32))] [])) _
    refine XS.iloadN X24.here hx rfl (hb hby d_prog_2_method_1_code_23) rfl ?_
    show Steps p.tables e below (T24.setTop (mkF m 24 #[.val (.ref ra), .val (.ref rb), .val (.int (4 : Int32))] [(.int (4 : Int32))])) _
    refine XS.aloadN X24.here hx rfl (hb hby d_prog_2_method_1_code_24) rfl rfl ?_
    show Steps p.tables e below (T24.setTop (mkF m 25 #[.val (.ref ra), .val (.ref rb), .val (.int (4 : Int32))] [(.ref rb), (.int (4 : Int32))])) _
    refine X24.arraylength hx (by rw [e24]; exact Ar32.1) (State.isArrayOf_alike hZ.alike Ar32.2.1) (g := (mkF m 25 #[.val (.ref ra), .val (.ref rb), .val (.int (4 : Int32))] [(.ref rb), (.int (4 : Int32))])) rfl rfl (hb hby d_prog_2_method_1_code_25) _ ?_
    rw [len_of S32 N32a]
    show Steps p.tables e below (T24.setTop (mkF m 26 #[.val (.ref ra), .val (.ref rb), .val (.int (4 : Int32))] [(.int (4 : Int32)), (.int (4 : Int32))])) _
    refine XS.icmpYes X24.here hx rfl (pc0 := 26) (pc' := 57) rfl (hb hby d_prog_2_method_1_code_26) rfl (flt (by decide : ¬ ((4 : Int32) < (4 : Int32)))).2.1 (by decide) (by decide) ?_
    show Steps p.tables e below (T24.setTop (mkF m 57 #[.val (.ref ra), .val (.ref rb), .val (.int (4 : Int32))] [])) _
    refine XS.aloadN X24.here hx rfl (hb hby d_prog_2_method_1_code_57) rfl rfl ?_
    show Steps p.tables e below (T24.setTop (mkF m 58 #[.val (.ref ra), .val (.ref rb), .val (.int (4 : Int32))] [(.ref ra)])) _
    refine XS.aloadN X24.here hx rfl (hb hby d_prog_2_method_1_code_58) rfl rfl ?_
    show Steps p.tables e below (T24.setTop (mkF m 59 #[.val (.ref ra), .val (.ref rb), .val (.int (4 : Int32))] [(.ref rb), (.ref ra)])) _
    refine st33 _ ?_
    show Steps p.tables e below (T33.setTop (mkF m 62 #[.val (.ref ra), .val (.ref rb), .val (.int (4 : Int32))] [(.ref b33), (.ref ra)])) _
    refine st34 _ ?_
    show Steps p.tables e below (T34.setTop (mkF m 65 #[.val (.ref ra), .val (.ref rb), .val (.int (4 : Int32))] [(.ref b33), (.ref ra)])) _
    refine st35 _ ?_
    show Steps p.tables e below (T35.setTop (mkF m 68 #[.val (.ref ra), .val (.ref rb), .val (.int (4 : Int32))] [])) _
    exact X35.returnOut hx Bd.returns (hb hby d_prog_2_method_1_code_68) hr
  · show Q_ini4 Z ra rb kb v0 v1 v2 v3 h0 n0 _ T35.heap _
    rw [e35]
    exact ⟨rfl, N35, kp35, b33, kb, g_b33, sz_b33, Fd_bounds_ra_35, Av_b33_33_c35, Ex_b33_33_c35⟩
theorem d_prog_2_method_3_code_0 : decode prog_2_method_3_code 0 = .ok (.aload_n 0, 1) := by decide +kernel
theorem d_prog_2_method_3_code_1 : decode prog_2_method_3_code 1 = .ok (.getfield 22, 3) := by decide +kernel
theorem d_prog_2_method_3_code_4 : decode prog_2_method_3_code 4 = .ok (.arraylength, 1) := by decide +kernel
theorem d_prog_2_method_3_code_5 : decode prog_2_method_3_code 5 = .ok (.iconst 2, 1) := by decide +kernel
theorem d_prog_2_method_3_code_6 : decode prog_2_method_3_code 6 = .ok (.idiv, 1) := by decide +kernel
theorem d_prog_2_method_3_code_7 : decode prog_2_method_3_code 7 = .ok (.ireturn, 1) := by decide +kernel
theorem ef_dim (m : MethodId) (ra : Addr) : entryFrame m #[(.ref ra)] 1 = mkF m 0 #[.val (.ref ra)] [] := by first | (simp [entryFrame, mkF, argsToLocals, Value.category]; done) | rfl
def Q_dim (Z : State) (ra : Addr) (ax : Addr) (ka : ClassId) (nn : Int32) (vs : List Int64) (h0 : Heap) (n0 : Nat) (v : Option Value) (h : Heap) (L : List Loc) : Prop := (∃ z : Int32, v = some (.int z) ∧ (z = nn / (2 : Int32))) ∧ Fr n0 L ∧ h = h0
set_option maxRecDepth 65536 in
set_option maxHeartbeats 40000000 in
theorem rm_dim (l : Launch) (Z : State) (a0 : Array Value) (hw : ∀ d ∈ tables_1, d.before a0 Z = true) (ws : List Jvm.Cond) (ra : Addr) (ax : Addr) (ka : ClassId) (nn : Int32) (vs : List Int64) (h0 : Heap) (n0 : Nat) (Z0 : n0 ≤ h0.size) (F_b : Fld Z h0 ra "com/example/chronotriple/chronotriple/Box" "bounds" "[J" (.ref ax)) (Av : Arv Z h0 ax ka .long nn (vs.map Value.long) (.long 0)) :
    MetFree l (⟨"com/example/chronotriple/chronotriple/Box", "dimensions", "()I"⟩ : MethodName) (head1 (Jvm.Cond.code (⟨"com/example/chronotriple/chronotriple/Box", "dimensions", "()I"⟩ : MethodName) prog_2_method_3_code 1 (some .int) :: ws) ({ frames := 0, cells := 0, slots := 0, locals := 0 } : Room)) (fun a U => a = #[(.ref ra)] ∧ Z.Warmed39 U.vm ∧ U.heap = h0) (fun _ _ _ _ _ => True) (fun _ U o U' => ∃ v L, o = .returned v ∧ Q_dim Z ra ax ka nn vs h0 n0 v U'.heap L ∧ FrameEnd U o U' L ({ frames := 0, cells := 0, slots := 0, locals := 0 } : Room).cells ({ frames := 0, cells := 0, slots := 0, locals := 0 } : Room).slots) := by
  refine MetFree.of_bodySF (plainFor_of_name pn_1) hisR ?_
  intro p e s m args below meth c s₁ Bd hml0 hP hK
  obtain ⟨rfl, hZ, hh⟩ := hP
  have hx := Bd.exec
  have hby := Bd.bytes
  have hml : c.maxLocals = 1 := hml0
  have hown : s.vm.findClass "com/example/chronotriple/chronotriple/Box" = some m.cls := findClass_of_methodNamed Bd.named
  have hnm := (name_of_methodNamed Bd.named Bd.method).1
  have X0 : Stand p l e ({ frames := 0, cells := 0, slots := 0, locals := 0 } : Room) s m #[(.ref ra)] below meth c s₁ [] 0 0 := Stand.of_body Bd
  have e0 : s₁.heap = h0 := by rw [← hh, Bd.state]; rfl
  have N0 := Fr.nil n0
  have pre0 : ∀ t, Steps p.tables e below (s₁.setTop (mkF m 0 #[.val (.ref ra)] [])) t → Steps p.tables e below (s₁.setTop (entryFrame m #[(.ref ra)] 1)) t := fun t k => castTop (ef_dim m ra) k
  obtain ⟨T36, X36, e36, st36⟩ := getF X0 hx hZ hown (host := "") (Or.inl (hw _ (List.mem_of_getElem? (i := 33) rfl))) Via.refl e0 F_b (g := (mkF m 1 #[.val (.ref ra)] [(.ref ra)])) rfl rfl (hb hby d_prog_2_method_3_code_1)
  obtain ⟨cl37, Ar37, -, S37, N37a, -, -⟩ := id Av
  obtain ⟨fs, hr, hrun, hended, hW, hsame⟩ := X36.leave (v := some (.int (nn / (2 : Int32)))) (fun h => by rw [Bd.returns] at h; cases h)
  refine ⟨_, _, pre0 _ ?_, hrun, hended, _, _, rfl, ?_, ⟨_, rfl⟩, hW, hsame.mono (by decide) (by decide)⟩
  · show Steps p.tables e below (s₁.setTop (mkF m 0 #[.val (.ref ra)] [])) _
    refine XS.aloadN X0.here hx rfl (hb hby d_prog_2_method_3_code_0) rfl rfl ?_
    show Steps p.tables e below (s₁.setTop (mkF m 1 #[.val (.ref ra)] [(.ref ra)])) _
    refine st36 _ ?_
    show Steps p.tables e below (T36.setTop (mkF m 4 #[.val (.ref ra)] [(.ref ax)])) _
    refine X36.arraylength hx (by rw [e36]; exact Ar37.1) (State.isArrayOf_alike hZ.alike Ar37.2.1) (g := (mkF m 4 #[.val (.ref ra)] [(.ref ax)])) rfl rfl (hb hby d_prog_2_method_3_code_4) _ ?_
    rw [len_of S37 N37a]
    show Steps p.tables e below (T36.setTop (mkF m 5 #[.val (.ref ra)] [(.int nn)])) _
    refine XS.iconst X36.here hx rfl (hb hby d_prog_2_method_3_code_5) ?_
    show Steps p.tables e below (T36.setTop (mkF m 6 #[.val (.ref ra)] [(.int (2 : Int32)), (.int nn)])) _
    refine XS.idiv X36.here hx rfl (hb hby d_prog_2_method_3_code_6) rfl (by decide) ?_
    show Steps p.tables e below (T36.setTop (mkF m 7 #[.val (.ref ra)] [(.int (nn / (2 : Int32)))])) _
    exact retI X36 hx Bd.returns (hb hby d_prog_2_method_3_code_7) hr
  · show Q_dim Z ra ax ka nn vs h0 n0 _ T36.heap _
    rw [e36]
    exact ⟨⟨_, rfl, rfl⟩, N0, rfl⟩
theorem d_prog_2_method_4_code_0 : decode prog_2_method_4_code 0 = .ok (.aload_n 0, 1) := by decide +kernel
theorem d_prog_2_method_4_code_1 : decode prog_2_method_4_code 1 = .ok (.getfield 22, 3) := by decide +kernel
theorem d_prog_2_method_4_code_4 : decode prog_2_method_4_code 4 = .ok (.iconst 2, 1) := by decide +kernel
theorem d_prog_2_method_4_code_5 : decode prog_2_method_4_code 5 = .ok (.iload_n 1, 1) := by decide +kernel
theorem d_prog_2_method_4_code_6 : decode prog_2_method_4_code 6 = .ok (.imul, 1) := by decide +kernel
theorem d_prog_2_method_4_code_7 : decode prog_2_method_4_code 7 = .ok (.laload, 1) := by decide +kernel
theorem d_prog_2_method_4_code_8 : decode prog_2_method_4_code 8 = .ok (.lreturn, 1) := by decide +kernel
theorem ef_frm (m : MethodId) (ra : Addr) (vi : Int32) : entryFrame m #[(.ref ra), (.int vi)] 2 = mkF m 0 #[.val (.ref ra), .val (.int vi)] [] := by first | (simp [entryFrame, mkF, argsToLocals, Value.category]; done) | rfl
def Q_frm (Z : State) (ra : Addr) (vi : Int32) (ax : Addr) (ka : ClassId) (nn : Int32) (vs : List Int64) (h0 : Heap) (n0 : Nat) (v : Option Value) (h : Heap) (L : List Loc) : Prop := (∃ z : Int64, v = some (.long z) ∧ (z = vs.getD ((2 : Int32) * vi).toNatClampNeg 0)) ∧ Fr n0 L ∧ h = h0
set_option maxRecDepth 65536 in
set_option maxHeartbeats 40000000 in
theorem rm_frm (l : Launch) (Z : State) (a0 : Array Value) (hw : ∀ d ∈ tables_1, d.before a0 Z = true) (ws : List Jvm.Cond) (ra : Addr) (vi : Int32) (ax : Addr) (ka : ClassId) (nn : Int32) (vs : List Int64) (h0 : Heap) (n0 : Nat) (Z0 : n0 ≤ h0.size) (F_b : Fld Z h0 ra "com/example/chronotriple/chronotriple/Box" "bounds" "[J" (.ref ax)) (Av : Arv Z h0 ax ka .long nn (vs.map Value.long) (.long 0)) (hi : ¬ ((2 : Int32) * vi) < 0 ∧ ((2 : Int32) * vi) < nn) :
    MetFree l (⟨"com/example/chronotriple/chronotriple/Box", "from", "(I)J"⟩ : MethodName) (head1 (Jvm.Cond.code (⟨"com/example/chronotriple/chronotriple/Box", "from", "(I)J"⟩ : MethodName) prog_2_method_4_code 2 (some .long) :: ws) ({ frames := 0, cells := 0, slots := 0, locals := 0 } : Room)) (fun a U => a = #[(.ref ra), (.int vi)] ∧ Z.Warmed39 U.vm ∧ U.heap = h0) (fun _ _ _ _ _ => True) (fun _ U o U' => ∃ v L, o = .returned v ∧ Q_frm Z ra vi ax ka nn vs h0 n0 v U'.heap L ∧ FrameEnd U o U' L ({ frames := 0, cells := 0, slots := 0, locals := 0 } : Room).cells ({ frames := 0, cells := 0, slots := 0, locals := 0 } : Room).slots) := by
  refine MetFree.of_bodySF (plainFor_of_name pn_1) hisR ?_
  intro p e s m args below meth c s₁ Bd hml0 hP hK
  obtain ⟨rfl, hZ, hh⟩ := hP
  have hx := Bd.exec
  have hby := Bd.bytes
  have hml : c.maxLocals = 2 := hml0
  have hown : s.vm.findClass "com/example/chronotriple/chronotriple/Box" = some m.cls := findClass_of_methodNamed Bd.named
  have hnm := (name_of_methodNamed Bd.named Bd.method).1
  have X0 : Stand p l e ({ frames := 0, cells := 0, slots := 0, locals := 0 } : Room) s m #[(.ref ra), (.int vi)] below meth c s₁ [] 0 0 := Stand.of_body Bd
  have e0 : s₁.heap = h0 := by rw [← hh, Bd.state]; rfl
  have N0 := Fr.nil n0
  have pre0 : ∀ t, Steps p.tables e below (s₁.setTop (mkF m 0 #[.val (.ref ra), .val (.int vi)] [])) t → Steps p.tables e below (s₁.setTop (entryFrame m #[(.ref ra), (.int vi)] 2)) t := fun t k => castTop (ef_frm m ra vi) k
  obtain ⟨T38, X38, e38, st38⟩ := getF X0 hx hZ hown (host := "") (Or.inl (hw _ (List.mem_of_getElem? (i := 33) rfl))) Via.refl e0 F_b (g := (mkF m 1 #[.val (.ref ra), .val (.int vi)] [(.ref ra)])) rfl rfl (hb hby d_prog_2_method_4_code_1)
  obtain ⟨fs, hr, hrun, hended, hW, hsame⟩ := X38.leave (v := some (.long (vs.getD (((2 : Int32) * vi)).toNatClampNeg 0))) (fun h => by rw [Bd.returns] at h; cases h)
  refine ⟨_, _, pre0 _ ?_, hrun, hended, _, _, rfl, ?_, ⟨_, rfl⟩, hW, hsame.mono (by decide) (by decide)⟩
  · show Steps p.tables e below (s₁.setTop (mkF m 0 #[.val (.ref ra), .val (.int vi)] [])) _
    refine XS.aloadN X0.here hx rfl (hb hby d_prog_2_method_4_code_0) rfl rfl ?_
    show Steps p.tables e below (s₁.setTop (mkF m 1 #[.val (.ref ra), .val (.int vi)] [(.ref ra)])) _
    refine st38 _ ?_
    show Steps p.tables e below (T38.setTop (mkF m 4 #[.val (.ref ra), .val (.int vi)] [(.ref ax)])) _
    refine XS.iconst X38.here hx rfl (hb hby d_prog_2_method_4_code_4) ?_
    show Steps p.tables e below (T38.setTop (mkF m 5 #[.val (.ref ra), .val (.int vi)] [(.int (2 : Int32)), (.ref ax)])) _
    refine XS.iloadN X38.here hx rfl (hb hby d_prog_2_method_4_code_5) rfl ?_
    show Steps p.tables e below (T38.setTop (mkF m 6 #[.val (.ref ra), .val (.int vi)] [(.int vi), (.int (2 : Int32)), (.ref ax)])) _
    refine XS.imul X38.here hx rfl (hb hby d_prog_2_method_4_code_6) rfl ?_
    show Steps p.tables e below (T38.setTop (mkF m 7 #[.val (.ref ra), .val (.int vi)] [(.int ((2 : Int32) * vi)), (.ref ax)])) _
    obtain ⟨cl39, Ar39, q39, S39, N39a, H39, G39⟩ := id Av
    have hin39 : ¬ (((2 : Int32) * vi) < 0 ∨ cl39.slots.size ≤ (((2 : Int32) * vi)).toNatClampNeg) := inb_of S39 hi
    have hat39 : cl39.slots[(((2 : Int32) * vi)).toNatClampNeg]? = some (.long (vs.getD (((2 : Int32) * vi)).toNatClampNeg 0)) := H39.at hin39 (own_getD _ _)
    refine X38.laload hx (j := ((2 : Int32) * vi)) (v := (.long (vs.getD (((2 : Int32) * vi)).toNatClampNeg 0))) (by rw [e38]; exact Ar39.1) (State.isArrayOf_alike hZ.alike Ar39.2.1) Ar39.2.2 hin39 hat39 (g := (mkF m 7 #[.val (.ref ra), .val (.int vi)] [(.int ((2 : Int32) * vi)), (.ref ax)])) rfl rfl (hb hby d_prog_2_method_4_code_7) _ ?_
    show Steps p.tables e below (T38.setTop (mkF m 8 #[.val (.ref ra), .val (.int vi)] [(.long (vs.getD (((2 : Int32) * vi)).toNatClampNeg 0))])) _
    exact X38.lreturnOut hx Bd.returns (hb hby d_prog_2_method_4_code_8) hr
  · show Q_frm Z ra vi ax ka nn vs h0 n0 _ T38.heap _
    rw [e38]
    exact ⟨⟨_, rfl, rfl⟩, N0, rfl⟩
theorem d_prog_2_method_5_code_0 : decode prog_2_method_5_code 0 = .ok (.aload_n 0, 1) := by decide +kernel
theorem d_prog_2_method_5_code_1 : decode prog_2_method_5_code 1 = .ok (.getfield 22, 3) := by decide +kernel
theorem d_prog_2_method_5_code_4 : decode prog_2_method_5_code 4 = .ok (.iconst 2, 1) := by decide +kernel
theorem d_prog_2_method_5_code_5 : decode prog_2_method_5_code 5 = .ok (.iload_n 1, 1) := by decide +kernel
theorem d_prog_2_method_5_code_6 : decode prog_2_method_5_code 6 = .ok (.imul, 1) := by decide +kernel
theorem d_prog_2_method_5_code_7 : decode prog_2_method_5_code 7 = .ok (.iconst 1, 1) := by decide +kernel
theorem d_prog_2_method_5_code_8 : decode prog_2_method_5_code 8 = .ok (.iadd, 1) := by decide +kernel
theorem d_prog_2_method_5_code_9 : decode prog_2_method_5_code 9 = .ok (.laload, 1) := by decide +kernel
theorem d_prog_2_method_5_code_10 : decode prog_2_method_5_code 10 = .ok (.lreturn, 1) := by decide +kernel
theorem ef_to (m : MethodId) (ra : Addr) (vi : Int32) : entryFrame m #[(.ref ra), (.int vi)] 2 = mkF m 0 #[.val (.ref ra), .val (.int vi)] [] := by first | (simp [entryFrame, mkF, argsToLocals, Value.category]; done) | rfl
def Q_to (Z : State) (ra : Addr) (vi : Int32) (ax : Addr) (ka : ClassId) (nn : Int32) (vs : List Int64) (h0 : Heap) (n0 : Nat) (v : Option Value) (h : Heap) (L : List Loc) : Prop := (∃ z : Int64, v = some (.long z) ∧ (z = vs.getD (((2 : Int32) * vi) + (1 : Int32)).toNatClampNeg 0)) ∧ Fr n0 L ∧ h = h0
set_option maxRecDepth 65536 in
set_option maxHeartbeats 40000000 in
theorem rm_to (l : Launch) (Z : State) (a0 : Array Value) (hw : ∀ d ∈ tables_1, d.before a0 Z = true) (ws : List Jvm.Cond) (ra : Addr) (vi : Int32) (ax : Addr) (ka : ClassId) (nn : Int32) (vs : List Int64) (h0 : Heap) (n0 : Nat) (Z0 : n0 ≤ h0.size) (F_b : Fld Z h0 ra "com/example/chronotriple/chronotriple/Box" "bounds" "[J" (.ref ax)) (Av : Arv Z h0 ax ka .long nn (vs.map Value.long) (.long 0)) (hi : ¬ (((2 : Int32) * vi) + (1 : Int32)) < 0 ∧ (((2 : Int32) * vi) + (1 : Int32)) < nn) :
    MetFree l (⟨"com/example/chronotriple/chronotriple/Box", "to", "(I)J"⟩ : MethodName) (head1 (Jvm.Cond.code (⟨"com/example/chronotriple/chronotriple/Box", "to", "(I)J"⟩ : MethodName) prog_2_method_5_code 2 (some .long) :: ws) ({ frames := 0, cells := 0, slots := 0, locals := 0 } : Room)) (fun a U => a = #[(.ref ra), (.int vi)] ∧ Z.Warmed39 U.vm ∧ U.heap = h0) (fun _ _ _ _ _ => True) (fun _ U o U' => ∃ v L, o = .returned v ∧ Q_to Z ra vi ax ka nn vs h0 n0 v U'.heap L ∧ FrameEnd U o U' L ({ frames := 0, cells := 0, slots := 0, locals := 0 } : Room).cells ({ frames := 0, cells := 0, slots := 0, locals := 0 } : Room).slots) := by
  refine MetFree.of_bodySF (plainFor_of_name pn_1) hisR ?_
  intro p e s m args below meth c s₁ Bd hml0 hP hK
  obtain ⟨rfl, hZ, hh⟩ := hP
  have hx := Bd.exec
  have hby := Bd.bytes
  have hml : c.maxLocals = 2 := hml0
  have hown : s.vm.findClass "com/example/chronotriple/chronotriple/Box" = some m.cls := findClass_of_methodNamed Bd.named
  have hnm := (name_of_methodNamed Bd.named Bd.method).1
  have X0 : Stand p l e ({ frames := 0, cells := 0, slots := 0, locals := 0 } : Room) s m #[(.ref ra), (.int vi)] below meth c s₁ [] 0 0 := Stand.of_body Bd
  have e0 : s₁.heap = h0 := by rw [← hh, Bd.state]; rfl
  have N0 := Fr.nil n0
  have pre0 : ∀ t, Steps p.tables e below (s₁.setTop (mkF m 0 #[.val (.ref ra), .val (.int vi)] [])) t → Steps p.tables e below (s₁.setTop (entryFrame m #[(.ref ra), (.int vi)] 2)) t := fun t k => castTop (ef_to m ra vi) k
  obtain ⟨T40, X40, e40, st40⟩ := getF X0 hx hZ hown (host := "") (Or.inl (hw _ (List.mem_of_getElem? (i := 33) rfl))) Via.refl e0 F_b (g := (mkF m 1 #[.val (.ref ra), .val (.int vi)] [(.ref ra)])) rfl rfl (hb hby d_prog_2_method_5_code_1)
  obtain ⟨fs, hr, hrun, hended, hW, hsame⟩ := X40.leave (v := some (.long (vs.getD ((((2 : Int32) * vi) + (1 : Int32))).toNatClampNeg 0))) (fun h => by rw [Bd.returns] at h; cases h)
  refine ⟨_, _, pre0 _ ?_, hrun, hended, _, _, rfl, ?_, ⟨_, rfl⟩, hW, hsame.mono (by decide) (by decide)⟩
  · show Steps p.tables e below (s₁.setTop (mkF m 0 #[.val (.ref ra), .val (.int vi)] [])) _
    refine XS.aloadN X0.here hx rfl (hb hby d_prog_2_method_5_code_0) rfl rfl ?_
    show Steps p.tables e below (s₁.setTop (mkF m 1 #[.val (.ref ra), .val (.int vi)] [(.ref ra)])) _
    refine st40 _ ?_
    show Steps p.tables e below (T40.setTop (mkF m 4 #[.val (.ref ra), .val (.int vi)] [(.ref ax)])) _
    refine XS.iconst X40.here hx rfl (hb hby d_prog_2_method_5_code_4) ?_
    show Steps p.tables e below (T40.setTop (mkF m 5 #[.val (.ref ra), .val (.int vi)] [(.int (2 : Int32)), (.ref ax)])) _
    refine XS.iloadN X40.here hx rfl (hb hby d_prog_2_method_5_code_5) rfl ?_
    show Steps p.tables e below (T40.setTop (mkF m 6 #[.val (.ref ra), .val (.int vi)] [(.int vi), (.int (2 : Int32)), (.ref ax)])) _
    refine XS.imul X40.here hx rfl (hb hby d_prog_2_method_5_code_6) rfl ?_
    show Steps p.tables e below (T40.setTop (mkF m 7 #[.val (.ref ra), .val (.int vi)] [(.int ((2 : Int32) * vi)), (.ref ax)])) _
    refine XS.iconst X40.here hx rfl (hb hby d_prog_2_method_5_code_7) ?_
    show Steps p.tables e below (T40.setTop (mkF m 8 #[.val (.ref ra), .val (.int vi)] [(.int (1 : Int32)), (.int ((2 : Int32) * vi)), (.ref ax)])) _
    refine XS.iadd X40.here hx rfl (hb hby d_prog_2_method_5_code_8) rfl ?_
    show Steps p.tables e below (T40.setTop (mkF m 9 #[.val (.ref ra), .val (.int vi)] [(.int (((2 : Int32) * vi) + (1 : Int32))), (.ref ax)])) _
    obtain ⟨cl41, Ar41, q41, S41, N41a, H41, G41⟩ := id Av
    have hin41 : ¬ ((((2 : Int32) * vi) + (1 : Int32)) < 0 ∨ cl41.slots.size ≤ ((((2 : Int32) * vi) + (1 : Int32))).toNatClampNeg) := inb_of S41 hi
    have hat41 : cl41.slots[((((2 : Int32) * vi) + (1 : Int32))).toNatClampNeg]? = some (.long (vs.getD ((((2 : Int32) * vi) + (1 : Int32))).toNatClampNeg 0)) := H41.at hin41 (own_getD _ _)
    refine X40.laload hx (j := (((2 : Int32) * vi) + (1 : Int32))) (v := (.long (vs.getD ((((2 : Int32) * vi) + (1 : Int32))).toNatClampNeg 0))) (by rw [e40]; exact Ar41.1) (State.isArrayOf_alike hZ.alike Ar41.2.1) Ar41.2.2 hin41 hat41 (g := (mkF m 9 #[.val (.ref ra), .val (.int vi)] [(.int (((2 : Int32) * vi) + (1 : Int32))), (.ref ax)])) rfl rfl (hb hby d_prog_2_method_5_code_9) _ ?_
    show Steps p.tables e below (T40.setTop (mkF m 10 #[.val (.ref ra), .val (.int vi)] [(.long (vs.getD ((((2 : Int32) * vi) + (1 : Int32))).toNatClampNeg 0))])) _
    exact X40.lreturnOut hx Bd.returns (hb hby d_prog_2_method_5_code_10) hr
  · show Q_to Z ra vi ax ka nn vs h0 n0 _ T40.heap _
    rw [e40]
    exact ⟨⟨_, rfl, rfl⟩, N0, rfl⟩
theorem d_prog_2_method_8_code_0 : decode prog_2_method_8_code 0 = .ok (.iconst 0, 1) := by decide +kernel
theorem d_prog_2_method_8_code_1 : decode prog_2_method_8_code 1 = .ok (.istore_n 2, 1) := by decide +kernel
theorem d_prog_2_method_8_code_2 : decode prog_2_method_8_code 2 = .ok (.iload_n 2, 1) := by decide +kernel
theorem d_prog_2_method_8_code_3 : decode prog_2_method_8_code 3 = .ok (.aload_n 0, 1) := by decide +kernel
theorem d_prog_2_method_8_code_4 : decode prog_2_method_8_code 4 = .ok (.invokevirtual 55, 3) := by decide +kernel
theorem pd_1 : parseMethodDescriptor "()I" = some ⟨[], some .int⟩ := by decide +kernel
theorem d_prog_2_method_8_code_7 : decode prog_2_method_8_code 7 = .ok (.if_icmp .ge 35, 3) := by decide +kernel
theorem d_prog_2_method_8_code_42 : decode prog_2_method_8_code 42 = .ok (.iconst 1, 1) := by decide +kernel
theorem d_prog_2_method_8_code_43 : decode prog_2_method_8_code 43 = .ok (.ireturn, 1) := by decide +kernel
theorem ef_con0 (m : MethodId) (ra : Addr) (rp : Addr) : entryFrame m #[(.ref ra), (.ref rp)] 3 = mkF m 0 #[.val (.ref ra), .val (.ref rp), .unset] [] := by first | (simp [entryFrame, mkF, argsToLocals, Value.category]; done) | rfl
def Q_con0 (Z : State) (ra : Addr) (rp : Addr) (ax : Addr) (ka : ClassId) (kq : ClassId) (h0 : Heap) (n0 : Nat) (v : Option Value) (h : Heap) (L : List Loc) : Prop := (∃ z : Int32, v = some (.int z) ∧ (z = 1)) ∧ Fr n0 L ∧ h = h0
set_option maxRecDepth 65536 in
set_option maxHeartbeats 40000000 in
theorem rm_con0 (l : Launch) (Z : State) (a0 : Array Value) (hw : ∀ d ∈ tables_1, d.before a0 Z = true) (ws : List Jvm.Cond) (ra : Addr) (rp : Addr) (ax : Addr) (ka : ClassId) (kq : ClassId) (h0 : Heap) (n0 : Nat) (Z0 : n0 ≤ h0.size) (E_ra : Exa Z h0 ra "com/example/chronotriple/chronotriple/Box") (F_b : Fld Z h0 ra "com/example/chronotriple/chronotriple/Box" "bounds" "[J" (.ref ax)) (Av : Arv Z h0 ax ka .long (0 : Int32) [] (.long (0 : Int64))) (Ap : Arv Z h0 rp kq .long (0 : Int32) [] (.long (0 : Int64))) :
    MetFree l (⟨"com/example/chronotriple/chronotriple/Box", "contains", "([J)Z"⟩ : MethodName) (head1 (Jvm.Cond.code (⟨"com/example/chronotriple/chronotriple/Box", "contains", "([J)Z"⟩ : MethodName) prog_2_method_8_code 3 (some .boolean) :: ws) ({ frames := 1, cells := 0, slots := 0, locals := 13 } : Room)) (fun a U => a = #[(.ref ra), (.ref rp)] ∧ Z.Warmed39 U.vm ∧ U.heap = h0) (fun _ _ _ _ _ => True) (fun _ U o U' => ∃ v L, o = .returned v ∧ Q_con0 Z ra rp ax ka kq h0 n0 v U'.heap L ∧ FrameEnd U o U' L ({ frames := 1, cells := 0, slots := 0, locals := 13 } : Room).cells ({ frames := 1, cells := 0, slots := 0, locals := 13 } : Room).slots) := by
  refine MetFree.of_bodySF (plainFor_of_name pn_1) hisR ?_
  intro p e s m args below meth c s₁ Bd hml0 hP hK
  obtain ⟨rfl, hZ, hh⟩ := hP
  have hx := Bd.exec
  have hby := Bd.bytes
  have hml : c.maxLocals = 3 := hml0
  have hown : s.vm.findClass "com/example/chronotriple/chronotriple/Box" = some m.cls := findClass_of_methodNamed Bd.named
  have hnm := (name_of_methodNamed Bd.named Bd.method).1
  have X0 : Stand p l e ({ frames := 1, cells := 0, slots := 0, locals := 13 } : Room) s m #[(.ref ra), (.ref rp)] below meth c s₁ [] 0 0 := Stand.of_body Bd
  have e0 : s₁.heap = h0 := by rw [← hh, Bd.state]; rfl
  have N0 := Fr.nil n0
  have pre0 : ∀ t, Steps p.tables e below (s₁.setTop (mkF m 0 #[.val (.ref ra), .val (.ref rp), .unset] [])) t → Steps p.tables e below (s₁.setTop (entryFrame m #[(.ref ra), (.ref rp)] 3)) t := fun t k => castTop (ef_con0 m ra rp) k
  obtain ⟨cq42, kq42, q42a, q42b, q42c⟩ := isOf hZ e0 E_ra
  obtain ⟨_, _, ⟨T42, L42, k42, n42⟩, -, X42, ⟨Lc42, hQ42, l42, y42, z42⟩, st42⟩ := X0.virtualBack hx (y := (⟨"com/example/chronotriple/chronotriple/Box", "dimensions", "()I"⟩ : MethodName)) (z := (⟨"com/example/chronotriple/chronotriple/Box", "dimensions", "()I"⟩ : MethodName)) hown (mvT hZ (hw _ (List.mem_of_getElem? (i := 40) rfl))) (mvT hZ (hw _ (List.mem_of_getElem? (i := 41) rfl))) (notFace_of_selects (args := #[]) (mvT hZ (hw _ (List.mem_of_getElem? (i := 43) rfl)))) (mvT hZ (hw _ (List.mem_of_getElem? (i := 43) rfl))) (mvT hZ (hw _ (List.mem_of_getElem? (i := 42) rfl))) (by decide) (backOf (W := 1) (rm_dim l Z a0 hw [] ra ax ka (0 : Int32) [] h0 n0 Z0 F_b Av) hZ (hw _ (List.mem_of_getElem? (i := 44) rfl)) (hw _ (List.mem_of_getElem? (i := 16) rfl)) (by decide) (by decide)) q42a q42c (g := (mkF m 4 #[.val (.ref ra), .val (.ref rp), .val (.int (0 : Int32))] [(.ref ra), (.int (0 : Int32))])) rfl (by rw [hml]; rfl) (Steps.refl _) (argsL := []) (rest := [(.int (0 : Int32))]) (lenOf pd_1 rfl) rfl (by show 2 * 0 + _ ≤ _; exact Nat.le_of_eq rfl) (hb hby d_prog_2_method_8_code_4) (fun _ _ => ⟨rfl, e0, (by decide : 0 + 0 ≤ _), (by decide : 0 + 0 ≤ _)⟩)
  dsimp only [Pt.U, Pt.locs, Pt.cells, Pt.slots] at X42 l42 y42 z42 st42 hQ42
  subst l42 y42 z42
  obtain ⟨⟨r42, rfl, hr42⟩, N42q, e42⟩ := hQ42
  have N42 := Fr.app N0 N42q
  obtain rfl : (0 : Int32) = r42 := (hr42.trans (by decide)).symm
  obtain ⟨fs, hr, hrun, hended, hW, hsame⟩ := X42.leave (v := some (.int (1 : Int32))) (fun h => by rw [Bd.returns] at h; cases h)
  refine ⟨_, _, pre0 _ ?_, hrun, hended, _, _, rfl, ?_, ⟨_, rfl⟩, hW, hsame.mono (by decide) (by decide)⟩
  · show Steps p.tables e below (s₁.setTop (mkF m 0 #[.val (.ref ra), .val (.ref rp), .unset] [])) _
    refine XS.iconst X0.here hx rfl (hb hby d_prog_2_method_8_code_0) ?_
    show Steps p.tables e below (s₁.setTop (mkF m 1 #[.val (.ref ra), .val (.ref rp), .unset] [(.int (0 : Int32))])) _
    refine XS.istoreN X0.here hx rfl (hb hby d_prog_2_method_8_code_1) rfl (l' := #[.val (.ref ra), .val (.ref rp), .val (.int (0 : Int32))]) rfl ?_
    show Steps p.tables e below (s₁.setTop (mkF m 2 #[.val (.ref ra), .val (.ref rp), .val (.int (0 : Int32))] [])) _
    refine XS.iloadN X0.here hx rfl (hb hby d_prog_2_method_8_code_2) rfl ?_
    show Steps p.tables e below (s₁.setTop (mkF m 3 #[.val (.ref ra), .val (.ref rp), .val (.int (0 : Int32))] [(.int (0 : Int32))])) _
    refine XS.aloadN X0.here hx rfl (hb hby d_prog_2_method_8_code_3) rfl rfl ?_
    show Steps p.tables e below (s₁.setTop (mkF m 4 #[.val (.ref ra), .val (.ref rp), .val (.int (0 : Int32))] [(.ref ra), (.int (0 : Int32))])) _
    refine st42.trans ?_
    show Steps p.tables e below (T42.setTop (mkF m 7 #[.val (.ref ra), .val (.ref rp), .val (.int (0 : Int32))] [(.int (0 : Int32)), (.int (0 : Int32))])) _
    refine XS.icmpYes X42.here hx rfl (pc0 := 7) (pc' := 42) rfl (hb hby d_prog_2_method_8_code_7) rfl (flt (by decide : ¬ ((0 : Int32) < (0 : Int32)))).2.1 (by decide) (by decide) ?_
    show Steps p.tables e below (T42.setTop (mkF m 42 #[.val (.ref ra), .val (.ref rp), .val (.int (0 : Int32))] [])) _
    refine XS.iconst X42.here hx rfl (hb hby d_prog_2_method_8_code_42) ?_
    show Steps p.tables e below (T42.setTop (mkF m 43 #[.val (.ref ra), .val (.ref rp), .val (.int (0 : Int32))] [(.int (1 : Int32))])) _
    exact retN X42 hx (t := .boolean) Bd.returns (by simp) (hb hby d_prog_2_method_8_code_43) hr
  · show Q_con0 Z ra rp ax ka kq h0 n0 _ T42.heap _
    rw [e42]
    exact ⟨⟨_, rfl, rfl⟩, N42, rfl⟩
theorem d_prog_2_method_8_code_10 : decode prog_2_method_8_code 10 = .ok (.aload_n 1, 1) := by decide +kernel
theorem d_prog_2_method_8_code_11 : decode prog_2_method_8_code 11 = .ok (.iload_n 2, 1) := by decide +kernel
theorem d_prog_2_method_8_code_12 : decode prog_2_method_8_code 12 = .ok (.laload, 1) := by decide +kernel
theorem d_prog_2_method_8_code_13 : decode prog_2_method_8_code 13 = .ok (.aload_n 0, 1) := by decide +kernel
theorem d_prog_2_method_8_code_14 : decode prog_2_method_8_code 14 = .ok (.iload_n 2, 1) := by decide +kernel
theorem d_prog_2_method_8_code_15 : decode prog_2_method_8_code 15 = .ok (.invokevirtual 58, 3) := by decide +kernel
theorem pd_2 : parseMethodDescriptor "(I)J" = some ⟨[.int], some .long⟩ := by decide +kernel
theorem d_prog_2_method_8_code_18 : decode prog_2_method_8_code 18 = .ok (.lcmp, 1) := by decide +kernel
theorem d_prog_2_method_8_code_19 : decode prog_2_method_8_code 19 = .ok (.ifCond .lt 15, 3) := by decide +kernel
theorem d_prog_2_method_8_code_34 : decode prog_2_method_8_code 34 = .ok (.iconst 0, 1) := by decide +kernel
theorem d_prog_2_method_8_code_35 : decode prog_2_method_8_code 35 = .ok (.ireturn, 1) := by decide +kernel
theorem d_prog_2_method_8_code_22 : decode prog_2_method_8_code 22 = .ok (.aload_n 1, 1) := by decide +kernel
theorem d_prog_2_method_8_code_23 : decode prog_2_method_8_code 23 = .ok (.iload_n 2, 1) := by decide +kernel
theorem d_prog_2_method_8_code_24 : decode prog_2_method_8_code 24 = .ok (.laload, 1) := by decide +kernel
theorem d_prog_2_method_8_code_25 : decode prog_2_method_8_code 25 = .ok (.aload_n 0, 1) := by decide +kernel
theorem d_prog_2_method_8_code_26 : decode prog_2_method_8_code 26 = .ok (.iload_n 2, 1) := by decide +kernel
theorem d_prog_2_method_8_code_27 : decode prog_2_method_8_code 27 = .ok (.invokevirtual 61, 3) := by decide +kernel
theorem d_prog_2_method_8_code_30 : decode prog_2_method_8_code 30 = .ok (.lcmp, 1) := by decide +kernel
theorem d_prog_2_method_8_code_31 : decode prog_2_method_8_code 31 = .ok (.ifCond .lt 5, 3) := by decide +kernel
theorem d_prog_2_method_8_code_36 : decode prog_2_method_8_code 36 = .ok (.iinc 2 1, 3) := by decide +kernel
theorem d_prog_2_method_8_code_39 : decode prog_2_method_8_code 39 = .ok (.goto (-37), 3) := by decide +kernel
theorem ef_con1 (m : MethodId) (ra : Addr) (rp : Addr) : entryFrame m #[(.ref ra), (.ref rp)] 3 = mkF m 0 #[.val (.ref ra), .val (.ref rp), .unset] [] := by first | (simp [entryFrame, mkF, argsToLocals, Value.category]; done) | rfl
def Q_con1 (Z : State) (ra : Addr) (rp : Addr) (ax : Addr) (ka : ClassId) (kq : ClassId) (v0 : Int64) (v1 : Int64) (u0 : Int64) (h0 : Heap) (n0 : Nat) (v : Option Value) (h : Heap) (L : List Loc) : Prop := (∃ z : Int32, v = some (.int z) ∧ (z = (if u0 < v0 then 0 else if u0 < v1 then 1 else 0))) ∧ Fr n0 L ∧ h = h0
set_option maxRecDepth 65536 in
set_option maxHeartbeats 40000000 in
theorem rm_con1 (l : Launch) (Z : State) (a0 : Array Value) (hw : ∀ d ∈ tables_1, d.before a0 Z = true) (ws : List Jvm.Cond) (ra : Addr) (rp : Addr) (ax : Addr) (ka : ClassId) (kq : ClassId) (v0 : Int64) (v1 : Int64) (u0 : Int64) (h0 : Heap) (n0 : Nat) (Z0 : n0 ≤ h0.size) (E_ra : Exa Z h0 ra "com/example/chronotriple/chronotriple/Box") (F_b : Fld Z h0 ra "com/example/chronotriple/chronotriple/Box" "bounds" "[J" (.ref ax)) (Av : Arv Z h0 ax ka .long (2 : Int32) [(.long v0), (.long v1)] (.long (0 : Int64))) (Ap : Arv Z h0 rp kq .long (1 : Int32) [(.long u0)] (.long (0 : Int64))) :
    MetFree l (⟨"com/example/chronotriple/chronotriple/Box", "contains", "([J)Z"⟩ : MethodName) (head1 (Jvm.Cond.code (⟨"com/example/chronotriple/chronotriple/Box", "contains", "([J)Z"⟩ : MethodName) prog_2_method_8_code 3 (some .boolean) :: ws) ({ frames := 1, cells := 0, slots := 0, locals := 15 } : Room)) (fun a U => a = #[(.ref ra), (.ref rp)] ∧ Z.Warmed39 U.vm ∧ U.heap = h0) (fun _ _ _ _ _ => True) (fun _ U o U' => ∃ v L, o = .returned v ∧ Q_con1 Z ra rp ax ka kq v0 v1 u0 h0 n0 v U'.heap L ∧ FrameEnd U o U' L ({ frames := 1, cells := 0, slots := 0, locals := 15 } : Room).cells ({ frames := 1, cells := 0, slots := 0, locals := 15 } : Room).slots) := by
  refine MetFree.of_bodySF (plainFor_of_name pn_1) hisR ?_
  intro p e s m args below meth c s₁ Bd hml0 hP hK
  obtain ⟨rfl, hZ, hh⟩ := hP
  have hx := Bd.exec
  have hby := Bd.bytes
  have hml : c.maxLocals = 3 := hml0
  have hown : s.vm.findClass "com/example/chronotriple/chronotriple/Box" = some m.cls := findClass_of_methodNamed Bd.named
  have hnm := (name_of_methodNamed Bd.named Bd.method).1
  have X0 : Stand p l e ({ frames := 1, cells := 0, slots := 0, locals := 15 } : Room) s m #[(.ref ra), (.ref rp)] below meth c s₁ [] 0 0 := Stand.of_body Bd
  have e0 : s₁.heap = h0 := by rw [← hh, Bd.state]; rfl
  have N0 := Fr.nil n0
  have pre0 : ∀ t, Steps p.tables e below (s₁.setTop (mkF m 0 #[.val (.ref ra), .val (.ref rp), .unset] [])) t → Steps p.tables e below (s₁.setTop (entryFrame m #[(.ref ra), (.ref rp)] 3)) t := fun t k => castTop (ef_con1 m ra rp) k
  obtain ⟨cq43, kq43, q43a, q43b, q43c⟩ := isOf hZ e0 E_ra
  obtain ⟨_, _, ⟨T43, L43, k43, n43⟩, -, X43, ⟨Lc43, hQ43, l43, y43, z43⟩, st43⟩ := X0.virtualBack hx (y := (⟨"com/example/chronotriple/chronotriple/Box", "dimensions", "()I"⟩ : MethodName)) (z := (⟨"com/example/chronotriple/chronotriple/Box", "dimensions", "()I"⟩ : MethodName)) hown (mvT hZ (hw _ (List.mem_of_getElem? (i := 40) rfl))) (mvT hZ (hw _ (List.mem_of_getElem? (i := 41) rfl))) (notFace_of_selects (args := #[]) (mvT hZ (hw _ (List.mem_of_getElem? (i := 43) rfl)))) (mvT hZ (hw _ (List.mem_of_getElem? (i := 43) rfl))) (mvT hZ (hw _ (List.mem_of_getElem? (i := 42) rfl))) (by decide) (backOf (W := 1) (rm_dim l Z a0 hw [] ra ax ka (2 : Int32) [v0, v1] h0 n0 Z0 F_b Av) hZ (hw _ (List.mem_of_getElem? (i := 44) rfl)) (hw _ (List.mem_of_getElem? (i := 16) rfl)) (by decide) (by decide)) q43a q43c (g := (mkF m 4 #[.val (.ref ra), .val (.ref rp), .val (.int (0 : Int32))] [(.ref ra), (.int (0 : Int32))])) rfl (by rw [hml]; rfl) (Steps.refl _) (argsL := []) (rest := [(.int (0 : Int32))]) (lenOf pd_1 rfl) rfl (by show 2 * 0 + _ ≤ _; exact Nat.le_of_eq rfl) (hb hby d_prog_2_method_8_code_4) (fun _ _ => ⟨rfl, e0, (by decide : 0 + 0 ≤ _), (by decide : 0 + 0 ≤ _)⟩)
  dsimp only [Pt.U, Pt.locs, Pt.cells, Pt.slots] at X43 l43 y43 z43 st43 hQ43
  subst l43 y43 z43
  obtain ⟨⟨r43, rfl, hr43⟩, N43q, e43⟩ := hQ43
  have N43 := Fr.app N0 N43q
  obtain rfl : (1 : Int32) = r43 := (hr43.trans (by decide)).symm
  obtain ⟨cl44, Ar44, q44, S44, N44a, H44, G44⟩ := id Ap
  have hin44 : ¬ ((0 : Int32) < 0 ∨ cl44.slots.size ≤ ((0 : Int32)).toNatClampNeg) := inb_of S44 ⟨by decide, by decide⟩
  have hat44 : cl44.slots[((0 : Int32)).toNatClampNeg]? = some (.long u0) := H44.at hin44 rfl
  obtain ⟨cq45, kq45, q45a, q45b, q45c⟩ := isOf hZ e43 E_ra
  obtain ⟨_, _, ⟨T45, L45, k45, n45⟩, -, X45, ⟨Lc45, hQ45, l45, y45, z45⟩, st45⟩ := X43.virtualBack hx (y := (⟨"com/example/chronotriple/chronotriple/Box", "from", "(I)J"⟩ : MethodName)) (z := (⟨"com/example/chronotriple/chronotriple/Box", "from", "(I)J"⟩ : MethodName)) hown (mvT hZ (hw _ (List.mem_of_getElem? (i := 45) rfl))) (mvT hZ (hw _ (List.mem_of_getElem? (i := 46) rfl))) (notFace_of_selects (args := #[]) (mvT hZ (hw _ (List.mem_of_getElem? (i := 48) rfl)))) (mvT hZ (hw _ (List.mem_of_getElem? (i := 48) rfl))) (mvT hZ (hw _ (List.mem_of_getElem? (i := 47) rfl))) (by decide) (backOf (W := 2) (rm_frm l Z a0 hw [] ra (0 : Int32) ax ka (2 : Int32) [v0, v1] h0 n0 Z0 F_b Av (by decide)) hZ (hw _ (List.mem_of_getElem? (i := 49) rfl)) (hw _ (List.mem_of_getElem? (i := 16) rfl)) (by decide) (by decide)) q45a q45c (g := (mkF m 15 #[.val (.ref ra), .val (.ref rp), .val (.int (0 : Int32))] [(.int (0 : Int32)), (.ref ra), (.long u0)])) rfl (by rw [hml]; rfl) (Steps.refl _) (argsL := [(.int (0 : Int32))]) (rest := [(.long u0)]) (lenOf pd_2 rfl) rfl (by show 2 * 0 + _ ≤ _; exact Nat.le_of_eq rfl) (hb hby d_prog_2_method_8_code_15) (fun _ _ => ⟨rfl, e43, (by decide : 0 + 0 ≤ _), (by decide : 0 + 0 ≤ _)⟩)
  dsimp only [Pt.U, Pt.locs, Pt.cells, Pt.slots] at X45 l45 y45 z45 st45 hQ45
  subst l45 y45 z45
  obtain ⟨⟨r45, rfl, hr45⟩, N45q, e45⟩ := hQ45
  have N45 := Fr.app N43 N45q
  obtain rfl : v0 = r45 := (hr45.trans rfl).symm
  by_cases h19_46 : u0 < v0
  · obtain ⟨fs, hr, hrun, hended, hW, hsame⟩ := X45.leave (v := some (.int (0 : Int32))) (fun h => by rw [Bd.returns] at h; cases h)
    refine ⟨_, _, pre0 _ ?_, hrun, hended, _, _, rfl, ?_, ⟨_, rfl⟩, hW, hsame.mono (by decide) (by decide)⟩
    · show Steps p.tables e below (s₁.setTop (mkF m 0 #[.val (.ref ra), .val (.ref rp), .unset] [])) _
      refine XS.iconst X0.here hx rfl (hb hby d_prog_2_method_8_code_0) ?_
      show Steps p.tables e below (s₁.setTop (mkF m 1 #[.val (.ref ra), .val (.ref rp), .unset] [(.int (0 : Int32))])) _
      refine XS.istoreN X0.here hx rfl (hb hby d_prog_2_method_8_code_1) rfl (l' := #[.val (.ref ra), .val (.ref rp), .val (.int (0 : Int32))]) rfl ?_
      show Steps p.tables e below (s₁.setTop (mkF m 2 #[.val (.ref ra), .val (.ref rp), .val (.int (0 : Int32))] [])) _
      refine XS.iloadN X0.here hx rfl (hb hby d_prog_2_method_8_code_2) rfl ?_
      show Steps p.tables e below (s₁.setTop (mkF m 3 #[.val (.ref ra), .val (.ref rp), .val (.int (0 : Int32))] [(.int (0 : Int32))])) _
      refine XS.aloadN X0.here hx rfl (hb hby d_prog_2_method_8_code_3) rfl rfl ?_
      show Steps p.tables e below (s₁.setTop (mkF m 4 #[.val (.ref ra), .val (.ref rp), .val (.int (0 : Int32))] [(.ref ra), (.int (0 : Int32))])) _
      refine st43.trans ?_
      show Steps p.tables e below (T43.setTop (mkF m 7 #[.val (.ref ra), .val (.ref rp), .val (.int (0 : Int32))] [(.int (1 : Int32)), (.int (0 : Int32))])) _
      refine XS.icmpNo X43.here hx rfl (hb hby d_prog_2_method_8_code_7) rfl (tlt (by decide : (0 : Int32) < (1 : Int32))).2.1 ?_
      show Steps p.tables e below (T43.setTop (mkF m 10 #[.val (.ref ra), .val (.ref rp), .val (.int (0 : Int32))] [])) _
      refine XS.aloadN X43.here hx rfl (hb hby d_prog_2_method_8_code_10) rfl rfl ?_
      show Steps p.tables e below (T43.setTop (mkF m 11 #[.val (.ref ra), .val (.ref rp), .val (.int (0 : Int32))] [(.ref rp)])) _
      refine XS.iloadN X43.here hx rfl (hb hby d_prog_2_method_8_code_11) rfl ?_
      show Steps p.tables e below (T43.setTop (mkF m 12 #[.val (.ref ra), .val (.ref rp), .val (.int (0 : Int32))] [(.int (0 : Int32)), (.ref rp)])) _
      refine X43.laload hx (j := (0 : Int32)) (v := (.long u0)) (by rw [e43]; exact Ar44.1) (State.isArrayOf_alike hZ.alike Ar44.2.1) Ar44.2.2 hin44 hat44 (g := (mkF m 12 #[.val (.ref ra), .val (.ref rp), .val (.int (0 : Int32))] [(.int (0 : Int32)), (.ref rp)])) rfl rfl (hb hby d_prog_2_method_8_code_12) _ ?_
      show Steps p.tables e below (T43.setTop (mkF m 13 #[.val (.ref ra), .val (.ref rp), .val (.int (0 : Int32))] [(.long u0)])) _
      refine XS.aloadN X43.here hx rfl (hb hby d_prog_2_method_8_code_13) rfl rfl ?_
      show Steps p.tables e below (T43.setTop (mkF m 14 #[.val (.ref ra), .val (.ref rp), .val (.int (0 : Int32))] [(.ref ra), (.long u0)])) _
      refine XS.iloadN X43.here hx rfl (hb hby d_prog_2_method_8_code_14) rfl ?_
      show Steps p.tables e below (T43.setTop (mkF m 15 #[.val (.ref ra), .val (.ref rp), .val (.int (0 : Int32))] [(.int (0 : Int32)), (.ref ra), (.long u0)])) _
      refine st45.trans ?_
      show Steps p.tables e below (T45.setTop (mkF m 18 #[.val (.ref ra), .val (.ref rp), .val (.int (0 : Int32))] [(.long v0), (.long u0)])) _
      refine XS.lcmp X45.here hx rfl (hb hby d_prog_2_method_8_code_18) rfl ?_
      show Steps p.tables e below (T45.setTop (mkF m 19 #[.val (.ref ra), .val (.ref rp), .val (.int (0 : Int32))] [(.int (lcmpW u0 v0))])) _
      refine XS.ifYes X45.here hx rfl (pc0 := 19) (pc' := 34) rfl (hb hby d_prog_2_method_8_code_19) rfl ((if0 _ _).trans (tlt ((lw_lt _ _).mpr h19_46)).1) (by decide) (by decide) ?_
      show Steps p.tables e below (T45.setTop (mkF m 34 #[.val (.ref ra), .val (.ref rp), .val (.int (0 : Int32))] [])) _
      refine XS.iconst X45.here hx rfl (hb hby d_prog_2_method_8_code_34) ?_
      show Steps p.tables e below (T45.setTop (mkF m 35 #[.val (.ref ra), .val (.ref rp), .val (.int (0 : Int32))] [(.int (0 : Int32))])) _
      exact retN X45 hx (t := .boolean) Bd.returns (by simp) (hb hby d_prog_2_method_8_code_35) hr
    · show Q_con1 Z ra rp ax ka kq v0 v1 u0 h0 n0 _ T45.heap _
      rw [e45]
      exact ⟨⟨_, rfl, by simp [h19_46]⟩, N45, rfl⟩
  · obtain ⟨cl47, Ar47, q47, S47, N47a, H47, G47⟩ := id Ap
    have hin47 : ¬ ((0 : Int32) < 0 ∨ cl47.slots.size ≤ ((0 : Int32)).toNatClampNeg) := inb_of S47 ⟨by decide, by decide⟩
    have hat47 : cl47.slots[((0 : Int32)).toNatClampNeg]? = some (.long u0) := H47.at hin47 rfl
    obtain ⟨cq48, kq48, q48a, q48b, q48c⟩ := isOf hZ e45 E_ra
    obtain ⟨_, _, ⟨T48, L48, k48, n48⟩, -, X48, ⟨Lc48, hQ48, l48, y48, z48⟩, st48⟩ := X45.virtualBack hx (y := (⟨"com/example/chronotriple/chronotriple/Box", "to", "(I)J"⟩ : MethodName)) (z := (⟨"com/example/chronotriple/chronotriple/Box", "to", "(I)J"⟩ : MethodName)) hown (mvT hZ (hw _ (List.mem_of_getElem? (i := 50) rfl))) (mvT hZ (hw _ (List.mem_of_getElem? (i := 51) rfl))) (notFace_of_selects (args := #[]) (mvT hZ (hw _ (List.mem_of_getElem? (i := 53) rfl)))) (mvT hZ (hw _ (List.mem_of_getElem? (i := 53) rfl))) (mvT hZ (hw _ (List.mem_of_getElem? (i := 52) rfl))) (by decide) (backOf (W := 2) (rm_to l Z a0 hw [] ra (0 : Int32) ax ka (2 : Int32) [v0, v1] h0 n0 Z0 F_b Av (by decide)) hZ (hw _ (List.mem_of_getElem? (i := 54) rfl)) (hw _ (List.mem_of_getElem? (i := 16) rfl)) (by decide) (by decide)) q48a q48c (g := (mkF m 27 #[.val (.ref ra), .val (.ref rp), .val (.int (0 : Int32))] [(.int (0 : Int32)), (.ref ra), (.long u0)])) rfl (by rw [hml]; rfl) (Steps.refl _) (argsL := [(.int (0 : Int32))]) (rest := [(.long u0)]) (lenOf pd_2 rfl) rfl (by show 2 * 0 + _ ≤ _; exact Nat.le_of_eq rfl) (hb hby d_prog_2_method_8_code_27) (fun _ _ => ⟨rfl, e45, (by decide : 0 + 0 ≤ _), (by decide : 0 + 0 ≤ _)⟩)
    dsimp only [Pt.U, Pt.locs, Pt.cells, Pt.slots] at X48 l48 y48 z48 st48 hQ48
    subst l48 y48 z48
    obtain ⟨⟨r48, rfl, hr48⟩, N48q, e48⟩ := hQ48
    have N48 := Fr.app N45 N48q
    obtain rfl : v1 = r48 := (hr48.trans rfl).symm
    by_cases h31_49 : u0 < v1
    · obtain ⟨cq50, kq50, q50a, q50b, q50c⟩ := isOf hZ e48 E_ra
      obtain ⟨_, _, ⟨T50, L50, k50, n50⟩, -, X50, ⟨Lc50, hQ50, l50, y50, z50⟩, st50⟩ := X48.virtualBack hx (y := (⟨"com/example/chronotriple/chronotriple/Box", "dimensions", "()I"⟩ : MethodName)) (z := (⟨"com/example/chronotriple/chronotriple/Box", "dimensions", "()I"⟩ : MethodName)) hown (mvT hZ (hw _ (List.mem_of_getElem? (i := 40) rfl))) (mvT hZ (hw _ (List.mem_of_getElem? (i := 41) rfl))) (notFace_of_selects (args := #[]) (mvT hZ (hw _ (List.mem_of_getElem? (i := 43) rfl)))) (mvT hZ (hw _ (List.mem_of_getElem? (i := 43) rfl))) (mvT hZ (hw _ (List.mem_of_getElem? (i := 42) rfl))) (by decide) (backOf (W := 1) (rm_dim l Z a0 hw [] ra ax ka (2 : Int32) [v0, v1] h0 n0 Z0 F_b Av) hZ (hw _ (List.mem_of_getElem? (i := 44) rfl)) (hw _ (List.mem_of_getElem? (i := 16) rfl)) (by decide) (by decide)) q50a q50c (g := (mkF m 4 #[.val (.ref ra), .val (.ref rp), .val (.int (1 : Int32))] [(.ref ra), (.int (1 : Int32))])) rfl (by rw [hml]; rfl) (Steps.refl _) (argsL := []) (rest := [(.int (1 : Int32))]) (lenOf pd_1 rfl) rfl (by show 2 * 0 + _ ≤ _; exact Nat.le_of_eq rfl) (hb hby d_prog_2_method_8_code_4) (fun _ _ => ⟨rfl, e48, (by decide : 0 + 0 ≤ _), (by decide : 0 + 0 ≤ _)⟩)
      dsimp only [Pt.U, Pt.locs, Pt.cells, Pt.slots] at X50 l50 y50 z50 st50 hQ50
      subst l50 y50 z50
      obtain ⟨⟨r50, rfl, hr50⟩, N50q, e50⟩ := hQ50
      have N50 := Fr.app N48 N50q
      obtain rfl : (1 : Int32) = r50 := (hr50.trans (by decide)).symm
      obtain ⟨fs, hr, hrun, hended, hW, hsame⟩ := X50.leave (v := some (.int (1 : Int32))) (fun h => by rw [Bd.returns] at h; cases h)
      refine ⟨_, _, pre0 _ ?_, hrun, hended, _, _, rfl, ?_, ⟨_, rfl⟩, hW, hsame.mono (by decide) (by decide)⟩
      · show Steps p.tables e below (s₁.setTop (mkF m 0 #[.val (.ref ra), .val (.ref rp), .unset] [])) _
        refine XS.iconst X0.here hx rfl (hb hby d_prog_2_method_8_code_0) ?_
        show Steps p.tables e below (s₁.setTop (mkF m 1 #[.val (.ref ra), .val (.ref rp), .unset] [(.int (0 : Int32))])) _
        refine XS.istoreN X0.here hx rfl (hb hby d_prog_2_method_8_code_1) rfl (l' := #[.val (.ref ra), .val (.ref rp), .val (.int (0 : Int32))]) rfl ?_
        show Steps p.tables e below (s₁.setTop (mkF m 2 #[.val (.ref ra), .val (.ref rp), .val (.int (0 : Int32))] [])) _
        refine XS.iloadN X0.here hx rfl (hb hby d_prog_2_method_8_code_2) rfl ?_
        show Steps p.tables e below (s₁.setTop (mkF m 3 #[.val (.ref ra), .val (.ref rp), .val (.int (0 : Int32))] [(.int (0 : Int32))])) _
        refine XS.aloadN X0.here hx rfl (hb hby d_prog_2_method_8_code_3) rfl rfl ?_
        show Steps p.tables e below (s₁.setTop (mkF m 4 #[.val (.ref ra), .val (.ref rp), .val (.int (0 : Int32))] [(.ref ra), (.int (0 : Int32))])) _
        refine st43.trans ?_
        show Steps p.tables e below (T43.setTop (mkF m 7 #[.val (.ref ra), .val (.ref rp), .val (.int (0 : Int32))] [(.int (1 : Int32)), (.int (0 : Int32))])) _
        refine XS.icmpNo X43.here hx rfl (hb hby d_prog_2_method_8_code_7) rfl (tlt (by decide : (0 : Int32) < (1 : Int32))).2.1 ?_
        show Steps p.tables e below (T43.setTop (mkF m 10 #[.val (.ref ra), .val (.ref rp), .val (.int (0 : Int32))] [])) _
        refine XS.aloadN X43.here hx rfl (hb hby d_prog_2_method_8_code_10) rfl rfl ?_
        show Steps p.tables e below (T43.setTop (mkF m 11 #[.val (.ref ra), .val (.ref rp), .val (.int (0 : Int32))] [(.ref rp)])) _
        refine XS.iloadN X43.here hx rfl (hb hby d_prog_2_method_8_code_11) rfl ?_
        show Steps p.tables e below (T43.setTop (mkF m 12 #[.val (.ref ra), .val (.ref rp), .val (.int (0 : Int32))] [(.int (0 : Int32)), (.ref rp)])) _
        refine X43.laload hx (j := (0 : Int32)) (v := (.long u0)) (by rw [e43]; exact Ar44.1) (State.isArrayOf_alike hZ.alike Ar44.2.1) Ar44.2.2 hin44 hat44 (g := (mkF m 12 #[.val (.ref ra), .val (.ref rp), .val (.int (0 : Int32))] [(.int (0 : Int32)), (.ref rp)])) rfl rfl (hb hby d_prog_2_method_8_code_12) _ ?_
        show Steps p.tables e below (T43.setTop (mkF m 13 #[.val (.ref ra), .val (.ref rp), .val (.int (0 : Int32))] [(.long u0)])) _
        refine XS.aloadN X43.here hx rfl (hb hby d_prog_2_method_8_code_13) rfl rfl ?_
        show Steps p.tables e below (T43.setTop (mkF m 14 #[.val (.ref ra), .val (.ref rp), .val (.int (0 : Int32))] [(.ref ra), (.long u0)])) _
        refine XS.iloadN X43.here hx rfl (hb hby d_prog_2_method_8_code_14) rfl ?_
        show Steps p.tables e below (T43.setTop (mkF m 15 #[.val (.ref ra), .val (.ref rp), .val (.int (0 : Int32))] [(.int (0 : Int32)), (.ref ra), (.long u0)])) _
        refine st45.trans ?_
        show Steps p.tables e below (T45.setTop (mkF m 18 #[.val (.ref ra), .val (.ref rp), .val (.int (0 : Int32))] [(.long v0), (.long u0)])) _
        refine XS.lcmp X45.here hx rfl (hb hby d_prog_2_method_8_code_18) rfl ?_
        show Steps p.tables e below (T45.setTop (mkF m 19 #[.val (.ref ra), .val (.ref rp), .val (.int (0 : Int32))] [(.int (lcmpW u0 v0))])) _
        refine XS.ifNo X45.here hx rfl (hb hby d_prog_2_method_8_code_19) rfl ((if0 _ _).trans (flt (fun q => h19_46 ((lw_lt _ _).mp q))).1) ?_
        show Steps p.tables e below (T45.setTop (mkF m 22 #[.val (.ref ra), .val (.ref rp), .val (.int (0 : Int32))] [])) _
        refine XS.aloadN X45.here hx rfl (hb hby d_prog_2_method_8_code_22) rfl rfl ?_
        show Steps p.tables e below (T45.setTop (mkF m 23 #[.val (.ref ra), .val (.ref rp), .val (.int (0 : Int32))] [(.ref rp)])) _
        refine XS.iloadN X45.here hx rfl (hb hby d_prog_2_method_8_code_23) rfl ?_
        show Steps p.tables e below (T45.setTop (mkF m 24 #[.val (.ref ra), .val (.ref rp), .val (.int (0 : Int32))] [(.int (0 : Int32)), (.ref rp)])) _
        refine X45.laload hx (j := (0 : Int32)) (v := (.long u0)) (by rw [e45]; exact Ar47.1) (State.isArrayOf_alike hZ.alike Ar47.2.1) Ar47.2.2 hin47 hat47 (g := (mkF m 24 #[.val (.ref ra), .val (.ref rp), .val (.int (0 : Int32))] [(.int (0 : Int32)), (.ref rp)])) rfl rfl (hb hby d_prog_2_method_8_code_24) _ ?_
        show Steps p.tables e below (T45.setTop (mkF m 25 #[.val (.ref ra), .val (.ref rp), .val (.int (0 : Int32))] [(.long u0)])) _
        refine XS.aloadN X45.here hx rfl (hb hby d_prog_2_method_8_code_25) rfl rfl ?_
        show Steps p.tables e below (T45.setTop (mkF m 26 #[.val (.ref ra), .val (.ref rp), .val (.int (0 : Int32))] [(.ref ra), (.long u0)])) _
        refine XS.iloadN X45.here hx rfl (hb hby d_prog_2_method_8_code_26) rfl ?_
        show Steps p.tables e below (T45.setTop (mkF m 27 #[.val (.ref ra), .val (.ref rp), .val (.int (0 : Int32))] [(.int (0 : Int32)), (.ref ra), (.long u0)])) _
        refine st48.trans ?_
        show Steps p.tables e below (T48.setTop (mkF m 30 #[.val (.ref ra), .val (.ref rp), .val (.int (0 : Int32))] [(.long v1), (.long u0)])) _
        refine XS.lcmp X48.here hx rfl (hb hby d_prog_2_method_8_code_30) rfl ?_
        show Steps p.tables e below (T48.setTop (mkF m 31 #[.val (.ref ra), .val (.ref rp), .val (.int (0 : Int32))] [(.int (lcmpW u0 v1))])) _
        refine XS.ifYes X48.here hx rfl (pc0 := 31) (pc' := 36) rfl (hb hby d_prog_2_method_8_code_31) rfl ((if0 _ _).trans (tlt ((lw_lt _ _).mpr h31_49)).1) (by decide) (by decide) ?_
        show Steps p.tables e below (T48.setTop (mkF m 36 #[.val (.ref ra), .val (.ref rp), .val (.int (0 : Int32))] [])) _
        refine XS.iinc X48.here hx rfl (hb hby d_prog_2_method_8_code_36) rfl (l' := #[.val (.ref ra), .val (.ref rp), .val (.int (1 : Int32))]) rfl ?_
        show Steps p.tables e below (T48.setTop (mkF m 39 #[.val (.ref ra), .val (.ref rp), .val (.int (1 : Int32))] [])) _
        refine XS.goto X48.here hx rfl (pc0 := 39) (pc' := 2) rfl (hb hby d_prog_2_method_8_code_39) (by decide) (by decide) ?_
        show Steps p.tables e below (T48.setTop (mkF m 2 #[.val (.ref ra), .val (.ref rp), .val (.int (1 : Int32))] [])) _
        refine XS.iloadN X48.here hx rfl (hb hby d_prog_2_method_8_code_2) rfl ?_
        show Steps p.tables e below (T48.setTop (mkF m 3 #[.val (.ref ra), .val (.ref rp), .val (.int (1 : Int32))] [(.int (1 : Int32))])) _
        refine XS.aloadN X48.here hx rfl (hb hby d_prog_2_method_8_code_3) rfl rfl ?_
        show Steps p.tables e below (T48.setTop (mkF m 4 #[.val (.ref ra), .val (.ref rp), .val (.int (1 : Int32))] [(.ref ra), (.int (1 : Int32))])) _
        refine st50.trans ?_
        show Steps p.tables e below (T50.setTop (mkF m 7 #[.val (.ref ra), .val (.ref rp), .val (.int (1 : Int32))] [(.int (1 : Int32)), (.int (1 : Int32))])) _
        refine XS.icmpYes X50.here hx rfl (pc0 := 7) (pc' := 42) rfl (hb hby d_prog_2_method_8_code_7) rfl (flt (by decide : ¬ ((1 : Int32) < (1 : Int32)))).2.1 (by decide) (by decide) ?_
        show Steps p.tables e below (T50.setTop (mkF m 42 #[.val (.ref ra), .val (.ref rp), .val (.int (1 : Int32))] [])) _
        refine XS.iconst X50.here hx rfl (hb hby d_prog_2_method_8_code_42) ?_
        show Steps p.tables e below (T50.setTop (mkF m 43 #[.val (.ref ra), .val (.ref rp), .val (.int (1 : Int32))] [(.int (1 : Int32))])) _
        exact retN X50 hx (t := .boolean) Bd.returns (by simp) (hb hby d_prog_2_method_8_code_43) hr
      · show Q_con1 Z ra rp ax ka kq v0 v1 u0 h0 n0 _ T50.heap _
        rw [e50]
        exact ⟨⟨_, rfl, by simp [h19_46, h31_49]⟩, N50, rfl⟩
    · obtain ⟨fs, hr, hrun, hended, hW, hsame⟩ := X48.leave (v := some (.int (0 : Int32))) (fun h => by rw [Bd.returns] at h; cases h)
      refine ⟨_, _, pre0 _ ?_, hrun, hended, _, _, rfl, ?_, ⟨_, rfl⟩, hW, hsame.mono (by decide) (by decide)⟩
      · show Steps p.tables e below (s₁.setTop (mkF m 0 #[.val (.ref ra), .val (.ref rp), .unset] [])) _
        refine XS.iconst X0.here hx rfl (hb hby d_prog_2_method_8_code_0) ?_
        show Steps p.tables e below (s₁.setTop (mkF m 1 #[.val (.ref ra), .val (.ref rp), .unset] [(.int (0 : Int32))])) _
        refine XS.istoreN X0.here hx rfl (hb hby d_prog_2_method_8_code_1) rfl (l' := #[.val (.ref ra), .val (.ref rp), .val (.int (0 : Int32))]) rfl ?_
        show Steps p.tables e below (s₁.setTop (mkF m 2 #[.val (.ref ra), .val (.ref rp), .val (.int (0 : Int32))] [])) _
        refine XS.iloadN X0.here hx rfl (hb hby d_prog_2_method_8_code_2) rfl ?_
        show Steps p.tables e below (s₁.setTop (mkF m 3 #[.val (.ref ra), .val (.ref rp), .val (.int (0 : Int32))] [(.int (0 : Int32))])) _
        refine XS.aloadN X0.here hx rfl (hb hby d_prog_2_method_8_code_3) rfl rfl ?_
        show Steps p.tables e below (s₁.setTop (mkF m 4 #[.val (.ref ra), .val (.ref rp), .val (.int (0 : Int32))] [(.ref ra), (.int (0 : Int32))])) _
        refine st43.trans ?_
        show Steps p.tables e below (T43.setTop (mkF m 7 #[.val (.ref ra), .val (.ref rp), .val (.int (0 : Int32))] [(.int (1 : Int32)), (.int (0 : Int32))])) _
        refine XS.icmpNo X43.here hx rfl (hb hby d_prog_2_method_8_code_7) rfl (tlt (by decide : (0 : Int32) < (1 : Int32))).2.1 ?_
        show Steps p.tables e below (T43.setTop (mkF m 10 #[.val (.ref ra), .val (.ref rp), .val (.int (0 : Int32))] [])) _
        refine XS.aloadN X43.here hx rfl (hb hby d_prog_2_method_8_code_10) rfl rfl ?_
        show Steps p.tables e below (T43.setTop (mkF m 11 #[.val (.ref ra), .val (.ref rp), .val (.int (0 : Int32))] [(.ref rp)])) _
        refine XS.iloadN X43.here hx rfl (hb hby d_prog_2_method_8_code_11) rfl ?_
        show Steps p.tables e below (T43.setTop (mkF m 12 #[.val (.ref ra), .val (.ref rp), .val (.int (0 : Int32))] [(.int (0 : Int32)), (.ref rp)])) _
        refine X43.laload hx (j := (0 : Int32)) (v := (.long u0)) (by rw [e43]; exact Ar44.1) (State.isArrayOf_alike hZ.alike Ar44.2.1) Ar44.2.2 hin44 hat44 (g := (mkF m 12 #[.val (.ref ra), .val (.ref rp), .val (.int (0 : Int32))] [(.int (0 : Int32)), (.ref rp)])) rfl rfl (hb hby d_prog_2_method_8_code_12) _ ?_
        show Steps p.tables e below (T43.setTop (mkF m 13 #[.val (.ref ra), .val (.ref rp), .val (.int (0 : Int32))] [(.long u0)])) _
        refine XS.aloadN X43.here hx rfl (hb hby d_prog_2_method_8_code_13) rfl rfl ?_
        show Steps p.tables e below (T43.setTop (mkF m 14 #[.val (.ref ra), .val (.ref rp), .val (.int (0 : Int32))] [(.ref ra), (.long u0)])) _
        refine XS.iloadN X43.here hx rfl (hb hby d_prog_2_method_8_code_14) rfl ?_
        show Steps p.tables e below (T43.setTop (mkF m 15 #[.val (.ref ra), .val (.ref rp), .val (.int (0 : Int32))] [(.int (0 : Int32)), (.ref ra), (.long u0)])) _
        refine st45.trans ?_
        show Steps p.tables e below (T45.setTop (mkF m 18 #[.val (.ref ra), .val (.ref rp), .val (.int (0 : Int32))] [(.long v0), (.long u0)])) _
        refine XS.lcmp X45.here hx rfl (hb hby d_prog_2_method_8_code_18) rfl ?_
        show Steps p.tables e below (T45.setTop (mkF m 19 #[.val (.ref ra), .val (.ref rp), .val (.int (0 : Int32))] [(.int (lcmpW u0 v0))])) _
        refine XS.ifNo X45.here hx rfl (hb hby d_prog_2_method_8_code_19) rfl ((if0 _ _).trans (flt (fun q => h19_46 ((lw_lt _ _).mp q))).1) ?_
        show Steps p.tables e below (T45.setTop (mkF m 22 #[.val (.ref ra), .val (.ref rp), .val (.int (0 : Int32))] [])) _
        refine XS.aloadN X45.here hx rfl (hb hby d_prog_2_method_8_code_22) rfl rfl ?_
        show Steps p.tables e below (T45.setTop (mkF m 23 #[.val (.ref ra), .val (.ref rp), .val (.int (0 : Int32))] [(.ref rp)])) _
        refine XS.iloadN X45.here hx rfl (hb hby d_prog_2_method_8_code_23) rfl ?_
        show Steps p.tables e below (T45.setTop (mkF m 24 #[.val (.ref ra), .val (.ref rp), .val (.int (0 : Int32))] [(.int (0 : Int32)), (.ref rp)])) _
        refine X45.laload hx (j := (0 : Int32)) (v := (.long u0)) (by rw [e45]; exact Ar47.1) (State.isArrayOf_alike hZ.alike Ar47.2.1) Ar47.2.2 hin47 hat47 (g := (mkF m 24 #[.val (.ref ra), .val (.ref rp), .val (.int (0 : Int32))] [(.int (0 : Int32)), (.ref rp)])) rfl rfl (hb hby d_prog_2_method_8_code_24) _ ?_
        show Steps p.tables e below (T45.setTop (mkF m 25 #[.val (.ref ra), .val (.ref rp), .val (.int (0 : Int32))] [(.long u0)])) _
        refine XS.aloadN X45.here hx rfl (hb hby d_prog_2_method_8_code_25) rfl rfl ?_
        show Steps p.tables e below (T45.setTop (mkF m 26 #[.val (.ref ra), .val (.ref rp), .val (.int (0 : Int32))] [(.ref ra), (.long u0)])) _
        refine XS.iloadN X45.here hx rfl (hb hby d_prog_2_method_8_code_26) rfl ?_
        show Steps p.tables e below (T45.setTop (mkF m 27 #[.val (.ref ra), .val (.ref rp), .val (.int (0 : Int32))] [(.int (0 : Int32)), (.ref ra), (.long u0)])) _
        refine st48.trans ?_
        show Steps p.tables e below (T48.setTop (mkF m 30 #[.val (.ref ra), .val (.ref rp), .val (.int (0 : Int32))] [(.long v1), (.long u0)])) _
        refine XS.lcmp X48.here hx rfl (hb hby d_prog_2_method_8_code_30) rfl ?_
        show Steps p.tables e below (T48.setTop (mkF m 31 #[.val (.ref ra), .val (.ref rp), .val (.int (0 : Int32))] [(.int (lcmpW u0 v1))])) _
        refine XS.ifNo X48.here hx rfl (hb hby d_prog_2_method_8_code_31) rfl ((if0 _ _).trans (flt (fun q => h31_49 ((lw_lt _ _).mp q))).1) ?_
        show Steps p.tables e below (T48.setTop (mkF m 34 #[.val (.ref ra), .val (.ref rp), .val (.int (0 : Int32))] [])) _
        refine XS.iconst X48.here hx rfl (hb hby d_prog_2_method_8_code_34) ?_
        show Steps p.tables e below (T48.setTop (mkF m 35 #[.val (.ref ra), .val (.ref rp), .val (.int (0 : Int32))] [(.int (0 : Int32))])) _
        exact retN X48 hx (t := .boolean) Bd.returns (by simp) (hb hby d_prog_2_method_8_code_35) hr
      · show Q_con1 Z ra rp ax ka kq v0 v1 u0 h0 n0 _ T48.heap _
        rw [e48]
        exact ⟨⟨_, rfl, by simp [h19_46, h31_49]⟩, N48, rfl⟩
theorem ef_con2 (m : MethodId) (ra : Addr) (rp : Addr) : entryFrame m #[(.ref ra), (.ref rp)] 3 = mkF m 0 #[.val (.ref ra), .val (.ref rp), .unset] [] := by first | (simp [entryFrame, mkF, argsToLocals, Value.category]; done) | rfl
def Q_con2 (Z : State) (ra : Addr) (rp : Addr) (ax : Addr) (ka : ClassId) (kq : ClassId) (v0 : Int64) (v1 : Int64) (v2 : Int64) (v3 : Int64) (u0 : Int64) (u1 : Int64) (h0 : Heap) (n0 : Nat) (v : Option Value) (h : Heap) (L : List Loc) : Prop := (∃ z : Int32, v = some (.int z) ∧ (z = (if u0 < v0 then 0 else if u0 < v1 then (if u1 < v2 then 0 else if u1 < v3 then 1 else 0) else 0))) ∧ Fr n0 L ∧ h = h0
set_option maxRecDepth 65536 in
set_option maxHeartbeats 40000000 in
theorem rm_con2 (l : Launch) (Z : State) (a0 : Array Value) (hw : ∀ d ∈ tables_1, d.before a0 Z = true) (ws : List Jvm.Cond) (ra : Addr) (rp : Addr) (ax : Addr) (ka : ClassId) (kq : ClassId) (v0 : Int64) (v1 : Int64) (v2 : Int64) (v3 : Int64) (u0 : Int64) (u1 : Int64) (h0 : Heap) (n0 : Nat) (Z0 : n0 ≤ h0.size) (E_ra : Exa Z h0 ra "com/example/chronotriple/chronotriple/Box") (F_b : Fld Z h0 ra "com/example/chronotriple/chronotriple/Box" "bounds" "[J" (.ref ax)) (Av : Arv Z h0 ax ka .long (4 : Int32) [(.long v0), (.long v1), (.long v2), (.long v3)] (.long (0 : Int64))) (Ap : Arv Z h0 rp kq .long (2 : Int32) [(.long u0), (.long u1)] (.long (0 : Int64))) :
    MetFree l (⟨"com/example/chronotriple/chronotriple/Box", "contains", "([J)Z"⟩ : MethodName) (head1 (Jvm.Cond.code (⟨"com/example/chronotriple/chronotriple/Box", "contains", "([J)Z"⟩ : MethodName) prog_2_method_8_code 3 (some .boolean) :: ws) ({ frames := 1, cells := 0, slots := 0, locals := 15 } : Room)) (fun a U => a = #[(.ref ra), (.ref rp)] ∧ Z.Warmed39 U.vm ∧ U.heap = h0) (fun _ _ _ _ _ => True) (fun _ U o U' => ∃ v L, o = .returned v ∧ Q_con2 Z ra rp ax ka kq v0 v1 v2 v3 u0 u1 h0 n0 v U'.heap L ∧ FrameEnd U o U' L ({ frames := 1, cells := 0, slots := 0, locals := 15 } : Room).cells ({ frames := 1, cells := 0, slots := 0, locals := 15 } : Room).slots) := by
  refine MetFree.of_bodySF (plainFor_of_name pn_1) hisR ?_
  intro p e s m args below meth c s₁ Bd hml0 hP hK
  obtain ⟨rfl, hZ, hh⟩ := hP
  have hx := Bd.exec
  have hby := Bd.bytes
  have hml : c.maxLocals = 3 := hml0
  have hown : s.vm.findClass "com/example/chronotriple/chronotriple/Box" = some m.cls := findClass_of_methodNamed Bd.named
  have hnm := (name_of_methodNamed Bd.named Bd.method).1
  have X0 : Stand p l e ({ frames := 1, cells := 0, slots := 0, locals := 15 } : Room) s m #[(.ref ra), (.ref rp)] below meth c s₁ [] 0 0 := Stand.of_body Bd
  have e0 : s₁.heap = h0 := by rw [← hh, Bd.state]; rfl
  have N0 := Fr.nil n0
  have pre0 : ∀ t, Steps p.tables e below (s₁.setTop (mkF m 0 #[.val (.ref ra), .val (.ref rp), .unset] [])) t → Steps p.tables e below (s₁.setTop (entryFrame m #[(.ref ra), (.ref rp)] 3)) t := fun t k => castTop (ef_con2 m ra rp) k
  obtain ⟨cq51, kq51, q51a, q51b, q51c⟩ := isOf hZ e0 E_ra
  obtain ⟨_, _, ⟨T51, L51, k51, n51⟩, -, X51, ⟨Lc51, hQ51, l51, y51, z51⟩, st51⟩ := X0.virtualBack hx (y := (⟨"com/example/chronotriple/chronotriple/Box", "dimensions", "()I"⟩ : MethodName)) (z := (⟨"com/example/chronotriple/chronotriple/Box", "dimensions", "()I"⟩ : MethodName)) hown (mvT hZ (hw _ (List.mem_of_getElem? (i := 40) rfl))) (mvT hZ (hw _ (List.mem_of_getElem? (i := 41) rfl))) (notFace_of_selects (args := #[]) (mvT hZ (hw _ (List.mem_of_getElem? (i := 43) rfl)))) (mvT hZ (hw _ (List.mem_of_getElem? (i := 43) rfl))) (mvT hZ (hw _ (List.mem_of_getElem? (i := 42) rfl))) (by decide) (backOf (W := 1) (rm_dim l Z a0 hw [] ra ax ka (4 : Int32) [v0, v1, v2, v3] h0 n0 Z0 F_b Av) hZ (hw _ (List.mem_of_getElem? (i := 44) rfl)) (hw _ (List.mem_of_getElem? (i := 16) rfl)) (by decide) (by decide)) q51a q51c (g := (mkF m 4 #[.val (.ref ra), .val (.ref rp), .val (.int (0 : Int32))] [(.ref ra), (.int (0 : Int32))])) rfl (by rw [hml]; rfl) (Steps.refl _) (argsL := []) (rest := [(.int (0 : Int32))]) (lenOf pd_1 rfl) rfl (by show 2 * 0 + _ ≤ _; exact Nat.le_of_eq rfl) (hb hby d_prog_2_method_8_code_4) (fun _ _ => ⟨rfl, e0, (by decide : 0 + 0 ≤ _), (by decide : 0 + 0 ≤ _)⟩)
  dsimp only [Pt.U, Pt.locs, Pt.cells, Pt.slots] at X51 l51 y51 z51 st51 hQ51
  subst l51 y51 z51
  obtain ⟨⟨r51, rfl, hr51⟩, N51q, e51⟩ := hQ51
  have N51 := Fr.app N0 N51q
  obtain rfl : (2 : Int32) = r51 := (hr51.trans (by decide)).symm
  obtain ⟨cl52, Ar52, q52, S52, N52a, H52, G52⟩ := id Ap
  have hin52 : ¬ ((0 : Int32) < 0 ∨ cl52.slots.size ≤ ((0 : Int32)).toNatClampNeg) := inb_of S52 ⟨by decide, by decide⟩
  have hat52 : cl52.slots[((0 : Int32)).toNatClampNeg]? = some (.long u0) := H52.at hin52 rfl
  obtain ⟨cq53, kq53, q53a, q53b, q53c⟩ := isOf hZ e51 E_ra
  obtain ⟨_, _, ⟨T53, L53, k53, n53⟩, -, X53, ⟨Lc53, hQ53, l53, y53, z53⟩, st53⟩ := X51.virtualBack hx (y := (⟨"com/example/chronotriple/chronotriple/Box", "from", "(I)J"⟩ : MethodName)) (z := (⟨"com/example/chronotriple/chronotriple/Box", "from", "(I)J"⟩ : MethodName)) hown (mvT hZ (hw _ (List.mem_of_getElem? (i := 45) rfl))) (mvT hZ (hw _ (List.mem_of_getElem? (i := 46) rfl))) (notFace_of_selects (args := #[]) (mvT hZ (hw _ (List.mem_of_getElem? (i := 48) rfl)))) (mvT hZ (hw _ (List.mem_of_getElem? (i := 48) rfl))) (mvT hZ (hw _ (List.mem_of_getElem? (i := 47) rfl))) (by decide) (backOf (W := 2) (rm_frm l Z a0 hw [] ra (0 : Int32) ax ka (4 : Int32) [v0, v1, v2, v3] h0 n0 Z0 F_b Av (by decide)) hZ (hw _ (List.mem_of_getElem? (i := 49) rfl)) (hw _ (List.mem_of_getElem? (i := 16) rfl)) (by decide) (by decide)) q53a q53c (g := (mkF m 15 #[.val (.ref ra), .val (.ref rp), .val (.int (0 : Int32))] [(.int (0 : Int32)), (.ref ra), (.long u0)])) rfl (by rw [hml]; rfl) (Steps.refl _) (argsL := [(.int (0 : Int32))]) (rest := [(.long u0)]) (lenOf pd_2 rfl) rfl (by show 2 * 0 + _ ≤ _; exact Nat.le_of_eq rfl) (hb hby d_prog_2_method_8_code_15) (fun _ _ => ⟨rfl, e51, (by decide : 0 + 0 ≤ _), (by decide : 0 + 0 ≤ _)⟩)
  dsimp only [Pt.U, Pt.locs, Pt.cells, Pt.slots] at X53 l53 y53 z53 st53 hQ53
  subst l53 y53 z53
  obtain ⟨⟨r53, rfl, hr53⟩, N53q, e53⟩ := hQ53
  have N53 := Fr.app N51 N53q
  obtain rfl : v0 = r53 := (hr53.trans rfl).symm
  by_cases h19_54 : u0 < v0
  · obtain ⟨fs, hr, hrun, hended, hW, hsame⟩ := X53.leave (v := some (.int (0 : Int32))) (fun h => by rw [Bd.returns] at h; cases h)
    refine ⟨_, _, pre0 _ ?_, hrun, hended, _, _, rfl, ?_, ⟨_, rfl⟩, hW, hsame.mono (by decide) (by decide)⟩
    · show Steps p.tables e below (s₁.setTop (mkF m 0 #[.val (.ref ra), .val (.ref rp), .unset] [])) _
      refine XS.iconst X0.here hx rfl (hb hby d_prog_2_method_8_code_0) ?_
      show Steps p.tables e below (s₁.setTop (mkF m 1 #[.val (.ref ra), .val (.ref rp), .unset] [(.int (0 : Int32))])) _
      refine XS.istoreN X0.here hx rfl (hb hby d_prog_2_method_8_code_1) rfl (l' := #[.val (.ref ra), .val (.ref rp), .val (.int (0 : Int32))]) rfl ?_
      show Steps p.tables e below (s₁.setTop (mkF m 2 #[.val (.ref ra), .val (.ref rp), .val (.int (0 : Int32))] [])) _
      refine XS.iloadN X0.here hx rfl (hb hby d_prog_2_method_8_code_2) rfl ?_
      show Steps p.tables e below (s₁.setTop (mkF m 3 #[.val (.ref ra), .val (.ref rp), .val (.int (0 : Int32))] [(.int (0 : Int32))])) _
      refine XS.aloadN X0.here hx rfl (hb hby d_prog_2_method_8_code_3) rfl rfl ?_
      show Steps p.tables e below (s₁.setTop (mkF m 4 #[.val (.ref ra), .val (.ref rp), .val (.int (0 : Int32))] [(.ref ra), (.int (0 : Int32))])) _
      refine st51.trans ?_
      show Steps p.tables e below (T51.setTop (mkF m 7 #[.val (.ref ra), .val (.ref rp), .val (.int (0 : Int32))] [(.int (2 : Int32)), (.int (0 : Int32))])) _
      refine XS.icmpNo X51.here hx rfl (hb hby d_prog_2_method_8_code_7) rfl (tlt (by decide : (0 : Int32) < (2 : Int32))).2.1 ?_
      show Steps p.tables e below (T51.setTop (mkF m 10 #[.val (.ref ra), .val (.ref rp), .val (.int (0 : Int32))] [])) _
      refine XS.aloadN X51.here hx rfl (hb hby d_prog_2_method_8_code_10) rfl rfl ?_
      show Steps p.tables e below (T51.setTop (mkF m 11 #[.val (.ref ra), .val (.ref rp), .val (.int (0 : Int32))] [(.ref rp)])) _
      refine XS.iloadN X51.here hx rfl (hb hby d_prog_2_method_8_code_11) rfl ?_
      show Steps p.tables e below (T51.setTop (mkF m 12 #[.val (.ref ra), .val (.ref rp), .val (.int (0 : Int32))] [(.int (0 : Int32)), (.ref rp)])) _
      refine X51.laload hx (j := (0 : Int32)) (v := (.long u0)) (by rw [e51]; exact Ar52.1) (State.isArrayOf_alike hZ.alike Ar52.2.1) Ar52.2.2 hin52 hat52 (g := (mkF m 12 #[.val (.ref ra), .val (.ref rp), .val (.int (0 : Int32))] [(.int (0 : Int32)), (.ref rp)])) rfl rfl (hb hby d_prog_2_method_8_code_12) _ ?_
      show Steps p.tables e below (T51.setTop (mkF m 13 #[.val (.ref ra), .val (.ref rp), .val (.int (0 : Int32))] [(.long u0)])) _
      refine XS.aloadN X51.here hx rfl (hb hby d_prog_2_method_8_code_13) rfl rfl ?_
      show Steps p.tables e below (T51.setTop (mkF m 14 #[.val (.ref ra), .val (.ref rp), .val (.int (0 : Int32))] [(.ref ra), (.long u0)])) _
      refine XS.iloadN X51.here hx rfl (hb hby d_prog_2_method_8_code_14) rfl ?_
      show Steps p.tables e below (T51.setTop (mkF m 15 #[.val (.ref ra), .val (.ref rp), .val (.int (0 : Int32))] [(.int (0 : Int32)), (.ref ra), (.long u0)])) _
      refine st53.trans ?_
      show Steps p.tables e below (T53.setTop (mkF m 18 #[.val (.ref ra), .val (.ref rp), .val (.int (0 : Int32))] [(.long v0), (.long u0)])) _
      refine XS.lcmp X53.here hx rfl (hb hby d_prog_2_method_8_code_18) rfl ?_
      show Steps p.tables e below (T53.setTop (mkF m 19 #[.val (.ref ra), .val (.ref rp), .val (.int (0 : Int32))] [(.int (lcmpW u0 v0))])) _
      refine XS.ifYes X53.here hx rfl (pc0 := 19) (pc' := 34) rfl (hb hby d_prog_2_method_8_code_19) rfl ((if0 _ _).trans (tlt ((lw_lt _ _).mpr h19_54)).1) (by decide) (by decide) ?_
      show Steps p.tables e below (T53.setTop (mkF m 34 #[.val (.ref ra), .val (.ref rp), .val (.int (0 : Int32))] [])) _
      refine XS.iconst X53.here hx rfl (hb hby d_prog_2_method_8_code_34) ?_
      show Steps p.tables e below (T53.setTop (mkF m 35 #[.val (.ref ra), .val (.ref rp), .val (.int (0 : Int32))] [(.int (0 : Int32))])) _
      exact retN X53 hx (t := .boolean) Bd.returns (by simp) (hb hby d_prog_2_method_8_code_35) hr
    · show Q_con2 Z ra rp ax ka kq v0 v1 v2 v3 u0 u1 h0 n0 _ T53.heap _
      rw [e53]
      exact ⟨⟨_, rfl, by simp [h19_54]⟩, N53, rfl⟩
  · obtain ⟨cl55, Ar55, q55, S55, N55a, H55, G55⟩ := id Ap
    have hin55 : ¬ ((0 : Int32) < 0 ∨ cl55.slots.size ≤ ((0 : Int32)).toNatClampNeg) := inb_of S55 ⟨by decide, by decide⟩
    have hat55 : cl55.slots[((0 : Int32)).toNatClampNeg]? = some (.long u0) := H55.at hin55 rfl
    obtain ⟨cq56, kq56, q56a, q56b, q56c⟩ := isOf hZ e53 E_ra
    obtain ⟨_, _, ⟨T56, L56, k56, n56⟩, -, X56, ⟨Lc56, hQ56, l56, y56, z56⟩, st56⟩ := X53.virtualBack hx (y := (⟨"com/example/chronotriple/chronotriple/Box", "to", "(I)J"⟩ : MethodName)) (z := (⟨"com/example/chronotriple/chronotriple/Box", "to", "(I)J"⟩ : MethodName)) hown (mvT hZ (hw _ (List.mem_of_getElem? (i := 50) rfl))) (mvT hZ (hw _ (List.mem_of_getElem? (i := 51) rfl))) (notFace_of_selects (args := #[]) (mvT hZ (hw _ (List.mem_of_getElem? (i := 53) rfl)))) (mvT hZ (hw _ (List.mem_of_getElem? (i := 53) rfl))) (mvT hZ (hw _ (List.mem_of_getElem? (i := 52) rfl))) (by decide) (backOf (W := 2) (rm_to l Z a0 hw [] ra (0 : Int32) ax ka (4 : Int32) [v0, v1, v2, v3] h0 n0 Z0 F_b Av (by decide)) hZ (hw _ (List.mem_of_getElem? (i := 54) rfl)) (hw _ (List.mem_of_getElem? (i := 16) rfl)) (by decide) (by decide)) q56a q56c (g := (mkF m 27 #[.val (.ref ra), .val (.ref rp), .val (.int (0 : Int32))] [(.int (0 : Int32)), (.ref ra), (.long u0)])) rfl (by rw [hml]; rfl) (Steps.refl _) (argsL := [(.int (0 : Int32))]) (rest := [(.long u0)]) (lenOf pd_2 rfl) rfl (by show 2 * 0 + _ ≤ _; exact Nat.le_of_eq rfl) (hb hby d_prog_2_method_8_code_27) (fun _ _ => ⟨rfl, e53, (by decide : 0 + 0 ≤ _), (by decide : 0 + 0 ≤ _)⟩)
    dsimp only [Pt.U, Pt.locs, Pt.cells, Pt.slots] at X56 l56 y56 z56 st56 hQ56
    subst l56 y56 z56
    obtain ⟨⟨r56, rfl, hr56⟩, N56q, e56⟩ := hQ56
    have N56 := Fr.app N53 N56q
    obtain rfl : v1 = r56 := (hr56.trans rfl).symm
    by_cases h31_57 : u0 < v1
    · obtain ⟨cq58, kq58, q58a, q58b, q58c⟩ := isOf hZ e56 E_ra
      obtain ⟨_, _, ⟨T58, L58, k58, n58⟩, -, X58, ⟨Lc58, hQ58, l58, y58, z58⟩, st58⟩ := X56.virtualBack hx (y := (⟨"com/example/chronotriple/chronotriple/Box", "dimensions", "()I"⟩ : MethodName)) (z := (⟨"com/example/chronotriple/chronotriple/Box", "dimensions", "()I"⟩ : MethodName)) hown (mvT hZ (hw _ (List.mem_of_getElem? (i := 40) rfl))) (mvT hZ (hw _ (List.mem_of_getElem? (i := 41) rfl))) (notFace_of_selects (args := #[]) (mvT hZ (hw _ (List.mem_of_getElem? (i := 43) rfl)))) (mvT hZ (hw _ (List.mem_of_getElem? (i := 43) rfl))) (mvT hZ (hw _ (List.mem_of_getElem? (i := 42) rfl))) (by decide) (backOf (W := 1) (rm_dim l Z a0 hw [] ra ax ka (4 : Int32) [v0, v1, v2, v3] h0 n0 Z0 F_b Av) hZ (hw _ (List.mem_of_getElem? (i := 44) rfl)) (hw _ (List.mem_of_getElem? (i := 16) rfl)) (by decide) (by decide)) q58a q58c (g := (mkF m 4 #[.val (.ref ra), .val (.ref rp), .val (.int (1 : Int32))] [(.ref ra), (.int (1 : Int32))])) rfl (by rw [hml]; rfl) (Steps.refl _) (argsL := []) (rest := [(.int (1 : Int32))]) (lenOf pd_1 rfl) rfl (by show 2 * 0 + _ ≤ _; exact Nat.le_of_eq rfl) (hb hby d_prog_2_method_8_code_4) (fun _ _ => ⟨rfl, e56, (by decide : 0 + 0 ≤ _), (by decide : 0 + 0 ≤ _)⟩)
      dsimp only [Pt.U, Pt.locs, Pt.cells, Pt.slots] at X58 l58 y58 z58 st58 hQ58
      subst l58 y58 z58
      obtain ⟨⟨r58, rfl, hr58⟩, N58q, e58⟩ := hQ58
      have N58 := Fr.app N56 N58q
      obtain rfl : (2 : Int32) = r58 := (hr58.trans (by decide)).symm
      obtain ⟨cl59, Ar59, q59, S59, N59a, H59, G59⟩ := id Ap
      have hin59 : ¬ ((1 : Int32) < 0 ∨ cl59.slots.size ≤ ((1 : Int32)).toNatClampNeg) := inb_of S59 ⟨by decide, by decide⟩
      have hat59 : cl59.slots[((1 : Int32)).toNatClampNeg]? = some (.long u1) := H59.at hin59 rfl
      obtain ⟨cq60, kq60, q60a, q60b, q60c⟩ := isOf hZ e58 E_ra
      obtain ⟨_, _, ⟨T60, L60, k60, n60⟩, -, X60, ⟨Lc60, hQ60, l60, y60, z60⟩, st60⟩ := X58.virtualBack hx (y := (⟨"com/example/chronotriple/chronotriple/Box", "from", "(I)J"⟩ : MethodName)) (z := (⟨"com/example/chronotriple/chronotriple/Box", "from", "(I)J"⟩ : MethodName)) hown (mvT hZ (hw _ (List.mem_of_getElem? (i := 45) rfl))) (mvT hZ (hw _ (List.mem_of_getElem? (i := 46) rfl))) (notFace_of_selects (args := #[]) (mvT hZ (hw _ (List.mem_of_getElem? (i := 48) rfl)))) (mvT hZ (hw _ (List.mem_of_getElem? (i := 48) rfl))) (mvT hZ (hw _ (List.mem_of_getElem? (i := 47) rfl))) (by decide) (backOf (W := 2) (rm_frm l Z a0 hw [] ra (1 : Int32) ax ka (4 : Int32) [v0, v1, v2, v3] h0 n0 Z0 F_b Av (by decide)) hZ (hw _ (List.mem_of_getElem? (i := 49) rfl)) (hw _ (List.mem_of_getElem? (i := 16) rfl)) (by decide) (by decide)) q60a q60c (g := (mkF m 15 #[.val (.ref ra), .val (.ref rp), .val (.int (1 : Int32))] [(.int (1 : Int32)), (.ref ra), (.long u1)])) rfl (by rw [hml]; rfl) (Steps.refl _) (argsL := [(.int (1 : Int32))]) (rest := [(.long u1)]) (lenOf pd_2 rfl) rfl (by show 2 * 0 + _ ≤ _; exact Nat.le_of_eq rfl) (hb hby d_prog_2_method_8_code_15) (fun _ _ => ⟨rfl, e58, (by decide : 0 + 0 ≤ _), (by decide : 0 + 0 ≤ _)⟩)
      dsimp only [Pt.U, Pt.locs, Pt.cells, Pt.slots] at X60 l60 y60 z60 st60 hQ60
      subst l60 y60 z60
      obtain ⟨⟨r60, rfl, hr60⟩, N60q, e60⟩ := hQ60
      have N60 := Fr.app N58 N60q
      obtain rfl : v2 = r60 := (hr60.trans rfl).symm
      by_cases h19_61 : u1 < v2
      · obtain ⟨fs, hr, hrun, hended, hW, hsame⟩ := X60.leave (v := some (.int (0 : Int32))) (fun h => by rw [Bd.returns] at h; cases h)
        refine ⟨_, _, pre0 _ ?_, hrun, hended, _, _, rfl, ?_, ⟨_, rfl⟩, hW, hsame.mono (by decide) (by decide)⟩
        · show Steps p.tables e below (s₁.setTop (mkF m 0 #[.val (.ref ra), .val (.ref rp), .unset] [])) _
          refine XS.iconst X0.here hx rfl (hb hby d_prog_2_method_8_code_0) ?_
          show Steps p.tables e below (s₁.setTop (mkF m 1 #[.val (.ref ra), .val (.ref rp), .unset] [(.int (0 : Int32))])) _
          refine XS.istoreN X0.here hx rfl (hb hby d_prog_2_method_8_code_1) rfl (l' := #[.val (.ref ra), .val (.ref rp), .val (.int (0 : Int32))]) rfl ?_
          show Steps p.tables e below (s₁.setTop (mkF m 2 #[.val (.ref ra), .val (.ref rp), .val (.int (0 : Int32))] [])) _
          refine XS.iloadN X0.here hx rfl (hb hby d_prog_2_method_8_code_2) rfl ?_
          show Steps p.tables e below (s₁.setTop (mkF m 3 #[.val (.ref ra), .val (.ref rp), .val (.int (0 : Int32))] [(.int (0 : Int32))])) _
          refine XS.aloadN X0.here hx rfl (hb hby d_prog_2_method_8_code_3) rfl rfl ?_
          show Steps p.tables e below (s₁.setTop (mkF m 4 #[.val (.ref ra), .val (.ref rp), .val (.int (0 : Int32))] [(.ref ra), (.int (0 : Int32))])) _
          refine st51.trans ?_
          show Steps p.tables e below (T51.setTop (mkF m 7 #[.val (.ref ra), .val (.ref rp), .val (.int (0 : Int32))] [(.int (2 : Int32)), (.int (0 : Int32))])) _
          refine XS.icmpNo X51.here hx rfl (hb hby d_prog_2_method_8_code_7) rfl (tlt (by decide : (0 : Int32) < (2 : Int32))).2.1 ?_
          show Steps p.tables e below (T51.setTop (mkF m 10 #[.val (.ref ra), .val (.ref rp), .val (.int (0 : Int32))] [])) _
          refine XS.aloadN X51.here hx rfl (hb hby d_prog_2_method_8_code_10) rfl rfl ?_
          show Steps p.tables e below (T51.setTop (mkF m 11 #[.val (.ref ra), .val (.ref rp), .val (.int (0 : Int32))] [(.ref rp)])) _
          refine XS.iloadN X51.here hx rfl (hb hby d_prog_2_method_8_code_11) rfl ?_
          show Steps p.tables e below (T51.setTop (mkF m 12 #[.val (.ref ra), .val (.ref rp), .val (.int (0 : Int32))] [(.int (0 : Int32)), (.ref rp)])) _
          refine X51.laload hx (j := (0 : Int32)) (v := (.long u0)) (by rw [e51]; exact Ar52.1) (State.isArrayOf_alike hZ.alike Ar52.2.1) Ar52.2.2 hin52 hat52 (g := (mkF m 12 #[.val (.ref ra), .val (.ref rp), .val (.int (0 : Int32))] [(.int (0 : Int32)), (.ref rp)])) rfl rfl (hb hby d_prog_2_method_8_code_12) _ ?_
          show Steps p.tables e below (T51.setTop (mkF m 13 #[.val (.ref ra), .val (.ref rp), .val (.int (0 : Int32))] [(.long u0)])) _
          refine XS.aloadN X51.here hx rfl (hb hby d_prog_2_method_8_code_13) rfl rfl ?_
          show Steps p.tables e below (T51.setTop (mkF m 14 #[.val (.ref ra), .val (.ref rp), .val (.int (0 : Int32))] [(.ref ra), (.long u0)])) _
          refine XS.iloadN X51.here hx rfl (hb hby d_prog_2_method_8_code_14) rfl ?_
          show Steps p.tables e below (T51.setTop (mkF m 15 #[.val (.ref ra), .val (.ref rp), .val (.int (0 : Int32))] [(.int (0 : Int32)), (.ref ra), (.long u0)])) _
          refine st53.trans ?_
          show Steps p.tables e below (T53.setTop (mkF m 18 #[.val (.ref ra), .val (.ref rp), .val (.int (0 : Int32))] [(.long v0), (.long u0)])) _
          refine XS.lcmp X53.here hx rfl (hb hby d_prog_2_method_8_code_18) rfl ?_
          show Steps p.tables e below (T53.setTop (mkF m 19 #[.val (.ref ra), .val (.ref rp), .val (.int (0 : Int32))] [(.int (lcmpW u0 v0))])) _
          refine XS.ifNo X53.here hx rfl (hb hby d_prog_2_method_8_code_19) rfl ((if0 _ _).trans (flt (fun q => h19_54 ((lw_lt _ _).mp q))).1) ?_
          show Steps p.tables e below (T53.setTop (mkF m 22 #[.val (.ref ra), .val (.ref rp), .val (.int (0 : Int32))] [])) _
          refine XS.aloadN X53.here hx rfl (hb hby d_prog_2_method_8_code_22) rfl rfl ?_
          show Steps p.tables e below (T53.setTop (mkF m 23 #[.val (.ref ra), .val (.ref rp), .val (.int (0 : Int32))] [(.ref rp)])) _
          refine XS.iloadN X53.here hx rfl (hb hby d_prog_2_method_8_code_23) rfl ?_
          show Steps p.tables e below (T53.setTop (mkF m 24 #[.val (.ref ra), .val (.ref rp), .val (.int (0 : Int32))] [(.int (0 : Int32)), (.ref rp)])) _
          refine X53.laload hx (j := (0 : Int32)) (v := (.long u0)) (by rw [e53]; exact Ar55.1) (State.isArrayOf_alike hZ.alike Ar55.2.1) Ar55.2.2 hin55 hat55 (g := (mkF m 24 #[.val (.ref ra), .val (.ref rp), .val (.int (0 : Int32))] [(.int (0 : Int32)), (.ref rp)])) rfl rfl (hb hby d_prog_2_method_8_code_24) _ ?_
          show Steps p.tables e below (T53.setTop (mkF m 25 #[.val (.ref ra), .val (.ref rp), .val (.int (0 : Int32))] [(.long u0)])) _
          refine XS.aloadN X53.here hx rfl (hb hby d_prog_2_method_8_code_25) rfl rfl ?_
          show Steps p.tables e below (T53.setTop (mkF m 26 #[.val (.ref ra), .val (.ref rp), .val (.int (0 : Int32))] [(.ref ra), (.long u0)])) _
          refine XS.iloadN X53.here hx rfl (hb hby d_prog_2_method_8_code_26) rfl ?_
          show Steps p.tables e below (T53.setTop (mkF m 27 #[.val (.ref ra), .val (.ref rp), .val (.int (0 : Int32))] [(.int (0 : Int32)), (.ref ra), (.long u0)])) _
          refine st56.trans ?_
          show Steps p.tables e below (T56.setTop (mkF m 30 #[.val (.ref ra), .val (.ref rp), .val (.int (0 : Int32))] [(.long v1), (.long u0)])) _
          refine XS.lcmp X56.here hx rfl (hb hby d_prog_2_method_8_code_30) rfl ?_
          show Steps p.tables e below (T56.setTop (mkF m 31 #[.val (.ref ra), .val (.ref rp), .val (.int (0 : Int32))] [(.int (lcmpW u0 v1))])) _
          refine XS.ifYes X56.here hx rfl (pc0 := 31) (pc' := 36) rfl (hb hby d_prog_2_method_8_code_31) rfl ((if0 _ _).trans (tlt ((lw_lt _ _).mpr h31_57)).1) (by decide) (by decide) ?_
          show Steps p.tables e below (T56.setTop (mkF m 36 #[.val (.ref ra), .val (.ref rp), .val (.int (0 : Int32))] [])) _
          refine XS.iinc X56.here hx rfl (hb hby d_prog_2_method_8_code_36) rfl (l' := #[.val (.ref ra), .val (.ref rp), .val (.int (1 : Int32))]) rfl ?_
          show Steps p.tables e below (T56.setTop (mkF m 39 #[.val (.ref ra), .val (.ref rp), .val (.int (1 : Int32))] [])) _
          refine XS.goto X56.here hx rfl (pc0 := 39) (pc' := 2) rfl (hb hby d_prog_2_method_8_code_39) (by decide) (by decide) ?_
          show Steps p.tables e below (T56.setTop (mkF m 2 #[.val (.ref ra), .val (.ref rp), .val (.int (1 : Int32))] [])) _
          refine XS.iloadN X56.here hx rfl (hb hby d_prog_2_method_8_code_2) rfl ?_
          show Steps p.tables e below (T56.setTop (mkF m 3 #[.val (.ref ra), .val (.ref rp), .val (.int (1 : Int32))] [(.int (1 : Int32))])) _
          refine XS.aloadN X56.here hx rfl (hb hby d_prog_2_method_8_code_3) rfl rfl ?_
          show Steps p.tables e below (T56.setTop (mkF m 4 #[.val (.ref ra), .val (.ref rp), .val (.int (1 : Int32))] [(.ref ra), (.int (1 : Int32))])) _
          refine st58.trans ?_
          show Steps p.tables e below (T58.setTop (mkF m 7 #[.val (.ref ra), .val (.ref rp), .val (.int (1 : Int32))] [(.int (2 : Int32)), (.int (1 : Int32))])) _
          refine XS.icmpNo X58.here hx rfl (hb hby d_prog_2_method_8_code_7) rfl (tlt (by decide : (1 : Int32) < (2 : Int32))).2.1 ?_
          show Steps p.tables e below (T58.setTop (mkF m 10 #[.val (.ref ra), .val (.ref rp), .val (.int (1 : Int32))] [])) _
          refine XS.aloadN X58.here hx rfl (hb hby d_prog_2_method_8_code_10) rfl rfl ?_
          show Steps p.tables e below (T58.setTop (mkF m 11 #[.val (.ref ra), .val (.ref rp), .val (.int (1 : Int32))] [(.ref rp)])) _
          refine XS.iloadN X58.here hx rfl (hb hby d_prog_2_method_8_code_11) rfl ?_
          show Steps p.tables e below (T58.setTop (mkF m 12 #[.val (.ref ra), .val (.ref rp), .val (.int (1 : Int32))] [(.int (1 : Int32)), (.ref rp)])) _
          refine X58.laload hx (j := (1 : Int32)) (v := (.long u1)) (by rw [e58]; exact Ar59.1) (State.isArrayOf_alike hZ.alike Ar59.2.1) Ar59.2.2 hin59 hat59 (g := (mkF m 12 #[.val (.ref ra), .val (.ref rp), .val (.int (1 : Int32))] [(.int (1 : Int32)), (.ref rp)])) rfl rfl (hb hby d_prog_2_method_8_code_12) _ ?_
          show Steps p.tables e below (T58.setTop (mkF m 13 #[.val (.ref ra), .val (.ref rp), .val (.int (1 : Int32))] [(.long u1)])) _
          refine XS.aloadN X58.here hx rfl (hb hby d_prog_2_method_8_code_13) rfl rfl ?_
          show Steps p.tables e below (T58.setTop (mkF m 14 #[.val (.ref ra), .val (.ref rp), .val (.int (1 : Int32))] [(.ref ra), (.long u1)])) _
          refine XS.iloadN X58.here hx rfl (hb hby d_prog_2_method_8_code_14) rfl ?_
          show Steps p.tables e below (T58.setTop (mkF m 15 #[.val (.ref ra), .val (.ref rp), .val (.int (1 : Int32))] [(.int (1 : Int32)), (.ref ra), (.long u1)])) _
          refine st60.trans ?_
          show Steps p.tables e below (T60.setTop (mkF m 18 #[.val (.ref ra), .val (.ref rp), .val (.int (1 : Int32))] [(.long v2), (.long u1)])) _
          refine XS.lcmp X60.here hx rfl (hb hby d_prog_2_method_8_code_18) rfl ?_
          show Steps p.tables e below (T60.setTop (mkF m 19 #[.val (.ref ra), .val (.ref rp), .val (.int (1 : Int32))] [(.int (lcmpW u1 v2))])) _
          refine XS.ifYes X60.here hx rfl (pc0 := 19) (pc' := 34) rfl (hb hby d_prog_2_method_8_code_19) rfl ((if0 _ _).trans (tlt ((lw_lt _ _).mpr h19_61)).1) (by decide) (by decide) ?_
          show Steps p.tables e below (T60.setTop (mkF m 34 #[.val (.ref ra), .val (.ref rp), .val (.int (1 : Int32))] [])) _
          refine XS.iconst X60.here hx rfl (hb hby d_prog_2_method_8_code_34) ?_
          show Steps p.tables e below (T60.setTop (mkF m 35 #[.val (.ref ra), .val (.ref rp), .val (.int (1 : Int32))] [(.int (0 : Int32))])) _
          exact retN X60 hx (t := .boolean) Bd.returns (by simp) (hb hby d_prog_2_method_8_code_35) hr
        · show Q_con2 Z ra rp ax ka kq v0 v1 v2 v3 u0 u1 h0 n0 _ T60.heap _
          rw [e60]
          exact ⟨⟨_, rfl, by simp [h19_54, h31_57, h19_61]⟩, N60, rfl⟩
      · obtain ⟨cl62, Ar62, q62, S62, N62a, H62, G62⟩ := id Ap
        have hin62 : ¬ ((1 : Int32) < 0 ∨ cl62.slots.size ≤ ((1 : Int32)).toNatClampNeg) := inb_of S62 ⟨by decide, by decide⟩
        have hat62 : cl62.slots[((1 : Int32)).toNatClampNeg]? = some (.long u1) := H62.at hin62 rfl
        obtain ⟨cq63, kq63, q63a, q63b, q63c⟩ := isOf hZ e60 E_ra
        obtain ⟨_, _, ⟨T63, L63, k63, n63⟩, -, X63, ⟨Lc63, hQ63, l63, y63, z63⟩, st63⟩ := X60.virtualBack hx (y := (⟨"com/example/chronotriple/chronotriple/Box", "to", "(I)J"⟩ : MethodName)) (z := (⟨"com/example/chronotriple/chronotriple/Box", "to", "(I)J"⟩ : MethodName)) hown (mvT hZ (hw _ (List.mem_of_getElem? (i := 50) rfl))) (mvT hZ (hw _ (List.mem_of_getElem? (i := 51) rfl))) (notFace_of_selects (args := #[]) (mvT hZ (hw _ (List.mem_of_getElem? (i := 53) rfl)))) (mvT hZ (hw _ (List.mem_of_getElem? (i := 53) rfl))) (mvT hZ (hw _ (List.mem_of_getElem? (i := 52) rfl))) (by decide) (backOf (W := 2) (rm_to l Z a0 hw [] ra (1 : Int32) ax ka (4 : Int32) [v0, v1, v2, v3] h0 n0 Z0 F_b Av (by decide)) hZ (hw _ (List.mem_of_getElem? (i := 54) rfl)) (hw _ (List.mem_of_getElem? (i := 16) rfl)) (by decide) (by decide)) q63a q63c (g := (mkF m 27 #[.val (.ref ra), .val (.ref rp), .val (.int (1 : Int32))] [(.int (1 : Int32)), (.ref ra), (.long u1)])) rfl (by rw [hml]; rfl) (Steps.refl _) (argsL := [(.int (1 : Int32))]) (rest := [(.long u1)]) (lenOf pd_2 rfl) rfl (by show 2 * 0 + _ ≤ _; exact Nat.le_of_eq rfl) (hb hby d_prog_2_method_8_code_27) (fun _ _ => ⟨rfl, e60, (by decide : 0 + 0 ≤ _), (by decide : 0 + 0 ≤ _)⟩)
        dsimp only [Pt.U, Pt.locs, Pt.cells, Pt.slots] at X63 l63 y63 z63 st63 hQ63
        subst l63 y63 z63
        obtain ⟨⟨r63, rfl, hr63⟩, N63q, e63⟩ := hQ63
        have N63 := Fr.app N60 N63q
        obtain rfl : v3 = r63 := (hr63.trans rfl).symm
        by_cases h31_64 : u1 < v3
        · obtain ⟨cq65, kq65, q65a, q65b, q65c⟩ := isOf hZ e63 E_ra
          obtain ⟨_, _, ⟨T65, L65, k65, n65⟩, -, X65, ⟨Lc65, hQ65, l65, y65, z65⟩, st65⟩ := X63.virtualBack hx (y := (⟨"com/example/chronotriple/chronotriple/Box", "dimensions", "()I"⟩ : MethodName)) (z := (⟨"com/example/chronotriple/chronotriple/Box", "dimensions", "()I"⟩ : MethodName)) hown (mvT hZ (hw _ (List.mem_of_getElem? (i := 40) rfl))) (mvT hZ (hw _ (List.mem_of_getElem? (i := 41) rfl))) (notFace_of_selects (args := #[]) (mvT hZ (hw _ (List.mem_of_getElem? (i := 43) rfl)))) (mvT hZ (hw _ (List.mem_of_getElem? (i := 43) rfl))) (mvT hZ (hw _ (List.mem_of_getElem? (i := 42) rfl))) (by decide) (backOf (W := 1) (rm_dim l Z a0 hw [] ra ax ka (4 : Int32) [v0, v1, v2, v3] h0 n0 Z0 F_b Av) hZ (hw _ (List.mem_of_getElem? (i := 44) rfl)) (hw _ (List.mem_of_getElem? (i := 16) rfl)) (by decide) (by decide)) q65a q65c (g := (mkF m 4 #[.val (.ref ra), .val (.ref rp), .val (.int (2 : Int32))] [(.ref ra), (.int (2 : Int32))])) rfl (by rw [hml]; rfl) (Steps.refl _) (argsL := []) (rest := [(.int (2 : Int32))]) (lenOf pd_1 rfl) rfl (by show 2 * 0 + _ ≤ _; exact Nat.le_of_eq rfl) (hb hby d_prog_2_method_8_code_4) (fun _ _ => ⟨rfl, e63, (by decide : 0 + 0 ≤ _), (by decide : 0 + 0 ≤ _)⟩)
          dsimp only [Pt.U, Pt.locs, Pt.cells, Pt.slots] at X65 l65 y65 z65 st65 hQ65
          subst l65 y65 z65
          obtain ⟨⟨r65, rfl, hr65⟩, N65q, e65⟩ := hQ65
          have N65 := Fr.app N63 N65q
          obtain rfl : (2 : Int32) = r65 := (hr65.trans (by decide)).symm
          obtain ⟨fs, hr, hrun, hended, hW, hsame⟩ := X65.leave (v := some (.int (1 : Int32))) (fun h => by rw [Bd.returns] at h; cases h)
          refine ⟨_, _, pre0 _ ?_, hrun, hended, _, _, rfl, ?_, ⟨_, rfl⟩, hW, hsame.mono (by decide) (by decide)⟩
          · show Steps p.tables e below (s₁.setTop (mkF m 0 #[.val (.ref ra), .val (.ref rp), .unset] [])) _
            refine XS.iconst X0.here hx rfl (hb hby d_prog_2_method_8_code_0) ?_
            show Steps p.tables e below (s₁.setTop (mkF m 1 #[.val (.ref ra), .val (.ref rp), .unset] [(.int (0 : Int32))])) _
            refine XS.istoreN X0.here hx rfl (hb hby d_prog_2_method_8_code_1) rfl (l' := #[.val (.ref ra), .val (.ref rp), .val (.int (0 : Int32))]) rfl ?_
            show Steps p.tables e below (s₁.setTop (mkF m 2 #[.val (.ref ra), .val (.ref rp), .val (.int (0 : Int32))] [])) _
            refine XS.iloadN X0.here hx rfl (hb hby d_prog_2_method_8_code_2) rfl ?_
            show Steps p.tables e below (s₁.setTop (mkF m 3 #[.val (.ref ra), .val (.ref rp), .val (.int (0 : Int32))] [(.int (0 : Int32))])) _
            refine XS.aloadN X0.here hx rfl (hb hby d_prog_2_method_8_code_3) rfl rfl ?_
            show Steps p.tables e below (s₁.setTop (mkF m 4 #[.val (.ref ra), .val (.ref rp), .val (.int (0 : Int32))] [(.ref ra), (.int (0 : Int32))])) _
            refine st51.trans ?_
            show Steps p.tables e below (T51.setTop (mkF m 7 #[.val (.ref ra), .val (.ref rp), .val (.int (0 : Int32))] [(.int (2 : Int32)), (.int (0 : Int32))])) _
            refine XS.icmpNo X51.here hx rfl (hb hby d_prog_2_method_8_code_7) rfl (tlt (by decide : (0 : Int32) < (2 : Int32))).2.1 ?_
            show Steps p.tables e below (T51.setTop (mkF m 10 #[.val (.ref ra), .val (.ref rp), .val (.int (0 : Int32))] [])) _
            refine XS.aloadN X51.here hx rfl (hb hby d_prog_2_method_8_code_10) rfl rfl ?_
            show Steps p.tables e below (T51.setTop (mkF m 11 #[.val (.ref ra), .val (.ref rp), .val (.int (0 : Int32))] [(.ref rp)])) _
            refine XS.iloadN X51.here hx rfl (hb hby d_prog_2_method_8_code_11) rfl ?_
            show Steps p.tables e below (T51.setTop (mkF m 12 #[.val (.ref ra), .val (.ref rp), .val (.int (0 : Int32))] [(.int (0 : Int32)), (.ref rp)])) _
            refine X51.laload hx (j := (0 : Int32)) (v := (.long u0)) (by rw [e51]; exact Ar52.1) (State.isArrayOf_alike hZ.alike Ar52.2.1) Ar52.2.2 hin52 hat52 (g := (mkF m 12 #[.val (.ref ra), .val (.ref rp), .val (.int (0 : Int32))] [(.int (0 : Int32)), (.ref rp)])) rfl rfl (hb hby d_prog_2_method_8_code_12) _ ?_
            show Steps p.tables e below (T51.setTop (mkF m 13 #[.val (.ref ra), .val (.ref rp), .val (.int (0 : Int32))] [(.long u0)])) _
            refine XS.aloadN X51.here hx rfl (hb hby d_prog_2_method_8_code_13) rfl rfl ?_
            show Steps p.tables e below (T51.setTop (mkF m 14 #[.val (.ref ra), .val (.ref rp), .val (.int (0 : Int32))] [(.ref ra), (.long u0)])) _
            refine XS.iloadN X51.here hx rfl (hb hby d_prog_2_method_8_code_14) rfl ?_
            show Steps p.tables e below (T51.setTop (mkF m 15 #[.val (.ref ra), .val (.ref rp), .val (.int (0 : Int32))] [(.int (0 : Int32)), (.ref ra), (.long u0)])) _
            refine st53.trans ?_
            show Steps p.tables e below (T53.setTop (mkF m 18 #[.val (.ref ra), .val (.ref rp), .val (.int (0 : Int32))] [(.long v0), (.long u0)])) _
            refine XS.lcmp X53.here hx rfl (hb hby d_prog_2_method_8_code_18) rfl ?_
            show Steps p.tables e below (T53.setTop (mkF m 19 #[.val (.ref ra), .val (.ref rp), .val (.int (0 : Int32))] [(.int (lcmpW u0 v0))])) _
            refine XS.ifNo X53.here hx rfl (hb hby d_prog_2_method_8_code_19) rfl ((if0 _ _).trans (flt (fun q => h19_54 ((lw_lt _ _).mp q))).1) ?_
            show Steps p.tables e below (T53.setTop (mkF m 22 #[.val (.ref ra), .val (.ref rp), .val (.int (0 : Int32))] [])) _
            refine XS.aloadN X53.here hx rfl (hb hby d_prog_2_method_8_code_22) rfl rfl ?_
            show Steps p.tables e below (T53.setTop (mkF m 23 #[.val (.ref ra), .val (.ref rp), .val (.int (0 : Int32))] [(.ref rp)])) _
            refine XS.iloadN X53.here hx rfl (hb hby d_prog_2_method_8_code_23) rfl ?_
            show Steps p.tables e below (T53.setTop (mkF m 24 #[.val (.ref ra), .val (.ref rp), .val (.int (0 : Int32))] [(.int (0 : Int32)), (.ref rp)])) _
            refine X53.laload hx (j := (0 : Int32)) (v := (.long u0)) (by rw [e53]; exact Ar55.1) (State.isArrayOf_alike hZ.alike Ar55.2.1) Ar55.2.2 hin55 hat55 (g := (mkF m 24 #[.val (.ref ra), .val (.ref rp), .val (.int (0 : Int32))] [(.int (0 : Int32)), (.ref rp)])) rfl rfl (hb hby d_prog_2_method_8_code_24) _ ?_
            show Steps p.tables e below (T53.setTop (mkF m 25 #[.val (.ref ra), .val (.ref rp), .val (.int (0 : Int32))] [(.long u0)])) _
            refine XS.aloadN X53.here hx rfl (hb hby d_prog_2_method_8_code_25) rfl rfl ?_
            show Steps p.tables e below (T53.setTop (mkF m 26 #[.val (.ref ra), .val (.ref rp), .val (.int (0 : Int32))] [(.ref ra), (.long u0)])) _
            refine XS.iloadN X53.here hx rfl (hb hby d_prog_2_method_8_code_26) rfl ?_
            show Steps p.tables e below (T53.setTop (mkF m 27 #[.val (.ref ra), .val (.ref rp), .val (.int (0 : Int32))] [(.int (0 : Int32)), (.ref ra), (.long u0)])) _
            refine st56.trans ?_
            show Steps p.tables e below (T56.setTop (mkF m 30 #[.val (.ref ra), .val (.ref rp), .val (.int (0 : Int32))] [(.long v1), (.long u0)])) _
            refine XS.lcmp X56.here hx rfl (hb hby d_prog_2_method_8_code_30) rfl ?_
            show Steps p.tables e below (T56.setTop (mkF m 31 #[.val (.ref ra), .val (.ref rp), .val (.int (0 : Int32))] [(.int (lcmpW u0 v1))])) _
            refine XS.ifYes X56.here hx rfl (pc0 := 31) (pc' := 36) rfl (hb hby d_prog_2_method_8_code_31) rfl ((if0 _ _).trans (tlt ((lw_lt _ _).mpr h31_57)).1) (by decide) (by decide) ?_
            show Steps p.tables e below (T56.setTop (mkF m 36 #[.val (.ref ra), .val (.ref rp), .val (.int (0 : Int32))] [])) _
            refine XS.iinc X56.here hx rfl (hb hby d_prog_2_method_8_code_36) rfl (l' := #[.val (.ref ra), .val (.ref rp), .val (.int (1 : Int32))]) rfl ?_
            show Steps p.tables e below (T56.setTop (mkF m 39 #[.val (.ref ra), .val (.ref rp), .val (.int (1 : Int32))] [])) _
            refine XS.goto X56.here hx rfl (pc0 := 39) (pc' := 2) rfl (hb hby d_prog_2_method_8_code_39) (by decide) (by decide) ?_
            show Steps p.tables e below (T56.setTop (mkF m 2 #[.val (.ref ra), .val (.ref rp), .val (.int (1 : Int32))] [])) _
            refine XS.iloadN X56.here hx rfl (hb hby d_prog_2_method_8_code_2) rfl ?_
            show Steps p.tables e below (T56.setTop (mkF m 3 #[.val (.ref ra), .val (.ref rp), .val (.int (1 : Int32))] [(.int (1 : Int32))])) _
            refine XS.aloadN X56.here hx rfl (hb hby d_prog_2_method_8_code_3) rfl rfl ?_
            show Steps p.tables e below (T56.setTop (mkF m 4 #[.val (.ref ra), .val (.ref rp), .val (.int (1 : Int32))] [(.ref ra), (.int (1 : Int32))])) _
            refine st58.trans ?_
            show Steps p.tables e below (T58.setTop (mkF m 7 #[.val (.ref ra), .val (.ref rp), .val (.int (1 : Int32))] [(.int (2 : Int32)), (.int (1 : Int32))])) _
            refine XS.icmpNo X58.here hx rfl (hb hby d_prog_2_method_8_code_7) rfl (tlt (by decide : (1 : Int32) < (2 : Int32))).2.1 ?_
            show Steps p.tables e below (T58.setTop (mkF m 10 #[.val (.ref ra), .val (.ref rp), .val (.int (1 : Int32))] [])) _
            refine XS.aloadN X58.here hx rfl (hb hby d_prog_2_method_8_code_10) rfl rfl ?_
            show Steps p.tables e below (T58.setTop (mkF m 11 #[.val (.ref ra), .val (.ref rp), .val (.int (1 : Int32))] [(.ref rp)])) _
            refine XS.iloadN X58.here hx rfl (hb hby d_prog_2_method_8_code_11) rfl ?_
            show Steps p.tables e below (T58.setTop (mkF m 12 #[.val (.ref ra), .val (.ref rp), .val (.int (1 : Int32))] [(.int (1 : Int32)), (.ref rp)])) _
            refine X58.laload hx (j := (1 : Int32)) (v := (.long u1)) (by rw [e58]; exact Ar59.1) (State.isArrayOf_alike hZ.alike Ar59.2.1) Ar59.2.2 hin59 hat59 (g := (mkF m 12 #[.val (.ref ra), .val (.ref rp), .val (.int (1 : Int32))] [(.int (1 : Int32)), (.ref rp)])) rfl rfl (hb hby d_prog_2_method_8_code_12) _ ?_
            show Steps p.tables e below (T58.setTop (mkF m 13 #[.val (.ref ra), .val (.ref rp), .val (.int (1 : Int32))] [(.long u1)])) _
            refine XS.aloadN X58.here hx rfl (hb hby d_prog_2_method_8_code_13) rfl rfl ?_
            show Steps p.tables e below (T58.setTop (mkF m 14 #[.val (.ref ra), .val (.ref rp), .val (.int (1 : Int32))] [(.ref ra), (.long u1)])) _
            refine XS.iloadN X58.here hx rfl (hb hby d_prog_2_method_8_code_14) rfl ?_
            show Steps p.tables e below (T58.setTop (mkF m 15 #[.val (.ref ra), .val (.ref rp), .val (.int (1 : Int32))] [(.int (1 : Int32)), (.ref ra), (.long u1)])) _
            refine st60.trans ?_
            show Steps p.tables e below (T60.setTop (mkF m 18 #[.val (.ref ra), .val (.ref rp), .val (.int (1 : Int32))] [(.long v2), (.long u1)])) _
            refine XS.lcmp X60.here hx rfl (hb hby d_prog_2_method_8_code_18) rfl ?_
            show Steps p.tables e below (T60.setTop (mkF m 19 #[.val (.ref ra), .val (.ref rp), .val (.int (1 : Int32))] [(.int (lcmpW u1 v2))])) _
            refine XS.ifNo X60.here hx rfl (hb hby d_prog_2_method_8_code_19) rfl ((if0 _ _).trans (flt (fun q => h19_61 ((lw_lt _ _).mp q))).1) ?_
            show Steps p.tables e below (T60.setTop (mkF m 22 #[.val (.ref ra), .val (.ref rp), .val (.int (1 : Int32))] [])) _
            refine XS.aloadN X60.here hx rfl (hb hby d_prog_2_method_8_code_22) rfl rfl ?_
            show Steps p.tables e below (T60.setTop (mkF m 23 #[.val (.ref ra), .val (.ref rp), .val (.int (1 : Int32))] [(.ref rp)])) _
            refine XS.iloadN X60.here hx rfl (hb hby d_prog_2_method_8_code_23) rfl ?_
            show Steps p.tables e below (T60.setTop (mkF m 24 #[.val (.ref ra), .val (.ref rp), .val (.int (1 : Int32))] [(.int (1 : Int32)), (.ref rp)])) _
            refine X60.laload hx (j := (1 : Int32)) (v := (.long u1)) (by rw [e60]; exact Ar62.1) (State.isArrayOf_alike hZ.alike Ar62.2.1) Ar62.2.2 hin62 hat62 (g := (mkF m 24 #[.val (.ref ra), .val (.ref rp), .val (.int (1 : Int32))] [(.int (1 : Int32)), (.ref rp)])) rfl rfl (hb hby d_prog_2_method_8_code_24) _ ?_
            show Steps p.tables e below (T60.setTop (mkF m 25 #[.val (.ref ra), .val (.ref rp), .val (.int (1 : Int32))] [(.long u1)])) _
            refine XS.aloadN X60.here hx rfl (hb hby d_prog_2_method_8_code_25) rfl rfl ?_
            show Steps p.tables e below (T60.setTop (mkF m 26 #[.val (.ref ra), .val (.ref rp), .val (.int (1 : Int32))] [(.ref ra), (.long u1)])) _
            refine XS.iloadN X60.here hx rfl (hb hby d_prog_2_method_8_code_26) rfl ?_
            show Steps p.tables e below (T60.setTop (mkF m 27 #[.val (.ref ra), .val (.ref rp), .val (.int (1 : Int32))] [(.int (1 : Int32)), (.ref ra), (.long u1)])) _
            refine st63.trans ?_
            show Steps p.tables e below (T63.setTop (mkF m 30 #[.val (.ref ra), .val (.ref rp), .val (.int (1 : Int32))] [(.long v3), (.long u1)])) _
            refine XS.lcmp X63.here hx rfl (hb hby d_prog_2_method_8_code_30) rfl ?_
            show Steps p.tables e below (T63.setTop (mkF m 31 #[.val (.ref ra), .val (.ref rp), .val (.int (1 : Int32))] [(.int (lcmpW u1 v3))])) _
            refine XS.ifYes X63.here hx rfl (pc0 := 31) (pc' := 36) rfl (hb hby d_prog_2_method_8_code_31) rfl ((if0 _ _).trans (tlt ((lw_lt _ _).mpr h31_64)).1) (by decide) (by decide) ?_
            show Steps p.tables e below (T63.setTop (mkF m 36 #[.val (.ref ra), .val (.ref rp), .val (.int (1 : Int32))] [])) _
            refine XS.iinc X63.here hx rfl (hb hby d_prog_2_method_8_code_36) rfl (l' := #[.val (.ref ra), .val (.ref rp), .val (.int (2 : Int32))]) rfl ?_
            show Steps p.tables e below (T63.setTop (mkF m 39 #[.val (.ref ra), .val (.ref rp), .val (.int (2 : Int32))] [])) _
            refine XS.goto X63.here hx rfl (pc0 := 39) (pc' := 2) rfl (hb hby d_prog_2_method_8_code_39) (by decide) (by decide) ?_
            show Steps p.tables e below (T63.setTop (mkF m 2 #[.val (.ref ra), .val (.ref rp), .val (.int (2 : Int32))] [])) _
            refine XS.iloadN X63.here hx rfl (hb hby d_prog_2_method_8_code_2) rfl ?_
            show Steps p.tables e below (T63.setTop (mkF m 3 #[.val (.ref ra), .val (.ref rp), .val (.int (2 : Int32))] [(.int (2 : Int32))])) _
            refine XS.aloadN X63.here hx rfl (hb hby d_prog_2_method_8_code_3) rfl rfl ?_
            show Steps p.tables e below (T63.setTop (mkF m 4 #[.val (.ref ra), .val (.ref rp), .val (.int (2 : Int32))] [(.ref ra), (.int (2 : Int32))])) _
            refine st65.trans ?_
            show Steps p.tables e below (T65.setTop (mkF m 7 #[.val (.ref ra), .val (.ref rp), .val (.int (2 : Int32))] [(.int (2 : Int32)), (.int (2 : Int32))])) _
            refine XS.icmpYes X65.here hx rfl (pc0 := 7) (pc' := 42) rfl (hb hby d_prog_2_method_8_code_7) rfl (flt (by decide : ¬ ((2 : Int32) < (2 : Int32)))).2.1 (by decide) (by decide) ?_
            show Steps p.tables e below (T65.setTop (mkF m 42 #[.val (.ref ra), .val (.ref rp), .val (.int (2 : Int32))] [])) _
            refine XS.iconst X65.here hx rfl (hb hby d_prog_2_method_8_code_42) ?_
            show Steps p.tables e below (T65.setTop (mkF m 43 #[.val (.ref ra), .val (.ref rp), .val (.int (2 : Int32))] [(.int (1 : Int32))])) _
            exact retN X65 hx (t := .boolean) Bd.returns (by simp) (hb hby d_prog_2_method_8_code_43) hr
          · show Q_con2 Z ra rp ax ka kq v0 v1 v2 v3 u0 u1 h0 n0 _ T65.heap _
            rw [e65]
            exact ⟨⟨_, rfl, by simp [h19_54, h31_57, h19_61, h31_64]⟩, N65, rfl⟩
        · obtain ⟨fs, hr, hrun, hended, hW, hsame⟩ := X63.leave (v := some (.int (0 : Int32))) (fun h => by rw [Bd.returns] at h; cases h)
          refine ⟨_, _, pre0 _ ?_, hrun, hended, _, _, rfl, ?_, ⟨_, rfl⟩, hW, hsame.mono (by decide) (by decide)⟩
          · show Steps p.tables e below (s₁.setTop (mkF m 0 #[.val (.ref ra), .val (.ref rp), .unset] [])) _
            refine XS.iconst X0.here hx rfl (hb hby d_prog_2_method_8_code_0) ?_
            show Steps p.tables e below (s₁.setTop (mkF m 1 #[.val (.ref ra), .val (.ref rp), .unset] [(.int (0 : Int32))])) _
            refine XS.istoreN X0.here hx rfl (hb hby d_prog_2_method_8_code_1) rfl (l' := #[.val (.ref ra), .val (.ref rp), .val (.int (0 : Int32))]) rfl ?_
            show Steps p.tables e below (s₁.setTop (mkF m 2 #[.val (.ref ra), .val (.ref rp), .val (.int (0 : Int32))] [])) _
            refine XS.iloadN X0.here hx rfl (hb hby d_prog_2_method_8_code_2) rfl ?_
            show Steps p.tables e below (s₁.setTop (mkF m 3 #[.val (.ref ra), .val (.ref rp), .val (.int (0 : Int32))] [(.int (0 : Int32))])) _
            refine XS.aloadN X0.here hx rfl (hb hby d_prog_2_method_8_code_3) rfl rfl ?_
            show Steps p.tables e below (s₁.setTop (mkF m 4 #[.val (.ref ra), .val (.ref rp), .val (.int (0 : Int32))] [(.ref ra), (.int (0 : Int32))])) _
            refine st51.trans ?_
            show Steps p.tables e below (T51.setTop (mkF m 7 #[.val (.ref ra), .val (.ref rp), .val (.int (0 : Int32))] [(.int (2 : Int32)), (.int (0 : Int32))])) _
            refine XS.icmpNo X51.here hx rfl (hb hby d_prog_2_method_8_code_7) rfl (tlt (by decide : (0 : Int32) < (2 : Int32))).2.1 ?_
            show Steps p.tables e below (T51.setTop (mkF m 10 #[.val (.ref ra), .val (.ref rp), .val (.int (0 : Int32))] [])) _
            refine XS.aloadN X51.here hx rfl (hb hby d_prog_2_method_8_code_10) rfl rfl ?_
            show Steps p.tables e below (T51.setTop (mkF m 11 #[.val (.ref ra), .val (.ref rp), .val (.int (0 : Int32))] [(.ref rp)])) _
            refine XS.iloadN X51.here hx rfl (hb hby d_prog_2_method_8_code_11) rfl ?_
            show Steps p.tables e below (T51.setTop (mkF m 12 #[.val (.ref ra), .val (.ref rp), .val (.int (0 : Int32))] [(.int (0 : Int32)), (.ref rp)])) _
            refine X51.laload hx (j := (0 : Int32)) (v := (.long u0)) (by rw [e51]; exact Ar52.1) (State.isArrayOf_alike hZ.alike Ar52.2.1) Ar52.2.2 hin52 hat52 (g := (mkF m 12 #[.val (.ref ra), .val (.ref rp), .val (.int (0 : Int32))] [(.int (0 : Int32)), (.ref rp)])) rfl rfl (hb hby d_prog_2_method_8_code_12) _ ?_
            show Steps p.tables e below (T51.setTop (mkF m 13 #[.val (.ref ra), .val (.ref rp), .val (.int (0 : Int32))] [(.long u0)])) _
            refine XS.aloadN X51.here hx rfl (hb hby d_prog_2_method_8_code_13) rfl rfl ?_
            show Steps p.tables e below (T51.setTop (mkF m 14 #[.val (.ref ra), .val (.ref rp), .val (.int (0 : Int32))] [(.ref ra), (.long u0)])) _
            refine XS.iloadN X51.here hx rfl (hb hby d_prog_2_method_8_code_14) rfl ?_
            show Steps p.tables e below (T51.setTop (mkF m 15 #[.val (.ref ra), .val (.ref rp), .val (.int (0 : Int32))] [(.int (0 : Int32)), (.ref ra), (.long u0)])) _
            refine st53.trans ?_
            show Steps p.tables e below (T53.setTop (mkF m 18 #[.val (.ref ra), .val (.ref rp), .val (.int (0 : Int32))] [(.long v0), (.long u0)])) _
            refine XS.lcmp X53.here hx rfl (hb hby d_prog_2_method_8_code_18) rfl ?_
            show Steps p.tables e below (T53.setTop (mkF m 19 #[.val (.ref ra), .val (.ref rp), .val (.int (0 : Int32))] [(.int (lcmpW u0 v0))])) _
            refine XS.ifNo X53.here hx rfl (hb hby d_prog_2_method_8_code_19) rfl ((if0 _ _).trans (flt (fun q => h19_54 ((lw_lt _ _).mp q))).1) ?_
            show Steps p.tables e below (T53.setTop (mkF m 22 #[.val (.ref ra), .val (.ref rp), .val (.int (0 : Int32))] [])) _
            refine XS.aloadN X53.here hx rfl (hb hby d_prog_2_method_8_code_22) rfl rfl ?_
            show Steps p.tables e below (T53.setTop (mkF m 23 #[.val (.ref ra), .val (.ref rp), .val (.int (0 : Int32))] [(.ref rp)])) _
            refine XS.iloadN X53.here hx rfl (hb hby d_prog_2_method_8_code_23) rfl ?_
            show Steps p.tables e below (T53.setTop (mkF m 24 #[.val (.ref ra), .val (.ref rp), .val (.int (0 : Int32))] [(.int (0 : Int32)), (.ref rp)])) _
            refine X53.laload hx (j := (0 : Int32)) (v := (.long u0)) (by rw [e53]; exact Ar55.1) (State.isArrayOf_alike hZ.alike Ar55.2.1) Ar55.2.2 hin55 hat55 (g := (mkF m 24 #[.val (.ref ra), .val (.ref rp), .val (.int (0 : Int32))] [(.int (0 : Int32)), (.ref rp)])) rfl rfl (hb hby d_prog_2_method_8_code_24) _ ?_
            show Steps p.tables e below (T53.setTop (mkF m 25 #[.val (.ref ra), .val (.ref rp), .val (.int (0 : Int32))] [(.long u0)])) _
            refine XS.aloadN X53.here hx rfl (hb hby d_prog_2_method_8_code_25) rfl rfl ?_
            show Steps p.tables e below (T53.setTop (mkF m 26 #[.val (.ref ra), .val (.ref rp), .val (.int (0 : Int32))] [(.ref ra), (.long u0)])) _
            refine XS.iloadN X53.here hx rfl (hb hby d_prog_2_method_8_code_26) rfl ?_
            show Steps p.tables e below (T53.setTop (mkF m 27 #[.val (.ref ra), .val (.ref rp), .val (.int (0 : Int32))] [(.int (0 : Int32)), (.ref ra), (.long u0)])) _
            refine st56.trans ?_
            show Steps p.tables e below (T56.setTop (mkF m 30 #[.val (.ref ra), .val (.ref rp), .val (.int (0 : Int32))] [(.long v1), (.long u0)])) _
            refine XS.lcmp X56.here hx rfl (hb hby d_prog_2_method_8_code_30) rfl ?_
            show Steps p.tables e below (T56.setTop (mkF m 31 #[.val (.ref ra), .val (.ref rp), .val (.int (0 : Int32))] [(.int (lcmpW u0 v1))])) _
            refine XS.ifYes X56.here hx rfl (pc0 := 31) (pc' := 36) rfl (hb hby d_prog_2_method_8_code_31) rfl ((if0 _ _).trans (tlt ((lw_lt _ _).mpr h31_57)).1) (by decide) (by decide) ?_
            show Steps p.tables e below (T56.setTop (mkF m 36 #[.val (.ref ra), .val (.ref rp), .val (.int (0 : Int32))] [])) _
            refine XS.iinc X56.here hx rfl (hb hby d_prog_2_method_8_code_36) rfl (l' := #[.val (.ref ra), .val (.ref rp), .val (.int (1 : Int32))]) rfl ?_
            show Steps p.tables e below (T56.setTop (mkF m 39 #[.val (.ref ra), .val (.ref rp), .val (.int (1 : Int32))] [])) _
            refine XS.goto X56.here hx rfl (pc0 := 39) (pc' := 2) rfl (hb hby d_prog_2_method_8_code_39) (by decide) (by decide) ?_
            show Steps p.tables e below (T56.setTop (mkF m 2 #[.val (.ref ra), .val (.ref rp), .val (.int (1 : Int32))] [])) _
            refine XS.iloadN X56.here hx rfl (hb hby d_prog_2_method_8_code_2) rfl ?_
            show Steps p.tables e below (T56.setTop (mkF m 3 #[.val (.ref ra), .val (.ref rp), .val (.int (1 : Int32))] [(.int (1 : Int32))])) _
            refine XS.aloadN X56.here hx rfl (hb hby d_prog_2_method_8_code_3) rfl rfl ?_
            show Steps p.tables e below (T56.setTop (mkF m 4 #[.val (.ref ra), .val (.ref rp), .val (.int (1 : Int32))] [(.ref ra), (.int (1 : Int32))])) _
            refine st58.trans ?_
            show Steps p.tables e below (T58.setTop (mkF m 7 #[.val (.ref ra), .val (.ref rp), .val (.int (1 : Int32))] [(.int (2 : Int32)), (.int (1 : Int32))])) _
            refine XS.icmpNo X58.here hx rfl (hb hby d_prog_2_method_8_code_7) rfl (tlt (by decide : (1 : Int32) < (2 : Int32))).2.1 ?_
            show Steps p.tables e below (T58.setTop (mkF m 10 #[.val (.ref ra), .val (.ref rp), .val (.int (1 : Int32))] [])) _
            refine XS.aloadN X58.here hx rfl (hb hby d_prog_2_method_8_code_10) rfl rfl ?_
            show Steps p.tables e below (T58.setTop (mkF m 11 #[.val (.ref ra), .val (.ref rp), .val (.int (1 : Int32))] [(.ref rp)])) _
            refine XS.iloadN X58.here hx rfl (hb hby d_prog_2_method_8_code_11) rfl ?_
            show Steps p.tables e below (T58.setTop (mkF m 12 #[.val (.ref ra), .val (.ref rp), .val (.int (1 : Int32))] [(.int (1 : Int32)), (.ref rp)])) _
            refine X58.laload hx (j := (1 : Int32)) (v := (.long u1)) (by rw [e58]; exact Ar59.1) (State.isArrayOf_alike hZ.alike Ar59.2.1) Ar59.2.2 hin59 hat59 (g := (mkF m 12 #[.val (.ref ra), .val (.ref rp), .val (.int (1 : Int32))] [(.int (1 : Int32)), (.ref rp)])) rfl rfl (hb hby d_prog_2_method_8_code_12) _ ?_
            show Steps p.tables e below (T58.setTop (mkF m 13 #[.val (.ref ra), .val (.ref rp), .val (.int (1 : Int32))] [(.long u1)])) _
            refine XS.aloadN X58.here hx rfl (hb hby d_prog_2_method_8_code_13) rfl rfl ?_
            show Steps p.tables e below (T58.setTop (mkF m 14 #[.val (.ref ra), .val (.ref rp), .val (.int (1 : Int32))] [(.ref ra), (.long u1)])) _
            refine XS.iloadN X58.here hx rfl (hb hby d_prog_2_method_8_code_14) rfl ?_
            show Steps p.tables e below (T58.setTop (mkF m 15 #[.val (.ref ra), .val (.ref rp), .val (.int (1 : Int32))] [(.int (1 : Int32)), (.ref ra), (.long u1)])) _
            refine st60.trans ?_
            show Steps p.tables e below (T60.setTop (mkF m 18 #[.val (.ref ra), .val (.ref rp), .val (.int (1 : Int32))] [(.long v2), (.long u1)])) _
            refine XS.lcmp X60.here hx rfl (hb hby d_prog_2_method_8_code_18) rfl ?_
            show Steps p.tables e below (T60.setTop (mkF m 19 #[.val (.ref ra), .val (.ref rp), .val (.int (1 : Int32))] [(.int (lcmpW u1 v2))])) _
            refine XS.ifNo X60.here hx rfl (hb hby d_prog_2_method_8_code_19) rfl ((if0 _ _).trans (flt (fun q => h19_61 ((lw_lt _ _).mp q))).1) ?_
            show Steps p.tables e below (T60.setTop (mkF m 22 #[.val (.ref ra), .val (.ref rp), .val (.int (1 : Int32))] [])) _
            refine XS.aloadN X60.here hx rfl (hb hby d_prog_2_method_8_code_22) rfl rfl ?_
            show Steps p.tables e below (T60.setTop (mkF m 23 #[.val (.ref ra), .val (.ref rp), .val (.int (1 : Int32))] [(.ref rp)])) _
            refine XS.iloadN X60.here hx rfl (hb hby d_prog_2_method_8_code_23) rfl ?_
            show Steps p.tables e below (T60.setTop (mkF m 24 #[.val (.ref ra), .val (.ref rp), .val (.int (1 : Int32))] [(.int (1 : Int32)), (.ref rp)])) _
            refine X60.laload hx (j := (1 : Int32)) (v := (.long u1)) (by rw [e60]; exact Ar62.1) (State.isArrayOf_alike hZ.alike Ar62.2.1) Ar62.2.2 hin62 hat62 (g := (mkF m 24 #[.val (.ref ra), .val (.ref rp), .val (.int (1 : Int32))] [(.int (1 : Int32)), (.ref rp)])) rfl rfl (hb hby d_prog_2_method_8_code_24) _ ?_
            show Steps p.tables e below (T60.setTop (mkF m 25 #[.val (.ref ra), .val (.ref rp), .val (.int (1 : Int32))] [(.long u1)])) _
            refine XS.aloadN X60.here hx rfl (hb hby d_prog_2_method_8_code_25) rfl rfl ?_
            show Steps p.tables e below (T60.setTop (mkF m 26 #[.val (.ref ra), .val (.ref rp), .val (.int (1 : Int32))] [(.ref ra), (.long u1)])) _
            refine XS.iloadN X60.here hx rfl (hb hby d_prog_2_method_8_code_26) rfl ?_
            show Steps p.tables e below (T60.setTop (mkF m 27 #[.val (.ref ra), .val (.ref rp), .val (.int (1 : Int32))] [(.int (1 : Int32)), (.ref ra), (.long u1)])) _
            refine st63.trans ?_
            show Steps p.tables e below (T63.setTop (mkF m 30 #[.val (.ref ra), .val (.ref rp), .val (.int (1 : Int32))] [(.long v3), (.long u1)])) _
            refine XS.lcmp X63.here hx rfl (hb hby d_prog_2_method_8_code_30) rfl ?_
            show Steps p.tables e below (T63.setTop (mkF m 31 #[.val (.ref ra), .val (.ref rp), .val (.int (1 : Int32))] [(.int (lcmpW u1 v3))])) _
            refine XS.ifNo X63.here hx rfl (hb hby d_prog_2_method_8_code_31) rfl ((if0 _ _).trans (flt (fun q => h31_64 ((lw_lt _ _).mp q))).1) ?_
            show Steps p.tables e below (T63.setTop (mkF m 34 #[.val (.ref ra), .val (.ref rp), .val (.int (1 : Int32))] [])) _
            refine XS.iconst X63.here hx rfl (hb hby d_prog_2_method_8_code_34) ?_
            show Steps p.tables e below (T63.setTop (mkF m 35 #[.val (.ref ra), .val (.ref rp), .val (.int (1 : Int32))] [(.int (0 : Int32))])) _
            exact retN X63 hx (t := .boolean) Bd.returns (by simp) (hb hby d_prog_2_method_8_code_35) hr
          · show Q_con2 Z ra rp ax ka kq v0 v1 v2 v3 u0 u1 h0 n0 _ T63.heap _
            rw [e63]
            exact ⟨⟨_, rfl, by simp [h19_54, h31_57, h19_61, h31_64]⟩, N63, rfl⟩
    · obtain ⟨fs, hr, hrun, hended, hW, hsame⟩ := X56.leave (v := some (.int (0 : Int32))) (fun h => by rw [Bd.returns] at h; cases h)
      refine ⟨_, _, pre0 _ ?_, hrun, hended, _, _, rfl, ?_, ⟨_, rfl⟩, hW, hsame.mono (by decide) (by decide)⟩
      · show Steps p.tables e below (s₁.setTop (mkF m 0 #[.val (.ref ra), .val (.ref rp), .unset] [])) _
        refine XS.iconst X0.here hx rfl (hb hby d_prog_2_method_8_code_0) ?_
        show Steps p.tables e below (s₁.setTop (mkF m 1 #[.val (.ref ra), .val (.ref rp), .unset] [(.int (0 : Int32))])) _
        refine XS.istoreN X0.here hx rfl (hb hby d_prog_2_method_8_code_1) rfl (l' := #[.val (.ref ra), .val (.ref rp), .val (.int (0 : Int32))]) rfl ?_
        show Steps p.tables e below (s₁.setTop (mkF m 2 #[.val (.ref ra), .val (.ref rp), .val (.int (0 : Int32))] [])) _
        refine XS.iloadN X0.here hx rfl (hb hby d_prog_2_method_8_code_2) rfl ?_
        show Steps p.tables e below (s₁.setTop (mkF m 3 #[.val (.ref ra), .val (.ref rp), .val (.int (0 : Int32))] [(.int (0 : Int32))])) _
        refine XS.aloadN X0.here hx rfl (hb hby d_prog_2_method_8_code_3) rfl rfl ?_
        show Steps p.tables e below (s₁.setTop (mkF m 4 #[.val (.ref ra), .val (.ref rp), .val (.int (0 : Int32))] [(.ref ra), (.int (0 : Int32))])) _
        refine st51.trans ?_
        show Steps p.tables e below (T51.setTop (mkF m 7 #[.val (.ref ra), .val (.ref rp), .val (.int (0 : Int32))] [(.int (2 : Int32)), (.int (0 : Int32))])) _
        refine XS.icmpNo X51.here hx rfl (hb hby d_prog_2_method_8_code_7) rfl (tlt (by decide : (0 : Int32) < (2 : Int32))).2.1 ?_
        show Steps p.tables e below (T51.setTop (mkF m 10 #[.val (.ref ra), .val (.ref rp), .val (.int (0 : Int32))] [])) _
        refine XS.aloadN X51.here hx rfl (hb hby d_prog_2_method_8_code_10) rfl rfl ?_
        show Steps p.tables e below (T51.setTop (mkF m 11 #[.val (.ref ra), .val (.ref rp), .val (.int (0 : Int32))] [(.ref rp)])) _
        refine XS.iloadN X51.here hx rfl (hb hby d_prog_2_method_8_code_11) rfl ?_
        show Steps p.tables e below (T51.setTop (mkF m 12 #[.val (.ref ra), .val (.ref rp), .val (.int (0 : Int32))] [(.int (0 : Int32)), (.ref rp)])) _
        refine X51.laload hx (j := (0 : Int32)) (v := (.long u0)) (by rw [e51]; exact Ar52.1) (State.isArrayOf_alike hZ.alike Ar52.2.1) Ar52.2.2 hin52 hat52 (g := (mkF m 12 #[.val (.ref ra), .val (.ref rp), .val (.int (0 : Int32))] [(.int (0 : Int32)), (.ref rp)])) rfl rfl (hb hby d_prog_2_method_8_code_12) _ ?_
        show Steps p.tables e below (T51.setTop (mkF m 13 #[.val (.ref ra), .val (.ref rp), .val (.int (0 : Int32))] [(.long u0)])) _
        refine XS.aloadN X51.here hx rfl (hb hby d_prog_2_method_8_code_13) rfl rfl ?_
        show Steps p.tables e below (T51.setTop (mkF m 14 #[.val (.ref ra), .val (.ref rp), .val (.int (0 : Int32))] [(.ref ra), (.long u0)])) _
        refine XS.iloadN X51.here hx rfl (hb hby d_prog_2_method_8_code_14) rfl ?_
        show Steps p.tables e below (T51.setTop (mkF m 15 #[.val (.ref ra), .val (.ref rp), .val (.int (0 : Int32))] [(.int (0 : Int32)), (.ref ra), (.long u0)])) _
        refine st53.trans ?_
        show Steps p.tables e below (T53.setTop (mkF m 18 #[.val (.ref ra), .val (.ref rp), .val (.int (0 : Int32))] [(.long v0), (.long u0)])) _
        refine XS.lcmp X53.here hx rfl (hb hby d_prog_2_method_8_code_18) rfl ?_
        show Steps p.tables e below (T53.setTop (mkF m 19 #[.val (.ref ra), .val (.ref rp), .val (.int (0 : Int32))] [(.int (lcmpW u0 v0))])) _
        refine XS.ifNo X53.here hx rfl (hb hby d_prog_2_method_8_code_19) rfl ((if0 _ _).trans (flt (fun q => h19_54 ((lw_lt _ _).mp q))).1) ?_
        show Steps p.tables e below (T53.setTop (mkF m 22 #[.val (.ref ra), .val (.ref rp), .val (.int (0 : Int32))] [])) _
        refine XS.aloadN X53.here hx rfl (hb hby d_prog_2_method_8_code_22) rfl rfl ?_
        show Steps p.tables e below (T53.setTop (mkF m 23 #[.val (.ref ra), .val (.ref rp), .val (.int (0 : Int32))] [(.ref rp)])) _
        refine XS.iloadN X53.here hx rfl (hb hby d_prog_2_method_8_code_23) rfl ?_
        show Steps p.tables e below (T53.setTop (mkF m 24 #[.val (.ref ra), .val (.ref rp), .val (.int (0 : Int32))] [(.int (0 : Int32)), (.ref rp)])) _
        refine X53.laload hx (j := (0 : Int32)) (v := (.long u0)) (by rw [e53]; exact Ar55.1) (State.isArrayOf_alike hZ.alike Ar55.2.1) Ar55.2.2 hin55 hat55 (g := (mkF m 24 #[.val (.ref ra), .val (.ref rp), .val (.int (0 : Int32))] [(.int (0 : Int32)), (.ref rp)])) rfl rfl (hb hby d_prog_2_method_8_code_24) _ ?_
        show Steps p.tables e below (T53.setTop (mkF m 25 #[.val (.ref ra), .val (.ref rp), .val (.int (0 : Int32))] [(.long u0)])) _
        refine XS.aloadN X53.here hx rfl (hb hby d_prog_2_method_8_code_25) rfl rfl ?_
        show Steps p.tables e below (T53.setTop (mkF m 26 #[.val (.ref ra), .val (.ref rp), .val (.int (0 : Int32))] [(.ref ra), (.long u0)])) _
        refine XS.iloadN X53.here hx rfl (hb hby d_prog_2_method_8_code_26) rfl ?_
        show Steps p.tables e below (T53.setTop (mkF m 27 #[.val (.ref ra), .val (.ref rp), .val (.int (0 : Int32))] [(.int (0 : Int32)), (.ref ra), (.long u0)])) _
        refine st56.trans ?_
        show Steps p.tables e below (T56.setTop (mkF m 30 #[.val (.ref ra), .val (.ref rp), .val (.int (0 : Int32))] [(.long v1), (.long u0)])) _
        refine XS.lcmp X56.here hx rfl (hb hby d_prog_2_method_8_code_30) rfl ?_
        show Steps p.tables e below (T56.setTop (mkF m 31 #[.val (.ref ra), .val (.ref rp), .val (.int (0 : Int32))] [(.int (lcmpW u0 v1))])) _
        refine XS.ifNo X56.here hx rfl (hb hby d_prog_2_method_8_code_31) rfl ((if0 _ _).trans (flt (fun q => h31_57 ((lw_lt _ _).mp q))).1) ?_
        show Steps p.tables e below (T56.setTop (mkF m 34 #[.val (.ref ra), .val (.ref rp), .val (.int (0 : Int32))] [])) _
        refine XS.iconst X56.here hx rfl (hb hby d_prog_2_method_8_code_34) ?_
        show Steps p.tables e below (T56.setTop (mkF m 35 #[.val (.ref ra), .val (.ref rp), .val (.int (0 : Int32))] [(.int (0 : Int32))])) _
        exact retN X56 hx (t := .boolean) Bd.returns (by simp) (hb hby d_prog_2_method_8_code_35) hr
      · show Q_con2 Z ra rp ax ka kq v0 v1 v2 v3 u0 u1 h0 n0 _ T56.heap _
        rw [e56]
        exact ⟨⟨_, rfl, by simp [h19_54, h31_57]⟩, N56, rfl⟩
theorem pd_3 : parseMethodDescriptor "([J)V" = some ⟨[(.array .long)], none⟩ := by decide +kernel
theorem pd_4 : parseMethodDescriptor "([J)Z" = some ⟨[(.array .long)], some .boolean⟩ := by decide +kernel
theorem ef_law (m : MethodId) (a0_ : Int64) (a1_ : Int64) (b0_ : Int64) (b1_ : Int64) (vp : Int64) (vq : Int64) : entryFrame m #[(.long a0_), (.long a1_), (.long b0_), (.long b1_), (.long vp), (.long vq)] maxLocals = mkF m 0 #[.val (.long a0_), .second, .val (.long a1_), .second, .val (.long b0_), .second, .val (.long b1_), .second, .val (.long vp), .second, .val (.long vq), .second, .unset, .unset, .unset, .unset, .unset, .unset, .unset, .unset, .unset, .unset, .unset, .unset, .unset, .unset, .unset, .unset, .unset, .unset, .unset] [] := by first | (simp [entryFrame, mkF, argsToLocals, Value.category, maxLocals]; done) | rfl
def Q_law (Z : State) (a0_ : Int64) (a1_ : Int64) (b0_ : Int64) (b1_ : Int64) (vp : Int64) (vq : Int64) (h0 : Heap) (n0 : Nat) (v : Option Value) (h : Heap) (L : List Loc) : Prop := v = some (.int 1) ∧ Fr n0 L
set_option maxRecDepth 65536 in
set_option maxHeartbeats 40000000 in
theorem rm_law (l : Launch) (Z : State) (a0 : Array Value) (hw : ∀ d ∈ tables_1, d.before a0 Z = true) (ws : List Jvm.Cond) (a0_ : Int64) (a1_ : Int64) (b0_ : Int64) (b1_ : Int64) (vp : Int64) (vq : Int64) (h0 : Heap) (n0 : Nat) (Z0 : n0 ≤ h0.size) :
    MetFree l x (head1 (Jvm.Cond.code x code maxLocals ret :: ws) room_1) (fun a U => a = #[(.long a0_), (.long a1_), (.long b0_), (.long b1_), (.long vp), (.long vq)] ∧ Z.Warmed39 U.vm ∧ U.heap = h0) (fun _ _ _ _ _ => True) (fun _ U o U' => ∃ v L, o = .returned v ∧ Q_law Z a0_ a1_ b0_ b1_ vp vq h0 n0 v U'.heap L ∧ FrameEnd U o U' L room_1.cells room_1.slots) := by
  refine MetFree.of_bodySF (plainFor_of_name pn_0) hisR ?_
  intro p e s m args below meth c s₁ Bd hml0 hP hK
  obtain ⟨rfl, hZ, hh⟩ := hP
  have hx := Bd.exec
  have hby := Bd.bytes
  have hml : c.maxLocals = 31 := hml0
  have hown : s.vm.findClass "com/example/chronotriple/chronotriple/BoxContainsPinLaw" = some m.cls := findClass_of_methodNamed Bd.named
  have hnm := (name_of_methodNamed Bd.named Bd.method).1
  have X0 : Stand p l e room_1 s m #[(.long a0_), (.long a1_), (.long b0_), (.long b1_), (.long vp), (.long vq)] below meth c s₁ [] 0 0 := Stand.of_body Bd
  have e0 : s₁.heap = h0 := by rw [← hh, Bd.state]; rfl
  have N0 := Fr.nil n0
  have pre0 : ∀ t, Steps p.tables e below (s₁.setTop (mkF m 0 #[.val (.long a0_), .second, .val (.long a1_), .second, .val (.long b0_), .second, .val (.long b1_), .second, .val (.long vp), .second, .val (.long vq), .second, .unset, .unset, .unset, .unset, .unset, .unset, .unset, .unset, .unset, .unset, .unset, .unset, .unset, .unset, .unset, .unset, .unset, .unset, .unset] [])) t → Steps p.tables e below (s₁.setTop (entryFrame m #[(.long a0_), (.long a1_), (.long b0_), (.long b1_), (.long vp), (.long vq)] maxLocals)) t := fun t k => castTop (ef_law m a0_ a1_ b0_ b1_ vp vq) k
  obtain ⟨_, _, ⟨T66, L66, k66, n66⟩, -, X66, ⟨Lc66, hQ66, l66, y66, z66⟩, st66⟩ := Jvm.LawKit.callS X0 hx (y := (⟨"com/example/chronotriple/chronotriple/BoxContainsPinLaw", "lowOf", "(JJ)J"⟩ : MethodName)) hown (mvT hZ (hw _ (List.mem_of_getElem? (i := 0) rfl))) (mvT hZ (hw _ (List.mem_of_getElem? (i := 1) rfl))) (mvT hZ (hw _ (List.mem_of_getElem? (i := 2) rfl))) (mvT hZ (hw _ (List.mem_of_getElem? (i := 3) rfl))) (by decide) (backOf (W := 0) (rm_low l Z a0 hw [] a0_ a1_ h0 n0 Z0 ) hZ (hw _ (List.mem_of_getElem? (i := 3) rfl)) (hw _ (List.mem_of_getElem? (i := 2) rfl)) (by decide) (by decide)) (g := (mkF m 2 #[.val (.long a0_), .second, .val (.long a1_), .second, .val (.long b0_), .second, .val (.long b1_), .second, .val (.long vp), .second, .val (.long vq), .second, .unset, .unset, .unset, .unset, .unset, .unset, .unset, .unset, .unset, .unset, .unset, .unset, .unset, .unset, .unset, .unset, .unset, .unset, .unset] [(.long a1_), (.long a0_)])) rfl (by rw [hml]; rfl) (argsL := [(.long a0_), (.long a1_)]) (rest := []) (lenOf pd_0 rfl) rfl (by show 2 * 0 + _ ≤ _; exact Nat.le_of_eq rfl) (hb hby at_2) (fun _ _ => ⟨rfl, e0, (by decide : 0 + 0 ≤ _), (by decide : 0 + 0 ≤ _)⟩)
  dsimp only [Pt.U, Pt.locs, Pt.cells, Pt.slots] at X66 l66 y66 z66 st66 hQ66
  subst l66 y66 z66
  obtain ⟨⟨r66, rfl, hr66⟩, N66q, e66⟩ := hQ66
  have N66 := Fr.app N0 N66q
  obtain ⟨_, _, ⟨T67, L67, k67, n67⟩, -, X67, ⟨Lc67, hQ67, l67, y67, z67⟩, st67⟩ := Jvm.LawKit.callS X66 hx (y := (⟨"com/example/chronotriple/chronotriple/BoxContainsPinLaw", "highOf", "(JJ)J"⟩ : MethodName)) hown (mvT hZ (hw _ (List.mem_of_getElem? (i := 8) rfl))) (mvT hZ (hw _ (List.mem_of_getElem? (i := 9) rfl))) (mvT hZ (hw _ (List.mem_of_getElem? (i := 2) rfl))) (mvT hZ (hw _ (List.mem_of_getElem? (i := 10) rfl))) (by decide) (backOf (W := 0) (rm_high l Z a0 hw [] a0_ a1_ h0 n0 Z0 ) hZ (hw _ (List.mem_of_getElem? (i := 10) rfl)) (hw _ (List.mem_of_getElem? (i := 2) rfl)) (by decide) (by decide)) (g := (mkF m 9 #[.val (.long a0_), .second, .val (.long a1_), .second, .val (.long b0_), .second, .val (.long b1_), .second, .val (.long vp), .second, .val (.long vq), .second, .val (.long r66), .second, .unset, .unset, .unset, .unset, .unset, .unset, .unset, .unset, .unset, .unset, .unset, .unset, .unset, .unset, .unset, .unset, .unset] [(.long a1_), (.long a0_)])) rfl (by rw [hml]; rfl) (argsL := [(.long a0_), (.long a1_)]) (rest := []) (lenOf pd_0 rfl) rfl (by show 2 * 0 + _ ≤ _; exact Nat.le_of_eq rfl) (hb hby at_9) (fun _ _ => ⟨rfl, e66, (by decide : 0 + 0 ≤ _), (by decide : 0 + 0 ≤ _)⟩)
  dsimp only [Pt.U, Pt.locs, Pt.cells, Pt.slots] at X67 l67 y67 z67 st67 hQ67
  subst l67 y67 z67
  obtain ⟨⟨r67, rfl, hr67⟩, N67q, e67⟩ := hQ67
  have N67 := Fr.app N66 N67q
  have hlt0 := own_lohi _ _ _ _ hr66 hr67
  obtain ⟨_, _, ⟨T68, L68, k68, n68⟩, -, X68, ⟨Lc68, hQ68, l68, y68, z68⟩, st68⟩ := Jvm.LawKit.callS X67 hx (y := (⟨"com/example/chronotriple/chronotriple/BoxContainsPinLaw", "lowOf", "(JJ)J"⟩ : MethodName)) hown (mvT hZ (hw _ (List.mem_of_getElem? (i := 0) rfl))) (mvT hZ (hw _ (List.mem_of_getElem? (i := 1) rfl))) (mvT hZ (hw _ (List.mem_of_getElem? (i := 2) rfl))) (mvT hZ (hw _ (List.mem_of_getElem? (i := 3) rfl))) (by decide) (backOf (W := 0) (rm_low l Z a0 hw [] b0_ b1_ h0 n0 Z0 ) hZ (hw _ (List.mem_of_getElem? (i := 3) rfl)) (hw _ (List.mem_of_getElem? (i := 2) rfl)) (by decide) (by decide)) (g := (mkF m 18 #[.val (.long a0_), .second, .val (.long a1_), .second, .val (.long b0_), .second, .val (.long b1_), .second, .val (.long vp), .second, .val (.long vq), .second, .val (.long r66), .second, .val (.long r67), .second, .unset, .unset, .unset, .unset, .unset, .unset, .unset, .unset, .unset, .unset, .unset, .unset, .unset, .unset, .unset] [(.long b1_), (.long b0_)])) rfl (by rw [hml]; rfl) (argsL := [(.long b0_), (.long b1_)]) (rest := []) (lenOf pd_0 rfl) rfl (by show 2 * 0 + _ ≤ _; exact Nat.le_of_eq rfl) (hb hby at_18) (fun _ _ => ⟨rfl, e67, (by decide : 0 + 0 ≤ _), (by decide : 0 + 0 ≤ _)⟩)
  dsimp only [Pt.U, Pt.locs, Pt.cells, Pt.slots] at X68 l68 y68 z68 st68 hQ68
  subst l68 y68 z68
  obtain ⟨⟨r68, rfl, hr68⟩, N68q, e68⟩ := hQ68
  have N68 := Fr.app N67 N68q
  obtain ⟨_, _, ⟨T69, L69, k69, n69⟩, -, X69, ⟨Lc69, hQ69, l69, y69, z69⟩, st69⟩ := Jvm.LawKit.callS X68 hx (y := (⟨"com/example/chronotriple/chronotriple/BoxContainsPinLaw", "highOf", "(JJ)J"⟩ : MethodName)) hown (mvT hZ (hw _ (List.mem_of_getElem? (i := 8) rfl))) (mvT hZ (hw _ (List.mem_of_getElem? (i := 9) rfl))) (mvT hZ (hw _ (List.mem_of_getElem? (i := 2) rfl))) (mvT hZ (hw _ (List.mem_of_getElem? (i := 10) rfl))) (by decide) (backOf (W := 0) (rm_high l Z a0 hw [] b0_ b1_ h0 n0 Z0 ) hZ (hw _ (List.mem_of_getElem? (i := 10) rfl)) (hw _ (List.mem_of_getElem? (i := 2) rfl)) (by decide) (by decide)) (g := (mkF m 27 #[.val (.long a0_), .second, .val (.long a1_), .second, .val (.long b0_), .second, .val (.long b1_), .second, .val (.long vp), .second, .val (.long vq), .second, .val (.long r66), .second, .val (.long r67), .second, .val (.long r68), .second, .unset, .unset, .unset, .unset, .unset, .unset, .unset, .unset, .unset, .unset, .unset, .unset, .unset] [(.long b1_), (.long b0_)])) rfl (by rw [hml]; rfl) (argsL := [(.long b0_), (.long b1_)]) (rest := []) (lenOf pd_0 rfl) rfl (by show 2 * 0 + _ ≤ _; exact Nat.le_of_eq rfl) (hb hby at_27) (fun _ _ => ⟨rfl, e68, (by decide : 0 + 0 ≤ _), (by decide : 0 + 0 ≤ _)⟩)
  dsimp only [Pt.U, Pt.locs, Pt.cells, Pt.slots] at X69 l69 y69 z69 st69 hQ69
  subst l69 y69 z69
  obtain ⟨⟨r69, rfl, hr69⟩, N69q, e69⟩ := hQ69
  have N69 := Fr.app N68 N69q
  have hlt1 := own_lohi _ _ _ _ hr68 hr69
  obtain ⟨T70, h70, X70, e70, E70, A70, D70, -, st70⟩ := newO X69 hx hZ hown (hw _ (List.mem_of_getElem? (i := 14) rfl)) (hw _ (List.mem_of_getElem? (i := 15) rfl)) (hw _ (List.mem_of_getElem? (i := 16) rfl)) e69 (g := (mkF m 32 #[.val (.long a0_), .second, .val (.long a1_), .second, .val (.long b0_), .second, .val (.long b1_), .second, .val (.long vp), .second, .val (.long vq), .second, .val (.long r66), .second, .val (.long r67), .second, .val (.long r68), .second, .val (.long r69), .second, .unset, .unset, .unset, .unset, .unset, .unset, .unset, .unset, .unset, .unset, .unset] [])) rfl (hb hby at_32) (by decide) (by decide)
  obtain ⟨b70, g70⟩ : ∃ z, z = h0.size := ⟨_, rfl⟩
  rw [← g70] at A70 D70 st70
  have g_b70 : n0 ≤ b70 := Nat.le_trans Z0 (Nat.le_of_eq g70.symm)
  have Z70 : n0 ≤ h70.size := Nat.le_trans Z0 E70.1
  have Ex_b70_70 := A70
  have Fd_bounds_b70_70 : Fld Z h70 b70 "com/example/chronotriple/chronotriple/Box" "bounds" "[J" .null := D70 (Or.inr (hw _ (List.mem_of_getElem? (i := 34) rfl))) (ty := (.array .long)) (by decide)
  obtain ⟨T71, h71, k71, X71, e71, E71, A71, B71, st71⟩ := newPE X70 hx hZ (hw _ (List.mem_of_getElem? (i := 17) rfl)) e70 (g := (mkF m 37 #[.val (.long a0_), .second, .val (.long a1_), .second, .val (.long b0_), .second, .val (.long b1_), .second, .val (.long vp), .second, .val (.long vq), .second, .val (.long r66), .second, .val (.long r67), .second, .val (.long r68), .second, .val (.long r69), .second, .unset, .unset, .unset, .unset, .unset, .unset, .unset, .unset, .unset, .unset, .unset] [(.int (4 : Int32)), (.ref b70), (.ref b70)])) rfl (hb hby at_37) rfl (by decide) (cap := 4) (by decide) (by decide) (by decide) (by decide) (ad := "[J") (by decide)
  obtain ⟨b71, g71⟩ : ∃ z, z = h70.size := ⟨_, rfl⟩
  rw [← g71] at A71 B71 st71
  have ne_b70_b71 : b70 ≠ b71 := Nat.ne_of_lt (Nat.lt_of_lt_of_le Ex_b70_70.lt (Nat.le_of_eq g71.symm))
  have g_b71 : n0 ≤ b71 := Nat.le_trans Z70 (Nat.le_of_eq g71.symm)
  have Ex_b70_70_c71 := Ex_b70_70.ext E71
  have Fd_bounds_b70_70_c71 := Fd_bounds_b70_70.ext E71
  have Z71 : n0 ≤ h71.size := Nat.le_trans Z70 E71.1
  have Av_b71_71 : Arv Z h71 b71 k71 .long (4 : Int32) [(.long (0 : Int64)), (.long (0 : Int64)), (.long (0 : Int64)), (.long (0 : Int64))] (.long (0 : Int64)) := (Arv.new A71 (by decide)).pad (pad_rep [] (.long (0 : Int64)) 4)
  have Ex_b71_71 := B71
  obtain ⟨cl72, Ar72, q72, S72, N72a, H72, G72⟩ := id Av_b71_71
  have hin72 : ¬ ((0 : Int32) < 0 ∨ cl72.slots.size ≤ ((0 : Int32)).toNatClampNeg) := inb_of S72 ⟨by decide, by decide⟩
  obtain ⟨T72, h72, X72, e72, W72, st72⟩ := stJ X71 hx hZ e71 Ar72 (j := (0 : Int32)) hin72 (g := (mkF m 43 #[.val (.long a0_), .second, .val (.long a1_), .second, .val (.long b0_), .second, .val (.long b1_), .second, .val (.long vp), .second, .val (.long vq), .second, .val (.long r66), .second, .val (.long r67), .second, .val (.long r68), .second, .val (.long r69), .second, .unset, .unset, .unset, .unset, .unset, .unset, .unset, .unset, .unset, .unset, .unset] [(.long r66), (.int (0 : Int32)), (.ref b71), (.ref b71), (.ref b70), (.ref b70)])) rfl rfl (hb hby at_43)
  have Av_b71_72 : Arv Z h72 b71 k71 .long (4 : Int32) [(.long r66), (.long (0 : Int64)), (.long (0 : Int64)), (.long (0 : Int64))] (.long (0 : Int64)) := Arv.set Ar72 q72 S72 N72a H72 G72 rfl W72 0 rfl (Nat.le_of_ble_eq_true rfl)
  have Ex_b70_70_c72 := Ex_b70_70_c71.wr W72
  have Fd_bounds_b70_70_c72 := Fd_bounds_b70_70_c71.other W72 (Or.inl ne_b70_b71)
  have Ex_b71_71_c72 := Ex_b71_71.wr W72
  have Z72 : n0 ≤ h72.size := Nat.le_trans Z71 (Keep.of_wr W72).1
  have N72 := Fr.snoc X72 N69 g_b71
  obtain ⟨cl73, Ar73, q73, S73, N73a, H73, G73⟩ := id Av_b71_72
  have hin73 : ¬ ((1 : Int32) < 0 ∨ cl73.slots.size ≤ ((1 : Int32)).toNatClampNeg) := inb_of S73 ⟨by decide, by decide⟩
  obtain ⟨T73, h73, X73, e73, W73, st73⟩ := stJ X72 hx hZ e72 Ar73 (j := (1 : Int32)) hin73 (g := (mkF m 48 #[.val (.long a0_), .second, .val (.long a1_), .second, .val (.long b0_), .second, .val (.long b1_), .second, .val (.long vp), .second, .val (.long vq), .second, .val (.long r66), .second, .val (.long r67), .second, .val (.long r68), .second, .val (.long r69), .second, .unset, .unset, .unset, .unset, .unset, .unset, .unset, .unset, .unset, .unset, .unset] [(.long r67), (.int (1 : Int32)), (.ref b71), (.ref b71), (.ref b70), (.ref b70)])) rfl rfl (hb hby at_48)
  have Av_b71_73 : Arv Z h73 b71 k71 .long (4 : Int32) [(.long r66), (.long r67), (.long (0 : Int64)), (.long (0 : Int64))] (.long (0 : Int64)) := Arv.set Ar73 q73 S73 N73a H73 G73 rfl W73 1 rfl (Nat.le_of_ble_eq_true rfl)
  have Ex_b70_70_c73 := Ex_b70_70_c72.wr W73
  have Fd_bounds_b70_70_c73 := Fd_bounds_b70_70_c72.other W73 (Or.inl ne_b70_b71)
  have Ex_b71_71_c73 := Ex_b71_71_c72.wr W73
  have Z73 : n0 ≤ h73.size := Nat.le_trans Z72 (Keep.of_wr W73).1
  have N73 := Fr.snoc X73 N72 g_b71
  obtain ⟨cl74, Ar74, q74, S74, N74a, H74, G74⟩ := id Av_b71_73
  have hin74 : ¬ ((2 : Int32) < 0 ∨ cl74.slots.size ≤ ((2 : Int32)).toNatClampNeg) := inb_of S74 ⟨by decide, by decide⟩
  obtain ⟨T74, h74, X74, e74, W74, st74⟩ := stJ X73 hx hZ e73 Ar74 (j := (2 : Int32)) hin74 (g := (mkF m 53 #[.val (.long a0_), .second, .val (.long a1_), .second, .val (.long b0_), .second, .val (.long b1_), .second, .val (.long vp), .second, .val (.long vq), .second, .val (.long r66), .second, .val (.long r67), .second, .val (.long r68), .second, .val (.long r69), .second, .unset, .unset, .unset, .unset, .unset, .unset, .unset, .unset, .unset, .unset, .unset] [(.long r68), (.int (2 : Int32)), (.ref b71), (.ref b71), (.ref b70), (.ref b70)])) rfl rfl (hb hby at_53)
  have Av_b71_74 : Arv Z h74 b71 k71 .long (4 : Int32) [(.long r66), (.long r67), (.long r68), (.long (0 : Int64))] (.long (0 : Int64)) := Arv.set Ar74 q74 S74 N74a H74 G74 rfl W74 2 rfl (Nat.le_of_ble_eq_true rfl)
  have Ex_b70_70_c74 := Ex_b70_70_c73.wr W74
  have Fd_bounds_b70_70_c74 := Fd_bounds_b70_70_c73.other W74 (Or.inl ne_b70_b71)
  have Ex_b71_71_c74 := Ex_b71_71_c73.wr W74
  have Z74 : n0 ≤ h74.size := Nat.le_trans Z73 (Keep.of_wr W74).1
  have N74 := Fr.snoc X74 N73 g_b71
  obtain ⟨cl75, Ar75, q75, S75, N75a, H75, G75⟩ := id Av_b71_74
  have hin75 : ¬ ((3 : Int32) < 0 ∨ cl75.slots.size ≤ ((3 : Int32)).toNatClampNeg) := inb_of S75 ⟨by decide, by decide⟩
  obtain ⟨T75, h75, X75, e75, W75, st75⟩ := stJ X74 hx hZ e74 Ar75 (j := (3 : Int32)) hin75 (g := (mkF m 58 #[.val (.long a0_), .second, .val (.long a1_), .second, .val (.long b0_), .second, .val (.long b1_), .second, .val (.long vp), .second, .val (.long vq), .second, .val (.long r66), .second, .val (.long r67), .second, .val (.long r68), .second, .val (.long r69), .second, .unset, .unset, .unset, .unset, .unset, .unset, .unset, .unset, .unset, .unset, .unset] [(.long r69), (.int (3 : Int32)), (.ref b71), (.ref b71), (.ref b70), (.ref b70)])) rfl rfl (hb hby at_58)
  have Av_b71_75 : Arv Z h75 b71 k71 .long (4 : Int32) [(.long r66), (.long r67), (.long r68), (.long r69)] (.long (0 : Int64)) := Arv.set Ar75 q75 S75 N75a H75 G75 rfl W75 3 rfl (Nat.le_of_ble_eq_true rfl)
  have Ex_b70_70_c75 := Ex_b70_70_c74.wr W75
  have Fd_bounds_b70_70_c75 := Fd_bounds_b70_70_c74.other W75 (Or.inl ne_b70_b71)
  have Ex_b71_71_c75 := Ex_b71_71_c74.wr W75
  have Z75 : n0 ≤ h75.size := Nat.le_trans Z74 (Keep.of_wr W75).1
  have N75 := Fr.snoc X75 N74 g_b71
  obtain ⟨_, _, ⟨T76, L76, k76, n76⟩, -, X76, ⟨Lc76, hQ76, l76, y76, z76⟩, st76⟩ := X75.specialBack hx (y := (⟨"com/example/chronotriple/chronotriple/Box", "<init>", "([J)V"⟩ : MethodName)) rfl hown (mvT hZ (hw _ (List.mem_of_getElem? (i := 18) rfl))) (mvT hZ (hw _ (List.mem_of_getElem? (i := 19) rfl))) (mvT hZ (hw _ (List.mem_of_getElem? (i := 20) rfl))) (by decide) (backOf (W := 1) (rm_ini4 l Z a0 hw [] b70 b71 k71 r66 r67 r68 r69 h75 n0 Z75 Ex_b70_70_c75 Fd_bounds_b70_70_c75 Av_b71_75 Ex_b71_71_c75 g_b70 (Ne.symm ne_b70_b71) hlt0 hlt1) hZ (hw _ (List.mem_of_getElem? (i := 20) rfl)) (hw _ (List.mem_of_getElem? (i := 16) rfl)) (by decide) (by decide)) (g := (mkF m 59 #[.val (.long a0_), .second, .val (.long a1_), .second, .val (.long b0_), .second, .val (.long b1_), .second, .val (.long vp), .second, .val (.long vq), .second, .val (.long r66), .second, .val (.long r67), .second, .val (.long r68), .second, .val (.long r69), .second, .unset, .unset, .unset, .unset, .unset, .unset, .unset, .unset, .unset, .unset, .unset] [(.ref b71), (.ref b70), (.ref b70)])) rfl (by rw [hml]; rfl) (Steps.refl _) (a := b70) (argsL := [(.ref b71)]) (rest := [(.ref b70)]) (lenOf pd_3 rfl) rfl (by show 2 * 0 + _ ≤ _; exact Nat.le_of_eq rfl) (hb hby at_59) (fun _ _ => ⟨rfl, e75, (by decide : 2 + 1 ≤ _), (by decide : 5 + 4 ≤ _)⟩)
  dsimp only [Pt.U, Pt.locs, Pt.cells, Pt.slots] at X76 l76 y76 z76 st76 hQ76
  subst l76 y76 z76
  obtain ⟨rfl, N76q, K76, ⟨cb76, ck76, cg76, cs76, Fq_76, Aq_76, Eq_76⟩⟩ := hQ76
  have N76 := Fr.app N75 N76q
  have Ex_b70_70_c76 := Ex_b70_70_c75.keep K76
  have Ex_b71_71_c76 := Ex_b71_71_c75.keep K76
  have Av_b71_75_c76 := Av_b71_75.keep K76 (ninS (Ne.symm ne_b70_b71) nin0)
  have Z76 : n0 ≤ T76.heap.size := Nat.le_trans Z75 K76.1
  have ne_b70_cb76 : b70 ≠ cb76 := Nat.ne_of_lt (Nat.lt_of_lt_of_le Ex_b70_70_c75.lt cs76)
  have ne_b71_cb76 : b71 ≠ cb76 := Nat.ne_of_lt (Nat.lt_of_lt_of_le Ex_b71_71_c75.lt cs76)
  obtain ⟨T77, h77, X77, e77, E77, A77, D77, -, st77⟩ := newO X76 hx hZ hown (hw _ (List.mem_of_getElem? (i := 14) rfl)) (hw _ (List.mem_of_getElem? (i := 15) rfl)) (hw _ (List.mem_of_getElem? (i := 16) rfl)) rfl (g := (mkF m 64 #[.val (.long a0_), .second, .val (.long a1_), .second, .val (.long b0_), .second, .val (.long b1_), .second, .val (.long vp), .second, .val (.long vq), .second, .val (.long r66), .second, .val (.long r67), .second, .val (.long r68), .second, .val (.long r69), .second, .val (.ref b70), .unset, .unset, .unset, .unset, .unset, .unset, .unset, .unset, .unset, .unset] [])) rfl (hb hby at_64) (by decide) (by decide)
  obtain ⟨b77, g77⟩ : ∃ z, z = T76.heap.size := ⟨_, rfl⟩
  rw [← g77] at A77 D77 st77
  have ne_b70_b77 : b70 ≠ b77 := Nat.ne_of_lt (Nat.lt_of_lt_of_le Ex_b70_70_c76.lt (Nat.le_of_eq g77.symm))
  have ne_b71_b77 : b71 ≠ b77 := Nat.ne_of_lt (Nat.lt_of_lt_of_le Ex_b71_71_c76.lt (Nat.le_of_eq g77.symm))
  have ne_cb76_b77 : cb76 ≠ b77 := Nat.ne_of_lt (Nat.lt_of_lt_of_le Aq_76.lt (Nat.le_of_eq g77.symm))
  have g_b77 : n0 ≤ b77 := Nat.le_trans Z76 (Nat.le_of_eq g77.symm)
  have Ex_b70_70_c77 := Ex_b70_70_c76.ext E77
  have Ex_b71_71_c77 := Ex_b71_71_c76.ext E77
  have Av_b71_75_c77 := Av_b71_75_c76.ext E77
  have Fq_76_c77 := Fq_76.ext E77
  have Aq_76_c77 := Aq_76.ext E77
  have Eq_76_c77 := Eq_76.ext E77
  have Z77 : n0 ≤ h77.size := Nat.le_trans Z76 E77.1
  have Ex_b77_77 := A77
  have Fd_bounds_b77_77 : Fld Z h77 b77 "com/example/chronotriple/chronotriple/Box" "bounds" "[J" .null := D77 (Or.inr (hw _ (List.mem_of_getElem? (i := 34) rfl))) (ty := (.array .long)) (by decide)
  obtain ⟨T78, h78, k78, X78, e78, E78, A78, B78, st78⟩ := newPE X77 hx hZ (hw _ (List.mem_of_getElem? (i := 17) rfl)) e77 (g := (mkF m 69 #[.val (.long a0_), .second, .val (.long a1_), .second, .val (.long b0_), .second, .val (.long b1_), .second, .val (.long vp), .second, .val (.long vq), .second, .val (.long r66), .second, .val (.long r67), .second, .val (.long r68), .second, .val (.long r69), .second, .val (.ref b70), .unset, .unset, .unset, .unset, .unset, .unset, .unset, .unset, .unset, .unset] [(.int (2 : Int32)), (.ref b77), (.ref b77)])) rfl (hb hby at_69) rfl (by decide) (cap := 2) (by decide) (by decide) (by decide) (by decide) (ad := "[J") (by decide)
  obtain ⟨b78, g78⟩ : ∃ z, z = h77.size := ⟨_, rfl⟩
  rw [← g78] at A78 B78 st78
  have ne_b70_b78 : b70 ≠ b78 := Nat.ne_of_lt (Nat.lt_of_lt_of_le Ex_b70_70_c77.lt (Nat.le_of_eq g78.symm))
  have ne_b71_b78 : b71 ≠ b78 := Nat.ne_of_lt (Nat.lt_of_lt_of_le Ex_b71_71_c77.lt (Nat.le_of_eq g78.symm))
  have ne_cb76_b78 : cb76 ≠ b78 := Nat.ne_of_lt (Nat.lt_of_lt_of_le Aq_76_c77.lt (Nat.le_of_eq g78.symm))
  have ne_b77_b78 : b77 ≠ b78 := Nat.ne_of_lt (Nat.lt_of_lt_of_le Ex_b77_77.lt (Nat.le_of_eq g78.symm))
  have g_b78 : n0 ≤ b78 := Nat.le_trans Z77 (Nat.le_of_eq g78.symm)
  have Ex_b70_70_c78 := Ex_b70_70_c77.ext E78
  have Ex_b71_71_c78 := Ex_b71_71_c77.ext E78
  have Av_b71_75_c78 := Av_b71_75_c77.ext E78
  have Fq_76_c78 := Fq_76_c77.ext E78
  have Aq_76_c78 := Aq_76_c77.ext E78
  have Eq_76_c78 := Eq_76_c77.ext E78
  have Ex_b77_77_c78 := Ex_b77_77.ext E78
  have Fd_bounds_b77_77_c78 := Fd_bounds_b77_77.ext E78
  have Z78 : n0 ≤ h78.size := Nat.le_trans Z77 E78.1
  have Av_b78_78 : Arv Z h78 b78 k78 .long (2 : Int32) [(.long (0 : Int64)), (.long (0 : Int64))] (.long (0 : Int64)) := (Arv.new A78 (by decide)).pad (pad_rep [] (.long (0 : Int64)) 2)
  have Ex_b78_78 := B78
  obtain ⟨cl79, Ar79, q79, S79, N79a, H79, G79⟩ := id Av_b78_78
  have hin79 : ¬ ((0 : Int32) < 0 ∨ cl79.slots.size ≤ ((0 : Int32)).toNatClampNeg) := inb_of S79 ⟨by decide, by decide⟩
  obtain ⟨T79, h79, X79, e79, W79, st79⟩ := stJ X78 hx hZ e78 Ar79 (j := (0 : Int32)) hin79 (g := (mkF m 75 #[.val (.long a0_), .second, .val (.long a1_), .second, .val (.long b0_), .second, .val (.long b1_), .second, .val (.long vp), .second, .val (.long vq), .second, .val (.long r66), .second, .val (.long r67), .second, .val (.long r68), .second, .val (.long r69), .second, .val (.ref b70), .unset, .unset, .unset, .unset, .unset, .unset, .unset, .unset, .unset, .unset] [(.long r66), (.int (0 : Int32)), (.ref b78), (.ref b78), (.ref b77), (.ref b77)])) rfl rfl (hb hby at_75)
  have Av_b78_79 : Arv Z h79 b78 k78 .long (2 : Int32) [(.long r66), (.long (0 : Int64))] (.long (0 : Int64)) := Arv.set Ar79 q79 S79 N79a H79 G79 rfl W79 0 rfl (Nat.le_of_ble_eq_true rfl)
  have Ex_b70_70_c79 := Ex_b70_70_c78.wr W79
  have Ex_b71_71_c79 := Ex_b71_71_c78.wr W79
  have Av_b71_75_c79 := Av_b71_75_c78.other W79 ne_b71_b78
  have Fq_76_c79 := Fq_76_c78.other W79 (Or.inl ne_b70_b78)
  have Aq_76_c79 := Aq_76_c78.other W79 ne_cb76_b78
  have Eq_76_c79 := Eq_76_c78.wr W79
  have Ex_b77_77_c79 := Ex_b77_77_c78.wr W79
  have Fd_bounds_b77_77_c79 := Fd_bounds_b77_77_c78.other W79 (Or.inl ne_b77_b78)
  have Ex_b78_78_c79 := Ex_b78_78.wr W79
  have Z79 : n0 ≤ h79.size := Nat.le_trans Z78 (Keep.of_wr W79).1
  have N79 := Fr.snoc X79 N76 g_b78
  obtain ⟨cl80, Ar80, q80, S80, N80a, H80, G80⟩ := id Av_b78_79
  have hin80 : ¬ ((1 : Int32) < 0 ∨ cl80.slots.size ≤ ((1 : Int32)).toNatClampNeg) := inb_of S80 ⟨by decide, by decide⟩
  obtain ⟨T80, h80, X80, e80, W80, st80⟩ := stJ X79 hx hZ e79 Ar80 (j := (1 : Int32)) hin80 (g := (mkF m 80 #[.val (.long a0_), .second, .val (.long a1_), .second, .val (.long b0_), .second, .val (.long b1_), .second, .val (.long vp), .second, .val (.long vq), .second, .val (.long r66), .second, .val (.long r67), .second, .val (.long r68), .second, .val (.long r69), .second, .val (.ref b70), .unset, .unset, .unset, .unset, .unset, .unset, .unset, .unset, .unset, .unset] [(.long r67), (.int (1 : Int32)), (.ref b78), (.ref b78), (.ref b77), (.ref b77)])) rfl rfl (hb hby at_80)
  have Av_b78_80 : Arv Z h80 b78 k78 .long (2 : Int32) [(.long r66), (.long r67)] (.long (0 : Int64)) := Arv.set Ar80 q80 S80 N80a H80 G80 rfl W80 1 rfl (Nat.le_of_ble_eq_true rfl)
  have Ex_b70_70_c80 := Ex_b70_70_c79.wr W80
  have Ex_b71_71_c80 := Ex_b71_71_c79.wr W80
  have Av_b71_75_c80 := Av_b71_75_c79.other W80 ne_b71_b78
  have Fq_76_c80 := Fq_76_c79.other W80 (Or.inl ne_b70_b78)
  have Aq_76_c80 := Aq_76_c79.other W80 ne_cb76_b78
  have Eq_76_c80 := Eq_76_c79.wr W80
  have Ex_b77_77_c80 := Ex_b77_77_c79.wr W80
  have Fd_bounds_b77_77_c80 := Fd_bounds_b77_77_c79.other W80 (Or.inl ne_b77_b78)
  have Ex_b78_78_c80 := Ex_b78_78_c79.wr W80
  have Z80 : n0 ≤ h80.size := Nat.le_trans Z79 (Keep.of_wr W80).1
  have N80 := Fr.snoc X80 N79 g_b78
  obtain ⟨_, _, ⟨T81, L81, k81, n81⟩, -, X81, ⟨Lc81, hQ81, l81, y81, z81⟩, st81⟩ := X80.specialBack hx (y := (⟨"com/example/chronotriple/chronotriple/Box", "<init>", "([J)V"⟩ : MethodName)) rfl hown (mvT hZ (hw _ (List.mem_of_getElem? (i := 18) rfl))) (mvT hZ (hw _ (List.mem_of_getElem? (i := 19) rfl))) (mvT hZ (hw _ (List.mem_of_getElem? (i := 20) rfl))) (by decide) (backOf (W := 1) (rm_ini2 l Z a0 hw [] b77 b78 k78 r66 r67 h80 n0 Z80 Ex_b77_77_c80 Fd_bounds_b77_77_c80 Av_b78_80 Ex_b78_78_c80 g_b77 (Ne.symm ne_b77_b78) hlt0) hZ (hw _ (List.mem_of_getElem? (i := 20) rfl)) (hw _ (List.mem_of_getElem? (i := 16) rfl)) (by decide) (by decide)) (g := (mkF m 81 #[.val (.long a0_), .second, .val (.long a1_), .second, .val (.long b0_), .second, .val (.long b1_), .second, .val (.long vp), .second, .val (.long vq), .second, .val (.long r66), .second, .val (.long r67), .second, .val (.long r68), .second, .val (.long r69), .second, .val (.ref b70), .unset, .unset, .unset, .unset, .unset, .unset, .unset, .unset, .unset, .unset] [(.ref b78), (.ref b77), (.ref b77)])) rfl (by rw [hml]; rfl) (Steps.refl _) (a := b77) (argsL := [(.ref b78)]) (rest := [(.ref b77)]) (lenOf pd_3 rfl) rfl (by show 2 * 0 + _ ≤ _; exact Nat.le_of_eq rfl) (hb hby at_81) (fun _ _ => ⟨rfl, e80, (by decide : 5 + 1 ≤ _), (by decide : 12 + 2 ≤ _)⟩)
  dsimp only [Pt.U, Pt.locs, Pt.cells, Pt.slots] at X81 l81 y81 z81 st81 hQ81
  subst l81 y81 z81
  obtain ⟨rfl, N81q, K81, ⟨cb81, ck81, cg81, cs81, Fq_81, Aq_81, Eq_81⟩⟩ := hQ81
  have N81 := Fr.app N80 N81q
  have Ex_b70_70_c81 := Ex_b70_70_c80.keep K81
  have Ex_b71_71_c81 := Ex_b71_71_c80.keep K81
  have Av_b71_75_c81 := Av_b71_75_c80.keep K81 (ninS ne_b71_b77 nin0)
  have Fq_76_c81 := Fq_76_c80.keep K81 (ninS ne_b70_b77 nin0)
  have Aq_76_c81 := Aq_76_c80.keep K81 (ninS ne_cb76_b77 nin0)
  have Eq_76_c81 := Eq_76_c80.keep K81
  have Ex_b77_77_c81 := Ex_b77_77_c80.keep K81
  have Ex_b78_78_c81 := Ex_b78_78_c80.keep K81
  have Av_b78_80_c81 := Av_b78_80.keep K81 (ninS (Ne.symm ne_b77_b78) nin0)
  have Z81 : n0 ≤ T81.heap.size := Nat.le_trans Z80 K81.1
  have ne_b70_cb81 : b70 ≠ cb81 := Nat.ne_of_lt (Nat.lt_of_lt_of_le Ex_b70_70_c80.lt cs81)
  have ne_b71_cb81 : b71 ≠ cb81 := Nat.ne_of_lt (Nat.lt_of_lt_of_le Ex_b71_71_c80.lt cs81)
  have ne_cb76_cb81 : cb76 ≠ cb81 := Nat.ne_of_lt (Nat.lt_of_lt_of_le Aq_76_c80.lt cs81)
  have ne_b77_cb81 : b77 ≠ cb81 := Nat.ne_of_lt (Nat.lt_of_lt_of_le Ex_b77_77_c80.lt cs81)
  have ne_b78_cb81 : b78 ≠ cb81 := Nat.ne_of_lt (Nat.lt_of_lt_of_le Ex_b78_78_c80.lt cs81)
  obtain ⟨T82, h82, X82, e82, E82, A82, D82, -, st82⟩ := newO X81 hx hZ hown (hw _ (List.mem_of_getElem? (i := 14) rfl)) (hw _ (List.mem_of_getElem? (i := 15) rfl)) (hw _ (List.mem_of_getElem? (i := 16) rfl)) rfl (g := (mkF m 86 #[.val (.long a0_), .second, .val (.long a1_), .second, .val (.long b0_), .second, .val (.long b1_), .second, .val (.long vp), .second, .val (.long vq), .second, .val (.long r66), .second, .val (.long r67), .second, .val (.long r68), .second, .val (.long r69), .second, .val (.ref b70), .val (.ref b77), .unset, .unset, .unset, .unset, .unset, .unset, .unset, .unset, .unset] [])) rfl (hb hby at_86) (by decide) (by decide)
  obtain ⟨b82, g82⟩ : ∃ z, z = T81.heap.size := ⟨_, rfl⟩
  rw [← g82] at A82 D82 st82
  have ne_b70_b82 : b70 ≠ b82 := Nat.ne_of_lt (Nat.lt_of_lt_of_le Ex_b70_70_c81.lt (Nat.le_of_eq g82.symm))
  have ne_b71_b82 : b71 ≠ b82 := Nat.ne_of_lt (Nat.lt_of_lt_of_le Ex_b71_71_c81.lt (Nat.le_of_eq g82.symm))
  have ne_cb76_b82 : cb76 ≠ b82 := Nat.ne_of_lt (Nat.lt_of_lt_of_le Aq_76_c81.lt (Nat.le_of_eq g82.symm))
  have ne_b77_b82 : b77 ≠ b82 := Nat.ne_of_lt (Nat.lt_of_lt_of_le Ex_b77_77_c81.lt (Nat.le_of_eq g82.symm))
  have ne_b78_b82 : b78 ≠ b82 := Nat.ne_of_lt (Nat.lt_of_lt_of_le Ex_b78_78_c81.lt (Nat.le_of_eq g82.symm))
  have ne_cb81_b82 : cb81 ≠ b82 := Nat.ne_of_lt (Nat.lt_of_lt_of_le Aq_81.lt (Nat.le_of_eq g82.symm))
  have g_b82 : n0 ≤ b82 := Nat.le_trans Z81 (Nat.le_of_eq g82.symm)
  have Ex_b70_70_c82 := Ex_b70_70_c81.ext E82
  have Ex_b71_71_c82 := Ex_b71_71_c81.ext E82
  have Av_b71_75_c82 := Av_b71_75_c81.ext E82
  have Fq_76_c82 := Fq_76_c81.ext E82
  have Aq_76_c82 := Aq_76_c81.ext E82
  have Eq_76_c82 := Eq_76_c81.ext E82
  have Ex_b77_77_c82 := Ex_b77_77_c81.ext E82
  have Ex_b78_78_c82 := Ex_b78_78_c81.ext E82
  have Av_b78_80_c82 := Av_b78_80_c81.ext E82
  have Fq_81_c82 := Fq_81.ext E82
  have Aq_81_c82 := Aq_81.ext E82
  have Eq_81_c82 := Eq_81.ext E82
  have Z82 : n0 ≤ h82.size := Nat.le_trans Z81 E82.1
  have Ex_b82_82 := A82
  have Fd_bounds_b82_82 : Fld Z h82 b82 "com/example/chronotriple/chronotriple/Box" "bounds" "[J" .null := D82 (Or.inr (hw _ (List.mem_of_getElem? (i := 34) rfl))) (ty := (.array .long)) (by decide)
  obtain ⟨T83, h83, k83, X83, e83, E83, A83, B83, st83⟩ := newPE X82 hx hZ (hw _ (List.mem_of_getElem? (i := 17) rfl)) e82 (g := (mkF m 91 #[.val (.long a0_), .second, .val (.long a1_), .second, .val (.long b0_), .second, .val (.long b1_), .second, .val (.long vp), .second, .val (.long vq), .second, .val (.long r66), .second, .val (.long r67), .second, .val (.long r68), .second, .val (.long r69), .second, .val (.ref b70), .val (.ref b77), .unset, .unset, .unset, .unset, .unset, .unset, .unset, .unset, .unset] [(.int (0 : Int32)), (.ref b82), (.ref b82)])) rfl (hb hby at_91) rfl (by decide) (cap := 0) (by decide) (by decide) (by decide) (by decide) (ad := "[J") (by decide)
  obtain ⟨b83, g83⟩ : ∃ z, z = h82.size := ⟨_, rfl⟩
  rw [← g83] at A83 B83 st83
  have ne_b70_b83 : b70 ≠ b83 := Nat.ne_of_lt (Nat.lt_of_lt_of_le Ex_b70_70_c82.lt (Nat.le_of_eq g83.symm))
  have ne_b71_b83 : b71 ≠ b83 := Nat.ne_of_lt (Nat.lt_of_lt_of_le Ex_b71_71_c82.lt (Nat.le_of_eq g83.symm))
  have ne_cb76_b83 : cb76 ≠ b83 := Nat.ne_of_lt (Nat.lt_of_lt_of_le Aq_76_c82.lt (Nat.le_of_eq g83.symm))
  have ne_b77_b83 : b77 ≠ b83 := Nat.ne_of_lt (Nat.lt_of_lt_of_le Ex_b77_77_c82.lt (Nat.le_of_eq g83.symm))
  have ne_b78_b83 : b78 ≠ b83 := Nat.ne_of_lt (Nat.lt_of_lt_of_le Ex_b78_78_c82.lt (Nat.le_of_eq g83.symm))
  have ne_cb81_b83 : cb81 ≠ b83 := Nat.ne_of_lt (Nat.lt_of_lt_of_le Aq_81_c82.lt (Nat.le_of_eq g83.symm))
  have ne_b82_b83 : b82 ≠ b83 := Nat.ne_of_lt (Nat.lt_of_lt_of_le Ex_b82_82.lt (Nat.le_of_eq g83.symm))
  have g_b83 : n0 ≤ b83 := Nat.le_trans Z82 (Nat.le_of_eq g83.symm)
  have Ex_b70_70_c83 := Ex_b70_70_c82.ext E83
  have Ex_b71_71_c83 := Ex_b71_71_c82.ext E83
  have Av_b71_75_c83 := Av_b71_75_c82.ext E83
  have Fq_76_c83 := Fq_76_c82.ext E83
  have Aq_76_c83 := Aq_76_c82.ext E83
  have Eq_76_c83 := Eq_76_c82.ext E83
  have Ex_b77_77_c83 := Ex_b77_77_c82.ext E83
  have Ex_b78_78_c83 := Ex_b78_78_c82.ext E83
  have Av_b78_80_c83 := Av_b78_80_c82.ext E83
  have Fq_81_c83 := Fq_81_c82.ext E83
  have Aq_81_c83 := Aq_81_c82.ext E83
  have Eq_81_c83 := Eq_81_c82.ext E83
  have Ex_b82_82_c83 := Ex_b82_82.ext E83
  have Fd_bounds_b82_82_c83 := Fd_bounds_b82_82.ext E83
  have Z83 : n0 ≤ h83.size := Nat.le_trans Z82 E83.1
  have Av_b83_83 : Arv Z h83 b83 k83 .long (0 : Int32) [] (.long (0 : Int64)) := Arv.new A83 (by decide)
  have Ex_b83_83 := B83
  obtain ⟨_, _, ⟨T84, L84, k84, n84⟩, -, X84, ⟨Lc84, hQ84, l84, y84, z84⟩, st84⟩ := X83.specialBack hx (y := (⟨"com/example/chronotriple/chronotriple/Box", "<init>", "([J)V"⟩ : MethodName)) rfl hown (mvT hZ (hw _ (List.mem_of_getElem? (i := 18) rfl))) (mvT hZ (hw _ (List.mem_of_getElem? (i := 19) rfl))) (mvT hZ (hw _ (List.mem_of_getElem? (i := 20) rfl))) (by decide) (backOf (W := 1) (rm_ini0 l Z a0 hw [] b82 b83 k83 h83 n0 Z83 Ex_b82_82_c83 Fd_bounds_b82_82_c83 Av_b83_83 Ex_b83_83 g_b82 (Ne.symm ne_b82_b83)) hZ (hw _ (List.mem_of_getElem? (i := 20) rfl)) (hw _ (List.mem_of_getElem? (i := 16) rfl)) (by decide) (by decide)) (g := (mkF m 93 #[.val (.long a0_), .second, .val (.long a1_), .second, .val (.long b0_), .second, .val (.long b1_), .second, .val (.long vp), .second, .val (.long vq), .second, .val (.long r66), .second, .val (.long r67), .second, .val (.long r68), .second, .val (.long r69), .second, .val (.ref b70), .val (.ref b77), .unset, .unset, .unset, .unset, .unset, .unset, .unset, .unset, .unset] [(.ref b83), (.ref b82), (.ref b82)])) rfl (by rw [hml]; rfl) (Steps.refl _) (a := b82) (argsL := [(.ref b83)]) (rest := [(.ref b82)]) (lenOf pd_3 rfl) rfl (by show 2 * 0 + _ ≤ _; exact Nat.le_of_eq rfl) (hb hby at_93) (fun _ _ => ⟨rfl, e83, (by decide : 8 + 1 ≤ _), (by decide : 15 + 0 ≤ _)⟩)
  dsimp only [Pt.U, Pt.locs, Pt.cells, Pt.slots] at X84 l84 y84 z84 st84 hQ84
  subst l84 y84 z84
  obtain ⟨rfl, N84q, K84, ⟨cb84, ck84, cg84, cs84, Fq_84, Aq_84, Eq_84⟩⟩ := hQ84
  have N84 := Fr.app N81 N84q
  have Ex_b70_70_c84 := Ex_b70_70_c83.keep K84
  have Ex_b71_71_c84 := Ex_b71_71_c83.keep K84
  have Av_b71_75_c84 := Av_b71_75_c83.keep K84 (ninS ne_b71_b82 nin0)
  have Fq_76_c84 := Fq_76_c83.keep K84 (ninS ne_b70_b82 nin0)
  have Aq_76_c84 := Aq_76_c83.keep K84 (ninS ne_cb76_b82 nin0)
  have Eq_76_c84 := Eq_76_c83.keep K84
  have Ex_b77_77_c84 := Ex_b77_77_c83.keep K84
  have Ex_b78_78_c84 := Ex_b78_78_c83.keep K84
  have Av_b78_80_c84 := Av_b78_80_c83.keep K84 (ninS ne_b78_b82 nin0)
  have Fq_81_c84 := Fq_81_c83.keep K84 (ninS ne_b77_b82 nin0)
  have Aq_81_c84 := Aq_81_c83.keep K84 (ninS ne_cb81_b82 nin0)
  have Eq_81_c84 := Eq_81_c83.keep K84
  have Ex_b82_82_c84 := Ex_b82_82_c83.keep K84
  have Ex_b83_83_c84 := Ex_b83_83.keep K84
  have Av_b83_83_c84 := Av_b83_83.keep K84 (ninS (Ne.symm ne_b82_b83) nin0)
  have Z84 : n0 ≤ T84.heap.size := Nat.le_trans Z83 K84.1
  have ne_b70_cb84 : b70 ≠ cb84 := Nat.ne_of_lt (Nat.lt_of_lt_of_le Ex_b70_70_c83.lt cs84)
  have ne_b71_cb84 : b71 ≠ cb84 := Nat.ne_of_lt (Nat.lt_of_lt_of_le Ex_b71_71_c83.lt cs84)
  have ne_cb76_cb84 : cb76 ≠ cb84 := Nat.ne_of_lt (Nat.lt_of_lt_of_le Aq_76_c83.lt cs84)
  have ne_b77_cb84 : b77 ≠ cb84 := Nat.ne_of_lt (Nat.lt_of_lt_of_le Ex_b77_77_c83.lt cs84)
  have ne_b78_cb84 : b78 ≠ cb84 := Nat.ne_of_lt (Nat.lt_of_lt_of_le Ex_b78_78_c83.lt cs84)
  have ne_cb81_cb84 : cb81 ≠ cb84 := Nat.ne_of_lt (Nat.lt_of_lt_of_le Aq_81_c83.lt cs84)
  have ne_b82_cb84 : b82 ≠ cb84 := Nat.ne_of_lt (Nat.lt_of_lt_of_le Ex_b82_82_c83.lt cs84)
  have ne_b83_cb84 : b83 ≠ cb84 := Nat.ne_of_lt (Nat.lt_of_lt_of_le Ex_b83_83.lt cs84)
  obtain ⟨T85, h85, k85, X85, e85, E85, A85, B85, st85⟩ := newPE X84 hx hZ (hw _ (List.mem_of_getElem? (i := 17) rfl)) rfl (g := (mkF m 99 #[.val (.long a0_), .second, .val (.long a1_), .second, .val (.long b0_), .second, .val (.long b1_), .second, .val (.long vp), .second, .val (.long vq), .second, .val (.long r66), .second, .val (.long r67), .second, .val (.long r68), .second, .val (.long r69), .second, .val (.ref b70), .val (.ref b77), .val (.ref b82), .unset, .unset, .unset, .unset, .unset, .unset, .unset, .unset] [(.int (2 : Int32))])) rfl (hb hby at_99) rfl (by decide) (cap := 2) (by decide) (by decide) (by decide) (by decide) (ad := "[J") (by decide)
  obtain ⟨b85, g85⟩ : ∃ z, z = T84.heap.size := ⟨_, rfl⟩
  rw [← g85] at A85 B85 st85
  have ne_b70_b85 : b70 ≠ b85 := Nat.ne_of_lt (Nat.lt_of_lt_of_le Ex_b70_70_c84.lt (Nat.le_of_eq g85.symm))
  have ne_b71_b85 : b71 ≠ b85 := Nat.ne_of_lt (Nat.lt_of_lt_of_le Ex_b71_71_c84.lt (Nat.le_of_eq g85.symm))
  have ne_cb76_b85 : cb76 ≠ b85 := Nat.ne_of_lt (Nat.lt_of_lt_of_le Aq_76_c84.lt (Nat.le_of_eq g85.symm))
  have ne_b77_b85 : b77 ≠ b85 := Nat.ne_of_lt (Nat.lt_of_lt_of_le Ex_b77_77_c84.lt (Nat.le_of_eq g85.symm))
  have ne_b78_b85 : b78 ≠ b85 := Nat.ne_of_lt (Nat.lt_of_lt_of_le Ex_b78_78_c84.lt (Nat.le_of_eq g85.symm))
  have ne_cb81_b85 : cb81 ≠ b85 := Nat.ne_of_lt (Nat.lt_of_lt_of_le Aq_81_c84.lt (Nat.le_of_eq g85.symm))
  have ne_b82_b85 : b82 ≠ b85 := Nat.ne_of_lt (Nat.lt_of_lt_of_le Ex_b82_82_c84.lt (Nat.le_of_eq g85.symm))
  have ne_b83_b85 : b83 ≠ b85 := Nat.ne_of_lt (Nat.lt_of_lt_of_le Ex_b83_83_c84.lt (Nat.le_of_eq g85.symm))
  have ne_cb84_b85 : cb84 ≠ b85 := Nat.ne_of_lt (Nat.lt_of_lt_of_le Aq_84.lt (Nat.le_of_eq g85.symm))
  have g_b85 : n0 ≤ b85 := Nat.le_trans Z84 (Nat.le_of_eq g85.symm)
  have Ex_b70_70_c85 := Ex_b70_70_c84.ext E85
  have Ex_b71_71_c85 := Ex_b71_71_c84.ext E85
  have Av_b71_75_c85 := Av_b71_75_c84.ext E85
  have Fq_76_c85 := Fq_76_c84.ext E85
  have Aq_76_c85 := Aq_76_c84.ext E85
  have Eq_76_c85 := Eq_76_c84.ext E85
  have Ex_b77_77_c85 := Ex_b77_77_c84.ext E85
  have Ex_b78_78_c85 := Ex_b78_78_c84.ext E85
  have Av_b78_80_c85 := Av_b78_80_c84.ext E85
  have Fq_81_c85 := Fq_81_c84.ext E85
  have Aq_81_c85 := Aq_81_c84.ext E85
  have Eq_81_c85 := Eq_81_c84.ext E85
  have Ex_b82_82_c85 := Ex_b82_82_c84.ext E85
  have Ex_b83_83_c85 := Ex_b83_83_c84.ext E85
  have Av_b83_83_c85 := Av_b83_83_c84.ext E85
  have Fq_84_c85 := Fq_84.ext E85
  have Aq_84_c85 := Aq_84.ext E85
  have Eq_84_c85 := Eq_84.ext E85
  have Z85 : n0 ≤ h85.size := Nat.le_trans Z84 E85.1
  have Av_b85_85 : Arv Z h85 b85 k85 .long (2 : Int32) [(.long (0 : Int64)), (.long (0 : Int64))] (.long (0 : Int64)) := (Arv.new A85 (by decide)).pad (pad_rep [] (.long (0 : Int64)) 2)
  have Ex_b85_85 := B85
  obtain ⟨cl86, Ar86, q86, S86, N86a, H86, G86⟩ := id Av_b85_85
  have hin86 : ¬ ((0 : Int32) < 0 ∨ cl86.slots.size ≤ ((0 : Int32)).toNatClampNeg) := inb_of S86 ⟨by decide, by decide⟩
  obtain ⟨T86, h86, X86, e86, W86, st86⟩ := stJ X85 hx hZ e85 Ar86 (j := (0 : Int32)) hin86 (g := (mkF m 105 #[.val (.long a0_), .second, .val (.long a1_), .second, .val (.long b0_), .second, .val (.long b1_), .second, .val (.long vp), .second, .val (.long vq), .second, .val (.long r66), .second, .val (.long r67), .second, .val (.long r68), .second, .val (.long r69), .second, .val (.ref b70), .val (.ref b77), .val (.ref b82), .unset, .unset, .unset, .unset, .unset, .unset, .unset, .unset] [(.long vp), (.int (0 : Int32)), (.ref b85), (.ref b85)])) rfl rfl (hb hby at_105)
  have Av_b85_86 : Arv Z h86 b85 k85 .long (2 : Int32) [(.long vp), (.long (0 : Int64))] (.long (0 : Int64)) := Arv.set Ar86 q86 S86 N86a H86 G86 rfl W86 0 rfl (Nat.le_of_ble_eq_true rfl)
  have Ex_b70_70_c86 := Ex_b70_70_c85.wr W86
  have Ex_b71_71_c86 := Ex_b71_71_c85.wr W86
  have Av_b71_75_c86 := Av_b71_75_c85.other W86 ne_b71_b85
  have Fq_76_c86 := Fq_76_c85.other W86 (Or.inl ne_b70_b85)
  have Aq_76_c86 := Aq_76_c85.other W86 ne_cb76_b85
  have Eq_76_c86 := Eq_76_c85.wr W86
  have Ex_b77_77_c86 := Ex_b77_77_c85.wr W86
  have Ex_b78_78_c86 := Ex_b78_78_c85.wr W86
  have Av_b78_80_c86 := Av_b78_80_c85.other W86 ne_b78_b85
  have Fq_81_c86 := Fq_81_c85.other W86 (Or.inl ne_b77_b85)
  have Aq_81_c86 := Aq_81_c85.other W86 ne_cb81_b85
  have Eq_81_c86 := Eq_81_c85.wr W86
  have Ex_b82_82_c86 := Ex_b82_82_c85.wr W86
  have Ex_b83_83_c86 := Ex_b83_83_c85.wr W86
  have Av_b83_83_c86 := Av_b83_83_c85.other W86 ne_b83_b85
  have Fq_84_c86 := Fq_84_c85.other W86 (Or.inl ne_b82_b85)
  have Aq_84_c86 := Aq_84_c85.other W86 ne_cb84_b85
  have Eq_84_c86 := Eq_84_c85.wr W86
  have Ex_b85_85_c86 := Ex_b85_85.wr W86
  have Z86 : n0 ≤ h86.size := Nat.le_trans Z85 (Keep.of_wr W86).1
  have N86 := Fr.snoc X86 N84 g_b85
  obtain ⟨cl87, Ar87, q87, S87, N87a, H87, G87⟩ := id Av_b85_86
  have hin87 : ¬ ((1 : Int32) < 0 ∨ cl87.slots.size ≤ ((1 : Int32)).toNatClampNeg) := inb_of S87 ⟨by decide, by decide⟩
  obtain ⟨T87, h87, X87, e87, W87, st87⟩ := stJ X86 hx hZ e86 Ar87 (j := (1 : Int32)) hin87 (g := (mkF m 110 #[.val (.long a0_), .second, .val (.long a1_), .second, .val (.long b0_), .second, .val (.long b1_), .second, .val (.long vp), .second, .val (.long vq), .second, .val (.long r66), .second, .val (.long r67), .second, .val (.long r68), .second, .val (.long r69), .second, .val (.ref b70), .val (.ref b77), .val (.ref b82), .unset, .unset, .unset, .unset, .unset, .unset, .unset, .unset] [(.long vq), (.int (1 : Int32)), (.ref b85), (.ref b85)])) rfl rfl (hb hby at_110)
  have Av_b85_87 : Arv Z h87 b85 k85 .long (2 : Int32) [(.long vp), (.long vq)] (.long (0 : Int64)) := Arv.set Ar87 q87 S87 N87a H87 G87 rfl W87 1 rfl (Nat.le_of_ble_eq_true rfl)
  have Ex_b70_70_c87 := Ex_b70_70_c86.wr W87
  have Ex_b71_71_c87 := Ex_b71_71_c86.wr W87
  have Av_b71_75_c87 := Av_b71_75_c86.other W87 ne_b71_b85
  have Fq_76_c87 := Fq_76_c86.other W87 (Or.inl ne_b70_b85)
  have Aq_76_c87 := Aq_76_c86.other W87 ne_cb76_b85
  have Eq_76_c87 := Eq_76_c86.wr W87
  have Ex_b77_77_c87 := Ex_b77_77_c86.wr W87
  have Ex_b78_78_c87 := Ex_b78_78_c86.wr W87
  have Av_b78_80_c87 := Av_b78_80_c86.other W87 ne_b78_b85
  have Fq_81_c87 := Fq_81_c86.other W87 (Or.inl ne_b77_b85)
  have Aq_81_c87 := Aq_81_c86.other W87 ne_cb81_b85
  have Eq_81_c87 := Eq_81_c86.wr W87
  have Ex_b82_82_c87 := Ex_b82_82_c86.wr W87
  have Ex_b83_83_c87 := Ex_b83_83_c86.wr W87
  have Av_b83_83_c87 := Av_b83_83_c86.other W87 ne_b83_b85
  have Fq_84_c87 := Fq_84_c86.other W87 (Or.inl ne_b82_b85)
  have Aq_84_c87 := Aq_84_c86.other W87 ne_cb84_b85
  have Eq_84_c87 := Eq_84_c86.wr W87
  have Ex_b85_85_c87 := Ex_b85_85_c86.wr W87
  have Z87 : n0 ≤ h87.size := Nat.le_trans Z86 (Keep.of_wr W87).1
  have N87 := Fr.snoc X87 N86 g_b85
  obtain ⟨T88, h88, k88, X88, e88, E88, A88, B88, st88⟩ := newPE X87 hx hZ (hw _ (List.mem_of_getElem? (i := 17) rfl)) e87 (g := (mkF m 114 #[.val (.long a0_), .second, .val (.long a1_), .second, .val (.long b0_), .second, .val (.long b1_), .second, .val (.long vp), .second, .val (.long vq), .second, .val (.long r66), .second, .val (.long r67), .second, .val (.long r68), .second, .val (.long r69), .second, .val (.ref b70), .val (.ref b77), .val (.ref b82), .val (.ref b85), .unset, .unset, .unset, .unset, .unset, .unset, .unset] [(.int (1 : Int32))])) rfl (hb hby at_114) rfl (by decide) (cap := 1) (by decide) (by decide) (by decide) (by decide) (ad := "[J") (by decide)
  obtain ⟨b88, g88⟩ : ∃ z, z = h87.size := ⟨_, rfl⟩
  rw [← g88] at A88 B88 st88
  have ne_b70_b88 : b70 ≠ b88 := Nat.ne_of_lt (Nat.lt_of_lt_of_le Ex_b70_70_c87.lt (Nat.le_of_eq g88.symm))
  have ne_b71_b88 : b71 ≠ b88 := Nat.ne_of_lt (Nat.lt_of_lt_of_le Ex_b71_71_c87.lt (Nat.le_of_eq g88.symm))
  have ne_cb76_b88 : cb76 ≠ b88 := Nat.ne_of_lt (Nat.lt_of_lt_of_le Aq_76_c87.lt (Nat.le_of_eq g88.symm))
  have ne_b77_b88 : b77 ≠ b88 := Nat.ne_of_lt (Nat.lt_of_lt_of_le Ex_b77_77_c87.lt (Nat.le_of_eq g88.symm))
  have ne_b78_b88 : b78 ≠ b88 := Nat.ne_of_lt (Nat.lt_of_lt_of_le Ex_b78_78_c87.lt (Nat.le_of_eq g88.symm))
  have ne_cb81_b88 : cb81 ≠ b88 := Nat.ne_of_lt (Nat.lt_of_lt_of_le Aq_81_c87.lt (Nat.le_of_eq g88.symm))
  have ne_b82_b88 : b82 ≠ b88 := Nat.ne_of_lt (Nat.lt_of_lt_of_le Ex_b82_82_c87.lt (Nat.le_of_eq g88.symm))
  have ne_b83_b88 : b83 ≠ b88 := Nat.ne_of_lt (Nat.lt_of_lt_of_le Ex_b83_83_c87.lt (Nat.le_of_eq g88.symm))
  have ne_cb84_b88 : cb84 ≠ b88 := Nat.ne_of_lt (Nat.lt_of_lt_of_le Aq_84_c87.lt (Nat.le_of_eq g88.symm))
  have ne_b85_b88 : b85 ≠ b88 := Nat.ne_of_lt (Nat.lt_of_lt_of_le Ex_b85_85_c87.lt (Nat.le_of_eq g88.symm))
  have g_b88 : n0 ≤ b88 := Nat.le_trans Z87 (Nat.le_of_eq g88.symm)
  have Ex_b70_70_c88 := Ex_b70_70_c87.ext E88
  have Ex_b71_71_c88 := Ex_b71_71_c87.ext E88
  have Av_b71_75_c88 := Av_b71_75_c87.ext E88
  have Fq_76_c88 := Fq_76_c87.ext E88
  have Aq_76_c88 := Aq_76_c87.ext E88
  have Eq_76_c88 := Eq_76_c87.ext E88
  have Ex_b77_77_c88 := Ex_b77_77_c87.ext E88
  have Ex_b78_78_c88 := Ex_b78_78_c87.ext E88
  have Av_b78_80_c88 := Av_b78_80_c87.ext E88
  have Fq_81_c88 := Fq_81_c87.ext E88
  have Aq_81_c88 := Aq_81_c87.ext E88
  have Eq_81_c88 := Eq_81_c87.ext E88
  have Ex_b82_82_c88 := Ex_b82_82_c87.ext E88
  have Ex_b83_83_c88 := Ex_b83_83_c87.ext E88
  have Av_b83_83_c88 := Av_b83_83_c87.ext E88
  have Fq_84_c88 := Fq_84_c87.ext E88
  have Aq_84_c88 := Aq_84_c87.ext E88
  have Eq_84_c88 := Eq_84_c87.ext E88
  have Ex_b85_85_c88 := Ex_b85_85_c87.ext E88
  have Av_b85_87_c88 := Av_b85_87.ext E88
  have Z88 : n0 ≤ h88.size := Nat.le_trans Z87 E88.1
  have Av_b88_88 : Arv Z h88 b88 k88 .long (1 : Int32) [(.long (0 : Int64))] (.long (0 : Int64)) := (Arv.new A88 (by decide)).pad (pad_rep [] (.long (0 : Int64)) 1)
  have Ex_b88_88 := B88
  obtain ⟨cl89, Ar89, q89, S89, N89a, H89, G89⟩ := id Av_b88_88
  have hin89 : ¬ ((0 : Int32) < 0 ∨ cl89.slots.size ≤ ((0 : Int32)).toNatClampNeg) := inb_of S89 ⟨by decide, by decide⟩
  obtain ⟨T89, h89, X89, e89, W89, st89⟩ := stJ X88 hx hZ e88 Ar89 (j := (0 : Int32)) hin89 (g := (mkF m 120 #[.val (.long a0_), .second, .val (.long a1_), .second, .val (.long b0_), .second, .val (.long b1_), .second, .val (.long vp), .second, .val (.long vq), .second, .val (.long r66), .second, .val (.long r67), .second, .val (.long r68), .second, .val (.long r69), .second, .val (.ref b70), .val (.ref b77), .val (.ref b82), .val (.ref b85), .unset, .unset, .unset, .unset, .unset, .unset, .unset] [(.long vp), (.int (0 : Int32)), (.ref b88), (.ref b88)])) rfl rfl (hb hby at_120)
  have Av_b88_89 : Arv Z h89 b88 k88 .long (1 : Int32) [(.long vp)] (.long (0 : Int64)) := Arv.set Ar89 q89 S89 N89a H89 G89 rfl W89 0 rfl (Nat.le_of_ble_eq_true rfl)
  have Ex_b70_70_c89 := Ex_b70_70_c88.wr W89
  have Ex_b71_71_c89 := Ex_b71_71_c88.wr W89
  have Av_b71_75_c89 := Av_b71_75_c88.other W89 ne_b71_b88
  have Fq_76_c89 := Fq_76_c88.other W89 (Or.inl ne_b70_b88)
  have Aq_76_c89 := Aq_76_c88.other W89 ne_cb76_b88
  have Eq_76_c89 := Eq_76_c88.wr W89
  have Ex_b77_77_c89 := Ex_b77_77_c88.wr W89
  have Ex_b78_78_c89 := Ex_b78_78_c88.wr W89
  have Av_b78_80_c89 := Av_b78_80_c88.other W89 ne_b78_b88
  have Fq_81_c89 := Fq_81_c88.other W89 (Or.inl ne_b77_b88)
  have Aq_81_c89 := Aq_81_c88.other W89 ne_cb81_b88
  have Eq_81_c89 := Eq_81_c88.wr W89
  have Ex_b82_82_c89 := Ex_b82_82_c88.wr W89
  have Ex_b83_83_c89 := Ex_b83_83_c88.wr W89
  have Av_b83_83_c89 := Av_b83_83_c88.other W89 ne_b83_b88
  have Fq_84_c89 := Fq_84_c88.other W89 (Or.inl ne_b82_b88)
  have Aq_84_c89 := Aq_84_c88.other W89 ne_cb84_b88
  have Eq_84_c89 := Eq_84_c88.wr W89
  have Ex_b85_85_c89 := Ex_b85_85_c88.wr W89
  have Av_b85_87_c89 := Av_b85_87_c88.other W89 ne_b85_b88
  have Ex_b88_88_c89 := Ex_b88_88.wr W89
  have Z89 : n0 ≤ h89.size := Nat.le_trans Z88 (Keep.of_wr W89).1
  have N89 := Fr.snoc X89 N87 g_b88
  obtain ⟨T90, h90, k90, X90, e90, E90, A90, B90, st90⟩ := newPE X89 hx hZ (hw _ (List.mem_of_getElem? (i := 17) rfl)) e89 (g := (mkF m 124 #[.val (.long a0_), .second, .val (.long a1_), .second, .val (.long b0_), .second, .val (.long b1_), .second, .val (.long vp), .second, .val (.long vq), .second, .val (.long r66), .second, .val (.long r67), .second, .val (.long r68), .second, .val (.long r69), .second, .val (.ref b70), .val (.ref b77), .val (.ref b82), .val (.ref b85), .val (.ref b88), .unset, .unset, .unset, .unset, .unset, .unset] [(.int (0 : Int32))])) rfl (hb hby at_124) rfl (by decide) (cap := 0) (by decide) (by decide) (by decide) (by decide) (ad := "[J") (by decide)
  obtain ⟨b90, g90⟩ : ∃ z, z = h89.size := ⟨_, rfl⟩
  rw [← g90] at A90 B90 st90
  have ne_b70_b90 : b70 ≠ b90 := Nat.ne_of_lt (Nat.lt_of_lt_of_le Ex_b70_70_c89.lt (Nat.le_of_eq g90.symm))
  have ne_b71_b90 : b71 ≠ b90 := Nat.ne_of_lt (Nat.lt_of_lt_of_le Ex_b71_71_c89.lt (Nat.le_of_eq g90.symm))
  have ne_cb76_b90 : cb76 ≠ b90 := Nat.ne_of_lt (Nat.lt_of_lt_of_le Aq_76_c89.lt (Nat.le_of_eq g90.symm))
  have ne_b77_b90 : b77 ≠ b90 := Nat.ne_of_lt (Nat.lt_of_lt_of_le Ex_b77_77_c89.lt (Nat.le_of_eq g90.symm))
  have ne_b78_b90 : b78 ≠ b90 := Nat.ne_of_lt (Nat.lt_of_lt_of_le Ex_b78_78_c89.lt (Nat.le_of_eq g90.symm))
  have ne_cb81_b90 : cb81 ≠ b90 := Nat.ne_of_lt (Nat.lt_of_lt_of_le Aq_81_c89.lt (Nat.le_of_eq g90.symm))
  have ne_b82_b90 : b82 ≠ b90 := Nat.ne_of_lt (Nat.lt_of_lt_of_le Ex_b82_82_c89.lt (Nat.le_of_eq g90.symm))
  have ne_b83_b90 : b83 ≠ b90 := Nat.ne_of_lt (Nat.lt_of_lt_of_le Ex_b83_83_c89.lt (Nat.le_of_eq g90.symm))
  have ne_cb84_b90 : cb84 ≠ b90 := Nat.ne_of_lt (Nat.lt_of_lt_of_le Aq_84_c89.lt (Nat.le_of_eq g90.symm))
  have ne_b85_b90 : b85 ≠ b90 := Nat.ne_of_lt (Nat.lt_of_lt_of_le Ex_b85_85_c89.lt (Nat.le_of_eq g90.symm))
  have ne_b88_b90 : b88 ≠ b90 := Nat.ne_of_lt (Nat.lt_of_lt_of_le Ex_b88_88_c89.lt (Nat.le_of_eq g90.symm))
  have g_b90 : n0 ≤ b90 := Nat.le_trans Z89 (Nat.le_of_eq g90.symm)
  have Ex_b70_70_c90 := Ex_b70_70_c89.ext E90
  have Ex_b71_71_c90 := Ex_b71_71_c89.ext E90
  have Av_b71_75_c90 := Av_b71_75_c89.ext E90
  have Fq_76_c90 := Fq_76_c89.ext E90
  have Aq_76_c90 := Aq_76_c89.ext E90
  have Eq_76_c90 := Eq_76_c89.ext E90
  have Ex_b77_77_c90 := Ex_b77_77_c89.ext E90
  have Ex_b78_78_c90 := Ex_b78_78_c89.ext E90
  have Av_b78_80_c90 := Av_b78_80_c89.ext E90
  have Fq_81_c90 := Fq_81_c89.ext E90
  have Aq_81_c90 := Aq_81_c89.ext E90
  have Eq_81_c90 := Eq_81_c89.ext E90
  have Ex_b82_82_c90 := Ex_b82_82_c89.ext E90
  have Ex_b83_83_c90 := Ex_b83_83_c89.ext E90
  have Av_b83_83_c90 := Av_b83_83_c89.ext E90
  have Fq_84_c90 := Fq_84_c89.ext E90
  have Aq_84_c90 := Aq_84_c89.ext E90
  have Eq_84_c90 := Eq_84_c89.ext E90
  have Ex_b85_85_c90 := Ex_b85_85_c89.ext E90
  have Av_b85_87_c90 := Av_b85_87_c89.ext E90
  have Ex_b88_88_c90 := Ex_b88_88_c89.ext E90
  have Av_b88_89_c90 := Av_b88_89.ext E90
  have Z90 : n0 ≤ h90.size := Nat.le_trans Z89 E90.1
  have Av_b90_90 : Arv Z h90 b90 k90 .long (0 : Int32) [] (.long (0 : Int64)) := Arv.new A90 (by decide)
  have Ex_b90_90 := B90
  obtain ⟨cq91, kq91, q91a, q91b, q91c⟩ := isOf hZ e90 Ex_b70_70_c90
  obtain ⟨_, _, ⟨T91, L91, k91, n91⟩, -, X91, ⟨Lc91, hQ91, l91, y91, z91⟩, st91⟩ := X90.virtualBack hx (y := (⟨"com/example/chronotriple/chronotriple/Box", "contains", "([J)Z"⟩ : MethodName)) (z := (⟨"com/example/chronotriple/chronotriple/Box", "contains", "([J)Z"⟩ : MethodName)) hown (mvT hZ (hw _ (List.mem_of_getElem? (i := 35) rfl))) (mvT hZ (hw _ (List.mem_of_getElem? (i := 36) rfl))) (notFace_of_selects (args := #[]) (mvT hZ (hw _ (List.mem_of_getElem? (i := 38) rfl)))) (mvT hZ (hw _ (List.mem_of_getElem? (i := 38) rfl))) (mvT hZ (hw _ (List.mem_of_getElem? (i := 37) rfl))) (by decide) (backOf (W := 0) (rm_con2 l Z a0 hw [] b70 b85 cb76 ck76 k85 r66 r67 r68 r69 vp vq h90 n0 Z90 Ex_b70_70_c90 Fq_76_c90 Aq_76_c90 Av_b85_87_c90) hZ (hw _ (List.mem_of_getElem? (i := 39) rfl)) (hw _ (List.mem_of_getElem? (i := 16) rfl)) (by decide) (by decide)) q91a q91c (g := (mkF m 132 #[.val (.long a0_), .second, .val (.long a1_), .second, .val (.long b0_), .second, .val (.long b1_), .second, .val (.long vp), .second, .val (.long vq), .second, .val (.long r66), .second, .val (.long r67), .second, .val (.long r68), .second, .val (.long r69), .second, .val (.ref b70), .val (.ref b77), .val (.ref b82), .val (.ref b85), .val (.ref b88), .val (.ref b90), .unset, .unset, .unset, .unset, .unset] [(.ref b85), (.ref b70)])) rfl (by rw [hml]; rfl) (Steps.refl _) (argsL := [(.ref b85)]) (rest := []) (lenOf pd_4 rfl) rfl (by show 2 * 0 + _ ≤ _; exact Nat.le_of_eq rfl) (hb hby at_132) (fun _ _ => ⟨rfl, e90, (by decide : 12 + 0 ≤ _), (by decide : 18 + 0 ≤ _)⟩)
  dsimp only [Pt.U, Pt.locs, Pt.cells, Pt.slots] at X91 l91 y91 z91 st91 hQ91
  subst l91 y91 z91
  obtain ⟨⟨r91, rfl, hr91⟩, N91q, e91⟩ := hQ91
  have N91 := Fr.app N89 N91q
  obtain ⟨cq92, kq92, q92a, q92b, q92c⟩ := isOf hZ e91 Ex_b77_77_c90
  obtain ⟨_, _, ⟨T92, L92, k92, n92⟩, -, X92, ⟨Lc92, hQ92, l92, y92, z92⟩, st92⟩ := X91.virtualBack hx (y := (⟨"com/example/chronotriple/chronotriple/Box", "contains", "([J)Z"⟩ : MethodName)) (z := (⟨"com/example/chronotriple/chronotriple/Box", "contains", "([J)Z"⟩ : MethodName)) hown (mvT hZ (hw _ (List.mem_of_getElem? (i := 35) rfl))) (mvT hZ (hw _ (List.mem_of_getElem? (i := 36) rfl))) (notFace_of_selects (args := #[]) (mvT hZ (hw _ (List.mem_of_getElem? (i := 38) rfl)))) (mvT hZ (hw _ (List.mem_of_getElem? (i := 38) rfl))) (mvT hZ (hw _ (List.mem_of_getElem? (i := 37) rfl))) (by decide) (backOf (W := 0) (rm_con1 l Z a0 hw [] b77 b88 cb81 ck81 k88 r66 r67 vp h90 n0 Z90 Ex_b77_77_c90 Fq_81_c90 Aq_81_c90 Av_b88_89_c90) hZ (hw _ (List.mem_of_getElem? (i := 39) rfl)) (hw _ (List.mem_of_getElem? (i := 16) rfl)) (by decide) (by decide)) q92a q92c (g := (mkF m 141 #[.val (.long a0_), .second, .val (.long a1_), .second, .val (.long b0_), .second, .val (.long b1_), .second, .val (.long vp), .second, .val (.long vq), .second, .val (.long r66), .second, .val (.long r67), .second, .val (.long r68), .second, .val (.long r69), .second, .val (.ref b70), .val (.ref b77), .val (.ref b82), .val (.ref b85), .val (.ref b88), .val (.ref b90), .val (.int r91), .unset, .unset, .unset, .unset] [(.ref b88), (.ref b77)])) rfl (by rw [hml]; rfl) (Steps.refl _) (argsL := [(.ref b88)]) (rest := []) (lenOf pd_4 rfl) rfl (by show 2 * 0 + _ ≤ _; exact Nat.le_of_eq rfl) (hb hby at_141) (fun _ _ => ⟨rfl, e91, (by decide : 12 + 0 ≤ _), (by decide : 18 + 0 ≤ _)⟩)
  dsimp only [Pt.U, Pt.locs, Pt.cells, Pt.slots] at X92 l92 y92 z92 st92 hQ92
  subst l92 y92 z92
  obtain ⟨⟨r92, rfl, hr92⟩, N92q, e92⟩ := hQ92
  have N92 := Fr.app N91 N92q
  obtain ⟨cq93, kq93, q93a, q93b, q93c⟩ := isOf hZ e92 Ex_b82_82_c90
  obtain ⟨_, _, ⟨T93, L93, k93, n93⟩, -, X93, ⟨Lc93, hQ93, l93, y93, z93⟩, st93⟩ := X92.virtualBack hx (y := (⟨"com/example/chronotriple/chronotriple/Box", "contains", "([J)Z"⟩ : MethodName)) (z := (⟨"com/example/chronotriple/chronotriple/Box", "contains", "([J)Z"⟩ : MethodName)) hown (mvT hZ (hw _ (List.mem_of_getElem? (i := 35) rfl))) (mvT hZ (hw _ (List.mem_of_getElem? (i := 36) rfl))) (notFace_of_selects (args := #[]) (mvT hZ (hw _ (List.mem_of_getElem? (i := 38) rfl)))) (mvT hZ (hw _ (List.mem_of_getElem? (i := 38) rfl))) (mvT hZ (hw _ (List.mem_of_getElem? (i := 37) rfl))) (by decide) (backOf (W := 0) (rm_con0 l Z a0 hw [] b82 b90 cb84 ck84 k90 h90 n0 Z90 Ex_b82_82_c90 Fq_84_c90 Aq_84_c90 Av_b90_90) hZ (hw _ (List.mem_of_getElem? (i := 39) rfl)) (hw _ (List.mem_of_getElem? (i := 16) rfl)) (by decide) (by decide)) q93a q93c (g := (mkF m 150 #[.val (.long a0_), .second, .val (.long a1_), .second, .val (.long b0_), .second, .val (.long b1_), .second, .val (.long vp), .second, .val (.long vq), .second, .val (.long r66), .second, .val (.long r67), .second, .val (.long r68), .second, .val (.long r69), .second, .val (.ref b70), .val (.ref b77), .val (.ref b82), .val (.ref b85), .val (.ref b88), .val (.ref b90), .val (.int r91), .val (.int r92), .unset, .unset, .unset] [(.ref b90), (.ref b82)])) rfl (by rw [hml]; rfl) (Steps.refl _) (argsL := [(.ref b90)]) (rest := []) (lenOf pd_4 rfl) rfl (by show 2 * 0 + _ ≤ _; exact Nat.le_of_eq rfl) (hb hby at_150) (fun _ _ => ⟨rfl, e92, (by decide : 12 + 0 ≤ _), (by decide : 18 + 0 ≤ _)⟩)
  dsimp only [Pt.U, Pt.locs, Pt.cells, Pt.slots] at X93 l93 y93 z93 st93 hQ93
  subst l93 y93 z93
  obtain ⟨⟨r93, rfl, hr93⟩, N93q, e93⟩ := hQ93
  have N93 := Fr.app N92 N93q
  obtain ⟨z94, hz94⟩ : ∃ z : Int32, z = if vp < r66 then (0 : Int32) else if vp < r67 then 1 else 0 := ⟨_, rfl⟩
  have seg94 : ∀ t, Steps p.tables e below (T93.setTop (mkF m 176 #[.val (.long a0_), .second, .val (.long a1_), .second, .val (.long b0_), .second, .val (.long b1_), .second, .val (.long vp), .second, .val (.long vq), .second, .val (.long r66), .second, .val (.long r67), .second, .val (.long r68), .second, .val (.long r69), .second, .val (.ref b70), .val (.ref b77), .val (.ref b82), .val (.ref b85), .val (.ref b88), .val (.ref b90), .val (.int r91), .val (.int r92), .val (.int r93), .unset, .unset] [(.int z94)])) t → Steps p.tables e below (T93.setTop (mkF m 155 #[.val (.long a0_), .second, .val (.long a1_), .second, .val (.long b0_), .second, .val (.long b1_), .second, .val (.long vp), .second, .val (.long vq), .second, .val (.long r66), .second, .val (.long r67), .second, .val (.long r68), .second, .val (.long r69), .second, .val (.ref b70), .val (.ref b77), .val (.ref b82), .val (.ref b85), .val (.ref b88), .val (.ref b90), .val (.int r91), .val (.int r92), .val (.int r93), .unset, .unset] [])) t := by
    intro t kt
    show Steps p.tables e below (T93.setTop (mkF m 155 #[.val (.long a0_), .second, .val (.long a1_), .second, .val (.long b0_), .second, .val (.long b1_), .second, .val (.long vp), .second, .val (.long vq), .second, .val (.long r66), .second, .val (.long r67), .second, .val (.long r68), .second, .val (.long r69), .second, .val (.ref b70), .val (.ref b77), .val (.ref b82), .val (.ref b85), .val (.ref b88), .val (.ref b90), .val (.int r91), .val (.int r92), .val (.int r93), .unset, .unset] [])) _
    refine XS.lload X93.here hx rfl (hb hby at_155) rfl ?_
    show Steps p.tables e below (T93.setTop (mkF m 157 #[.val (.long a0_), .second, .val (.long a1_), .second, .val (.long b0_), .second, .val (.long b1_), .second, .val (.long vp), .second, .val (.long vq), .second, .val (.long r66), .second, .val (.long r67), .second, .val (.long r68), .second, .val (.long r69), .second, .val (.ref b70), .val (.ref b77), .val (.ref b82), .val (.ref b85), .val (.ref b88), .val (.ref b90), .val (.int r91), .val (.int r92), .val (.int r93), .unset, .unset] [(.long r66)])) _
    refine XS.lload X93.here hx rfl (hb hby at_157) rfl ?_
    show Steps p.tables e below (T93.setTop (mkF m 159 #[.val (.long a0_), .second, .val (.long a1_), .second, .val (.long b0_), .second, .val (.long b1_), .second, .val (.long vp), .second, .val (.long vq), .second, .val (.long r66), .second, .val (.long r67), .second, .val (.long r68), .second, .val (.long r69), .second, .val (.ref b70), .val (.ref b77), .val (.ref b82), .val (.ref b85), .val (.ref b88), .val (.ref b90), .val (.int r91), .val (.int r92), .val (.int r93), .unset, .unset] [(.long vp), (.long r66)])) _
    refine XS.lcmp X93.here hx rfl (hb hby at_159) rfl ?_
    show Steps p.tables e below (T93.setTop (mkF m 160 #[.val (.long a0_), .second, .val (.long a1_), .second, .val (.long b0_), .second, .val (.long b1_), .second, .val (.long vp), .second, .val (.long vq), .second, .val (.long r66), .second, .val (.long r67), .second, .val (.long r68), .second, .val (.long r69), .second, .val (.ref b70), .val (.ref b77), .val (.ref b82), .val (.ref b85), .val (.ref b88), .val (.ref b90), .val (.int r91), .val (.int r92), .val (.int r93), .unset, .unset] [(.int (lcmpW r66 vp))])) _
    by_cases h160_95 : vp < r66
    · refine XS.ifYes X93.here hx rfl (pc0 := 160) (pc' := 175) rfl (hb hby at_160) rfl ((if0 _ _).trans (tlt ((lw_gt _ _).mpr h160_95)).2.2.1) (by decide) (by decide) ?_
      show Steps p.tables e below (T93.setTop (mkF m 175 #[.val (.long a0_), .second, .val (.long a1_), .second, .val (.long b0_), .second, .val (.long b1_), .second, .val (.long vp), .second, .val (.long vq), .second, .val (.long r66), .second, .val (.long r67), .second, .val (.long r68), .second, .val (.long r69), .second, .val (.ref b70), .val (.ref b77), .val (.ref b82), .val (.ref b85), .val (.ref b88), .val (.ref b90), .val (.int r91), .val (.int r92), .val (.int r93), .unset, .unset] [])) _
      refine XS.iconst X93.here hx rfl (hb hby at_175) ?_
      have qz94 : z94 = (0 : Int32) := hz94.trans (by simp [h160_95])
      rw [qz94] at kt
      exact kt
    · refine XS.ifNo X93.here hx rfl (hb hby at_160) rfl ((if0 _ _).trans (flt (fun q => h160_95 ((lw_gt _ _).mp q))).2.2.1) ?_
      show Steps p.tables e below (T93.setTop (mkF m 163 #[.val (.long a0_), .second, .val (.long a1_), .second, .val (.long b0_), .second, .val (.long b1_), .second, .val (.long vp), .second, .val (.long vq), .second, .val (.long r66), .second, .val (.long r67), .second, .val (.long r68), .second, .val (.long r69), .second, .val (.ref b70), .val (.ref b77), .val (.ref b82), .val (.ref b85), .val (.ref b88), .val (.ref b90), .val (.int r91), .val (.int r92), .val (.int r93), .unset, .unset] [])) _
      refine XS.lload X93.here hx rfl (hb hby at_163) rfl ?_
      show Steps p.tables e below (T93.setTop (mkF m 165 #[.val (.long a0_), .second, .val (.long a1_), .second, .val (.long b0_), .second, .val (.long b1_), .second, .val (.long vp), .second, .val (.long vq), .second, .val (.long r66), .second, .val (.long r67), .second, .val (.long r68), .second, .val (.long r69), .second, .val (.ref b70), .val (.ref b77), .val (.ref b82), .val (.ref b85), .val (.ref b88), .val (.ref b90), .val (.int r91), .val (.int r92), .val (.int r93), .unset, .unset] [(.long vp)])) _
      refine XS.lload X93.here hx rfl (hb hby at_165) rfl ?_
      show Steps p.tables e below (T93.setTop (mkF m 167 #[.val (.long a0_), .second, .val (.long a1_), .second, .val (.long b0_), .second, .val (.long b1_), .second, .val (.long vp), .second, .val (.long vq), .second, .val (.long r66), .second, .val (.long r67), .second, .val (.long r68), .second, .val (.long r69), .second, .val (.ref b70), .val (.ref b77), .val (.ref b82), .val (.ref b85), .val (.ref b88), .val (.ref b90), .val (.int r91), .val (.int r92), .val (.int r93), .unset, .unset] [(.long r67), (.long vp)])) _
      refine XS.lcmp X93.here hx rfl (hb hby at_167) rfl ?_
      show Steps p.tables e below (T93.setTop (mkF m 168 #[.val (.long a0_), .second, .val (.long a1_), .second, .val (.long b0_), .second, .val (.long b1_), .second, .val (.long vp), .second, .val (.long vq), .second, .val (.long r66), .second, .val (.long r67), .second, .val (.long r68), .second, .val (.long r69), .second, .val (.ref b70), .val (.ref b77), .val (.ref b82), .val (.ref b85), .val (.ref b88), .val (.ref b90), .val (.int r91), .val (.int r92), .val (.int r93), .unset, .unset] [(.int (lcmpW vp r67))])) _
      by_cases h168_96 : vp < r67
      · refine XS.ifNo X93.here hx rfl (hb hby at_168) rfl ((if0 _ _).trans (tlt ((lw_lt _ _).mpr h168_96)).2.1) ?_
        show Steps p.tables e below (T93.setTop (mkF m 171 #[.val (.long a0_), .second, .val (.long a1_), .second, .val (.long b0_), .second, .val (.long b1_), .second, .val (.long vp), .second, .val (.long vq), .second, .val (.long r66), .second, .val (.long r67), .second, .val (.long r68), .second, .val (.long r69), .second, .val (.ref b70), .val (.ref b77), .val (.ref b82), .val (.ref b85), .val (.ref b88), .val (.ref b90), .val (.int r91), .val (.int r92), .val (.int r93), .unset, .unset] [])) _
        refine XS.iconst X93.here hx rfl (hb hby at_171) ?_
        show Steps p.tables e below (T93.setTop (mkF m 172 #[.val (.long a0_), .second, .val (.long a1_), .second, .val (.long b0_), .second, .val (.long b1_), .second, .val (.long vp), .second, .val (.long vq), .second, .val (.long r66), .second, .val (.long r67), .second, .val (.long r68), .second, .val (.long r69), .second, .val (.ref b70), .val (.ref b77), .val (.ref b82), .val (.ref b85), .val (.ref b88), .val (.ref b90), .val (.int r91), .val (.int r92), .val (.int r93), .unset, .unset] [(.int (1 : Int32))])) _
        refine XS.goto X93.here hx rfl (pc0 := 172) (pc' := 176) rfl (hb hby at_172) (by decide) (by decide) ?_
        have qz94 : z94 = (1 : Int32) := hz94.trans (by simp [h160_95, h168_96])
        rw [qz94] at kt
        exact kt
      · refine XS.ifYes X93.here hx rfl (pc0 := 168) (pc' := 175) rfl (hb hby at_168) rfl ((if0 _ _).trans (flt (fun q => h168_96 ((lw_lt _ _).mp q))).2.1) (by decide) (by decide) ?_
        show Steps p.tables e below (T93.setTop (mkF m 175 #[.val (.long a0_), .second, .val (.long a1_), .second, .val (.long b0_), .second, .val (.long b1_), .second, .val (.long vp), .second, .val (.long vq), .second, .val (.long r66), .second, .val (.long r67), .second, .val (.long r68), .second, .val (.long r69), .second, .val (.ref b70), .val (.ref b77), .val (.ref b82), .val (.ref b85), .val (.ref b88), .val (.ref b90), .val (.int r91), .val (.int r92), .val (.int r93), .unset, .unset] [])) _
        refine XS.iconst X93.here hx rfl (hb hby at_175) ?_
        have qz94 : z94 = (0 : Int32) := hz94.trans (by simp [h160_95, h168_96])
        rw [qz94] at kt
        exact kt
  obtain ⟨z97, hz97⟩ : ∃ z : Int32, z = if vq < r68 then (0 : Int32) else if vq < r69 then 1 else 0 := ⟨_, rfl⟩
  have seg97 : ∀ t, Steps p.tables e below (T93.setTop (mkF m 199 #[.val (.long a0_), .second, .val (.long a1_), .second, .val (.long b0_), .second, .val (.long b1_), .second, .val (.long vp), .second, .val (.long vq), .second, .val (.long r66), .second, .val (.long r67), .second, .val (.long r68), .second, .val (.long r69), .second, .val (.ref b70), .val (.ref b77), .val (.ref b82), .val (.ref b85), .val (.ref b88), .val (.ref b90), .val (.int r91), .val (.int r92), .val (.int r93), .val (.int z94), .unset] [(.int z97)])) t → Steps p.tables e below (T93.setTop (mkF m 178 #[.val (.long a0_), .second, .val (.long a1_), .second, .val (.long b0_), .second, .val (.long b1_), .second, .val (.long vp), .second, .val (.long vq), .second, .val (.long r66), .second, .val (.long r67), .second, .val (.long r68), .second, .val (.long r69), .second, .val (.ref b70), .val (.ref b77), .val (.ref b82), .val (.ref b85), .val (.ref b88), .val (.ref b90), .val (.int r91), .val (.int r92), .val (.int r93), .val (.int z94), .unset] [])) t := by
    intro t kt
    show Steps p.tables e below (T93.setTop (mkF m 178 #[.val (.long a0_), .second, .val (.long a1_), .second, .val (.long b0_), .second, .val (.long b1_), .second, .val (.long vp), .second, .val (.long vq), .second, .val (.long r66), .second, .val (.long r67), .second, .val (.long r68), .second, .val (.long r69), .second, .val (.ref b70), .val (.ref b77), .val (.ref b82), .val (.ref b85), .val (.ref b88), .val (.ref b90), .val (.int r91), .val (.int r92), .val (.int r93), .val (.int z94), .unset] [])) _
    refine XS.lload X93.here hx rfl (hb hby at_178) rfl ?_
    show Steps p.tables e below (T93.setTop (mkF m 180 #[.val (.long a0_), .second, .val (.long a1_), .second, .val (.long b0_), .second, .val (.long b1_), .second, .val (.long vp), .second, .val (.long vq), .second, .val (.long r66), .second, .val (.long r67), .second, .val (.long r68), .second, .val (.long r69), .second, .val (.ref b70), .val (.ref b77), .val (.ref b82), .val (.ref b85), .val (.ref b88), .val (.ref b90), .val (.int r91), .val (.int r92), .val (.int r93), .val (.int z94), .unset] [(.long r68)])) _
    refine XS.lload X93.here hx rfl (hb hby at_180) rfl ?_
    show Steps p.tables e below (T93.setTop (mkF m 182 #[.val (.long a0_), .second, .val (.long a1_), .second, .val (.long b0_), .second, .val (.long b1_), .second, .val (.long vp), .second, .val (.long vq), .second, .val (.long r66), .second, .val (.long r67), .second, .val (.long r68), .second, .val (.long r69), .second, .val (.ref b70), .val (.ref b77), .val (.ref b82), .val (.ref b85), .val (.ref b88), .val (.ref b90), .val (.int r91), .val (.int r92), .val (.int r93), .val (.int z94), .unset] [(.long vq), (.long r68)])) _
    refine XS.lcmp X93.here hx rfl (hb hby at_182) rfl ?_
    show Steps p.tables e below (T93.setTop (mkF m 183 #[.val (.long a0_), .second, .val (.long a1_), .second, .val (.long b0_), .second, .val (.long b1_), .second, .val (.long vp), .second, .val (.long vq), .second, .val (.long r66), .second, .val (.long r67), .second, .val (.long r68), .second, .val (.long r69), .second, .val (.ref b70), .val (.ref b77), .val (.ref b82), .val (.ref b85), .val (.ref b88), .val (.ref b90), .val (.int r91), .val (.int r92), .val (.int r93), .val (.int z94), .unset] [(.int (lcmpW r68 vq))])) _
    by_cases h183_98 : vq < r68
    · refine XS.ifYes X93.here hx rfl (pc0 := 183) (pc' := 198) rfl (hb hby at_183) rfl ((if0 _ _).trans (tlt ((lw_gt _ _).mpr h183_98)).2.2.1) (by decide) (by decide) ?_
      show Steps p.tables e below (T93.setTop (mkF m 198 #[.val (.long a0_), .second, .val (.long a1_), .second, .val (.long b0_), .second, .val (.long b1_), .second, .val (.long vp), .second, .val (.long vq), .second, .val (.long r66), .second, .val (.long r67), .second, .val (.long r68), .second, .val (.long r69), .second, .val (.ref b70), .val (.ref b77), .val (.ref b82), .val (.ref b85), .val (.ref b88), .val (.ref b90), .val (.int r91), .val (.int r92), .val (.int r93), .val (.int z94), .unset] [])) _
      refine XS.iconst X93.here hx rfl (hb hby at_198) ?_
      have qz97 : z97 = (0 : Int32) := hz97.trans (by simp [h183_98])
      rw [qz97] at kt
      exact kt
    · refine XS.ifNo X93.here hx rfl (hb hby at_183) rfl ((if0 _ _).trans (flt (fun q => h183_98 ((lw_gt _ _).mp q))).2.2.1) ?_
      show Steps p.tables e below (T93.setTop (mkF m 186 #[.val (.long a0_), .second, .val (.long a1_), .second, .val (.long b0_), .second, .val (.long b1_), .second, .val (.long vp), .second, .val (.long vq), .second, .val (.long r66), .second, .val (.long r67), .second, .val (.long r68), .second, .val (.long r69), .second, .val (.ref b70), .val (.ref b77), .val (.ref b82), .val (.ref b85), .val (.ref b88), .val (.ref b90), .val (.int r91), .val (.int r92), .val (.int r93), .val (.int z94), .unset] [])) _
      refine XS.lload X93.here hx rfl (hb hby at_186) rfl ?_
      show Steps p.tables e below (T93.setTop (mkF m 188 #[.val (.long a0_), .second, .val (.long a1_), .second, .val (.long b0_), .second, .val (.long b1_), .second, .val (.long vp), .second, .val (.long vq), .second, .val (.long r66), .second, .val (.long r67), .second, .val (.long r68), .second, .val (.long r69), .second, .val (.ref b70), .val (.ref b77), .val (.ref b82), .val (.ref b85), .val (.ref b88), .val (.ref b90), .val (.int r91), .val (.int r92), .val (.int r93), .val (.int z94), .unset] [(.long vq)])) _
      refine XS.lload X93.here hx rfl (hb hby at_188) rfl ?_
      show Steps p.tables e below (T93.setTop (mkF m 190 #[.val (.long a0_), .second, .val (.long a1_), .second, .val (.long b0_), .second, .val (.long b1_), .second, .val (.long vp), .second, .val (.long vq), .second, .val (.long r66), .second, .val (.long r67), .second, .val (.long r68), .second, .val (.long r69), .second, .val (.ref b70), .val (.ref b77), .val (.ref b82), .val (.ref b85), .val (.ref b88), .val (.ref b90), .val (.int r91), .val (.int r92), .val (.int r93), .val (.int z94), .unset] [(.long r69), (.long vq)])) _
      refine XS.lcmp X93.here hx rfl (hb hby at_190) rfl ?_
      show Steps p.tables e below (T93.setTop (mkF m 191 #[.val (.long a0_), .second, .val (.long a1_), .second, .val (.long b0_), .second, .val (.long b1_), .second, .val (.long vp), .second, .val (.long vq), .second, .val (.long r66), .second, .val (.long r67), .second, .val (.long r68), .second, .val (.long r69), .second, .val (.ref b70), .val (.ref b77), .val (.ref b82), .val (.ref b85), .val (.ref b88), .val (.ref b90), .val (.int r91), .val (.int r92), .val (.int r93), .val (.int z94), .unset] [(.int (lcmpW vq r69))])) _
      by_cases h191_99 : vq < r69
      · refine XS.ifNo X93.here hx rfl (hb hby at_191) rfl ((if0 _ _).trans (tlt ((lw_lt _ _).mpr h191_99)).2.1) ?_
        show Steps p.tables e below (T93.setTop (mkF m 194 #[.val (.long a0_), .second, .val (.long a1_), .second, .val (.long b0_), .second, .val (.long b1_), .second, .val (.long vp), .second, .val (.long vq), .second, .val (.long r66), .second, .val (.long r67), .second, .val (.long r68), .second, .val (.long r69), .second, .val (.ref b70), .val (.ref b77), .val (.ref b82), .val (.ref b85), .val (.ref b88), .val (.ref b90), .val (.int r91), .val (.int r92), .val (.int r93), .val (.int z94), .unset] [])) _
        refine XS.iconst X93.here hx rfl (hb hby at_194) ?_
        show Steps p.tables e below (T93.setTop (mkF m 195 #[.val (.long a0_), .second, .val (.long a1_), .second, .val (.long b0_), .second, .val (.long b1_), .second, .val (.long vp), .second, .val (.long vq), .second, .val (.long r66), .second, .val (.long r67), .second, .val (.long r68), .second, .val (.long r69), .second, .val (.ref b70), .val (.ref b77), .val (.ref b82), .val (.ref b85), .val (.ref b88), .val (.ref b90), .val (.int r91), .val (.int r92), .val (.int r93), .val (.int z94), .unset] [(.int (1 : Int32))])) _
        refine XS.goto X93.here hx rfl (pc0 := 195) (pc' := 199) rfl (hb hby at_195) (by decide) (by decide) ?_
        have qz97 : z97 = (1 : Int32) := hz97.trans (by simp [h183_98, h191_99])
        rw [qz97] at kt
        exact kt
      · refine XS.ifYes X93.here hx rfl (pc0 := 191) (pc' := 198) rfl (hb hby at_191) rfl ((if0 _ _).trans (flt (fun q => h191_99 ((lw_lt _ _).mp q))).2.1) (by decide) (by decide) ?_
        show Steps p.tables e below (T93.setTop (mkF m 198 #[.val (.long a0_), .second, .val (.long a1_), .second, .val (.long b0_), .second, .val (.long b1_), .second, .val (.long vp), .second, .val (.long vq), .second, .val (.long r66), .second, .val (.long r67), .second, .val (.long r68), .second, .val (.long r69), .second, .val (.ref b70), .val (.ref b77), .val (.ref b82), .val (.ref b85), .val (.ref b88), .val (.ref b90), .val (.int r91), .val (.int r92), .val (.int r93), .val (.int z94), .unset] [])) _
        refine XS.iconst X93.here hx rfl (hb hby at_198) ?_
        have qz97 : z97 = (0 : Int32) := hz97.trans (by simp [h183_98, h191_99])
        rw [qz97] at kt
        exact kt
  obtain ⟨z100, hz100⟩ : ∃ z : Int32, z = if z94 = 0 then (0 : Int32) else if z97 = 0 then 0 else 1 := ⟨_, rfl⟩
  have seg100 : ∀ t, Steps p.tables e below (T93.setTop (mkF m 218 #[.val (.long a0_), .second, .val (.long a1_), .second, .val (.long b0_), .second, .val (.long b1_), .second, .val (.long vp), .second, .val (.long vq), .second, .val (.long r66), .second, .val (.long r67), .second, .val (.long r68), .second, .val (.long r69), .second, .val (.ref b70), .val (.ref b77), .val (.ref b82), .val (.ref b85), .val (.ref b88), .val (.ref b90), .val (.int r91), .val (.int r92), .val (.int r93), .val (.int z94), .val (.int z97)] [(.int z100), (.int r91)])) t → Steps p.tables e below (T93.setTop (mkF m 203 #[.val (.long a0_), .second, .val (.long a1_), .second, .val (.long b0_), .second, .val (.long b1_), .second, .val (.long vp), .second, .val (.long vq), .second, .val (.long r66), .second, .val (.long r67), .second, .val (.long r68), .second, .val (.long r69), .second, .val (.ref b70), .val (.ref b77), .val (.ref b82), .val (.ref b85), .val (.ref b88), .val (.ref b90), .val (.int r91), .val (.int r92), .val (.int r93), .val (.int z94), .val (.int z97)] [(.int r91)])) t := by
    intro t kt
    show Steps p.tables e below (T93.setTop (mkF m 203 #[.val (.long a0_), .second, .val (.long a1_), .second, .val (.long b0_), .second, .val (.long b1_), .second, .val (.long vp), .second, .val (.long vq), .second, .val (.long r66), .second, .val (.long r67), .second, .val (.long r68), .second, .val (.long r69), .second, .val (.ref b70), .val (.ref b77), .val (.ref b82), .val (.ref b85), .val (.ref b88), .val (.ref b90), .val (.int r91), .val (.int r92), .val (.int r93), .val (.int z94), .val (.int z97)] [(.int r91)])) _
    refine XS.iload X93.here hx rfl (hb hby at_203) rfl ?_
    show Steps p.tables e below (T93.setTop (mkF m 205 #[.val (.long a0_), .second, .val (.long a1_), .second, .val (.long b0_), .second, .val (.long b1_), .second, .val (.long vp), .second, .val (.long vq), .second, .val (.long r66), .second, .val (.long r67), .second, .val (.long r68), .second, .val (.long r69), .second, .val (.ref b70), .val (.ref b77), .val (.ref b82), .val (.ref b85), .val (.ref b88), .val (.ref b90), .val (.int r91), .val (.int r92), .val (.int r93), .val (.int z94), .val (.int z97)] [(.int z94), (.int r91)])) _
    by_cases h205_101 : z94 = (0 : Int32)
    · refine XS.ifYes X93.here hx rfl (pc0 := 205) (pc' := 217) rfl (hb hby at_205) rfl ((if0 _ _).trans (teq h205_101).1) (by decide) (by decide) ?_
      show Steps p.tables e below (T93.setTop (mkF m 217 #[.val (.long a0_), .second, .val (.long a1_), .second, .val (.long b0_), .second, .val (.long b1_), .second, .val (.long vp), .second, .val (.long vq), .second, .val (.long r66), .second, .val (.long r67), .second, .val (.long r68), .second, .val (.long r69), .second, .val (.ref b70), .val (.ref b77), .val (.ref b82), .val (.ref b85), .val (.ref b88), .val (.ref b90), .val (.int r91), .val (.int r92), .val (.int r93), .val (.int z94), .val (.int z97)] [(.int r91)])) _
      refine XS.iconst X93.here hx rfl (hb hby at_217) ?_
      have qz100 : z100 = (0 : Int32) := hz100.trans (by simp [h205_101])
      rw [qz100] at kt
      exact kt
    · refine XS.ifNo X93.here hx rfl (hb hby at_205) rfl ((if0 _ _).trans (feq h205_101).1) ?_
      show Steps p.tables e below (T93.setTop (mkF m 208 #[.val (.long a0_), .second, .val (.long a1_), .second, .val (.long b0_), .second, .val (.long b1_), .second, .val (.long vp), .second, .val (.long vq), .second, .val (.long r66), .second, .val (.long r67), .second, .val (.long r68), .second, .val (.long r69), .second, .val (.ref b70), .val (.ref b77), .val (.ref b82), .val (.ref b85), .val (.ref b88), .val (.ref b90), .val (.int r91), .val (.int r92), .val (.int r93), .val (.int z94), .val (.int z97)] [(.int r91)])) _
      refine XS.iload X93.here hx rfl (hb hby at_208) rfl ?_
      show Steps p.tables e below (T93.setTop (mkF m 210 #[.val (.long a0_), .second, .val (.long a1_), .second, .val (.long b0_), .second, .val (.long b1_), .second, .val (.long vp), .second, .val (.long vq), .second, .val (.long r66), .second, .val (.long r67), .second, .val (.long r68), .second, .val (.long r69), .second, .val (.ref b70), .val (.ref b77), .val (.ref b82), .val (.ref b85), .val (.ref b88), .val (.ref b90), .val (.int r91), .val (.int r92), .val (.int r93), .val (.int z94), .val (.int z97)] [(.int z97), (.int r91)])) _
      by_cases h210_102 : z97 = (0 : Int32)
      · refine XS.ifYes X93.here hx rfl (pc0 := 210) (pc' := 217) rfl (hb hby at_210) rfl ((if0 _ _).trans (teq h210_102).1) (by decide) (by decide) ?_
        show Steps p.tables e below (T93.setTop (mkF m 217 #[.val (.long a0_), .second, .val (.long a1_), .second, .val (.long b0_), .second, .val (.long b1_), .second, .val (.long vp), .second, .val (.long vq), .second, .val (.long r66), .second, .val (.long r67), .second, .val (.long r68), .second, .val (.long r69), .second, .val (.ref b70), .val (.ref b77), .val (.ref b82), .val (.ref b85), .val (.ref b88), .val (.ref b90), .val (.int r91), .val (.int r92), .val (.int r93), .val (.int z94), .val (.int z97)] [(.int r91)])) _
        refine XS.iconst X93.here hx rfl (hb hby at_217) ?_
        have qz100 : z100 = (0 : Int32) := hz100.trans (by simp [h205_101, h210_102])
        rw [qz100] at kt
        exact kt
      · refine XS.ifNo X93.here hx rfl (hb hby at_210) rfl ((if0 _ _).trans (feq h210_102).1) ?_
        show Steps p.tables e below (T93.setTop (mkF m 213 #[.val (.long a0_), .second, .val (.long a1_), .second, .val (.long b0_), .second, .val (.long b1_), .second, .val (.long vp), .second, .val (.long vq), .second, .val (.long r66), .second, .val (.long r67), .second, .val (.long r68), .second, .val (.long r69), .second, .val (.ref b70), .val (.ref b77), .val (.ref b82), .val (.ref b85), .val (.ref b88), .val (.ref b90), .val (.int r91), .val (.int r92), .val (.int r93), .val (.int z94), .val (.int z97)] [(.int r91)])) _
        refine XS.iconst X93.here hx rfl (hb hby at_213) ?_
        show Steps p.tables e below (T93.setTop (mkF m 214 #[.val (.long a0_), .second, .val (.long a1_), .second, .val (.long b0_), .second, .val (.long b1_), .second, .val (.long vp), .second, .val (.long vq), .second, .val (.long r66), .second, .val (.long r67), .second, .val (.long r68), .second, .val (.long r69), .second, .val (.ref b70), .val (.ref b77), .val (.ref b82), .val (.ref b85), .val (.ref b88), .val (.ref b90), .val (.int r91), .val (.int r92), .val (.int r93), .val (.int z94), .val (.int z97)] [(.int (1 : Int32)), (.int r91)])) _
        refine XS.goto X93.here hx rfl (pc0 := 214) (pc' := 218) rfl (hb hby at_214) (by decide) (by decide) ?_
        have qz100 : z100 = (1 : Int32) := hz100.trans (by simp [h205_101, h210_102])
        rw [qz100] at kt
        exact kt
  obtain ⟨cl103, Ar103, q103, S103, N103a, H103, G103⟩ := id Av_b85_87_c90
  have hin103 : ¬ ((0 : Int32) < 0 ∨ cl103.slots.size ≤ ((0 : Int32)).toNatClampNeg) := inb_of S103 ⟨by decide, by decide⟩
  have hat103 : cl103.slots[((0 : Int32)).toNatClampNeg]? = some (.long vp) := H103.at hin103 rfl
  obtain ⟨cl104, Ar104, q104, S104, N104a, H104, G104⟩ := id Av_b85_87_c90
  have hin104 : ¬ ((1 : Int32) < 0 ∨ cl104.slots.size ≤ ((1 : Int32)).toNatClampNeg) := inb_of S104 ⟨by decide, by decide⟩
  have hat104 : cl104.slots[((1 : Int32)).toNatClampNeg]? = some (.long vq) := H104.at hin104 rfl
  obtain ⟨cl105, Ar105, q105, S105, N105a, H105, G105⟩ := id Av_b88_89_c90
  have hin105 : ¬ ((0 : Int32) < 0 ∨ cl105.slots.size ≤ ((0 : Int32)).toNatClampNeg) := inb_of S105 ⟨by decide, by decide⟩
  have hat105 : cl105.slots[((0 : Int32)).toNatClampNeg]? = some (.long vp) := H105.at hin105 rfl
  obtain ⟨fs, hr, hrun, hended, hW, hsame⟩ := X93.leave (v := some (.int (1 : Int32))) (fun h => by rw [Bd.returns] at h; cases h)
  refine ⟨_, _, pre0 _ ?_, hrun, hended, _, _, rfl, ?_, ⟨_, rfl⟩, hW, hsame.mono (by decide) (by decide)⟩
  · show Steps p.tables e below (s₁.setTop (mkF m 0 #[.val (.long a0_), .second, .val (.long a1_), .second, .val (.long b0_), .second, .val (.long b1_), .second, .val (.long vp), .second, .val (.long vq), .second, .unset, .unset, .unset, .unset, .unset, .unset, .unset, .unset, .unset, .unset, .unset, .unset, .unset, .unset, .unset, .unset, .unset, .unset, .unset] [])) _
    refine XS.lloadN X0.here hx rfl (hb hby at_0) rfl ?_
    show Steps p.tables e below (s₁.setTop (mkF m 1 #[.val (.long a0_), .second, .val (.long a1_), .second, .val (.long b0_), .second, .val (.long b1_), .second, .val (.long vp), .second, .val (.long vq), .second, .unset, .unset, .unset, .unset, .unset, .unset, .unset, .unset, .unset, .unset, .unset, .unset, .unset, .unset, .unset, .unset, .unset, .unset, .unset] [(.long a0_)])) _
    refine XS.lloadN X0.here hx rfl (hb hby at_1) rfl ?_
    show Steps p.tables e below (s₁.setTop (mkF m 2 #[.val (.long a0_), .second, .val (.long a1_), .second, .val (.long b0_), .second, .val (.long b1_), .second, .val (.long vp), .second, .val (.long vq), .second, .unset, .unset, .unset, .unset, .unset, .unset, .unset, .unset, .unset, .unset, .unset, .unset, .unset, .unset, .unset, .unset, .unset, .unset, .unset] [(.long a1_), (.long a0_)])) _
    refine st66 _ ?_
    show Steps p.tables e below (T66.setTop (mkF m 5 #[.val (.long a0_), .second, .val (.long a1_), .second, .val (.long b0_), .second, .val (.long b1_), .second, .val (.long vp), .second, .val (.long vq), .second, .unset, .unset, .unset, .unset, .unset, .unset, .unset, .unset, .unset, .unset, .unset, .unset, .unset, .unset, .unset, .unset, .unset, .unset, .unset] [(.long r66)])) _
    refine XS.lstore X66.here hx rfl (hb hby at_5) rfl (l' := #[.val (.long a0_), .second, .val (.long a1_), .second, .val (.long b0_), .second, .val (.long b1_), .second, .val (.long vp), .second, .val (.long vq), .second, .val (.long r66), .second, .unset, .unset, .unset, .unset, .unset, .unset, .unset, .unset, .unset, .unset, .unset, .unset, .unset, .unset, .unset, .unset, .unset]) rfl ?_
    show Steps p.tables e below (T66.setTop (mkF m 7 #[.val (.long a0_), .second, .val (.long a1_), .second, .val (.long b0_), .second, .val (.long b1_), .second, .val (.long vp), .second, .val (.long vq), .second, .val (.long r66), .second, .unset, .unset, .unset, .unset, .unset, .unset, .unset, .unset, .unset, .unset, .unset, .unset, .unset, .unset, .unset, .unset, .unset] [])) _
    refine XS.lloadN X66.here hx rfl (hb hby at_7) rfl ?_
    show Steps p.tables e below (T66.setTop (mkF m 8 #[.val (.long a0_), .second, .val (.long a1_), .second, .val (.long b0_), .second, .val (.long b1_), .second, .val (.long vp), .second, .val (.long vq), .second, .val (.long r66), .second, .unset, .unset, .unset, .unset, .unset, .unset, .unset, .unset, .unset, .unset, .unset, .unset, .unset, .unset, .unset, .unset, .unset] [(.long a0_)])) _
    refine XS.lloadN X66.here hx rfl (hb hby at_8) rfl ?_
    show Steps p.tables e below (T66.setTop (mkF m 9 #[.val (.long a0_), .second, .val (.long a1_), .second, .val (.long b0_), .second, .val (.long b1_), .second, .val (.long vp), .second, .val (.long vq), .second, .val (.long r66), .second, .unset, .unset, .unset, .unset, .unset, .unset, .unset, .unset, .unset, .unset, .unset, .unset, .unset, .unset, .unset, .unset, .unset] [(.long a1_), (.long a0_)])) _
    refine st67 _ ?_
    show Steps p.tables e below (T67.setTop (mkF m 12 #[.val (.long a0_), .second, .val (.long a1_), .second, .val (.long b0_), .second, .val (.long b1_), .second, .val (.long vp), .second, .val (.long vq), .second, .val (.long r66), .second, .unset, .unset, .unset, .unset, .unset, .unset, .unset, .unset, .unset, .unset, .unset, .unset, .unset, .unset, .unset, .unset, .unset] [(.long r67)])) _
    refine XS.lstore X67.here hx rfl (hb hby at_12) rfl (l' := #[.val (.long a0_), .second, .val (.long a1_), .second, .val (.long b0_), .second, .val (.long b1_), .second, .val (.long vp), .second, .val (.long vq), .second, .val (.long r66), .second, .val (.long r67), .second, .unset, .unset, .unset, .unset, .unset, .unset, .unset, .unset, .unset, .unset, .unset, .unset, .unset, .unset, .unset]) rfl ?_
    show Steps p.tables e below (T67.setTop (mkF m 14 #[.val (.long a0_), .second, .val (.long a1_), .second, .val (.long b0_), .second, .val (.long b1_), .second, .val (.long vp), .second, .val (.long vq), .second, .val (.long r66), .second, .val (.long r67), .second, .unset, .unset, .unset, .unset, .unset, .unset, .unset, .unset, .unset, .unset, .unset, .unset, .unset, .unset, .unset] [])) _
    refine XS.lload X67.here hx rfl (hb hby at_14) rfl ?_
    show Steps p.tables e below (T67.setTop (mkF m 16 #[.val (.long a0_), .second, .val (.long a1_), .second, .val (.long b0_), .second, .val (.long b1_), .second, .val (.long vp), .second, .val (.long vq), .second, .val (.long r66), .second, .val (.long r67), .second, .unset, .unset, .unset, .unset, .unset, .unset, .unset, .unset, .unset, .unset, .unset, .unset, .unset, .unset, .unset] [(.long b0_)])) _
    refine XS.lload X67.here hx rfl (hb hby at_16) rfl ?_
    show Steps p.tables e below (T67.setTop (mkF m 18 #[.val (.long a0_), .second, .val (.long a1_), .second, .val (.long b0_), .second, .val (.long b1_), .second, .val (.long vp), .second, .val (.long vq), .second, .val (.long r66), .second, .val (.long r67), .second, .unset, .unset, .unset, .unset, .unset, .unset, .unset, .unset, .unset, .unset, .unset, .unset, .unset, .unset, .unset] [(.long b1_), (.long b0_)])) _
    refine st68 _ ?_
    show Steps p.tables e below (T68.setTop (mkF m 21 #[.val (.long a0_), .second, .val (.long a1_), .second, .val (.long b0_), .second, .val (.long b1_), .second, .val (.long vp), .second, .val (.long vq), .second, .val (.long r66), .second, .val (.long r67), .second, .unset, .unset, .unset, .unset, .unset, .unset, .unset, .unset, .unset, .unset, .unset, .unset, .unset, .unset, .unset] [(.long r68)])) _
    refine XS.lstore X68.here hx rfl (hb hby at_21) rfl (l' := #[.val (.long a0_), .second, .val (.long a1_), .second, .val (.long b0_), .second, .val (.long b1_), .second, .val (.long vp), .second, .val (.long vq), .second, .val (.long r66), .second, .val (.long r67), .second, .val (.long r68), .second, .unset, .unset, .unset, .unset, .unset, .unset, .unset, .unset, .unset, .unset, .unset, .unset, .unset]) rfl ?_
    show Steps p.tables e below (T68.setTop (mkF m 23 #[.val (.long a0_), .second, .val (.long a1_), .second, .val (.long b0_), .second, .val (.long b1_), .second, .val (.long vp), .second, .val (.long vq), .second, .val (.long r66), .second, .val (.long r67), .second, .val (.long r68), .second, .unset, .unset, .unset, .unset, .unset, .unset, .unset, .unset, .unset, .unset, .unset, .unset, .unset] [])) _
    refine XS.lload X68.here hx rfl (hb hby at_23) rfl ?_
    show Steps p.tables e below (T68.setTop (mkF m 25 #[.val (.long a0_), .second, .val (.long a1_), .second, .val (.long b0_), .second, .val (.long b1_), .second, .val (.long vp), .second, .val (.long vq), .second, .val (.long r66), .second, .val (.long r67), .second, .val (.long r68), .second, .unset, .unset, .unset, .unset, .unset, .unset, .unset, .unset, .unset, .unset, .unset, .unset, .unset] [(.long b0_)])) _
    refine XS.lload X68.here hx rfl (hb hby at_25) rfl ?_
    show Steps p.tables e below (T68.setTop (mkF m 27 #[.val (.long a0_), .second, .val (.long a1_), .second, .val (.long b0_), .second, .val (.long b1_), .second, .val (.long vp), .second, .val (.long vq), .second, .val (.long r66), .second, .val (.long r67), .second, .val (.long r68), .second, .unset, .unset, .unset, .unset, .unset, .unset, .unset, .unset, .unset, .unset, .unset, .unset, .unset] [(.long b1_), (.long b0_)])) _
    refine st69 _ ?_
    show Steps p.tables e below (T69.setTop (mkF m 30 #[.val (.long a0_), .second, .val (.long a1_), .second, .val (.long b0_), .second, .val (.long b1_), .second, .val (.long vp), .second, .val (.long vq), .second, .val (.long r66), .second, .val (.long r67), .second, .val (.long r68), .second, .unset, .unset, .unset, .unset, .unset, .unset, .unset, .unset, .unset, .unset, .unset, .unset, .unset] [(.long r69)])) _
    refine XS.lstore X69.here hx rfl (hb hby at_30) rfl (l' := #[.val (.long a0_), .second, .val (.long a1_), .second, .val (.long b0_), .second, .val (.long b1_), .second, .val (.long vp), .second, .val (.long vq), .second, .val (.long r66), .second, .val (.long r67), .second, .val (.long r68), .second, .val (.long r69), .second, .unset, .unset, .unset, .unset, .unset, .unset, .unset, .unset, .unset, .unset, .unset]) rfl ?_
    show Steps p.tables e below (T69.setTop (mkF m 32 #[.val (.long a0_), .second, .val (.long a1_), .second, .val (.long b0_), .second, .val (.long b1_), .second, .val (.long vp), .second, .val (.long vq), .second, .val (.long r66), .second, .val (.long r67), .second, .val (.long r68), .second, .val (.long r69), .second, .unset, .unset, .unset, .unset, .unset, .unset, .unset, .unset, .unset, .unset, .unset] [])) _
    refine st70 _ ?_
    show Steps p.tables e below (T70.setTop (mkF m 35 #[.val (.long a0_), .second, .val (.long a1_), .second, .val (.long b0_), .second, .val (.long b1_), .second, .val (.long vp), .second, .val (.long vq), .second, .val (.long r66), .second, .val (.long r67), .second, .val (.long r68), .second, .val (.long r69), .second, .unset, .unset, .unset, .unset, .unset, .unset, .unset, .unset, .unset, .unset, .unset] [(.ref b70)])) _
    refine XS.dup X70.here hx rfl (hb hby at_35) rfl rfl ?_
    show Steps p.tables e below (T70.setTop (mkF m 36 #[.val (.long a0_), .second, .val (.long a1_), .second, .val (.long b0_), .second, .val (.long b1_), .second, .val (.long vp), .second, .val (.long vq), .second, .val (.long r66), .second, .val (.long r67), .second, .val (.long r68), .second, .val (.long r69), .second, .unset, .unset, .unset, .unset, .unset, .unset, .unset, .unset, .unset, .unset, .unset] [(.ref b70), (.ref b70)])) _
    refine XS.iconst X70.here hx rfl (hb hby at_36) ?_
    show Steps p.tables e below (T70.setTop (mkF m 37 #[.val (.long a0_), .second, .val (.long a1_), .second, .val (.long b0_), .second, .val (.long b1_), .second, .val (.long vp), .second, .val (.long vq), .second, .val (.long r66), .second, .val (.long r67), .second, .val (.long r68), .second, .val (.long r69), .second, .unset, .unset, .unset, .unset, .unset, .unset, .unset, .unset, .unset, .unset, .unset] [(.int (4 : Int32)), (.ref b70), (.ref b70)])) _
    refine st71 _ ?_
    show Steps p.tables e below (T71.setTop (mkF m 39 #[.val (.long a0_), .second, .val (.long a1_), .second, .val (.long b0_), .second, .val (.long b1_), .second, .val (.long vp), .second, .val (.long vq), .second, .val (.long r66), .second, .val (.long r67), .second, .val (.long r68), .second, .val (.long r69), .second, .unset, .unset, .unset, .unset, .unset, .unset, .unset, .unset, .unset, .unset, .unset] [(.ref b71), (.ref b70), (.ref b70)])) _
    refine XS.dup X71.here hx rfl (hb hby at_39) rfl rfl ?_
    show Steps p.tables e below (T71.setTop (mkF m 40 #[.val (.long a0_), .second, .val (.long a1_), .second, .val (.long b0_), .second, .val (.long b1_), .second, .val (.long vp), .second, .val (.long vq), .second, .val (.long r66), .second, .val (.long r67), .second, .val (.long r68), .second, .val (.long r69), .second, .unset, .unset, .unset, .unset, .unset, .unset, .unset, .unset, .unset, .unset, .unset] [(.ref b71), (.ref b71), (.ref b70), (.ref b70)])) _
    refine XS.iconst X71.here hx rfl (hb hby at_40) ?_
    show Steps p.tables e below (T71.setTop (mkF m 41 #[.val (.long a0_), .second, .val (.long a1_), .second, .val (.long b0_), .second, .val (.long b1_), .second, .val (.long vp), .second, .val (.long vq), .second, .val (.long r66), .second, .val (.long r67), .second, .val (.long r68), .second, .val (.long r69), .second, .unset, .unset, .unset, .unset, .unset, .unset, .unset, .unset, .unset, .unset, .unset] [(.int (0 : Int32)), (.ref b71), (.ref b71), (.ref b70), (.ref b70)])) _
    refine XS.lload X71.here hx rfl (hb hby at_41) rfl ?_
    show Steps p.tables e below (T71.setTop (mkF m 43 #[.val (.long a0_), .second, .val (.long a1_), .second, .val (.long b0_), .second, .val (.long b1_), .second, .val (.long vp), .second, .val (.long vq), .second, .val (.long r66), .second, .val (.long r67), .second, .val (.long r68), .second, .val (.long r69), .second, .unset, .unset, .unset, .unset, .unset, .unset, .unset, .unset, .unset, .unset, .unset] [(.long r66), (.int (0 : Int32)), (.ref b71), (.ref b71), (.ref b70), (.ref b70)])) _
    refine st72 _ ?_
    show Steps p.tables e below (T72.setTop (mkF m 44 #[.val (.long a0_), .second, .val (.long a1_), .second, .val (.long b0_), .second, .val (.long b1_), .second, .val (.long vp), .second, .val (.long vq), .second, .val (.long r66), .second, .val (.long r67), .second, .val (.long r68), .second, .val (.long r69), .second, .unset, .unset, .unset, .unset, .unset, .unset, .unset, .unset, .unset, .unset, .unset] [(.ref b71), (.ref b70), (.ref b70)])) _
    refine XS.dup X72.here hx rfl (hb hby at_44) rfl rfl ?_
    show Steps p.tables e below (T72.setTop (mkF m 45 #[.val (.long a0_), .second, .val (.long a1_), .second, .val (.long b0_), .second, .val (.long b1_), .second, .val (.long vp), .second, .val (.long vq), .second, .val (.long r66), .second, .val (.long r67), .second, .val (.long r68), .second, .val (.long r69), .second, .unset, .unset, .unset, .unset, .unset, .unset, .unset, .unset, .unset, .unset, .unset] [(.ref b71), (.ref b71), (.ref b70), (.ref b70)])) _
    refine XS.iconst X72.here hx rfl (hb hby at_45) ?_
    show Steps p.tables e below (T72.setTop (mkF m 46 #[.val (.long a0_), .second, .val (.long a1_), .second, .val (.long b0_), .second, .val (.long b1_), .second, .val (.long vp), .second, .val (.long vq), .second, .val (.long r66), .second, .val (.long r67), .second, .val (.long r68), .second, .val (.long r69), .second, .unset, .unset, .unset, .unset, .unset, .unset, .unset, .unset, .unset, .unset, .unset] [(.int (1 : Int32)), (.ref b71), (.ref b71), (.ref b70), (.ref b70)])) _
    refine XS.lload X72.here hx rfl (hb hby at_46) rfl ?_
    show Steps p.tables e below (T72.setTop (mkF m 48 #[.val (.long a0_), .second, .val (.long a1_), .second, .val (.long b0_), .second, .val (.long b1_), .second, .val (.long vp), .second, .val (.long vq), .second, .val (.long r66), .second, .val (.long r67), .second, .val (.long r68), .second, .val (.long r69), .second, .unset, .unset, .unset, .unset, .unset, .unset, .unset, .unset, .unset, .unset, .unset] [(.long r67), (.int (1 : Int32)), (.ref b71), (.ref b71), (.ref b70), (.ref b70)])) _
    refine st73 _ ?_
    show Steps p.tables e below (T73.setTop (mkF m 49 #[.val (.long a0_), .second, .val (.long a1_), .second, .val (.long b0_), .second, .val (.long b1_), .second, .val (.long vp), .second, .val (.long vq), .second, .val (.long r66), .second, .val (.long r67), .second, .val (.long r68), .second, .val (.long r69), .second, .unset, .unset, .unset, .unset, .unset, .unset, .unset, .unset, .unset, .unset, .unset] [(.ref b71), (.ref b70), (.ref b70)])) _
    refine XS.dup X73.here hx rfl (hb hby at_49) rfl rfl ?_
    show Steps p.tables e below (T73.setTop (mkF m 50 #[.val (.long a0_), .second, .val (.long a1_), .second, .val (.long b0_), .second, .val (.long b1_), .second, .val (.long vp), .second, .val (.long vq), .second, .val (.long r66), .second, .val (.long r67), .second, .val (.long r68), .second, .val (.long r69), .second, .unset, .unset, .unset, .unset, .unset, .unset, .unset, .unset, .unset, .unset, .unset] [(.ref b71), (.ref b71), (.ref b70), (.ref b70)])) _
    refine XS.iconst X73.here hx rfl (hb hby at_50) ?_
    show Steps p.tables e below (T73.setTop (mkF m 51 #[.val (.long a0_), .second, .val (.long a1_), .second, .val (.long b0_), .second, .val (.long b1_), .second, .val (.long vp), .second, .val (.long vq), .second, .val (.long r66), .second, .val (.long r67), .second, .val (.long r68), .second, .val (.long r69), .second, .unset, .unset, .unset, .unset, .unset, .unset, .unset, .unset, .unset, .unset, .unset] [(.int (2 : Int32)), (.ref b71), (.ref b71), (.ref b70), (.ref b70)])) _
    refine XS.lload X73.here hx rfl (hb hby at_51) rfl ?_
    show Steps p.tables e below (T73.setTop (mkF m 53 #[.val (.long a0_), .second, .val (.long a1_), .second, .val (.long b0_), .second, .val (.long b1_), .second, .val (.long vp), .second, .val (.long vq), .second, .val (.long r66), .second, .val (.long r67), .second, .val (.long r68), .second, .val (.long r69), .second, .unset, .unset, .unset, .unset, .unset, .unset, .unset, .unset, .unset, .unset, .unset] [(.long r68), (.int (2 : Int32)), (.ref b71), (.ref b71), (.ref b70), (.ref b70)])) _
    refine st74 _ ?_
    show Steps p.tables e below (T74.setTop (mkF m 54 #[.val (.long a0_), .second, .val (.long a1_), .second, .val (.long b0_), .second, .val (.long b1_), .second, .val (.long vp), .second, .val (.long vq), .second, .val (.long r66), .second, .val (.long r67), .second, .val (.long r68), .second, .val (.long r69), .second, .unset, .unset, .unset, .unset, .unset, .unset, .unset, .unset, .unset, .unset, .unset] [(.ref b71), (.ref b70), (.ref b70)])) _
    refine XS.dup X74.here hx rfl (hb hby at_54) rfl rfl ?_
    show Steps p.tables e below (T74.setTop (mkF m 55 #[.val (.long a0_), .second, .val (.long a1_), .second, .val (.long b0_), .second, .val (.long b1_), .second, .val (.long vp), .second, .val (.long vq), .second, .val (.long r66), .second, .val (.long r67), .second, .val (.long r68), .second, .val (.long r69), .second, .unset, .unset, .unset, .unset, .unset, .unset, .unset, .unset, .unset, .unset, .unset] [(.ref b71), (.ref b71), (.ref b70), (.ref b70)])) _
    refine XS.iconst X74.here hx rfl (hb hby at_55) ?_
    show Steps p.tables e below (T74.setTop (mkF m 56 #[.val (.long a0_), .second, .val (.long a1_), .second, .val (.long b0_), .second, .val (.long b1_), .second, .val (.long vp), .second, .val (.long vq), .second, .val (.long r66), .second, .val (.long r67), .second, .val (.long r68), .second, .val (.long r69), .second, .unset, .unset, .unset, .unset, .unset, .unset, .unset, .unset, .unset, .unset, .unset] [(.int (3 : Int32)), (.ref b71), (.ref b71), (.ref b70), (.ref b70)])) _
    refine XS.lload X74.here hx rfl (hb hby at_56) rfl ?_
    show Steps p.tables e below (T74.setTop (mkF m 58 #[.val (.long a0_), .second, .val (.long a1_), .second, .val (.long b0_), .second, .val (.long b1_), .second, .val (.long vp), .second, .val (.long vq), .second, .val (.long r66), .second, .val (.long r67), .second, .val (.long r68), .second, .val (.long r69), .second, .unset, .unset, .unset, .unset, .unset, .unset, .unset, .unset, .unset, .unset, .unset] [(.long r69), (.int (3 : Int32)), (.ref b71), (.ref b71), (.ref b70), (.ref b70)])) _
    refine st75 _ ?_
    show Steps p.tables e below (T75.setTop (mkF m 59 #[.val (.long a0_), .second, .val (.long a1_), .second, .val (.long b0_), .second, .val (.long b1_), .second, .val (.long vp), .second, .val (.long vq), .second, .val (.long r66), .second, .val (.long r67), .second, .val (.long r68), .second, .val (.long r69), .second, .unset, .unset, .unset, .unset, .unset, .unset, .unset, .unset, .unset, .unset, .unset] [(.ref b71), (.ref b70), (.ref b70)])) _
    refine st76.trans ?_
    show Steps p.tables e below (T76.setTop (mkF m 62 #[.val (.long a0_), .second, .val (.long a1_), .second, .val (.long b0_), .second, .val (.long b1_), .second, .val (.long vp), .second, .val (.long vq), .second, .val (.long r66), .second, .val (.long r67), .second, .val (.long r68), .second, .val (.long r69), .second, .unset, .unset, .unset, .unset, .unset, .unset, .unset, .unset, .unset, .unset, .unset] [(.ref b70)])) _
    refine XS.astore X76.here hx rfl (hb hby at_62) rfl rfl (l' := #[.val (.long a0_), .second, .val (.long a1_), .second, .val (.long b0_), .second, .val (.long b1_), .second, .val (.long vp), .second, .val (.long vq), .second, .val (.long r66), .second, .val (.long r67), .second, .val (.long r68), .second, .val (.long r69), .second, .val (.ref b70), .unset, .unset, .unset, .unset, .unset, .unset, .unset, .unset, .unset, .unset]) rfl ?_
    show Steps p.tables e below (T76.setTop (mkF m 64 #[.val (.long a0_), .second, .val (.long a1_), .second, .val (.long b0_), .second, .val (.long b1_), .second, .val (.long vp), .second, .val (.long vq), .second, .val (.long r66), .second, .val (.long r67), .second, .val (.long r68), .second, .val (.long r69), .second, .val (.ref b70), .unset, .unset, .unset, .unset, .unset, .unset, .unset, .unset, .unset, .unset] [])) _
    refine st77 _ ?_
    show Steps p.tables e below (T77.setTop (mkF m 67 #[.val (.long a0_), .second, .val (.long a1_), .second, .val (.long b0_), .second, .val (.long b1_), .second, .val (.long vp), .second, .val (.long vq), .second, .val (.long r66), .second, .val (.long r67), .second, .val (.long r68), .second, .val (.long r69), .second, .val (.ref b70), .unset, .unset, .unset, .unset, .unset, .unset, .unset, .unset, .unset, .unset] [(.ref b77)])) _
    refine XS.dup X77.here hx rfl (hb hby at_67) rfl rfl ?_
    show Steps p.tables e below (T77.setTop (mkF m 68 #[.val (.long a0_), .second, .val (.long a1_), .second, .val (.long b0_), .second, .val (.long b1_), .second, .val (.long vp), .second, .val (.long vq), .second, .val (.long r66), .second, .val (.long r67), .second, .val (.long r68), .second, .val (.long r69), .second, .val (.ref b70), .unset, .unset, .unset, .unset, .unset, .unset, .unset, .unset, .unset, .unset] [(.ref b77), (.ref b77)])) _
    refine XS.iconst X77.here hx rfl (hb hby at_68) ?_
    show Steps p.tables e below (T77.setTop (mkF m 69 #[.val (.long a0_), .second, .val (.long a1_), .second, .val (.long b0_), .second, .val (.long b1_), .second, .val (.long vp), .second, .val (.long vq), .second, .val (.long r66), .second, .val (.long r67), .second, .val (.long r68), .second, .val (.long r69), .second, .val (.ref b70), .unset, .unset, .unset, .unset, .unset, .unset, .unset, .unset, .unset, .unset] [(.int (2 : Int32)), (.ref b77), (.ref b77)])) _
    refine st78 _ ?_
    show Steps p.tables e below (T78.setTop (mkF m 71 #[.val (.long a0_), .second, .val (.long a1_), .second, .val (.long b0_), .second, .val (.long b1_), .second, .val (.long vp), .second, .val (.long vq), .second, .val (.long r66), .second, .val (.long r67), .second, .val (.long r68), .second, .val (.long r69), .second, .val (.ref b70), .unset, .unset, .unset, .unset, .unset, .unset, .unset, .unset, .unset, .unset] [(.ref b78), (.ref b77), (.ref b77)])) _
    refine XS.dup X78.here hx rfl (hb hby at_71) rfl rfl ?_
    show Steps p.tables e below (T78.setTop (mkF m 72 #[.val (.long a0_), .second, .val (.long a1_), .second, .val (.long b0_), .second, .val (.long b1_), .second, .val (.long vp), .second, .val (.long vq), .second, .val (.long r66), .second, .val (.long r67), .second, .val (.long r68), .second, .val (.long r69), .second, .val (.ref b70), .unset, .unset, .unset, .unset, .unset, .unset, .unset, .unset, .unset, .unset] [(.ref b78), (.ref b78), (.ref b77), (.ref b77)])) _
    refine XS.iconst X78.here hx rfl (hb hby at_72) ?_
    show Steps p.tables e below (T78.setTop (mkF m 73 #[.val (.long a0_), .second, .val (.long a1_), .second, .val (.long b0_), .second, .val (.long b1_), .second, .val (.long vp), .second, .val (.long vq), .second, .val (.long r66), .second, .val (.long r67), .second, .val (.long r68), .second, .val (.long r69), .second, .val (.ref b70), .unset, .unset, .unset, .unset, .unset, .unset, .unset, .unset, .unset, .unset] [(.int (0 : Int32)), (.ref b78), (.ref b78), (.ref b77), (.ref b77)])) _
    refine XS.lload X78.here hx rfl (hb hby at_73) rfl ?_
    show Steps p.tables e below (T78.setTop (mkF m 75 #[.val (.long a0_), .second, .val (.long a1_), .second, .val (.long b0_), .second, .val (.long b1_), .second, .val (.long vp), .second, .val (.long vq), .second, .val (.long r66), .second, .val (.long r67), .second, .val (.long r68), .second, .val (.long r69), .second, .val (.ref b70), .unset, .unset, .unset, .unset, .unset, .unset, .unset, .unset, .unset, .unset] [(.long r66), (.int (0 : Int32)), (.ref b78), (.ref b78), (.ref b77), (.ref b77)])) _
    refine st79 _ ?_
    show Steps p.tables e below (T79.setTop (mkF m 76 #[.val (.long a0_), .second, .val (.long a1_), .second, .val (.long b0_), .second, .val (.long b1_), .second, .val (.long vp), .second, .val (.long vq), .second, .val (.long r66), .second, .val (.long r67), .second, .val (.long r68), .second, .val (.long r69), .second, .val (.ref b70), .unset, .unset, .unset, .unset, .unset, .unset, .unset, .unset, .unset, .unset] [(.ref b78), (.ref b77), (.ref b77)])) _
    refine XS.dup X79.here hx rfl (hb hby at_76) rfl rfl ?_
    show Steps p.tables e below (T79.setTop (mkF m 77 #[.val (.long a0_), .second, .val (.long a1_), .second, .val (.long b0_), .second, .val (.long b1_), .second, .val (.long vp), .second, .val (.long vq), .second, .val (.long r66), .second, .val (.long r67), .second, .val (.long r68), .second, .val (.long r69), .second, .val (.ref b70), .unset, .unset, .unset, .unset, .unset, .unset, .unset, .unset, .unset, .unset] [(.ref b78), (.ref b78), (.ref b77), (.ref b77)])) _
    refine XS.iconst X79.here hx rfl (hb hby at_77) ?_
    show Steps p.tables e below (T79.setTop (mkF m 78 #[.val (.long a0_), .second, .val (.long a1_), .second, .val (.long b0_), .second, .val (.long b1_), .second, .val (.long vp), .second, .val (.long vq), .second, .val (.long r66), .second, .val (.long r67), .second, .val (.long r68), .second, .val (.long r69), .second, .val (.ref b70), .unset, .unset, .unset, .unset, .unset, .unset, .unset, .unset, .unset, .unset] [(.int (1 : Int32)), (.ref b78), (.ref b78), (.ref b77), (.ref b77)])) _
    refine XS.lload X79.here hx rfl (hb hby at_78) rfl ?_
    show Steps p.tables e below (T79.setTop (mkF m 80 #[.val (.long a0_), .second, .val (.long a1_), .second, .val (.long b0_), .second, .val (.long b1_), .second, .val (.long vp), .second, .val (.long vq), .second, .val (.long r66), .second, .val (.long r67), .second, .val (.long r68), .second, .val (.long r69), .second, .val (.ref b70), .unset, .unset, .unset, .unset, .unset, .unset, .unset, .unset, .unset, .unset] [(.long r67), (.int (1 : Int32)), (.ref b78), (.ref b78), (.ref b77), (.ref b77)])) _
    refine st80 _ ?_
    show Steps p.tables e below (T80.setTop (mkF m 81 #[.val (.long a0_), .second, .val (.long a1_), .second, .val (.long b0_), .second, .val (.long b1_), .second, .val (.long vp), .second, .val (.long vq), .second, .val (.long r66), .second, .val (.long r67), .second, .val (.long r68), .second, .val (.long r69), .second, .val (.ref b70), .unset, .unset, .unset, .unset, .unset, .unset, .unset, .unset, .unset, .unset] [(.ref b78), (.ref b77), (.ref b77)])) _
    refine st81.trans ?_
    show Steps p.tables e below (T81.setTop (mkF m 84 #[.val (.long a0_), .second, .val (.long a1_), .second, .val (.long b0_), .second, .val (.long b1_), .second, .val (.long vp), .second, .val (.long vq), .second, .val (.long r66), .second, .val (.long r67), .second, .val (.long r68), .second, .val (.long r69), .second, .val (.ref b70), .unset, .unset, .unset, .unset, .unset, .unset, .unset, .unset, .unset, .unset] [(.ref b77)])) _
    refine XS.astore X81.here hx rfl (hb hby at_84) rfl rfl (l' := #[.val (.long a0_), .second, .val (.long a1_), .second, .val (.long b0_), .second, .val (.long b1_), .second, .val (.long vp), .second, .val (.long vq), .second, .val (.long r66), .second, .val (.long r67), .second, .val (.long r68), .second, .val (.long r69), .second, .val (.ref b70), .val (.ref b77), .unset, .unset, .unset, .unset, .unset, .unset, .unset, .unset, .unset]) rfl ?_
    show Steps p.tables e below (T81.setTop (mkF m 86 #[.val (.long a0_), .second, .val (.long a1_), .second, .val (.long b0_), .second, .val (.long b1_), .second, .val (.long vp), .second, .val (.long vq), .second, .val (.long r66), .second, .val (.long r67), .second, .val (.long r68), .second, .val (.long r69), .second, .val (.ref b70), .val (.ref b77), .unset, .unset, .unset, .unset, .unset, .unset, .unset, .unset, .unset] [])) _
    refine st82 _ ?_
    show Steps p.tables e below (T82.setTop (mkF m 89 #[.val (.long a0_), .second, .val (.long a1_), .second, .val (.long b0_), .second, .val (.long b1_), .second, .val (.long vp), .second, .val (.long vq), .second, .val (.long r66), .second, .val (.long r67), .second, .val (.long r68), .second, .val (.long r69), .second, .val (.ref b70), .val (.ref b77), .unset, .unset, .unset, .unset, .unset, .unset, .unset, .unset, .unset] [(.ref b82)])) _
    refine XS.dup X82.here hx rfl (hb hby at_89) rfl rfl ?_
    show Steps p.tables e below (T82.setTop (mkF m 90 #[.val (.long a0_), .second, .val (.long a1_), .second, .val (.long b0_), .second, .val (.long b1_), .second, .val (.long vp), .second, .val (.long vq), .second, .val (.long r66), .second, .val (.long r67), .second, .val (.long r68), .second, .val (.long r69), .second, .val (.ref b70), .val (.ref b77), .unset, .unset, .unset, .unset, .unset, .unset, .unset, .unset, .unset] [(.ref b82), (.ref b82)])) _
    refine XS.iconst X82.here hx rfl (hb hby at_90) ?_
    show Steps p.tables e below (T82.setTop (mkF m 91 #[.val (.long a0_), .second, .val (.long a1_), .second, .val (.long b0_), .second, .val (.long b1_), .second, .val (.long vp), .second, .val (.long vq), .second, .val (.long r66), .second, .val (.long r67), .second, .val (.long r68), .second, .val (.long r69), .second, .val (.ref b70), .val (.ref b77), .unset, .unset, .unset, .unset, .unset, .unset, .unset, .unset, .unset] [(.int (0 : Int32)), (.ref b82), (.ref b82)])) _
    refine st83 _ ?_
    show Steps p.tables e below (T83.setTop (mkF m 93 #[.val (.long a0_), .second, .val (.long a1_), .second, .val (.long b0_), .second, .val (.long b1_), .second, .val (.long vp), .second, .val (.long vq), .second, .val (.long r66), .second, .val (.long r67), .second, .val (.long r68), .second, .val (.long r69), .second, .val (.ref b70), .val (.ref b77), .unset, .unset, .unset, .unset, .unset, .unset, .unset, .unset, .unset] [(.ref b83), (.ref b82), (.ref b82)])) _
    refine st84.trans ?_
    show Steps p.tables e below (T84.setTop (mkF m 96 #[.val (.long a0_), .second, .val (.long a1_), .second, .val (.long b0_), .second, .val (.long b1_), .second, .val (.long vp), .second, .val (.long vq), .second, .val (.long r66), .second, .val (.long r67), .second, .val (.long r68), .second, .val (.long r69), .second, .val (.ref b70), .val (.ref b77), .unset, .unset, .unset, .unset, .unset, .unset, .unset, .unset, .unset] [(.ref b82)])) _
    refine XS.astore X84.here hx rfl (hb hby at_96) rfl rfl (l' := #[.val (.long a0_), .second, .val (.long a1_), .second, .val (.long b0_), .second, .val (.long b1_), .second, .val (.long vp), .second, .val (.long vq), .second, .val (.long r66), .second, .val (.long r67), .second, .val (.long r68), .second, .val (.long r69), .second, .val (.ref b70), .val (.ref b77), .val (.ref b82), .unset, .unset, .unset, .unset, .unset, .unset, .unset, .unset]) rfl ?_
    show Steps p.tables e below (T84.setTop (mkF m 98 #[.val (.long a0_), .second, .val (.long a1_), .second, .val (.long b0_), .second, .val (.long b1_), .second, .val (.long vp), .second, .val (.long vq), .second, .val (.long r66), .second, .val (.long r67), .second, .val (.long r68), .second, .val (.long r69), .second, .val (.ref b70), .val (.ref b77), .val (.ref b82), .unset, .unset, .unset, .unset, .unset, .unset, .unset, .unset] [])) _
    refine XS.iconst X84.here hx rfl (hb hby at_98) ?_
    show Steps p.tables e below (T84.setTop (mkF m 99 #[.val (.long a0_), .second, .val (.long a1_), .second, .val (.long b0_), .second, .val (.long b1_), .second, .val (.long vp), .second, .val (.long vq), .second, .val (.long r66), .second, .val (.long r67), .second, .val (.long r68), .second, .val (.long r69), .second, .val (.ref b70), .val (.ref b77), .val (.ref b82), .unset, .unset, .unset, .unset, .unset, .unset, .unset, .unset] [(.int (2 : Int32))])) _
    refine st85 _ ?_
    show Steps p.tables e below (T85.setTop (mkF m 101 #[.val (.long a0_), .second, .val (.long a1_), .second, .val (.long b0_), .second, .val (.long b1_), .second, .val (.long vp), .second, .val (.long vq), .second, .val (.long r66), .second, .val (.long r67), .second, .val (.long r68), .second, .val (.long r69), .second, .val (.ref b70), .val (.ref b77), .val (.ref b82), .unset, .unset, .unset, .unset, .unset, .unset, .unset, .unset] [(.ref b85)])) _
    refine XS.dup X85.here hx rfl (hb hby at_101) rfl rfl ?_
    show Steps p.tables e below (T85.setTop (mkF m 102 #[.val (.long a0_), .second, .val (.long a1_), .second, .val (.long b0_), .second, .val (.long b1_), .second, .val (.long vp), .second, .val (.long vq), .second, .val (.long r66), .second, .val (.long r67), .second, .val (.long r68), .second, .val (.long r69), .second, .val (.ref b70), .val (.ref b77), .val (.ref b82), .unset, .unset, .unset, .unset, .unset, .unset, .unset, .unset] [(.ref b85), (.ref b85)])) _
    refine XS.iconst X85.here hx rfl (hb hby at_102) ?_
    show Steps p.tables e below (T85.setTop (mkF m 103 #[.val (.long a0_), .second, .val (.long a1_), .second, .val (.long b0_), .second, .val (.long b1_), .second, .val (.long vp), .second, .val (.long vq), .second, .val (.long r66), .second, .val (.long r67), .second, .val (.long r68), .second, .val (.long r69), .second, .val (.ref b70), .val (.ref b77), .val (.ref b82), .unset, .unset, .unset, .unset, .unset, .unset, .unset, .unset] [(.int (0 : Int32)), (.ref b85), (.ref b85)])) _
    refine XS.lload X85.here hx rfl (hb hby at_103) rfl ?_
    show Steps p.tables e below (T85.setTop (mkF m 105 #[.val (.long a0_), .second, .val (.long a1_), .second, .val (.long b0_), .second, .val (.long b1_), .second, .val (.long vp), .second, .val (.long vq), .second, .val (.long r66), .second, .val (.long r67), .second, .val (.long r68), .second, .val (.long r69), .second, .val (.ref b70), .val (.ref b77), .val (.ref b82), .unset, .unset, .unset, .unset, .unset, .unset, .unset, .unset] [(.long vp), (.int (0 : Int32)), (.ref b85), (.ref b85)])) _
    refine st86 _ ?_
    show Steps p.tables e below (T86.setTop (mkF m 106 #[.val (.long a0_), .second, .val (.long a1_), .second, .val (.long b0_), .second, .val (.long b1_), .second, .val (.long vp), .second, .val (.long vq), .second, .val (.long r66), .second, .val (.long r67), .second, .val (.long r68), .second, .val (.long r69), .second, .val (.ref b70), .val (.ref b77), .val (.ref b82), .unset, .unset, .unset, .unset, .unset, .unset, .unset, .unset] [(.ref b85)])) _
    refine XS.dup X86.here hx rfl (hb hby at_106) rfl rfl ?_
    show Steps p.tables e below (T86.setTop (mkF m 107 #[.val (.long a0_), .second, .val (.long a1_), .second, .val (.long b0_), .second, .val (.long b1_), .second, .val (.long vp), .second, .val (.long vq), .second, .val (.long r66), .second, .val (.long r67), .second, .val (.long r68), .second, .val (.long r69), .second, .val (.ref b70), .val (.ref b77), .val (.ref b82), .unset, .unset, .unset, .unset, .unset, .unset, .unset, .unset] [(.ref b85), (.ref b85)])) _
    refine XS.iconst X86.here hx rfl (hb hby at_107) ?_
    show Steps p.tables e below (T86.setTop (mkF m 108 #[.val (.long a0_), .second, .val (.long a1_), .second, .val (.long b0_), .second, .val (.long b1_), .second, .val (.long vp), .second, .val (.long vq), .second, .val (.long r66), .second, .val (.long r67), .second, .val (.long r68), .second, .val (.long r69), .second, .val (.ref b70), .val (.ref b77), .val (.ref b82), .unset, .unset, .unset, .unset, .unset, .unset, .unset, .unset] [(.int (1 : Int32)), (.ref b85), (.ref b85)])) _
    refine XS.lload X86.here hx rfl (hb hby at_108) rfl ?_
    show Steps p.tables e below (T86.setTop (mkF m 110 #[.val (.long a0_), .second, .val (.long a1_), .second, .val (.long b0_), .second, .val (.long b1_), .second, .val (.long vp), .second, .val (.long vq), .second, .val (.long r66), .second, .val (.long r67), .second, .val (.long r68), .second, .val (.long r69), .second, .val (.ref b70), .val (.ref b77), .val (.ref b82), .unset, .unset, .unset, .unset, .unset, .unset, .unset, .unset] [(.long vq), (.int (1 : Int32)), (.ref b85), (.ref b85)])) _
    refine st87 _ ?_
    show Steps p.tables e below (T87.setTop (mkF m 111 #[.val (.long a0_), .second, .val (.long a1_), .second, .val (.long b0_), .second, .val (.long b1_), .second, .val (.long vp), .second, .val (.long vq), .second, .val (.long r66), .second, .val (.long r67), .second, .val (.long r68), .second, .val (.long r69), .second, .val (.ref b70), .val (.ref b77), .val (.ref b82), .unset, .unset, .unset, .unset, .unset, .unset, .unset, .unset] [(.ref b85)])) _
    refine XS.astore X87.here hx rfl (hb hby at_111) rfl rfl (l' := #[.val (.long a0_), .second, .val (.long a1_), .second, .val (.long b0_), .second, .val (.long b1_), .second, .val (.long vp), .second, .val (.long vq), .second, .val (.long r66), .second, .val (.long r67), .second, .val (.long r68), .second, .val (.long r69), .second, .val (.ref b70), .val (.ref b77), .val (.ref b82), .val (.ref b85), .unset, .unset, .unset, .unset, .unset, .unset, .unset]) rfl ?_
    show Steps p.tables e below (T87.setTop (mkF m 113 #[.val (.long a0_), .second, .val (.long a1_), .second, .val (.long b0_), .second, .val (.long b1_), .second, .val (.long vp), .second, .val (.long vq), .second, .val (.long r66), .second, .val (.long r67), .second, .val (.long r68), .second, .val (.long r69), .second, .val (.ref b70), .val (.ref b77), .val (.ref b82), .val (.ref b85), .unset, .unset, .unset, .unset, .unset, .unset, .unset] [])) _
    refine XS.iconst X87.here hx rfl (hb hby at_113) ?_
    show Steps p.tables e below (T87.setTop (mkF m 114 #[.val (.long a0_), .second, .val (.long a1_), .second, .val (.long b0_), .second, .val (.long b1_), .second, .val (.long vp), .second, .val (.long vq), .second, .val (.long r66), .second, .val (.long r67), .second, .val (.long r68), .second, .val (.long r69), .second, .val (.ref b70), .val (.ref b77), .val (.ref b82), .val (.ref b85), .unset, .unset, .unset, .unset, .unset, .unset, .unset] [(.int (1 : Int32))])) _
    refine st88 _ ?_
    show Steps p.tables e below (T88.setTop (mkF m 116 #[.val (.long a0_), .second, .val (.long a1_), .second, .val (.long b0_), .second, .val (.long b1_), .second, .val (.long vp), .second, .val (.long vq), .second, .val (.long r66), .second, .val (.long r67), .second, .val (.long r68), .second, .val (.long r69), .second, .val (.ref b70), .val (.ref b77), .val (.ref b82), .val (.ref b85), .unset, .unset, .unset, .unset, .unset, .unset, .unset] [(.ref b88)])) _
    refine XS.dup X88.here hx rfl (hb hby at_116) rfl rfl ?_
    show Steps p.tables e below (T88.setTop (mkF m 117 #[.val (.long a0_), .second, .val (.long a1_), .second, .val (.long b0_), .second, .val (.long b1_), .second, .val (.long vp), .second, .val (.long vq), .second, .val (.long r66), .second, .val (.long r67), .second, .val (.long r68), .second, .val (.long r69), .second, .val (.ref b70), .val (.ref b77), .val (.ref b82), .val (.ref b85), .unset, .unset, .unset, .unset, .unset, .unset, .unset] [(.ref b88), (.ref b88)])) _
    refine XS.iconst X88.here hx rfl (hb hby at_117) ?_
    show Steps p.tables e below (T88.setTop (mkF m 118 #[.val (.long a0_), .second, .val (.long a1_), .second, .val (.long b0_), .second, .val (.long b1_), .second, .val (.long vp), .second, .val (.long vq), .second, .val (.long r66), .second, .val (.long r67), .second, .val (.long r68), .second, .val (.long r69), .second, .val (.ref b70), .val (.ref b77), .val (.ref b82), .val (.ref b85), .unset, .unset, .unset, .unset, .unset, .unset, .unset] [(.int (0 : Int32)), (.ref b88), (.ref b88)])) _
    refine XS.lload X88.here hx rfl (hb hby at_118) rfl ?_
    show Steps p.tables e below (T88.setTop (mkF m 120 #[.val (.long a0_), .second, .val (.long a1_), .second, .val (.long b0_), .second, .val (.long b1_), .second, .val (.long vp), .second, .val (.long vq), .second, .val (.long r66), .second, .val (.long r67), .second, .val (.long r68), .second, .val (.long r69), .second, .val (.ref b70), .val (.ref b77), .val (.ref b82), .val (.ref b85), .unset, .unset, .unset, .unset, .unset, .unset, .unset] [(.long vp), (.int (0 : Int32)), (.ref b88), (.ref b88)])) _
    refine st89 _ ?_
    show Steps p.tables e below (T89.setTop (mkF m 121 #[.val (.long a0_), .second, .val (.long a1_), .second, .val (.long b0_), .second, .val (.long b1_), .second, .val (.long vp), .second, .val (.long vq), .second, .val (.long r66), .second, .val (.long r67), .second, .val (.long r68), .second, .val (.long r69), .second, .val (.ref b70), .val (.ref b77), .val (.ref b82), .val (.ref b85), .unset, .unset, .unset, .unset, .unset, .unset, .unset] [(.ref b88)])) _
    refine XS.astore X89.here hx rfl (hb hby at_121) rfl rfl (l' := #[.val (.long a0_), .second, .val (.long a1_), .second, .val (.long b0_), .second, .val (.long b1_), .second, .val (.long vp), .second, .val (.long vq), .second, .val (.long r66), .second, .val (.long r67), .second, .val (.long r68), .second, .val (.long r69), .second, .val (.ref b70), .val (.ref b77), .val (.ref b82), .val (.ref b85), .val (.ref b88), .unset, .unset, .unset, .unset, .unset, .unset]) rfl ?_
    show Steps p.tables e below (T89.setTop (mkF m 123 #[.val (.long a0_), .second, .val (.long a1_), .second, .val (.long b0_), .second, .val (.long b1_), .second, .val (.long vp), .second, .val (.long vq), .second, .val (.long r66), .second, .val (.long r67), .second, .val (.long r68), .second, .val (.long r69), .second, .val (.ref b70), .val (.ref b77), .val (.ref b82), .val (.ref b85), .val (.ref b88), .unset, .unset, .unset, .unset, .unset, .unset] [])) _
    refine XS.iconst X89.here hx rfl (hb hby at_123) ?_
    show Steps p.tables e below (T89.setTop (mkF m 124 #[.val (.long a0_), .second, .val (.long a1_), .second, .val (.long b0_), .second, .val (.long b1_), .second, .val (.long vp), .second, .val (.long vq), .second, .val (.long r66), .second, .val (.long r67), .second, .val (.long r68), .second, .val (.long r69), .second, .val (.ref b70), .val (.ref b77), .val (.ref b82), .val (.ref b85), .val (.ref b88), .unset, .unset, .unset, .unset, .unset, .unset] [(.int (0 : Int32))])) _
    refine st90 _ ?_
    show Steps p.tables e below (T90.setTop (mkF m 126 #[.val (.long a0_), .second, .val (.long a1_), .second, .val (.long b0_), .second, .val (.long b1_), .second, .val (.long vp), .second, .val (.long vq), .second, .val (.long r66), .second, .val (.long r67), .second, .val (.long r68), .second, .val (.long r69), .second, .val (.ref b70), .val (.ref b77), .val (.ref b82), .val (.ref b85), .val (.ref b88), .unset, .unset, .unset, .unset, .unset, .unset] [(.ref b90)])) _
    refine XS.astore X90.here hx rfl (hb hby at_126) rfl rfl (l' := #[.val (.long a0_), .second, .val (.long a1_), .second, .val (.long b0_), .second, .val (.long b1_), .second, .val (.long vp), .second, .val (.long vq), .second, .val (.long r66), .second, .val (.long r67), .second, .val (.long r68), .second, .val (.long r69), .second, .val (.ref b70), .val (.ref b77), .val (.ref b82), .val (.ref b85), .val (.ref b88), .val (.ref b90), .unset, .unset, .unset, .unset, .unset]) rfl ?_
    show Steps p.tables e below (T90.setTop (mkF m 128 #[.val (.long a0_), .second, .val (.long a1_), .second, .val (.long b0_), .second, .val (.long b1_), .second, .val (.long vp), .second, .val (.long vq), .second, .val (.long r66), .second, .val (.long r67), .second, .val (.long r68), .second, .val (.long r69), .second, .val (.ref b70), .val (.ref b77), .val (.ref b82), .val (.ref b85), .val (.ref b88), .val (.ref b90), .unset, .unset, .unset, .unset, .unset] [])) _
    refine XS.aload X90.here hx rfl (hb hby at_128) rfl rfl ?_
    show Steps p.tables e below (T90.setTop (mkF m 130 #[.val (.long a0_), .second, .val (.long a1_), .second, .val (.long b0_), .second, .val (.long b1_), .second, .val (.long vp), .second, .val (.long vq), .second, .val (.long r66), .second, .val (.long r67), .second, .val (.long r68), .second, .val (.long r69), .second, .val (.ref b70), .val (.ref b77), .val (.ref b82), .val (.ref b85), .val (.ref b88), .val (.ref b90), .unset, .unset, .unset, .unset, .unset] [(.ref b70)])) _
    refine XS.aload X90.here hx rfl (hb hby at_130) rfl rfl ?_
    show Steps p.tables e below (T90.setTop (mkF m 132 #[.val (.long a0_), .second, .val (.long a1_), .second, .val (.long b0_), .second, .val (.long b1_), .second, .val (.long vp), .second, .val (.long vq), .second, .val (.long r66), .second, .val (.long r67), .second, .val (.long r68), .second, .val (.long r69), .second, .val (.ref b70), .val (.ref b77), .val (.ref b82), .val (.ref b85), .val (.ref b88), .val (.ref b90), .unset, .unset, .unset, .unset, .unset] [(.ref b85), (.ref b70)])) _
    refine st91.trans ?_
    show Steps p.tables e below (T91.setTop (mkF m 135 #[.val (.long a0_), .second, .val (.long a1_), .second, .val (.long b0_), .second, .val (.long b1_), .second, .val (.long vp), .second, .val (.long vq), .second, .val (.long r66), .second, .val (.long r67), .second, .val (.long r68), .second, .val (.long r69), .second, .val (.ref b70), .val (.ref b77), .val (.ref b82), .val (.ref b85), .val (.ref b88), .val (.ref b90), .unset, .unset, .unset, .unset, .unset] [(.int r91)])) _
    refine XS.istore X91.here hx rfl (hb hby at_135) rfl (l' := #[.val (.long a0_), .second, .val (.long a1_), .second, .val (.long b0_), .second, .val (.long b1_), .second, .val (.long vp), .second, .val (.long vq), .second, .val (.long r66), .second, .val (.long r67), .second, .val (.long r68), .second, .val (.long r69), .second, .val (.ref b70), .val (.ref b77), .val (.ref b82), .val (.ref b85), .val (.ref b88), .val (.ref b90), .val (.int r91), .unset, .unset, .unset, .unset]) rfl ?_
    show Steps p.tables e below (T91.setTop (mkF m 137 #[.val (.long a0_), .second, .val (.long a1_), .second, .val (.long b0_), .second, .val (.long b1_), .second, .val (.long vp), .second, .val (.long vq), .second, .val (.long r66), .second, .val (.long r67), .second, .val (.long r68), .second, .val (.long r69), .second, .val (.ref b70), .val (.ref b77), .val (.ref b82), .val (.ref b85), .val (.ref b88), .val (.ref b90), .val (.int r91), .unset, .unset, .unset, .unset] [])) _
    refine XS.aload X91.here hx rfl (hb hby at_137) rfl rfl ?_
    show Steps p.tables e below (T91.setTop (mkF m 139 #[.val (.long a0_), .second, .val (.long a1_), .second, .val (.long b0_), .second, .val (.long b1_), .second, .val (.long vp), .second, .val (.long vq), .second, .val (.long r66), .second, .val (.long r67), .second, .val (.long r68), .second, .val (.long r69), .second, .val (.ref b70), .val (.ref b77), .val (.ref b82), .val (.ref b85), .val (.ref b88), .val (.ref b90), .val (.int r91), .unset, .unset, .unset, .unset] [(.ref b77)])) _
    refine XS.aload X91.here hx rfl (hb hby at_139) rfl rfl ?_
    show Steps p.tables e below (T91.setTop (mkF m 141 #[.val (.long a0_), .second, .val (.long a1_), .second, .val (.long b0_), .second, .val (.long b1_), .second, .val (.long vp), .second, .val (.long vq), .second, .val (.long r66), .second, .val (.long r67), .second, .val (.long r68), .second, .val (.long r69), .second, .val (.ref b70), .val (.ref b77), .val (.ref b82), .val (.ref b85), .val (.ref b88), .val (.ref b90), .val (.int r91), .unset, .unset, .unset, .unset] [(.ref b88), (.ref b77)])) _
    refine st92.trans ?_
    show Steps p.tables e below (T92.setTop (mkF m 144 #[.val (.long a0_), .second, .val (.long a1_), .second, .val (.long b0_), .second, .val (.long b1_), .second, .val (.long vp), .second, .val (.long vq), .second, .val (.long r66), .second, .val (.long r67), .second, .val (.long r68), .second, .val (.long r69), .second, .val (.ref b70), .val (.ref b77), .val (.ref b82), .val (.ref b85), .val (.ref b88), .val (.ref b90), .val (.int r91), .unset, .unset, .unset, .unset] [(.int r92)])) _
    refine XS.istore X92.here hx rfl (hb hby at_144) rfl (l' := #[.val (.long a0_), .second, .val (.long a1_), .second, .val (.long b0_), .second, .val (.long b1_), .second, .val (.long vp), .second, .val (.long vq), .second, .val (.long r66), .second, .val (.long r67), .second, .val (.long r68), .second, .val (.long r69), .second, .val (.ref b70), .val (.ref b77), .val (.ref b82), .val (.ref b85), .val (.ref b88), .val (.ref b90), .val (.int r91), .val (.int r92), .unset, .unset, .unset]) rfl ?_
    show Steps p.tables e below (T92.setTop (mkF m 146 #[.val (.long a0_), .second, .val (.long a1_), .second, .val (.long b0_), .second, .val (.long b1_), .second, .val (.long vp), .second, .val (.long vq), .second, .val (.long r66), .second, .val (.long r67), .second, .val (.long r68), .second, .val (.long r69), .second, .val (.ref b70), .val (.ref b77), .val (.ref b82), .val (.ref b85), .val (.ref b88), .val (.ref b90), .val (.int r91), .val (.int r92), .unset, .unset, .unset] [])) _
    refine XS.aload X92.here hx rfl (hb hby at_146) rfl rfl ?_
    show Steps p.tables e below (T92.setTop (mkF m 148 #[.val (.long a0_), .second, .val (.long a1_), .second, .val (.long b0_), .second, .val (.long b1_), .second, .val (.long vp), .second, .val (.long vq), .second, .val (.long r66), .second, .val (.long r67), .second, .val (.long r68), .second, .val (.long r69), .second, .val (.ref b70), .val (.ref b77), .val (.ref b82), .val (.ref b85), .val (.ref b88), .val (.ref b90), .val (.int r91), .val (.int r92), .unset, .unset, .unset] [(.ref b82)])) _
    refine XS.aload X92.here hx rfl (hb hby at_148) rfl rfl ?_
    show Steps p.tables e below (T92.setTop (mkF m 150 #[.val (.long a0_), .second, .val (.long a1_), .second, .val (.long b0_), .second, .val (.long b1_), .second, .val (.long vp), .second, .val (.long vq), .second, .val (.long r66), .second, .val (.long r67), .second, .val (.long r68), .second, .val (.long r69), .second, .val (.ref b70), .val (.ref b77), .val (.ref b82), .val (.ref b85), .val (.ref b88), .val (.ref b90), .val (.int r91), .val (.int r92), .unset, .unset, .unset] [(.ref b90), (.ref b82)])) _
    refine st93.trans ?_
    show Steps p.tables e below (T93.setTop (mkF m 153 #[.val (.long a0_), .second, .val (.long a1_), .second, .val (.long b0_), .second, .val (.long b1_), .second, .val (.long vp), .second, .val (.long vq), .second, .val (.long r66), .second, .val (.long r67), .second, .val (.long r68), .second, .val (.long r69), .second, .val (.ref b70), .val (.ref b77), .val (.ref b82), .val (.ref b85), .val (.ref b88), .val (.ref b90), .val (.int r91), .val (.int r92), .unset, .unset, .unset] [(.int r93)])) _
    refine XS.istore X93.here hx rfl (hb hby at_153) rfl (l' := #[.val (.long a0_), .second, .val (.long a1_), .second, .val (.long b0_), .second, .val (.long b1_), .second, .val (.long vp), .second, .val (.long vq), .second, .val (.long r66), .second, .val (.long r67), .second, .val (.long r68), .second, .val (.long r69), .second, .val (.ref b70), .val (.ref b77), .val (.ref b82), .val (.ref b85), .val (.ref b88), .val (.ref b90), .val (.int r91), .val (.int r92), .val (.int r93), .unset, .unset]) rfl ?_
    show Steps p.tables e below (T93.setTop (mkF m 155 #[.val (.long a0_), .second, .val (.long a1_), .second, .val (.long b0_), .second, .val (.long b1_), .second, .val (.long vp), .second, .val (.long vq), .second, .val (.long r66), .second, .val (.long r67), .second, .val (.long r68), .second, .val (.long r69), .second, .val (.ref b70), .val (.ref b77), .val (.ref b82), .val (.ref b85), .val (.ref b88), .val (.ref b90), .val (.int r91), .val (.int r92), .val (.int r93), .unset, .unset] [])) _
    refine seg94 _ ?_
    show Steps p.tables e below (T93.setTop (mkF m 176 #[.val (.long a0_), .second, .val (.long a1_), .second, .val (.long b0_), .second, .val (.long b1_), .second, .val (.long vp), .second, .val (.long vq), .second, .val (.long r66), .second, .val (.long r67), .second, .val (.long r68), .second, .val (.long r69), .second, .val (.ref b70), .val (.ref b77), .val (.ref b82), .val (.ref b85), .val (.ref b88), .val (.ref b90), .val (.int r91), .val (.int r92), .val (.int r93), .unset, .unset] [(.int z94)])) _
    refine XS.istore X93.here hx rfl (hb hby at_176) rfl (l' := #[.val (.long a0_), .second, .val (.long a1_), .second, .val (.long b0_), .second, .val (.long b1_), .second, .val (.long vp), .second, .val (.long vq), .second, .val (.long r66), .second, .val (.long r67), .second, .val (.long r68), .second, .val (.long r69), .second, .val (.ref b70), .val (.ref b77), .val (.ref b82), .val (.ref b85), .val (.ref b88), .val (.ref b90), .val (.int r91), .val (.int r92), .val (.int r93), .val (.int z94), .unset]) rfl ?_
    show Steps p.tables e below (T93.setTop (mkF m 178 #[.val (.long a0_), .second, .val (.long a1_), .second, .val (.long b0_), .second, .val (.long b1_), .second, .val (.long vp), .second, .val (.long vq), .second, .val (.long r66), .second, .val (.long r67), .second, .val (.long r68), .second, .val (.long r69), .second, .val (.ref b70), .val (.ref b77), .val (.ref b82), .val (.ref b85), .val (.ref b88), .val (.ref b90), .val (.int r91), .val (.int r92), .val (.int r93), .val (.int z94), .unset] [])) _
    refine seg97 _ ?_
    show Steps p.tables e below (T93.setTop (mkF m 199 #[.val (.long a0_), .second, .val (.long a1_), .second, .val (.long b0_), .second, .val (.long b1_), .second, .val (.long vp), .second, .val (.long vq), .second, .val (.long r66), .second, .val (.long r67), .second, .val (.long r68), .second, .val (.long r69), .second, .val (.ref b70), .val (.ref b77), .val (.ref b82), .val (.ref b85), .val (.ref b88), .val (.ref b90), .val (.int r91), .val (.int r92), .val (.int r93), .val (.int z94), .unset] [(.int z97)])) _
    refine XS.istore X93.here hx rfl (hb hby at_199) rfl (l' := #[.val (.long a0_), .second, .val (.long a1_), .second, .val (.long b0_), .second, .val (.long b1_), .second, .val (.long vp), .second, .val (.long vq), .second, .val (.long r66), .second, .val (.long r67), .second, .val (.long r68), .second, .val (.long r69), .second, .val (.ref b70), .val (.ref b77), .val (.ref b82), .val (.ref b85), .val (.ref b88), .val (.ref b90), .val (.int r91), .val (.int r92), .val (.int r93), .val (.int z94), .val (.int z97)]) rfl ?_
    show Steps p.tables e below (T93.setTop (mkF m 201 #[.val (.long a0_), .second, .val (.long a1_), .second, .val (.long b0_), .second, .val (.long b1_), .second, .val (.long vp), .second, .val (.long vq), .second, .val (.long r66), .second, .val (.long r67), .second, .val (.long r68), .second, .val (.long r69), .second, .val (.ref b70), .val (.ref b77), .val (.ref b82), .val (.ref b85), .val (.ref b88), .val (.ref b90), .val (.int r91), .val (.int r92), .val (.int r93), .val (.int z94), .val (.int z97)] [])) _
    refine XS.iload X93.here hx rfl (hb hby at_201) rfl ?_
    show Steps p.tables e below (T93.setTop (mkF m 203 #[.val (.long a0_), .second, .val (.long a1_), .second, .val (.long b0_), .second, .val (.long b1_), .second, .val (.long vp), .second, .val (.long vq), .second, .val (.long r66), .second, .val (.long r67), .second, .val (.long r68), .second, .val (.long r69), .second, .val (.ref b70), .val (.ref b77), .val (.ref b82), .val (.ref b85), .val (.ref b88), .val (.ref b90), .val (.int r91), .val (.int r92), .val (.int r93), .val (.int z94), .val (.int z97)] [(.int r91)])) _
    refine seg100 _ ?_
    show Steps p.tables e below (T93.setTop (mkF m 218 #[.val (.long a0_), .second, .val (.long a1_), .second, .val (.long b0_), .second, .val (.long b1_), .second, .val (.long vp), .second, .val (.long vq), .second, .val (.long r66), .second, .val (.long r67), .second, .val (.long r68), .second, .val (.long r69), .second, .val (.ref b70), .val (.ref b77), .val (.ref b82), .val (.ref b85), .val (.ref b88), .val (.ref b90), .val (.int r91), .val (.int r92), .val (.int r93), .val (.int z94), .val (.int z97)] [(.int z100), (.int r91)])) _
    refine XS.icmpNo X93.here hx rfl (hb hby at_218) rfl (teq (own_and vp vq _ _ _ _ _ _ _ _ hr91 hz100 hz94 hz97 : r91 = z100)).2 ?_
    show Steps p.tables e below (T93.setTop (mkF m 221 #[.val (.long a0_), .second, .val (.long a1_), .second, .val (.long b0_), .second, .val (.long b1_), .second, .val (.long vp), .second, .val (.long vq), .second, .val (.long r66), .second, .val (.long r67), .second, .val (.long r68), .second, .val (.long r69), .second, .val (.ref b70), .val (.ref b77), .val (.ref b82), .val (.ref b85), .val (.ref b88), .val (.ref b90), .val (.int r91), .val (.int r92), .val (.int r93), .val (.int z94), .val (.int z97)] [])) _
    refine XS.iload X93.here hx rfl (hb hby at_221) rfl ?_
    show Steps p.tables e below (T93.setTop (mkF m 223 #[.val (.long a0_), .second, .val (.long a1_), .second, .val (.long b0_), .second, .val (.long b1_), .second, .val (.long vp), .second, .val (.long vq), .second, .val (.long r66), .second, .val (.long r67), .second, .val (.long r68), .second, .val (.long r69), .second, .val (.ref b70), .val (.ref b77), .val (.ref b82), .val (.ref b85), .val (.ref b88), .val (.ref b90), .val (.int r91), .val (.int r92), .val (.int r93), .val (.int z94), .val (.int z97)] [(.int r92)])) _
    refine XS.iload X93.here hx rfl (hb hby at_223) rfl ?_
    show Steps p.tables e below (T93.setTop (mkF m 225 #[.val (.long a0_), .second, .val (.long a1_), .second, .val (.long b0_), .second, .val (.long b1_), .second, .val (.long vp), .second, .val (.long vq), .second, .val (.long r66), .second, .val (.long r67), .second, .val (.long r68), .second, .val (.long r69), .second, .val (.ref b70), .val (.ref b77), .val (.ref b82), .val (.ref b85), .val (.ref b88), .val (.ref b90), .val (.int r91), .val (.int r92), .val (.int r93), .val (.int z94), .val (.int z97)] [(.int z94), (.int r92)])) _
    refine XS.icmpNo X93.here hx rfl (hb hby at_225) rfl (teq (hr92.trans hz94.symm : r92 = z94)).2 ?_
    show Steps p.tables e below (T93.setTop (mkF m 228 #[.val (.long a0_), .second, .val (.long a1_), .second, .val (.long b0_), .second, .val (.long b1_), .second, .val (.long vp), .second, .val (.long vq), .second, .val (.long r66), .second, .val (.long r67), .second, .val (.long r68), .second, .val (.long r69), .second, .val (.ref b70), .val (.ref b77), .val (.ref b82), .val (.ref b85), .val (.ref b88), .val (.ref b90), .val (.int r91), .val (.int r92), .val (.int r93), .val (.int z94), .val (.int z97)] [])) _
    refine XS.iload X93.here hx rfl (hb hby at_228) rfl ?_
    show Steps p.tables e below (T93.setTop (mkF m 230 #[.val (.long a0_), .second, .val (.long a1_), .second, .val (.long b0_), .second, .val (.long b1_), .second, .val (.long vp), .second, .val (.long vq), .second, .val (.long r66), .second, .val (.long r67), .second, .val (.long r68), .second, .val (.long r69), .second, .val (.ref b70), .val (.ref b77), .val (.ref b82), .val (.ref b85), .val (.ref b88), .val (.ref b90), .val (.int r91), .val (.int r92), .val (.int r93), .val (.int z94), .val (.int z97)] [(.int r93)])) _
    refine XS.ifNo X93.here hx rfl (hb hby at_230) rfl ((if0 _ _).trans (feq (by rw [hr93]; decide : ¬ (r93 = (0 : Int32)))).1) ?_
    show Steps p.tables e below (T93.setTop (mkF m 233 #[.val (.long a0_), .second, .val (.long a1_), .second, .val (.long b0_), .second, .val (.long b1_), .second, .val (.long vp), .second, .val (.long vq), .second, .val (.long r66), .second, .val (.long r67), .second, .val (.long r68), .second, .val (.long r69), .second, .val (.ref b70), .val (.ref b77), .val (.ref b82), .val (.ref b85), .val (.ref b88), .val (.ref b90), .val (.int r91), .val (.int r92), .val (.int r93), .val (.int z94), .val (.int z97)] [])) _
    refine XS.aload X93.here hx rfl (hb hby at_233) rfl rfl ?_
    show Steps p.tables e below (T93.setTop (mkF m 235 #[.val (.long a0_), .second, .val (.long a1_), .second, .val (.long b0_), .second, .val (.long b1_), .second, .val (.long vp), .second, .val (.long vq), .second, .val (.long r66), .second, .val (.long r67), .second, .val (.long r68), .second, .val (.long r69), .second, .val (.ref b70), .val (.ref b77), .val (.ref b82), .val (.ref b85), .val (.ref b88), .val (.ref b90), .val (.int r91), .val (.int r92), .val (.int r93), .val (.int z94), .val (.int z97)] [(.ref b85)])) _
    refine XS.iconst X93.here hx rfl (hb hby at_235) ?_
    show Steps p.tables e below (T93.setTop (mkF m 236 #[.val (.long a0_), .second, .val (.long a1_), .second, .val (.long b0_), .second, .val (.long b1_), .second, .val (.long vp), .second, .val (.long vq), .second, .val (.long r66), .second, .val (.long r67), .second, .val (.long r68), .second, .val (.long r69), .second, .val (.ref b70), .val (.ref b77), .val (.ref b82), .val (.ref b85), .val (.ref b88), .val (.ref b90), .val (.int r91), .val (.int r92), .val (.int r93), .val (.int z94), .val (.int z97)] [(.int (0 : Int32)), (.ref b85)])) _
    refine X93.laload hx (j := (0 : Int32)) (v := (.long vp)) (by rw [e93]; exact Ar103.1) (State.isArrayOf_alike hZ.alike Ar103.2.1) Ar103.2.2 hin103 hat103 (g := (mkF m 236 #[.val (.long a0_), .second, .val (.long a1_), .second, .val (.long b0_), .second, .val (.long b1_), .second, .val (.long vp), .second, .val (.long vq), .second, .val (.long r66), .second, .val (.long r67), .second, .val (.long r68), .second, .val (.long r69), .second, .val (.ref b70), .val (.ref b77), .val (.ref b82), .val (.ref b85), .val (.ref b88), .val (.ref b90), .val (.int r91), .val (.int r92), .val (.int r93), .val (.int z94), .val (.int z97)] [(.int (0 : Int32)), (.ref b85)])) rfl rfl (hb hby at_236) _ ?_
    show Steps p.tables e below (T93.setTop (mkF m 237 #[.val (.long a0_), .second, .val (.long a1_), .second, .val (.long b0_), .second, .val (.long b1_), .second, .val (.long vp), .second, .val (.long vq), .second, .val (.long r66), .second, .val (.long r67), .second, .val (.long r68), .second, .val (.long r69), .second, .val (.ref b70), .val (.ref b77), .val (.ref b82), .val (.ref b85), .val (.ref b88), .val (.ref b90), .val (.int r91), .val (.int r92), .val (.int r93), .val (.int z94), .val (.int z97)] [(.long vp)])) _
    refine XS.lload X93.here hx rfl (hb hby at_237) rfl ?_
    show Steps p.tables e below (T93.setTop (mkF m 239 #[.val (.long a0_), .second, .val (.long a1_), .second, .val (.long b0_), .second, .val (.long b1_), .second, .val (.long vp), .second, .val (.long vq), .second, .val (.long r66), .second, .val (.long r67), .second, .val (.long r68), .second, .val (.long r69), .second, .val (.ref b70), .val (.ref b77), .val (.ref b82), .val (.ref b85), .val (.ref b88), .val (.ref b90), .val (.int r91), .val (.int r92), .val (.int r93), .val (.int z94), .val (.int z97)] [(.long vp), (.long vp)])) _
    refine XS.lcmp X93.here hx rfl (hb hby at_239) rfl ?_
    show Steps p.tables e below (T93.setTop (mkF m 240 #[.val (.long a0_), .second, .val (.long a1_), .second, .val (.long b0_), .second, .val (.long b1_), .second, .val (.long vp), .second, .val (.long vq), .second, .val (.long r66), .second, .val (.long r67), .second, .val (.long r68), .second, .val (.long r69), .second, .val (.ref b70), .val (.ref b77), .val (.ref b82), .val (.ref b85), .val (.ref b88), .val (.ref b90), .val (.int r91), .val (.int r92), .val (.int r93), .val (.int z94), .val (.int z97)] [(.int (lcmpW vp vp))])) _
    refine XS.ifNo X93.here hx rfl (hb hby at_240) rfl ((if0 _ _).trans (teq ((lw_eq _ _).mpr (rfl : vp = vp))).2) ?_
    show Steps p.tables e below (T93.setTop (mkF m 243 #[.val (.long a0_), .second, .val (.long a1_), .second, .val (.long b0_), .second, .val (.long b1_), .second, .val (.long vp), .second, .val (.long vq), .second, .val (.long r66), .second, .val (.long r67), .second, .val (.long r68), .second, .val (.long r69), .second, .val (.ref b70), .val (.ref b77), .val (.ref b82), .val (.ref b85), .val (.ref b88), .val (.ref b90), .val (.int r91), .val (.int r92), .val (.int r93), .val (.int z94), .val (.int z97)] [])) _
    refine XS.aload X93.here hx rfl (hb hby at_243) rfl rfl ?_
    show Steps p.tables e below (T93.setTop (mkF m 245 #[.val (.long a0_), .second, .val (.long a1_), .second, .val (.long b0_), .second, .val (.long b1_), .second, .val (.long vp), .second, .val (.long vq), .second, .val (.long r66), .second, .val (.long r67), .second, .val (.long r68), .second, .val (.long r69), .second, .val (.ref b70), .val (.ref b77), .val (.ref b82), .val (.ref b85), .val (.ref b88), .val (.ref b90), .val (.int r91), .val (.int r92), .val (.int r93), .val (.int z94), .val (.int z97)] [(.ref b85)])) _
    refine XS.iconst X93.here hx rfl (hb hby at_245) ?_
    show Steps p.tables e below (T93.setTop (mkF m 246 #[.val (.long a0_), .second, .val (.long a1_), .second, .val (.long b0_), .second, .val (.long b1_), .second, .val (.long vp), .second, .val (.long vq), .second, .val (.long r66), .second, .val (.long r67), .second, .val (.long r68), .second, .val (.long r69), .second, .val (.ref b70), .val (.ref b77), .val (.ref b82), .val (.ref b85), .val (.ref b88), .val (.ref b90), .val (.int r91), .val (.int r92), .val (.int r93), .val (.int z94), .val (.int z97)] [(.int (1 : Int32)), (.ref b85)])) _
    refine X93.laload hx (j := (1 : Int32)) (v := (.long vq)) (by rw [e93]; exact Ar104.1) (State.isArrayOf_alike hZ.alike Ar104.2.1) Ar104.2.2 hin104 hat104 (g := (mkF m 246 #[.val (.long a0_), .second, .val (.long a1_), .second, .val (.long b0_), .second, .val (.long b1_), .second, .val (.long vp), .second, .val (.long vq), .second, .val (.long r66), .second, .val (.long r67), .second, .val (.long r68), .second, .val (.long r69), .second, .val (.ref b70), .val (.ref b77), .val (.ref b82), .val (.ref b85), .val (.ref b88), .val (.ref b90), .val (.int r91), .val (.int r92), .val (.int r93), .val (.int z94), .val (.int z97)] [(.int (1 : Int32)), (.ref b85)])) rfl rfl (hb hby at_246) _ ?_
    show Steps p.tables e below (T93.setTop (mkF m 247 #[.val (.long a0_), .second, .val (.long a1_), .second, .val (.long b0_), .second, .val (.long b1_), .second, .val (.long vp), .second, .val (.long vq), .second, .val (.long r66), .second, .val (.long r67), .second, .val (.long r68), .second, .val (.long r69), .second, .val (.ref b70), .val (.ref b77), .val (.ref b82), .val (.ref b85), .val (.ref b88), .val (.ref b90), .val (.int r91), .val (.int r92), .val (.int r93), .val (.int z94), .val (.int z97)] [(.long vq)])) _
    refine XS.lload X93.here hx rfl (hb hby at_247) rfl ?_
    show Steps p.tables e below (T93.setTop (mkF m 249 #[.val (.long a0_), .second, .val (.long a1_), .second, .val (.long b0_), .second, .val (.long b1_), .second, .val (.long vp), .second, .val (.long vq), .second, .val (.long r66), .second, .val (.long r67), .second, .val (.long r68), .second, .val (.long r69), .second, .val (.ref b70), .val (.ref b77), .val (.ref b82), .val (.ref b85), .val (.ref b88), .val (.ref b90), .val (.int r91), .val (.int r92), .val (.int r93), .val (.int z94), .val (.int z97)] [(.long vq), (.long vq)])) _
    refine XS.lcmp X93.here hx rfl (hb hby at_249) rfl ?_
    show Steps p.tables e below (T93.setTop (mkF m 250 #[.val (.long a0_), .second, .val (.long a1_), .second, .val (.long b0_), .second, .val (.long b1_), .second, .val (.long vp), .second, .val (.long vq), .second, .val (.long r66), .second, .val (.long r67), .second, .val (.long r68), .second, .val (.long r69), .second, .val (.ref b70), .val (.ref b77), .val (.ref b82), .val (.ref b85), .val (.ref b88), .val (.ref b90), .val (.int r91), .val (.int r92), .val (.int r93), .val (.int z94), .val (.int z97)] [(.int (lcmpW vq vq))])) _
    refine XS.ifNo X93.here hx rfl (hb hby at_250) rfl ((if0 _ _).trans (teq ((lw_eq _ _).mpr (rfl : vq = vq))).2) ?_
    show Steps p.tables e below (T93.setTop (mkF m 253 #[.val (.long a0_), .second, .val (.long a1_), .second, .val (.long b0_), .second, .val (.long b1_), .second, .val (.long vp), .second, .val (.long vq), .second, .val (.long r66), .second, .val (.long r67), .second, .val (.long r68), .second, .val (.long r69), .second, .val (.ref b70), .val (.ref b77), .val (.ref b82), .val (.ref b85), .val (.ref b88), .val (.ref b90), .val (.int r91), .val (.int r92), .val (.int r93), .val (.int z94), .val (.int z97)] [])) _
    refine XS.aload X93.here hx rfl (hb hby at_253) rfl rfl ?_
    show Steps p.tables e below (T93.setTop (mkF m 255 #[.val (.long a0_), .second, .val (.long a1_), .second, .val (.long b0_), .second, .val (.long b1_), .second, .val (.long vp), .second, .val (.long vq), .second, .val (.long r66), .second, .val (.long r67), .second, .val (.long r68), .second, .val (.long r69), .second, .val (.ref b70), .val (.ref b77), .val (.ref b82), .val (.ref b85), .val (.ref b88), .val (.ref b90), .val (.int r91), .val (.int r92), .val (.int r93), .val (.int z94), .val (.int z97)] [(.ref b88)])) _
    refine XS.iconst X93.here hx rfl (hb hby at_255) ?_
    show Steps p.tables e below (T93.setTop (mkF m 256 #[.val (.long a0_), .second, .val (.long a1_), .second, .val (.long b0_), .second, .val (.long b1_), .second, .val (.long vp), .second, .val (.long vq), .second, .val (.long r66), .second, .val (.long r67), .second, .val (.long r68), .second, .val (.long r69), .second, .val (.ref b70), .val (.ref b77), .val (.ref b82), .val (.ref b85), .val (.ref b88), .val (.ref b90), .val (.int r91), .val (.int r92), .val (.int r93), .val (.int z94), .val (.int z97)] [(.int (0 : Int32)), (.ref b88)])) _
    refine X93.laload hx (j := (0 : Int32)) (v := (.long vp)) (by rw [e93]; exact Ar105.1) (State.isArrayOf_alike hZ.alike Ar105.2.1) Ar105.2.2 hin105 hat105 (g := (mkF m 256 #[.val (.long a0_), .second, .val (.long a1_), .second, .val (.long b0_), .second, .val (.long b1_), .second, .val (.long vp), .second, .val (.long vq), .second, .val (.long r66), .second, .val (.long r67), .second, .val (.long r68), .second, .val (.long r69), .second, .val (.ref b70), .val (.ref b77), .val (.ref b82), .val (.ref b85), .val (.ref b88), .val (.ref b90), .val (.int r91), .val (.int r92), .val (.int r93), .val (.int z94), .val (.int z97)] [(.int (0 : Int32)), (.ref b88)])) rfl rfl (hb hby at_256) _ ?_
    show Steps p.tables e below (T93.setTop (mkF m 257 #[.val (.long a0_), .second, .val (.long a1_), .second, .val (.long b0_), .second, .val (.long b1_), .second, .val (.long vp), .second, .val (.long vq), .second, .val (.long r66), .second, .val (.long r67), .second, .val (.long r68), .second, .val (.long r69), .second, .val (.ref b70), .val (.ref b77), .val (.ref b82), .val (.ref b85), .val (.ref b88), .val (.ref b90), .val (.int r91), .val (.int r92), .val (.int r93), .val (.int z94), .val (.int z97)] [(.long vp)])) _
    refine XS.lload X93.here hx rfl (hb hby at_257) rfl ?_
    show Steps p.tables e below (T93.setTop (mkF m 259 #[.val (.long a0_), .second, .val (.long a1_), .second, .val (.long b0_), .second, .val (.long b1_), .second, .val (.long vp), .second, .val (.long vq), .second, .val (.long r66), .second, .val (.long r67), .second, .val (.long r68), .second, .val (.long r69), .second, .val (.ref b70), .val (.ref b77), .val (.ref b82), .val (.ref b85), .val (.ref b88), .val (.ref b90), .val (.int r91), .val (.int r92), .val (.int r93), .val (.int z94), .val (.int z97)] [(.long vp), (.long vp)])) _
    refine XS.lcmp X93.here hx rfl (hb hby at_259) rfl ?_
    show Steps p.tables e below (T93.setTop (mkF m 260 #[.val (.long a0_), .second, .val (.long a1_), .second, .val (.long b0_), .second, .val (.long b1_), .second, .val (.long vp), .second, .val (.long vq), .second, .val (.long r66), .second, .val (.long r67), .second, .val (.long r68), .second, .val (.long r69), .second, .val (.ref b70), .val (.ref b77), .val (.ref b82), .val (.ref b85), .val (.ref b88), .val (.ref b90), .val (.int r91), .val (.int r92), .val (.int r93), .val (.int z94), .val (.int z97)] [(.int (lcmpW vp vp))])) _
    refine XS.ifNo X93.here hx rfl (hb hby at_260) rfl ((if0 _ _).trans (teq ((lw_eq _ _).mpr (rfl : vp = vp))).2) ?_
    show Steps p.tables e below (T93.setTop (mkF m 263 #[.val (.long a0_), .second, .val (.long a1_), .second, .val (.long b0_), .second, .val (.long b1_), .second, .val (.long vp), .second, .val (.long vq), .second, .val (.long r66), .second, .val (.long r67), .second, .val (.long r68), .second, .val (.long r69), .second, .val (.ref b70), .val (.ref b77), .val (.ref b82), .val (.ref b85), .val (.ref b88), .val (.ref b90), .val (.int r91), .val (.int r92), .val (.int r93), .val (.int z94), .val (.int z97)] [])) _
    refine XS.iconst X93.here hx rfl (hb hby at_263) ?_
    show Steps p.tables e below (T93.setTop (mkF m 264 #[.val (.long a0_), .second, .val (.long a1_), .second, .val (.long b0_), .second, .val (.long b1_), .second, .val (.long vp), .second, .val (.long vq), .second, .val (.long r66), .second, .val (.long r67), .second, .val (.long r68), .second, .val (.long r69), .second, .val (.ref b70), .val (.ref b77), .val (.ref b82), .val (.ref b85), .val (.ref b88), .val (.ref b90), .val (.int r91), .val (.int r92), .val (.int r93), .val (.int z94), .val (.int z97)] [(.int (1 : Int32))])) _
    refine XS.goto X93.here hx rfl (pc0 := 264) (pc' := 268) rfl (hb hby at_264) (by decide) (by decide) ?_
    show Steps p.tables e below (T93.setTop (mkF m 268 #[.val (.long a0_), .second, .val (.long a1_), .second, .val (.long b0_), .second, .val (.long b1_), .second, .val (.long vp), .second, .val (.long vq), .second, .val (.long r66), .second, .val (.long r67), .second, .val (.long r68), .second, .val (.long r69), .second, .val (.ref b70), .val (.ref b77), .val (.ref b82), .val (.ref b85), .val (.ref b88), .val (.ref b90), .val (.int r91), .val (.int r92), .val (.int r93), .val (.int z94), .val (.int z97)] [(.int (1 : Int32))])) _
    exact retN X93 hx (t := .boolean) Bd.returns (by simp) (hb hby at_268) hr
  · show Q_law Z a0_ a1_ b0_ b1_ vp vq h0 n0 _ T93.heap _
    rw [e93]
    exact ⟨rfl, N93⟩
set_option maxRecDepth 65536 in
set_option maxHeartbeats 40000000 in
theorem comes_1 {Post : Tables → Env → Array Value → State → Outcome → State → Prop} (hpost : ∀ tb e args s v u, (limb_1_1.after args s (.returned v) u = true ∧ limb_1_2.after args s (.returned v) u = true ∧ True) → FrameEnd s (.returned v) u (Jvm.fieldLocs frame_1_writes args s ++ Jvm.arrayLocs frame_1_arrays args s ++ Jvm.staticLocs frame_1_statics s) 32 128 → Post tb e args s (.returned v) u) :
    ArmFor flags0 classFile x code maxLocals ret World_1 tables_1 room_1 Calls_1 rest_1 Pre_1 Post := by
  intro l hfl _ _ p e ha hc hk s m args below hf hA hF happ hP
  obtain ⟨hcalls, hrest, hpre⟩ := hP
  obtain ⟨-, -, -, hnamed, -, -, -, hat⟩ := (Spec.applies_iff hf).mp happ
  obtain ⟨hg, hn⟩ := and_e (Cond.before_iff.mp (show (Jvm.Cond.and given_1 narrow_1).before args s = true from hpre))
  obtain ⟨hg0, hr0⟩ := and_e hg
  obtain ⟨ha0, hr1⟩ := and_e hr0
  obtain ⟨ha1, hr2⟩ := and_e hr1
  obtain ⟨ha2, hr3⟩ := and_e hr2
  obtain ⟨ha3, hr4⟩ := and_e hr3
  obtain ⟨ha4, hr5⟩ := and_e hr4
  obtain ⟨w0, w1, w2, w3, w4, w5, rfl⟩ : ∃ w0 w1 w2 w3 w4 w5 : Value, args = #[w0, w1, w2, w3, w4, w5] := by
    have hs : args.size = 6 := by simpa [Cond.value, given_1] using hg0
    obtain ⟨L⟩ := args
    match L, hs with
    | [w0, w1, w2, w3, w4, w5], _ => exact ⟨w0, w1, w2, w3, w4, w5, rfl⟩
  have hw := fun d (hd : d ∈ tables_1) => atoms_spec (ws := Jvm.Cond.code x code maxLocals ret :: tables_1) hat d (List.mem_cons_of_mem _ hd)
  obtain ⟨i0, ei0⟩ := isL_v ha0
  obtain rfl : w0 = (.long i0) := Option.some.inj ei0
  obtain ⟨i1, ei1⟩ := isL_v ha1
  obtain rfl : w1 = (.long i1) := Option.some.inj ei1
  obtain ⟨i2, ei2⟩ := isL_v ha2
  obtain rfl : w2 = (.long i2) := Option.some.inj ei2
  obtain ⟨i3, ei3⟩ := isL_v ha3
  obtain rfl : w3 = (.long i3) := Option.some.inj ei3
  obtain ⟨i4, ei4⟩ := isL_v ha4
  obtain rfl : w4 = (.long i4) := Option.some.inj ei4
  obtain ⟨i5, ei5⟩ := isL_v hr5
  obtain rfl : w5 = (.long i5) := Option.some.inj ei5
  obtain ⟨n, o, h1, h2, h3, _, L, rfl, ⟨rfl, N⟩, hq⟩ := rm_law l s _ hw tables_1 i0 i1 i2 i3 i4 i5 s.heap s.heap.size (Nat.le_refl _)  p e ha hc hk s m _ below hf ((Spec.applies_iff_loose hf).mp happ).1 ⟨rfl, State.Warmed39.refl s, rfl⟩ trivial
  refine ⟨n, _, h1, h2, h3, hpost _ _ _ _ _ _ ⟨Cond.after_iff.mpr rfl, Cond.after_iff.mpr (eq_i res_at (Term.int_eval (1)) rfl), trivial⟩ ⟨hq.1, hq.2.1, (hq.2.2.sift fun y hy => Or.inr (N y hy)).mono (by decide) (by decide)⟩⟩
theorem main_1_1 : Claimed_1_1 := comes_1 fun _ _ _ _ _ _ h hF => ⟨h.1, hF⟩
theorem main_1_2 : Claimed_1_2 := comes_1 fun _ _ _ _ _ _ h hF => ⟨h.2.1, hF⟩
end Jvm.Pilot.@@N@@
namespace Jvm.Pilot.@@N@@
open Jvm Jvm.ClassFile Sem Op Lib Jvm.Free Jvm.Stand Jvm.Pilot.@@N@@.Jvm.D
/-! MADE BY PROGRAM (witnessworld.py) out of the Statement's table words and the real class files: 12 classes; the members and pool entries that the words name. The judged class is class 1, her method 1. -/
namespace start1
open Jvm.ClassFile
def u (s : String) : CpInfo := .utf8 (stringToUtf16 s)
/-- a pool by its gaps: so many unusable entries, then the entry; so many at the end -/
def gap : Nat → List CpInfo → List CpInfo
  | 0, r => r
  | n + 1, r => .unusable :: gap n r
def poolList (es : List (Nat × CpInfo)) (last : Nat) : List CpInfo := es.foldr (fun e r => gap e.1 (e.2 :: r)) (gap last [])
def pool (es : List (Nat × CpInfo)) (last : Nat) : Array CpInfo := ⟨poolList es last⟩
def fileOf (pool : Array CpInfo) (this : Nat) (attrs : Array Attribute := #[]) (ms : Array MethodInfo := #[]) (fl : Nat := 33) (sup : Nat := 0) (ifs : Array Nat := #[]) (fds : Array FieldInfo := #[]) : ClassFile where
  minorVersion := 0
  majorVersion := 65
  constantPool := pool
  accessFlags := fl
  thisClass := this
  superClass := sup
  interfaces := ifs
  fields := fds
  methods := ms
  attributes := attrs
def plain (name : String) (sup : Option ClassId) : Class where
  name := name
  kind := .ordinary
  loader := none
  accessFlags := 33
  super := sup
  interfaces := #[]
  cf := none
  fields := #[]
  methods := #[]
  instanceTypes := #[]
  staticTypes := #[]
  resolved := #[]
  callSites := []
  init := .initialized
  statics := none
  mirror := none

def pool0 : Array CpInfo := pool [(5, u "<init>"), (0, u "()V"), (1, .class_ 10), (1, u "java/lang/Object"), (85, u "clone"), (0, u "()Ljava/lang/Object;")] 26

def k0c0 : Code := { maxStack := 0, maxLocals := 1, code := object_method_1_code, exceptionTable := #[], attributes := #[] }
def k0m0 : Method := { name := "<init>", desc := "()V", sig := { parameters := [], returnType := none }, accessFlags := 1, code := some k0c0 }
def k0m1 : Method := { name := "clone", desc := "()Ljava/lang/Object;", sig := { parameters := [], returnType := some (.object "java/lang/Object") }, accessFlags := 260, code := none }
/-- java/lang/Object -/
def k0 : Class := { plain "java/lang/Object" none with
  accessFlags := 33
  interfaces := #[]
  cf := some (fileOf pool0 8 #[] #[{ accessFlags := 1, nameIndex := 5, descriptorIndex := 6, attributes := #[] }, { accessFlags := 260, nameIndex := 96, descriptorIndex := 97, attributes := #[] }] 33 0 #[] #[])
  fields := #[]
  methods := #[k0m0, k0m1]
  instanceTypes := #[]
  staticTypes := #[]
  resolved := Array.replicate 124 none
  statics := none }

def pool1 : Array CpInfo := pool [(2, .class_ 4), (1, u "java/lang/Object"), (0, u "<init>"), (0, u "()V"), (0, .methodref 8 9), (0, .class_ 10), (0, .nameAndType 11 12), (0, u "com/example/chronotriple/chronotriple/BoxContainsPinLaw"), (0, u "lowOf"), (0, u "(JJ)J"), (0, .methodref 8 14), (0, .nameAndType 15 12), (0, u "highOf"), (0, .class_ 17), (0, u "com/example/chronotriple/chronotriple/Box"), (0, .methodref 16 19), (0, .nameAndType 5 20), (0, u "([J)V"), (0, .methodref 16 22), (0, .nameAndType 23 24), (0, u "contains"), (0, u "([J)Z"), (2, .long 9223372036854775807), (1, .methodref 30 31), (0, .class_ 32), (0, .nameAndType 33 12), (0, u "java/lang/Math"), (0, u "min"), (0, .methodref 30 35), (0, .nameAndType 36 12), (0, u "max"), (2, u "law"), (0, u "(JJJJJJ)Z")] 5

def k1m0 : Method := { name := "<init>", desc := "()V", sig := { parameters := [], returnType := none }, accessFlags := 2, code := none }
def k1c1 : Code := { maxStack := 7, maxLocals := 31, code := code, exceptionTable := #[], attributes := #[] }
def k1m1 : Method := { name := "law", desc := "(JJJJJJ)Z", sig := { parameters := [.long, .long, .long, .long, .long, .long], returnType := some .boolean }, accessFlags := 9, code := some k1c1 }
def k1c2 : Code := { maxStack := 4, maxLocals := 4, code := method_3_code, exceptionTable := #[], attributes := #[] }
def k1m2 : Method := { name := "lowOf", desc := "(JJ)J", sig := { parameters := [.long, .long], returnType := some .long }, accessFlags := 10, code := some k1c2 }
def k1c3 : Code := { maxStack := 4, maxLocals := 4, code := method_4_code, exceptionTable := #[], attributes := #[] }
def k1m3 : Method := { name := "highOf", desc := "(JJ)J", sig := { parameters := [.long, .long], returnType := some .long }, accessFlags := 10, code := some k1c3 }
/-- com/example/chronotriple/chronotriple/BoxContainsPinLaw -/
def k1 : Class := { plain "com/example/chronotriple/chronotriple/BoxContainsPinLaw" (some 0) with
  accessFlags := 49
  interfaces := #[]
  cf := some (fileOf pool1 8 #[] #[{ accessFlags := 2, nameIndex := 5, descriptorIndex := 6, attributes := #[] }, { accessFlags := 9, nameIndex := 39, descriptorIndex := 40, attributes := #[] }, { accessFlags := 10, nameIndex := 11, descriptorIndex := 12, attributes := #[] }, { accessFlags := 10, nameIndex := 15, descriptorIndex := 12, attributes := #[] }] 49 2 #[] #[])
  fields := #[]
  methods := #[k1m0, k1m1, k1m2, k1m3]
  instanceTypes := #[]
  staticTypes := #[]
  resolved := Array.replicate 46 none
  statics := none }

def pool2 : Array CpInfo := pool [(1, .class_ 2), (0, u "java/lang/Math"), (1, .class_ 6), (1, u "java/lang/Object"), (0, u "<init>"), (0, u "()V"), (89, .class_ 100), (1, u "java/lang/Math$RandomNumberGeneratorHolder"), (20, u "(JJ)J"), (50, u "negativeZeroFloatBits"), (0, u "J"), (2, u "negativeZeroDoubleBits"), (21, u "max"), (2, u "min"), (43, u "$assertionsDisabled"), (0, u "Z"), (91, u "twoToTheDoubleScaleDown"), (0, u "D"), (4, u "twoToTheDoubleScaleUp"), (9, u "E"), (3, u "PI"), (2, u "TAU"), (2, u "DEGREES_TO_RADIANS"), (0, u "RADIANS_TO_DEGREES")] 94

def k2m0 : Method := { name := "<init>", desc := "()V", sig := { parameters := [], returnType := none }, accessFlags := 2, code := none }
def k2c1 : Code := { maxStack := 4, maxLocals := 4, code := jdk_29_method_66_code, exceptionTable := #[], attributes := #[] }
def k2m1 : Method := { name := "max", desc := "(JJ)J", sig := { parameters := [.long, .long], returnType := some .long }, accessFlags := 9, code := some k2c1 }
def k2c2 : Code := { maxStack := 4, maxLocals := 4, code := jdk_29_method_70_code, exceptionTable := #[], attributes := #[] }
def k2m2 : Method := { name := "min", desc := "(JJ)J", sig := { parameters := [.long, .long], returnType := some .long }, accessFlags := 9, code := some k2c2 }
/-- java/lang/Math -/
def k2 : Class := { plain "java/lang/Math" (some 0) with
  accessFlags := 49
  interfaces := #[]
  cf := some (fileOf pool2 1 #[.nestMembers #[98]] #[{ accessFlags := 2, nameIndex := 7, descriptorIndex := 8, attributes := #[] }, { accessFlags := 9, nameIndex := 198, descriptorIndex := 121, attributes := #[] }, { accessFlags := 9, nameIndex := 201, descriptorIndex := 121, attributes := #[] }] 49 4 #[] #[{ accessFlags := 25, nameIndex := 354, descriptorIndex := 339, attributes := #[] }, { accessFlags := 25, nameIndex := 358, descriptorIndex := 339, attributes := #[] }, { accessFlags := 25, nameIndex := 361, descriptorIndex := 339, attributes := #[] }, { accessFlags := 26, nameIndex := 364, descriptorIndex := 339, attributes := #[] }, { accessFlags := 26, nameIndex := 365, descriptorIndex := 339, attributes := #[] }, { accessFlags := 26, nameIndex := 172, descriptorIndex := 173, attributes := #[] }, { accessFlags := 26, nameIndex := 176, descriptorIndex := 173, attributes := #[] }, { accessFlags := 8, nameIndex := 344, descriptorIndex := 339, attributes := #[] }, { accessFlags := 8, nameIndex := 338, descriptorIndex := 339, attributes := #[] }, { accessFlags := 4120, nameIndex := 245, descriptorIndex := 246, attributes := #[] }])
  fields := #[{ name := "E", type := .double, accessFlags := 25, slot := 0, constantValue := 0 }, { name := "PI", type := .double, accessFlags := 25, slot := 1, constantValue := 0 }, { name := "TAU", type := .double, accessFlags := 25, slot := 2, constantValue := 0 }, { name := "DEGREES_TO_RADIANS", type := .double, accessFlags := 26, slot := 3, constantValue := 0 }, { name := "RADIANS_TO_DEGREES", type := .double, accessFlags := 26, slot := 4, constantValue := 0 }, { name := "negativeZeroFloatBits", type := .long, accessFlags := 26, slot := 5, constantValue := 0 }, { name := "negativeZeroDoubleBits", type := .long, accessFlags := 26, slot := 6, constantValue := 0 }, { name := "twoToTheDoubleScaleUp", type := .double, accessFlags := 8, slot := 7, constantValue := 0 }, { name := "twoToTheDoubleScaleDown", type := .double, accessFlags := 8, slot := 8, constantValue := 0 }, { name := "$assertionsDisabled", type := .boolean, accessFlags := 4120, slot := 9, constantValue := 0 }]
  methods := #[k2m0, k2m1, k2m2]
  instanceTypes := #[]
  staticTypes := #[.double, .double, .double, .double, .double, .long, .long, .double, .double, .boolean]
  resolved := Array.replicate 460 none
  statics := none }

def pool3 : Array CpInfo := pool [(1, .methodref 2 3), (0, .class_ 4), (0, .nameAndType 5 6), (0, u "java/lang/Object"), (0, u "<init>"), (0, u "()V"), (9, .methodref 17 18), (0, .class_ 19), (0, .nameAndType 20 21), (0, u "[J"), (0, u "clone"), (0, u "()Ljava/lang/Object;"), (0, .fieldref 23 24), (0, .class_ 25), (0, .nameAndType 26 19), (0, u "com/example/chronotriple/chronotriple/Box"), (0, u "bounds"), (5, u "()I"), (8, u "from"), (3, u "to"), (2, u "([J)V"), (6, .methodref 23 56), (0, .nameAndType 57 32), (0, u "dimensions"), (0, .methodref 23 59), (0, .nameAndType 41 60), (0, u "(I)J"), (0, .methodref 23 62), (0, .nameAndType 45 60), (74, u "ORDER"), (0, u "Ljava/util/Comparator;"), (11, u "contains"), (0, u "([J)Z")] 43

def k3c0 : Code := { maxStack := 5, maxLocals := 3, code := prog_2_method_1_code, exceptionTable := #[], attributes := #[] }
def k3m0 : Method := { name := "<init>", desc := "([J)V", sig := { parameters := [(.array .long)], returnType := none }, accessFlags := 128, code := some k3c0 }
def k3c1 : Code := { maxStack := 2, maxLocals := 1, code := prog_2_method_3_code, exceptionTable := #[], attributes := #[] }
def k3m1 : Method := { name := "dimensions", desc := "()I", sig := { parameters := [], returnType := some .int }, accessFlags := 0, code := some k3c1 }
def k3c2 : Code := { maxStack := 3, maxLocals := 2, code := prog_2_method_4_code, exceptionTable := #[], attributes := #[] }
def k3m2 : Method := { name := "from", desc := "(I)J", sig := { parameters := [.int], returnType := some .long }, accessFlags := 0, code := some k3c2 }
def k3c3 : Code := { maxStack := 3, maxLocals := 2, code := prog_2_method_5_code, exceptionTable := #[], attributes := #[] }
def k3m3 : Method := { name := "to", desc := "(I)J", sig := { parameters := [.int], returnType := some .long }, accessFlags := 0, code := some k3c3 }
def k3c4 : Code := { maxStack := 4, maxLocals := 3, code := prog_2_method_8_code, exceptionTable := #[], attributes := #[] }
def k3m4 : Method := { name := "contains", desc := "([J)Z", sig := { parameters := [(.array .long)], returnType := some .boolean }, accessFlags := 0, code := some k3c4 }
/-- com/example/chronotriple/chronotriple/Box -/
def k3 : Class := { plain "com/example/chronotriple/chronotriple/Box" (some 0) with
  accessFlags := 48
  interfaces := #[]
  cf := some (fileOf pool3 23 #[] #[{ accessFlags := 128, nameIndex := 5, descriptorIndex := 48, attributes := #[] }, { accessFlags := 0, nameIndex := 57, descriptorIndex := 32, attributes := #[] }, { accessFlags := 0, nameIndex := 41, descriptorIndex := 60, attributes := #[] }, { accessFlags := 0, nameIndex := 45, descriptorIndex := 60, attributes := #[] }, { accessFlags := 0, nameIndex := 150, descriptorIndex := 151, attributes := #[] }] 48 2 #[] #[{ accessFlags := 24, nameIndex := 137, descriptorIndex := 138, attributes := #[] }, { accessFlags := 18, nameIndex := 26, descriptorIndex := 19, attributes := #[] }])
  fields := #[{ name := "ORDER", type := (.object "java/util/Comparator"), accessFlags := 24, slot := 0, constantValue := 0 }, { name := "bounds", type := (.array .long), accessFlags := 18, slot := 0, constantValue := 0 }]
  methods := #[k3m0, k3m1, k3m2, k3m3, k3m4]
  instanceTypes := #[(.array .long)]
  staticTypes := #[(.object "java/util/Comparator")]
  resolved := Array.replicate 195 none
  statics := none }

def pool4 : Array CpInfo := pool [(1, .class_ 2), (0, u "java/lang/Cloneable"), (0, .class_ 4), (0, u "java/lang/Object")] 2

/-- java/lang/Cloneable -/
def k4 : Class := { plain "java/lang/Cloneable" (some 0) with
  accessFlags := 1537
  interfaces := #[]
  cf := some (fileOf pool4 1 #[] #[] 1537 3 #[] #[])
  fields := #[]
  methods := #[]
  instanceTypes := #[]
  staticTypes := #[]
  resolved := Array.replicate 7 none
  statics := none }

def pool5 : Array CpInfo := pool [(1, u "java/io/Serializable"), (0, .class_ 1), (0, u "java/lang/Object"), (0, .class_ 3)] 3

/-- java/io/Serializable -/
def k5 : Class := { plain "java/io/Serializable" (some 0) with
  accessFlags := 1537
  interfaces := #[]
  cf := some (fileOf pool5 2 #[] #[] 1537 4 #[] #[])
  fields := #[]
  methods := #[]
  instanceTypes := #[]
  staticTypes := #[]
  resolved := Array.replicate 8 none
  statics := none }

/-- the primitive byte -/
def k6 : Class := { plain "byte" none with kind := .primitive 'B', accessFlags := 0x411 }
/-- [B -/
def k7 : Class := { plain "[B" (some 0) with kind := .array 6 .byte, interfaces := #[4, 5], accessFlags := 1041 }

/-- the primitive int -/
def k8 : Class := { plain "int" none with kind := .primitive 'I', accessFlags := 0x411 }
/-- [I -/
def k9 : Class := { plain "[I" (some 0) with kind := .array 8 .int, interfaces := #[4, 5], accessFlags := 1041 }

/-- the primitive long -/
def k10 : Class := { plain "long" none with kind := .primitive 'J', accessFlags := 0x411 }
/-- [J -/
def k11 : Class := { plain "[J" (some 0) with kind := .array 10 .long, interfaces := #[4, 5], accessFlags := 1041 }

def heap : Heap := #[]
def classes : Array Class := #[k0, k1, k2, k3, k4, k5, k6, k7, k8, k9, k10, k11]
def interned : List (Array UInt16 × Addr) := []
def slotsUsed : Nat := 0
def theMethod : MethodId := ⟨1, 1⟩
def args0 : Array Value := #[.long 5, .long 3, .long 9, .long 5, .long 3, .long 9]
def aboutOver (below : List Frame) : State where
  vm := { classes := classes, interned := interned.toArray }
  heap := heap
  slotsUsed := slotsUsed
  threads := #[{ frames := .invoking theMethod args0 :: below }]
def below0 : List Frame := [.native { method := ⟨0, 0⟩, args := #[] }]
def about1 : State := aboutOver below0
def p0 : Program := .bare "" "" ""
def e0 : Env := launch0.env 0 0 0
theorem w_frames : about1.frames = Frame.invoking theMethod args0 :: below0 := rfl
set_option maxRecDepth 65536 in
theorem w_args : argsFit about1.vm theMethod args0 = true := by decide +kernel
set_option maxRecDepth 65536 in
theorem w_heap : heapFits about1 = true := by decide +kernel
set_option maxRecDepth 65536 in
theorem w_runnable : about1.curStatus? = some .runnable := by decide +kernel
set_option maxRecDepth 65536 in
theorem w_alone : about1.alone = true := by decide +kernel
set_option maxRecDepth 65536 in
theorem w_named : about1.methodNamed? x = some theMethod := by decide +kernel
set_option maxRecDepth 65536 in
theorem w_hears : about1.hears theMethod below0 = true := by decide +kernel
set_option maxRecDepth 65536 in
theorem w_ripe : about1.ripe theMethod args0 below0 = true := by decide +kernel
theorem w_running : about1.status = .running := rfl
set_option maxRecDepth 65536 in
theorem w_room : about1.hasRoom e0.platform room_1 = true :=
  launch0.hasRoom_least _ room_1 (by decide +kernel) (by decide +kernel) (by decide +kernel) (by decide +kernel) (by decide +kernel) (by decide +kernel)
theorem allAtoms_all (ts : List Jvm.Cond) (a : Array Jvm.Value) (st : Jvm.State) : (allAtoms ts).before a st = ts.all (fun c => c.before a st) := by
  induction ts with
  | nil => rfl
  | cons c t ih =>
    show (Jvm.Cond.and c (allAtoms t)).before a st = _
    rw [Jvm.Cond.before_and, ih, List.all_cons]
def words1 : List Jvm.Cond := Jvm.Cond.code x code maxLocals ret :: tables_1
/-- a 'code' word, met by the world's own term for the bytes: nothing is compared byte by byte -/
theorem code_word {y : MethodName} {bytes : ByteArray} {mx : Nat} {rt : Option FieldType} {a : Array Value} {s : State} {m : MethodId} {meth : Method} {c : Code} (h1 : s.methodNamed? y = some m) (h2 : s.vm.method? m = some meth) (h3 : meth.code = some c) (h4 : c.code = bytes)
    (h5 : (c.maxLocals == mx && c.exceptionTable.isEmpty && decide (c.maxStack ≤ mostOperands) && decide (meth.sig.returnType = rt) && !meth.locks && decide (parseMethodDescriptor y.desc = some meth.sig)) = true) : (Jvm.Cond.code y bytes mx rt).before a s = true := by
  simp only [Bool.and_eq_true, beq_iff_eq, Bool.not_eq_true', decide_eq_true_eq] at h5
  obtain ⟨⟨⟨⟨⟨g1, g2⟩, g3⟩, g4⟩, g5⟩, g6⟩ := h5
  simp [Cond.before, Cond.holds, Cond.value, h1, h2, h3, h4, g1, g2, g3, g4, g5, g6]
def isCode : Jvm.Cond → Bool
  | .code _ _ _ _ => true
  | _ => false
theorem all_split {L : List Jvm.Cond} {P : Jvm.Cond → Bool} (h1 : L.all (fun c => isCode c || P c) = true) (h2 : ∀ c ∈ L.filter isCode, P c = true) : L.all P = true := by
  refine List.all_eq_true.mpr fun c hc => ?_
  have h := List.all_eq_true.mp h1 c hc
  rcases Bool.eq_false_or_eq_true (isCode c) with hi | hi
  · exact h2 c (List.mem_filter.mpr ⟨hc, hi⟩)
  · simpa [hi] using h
set_option maxRecDepth 65536 in
theorem w_c0 : (Jvm.Cond.code x code maxLocals ret).before args0 about1 = true := code_word (m := ⟨1, 1⟩) (meth := k1m1) (c := k1c1) (by decide +kernel) rfl rfl rfl (by decide +kernel)
set_option maxRecDepth 65536 in
theorem w_c1 : (Jvm.Cond.code ({ cls := "com/example/chronotriple/chronotriple/BoxContainsPinLaw", name := "lowOf", desc := "(JJ)J" } : Jvm.MethodName) method_3_code (4 : Nat) (Option.some Jvm.ClassFile.FieldType.long)).before args0 about1 = true := code_word (m := ⟨1, 2⟩) (meth := k1m2) (c := k1c2) (by decide +kernel) rfl rfl rfl (by decide +kernel)
set_option maxRecDepth 65536 in
theorem w_c2 : (Jvm.Cond.code ({ cls := "java/lang/Math", name := "min", desc := "(JJ)J" } : Jvm.MethodName) jdk_29_method_70_code (4 : Nat) (Option.some Jvm.ClassFile.FieldType.long)).before args0 about1 = true := code_word (m := ⟨2, 2⟩) (meth := k2m2) (c := k2c2) (by decide +kernel) rfl rfl rfl (by decide +kernel)
set_option maxRecDepth 65536 in
theorem w_c3 : (Jvm.Cond.code ({ cls := "com/example/chronotriple/chronotriple/BoxContainsPinLaw", name := "highOf", desc := "(JJ)J" } : Jvm.MethodName) method_4_code (4 : Nat) (Option.some Jvm.ClassFile.FieldType.long)).before args0 about1 = true := code_word (m := ⟨1, 3⟩) (meth := k1m3) (c := k1c3) (by decide +kernel) rfl rfl rfl (by decide +kernel)
set_option maxRecDepth 65536 in
theorem w_c4 : (Jvm.Cond.code ({ cls := "java/lang/Math", name := "max", desc := "(JJ)J" } : Jvm.MethodName) jdk_29_method_66_code (4 : Nat) (Option.some Jvm.ClassFile.FieldType.long)).before args0 about1 = true := code_word (m := ⟨2, 1⟩) (meth := k2m1) (c := k2c1) (by decide +kernel) rfl rfl rfl (by decide +kernel)
set_option maxRecDepth 65536 in
theorem w_c5 : (Jvm.Cond.code ({ cls := "com/example/chronotriple/chronotriple/Box", name := "<init>", desc := "([J)V" } : Jvm.MethodName) prog_2_method_1_code (3 : Nat) (Option.none : Option Jvm.ClassFile.FieldType)).before args0 about1 = true := code_word (m := ⟨3, 0⟩) (meth := k3m0) (c := k3c0) (by decide +kernel) rfl rfl rfl (by decide +kernel)
set_option maxRecDepth 65536 in
theorem w_c6 : (Jvm.Cond.code ({ cls := "java/lang/Object", name := "<init>", desc := "()V" } : Jvm.MethodName) object_method_1_code (1 : Nat) (Option.none : Option Jvm.ClassFile.FieldType)).before args0 about1 = true := code_word (m := ⟨0, 0⟩) (meth := k0m0) (c := k0c0) (by decide +kernel) rfl rfl rfl (by decide +kernel)
set_option maxRecDepth 65536 in
theorem w_c7 : (Jvm.Cond.code ({ cls := "com/example/chronotriple/chronotriple/Box", name := "contains", desc := "([J)Z" } : Jvm.MethodName) prog_2_method_8_code (3 : Nat) (Option.some Jvm.ClassFile.FieldType.boolean)).before args0 about1 = true := code_word (m := ⟨3, 4⟩) (meth := k3m4) (c := k3c4) (by decide +kernel) rfl rfl rfl (by decide +kernel)
set_option maxRecDepth 65536 in
theorem w_c8 : (Jvm.Cond.code ({ cls := "com/example/chronotriple/chronotriple/Box", name := "dimensions", desc := "()I" } : Jvm.MethodName) prog_2_method_3_code (1 : Nat) (Option.some Jvm.ClassFile.FieldType.int)).before args0 about1 = true := code_word (m := ⟨3, 1⟩) (meth := k3m1) (c := k3c1) (by decide +kernel) rfl rfl rfl (by decide +kernel)
set_option maxRecDepth 65536 in
theorem w_c9 : (Jvm.Cond.code ({ cls := "com/example/chronotriple/chronotriple/Box", name := "from", desc := "(I)J" } : Jvm.MethodName) prog_2_method_4_code (2 : Nat) (Option.some Jvm.ClassFile.FieldType.long)).before args0 about1 = true := code_word (m := ⟨3, 2⟩) (meth := k3m2) (c := k3c2) (by decide +kernel) rfl rfl rfl (by decide +kernel)
set_option maxRecDepth 65536 in
theorem w_c10 : (Jvm.Cond.code ({ cls := "com/example/chronotriple/chronotriple/Box", name := "to", desc := "(I)J" } : Jvm.MethodName) prog_2_method_5_code (2 : Nat) (Option.some Jvm.ClassFile.FieldType.long)).before args0 about1 = true := code_word (m := ⟨3, 3⟩) (meth := k3m3) (c := k3c3) (by decide +kernel) rfl rfl rfl (by decide +kernel)
def codes1 : List Jvm.Cond := [Jvm.Cond.code x code maxLocals ret, Jvm.Cond.code ({ cls := "com/example/chronotriple/chronotriple/BoxContainsPinLaw", name := "lowOf", desc := "(JJ)J" } : Jvm.MethodName) method_3_code (4 : Nat) (Option.some Jvm.ClassFile.FieldType.long), Jvm.Cond.code ({ cls := "java/lang/Math", name := "min", desc := "(JJ)J" } : Jvm.MethodName) jdk_29_method_70_code (4 : Nat) (Option.some Jvm.ClassFile.FieldType.long), Jvm.Cond.code ({ cls := "com/example/chronotriple/chronotriple/BoxContainsPinLaw", name := "highOf", desc := "(JJ)J" } : Jvm.MethodName) method_4_code (4 : Nat) (Option.some Jvm.ClassFile.FieldType.long), Jvm.Cond.code ({ cls := "java/lang/Math", name := "max", desc := "(JJ)J" } : Jvm.MethodName) jdk_29_method_66_code (4 : Nat) (Option.some Jvm.ClassFile.FieldType.long), Jvm.Cond.code ({ cls := "com/example/chronotriple/chronotriple/Box", name := "<init>", desc := "([J)V" } : Jvm.MethodName) prog_2_method_1_code (3 : Nat) (Option.none : Option Jvm.ClassFile.FieldType), Jvm.Cond.code ({ cls := "java/lang/Object", name := "<init>", desc := "()V" } : Jvm.MethodName) object_method_1_code (1 : Nat) (Option.none : Option Jvm.ClassFile.FieldType), Jvm.Cond.code ({ cls := "com/example/chronotriple/chronotriple/Box", name := "contains", desc := "([J)Z" } : Jvm.MethodName) prog_2_method_8_code (3 : Nat) (Option.some Jvm.ClassFile.FieldType.boolean), Jvm.Cond.code ({ cls := "com/example/chronotriple/chronotriple/Box", name := "dimensions", desc := "()I" } : Jvm.MethodName) prog_2_method_3_code (1 : Nat) (Option.some Jvm.ClassFile.FieldType.int), Jvm.Cond.code ({ cls := "com/example/chronotriple/chronotriple/Box", name := "from", desc := "(I)J" } : Jvm.MethodName) prog_2_method_4_code (2 : Nat) (Option.some Jvm.ClassFile.FieldType.long), Jvm.Cond.code ({ cls := "com/example/chronotriple/chronotriple/Box", name := "to", desc := "(I)J" } : Jvm.MethodName) prog_2_method_5_code (2 : Nat) (Option.some Jvm.ClassFile.FieldType.long)]
set_option maxRecDepth 65536 in
theorem codes_eq : words1.filter isCode = codes1 := rfl
theorem w_codes : ∀ c ∈ words1.filter isCode, c.before args0 about1 = true := by
  rw [codes_eq]
  intro c hc
  simp only [codes1, List.mem_cons, List.not_mem_nil, or_false] at hc
  rcases hc with rfl | rfl | rfl | rfl | rfl | rfl | rfl | rfl | rfl | rfl | rfl
  · exact w_c0
  · exact w_c1
  · exact w_c2
  · exact w_c3
  · exact w_c4
  · exact w_c5
  · exact w_c6
  · exact w_c7
  · exact w_c8
  · exact w_c9
  · exact w_c10
set_option maxRecDepth 65536 in
theorem w_t1 : (words1.take 24).all (fun c => isCode c || c.before args0 about1) = true := by decide +kernel
set_option maxRecDepth 65536 in
theorem w_t2 : ((words1.drop 24).take 24).all (fun c => isCode c || c.before args0 about1) = true := by decide +kernel
set_option maxRecDepth 65536 in
theorem w_t3 : ((words1.drop 24).drop 24).all (fun c => isCode c || c.before args0 about1) = true := by decide +kernel
theorem w_tables : (allAtoms (Jvm.Cond.code x code maxLocals ret :: tables_1)).before args0 about1 = true := by
  rw [allAtoms_all]
  show words1.all (fun c => c.before args0 about1) = true
  refine all_split ?_ w_codes
  rw [← List.take_append_drop 24 words1, List.all_append, w_t1, ← List.take_append_drop 24 (words1.drop 24), List.all_append, w_t2, w_t3]
  rfl
set_option maxRecDepth 65536 in
theorem w_case : (Jvm.Cond.and given_1 narrow_1).before args0 about1 = true := by decide +kernel
theorem w_applies : (headSpec (Jvm.Cond.code x code maxLocals ret :: tables_1) room_1).applies x e0.platform about1 = true :=
  (Spec.applies_iff w_frames).mpr ⟨w_running, w_runnable, w_alone, w_named, w_hears, w_ripe, w_room, w_tables⟩
theorem atStart : AtStart classFile x code maxLocals ret World_1 tables_1 room_1 Calls_1 rest_1 Pre_1 launch0 p0 e0 about1 theMethod args0 below0 :=
  ⟨lists_1, trivial, launch0.admits_env _ _ _, launch0.least_env, fairChoices_fair.cas, fairChoices_fair.clock, w_frames, w_args, w_heap, w_applies, trivial, trivial, w_case⟩
end start1
theorem witness_1 : WitnessClaimed_1 := ⟨start1.p0, start1.e0, start1.about1, start1.theMethod, start1.args0, start1.below0, start1.atStart⟩
end Jvm.Pilot.@@N@@
