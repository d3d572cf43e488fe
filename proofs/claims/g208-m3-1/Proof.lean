import JvmDerived
import JvmDerived.Pilot.@@N@@Statement
import JvmDerived.Pilot.@@N@@Code
set_option linter.unusedVariables false
set_option linter.unusedSimpArgs false
namespace Jvm.RoadKit
open Sem ClassFile Op Lib Jvm.Stand Jvm.Free Jvm.LawKit
section New
variable {p : Program} {l : Launch} {e : Env} {R : Room} {s : State} {m : MethodId} {args : Array Value} {below : List Frame} {meth : Method} {c : Code} {T : State} {locs : List Loc} {cells slots : Nat}
theorem retI (X : Stand p l e R s m args below meth c T locs cells slots) (hx : p.tables.exec = Jvm.exec) {pc : Nat} {Ls : Array Slot} {z : Int32} {rest : List Value} (hret : meth.sig.returnType = some .int) (hd : decode c.code pc = .ok (.ireturn, 1)) {fs : List Frame}
    (hl : ∀ (f : JFrame) (acts : List Action), f.method = m → f.locked = none → f.entered = [] → (doReturn e (T.setTop f) acts (some (.int z))).1 = T.setFrames fs) : Steps p.tables e below (T.setTop (mkF m pc Ls (.int z :: rest))) (T.setFrames fs) := by
  have hm' : T.vm.method? m = some meth := X.method'
  have hn : narrow .int (.int z) = .int z := rfl
  show Steps p.tables e below (T.setTop { method := m, pc := pc, locals := Ls, stack := _ :: rest, locked := none }) _
  jvm_step X.here [X.here.top, hx, hd, hm', hret, hn]
  first | (intro acts; rw [hl _ acts rfl rfl rfl]) | rw [hl _ _ rfl rfl rfl]
  exact Steps.refl _
end New
end Jvm.RoadKit
namespace Jvm.Pilot.@@N@@
open Jvm Jvm.ClassFile Sem Op Lib Jvm.Free Jvm.Stand Jvm.LawKit Jvm.RoadKit Bundle Jvm.Pilot.@@N@@.Jvm.D
theorem own_f (va : Int64) : (if va < (0 : Int64) then (0 : Int32) else if (2000000000 : Int64) < va then 0 else 1) = if 0 ≤ va.toInt ∧ va.toInt ≤ 2000000000 then (1 : Int32) else 0 := by
  have e1 : (0 : Int64).toInt = 0 := by decide
  have e2 : (2000000000 : Int64).toInt = 2000000000 := by decide
  simp only [Int64.lt_iff_toInt_lt, e1, e2]
  by_cases a : va.toInt < 0
  · rw [if_pos a, if_neg (by omega)]
  · rw [if_neg a]
    by_cases b : 2000000000 < va.toInt
    · rw [if_pos b, if_neg (by omega)]
    · rw [if_neg b, if_pos (by omega)]
theorem own_mid (lo hi mid vb r1 r2 r3 mn : Int64) (s1 s2 s3 : Int32) (hlohi : lo.toInt ≤ hi.toInt) (h1 : mn = if vb < hi then vb else hi) (h2 : mid = if lo < mn then mn else lo) (g1 : s1 = if lo < (0 : Int64) then (0 : Int32) else if (2000000000 : Int64) < lo then 0 else 1) (g2 : s2 = if hi < (0 : Int64) then (0 : Int32) else if (2000000000 : Int64) < hi then 0 else 1) (g3 : s3 = if mid < (0 : Int64) then (0 : Int32) else if (2000000000 : Int64) < mid then 0 else 1) (n1 : ¬ s1 = 0) (n2 : ¬ s2 = 0) : ¬ s3 = 0 := by
  rw [own_f] at g1 g2 g3
  have p1 : 0 ≤ lo.toInt ∧ lo.toInt ≤ 2000000000 := Classical.byContradiction fun q => n1 (by rw [g1, if_neg q])
  have p2 : 0 ≤ hi.toInt ∧ hi.toInt ≤ 2000000000 := Classical.byContradiction fun q => n2 (by rw [g2, if_neg q])
  have p4 : lo.toInt ≤ mid.toInt ∧ mid.toInt ≤ hi.toInt := by
    have hm : mn.toInt ≤ hi.toInt := by
      rw [h1]; split
      · rename_i q; rw [Int64.lt_iff_toInt_lt] at q; omega
      · omega
    rw [h2]; split
    · rename_i q; rw [Int64.lt_iff_toInt_lt] at q; omega
    · omega
  rw [if_pos (by omega)] at g3
  rw [g3]; decide
theorem own_lh (va vc lo hi : Int64) (h1 : lo = if vc < va then vc else va) (h2 : hi = if va < vc then vc else va) : lo.toInt ≤ hi.toInt := by
  rw [h1, h2]
  by_cases a : vc < va <;> by_cases b : va < vc <;> simp only [a, b, if_true, if_false] <;> (rw [Int64.lt_iff_toInt_lt] at a b; omega)
theorem pn_0 : plainName "com/example/stock_gate/stockgate/model/Sale" = true := by first | (simp [plainName, overriddenIn]; done) | decide +kernel
theorem d_prog_13_method_4_code_0 : decode prog_13_method_4_code 0 = .ok (.lload_n 0, 1) := by decide +kernel
theorem d_prog_13_method_4_code_1 : decode prog_13_method_4_code 1 = .ok (.lconst 0, 1) := by decide +kernel
theorem d_prog_13_method_4_code_2 : decode prog_13_method_4_code 2 = .ok (.lcmp, 1) := by decide +kernel
theorem d_prog_13_method_4_code_3 : decode prog_13_method_4_code 3 = .ok (.ifCond .lt 15, 3) := by decide +kernel
theorem d_prog_13_method_4_code_18 : decode prog_13_method_4_code 18 = .ok (.iconst 0, 1) := by decide +kernel
theorem d_prog_13_method_4_code_19 : decode prog_13_method_4_code 19 = .ok (.ireturn, 1) := by decide +kernel
theorem d_prog_13_method_4_code_6 : decode prog_13_method_4_code 6 = .ok (.lload_n 0, 1) := by decide +kernel
theorem d_prog_13_method_4_code_7 : decode prog_13_method_4_code 7 = .ok (.ldc2_w 88, 3) := by decide +kernel
theorem d_prog_13_method_4_code_10 : decode prog_13_method_4_code 10 = .ok (.lcmp, 1) := by decide +kernel
theorem d_prog_13_method_4_code_11 : decode prog_13_method_4_code 11 = .ok (.ifCond .gt 7, 3) := by decide +kernel
theorem d_prog_13_method_4_code_14 : decode prog_13_method_4_code 14 = .ok (.iconst 1, 1) := by decide +kernel
theorem d_prog_13_method_4_code_15 : decode prog_13_method_4_code 15 = .ok (.goto 4, 3) := by decide +kernel
theorem ef_vs (m : MethodId) (va : Int64) : entryFrame m #[(.long va)] 2 = mkF m 0 #[.val (.long va), .second] [] := by first | (simp [entryFrame, mkF, argsToLocals, Value.category]; done) | rfl
def Q_vs (Z : State) (va : Int64) (h0 : Heap) (n0 : Nat) (v : Option Value) (h : Heap) (L : List Loc) : Prop := (∃ z : Int32, v = some (.int z) ∧ (z = if va < (0 : Int64) then (0 : Int32) else if (2000000000 : Int64) < va then 0 else 1)) ∧ Fr n0 L ∧ h = h0
set_option maxRecDepth 65536 in
set_option maxHeartbeats 40000000 in
theorem rm_vs (l : Launch) (Z : State) (a0 : Array Value) (hw : ∀ d ∈ tables_1, d.before a0 Z = true) (ws : List Jvm.Cond) (va : Int64) (h0 : Heap) (n0 : Nat) (Z0 : n0 ≤ h0.size) :
    MetFree l (⟨"com/example/stock_gate/stockgate/model/Sale", "isValidStock", "(J)Z"⟩ : MethodName) (head1 (Jvm.Cond.code (⟨"com/example/stock_gate/stockgate/model/Sale", "isValidStock", "(J)Z"⟩ : MethodName) prog_13_method_4_code 2 (some .boolean) :: ws) ({ frames := 0, cells := 0, slots := 0, locals := 0 } : Room)) (fun a U => a = #[(.long va)] ∧ Z.Warmed39 U.vm ∧ U.heap = h0) (fun _ _ _ _ _ => True) (fun _ U o U' => ∃ v L, o = .returned v ∧ Q_vs Z va h0 n0 v U'.heap L ∧ FrameEnd U o U' L ({ frames := 0, cells := 0, slots := 0, locals := 0 } : Room).cells ({ frames := 0, cells := 0, slots := 0, locals := 0 } : Room).slots) := by
  refine MetFree.of_bodySF (plainFor_of_name pn_0) hisR ?_
  intro p e s m args below meth c s₁ Bd hml0 hP hK
  obtain ⟨rfl, hZ, hh⟩ := hP
  have hx := Bd.exec
  have hby := Bd.bytes
  have hml : c.maxLocals = 2 := hml0
  have hown : s.vm.findClass "com/example/stock_gate/stockgate/model/Sale" = some m.cls := findClass_of_methodNamed Bd.named
  have hnm := (name_of_methodNamed Bd.named Bd.method).1
  have X0 : Stand p l e ({ frames := 0, cells := 0, slots := 0, locals := 0 } : Room) s m #[(.long va)] below meth c s₁ [] 0 0 := Stand.of_body Bd
  have e0 : s₁.heap = h0 := by rw [← hh, Bd.state]; rfl
  have N0 := Fr.nil n0
  have pre0 : ∀ t, Steps p.tables e below (s₁.setTop (mkF m 0 #[.val (.long va), .second] [])) t → Steps p.tables e below (s₁.setTop (entryFrame m #[(.long va)] 2)) t := fun t k => castTop (ef_vs m va) k
  by_cases h3_1 : va < (0 : Int64)
  · obtain ⟨fs, hr, hrun, hended, hW, hsame⟩ := X0.leave (v := some (.int (0 : Int32))) (fun h => by rw [Bd.returns] at h; cases h)
    refine ⟨_, _, pre0 _ ?_, hrun, hended, _, _, rfl, ?_, ⟨_, rfl⟩, hW, hsame.mono (by decide) (by decide)⟩
    · show Steps p.tables e below (s₁.setTop (mkF m 0 #[.val (.long va), .second] [])) _
      refine XS.lloadN X0.here hx rfl (hb hby d_prog_13_method_4_code_0) rfl ?_
      show Steps p.tables e below (s₁.setTop (mkF m 1 #[.val (.long va), .second] [(.long va)])) _
      refine XS.lconst X0.here hx rfl (hb hby d_prog_13_method_4_code_1) ?_
      show Steps p.tables e below (s₁.setTop (mkF m 2 #[.val (.long va), .second] [(.long (0 : Int64)), (.long va)])) _
      refine XS.lcmp X0.here hx rfl (hb hby d_prog_13_method_4_code_2) rfl ?_
      show Steps p.tables e below (s₁.setTop (mkF m 3 #[.val (.long va), .second] [(.int (lcmpW va (0 : Int64)))])) _
      refine XS.ifYes X0.here hx rfl (pc0 := 3) (pc' := 18) rfl (hb hby d_prog_13_method_4_code_3) rfl ((if0 _ _).trans (tlt ((lw_lt _ _).mpr h3_1)).1) (by decide) (by decide) ?_
      show Steps p.tables e below (s₁.setTop (mkF m 18 #[.val (.long va), .second] [])) _
      refine XS.iconst X0.here hx rfl (hb hby d_prog_13_method_4_code_18) ?_
      show Steps p.tables e below (s₁.setTop (mkF m 19 #[.val (.long va), .second] [(.int (0 : Int32))])) _
      exact retN X0 hx (t := .boolean) Bd.returns (by simp) (hb hby d_prog_13_method_4_code_19) hr
    · show Q_vs Z va h0 n0 _ s₁.heap _
      rw [e0]
      exact ⟨⟨_, rfl, by simp [h3_1]⟩, N0, rfl⟩
  · by_cases h11_2 : (2000000000 : Int64) < va
    · obtain ⟨fs, hr, hrun, hended, hW, hsame⟩ := X0.leave (v := some (.int (0 : Int32))) (fun h => by rw [Bd.returns] at h; cases h)
      refine ⟨_, _, pre0 _ ?_, hrun, hended, _, _, rfl, ?_, ⟨_, rfl⟩, hW, hsame.mono (by decide) (by decide)⟩
      · show Steps p.tables e below (s₁.setTop (mkF m 0 #[.val (.long va), .second] [])) _
        refine XS.lloadN X0.here hx rfl (hb hby d_prog_13_method_4_code_0) rfl ?_
        show Steps p.tables e below (s₁.setTop (mkF m 1 #[.val (.long va), .second] [(.long va)])) _
        refine XS.lconst X0.here hx rfl (hb hby d_prog_13_method_4_code_1) ?_
        show Steps p.tables e below (s₁.setTop (mkF m 2 #[.val (.long va), .second] [(.long (0 : Int64)), (.long va)])) _
        refine XS.lcmp X0.here hx rfl (hb hby d_prog_13_method_4_code_2) rfl ?_
        show Steps p.tables e below (s₁.setTop (mkF m 3 #[.val (.long va), .second] [(.int (lcmpW va (0 : Int64)))])) _
        refine XS.ifNo X0.here hx rfl (hb hby d_prog_13_method_4_code_3) rfl ((if0 _ _).trans (flt (fun q => h3_1 ((lw_lt _ _).mp q))).1) ?_
        show Steps p.tables e below (s₁.setTop (mkF m 6 #[.val (.long va), .second] [])) _
        refine XS.lloadN X0.here hx rfl (hb hby d_prog_13_method_4_code_6) rfl ?_
        show Steps p.tables e below (s₁.setTop (mkF m 7 #[.val (.long va), .second] [(.long va)])) _
        refine X0.ldc2Long hx hown (mvT hZ (hw _ (List.mem_of_getElem? (i := 4) rfl))) (g := (mkF m 7 #[.val (.long va), .second] [(.long va)])) rfl (hb hby d_prog_13_method_4_code_7) _ ?_
        show Steps p.tables e below (s₁.setTop (mkF m 10 #[.val (.long va), .second] [(.long (2000000000 : Int64)), (.long va)])) _
        refine XS.lcmp X0.here hx rfl (hb hby d_prog_13_method_4_code_10) rfl ?_
        show Steps p.tables e below (s₁.setTop (mkF m 11 #[.val (.long va), .second] [(.int (lcmpW va (2000000000 : Int64)))])) _
        refine XS.ifYes X0.here hx rfl (pc0 := 11) (pc' := 18) rfl (hb hby d_prog_13_method_4_code_11) rfl ((if0 _ _).trans (tlt ((lw_gt _ _).mpr h11_2)).2.2.1) (by decide) (by decide) ?_
        show Steps p.tables e below (s₁.setTop (mkF m 18 #[.val (.long va), .second] [])) _
        refine XS.iconst X0.here hx rfl (hb hby d_prog_13_method_4_code_18) ?_
        show Steps p.tables e below (s₁.setTop (mkF m 19 #[.val (.long va), .second] [(.int (0 : Int32))])) _
        exact retN X0 hx (t := .boolean) Bd.returns (by simp) (hb hby d_prog_13_method_4_code_19) hr
      · show Q_vs Z va h0 n0 _ s₁.heap _
        rw [e0]
        exact ⟨⟨_, rfl, by simp [h3_1, h11_2]⟩, N0, rfl⟩
    · obtain ⟨fs, hr, hrun, hended, hW, hsame⟩ := X0.leave (v := some (.int (1 : Int32))) (fun h => by rw [Bd.returns] at h; cases h)
      refine ⟨_, _, pre0 _ ?_, hrun, hended, _, _, rfl, ?_, ⟨_, rfl⟩, hW, hsame.mono (by decide) (by decide)⟩
      · show Steps p.tables e below (s₁.setTop (mkF m 0 #[.val (.long va), .second] [])) _
        refine XS.lloadN X0.here hx rfl (hb hby d_prog_13_method_4_code_0) rfl ?_
        show Steps p.tables e below (s₁.setTop (mkF m 1 #[.val (.long va), .second] [(.long va)])) _
        refine XS.lconst X0.here hx rfl (hb hby d_prog_13_method_4_code_1) ?_
        show Steps p.tables e below (s₁.setTop (mkF m 2 #[.val (.long va), .second] [(.long (0 : Int64)), (.long va)])) _
        refine XS.lcmp X0.here hx rfl (hb hby d_prog_13_method_4_code_2) rfl ?_
        show Steps p.tables e below (s₁.setTop (mkF m 3 #[.val (.long va), .second] [(.int (lcmpW va (0 : Int64)))])) _
        refine XS.ifNo X0.here hx rfl (hb hby d_prog_13_method_4_code_3) rfl ((if0 _ _).trans (flt (fun q => h3_1 ((lw_lt _ _).mp q))).1) ?_
        show Steps p.tables e below (s₁.setTop (mkF m 6 #[.val (.long va), .second] [])) _
        refine XS.lloadN X0.here hx rfl (hb hby d_prog_13_method_4_code_6) rfl ?_
        show Steps p.tables e below (s₁.setTop (mkF m 7 #[.val (.long va), .second] [(.long va)])) _
        refine X0.ldc2Long hx hown (mvT hZ (hw _ (List.mem_of_getElem? (i := 4) rfl))) (g := (mkF m 7 #[.val (.long va), .second] [(.long va)])) rfl (hb hby d_prog_13_method_4_code_7) _ ?_
        show Steps p.tables e below (s₁.setTop (mkF m 10 #[.val (.long va), .second] [(.long (2000000000 : Int64)), (.long va)])) _
        refine XS.lcmp X0.here hx rfl (hb hby d_prog_13_method_4_code_10) rfl ?_
        show Steps p.tables e below (s₁.setTop (mkF m 11 #[.val (.long va), .second] [(.int (lcmpW va (2000000000 : Int64)))])) _
        refine XS.ifNo X0.here hx rfl (hb hby d_prog_13_method_4_code_11) rfl ((if0 _ _).trans (flt (fun q => h11_2 ((lw_gt _ _).mp q))).2.2.1) ?_
        show Steps p.tables e below (s₁.setTop (mkF m 14 #[.val (.long va), .second] [])) _
        refine XS.iconst X0.here hx rfl (hb hby d_prog_13_method_4_code_14) ?_
        show Steps p.tables e below (s₁.setTop (mkF m 15 #[.val (.long va), .second] [(.int (1 : Int32))])) _
        refine XS.goto X0.here hx rfl (pc0 := 15) (pc' := 19) rfl (hb hby d_prog_13_method_4_code_15) (by decide) (by decide) ?_
        show Steps p.tables e below (s₁.setTop (mkF m 19 #[.val (.long va), .second] [(.int (1 : Int32))])) _
        exact retN X0 hx (t := .boolean) Bd.returns (by simp) (hb hby d_prog_13_method_4_code_19) hr
      · show Q_vs Z va h0 n0 _ s₁.heap _
        rw [e0]
        exact ⟨⟨_, rfl, by simp [h3_1, h11_2]⟩, N0, rfl⟩
theorem d_jdk_29_method_70_code_0 : decode jdk_29_method_70_code 0 = .ok (.lload_n 0, 1) := by decide +kernel
theorem d_jdk_29_method_70_code_1 : decode jdk_29_method_70_code 1 = .ok (.lload_n 2, 1) := by decide +kernel
theorem d_jdk_29_method_70_code_2 : decode jdk_29_method_70_code 2 = .ok (.lcmp, 1) := by decide +kernel
theorem d_jdk_29_method_70_code_3 : decode jdk_29_method_70_code 3 = .ok (.ifCond .gt 7, 3) := by decide +kernel
theorem d_jdk_29_method_70_code_10 : decode jdk_29_method_70_code 10 = .ok (.lload_n 2, 1) := by decide +kernel
theorem d_jdk_29_method_70_code_11 : decode jdk_29_method_70_code 11 = .ok (.lreturn, 1) := by decide +kernel
theorem d_jdk_29_method_70_code_6 : decode jdk_29_method_70_code 6 = .ok (.lload_n 0, 1) := by decide +kernel
theorem d_jdk_29_method_70_code_7 : decode jdk_29_method_70_code 7 = .ok (.goto 4, 3) := by decide +kernel
theorem ef_min (m : MethodId) (va : Int64) (vb : Int64) : entryFrame m #[(.long va), (.long vb)] 4 = mkF m 0 #[.val (.long va), .second, .val (.long vb), .second] [] := by first | (simp [entryFrame, mkF, argsToLocals, Value.category]; done) | rfl
def Q_min (Z : State) (va : Int64) (vb : Int64) (h0 : Heap) (n0 : Nat) (v : Option Value) (h : Heap) (L : List Loc) : Prop := (∃ z : Int64, v = some (.long z) ∧ (z = if vb < va then vb else va)) ∧ Fr n0 L ∧ h = h0
set_option maxRecDepth 65536 in
set_option maxHeartbeats 40000000 in
theorem rm_min (l : Launch) (Z : State) (a0 : Array Value) (hw : ∀ d ∈ tables_1, d.before a0 Z = true) (ws : List Jvm.Cond) (va : Int64) (vb : Int64) (h0 : Heap) (n0 : Nat) (Z0 : n0 ≤ h0.size) :
    MetFree l (⟨"java/lang/Math", "min", "(JJ)J"⟩ : MethodName) (head1 (Jvm.Cond.code (⟨"java/lang/Math", "min", "(JJ)J"⟩ : MethodName) jdk_29_method_70_code 4 (some .long) :: ws) ({ frames := 0, cells := 0, slots := 0, locals := 0 } : Room)) (fun a U => a = #[(.long va), (.long vb)] ∧ Z.Warmed39 U.vm ∧ U.heap = h0) (fun _ _ _ _ _ => True) (fun _ U o U' => ∃ v L, o = .returned v ∧ Q_min Z va vb h0 n0 v U'.heap L ∧ FrameEnd U o U' L ({ frames := 0, cells := 0, slots := 0, locals := 0 } : Room).cells ({ frames := 0, cells := 0, slots := 0, locals := 0 } : Room).slots) := by
  refine MetFree.of_bodySF (Jvm.Free.JP.mathPlain rfl (by decide +kernel)) hisR ?_
  intro p e s m args below meth c s₁ Bd hml0 hP hK
  obtain ⟨rfl, hZ, hh⟩ := hP
  have hx := Bd.exec
  have hby := Bd.bytes
  have hml : c.maxLocals = 4 := hml0
  have hown : s.vm.findClass "java/lang/Math" = some m.cls := findClass_of_methodNamed Bd.named
  have hnm := (name_of_methodNamed Bd.named Bd.method).1
  have X0 : Stand p l e ({ frames := 0, cells := 0, slots := 0, locals := 0 } : Room) s m #[(.long va), (.long vb)] below meth c s₁ [] 0 0 := Stand.of_body Bd
  have e0 : s₁.heap = h0 := by rw [← hh, Bd.state]; rfl
  have N0 := Fr.nil n0
  have pre0 : ∀ t, Steps p.tables e below (s₁.setTop (mkF m 0 #[.val (.long va), .second, .val (.long vb), .second] [])) t → Steps p.tables e below (s₁.setTop (entryFrame m #[(.long va), (.long vb)] 4)) t := fun t k => castTop (ef_min m va vb) k
  by_cases h3_3 : vb < va
  · obtain ⟨fs, hr, hrun, hended, hW, hsame⟩ := X0.leave (v := some (.long vb)) (fun h => by rw [Bd.returns] at h; cases h)
    refine ⟨_, _, pre0 _ ?_, hrun, hended, _, _, rfl, ?_, ⟨_, rfl⟩, hW, hsame.mono (by decide) (by decide)⟩
    · show Steps p.tables e below (s₁.setTop (mkF m 0 #[.val (.long va), .second, .val (.long vb), .second] [])) _
      refine XS.lloadN X0.here hx rfl (hb hby d_jdk_29_method_70_code_0) rfl ?_
      show Steps p.tables e below (s₁.setTop (mkF m 1 #[.val (.long va), .second, .val (.long vb), .second] [(.long va)])) _
      refine XS.lloadN X0.here hx rfl (hb hby d_jdk_29_method_70_code_1) rfl ?_
      show Steps p.tables e below (s₁.setTop (mkF m 2 #[.val (.long va), .second, .val (.long vb), .second] [(.long vb), (.long va)])) _
      refine XS.lcmp X0.here hx rfl (hb hby d_jdk_29_method_70_code_2) rfl ?_
      show Steps p.tables e below (s₁.setTop (mkF m 3 #[.val (.long va), .second, .val (.long vb), .second] [(.int (lcmpW va vb))])) _
      refine XS.ifYes X0.here hx rfl (pc0 := 3) (pc' := 10) rfl (hb hby d_jdk_29_method_70_code_3) rfl ((if0 _ _).trans (tlt ((lw_gt _ _).mpr h3_3)).2.2.1) (by decide) (by decide) ?_
      show Steps p.tables e below (s₁.setTop (mkF m 10 #[.val (.long va), .second, .val (.long vb), .second] [])) _
      refine XS.lloadN X0.here hx rfl (hb hby d_jdk_29_method_70_code_10) rfl ?_
      show Steps p.tables e below (s₁.setTop (mkF m 11 #[.val (.long va), .second, .val (.long vb), .second] [(.long vb)])) _
      exact X0.lreturnOut hx Bd.returns (hb hby d_jdk_29_method_70_code_11) hr
    · show Q_min Z va vb h0 n0 _ s₁.heap _
      rw [e0]
      exact ⟨⟨_, rfl, by simp [h3_3]⟩, N0, rfl⟩
  · obtain ⟨fs, hr, hrun, hended, hW, hsame⟩ := X0.leave (v := some (.long va)) (fun h => by rw [Bd.returns] at h; cases h)
    refine ⟨_, _, pre0 _ ?_, hrun, hended, _, _, rfl, ?_, ⟨_, rfl⟩, hW, hsame.mono (by decide) (by decide)⟩
    · show Steps p.tables e below (s₁.setTop (mkF m 0 #[.val (.long va), .second, .val (.long vb), .second] [])) _
      refine XS.lloadN X0.here hx rfl (hb hby d_jdk_29_method_70_code_0) rfl ?_
      show Steps p.tables e below (s₁.setTop (mkF m 1 #[.val (.long va), .second, .val (.long vb), .second] [(.long va)])) _
      refine XS.lloadN X0.here hx rfl (hb hby d_jdk_29_method_70_code_1) rfl ?_
      show Steps p.tables e below (s₁.setTop (mkF m 2 #[.val (.long va), .second, .val (.long vb), .second] [(.long vb), (.long va)])) _
      refine XS.lcmp X0.here hx rfl (hb hby d_jdk_29_method_70_code_2) rfl ?_
      show Steps p.tables e below (s₁.setTop (mkF m 3 #[.val (.long va), .second, .val (.long vb), .second] [(.int (lcmpW va vb))])) _
      refine XS.ifNo X0.here hx rfl (hb hby d_jdk_29_method_70_code_3) rfl ((if0 _ _).trans (flt (fun q => h3_3 ((lw_gt _ _).mp q))).2.2.1) ?_
      show Steps p.tables e below (s₁.setTop (mkF m 6 #[.val (.long va), .second, .val (.long vb), .second] [])) _
      refine XS.lloadN X0.here hx rfl (hb hby d_jdk_29_method_70_code_6) rfl ?_
      show Steps p.tables e below (s₁.setTop (mkF m 7 #[.val (.long va), .second, .val (.long vb), .second] [(.long va)])) _
      refine XS.goto X0.here hx rfl (pc0 := 7) (pc' := 11) rfl (hb hby d_jdk_29_method_70_code_7) (by decide) (by decide) ?_
      show Steps p.tables e below (s₁.setTop (mkF m 11 #[.val (.long va), .second, .val (.long vb), .second] [(.long va)])) _
      exact X0.lreturnOut hx Bd.returns (hb hby d_jdk_29_method_70_code_11) hr
    · show Q_min Z va vb h0 n0 _ s₁.heap _
      rw [e0]
      exact ⟨⟨_, rfl, by simp [h3_3]⟩, N0, rfl⟩
theorem d_jdk_29_method_66_code_0 : decode jdk_29_method_66_code 0 = .ok (.lload_n 0, 1) := by decide +kernel
theorem d_jdk_29_method_66_code_1 : decode jdk_29_method_66_code 1 = .ok (.lload_n 2, 1) := by decide +kernel
theorem d_jdk_29_method_66_code_2 : decode jdk_29_method_66_code 2 = .ok (.lcmp, 1) := by decide +kernel
theorem d_jdk_29_method_66_code_3 : decode jdk_29_method_66_code 3 = .ok (.ifCond .lt 7, 3) := by decide +kernel
theorem d_jdk_29_method_66_code_10 : decode jdk_29_method_66_code 10 = .ok (.lload_n 2, 1) := by decide +kernel
theorem d_jdk_29_method_66_code_11 : decode jdk_29_method_66_code 11 = .ok (.lreturn, 1) := by decide +kernel
theorem d_jdk_29_method_66_code_6 : decode jdk_29_method_66_code 6 = .ok (.lload_n 0, 1) := by decide +kernel
theorem d_jdk_29_method_66_code_7 : decode jdk_29_method_66_code 7 = .ok (.goto 4, 3) := by decide +kernel
theorem ef_max (m : MethodId) (va : Int64) (vb : Int64) : entryFrame m #[(.long va), (.long vb)] 4 = mkF m 0 #[.val (.long va), .second, .val (.long vb), .second] [] := by first | (simp [entryFrame, mkF, argsToLocals, Value.category]; done) | rfl
def Q_max (Z : State) (va : Int64) (vb : Int64) (h0 : Heap) (n0 : Nat) (v : Option Value) (h : Heap) (L : List Loc) : Prop := (∃ z : Int64, v = some (.long z) ∧ (z = if va < vb then vb else va)) ∧ Fr n0 L ∧ h = h0
set_option maxRecDepth 65536 in
set_option maxHeartbeats 40000000 in
theorem rm_max (l : Launch) (Z : State) (a0 : Array Value) (hw : ∀ d ∈ tables_1, d.before a0 Z = true) (ws : List Jvm.Cond) (va : Int64) (vb : Int64) (h0 : Heap) (n0 : Nat) (Z0 : n0 ≤ h0.size) :
    MetFree l (⟨"java/lang/Math", "max", "(JJ)J"⟩ : MethodName) (head1 (Jvm.Cond.code (⟨"java/lang/Math", "max", "(JJ)J"⟩ : MethodName) jdk_29_method_66_code 4 (some .long) :: ws) ({ frames := 0, cells := 0, slots := 0, locals := 0 } : Room)) (fun a U => a = #[(.long va), (.long vb)] ∧ Z.Warmed39 U.vm ∧ U.heap = h0) (fun _ _ _ _ _ => True) (fun _ U o U' => ∃ v L, o = .returned v ∧ Q_max Z va vb h0 n0 v U'.heap L ∧ FrameEnd U o U' L ({ frames := 0, cells := 0, slots := 0, locals := 0 } : Room).cells ({ frames := 0, cells := 0, slots := 0, locals := 0 } : Room).slots) := by
  refine MetFree.of_bodySF (Jvm.Free.JP.mathPlain rfl (by decide +kernel)) hisR ?_
  intro p e s m args below meth c s₁ Bd hml0 hP hK
  obtain ⟨rfl, hZ, hh⟩ := hP
  have hx := Bd.exec
  have hby := Bd.bytes
  have hml : c.maxLocals = 4 := hml0
  have hown : s.vm.findClass "java/lang/Math" = some m.cls := findClass_of_methodNamed Bd.named
  have hnm := (name_of_methodNamed Bd.named Bd.method).1
  have X0 : Stand p l e ({ frames := 0, cells := 0, slots := 0, locals := 0 } : Room) s m #[(.long va), (.long vb)] below meth c s₁ [] 0 0 := Stand.of_body Bd
  have e0 : s₁.heap = h0 := by rw [← hh, Bd.state]; rfl
  have N0 := Fr.nil n0
  have pre0 : ∀ t, Steps p.tables e below (s₁.setTop (mkF m 0 #[.val (.long va), .second, .val (.long vb), .second] [])) t → Steps p.tables e below (s₁.setTop (entryFrame m #[(.long va), (.long vb)] 4)) t := fun t k => castTop (ef_max m va vb) k
  by_cases h3_4 : va < vb
  · obtain ⟨fs, hr, hrun, hended, hW, hsame⟩ := X0.leave (v := some (.long vb)) (fun h => by rw [Bd.returns] at h; cases h)
    refine ⟨_, _, pre0 _ ?_, hrun, hended, _, _, rfl, ?_, ⟨_, rfl⟩, hW, hsame.mono (by decide) (by decide)⟩
    · show Steps p.tables e below (s₁.setTop (mkF m 0 #[.val (.long va), .second, .val (.long vb), .second] [])) _
      refine XS.lloadN X0.here hx rfl (hb hby d_jdk_29_method_66_code_0) rfl ?_
      show Steps p.tables e below (s₁.setTop (mkF m 1 #[.val (.long va), .second, .val (.long vb), .second] [(.long va)])) _
      refine XS.lloadN X0.here hx rfl (hb hby d_jdk_29_method_66_code_1) rfl ?_
      show Steps p.tables e below (s₁.setTop (mkF m 2 #[.val (.long va), .second, .val (.long vb), .second] [(.long vb), (.long va)])) _
      refine XS.lcmp X0.here hx rfl (hb hby d_jdk_29_method_66_code_2) rfl ?_
      show Steps p.tables e below (s₁.setTop (mkF m 3 #[.val (.long va), .second, .val (.long vb), .second] [(.int (lcmpW va vb))])) _
      refine XS.ifYes X0.here hx rfl (pc0 := 3) (pc' := 10) rfl (hb hby d_jdk_29_method_66_code_3) rfl ((if0 _ _).trans (tlt ((lw_lt _ _).mpr h3_4)).1) (by decide) (by decide) ?_
      show Steps p.tables e below (s₁.setTop (mkF m 10 #[.val (.long va), .second, .val (.long vb), .second] [])) _
      refine XS.lloadN X0.here hx rfl (hb hby d_jdk_29_method_66_code_10) rfl ?_
      show Steps p.tables e below (s₁.setTop (mkF m 11 #[.val (.long va), .second, .val (.long vb), .second] [(.long vb)])) _
      exact X0.lreturnOut hx Bd.returns (hb hby d_jdk_29_method_66_code_11) hr
    · show Q_max Z va vb h0 n0 _ s₁.heap _
      rw [e0]
      exact ⟨⟨_, rfl, by simp [h3_4]⟩, N0, rfl⟩
  · obtain ⟨fs, hr, hrun, hended, hW, hsame⟩ := X0.leave (v := some (.long va)) (fun h => by rw [Bd.returns] at h; cases h)
    refine ⟨_, _, pre0 _ ?_, hrun, hended, _, _, rfl, ?_, ⟨_, rfl⟩, hW, hsame.mono (by decide) (by decide)⟩
    · show Steps p.tables e below (s₁.setTop (mkF m 0 #[.val (.long va), .second, .val (.long vb), .second] [])) _
      refine XS.lloadN X0.here hx rfl (hb hby d_jdk_29_method_66_code_0) rfl ?_
      show Steps p.tables e below (s₁.setTop (mkF m 1 #[.val (.long va), .second, .val (.long vb), .second] [(.long va)])) _
      refine XS.lloadN X0.here hx rfl (hb hby d_jdk_29_method_66_code_1) rfl ?_
      show Steps p.tables e below (s₁.setTop (mkF m 2 #[.val (.long va), .second, .val (.long vb), .second] [(.long vb), (.long va)])) _
      refine XS.lcmp X0.here hx rfl (hb hby d_jdk_29_method_66_code_2) rfl ?_
      show Steps p.tables e below (s₁.setTop (mkF m 3 #[.val (.long va), .second, .val (.long vb), .second] [(.int (lcmpW va vb))])) _
      refine XS.ifNo X0.here hx rfl (hb hby d_jdk_29_method_66_code_3) rfl ((if0 _ _).trans (flt (fun q => h3_4 ((lw_lt _ _).mp q))).1) ?_
      show Steps p.tables e below (s₁.setTop (mkF m 6 #[.val (.long va), .second, .val (.long vb), .second] [])) _
      refine XS.lloadN X0.here hx rfl (hb hby d_jdk_29_method_66_code_6) rfl ?_
      show Steps p.tables e below (s₁.setTop (mkF m 7 #[.val (.long va), .second, .val (.long vb), .second] [(.long va)])) _
      refine XS.goto X0.here hx rfl (pc0 := 7) (pc' := 11) rfl (hb hby d_jdk_29_method_66_code_7) (by decide) (by decide) ?_
      show Steps p.tables e below (s₁.setTop (mkF m 11 #[.val (.long va), .second, .val (.long vb), .second] [(.long va)])) _
      exact X0.lreturnOut hx Bd.returns (hb hby d_jdk_29_method_66_code_11) hr
    · show Q_max Z va vb h0 n0 _ s₁.heap _
      rw [e0]
      exact ⟨⟨_, rfl, by simp [h3_4]⟩, N0, rfl⟩
theorem pn_1 : plainName "com/example/stock_gate/stockgate/model/SaleIsValidStockPinLaw" = true := by first | (simp [plainName, overriddenIn]; done) | decide +kernel
theorem pd_0 : parseMethodDescriptor "(J)Z" = some ⟨[.long], some .boolean⟩ := by decide +kernel
theorem pd_1 : parseMethodDescriptor "(JJ)J" = some ⟨[.long, .long], some .long⟩ := by decide +kernel
theorem ef_law (m : MethodId) (va : Int64) (vb : Int64) (vc : Int64) : entryFrame m #[(.long va), (.long vb), (.long vc)] maxLocals = mkF m 0 #[.val (.long va), .second, .val (.long vb), .second, .val (.long vc), .second, .unset, .unset, .unset, .unset, .unset, .unset, .unset, .unset] [] := by first | (simp [entryFrame, mkF, argsToLocals, Value.category, maxLocals]; done) | rfl
def Q_law (Z : State) (va : Int64) (vb : Int64) (vc : Int64) (h0 : Heap) (n0 : Nat) (v : Option Value) (h : Heap) (L : List Loc) : Prop := v = some (.int 1) ∧ Fr n0 L
set_option maxRecDepth 65536 in
set_option maxHeartbeats 40000000 in
theorem rm_law (l : Launch) (Z : State) (a0 : Array Value) (hw : ∀ d ∈ tables_1, d.before a0 Z = true) (ws : List Jvm.Cond) (va : Int64) (vb : Int64) (vc : Int64) (h0 : Heap) (n0 : Nat) (Z0 : n0 ≤ h0.size) :
    MetFree l x (head1 (Jvm.Cond.code x code maxLocals ret :: ws) room_1) (fun a U => a = #[(.long va), (.long vb), (.long vc)] ∧ Z.Warmed39 U.vm ∧ U.heap = h0) (fun _ _ _ _ _ => True) (fun _ U o U' => ∃ v L, o = .returned v ∧ Q_law Z va vb vc h0 n0 v U'.heap L ∧ FrameEnd U o U' L room_1.cells room_1.slots) := by
  refine MetFree.of_bodySF (plainFor_of_name pn_1) hisR ?_
  intro p e s m args below meth c s₁ Bd hml0 hP hK
  obtain ⟨rfl, hZ, hh⟩ := hP
  have hx := Bd.exec
  have hby := Bd.bytes
  have hml : c.maxLocals = 14 := hml0
  have hown : s.vm.findClass "com/example/stock_gate/stockgate/model/SaleIsValidStockPinLaw" = some m.cls := findClass_of_methodNamed Bd.named
  have hnm := (name_of_methodNamed Bd.named Bd.method).1
  have X0 : Stand p l e room_1 s m #[(.long va), (.long vb), (.long vc)] below meth c s₁ [] 0 0 := Stand.of_body Bd
  have e0 : s₁.heap = h0 := by rw [← hh, Bd.state]; rfl
  have N0 := Fr.nil n0
  have pre0 : ∀ t, Steps p.tables e below (s₁.setTop (mkF m 0 #[.val (.long va), .second, .val (.long vb), .second, .val (.long vc), .second, .unset, .unset, .unset, .unset, .unset, .unset, .unset, .unset] [])) t → Steps p.tables e below (s₁.setTop (entryFrame m #[(.long va), (.long vb), (.long vc)] maxLocals)) t := fun t k => castTop (ef_law m va vb vc) k
  obtain ⟨_, _, ⟨T5, L5, k5, n5⟩, -, X5, ⟨Lc5, hQ5, l5, y5, z5⟩, st5⟩ := Jvm.LawKit.callS X0 hx (y := (⟨"com/example/stock_gate/stockgate/model/Sale", "isValidStock", "(J)Z"⟩ : MethodName)) hown (mvT hZ (hw _ (List.mem_of_getElem? (i := 0) rfl))) (mvT hZ (hw _ (List.mem_of_getElem? (i := 1) rfl))) (mvT hZ (hw _ (List.mem_of_getElem? (i := 2) rfl))) (mvT hZ (hw _ (List.mem_of_getElem? (i := 3) rfl))) (by decide) (backOf (W := 0) (rm_vs l Z a0 hw [] (0 : Int64) h0 n0 Z0 ) hZ (hw _ (List.mem_of_getElem? (i := 3) rfl)) (hw _ (List.mem_of_getElem? (i := 2) rfl)) (by decide) (by decide)) (g := (mkF m 1 #[.val (.long va), .second, .val (.long vb), .second, .val (.long vc), .second, .unset, .unset, .unset, .unset, .unset, .unset, .unset, .unset] [(.long (0 : Int64))])) rfl (by rw [hml]; rfl) (argsL := [(.long (0 : Int64))]) (rest := []) (lenOf pd_0 rfl) rfl (by show 2 * 0 + _ ≤ _; exact Nat.le_of_eq rfl) (hb hby at_1) (fun _ _ => ⟨rfl, e0, (by decide : 0 + 0 ≤ _), (by decide : 0 + 0 ≤ _)⟩)
  dsimp only [Pt.U, Pt.locs, Pt.cells, Pt.slots] at X5 l5 y5 z5 st5 hQ5
  subst l5 y5 z5
  obtain ⟨⟨r5, rfl, hr5⟩, N5q, e5⟩ := hQ5
  have N5 := Fr.app N0 N5q
  obtain ⟨_, _, ⟨T6, L6, k6, n6⟩, -, X6, ⟨Lc6, hQ6, l6, y6, z6⟩, st6⟩ := Jvm.LawKit.callS X5 hx (y := (⟨"com/example/stock_gate/stockgate/model/Sale", "isValidStock", "(J)Z"⟩ : MethodName)) hown (mvT hZ (hw _ (List.mem_of_getElem? (i := 0) rfl))) (mvT hZ (hw _ (List.mem_of_getElem? (i := 1) rfl))) (mvT hZ (hw _ (List.mem_of_getElem? (i := 2) rfl))) (mvT hZ (hw _ (List.mem_of_getElem? (i := 3) rfl))) (by decide) (backOf (W := 0) (rm_vs l Z a0 hw [] (2000000000 : Int64) h0 n0 Z0 ) hZ (hw _ (List.mem_of_getElem? (i := 3) rfl)) (hw _ (List.mem_of_getElem? (i := 2) rfl)) (by decide) (by decide)) (g := (mkF m 10 #[.val (.long va), .second, .val (.long vb), .second, .val (.long vc), .second, .unset, .unset, .unset, .unset, .unset, .unset, .unset, .unset] [(.long (2000000000 : Int64))])) rfl (by rw [hml]; rfl) (argsL := [(.long (2000000000 : Int64))]) (rest := []) (lenOf pd_0 rfl) rfl (by show 2 * 0 + _ ≤ _; exact Nat.le_of_eq rfl) (hb hby at_10) (fun _ _ => ⟨rfl, e5, (by decide : 0 + 0 ≤ _), (by decide : 0 + 0 ≤ _)⟩)
  dsimp only [Pt.U, Pt.locs, Pt.cells, Pt.slots] at X6 l6 y6 z6 st6 hQ6
  subst l6 y6 z6
  obtain ⟨⟨r6, rfl, hr6⟩, N6q, e6⟩ := hQ6
  have N6 := Fr.app N5 N6q
  obtain ⟨_, _, ⟨T7, L7, k7, n7⟩, -, X7, ⟨Lc7, hQ7, l7, y7, z7⟩, st7⟩ := Jvm.LawKit.callS X6 hx (y := (⟨"com/example/stock_gate/stockgate/model/Sale", "isValidStock", "(J)Z"⟩ : MethodName)) hown (mvT hZ (hw _ (List.mem_of_getElem? (i := 0) rfl))) (mvT hZ (hw _ (List.mem_of_getElem? (i := 1) rfl))) (mvT hZ (hw _ (List.mem_of_getElem? (i := 2) rfl))) (mvT hZ (hw _ (List.mem_of_getElem? (i := 3) rfl))) (by decide) (backOf (W := 0) (rm_vs l Z a0 hw [] (-1 : Int64) h0 n0 Z0 ) hZ (hw _ (List.mem_of_getElem? (i := 3) rfl)) (hw _ (List.mem_of_getElem? (i := 2) rfl)) (by decide) (by decide)) (g := (mkF m 19 #[.val (.long va), .second, .val (.long vb), .second, .val (.long vc), .second, .unset, .unset, .unset, .unset, .unset, .unset, .unset, .unset] [(.long (-1 : Int64))])) rfl (by rw [hml]; rfl) (argsL := [(.long (-1 : Int64))]) (rest := []) (lenOf pd_0 rfl) rfl (by show 2 * 0 + _ ≤ _; exact Nat.le_of_eq rfl) (hb hby at_19) (fun _ _ => ⟨rfl, e6, (by decide : 0 + 0 ≤ _), (by decide : 0 + 0 ≤ _)⟩)
  dsimp only [Pt.U, Pt.locs, Pt.cells, Pt.slots] at X7 l7 y7 z7 st7 hQ7
  subst l7 y7 z7
  obtain ⟨⟨r7, rfl, hr7⟩, N7q, e7⟩ := hQ7
  have N7 := Fr.app N6 N7q
  obtain ⟨_, _, ⟨T8, L8, k8, n8⟩, -, X8, ⟨Lc8, hQ8, l8, y8, z8⟩, st8⟩ := Jvm.LawKit.callS X7 hx (y := (⟨"com/example/stock_gate/stockgate/model/Sale", "isValidStock", "(J)Z"⟩ : MethodName)) hown (mvT hZ (hw _ (List.mem_of_getElem? (i := 0) rfl))) (mvT hZ (hw _ (List.mem_of_getElem? (i := 1) rfl))) (mvT hZ (hw _ (List.mem_of_getElem? (i := 2) rfl))) (mvT hZ (hw _ (List.mem_of_getElem? (i := 3) rfl))) (by decide) (backOf (W := 0) (rm_vs l Z a0 hw [] (2000000001 : Int64) h0 n0 Z0 ) hZ (hw _ (List.mem_of_getElem? (i := 3) rfl)) (hw _ (List.mem_of_getElem? (i := 2) rfl)) (by decide) (by decide)) (g := (mkF m 28 #[.val (.long va), .second, .val (.long vb), .second, .val (.long vc), .second, .unset, .unset, .unset, .unset, .unset, .unset, .unset, .unset] [(.long (2000000001 : Int64))])) rfl (by rw [hml]; rfl) (argsL := [(.long (2000000001 : Int64))]) (rest := []) (lenOf pd_0 rfl) rfl (by show 2 * 0 + _ ≤ _; exact Nat.le_of_eq rfl) (hb hby at_28) (fun _ _ => ⟨rfl, e7, (by decide : 0 + 0 ≤ _), (by decide : 0 + 0 ≤ _)⟩)
  dsimp only [Pt.U, Pt.locs, Pt.cells, Pt.slots] at X8 l8 y8 z8 st8 hQ8
  subst l8 y8 z8
  obtain ⟨⟨r8, rfl, hr8⟩, N8q, e8⟩ := hQ8
  have N8 := Fr.app N7 N8q
  obtain ⟨_, _, ⟨T9, L9, k9, n9⟩, -, X9, ⟨Lc9, hQ9, l9, y9, z9⟩, st9⟩ := Jvm.LawKit.callS X8 hx (y := (⟨"java/lang/Math", "min", "(JJ)J"⟩ : MethodName)) hown (mvT hZ (hw _ (List.mem_of_getElem? (i := 8) rfl))) (mvT hZ (hw _ (List.mem_of_getElem? (i := 9) rfl))) (mvT hZ (hw _ (List.mem_of_getElem? (i := 10) rfl))) (mvT hZ (hw _ (List.mem_of_getElem? (i := 11) rfl))) (by decide) (backOf (W := 0) (rm_min l Z a0 hw [] va vc h0 n0 Z0 ) hZ (hw _ (List.mem_of_getElem? (i := 11) rfl)) (hw _ (List.mem_of_getElem? (i := 10) rfl)) (by decide) (by decide)) (g := (mkF m 44 #[.val (.long va), .second, .val (.long vb), .second, .val (.long vc), .second, .val (.int (1 : Int32)), .unset, .unset, .unset, .unset, .unset, .unset, .unset] [(.long vc), (.long va)])) rfl (by rw [hml]; rfl) (argsL := [(.long va), (.long vc)]) (rest := []) (lenOf pd_1 rfl) rfl (by show 2 * 0 + _ ≤ _; exact Nat.le_of_eq rfl) (hb hby at_44) (fun _ _ => ⟨rfl, e8, (by decide : 0 + 0 ≤ _), (by decide : 0 + 0 ≤ _)⟩)
  dsimp only [Pt.U, Pt.locs, Pt.cells, Pt.slots] at X9 l9 y9 z9 st9 hQ9
  subst l9 y9 z9
  obtain ⟨⟨r9, rfl, hr9⟩, N9q, e9⟩ := hQ9
  have N9 := Fr.app N8 N9q
  obtain ⟨_, _, ⟨T10, L10, k10, n10⟩, -, X10, ⟨Lc10, hQ10, l10, y10, z10⟩, st10⟩ := Jvm.LawKit.callS X9 hx (y := (⟨"java/lang/Math", "max", "(JJ)J"⟩ : MethodName)) hown (mvT hZ (hw _ (List.mem_of_getElem? (i := 12) rfl))) (mvT hZ (hw _ (List.mem_of_getElem? (i := 13) rfl))) (mvT hZ (hw _ (List.mem_of_getElem? (i := 10) rfl))) (mvT hZ (hw _ (List.mem_of_getElem? (i := 14) rfl))) (by decide) (backOf (W := 0) (rm_max l Z a0 hw [] va vc h0 n0 Z0 ) hZ (hw _ (List.mem_of_getElem? (i := 14) rfl)) (hw _ (List.mem_of_getElem? (i := 10) rfl)) (by decide) (by decide)) (g := (mkF m 52 #[.val (.long va), .second, .val (.long vb), .second, .val (.long vc), .second, .val (.int (1 : Int32)), .val (.long r9), .second, .unset, .unset, .unset, .unset, .unset] [(.long vc), (.long va)])) rfl (by rw [hml]; rfl) (argsL := [(.long va), (.long vc)]) (rest := []) (lenOf pd_1 rfl) rfl (by show 2 * 0 + _ ≤ _; exact Nat.le_of_eq rfl) (hb hby at_52) (fun _ _ => ⟨rfl, e9, (by decide : 0 + 0 ≤ _), (by decide : 0 + 0 ≤ _)⟩)
  dsimp only [Pt.U, Pt.locs, Pt.cells, Pt.slots] at X10 l10 y10 z10 st10 hQ10
  subst l10 y10 z10
  obtain ⟨⟨r10, rfl, hr10⟩, N10q, e10⟩ := hQ10
  have N10 := Fr.app N9 N10q
  obtain ⟨_, _, ⟨T11, L11, k11, n11⟩, -, X11, ⟨Lc11, hQ11, l11, y11, z11⟩, st11⟩ := Jvm.LawKit.callS X10 hx (y := (⟨"java/lang/Math", "min", "(JJ)J"⟩ : MethodName)) hown (mvT hZ (hw _ (List.mem_of_getElem? (i := 8) rfl))) (mvT hZ (hw _ (List.mem_of_getElem? (i := 9) rfl))) (mvT hZ (hw _ (List.mem_of_getElem? (i := 10) rfl))) (mvT hZ (hw _ (List.mem_of_getElem? (i := 11) rfl))) (by decide) (backOf (W := 2) (rm_min l Z a0 hw [] r10 vb h0 n0 Z0 ) hZ (hw _ (List.mem_of_getElem? (i := 11) rfl)) (hw _ (List.mem_of_getElem? (i := 10) rfl)) (by decide) (by decide)) (g := (mkF m 62 #[.val (.long va), .second, .val (.long vb), .second, .val (.long vc), .second, .val (.int (1 : Int32)), .val (.long r9), .second, .val (.long r10), .second, .unset, .unset, .unset] [(.long vb), (.long r10), (.long r9)])) rfl (by rw [hml]; rfl) (argsL := [(.long r10), (.long vb)]) (rest := [(.long r9)]) (lenOf pd_1 rfl) rfl (by show 2 * 0 + _ ≤ _; exact Nat.le_of_eq rfl) (hb hby at_62) (fun _ _ => ⟨rfl, e10, (by decide : 0 + 0 ≤ _), (by decide : 0 + 0 ≤ _)⟩)
  dsimp only [Pt.U, Pt.locs, Pt.cells, Pt.slots] at X11 l11 y11 z11 st11 hQ11
  subst l11 y11 z11
  obtain ⟨⟨r11, rfl, hr11⟩, N11q, e11⟩ := hQ11
  have N11 := Fr.app N10 N11q
  obtain ⟨_, _, ⟨T12, L12, k12, n12⟩, -, X12, ⟨Lc12, hQ12, l12, y12, z12⟩, st12⟩ := Jvm.LawKit.callS X11 hx (y := (⟨"java/lang/Math", "max", "(JJ)J"⟩ : MethodName)) hown (mvT hZ (hw _ (List.mem_of_getElem? (i := 12) rfl))) (mvT hZ (hw _ (List.mem_of_getElem? (i := 13) rfl))) (mvT hZ (hw _ (List.mem_of_getElem? (i := 10) rfl))) (mvT hZ (hw _ (List.mem_of_getElem? (i := 14) rfl))) (by decide) (backOf (W := 0) (rm_max l Z a0 hw [] r9 r11 h0 n0 Z0 ) hZ (hw _ (List.mem_of_getElem? (i := 14) rfl)) (hw _ (List.mem_of_getElem? (i := 10) rfl)) (by decide) (by decide)) (g := (mkF m 65 #[.val (.long va), .second, .val (.long vb), .second, .val (.long vc), .second, .val (.int (1 : Int32)), .val (.long r9), .second, .val (.long r10), .second, .unset, .unset, .unset] [(.long r11), (.long r9)])) rfl (by rw [hml]; rfl) (argsL := [(.long r9), (.long r11)]) (rest := []) (lenOf pd_1 rfl) rfl (by show 2 * 0 + _ ≤ _; exact Nat.le_of_eq rfl) (hb hby at_65) (fun _ _ => ⟨rfl, e11, (by decide : 0 + 0 ≤ _), (by decide : 0 + 0 ≤ _)⟩)
  dsimp only [Pt.U, Pt.locs, Pt.cells, Pt.slots] at X12 l12 y12 z12 st12 hQ12
  subst l12 y12 z12
  obtain ⟨⟨r12, rfl, hr12⟩, N12q, e12⟩ := hQ12
  have N12 := Fr.app N11 N12q
  obtain ⟨_, _, ⟨T13, L13, k13, n13⟩, -, X13, ⟨Lc13, hQ13, l13, y13, z13⟩, st13⟩ := Jvm.LawKit.callS X12 hx (y := (⟨"com/example/stock_gate/stockgate/model/Sale", "isValidStock", "(J)Z"⟩ : MethodName)) hown (mvT hZ (hw _ (List.mem_of_getElem? (i := 0) rfl))) (mvT hZ (hw _ (List.mem_of_getElem? (i := 1) rfl))) (mvT hZ (hw _ (List.mem_of_getElem? (i := 2) rfl))) (mvT hZ (hw _ (List.mem_of_getElem? (i := 3) rfl))) (by decide) (backOf (W := 0) (rm_vs l Z a0 hw [] r9 h0 n0 Z0 ) hZ (hw _ (List.mem_of_getElem? (i := 3) rfl)) (hw _ (List.mem_of_getElem? (i := 2) rfl)) (by decide) (by decide)) (g := (mkF m 72 #[.val (.long va), .second, .val (.long vb), .second, .val (.long vc), .second, .val (.int (1 : Int32)), .val (.long r9), .second, .val (.long r10), .second, .val (.long r12), .second, .unset] [(.long r9)])) rfl (by rw [hml]; rfl) (argsL := [(.long r9)]) (rest := []) (lenOf pd_0 rfl) rfl (by show 2 * 0 + _ ≤ _; exact Nat.le_of_eq rfl) (hb hby at_72) (fun _ _ => ⟨rfl, e12, (by decide : 0 + 0 ≤ _), (by decide : 0 + 0 ≤ _)⟩)
  dsimp only [Pt.U, Pt.locs, Pt.cells, Pt.slots] at X13 l13 y13 z13 st13 hQ13
  subst l13 y13 z13
  obtain ⟨⟨r13, rfl, hr13⟩, N13q, e13⟩ := hQ13
  have N13 := Fr.app N12 N13q
  by_cases h75_14 : r13 = (0 : Int32)
  · obtain ⟨fs, hr, hrun, hended, hW, hsame⟩ := X13.leave (v := some (.int (1 : Int32))) (fun h => by rw [Bd.returns] at h; cases h)
    refine ⟨_, _, pre0 _ ?_, hrun, hended, _, _, rfl, ?_, ⟨_, rfl⟩, hW, hsame.mono (by decide) (by decide)⟩
    · show Steps p.tables e below (s₁.setTop (mkF m 0 #[.val (.long va), .second, .val (.long vb), .second, .val (.long vc), .second, .unset, .unset, .unset, .unset, .unset, .unset, .unset, .unset] [])) _
      refine XS.lconst X0.here hx rfl (hb hby at_0) ?_
      show Steps p.tables e below (s₁.setTop (mkF m 1 #[.val (.long va), .second, .val (.long vb), .second, .val (.long vc), .second, .unset, .unset, .unset, .unset, .unset, .unset, .unset, .unset] [(.long (0 : Int64))])) _
      refine st5 _ ?_
      show Steps p.tables e below (T5.setTop (mkF m 4 #[.val (.long va), .second, .val (.long vb), .second, .val (.long vc), .second, .unset, .unset, .unset, .unset, .unset, .unset, .unset, .unset] [(.int r5)])) _
      refine XS.ifNo X5.here hx rfl (hb hby at_4) rfl ((if0 _ _).trans (feq (by rw [hr5]; decide : ¬ (r5 = (0 : Int32)))).1) ?_
      show Steps p.tables e below (T5.setTop (mkF m 7 #[.val (.long va), .second, .val (.long vb), .second, .val (.long vc), .second, .unset, .unset, .unset, .unset, .unset, .unset, .unset, .unset] [])) _
      refine X5.ldc2Long hx hown (mvT hZ (hw _ (List.mem_of_getElem? (i := 5) rfl))) (g := (mkF m 7 #[.val (.long va), .second, .val (.long vb), .second, .val (.long vc), .second, .unset, .unset, .unset, .unset, .unset, .unset, .unset, .unset] [])) rfl (hb hby at_7) _ ?_
      show Steps p.tables e below (T5.setTop (mkF m 10 #[.val (.long va), .second, .val (.long vb), .second, .val (.long vc), .second, .unset, .unset, .unset, .unset, .unset, .unset, .unset, .unset] [(.long (2000000000 : Int64))])) _
      refine st6 _ ?_
      show Steps p.tables e below (T6.setTop (mkF m 13 #[.val (.long va), .second, .val (.long vb), .second, .val (.long vc), .second, .unset, .unset, .unset, .unset, .unset, .unset, .unset, .unset] [(.int r6)])) _
      refine XS.ifNo X6.here hx rfl (hb hby at_13) rfl ((if0 _ _).trans (feq (by rw [hr6]; decide : ¬ (r6 = (0 : Int32)))).1) ?_
      show Steps p.tables e below (T6.setTop (mkF m 16 #[.val (.long va), .second, .val (.long vb), .second, .val (.long vc), .second, .unset, .unset, .unset, .unset, .unset, .unset, .unset, .unset] [])) _
      refine X6.ldc2Long hx hown (mvT hZ (hw _ (List.mem_of_getElem? (i := 6) rfl))) (g := (mkF m 16 #[.val (.long va), .second, .val (.long vb), .second, .val (.long vc), .second, .unset, .unset, .unset, .unset, .unset, .unset, .unset, .unset] [])) rfl (hb hby at_16) _ ?_
      show Steps p.tables e below (T6.setTop (mkF m 19 #[.val (.long va), .second, .val (.long vb), .second, .val (.long vc), .second, .unset, .unset, .unset, .unset, .unset, .unset, .unset, .unset] [(.long (-1 : Int64))])) _
      refine st7 _ ?_
      show Steps p.tables e below (T7.setTop (mkF m 22 #[.val (.long va), .second, .val (.long vb), .second, .val (.long vc), .second, .unset, .unset, .unset, .unset, .unset, .unset, .unset, .unset] [(.int r7)])) _
      refine XS.ifNo X7.here hx rfl (hb hby at_22) rfl ((if0 _ _).trans (teq (by rw [hr7]; decide : r7 = (0 : Int32))).2) ?_
      show Steps p.tables e below (T7.setTop (mkF m 25 #[.val (.long va), .second, .val (.long vb), .second, .val (.long vc), .second, .unset, .unset, .unset, .unset, .unset, .unset, .unset, .unset] [])) _
      refine X7.ldc2Long hx hown (mvT hZ (hw _ (List.mem_of_getElem? (i := 7) rfl))) (g := (mkF m 25 #[.val (.long va), .second, .val (.long vb), .second, .val (.long vc), .second, .unset, .unset, .unset, .unset, .unset, .unset, .unset, .unset] [])) rfl (hb hby at_25) _ ?_
      show Steps p.tables e below (T7.setTop (mkF m 28 #[.val (.long va), .second, .val (.long vb), .second, .val (.long vc), .second, .unset, .unset, .unset, .unset, .unset, .unset, .unset, .unset] [(.long (2000000001 : Int64))])) _
      refine st8 _ ?_
      show Steps p.tables e below (T8.setTop (mkF m 31 #[.val (.long va), .second, .val (.long vb), .second, .val (.long vc), .second, .unset, .unset, .unset, .unset, .unset, .unset, .unset, .unset] [(.int r8)])) _
      refine XS.ifNo X8.here hx rfl (hb hby at_31) rfl ((if0 _ _).trans (teq (by rw [hr8]; decide : r8 = (0 : Int32))).2) ?_
      show Steps p.tables e below (T8.setTop (mkF m 34 #[.val (.long va), .second, .val (.long vb), .second, .val (.long vc), .second, .unset, .unset, .unset, .unset, .unset, .unset, .unset, .unset] [])) _
      refine XS.iconst X8.here hx rfl (hb hby at_34) ?_
      show Steps p.tables e below (T8.setTop (mkF m 35 #[.val (.long va), .second, .val (.long vb), .second, .val (.long vc), .second, .unset, .unset, .unset, .unset, .unset, .unset, .unset, .unset] [(.int (1 : Int32))])) _
      refine XS.goto X8.here hx rfl (pc0 := 35) (pc' := 39) rfl (hb hby at_35) (by decide) (by decide) ?_
      show Steps p.tables e below (T8.setTop (mkF m 39 #[.val (.long va), .second, .val (.long vb), .second, .val (.long vc), .second, .unset, .unset, .unset, .unset, .unset, .unset, .unset, .unset] [(.int (1 : Int32))])) _
      refine XS.istore X8.here hx rfl (hb hby at_39) rfl (l' := #[.val (.long va), .second, .val (.long vb), .second, .val (.long vc), .second, .val (.int (1 : Int32)), .unset, .unset, .unset, .unset, .unset, .unset, .unset]) rfl ?_
      show Steps p.tables e below (T8.setTop (mkF m 41 #[.val (.long va), .second, .val (.long vb), .second, .val (.long vc), .second, .val (.int (1 : Int32)), .unset, .unset, .unset, .unset, .unset, .unset, .unset] [])) _
      refine XS.lloadN X8.here hx rfl (hb hby at_41) rfl ?_
      show Steps p.tables e below (T8.setTop (mkF m 42 #[.val (.long va), .second, .val (.long vb), .second, .val (.long vc), .second, .val (.int (1 : Int32)), .unset, .unset, .unset, .unset, .unset, .unset, .unset] [(.long va)])) _
      refine XS.lload X8.here hx rfl (hb hby at_42) rfl ?_
      show Steps p.tables e below (T8.setTop (mkF m 44 #[.val (.long va), .second, .val (.long vb), .second, .val (.long vc), .second, .val (.int (1 : Int32)), .unset, .unset, .unset, .unset, .unset, .unset, .unset] [(.long vc), (.long va)])) _
      refine st9 _ ?_
      show Steps p.tables e below (T9.setTop (mkF m 47 #[.val (.long va), .second, .val (.long vb), .second, .val (.long vc), .second, .val (.int (1 : Int32)), .unset, .unset, .unset, .unset, .unset, .unset, .unset] [(.long r9)])) _
      refine XS.lstore X9.here hx rfl (hb hby at_47) rfl (l' := #[.val (.long va), .second, .val (.long vb), .second, .val (.long vc), .second, .val (.int (1 : Int32)), .val (.long r9), .second, .unset, .unset, .unset, .unset, .unset]) rfl ?_
      show Steps p.tables e below (T9.setTop (mkF m 49 #[.val (.long va), .second, .val (.long vb), .second, .val (.long vc), .second, .val (.int (1 : Int32)), .val (.long r9), .second, .unset, .unset, .unset, .unset, .unset] [])) _
      refine XS.lloadN X9.here hx rfl (hb hby at_49) rfl ?_
      show Steps p.tables e below (T9.setTop (mkF m 50 #[.val (.long va), .second, .val (.long vb), .second, .val (.long vc), .second, .val (.int (1 : Int32)), .val (.long r9), .second, .unset, .unset, .unset, .unset, .unset] [(.long va)])) _
      refine XS.lload X9.here hx rfl (hb hby at_50) rfl ?_
      show Steps p.tables e below (T9.setTop (mkF m 52 #[.val (.long va), .second, .val (.long vb), .second, .val (.long vc), .second, .val (.int (1 : Int32)), .val (.long r9), .second, .unset, .unset, .unset, .unset, .unset] [(.long vc), (.long va)])) _
      refine st10 _ ?_
      show Steps p.tables e below (T10.setTop (mkF m 55 #[.val (.long va), .second, .val (.long vb), .second, .val (.long vc), .second, .val (.int (1 : Int32)), .val (.long r9), .second, .unset, .unset, .unset, .unset, .unset] [(.long r10)])) _
      refine XS.lstore X10.here hx rfl (hb hby at_55) rfl (l' := #[.val (.long va), .second, .val (.long vb), .second, .val (.long vc), .second, .val (.int (1 : Int32)), .val (.long r9), .second, .val (.long r10), .second, .unset, .unset, .unset]) rfl ?_
      show Steps p.tables e below (T10.setTop (mkF m 57 #[.val (.long va), .second, .val (.long vb), .second, .val (.long vc), .second, .val (.int (1 : Int32)), .val (.long r9), .second, .val (.long r10), .second, .unset, .unset, .unset] [])) _
      refine XS.lload X10.here hx rfl (hb hby at_57) rfl ?_
      show Steps p.tables e below (T10.setTop (mkF m 59 #[.val (.long va), .second, .val (.long vb), .second, .val (.long vc), .second, .val (.int (1 : Int32)), .val (.long r9), .second, .val (.long r10), .second, .unset, .unset, .unset] [(.long r9)])) _
      refine XS.lload X10.here hx rfl (hb hby at_59) rfl ?_
      show Steps p.tables e below (T10.setTop (mkF m 61 #[.val (.long va), .second, .val (.long vb), .second, .val (.long vc), .second, .val (.int (1 : Int32)), .val (.long r9), .second, .val (.long r10), .second, .unset, .unset, .unset] [(.long r10), (.long r9)])) _
      refine XS.lloadN X10.here hx rfl (hb hby at_61) rfl ?_
      show Steps p.tables e below (T10.setTop (mkF m 62 #[.val (.long va), .second, .val (.long vb), .second, .val (.long vc), .second, .val (.int (1 : Int32)), .val (.long r9), .second, .val (.long r10), .second, .unset, .unset, .unset] [(.long vb), (.long r10), (.long r9)])) _
      refine st11 _ ?_
      show Steps p.tables e below (T11.setTop (mkF m 65 #[.val (.long va), .second, .val (.long vb), .second, .val (.long vc), .second, .val (.int (1 : Int32)), .val (.long r9), .second, .val (.long r10), .second, .unset, .unset, .unset] [(.long r11), (.long r9)])) _
      refine st12 _ ?_
      show Steps p.tables e below (T12.setTop (mkF m 68 #[.val (.long va), .second, .val (.long vb), .second, .val (.long vc), .second, .val (.int (1 : Int32)), .val (.long r9), .second, .val (.long r10), .second, .unset, .unset, .unset] [(.long r12)])) _
      refine XS.lstore X12.here hx rfl (hb hby at_68) rfl (l' := #[.val (.long va), .second, .val (.long vb), .second, .val (.long vc), .second, .val (.int (1 : Int32)), .val (.long r9), .second, .val (.long r10), .second, .val (.long r12), .second, .unset]) rfl ?_
      show Steps p.tables e below (T12.setTop (mkF m 70 #[.val (.long va), .second, .val (.long vb), .second, .val (.long vc), .second, .val (.int (1 : Int32)), .val (.long r9), .second, .val (.long r10), .second, .val (.long r12), .second, .unset] [])) _
      refine XS.lload X12.here hx rfl (hb hby at_70) rfl ?_
      show Steps p.tables e below (T12.setTop (mkF m 72 #[.val (.long va), .second, .val (.long vb), .second, .val (.long vc), .second, .val (.int (1 : Int32)), .val (.long r9), .second, .val (.long r10), .second, .val (.long r12), .second, .unset] [(.long r9)])) _
      refine st13 _ ?_
      show Steps p.tables e below (T13.setTop (mkF m 75 #[.val (.long va), .second, .val (.long vb), .second, .val (.long vc), .second, .val (.int (1 : Int32)), .val (.long r9), .second, .val (.long r10), .second, .val (.long r12), .second, .unset] [(.int r13)])) _
      refine XS.ifYes X13.here hx rfl (pc0 := 75) (pc' := 94) rfl (hb hby at_75) rfl ((if0 _ _).trans (teq h75_14).1) (by decide) (by decide) ?_
      show Steps p.tables e below (T13.setTop (mkF m 94 #[.val (.long va), .second, .val (.long vb), .second, .val (.long vc), .second, .val (.int (1 : Int32)), .val (.long r9), .second, .val (.long r10), .second, .val (.long r12), .second, .unset] [])) _
      refine XS.iconst X13.here hx rfl (hb hby at_94) ?_
      show Steps p.tables e below (T13.setTop (mkF m 95 #[.val (.long va), .second, .val (.long vb), .second, .val (.long vc), .second, .val (.int (1 : Int32)), .val (.long r9), .second, .val (.long r10), .second, .val (.long r12), .second, .unset] [(.int (1 : Int32))])) _
      refine XS.goto X13.here hx rfl (pc0 := 95) (pc' := 99) rfl (hb hby at_95) (by decide) (by decide) ?_
      show Steps p.tables e below (T13.setTop (mkF m 99 #[.val (.long va), .second, .val (.long vb), .second, .val (.long vc), .second, .val (.int (1 : Int32)), .val (.long r9), .second, .val (.long r10), .second, .val (.long r12), .second, .unset] [(.int (1 : Int32))])) _
      refine XS.istore X13.here hx rfl (hb hby at_99) rfl (l' := #[.val (.long va), .second, .val (.long vb), .second, .val (.long vc), .second, .val (.int (1 : Int32)), .val (.long r9), .second, .val (.long r10), .second, .val (.long r12), .second, .val (.int (1 : Int32))]) rfl ?_
      show Steps p.tables e below (T13.setTop (mkF m 101 #[.val (.long va), .second, .val (.long vb), .second, .val (.long vc), .second, .val (.int (1 : Int32)), .val (.long r9), .second, .val (.long r10), .second, .val (.long r12), .second, .val (.int (1 : Int32))] [])) _
      refine XS.iload X13.here hx rfl (hb hby at_101) rfl ?_
      show Steps p.tables e below (T13.setTop (mkF m 103 #[.val (.long va), .second, .val (.long vb), .second, .val (.long vc), .second, .val (.int (1 : Int32)), .val (.long r9), .second, .val (.long r10), .second, .val (.long r12), .second, .val (.int (1 : Int32))] [(.int (1 : Int32))])) _
      refine XS.ifNo X13.here hx rfl (hb hby at_103) rfl ((if0 _ _).trans (feq (by decide : ¬ ((1 : Int32) = (0 : Int32)))).1) ?_
      show Steps p.tables e below (T13.setTop (mkF m 106 #[.val (.long va), .second, .val (.long vb), .second, .val (.long vc), .second, .val (.int (1 : Int32)), .val (.long r9), .second, .val (.long r10), .second, .val (.long r12), .second, .val (.int (1 : Int32))] [])) _
      refine XS.iload X13.here hx rfl (hb hby at_106) rfl ?_
      show Steps p.tables e below (T13.setTop (mkF m 108 #[.val (.long va), .second, .val (.long vb), .second, .val (.long vc), .second, .val (.int (1 : Int32)), .val (.long r9), .second, .val (.long r10), .second, .val (.long r12), .second, .val (.int (1 : Int32))] [(.int (1 : Int32))])) _
      refine XS.ifNo X13.here hx rfl (hb hby at_108) rfl ((if0 _ _).trans (feq (by decide : ¬ ((1 : Int32) = (0 : Int32)))).1) ?_
      show Steps p.tables e below (T13.setTop (mkF m 111 #[.val (.long va), .second, .val (.long vb), .second, .val (.long vc), .second, .val (.int (1 : Int32)), .val (.long r9), .second, .val (.long r10), .second, .val (.long r12), .second, .val (.int (1 : Int32))] [])) _
      refine XS.iconst X13.here hx rfl (hb hby at_111) ?_
      show Steps p.tables e below (T13.setTop (mkF m 112 #[.val (.long va), .second, .val (.long vb), .second, .val (.long vc), .second, .val (.int (1 : Int32)), .val (.long r9), .second, .val (.long r10), .second, .val (.long r12), .second, .val (.int (1 : Int32))] [(.int (1 : Int32))])) _
      refine XS.goto X13.here hx rfl (pc0 := 112) (pc' := 116) rfl (hb hby at_112) (by decide) (by decide) ?_
      show Steps p.tables e below (T13.setTop (mkF m 116 #[.val (.long va), .second, .val (.long vb), .second, .val (.long vc), .second, .val (.int (1 : Int32)), .val (.long r9), .second, .val (.long r10), .second, .val (.long r12), .second, .val (.int (1 : Int32))] [(.int (1 : Int32))])) _
      exact retN X13 hx (t := .boolean) Bd.returns (by simp) (hb hby at_116) hr
    · show Q_law Z va vb vc h0 n0 _ T13.heap _
      rw [e13]
      exact ⟨rfl, N13⟩
  · obtain ⟨_, _, ⟨T15, L15, k15, n15⟩, -, X15, ⟨Lc15, hQ15, l15, y15, z15⟩, st15⟩ := Jvm.LawKit.callS X13 hx (y := (⟨"com/example/stock_gate/stockgate/model/Sale", "isValidStock", "(J)Z"⟩ : MethodName)) hown (mvT hZ (hw _ (List.mem_of_getElem? (i := 0) rfl))) (mvT hZ (hw _ (List.mem_of_getElem? (i := 1) rfl))) (mvT hZ (hw _ (List.mem_of_getElem? (i := 2) rfl))) (mvT hZ (hw _ (List.mem_of_getElem? (i := 3) rfl))) (by decide) (backOf (W := 0) (rm_vs l Z a0 hw [] r10 h0 n0 Z0 ) hZ (hw _ (List.mem_of_getElem? (i := 3) rfl)) (hw _ (List.mem_of_getElem? (i := 2) rfl)) (by decide) (by decide)) (g := (mkF m 80 #[.val (.long va), .second, .val (.long vb), .second, .val (.long vc), .second, .val (.int (1 : Int32)), .val (.long r9), .second, .val (.long r10), .second, .val (.long r12), .second, .unset] [(.long r10)])) rfl (by rw [hml]; rfl) (argsL := [(.long r10)]) (rest := []) (lenOf pd_0 rfl) rfl (by show 2 * 0 + _ ≤ _; exact Nat.le_of_eq rfl) (hb hby at_80) (fun _ _ => ⟨rfl, e13, (by decide : 0 + 0 ≤ _), (by decide : 0 + 0 ≤ _)⟩)
    dsimp only [Pt.U, Pt.locs, Pt.cells, Pt.slots] at X15 l15 y15 z15 st15 hQ15
    subst l15 y15 z15
    obtain ⟨⟨r15, rfl, hr15⟩, N15q, e15⟩ := hQ15
    have N15 := Fr.app N13 N15q
    by_cases h83_16 : r15 = (0 : Int32)
    · obtain ⟨fs, hr, hrun, hended, hW, hsame⟩ := X15.leave (v := some (.int (1 : Int32))) (fun h => by rw [Bd.returns] at h; cases h)
      refine ⟨_, _, pre0 _ ?_, hrun, hended, _, _, rfl, ?_, ⟨_, rfl⟩, hW, hsame.mono (by decide) (by decide)⟩
      · show Steps p.tables e below (s₁.setTop (mkF m 0 #[.val (.long va), .second, .val (.long vb), .second, .val (.long vc), .second, .unset, .unset, .unset, .unset, .unset, .unset, .unset, .unset] [])) _
        refine XS.lconst X0.here hx rfl (hb hby at_0) ?_
        show Steps p.tables e below (s₁.setTop (mkF m 1 #[.val (.long va), .second, .val (.long vb), .second, .val (.long vc), .second, .unset, .unset, .unset, .unset, .unset, .unset, .unset, .unset] [(.long (0 : Int64))])) _
        refine st5 _ ?_
        show Steps p.tables e below (T5.setTop (mkF m 4 #[.val (.long va), .second, .val (.long vb), .second, .val (.long vc), .second, .unset, .unset, .unset, .unset, .unset, .unset, .unset, .unset] [(.int r5)])) _
        refine XS.ifNo X5.here hx rfl (hb hby at_4) rfl ((if0 _ _).trans (feq (by rw [hr5]; decide : ¬ (r5 = (0 : Int32)))).1) ?_
        show Steps p.tables e below (T5.setTop (mkF m 7 #[.val (.long va), .second, .val (.long vb), .second, .val (.long vc), .second, .unset, .unset, .unset, .unset, .unset, .unset, .unset, .unset] [])) _
        refine X5.ldc2Long hx hown (mvT hZ (hw _ (List.mem_of_getElem? (i := 5) rfl))) (g := (mkF m 7 #[.val (.long va), .second, .val (.long vb), .second, .val (.long vc), .second, .unset, .unset, .unset, .unset, .unset, .unset, .unset, .unset] [])) rfl (hb hby at_7) _ ?_
        show Steps p.tables e below (T5.setTop (mkF m 10 #[.val (.long va), .second, .val (.long vb), .second, .val (.long vc), .second, .unset, .unset, .unset, .unset, .unset, .unset, .unset, .unset] [(.long (2000000000 : Int64))])) _
        refine st6 _ ?_
        show Steps p.tables e below (T6.setTop (mkF m 13 #[.val (.long va), .second, .val (.long vb), .second, .val (.long vc), .second, .unset, .unset, .unset, .unset, .unset, .unset, .unset, .unset] [(.int r6)])) _
        refine XS.ifNo X6.here hx rfl (hb hby at_13) rfl ((if0 _ _).trans (feq (by rw [hr6]; decide : ¬ (r6 = (0 : Int32)))).1) ?_
        show Steps p.tables e below (T6.setTop (mkF m 16 #[.val (.long va), .second, .val (.long vb), .second, .val (.long vc), .second, .unset, .unset, .unset, .unset, .unset, .unset, .unset, .unset] [])) _
        refine X6.ldc2Long hx hown (mvT hZ (hw _ (List.mem_of_getElem? (i := 6) rfl))) (g := (mkF m 16 #[.val (.long va), .second, .val (.long vb), .second, .val (.long vc), .second, .unset, .unset, .unset, .unset, .unset, .unset, .unset, .unset] [])) rfl (hb hby at_16) _ ?_
        show Steps p.tables e below (T6.setTop (mkF m 19 #[.val (.long va), .second, .val (.long vb), .second, .val (.long vc), .second, .unset, .unset, .unset, .unset, .unset, .unset, .unset, .unset] [(.long (-1 : Int64))])) _
        refine st7 _ ?_
        show Steps p.tables e below (T7.setTop (mkF m 22 #[.val (.long va), .second, .val (.long vb), .second, .val (.long vc), .second, .unset, .unset, .unset, .unset, .unset, .unset, .unset, .unset] [(.int r7)])) _
        refine XS.ifNo X7.here hx rfl (hb hby at_22) rfl ((if0 _ _).trans (teq (by rw [hr7]; decide : r7 = (0 : Int32))).2) ?_
        show Steps p.tables e below (T7.setTop (mkF m 25 #[.val (.long va), .second, .val (.long vb), .second, .val (.long vc), .second, .unset, .unset, .unset, .unset, .unset, .unset, .unset, .unset] [])) _
        refine X7.ldc2Long hx hown (mvT hZ (hw _ (List.mem_of_getElem? (i := 7) rfl))) (g := (mkF m 25 #[.val (.long va), .second, .val (.long vb), .second, .val (.long vc), .second, .unset, .unset, .unset, .unset, .unset, .unset, .unset, .unset] [])) rfl (hb hby at_25) _ ?_
        show Steps p.tables e below (T7.setTop (mkF m 28 #[.val (.long va), .second, .val (.long vb), .second, .val (.long vc), .second, .unset, .unset, .unset, .unset, .unset, .unset, .unset, .unset] [(.long (2000000001 : Int64))])) _
        refine st8 _ ?_
        show Steps p.tables e below (T8.setTop (mkF m 31 #[.val (.long va), .second, .val (.long vb), .second, .val (.long vc), .second, .unset, .unset, .unset, .unset, .unset, .unset, .unset, .unset] [(.int r8)])) _
        refine XS.ifNo X8.here hx rfl (hb hby at_31) rfl ((if0 _ _).trans (teq (by rw [hr8]; decide : r8 = (0 : Int32))).2) ?_
        show Steps p.tables e below (T8.setTop (mkF m 34 #[.val (.long va), .second, .val (.long vb), .second, .val (.long vc), .second, .unset, .unset, .unset, .unset, .unset, .unset, .unset, .unset] [])) _
        refine XS.iconst X8.here hx rfl (hb hby at_34) ?_
        show Steps p.tables e below (T8.setTop (mkF m 35 #[.val (.long va), .second, .val (.long vb), .second, .val (.long vc), .second, .unset, .unset, .unset, .unset, .unset, .unset, .unset, .unset] [(.int (1 : Int32))])) _
        refine XS.goto X8.here hx rfl (pc0 := 35) (pc' := 39) rfl (hb hby at_35) (by decide) (by decide) ?_
        show Steps p.tables e below (T8.setTop (mkF m 39 #[.val (.long va), .second, .val (.long vb), .second, .val (.long vc), .second, .unset, .unset, .unset, .unset, .unset, .unset, .unset, .unset] [(.int (1 : Int32))])) _
        refine XS.istore X8.here hx rfl (hb hby at_39) rfl (l' := #[.val (.long va), .second, .val (.long vb), .second, .val (.long vc), .second, .val (.int (1 : Int32)), .unset, .unset, .unset, .unset, .unset, .unset, .unset]) rfl ?_
        show Steps p.tables e below (T8.setTop (mkF m 41 #[.val (.long va), .second, .val (.long vb), .second, .val (.long vc), .second, .val (.int (1 : Int32)), .unset, .unset, .unset, .unset, .unset, .unset, .unset] [])) _
        refine XS.lloadN X8.here hx rfl (hb hby at_41) rfl ?_
        show Steps p.tables e below (T8.setTop (mkF m 42 #[.val (.long va), .second, .val (.long vb), .second, .val (.long vc), .second, .val (.int (1 : Int32)), .unset, .unset, .unset, .unset, .unset, .unset, .unset] [(.long va)])) _
        refine XS.lload X8.here hx rfl (hb hby at_42) rfl ?_
        show Steps p.tables e below (T8.setTop (mkF m 44 #[.val (.long va), .second, .val (.long vb), .second, .val (.long vc), .second, .val (.int (1 : Int32)), .unset, .unset, .unset, .unset, .unset, .unset, .unset] [(.long vc), (.long va)])) _
        refine st9 _ ?_
        show Steps p.tables e below (T9.setTop (mkF m 47 #[.val (.long va), .second, .val (.long vb), .second, .val (.long vc), .second, .val (.int (1 : Int32)), .unset, .unset, .unset, .unset, .unset, .unset, .unset] [(.long r9)])) _
        refine XS.lstore X9.here hx rfl (hb hby at_47) rfl (l' := #[.val (.long va), .second, .val (.long vb), .second, .val (.long vc), .second, .val (.int (1 : Int32)), .val (.long r9), .second, .unset, .unset, .unset, .unset, .unset]) rfl ?_
        show Steps p.tables e below (T9.setTop (mkF m 49 #[.val (.long va), .second, .val (.long vb), .second, .val (.long vc), .second, .val (.int (1 : Int32)), .val (.long r9), .second, .unset, .unset, .unset, .unset, .unset] [])) _
        refine XS.lloadN X9.here hx rfl (hb hby at_49) rfl ?_
        show Steps p.tables e below (T9.setTop (mkF m 50 #[.val (.long va), .second, .val (.long vb), .second, .val (.long vc), .second, .val (.int (1 : Int32)), .val (.long r9), .second, .unset, .unset, .unset, .unset, .unset] [(.long va)])) _
        refine XS.lload X9.here hx rfl (hb hby at_50) rfl ?_
        show Steps p.tables e below (T9.setTop (mkF m 52 #[.val (.long va), .second, .val (.long vb), .second, .val (.long vc), .second, .val (.int (1 : Int32)), .val (.long r9), .second, .unset, .unset, .unset, .unset, .unset] [(.long vc), (.long va)])) _
        refine st10 _ ?_
        show Steps p.tables e below (T10.setTop (mkF m 55 #[.val (.long va), .second, .val (.long vb), .second, .val (.long vc), .second, .val (.int (1 : Int32)), .val (.long r9), .second, .unset, .unset, .unset, .unset, .unset] [(.long r10)])) _
        refine XS.lstore X10.here hx rfl (hb hby at_55) rfl (l' := #[.val (.long va), .second, .val (.long vb), .second, .val (.long vc), .second, .val (.int (1 : Int32)), .val (.long r9), .second, .val (.long r10), .second, .unset, .unset, .unset]) rfl ?_
        show Steps p.tables e below (T10.setTop (mkF m 57 #[.val (.long va), .second, .val (.long vb), .second, .val (.long vc), .second, .val (.int (1 : Int32)), .val (.long r9), .second, .val (.long r10), .second, .unset, .unset, .unset] [])) _
        refine XS.lload X10.here hx rfl (hb hby at_57) rfl ?_
        show Steps p.tables e below (T10.setTop (mkF m 59 #[.val (.long va), .second, .val (.long vb), .second, .val (.long vc), .second, .val (.int (1 : Int32)), .val (.long r9), .second, .val (.long r10), .second, .unset, .unset, .unset] [(.long r9)])) _
        refine XS.lload X10.here hx rfl (hb hby at_59) rfl ?_
        show Steps p.tables e below (T10.setTop (mkF m 61 #[.val (.long va), .second, .val (.long vb), .second, .val (.long vc), .second, .val (.int (1 : Int32)), .val (.long r9), .second, .val (.long r10), .second, .unset, .unset, .unset] [(.long r10), (.long r9)])) _
        refine XS.lloadN X10.here hx rfl (hb hby at_61) rfl ?_
        show Steps p.tables e below (T10.setTop (mkF m 62 #[.val (.long va), .second, .val (.long vb), .second, .val (.long vc), .second, .val (.int (1 : Int32)), .val (.long r9), .second, .val (.long r10), .second, .unset, .unset, .unset] [(.long vb), (.long r10), (.long r9)])) _
        refine st11 _ ?_
        show Steps p.tables e below (T11.setTop (mkF m 65 #[.val (.long va), .second, .val (.long vb), .second, .val (.long vc), .second, .val (.int (1 : Int32)), .val (.long r9), .second, .val (.long r10), .second, .unset, .unset, .unset] [(.long r11), (.long r9)])) _
        refine st12 _ ?_
        show Steps p.tables e below (T12.setTop (mkF m 68 #[.val (.long va), .second, .val (.long vb), .second, .val (.long vc), .second, .val (.int (1 : Int32)), .val (.long r9), .second, .val (.long r10), .second, .unset, .unset, .unset] [(.long r12)])) _
        refine XS.lstore X12.here hx rfl (hb hby at_68) rfl (l' := #[.val (.long va), .second, .val (.long vb), .second, .val (.long vc), .second, .val (.int (1 : Int32)), .val (.long r9), .second, .val (.long r10), .second, .val (.long r12), .second, .unset]) rfl ?_
        show Steps p.tables e below (T12.setTop (mkF m 70 #[.val (.long va), .second, .val (.long vb), .second, .val (.long vc), .second, .val (.int (1 : Int32)), .val (.long r9), .second, .val (.long r10), .second, .val (.long r12), .second, .unset] [])) _
        refine XS.lload X12.here hx rfl (hb hby at_70) rfl ?_
        show Steps p.tables e below (T12.setTop (mkF m 72 #[.val (.long va), .second, .val (.long vb), .second, .val (.long vc), .second, .val (.int (1 : Int32)), .val (.long r9), .second, .val (.long r10), .second, .val (.long r12), .second, .unset] [(.long r9)])) _
        refine st13 _ ?_
        show Steps p.tables e below (T13.setTop (mkF m 75 #[.val (.long va), .second, .val (.long vb), .second, .val (.long vc), .second, .val (.int (1 : Int32)), .val (.long r9), .second, .val (.long r10), .second, .val (.long r12), .second, .unset] [(.int r13)])) _
        refine XS.ifNo X13.here hx rfl (hb hby at_75) rfl ((if0 _ _).trans (feq h75_14).1) ?_
        show Steps p.tables e below (T13.setTop (mkF m 78 #[.val (.long va), .second, .val (.long vb), .second, .val (.long vc), .second, .val (.int (1 : Int32)), .val (.long r9), .second, .val (.long r10), .second, .val (.long r12), .second, .unset] [])) _
        refine XS.lload X13.here hx rfl (hb hby at_78) rfl ?_
        show Steps p.tables e below (T13.setTop (mkF m 80 #[.val (.long va), .second, .val (.long vb), .second, .val (.long vc), .second, .val (.int (1 : Int32)), .val (.long r9), .second, .val (.long r10), .second, .val (.long r12), .second, .unset] [(.long r10)])) _
        refine st15 _ ?_
        show Steps p.tables e below (T15.setTop (mkF m 83 #[.val (.long va), .second, .val (.long vb), .second, .val (.long vc), .second, .val (.int (1 : Int32)), .val (.long r9), .second, .val (.long r10), .second, .val (.long r12), .second, .unset] [(.int r15)])) _
        refine XS.ifYes X15.here hx rfl (pc0 := 83) (pc' := 94) rfl (hb hby at_83) rfl ((if0 _ _).trans (teq h83_16).1) (by decide) (by decide) ?_
        show Steps p.tables e below (T15.setTop (mkF m 94 #[.val (.long va), .second, .val (.long vb), .second, .val (.long vc), .second, .val (.int (1 : Int32)), .val (.long r9), .second, .val (.long r10), .second, .val (.long r12), .second, .unset] [])) _
        refine XS.iconst X15.here hx rfl (hb hby at_94) ?_
        show Steps p.tables e below (T15.setTop (mkF m 95 #[.val (.long va), .second, .val (.long vb), .second, .val (.long vc), .second, .val (.int (1 : Int32)), .val (.long r9), .second, .val (.long r10), .second, .val (.long r12), .second, .unset] [(.int (1 : Int32))])) _
        refine XS.goto X15.here hx rfl (pc0 := 95) (pc' := 99) rfl (hb hby at_95) (by decide) (by decide) ?_
        show Steps p.tables e below (T15.setTop (mkF m 99 #[.val (.long va), .second, .val (.long vb), .second, .val (.long vc), .second, .val (.int (1 : Int32)), .val (.long r9), .second, .val (.long r10), .second, .val (.long r12), .second, .unset] [(.int (1 : Int32))])) _
        refine XS.istore X15.here hx rfl (hb hby at_99) rfl (l' := #[.val (.long va), .second, .val (.long vb), .second, .val (.long vc), .second, .val (.int (1 : Int32)), .val (.long r9), .second, .val (.long r10), .second, .val (.long r12), .second, .val (.int (1 : Int32))]) rfl ?_
        show Steps p.tables e below (T15.setTop (mkF m 101 #[.val (.long va), .second, .val (.long vb), .second, .val (.long vc), .second, .val (.int (1 : Int32)), .val (.long r9), .second, .val (.long r10), .second, .val (.long r12), .second, .val (.int (1 : Int32))] [])) _
        refine XS.iload X15.here hx rfl (hb hby at_101) rfl ?_
        show Steps p.tables e below (T15.setTop (mkF m 103 #[.val (.long va), .second, .val (.long vb), .second, .val (.long vc), .second, .val (.int (1 : Int32)), .val (.long r9), .second, .val (.long r10), .second, .val (.long r12), .second, .val (.int (1 : Int32))] [(.int (1 : Int32))])) _
        refine XS.ifNo X15.here hx rfl (hb hby at_103) rfl ((if0 _ _).trans (feq (by decide : ¬ ((1 : Int32) = (0 : Int32)))).1) ?_
        show Steps p.tables e below (T15.setTop (mkF m 106 #[.val (.long va), .second, .val (.long vb), .second, .val (.long vc), .second, .val (.int (1 : Int32)), .val (.long r9), .second, .val (.long r10), .second, .val (.long r12), .second, .val (.int (1 : Int32))] [])) _
        refine XS.iload X15.here hx rfl (hb hby at_106) rfl ?_
        show Steps p.tables e below (T15.setTop (mkF m 108 #[.val (.long va), .second, .val (.long vb), .second, .val (.long vc), .second, .val (.int (1 : Int32)), .val (.long r9), .second, .val (.long r10), .second, .val (.long r12), .second, .val (.int (1 : Int32))] [(.int (1 : Int32))])) _
        refine XS.ifNo X15.here hx rfl (hb hby at_108) rfl ((if0 _ _).trans (feq (by decide : ¬ ((1 : Int32) = (0 : Int32)))).1) ?_
        show Steps p.tables e below (T15.setTop (mkF m 111 #[.val (.long va), .second, .val (.long vb), .second, .val (.long vc), .second, .val (.int (1 : Int32)), .val (.long r9), .second, .val (.long r10), .second, .val (.long r12), .second, .val (.int (1 : Int32))] [])) _
        refine XS.iconst X15.here hx rfl (hb hby at_111) ?_
        show Steps p.tables e below (T15.setTop (mkF m 112 #[.val (.long va), .second, .val (.long vb), .second, .val (.long vc), .second, .val (.int (1 : Int32)), .val (.long r9), .second, .val (.long r10), .second, .val (.long r12), .second, .val (.int (1 : Int32))] [(.int (1 : Int32))])) _
        refine XS.goto X15.here hx rfl (pc0 := 112) (pc' := 116) rfl (hb hby at_112) (by decide) (by decide) ?_
        show Steps p.tables e below (T15.setTop (mkF m 116 #[.val (.long va), .second, .val (.long vb), .second, .val (.long vc), .second, .val (.int (1 : Int32)), .val (.long r9), .second, .val (.long r10), .second, .val (.long r12), .second, .val (.int (1 : Int32))] [(.int (1 : Int32))])) _
        exact retN X15 hx (t := .boolean) Bd.returns (by simp) (hb hby at_116) hr
      · show Q_law Z va vb vc h0 n0 _ T15.heap _
        rw [e15]
        exact ⟨rfl, N15⟩
    · obtain ⟨_, _, ⟨T17, L17, k17, n17⟩, -, X17, ⟨Lc17, hQ17, l17, y17, z17⟩, st17⟩ := Jvm.LawKit.callS X15 hx (y := (⟨"com/example/stock_gate/stockgate/model/Sale", "isValidStock", "(J)Z"⟩ : MethodName)) hown (mvT hZ (hw _ (List.mem_of_getElem? (i := 0) rfl))) (mvT hZ (hw _ (List.mem_of_getElem? (i := 1) rfl))) (mvT hZ (hw _ (List.mem_of_getElem? (i := 2) rfl))) (mvT hZ (hw _ (List.mem_of_getElem? (i := 3) rfl))) (by decide) (backOf (W := 0) (rm_vs l Z a0 hw [] r12 h0 n0 Z0 ) hZ (hw _ (List.mem_of_getElem? (i := 3) rfl)) (hw _ (List.mem_of_getElem? (i := 2) rfl)) (by decide) (by decide)) (g := (mkF m 88 #[.val (.long va), .second, .val (.long vb), .second, .val (.long vc), .second, .val (.int (1 : Int32)), .val (.long r9), .second, .val (.long r10), .second, .val (.long r12), .second, .unset] [(.long r12)])) rfl (by rw [hml]; rfl) (argsL := [(.long r12)]) (rest := []) (lenOf pd_0 rfl) rfl (by show 2 * 0 + _ ≤ _; exact Nat.le_of_eq rfl) (hb hby at_88) (fun _ _ => ⟨rfl, e15, (by decide : 0 + 0 ≤ _), (by decide : 0 + 0 ≤ _)⟩)
      dsimp only [Pt.U, Pt.locs, Pt.cells, Pt.slots] at X17 l17 y17 z17 st17 hQ17
      subst l17 y17 z17
      obtain ⟨⟨r17, rfl, hr17⟩, N17q, e17⟩ := hQ17
      have N17 := Fr.app N15 N17q
      obtain ⟨fs, hr, hrun, hended, hW, hsame⟩ := X17.leave (v := some (.int (1 : Int32))) (fun h => by rw [Bd.returns] at h; cases h)
      refine ⟨_, _, pre0 _ ?_, hrun, hended, _, _, rfl, ?_, ⟨_, rfl⟩, hW, hsame.mono (by decide) (by decide)⟩
      · show Steps p.tables e below (s₁.setTop (mkF m 0 #[.val (.long va), .second, .val (.long vb), .second, .val (.long vc), .second, .unset, .unset, .unset, .unset, .unset, .unset, .unset, .unset] [])) _
        refine XS.lconst X0.here hx rfl (hb hby at_0) ?_
        show Steps p.tables e below (s₁.setTop (mkF m 1 #[.val (.long va), .second, .val (.long vb), .second, .val (.long vc), .second, .unset, .unset, .unset, .unset, .unset, .unset, .unset, .unset] [(.long (0 : Int64))])) _
        refine st5 _ ?_
        show Steps p.tables e below (T5.setTop (mkF m 4 #[.val (.long va), .second, .val (.long vb), .second, .val (.long vc), .second, .unset, .unset, .unset, .unset, .unset, .unset, .unset, .unset] [(.int r5)])) _
        refine XS.ifNo X5.here hx rfl (hb hby at_4) rfl ((if0 _ _).trans (feq (by rw [hr5]; decide : ¬ (r5 = (0 : Int32)))).1) ?_
        show Steps p.tables e below (T5.setTop (mkF m 7 #[.val (.long va), .second, .val (.long vb), .second, .val (.long vc), .second, .unset, .unset, .unset, .unset, .unset, .unset, .unset, .unset] [])) _
        refine X5.ldc2Long hx hown (mvT hZ (hw _ (List.mem_of_getElem? (i := 5) rfl))) (g := (mkF m 7 #[.val (.long va), .second, .val (.long vb), .second, .val (.long vc), .second, .unset, .unset, .unset, .unset, .unset, .unset, .unset, .unset] [])) rfl (hb hby at_7) _ ?_
        show Steps p.tables e below (T5.setTop (mkF m 10 #[.val (.long va), .second, .val (.long vb), .second, .val (.long vc), .second, .unset, .unset, .unset, .unset, .unset, .unset, .unset, .unset] [(.long (2000000000 : Int64))])) _
        refine st6 _ ?_
        show Steps p.tables e below (T6.setTop (mkF m 13 #[.val (.long va), .second, .val (.long vb), .second, .val (.long vc), .second, .unset, .unset, .unset, .unset, .unset, .unset, .unset, .unset] [(.int r6)])) _
        refine XS.ifNo X6.here hx rfl (hb hby at_13) rfl ((if0 _ _).trans (feq (by rw [hr6]; decide : ¬ (r6 = (0 : Int32)))).1) ?_
        show Steps p.tables e below (T6.setTop (mkF m 16 #[.val (.long va), .second, .val (.long vb), .second, .val (.long vc), .second, .unset, .unset, .unset, .unset, .unset, .unset, .unset, .unset] [])) _
        refine X6.ldc2Long hx hown (mvT hZ (hw _ (List.mem_of_getElem? (i := 6) rfl))) (g := (mkF m 16 #[.val (.long va), .second, .val (.long vb), .second, .val (.long vc), .second, .unset, .unset, .unset, .unset, .unset, .unset, .unset, .unset] [])) rfl (hb hby at_16) _ ?_
        show Steps p.tables e below (T6.setTop (mkF m 19 #[.val (.long va), .second, .val (.long vb), .second, .val (.long vc), .second, .unset, .unset, .unset, .unset, .unset, .unset, .unset, .unset] [(.long (-1 : Int64))])) _
        refine st7 _ ?_
        show Steps p.tables e below (T7.setTop (mkF m 22 #[.val (.long va), .second, .val (.long vb), .second, .val (.long vc), .second, .unset, .unset, .unset, .unset, .unset, .unset, .unset, .unset] [(.int r7)])) _
        refine XS.ifNo X7.here hx rfl (hb hby at_22) rfl ((if0 _ _).trans (teq (by rw [hr7]; decide : r7 = (0 : Int32))).2) ?_
        show Steps p.tables e below (T7.setTop (mkF m 25 #[.val (.long va), .second, .val (.long vb), .second, .val (.long vc), .second, .unset, .unset, .unset, .unset, .unset, .unset, .unset, .unset] [])) _
        refine X7.ldc2Long hx hown (mvT hZ (hw _ (List.mem_of_getElem? (i := 7) rfl))) (g := (mkF m 25 #[.val (.long va), .second, .val (.long vb), .second, .val (.long vc), .second, .unset, .unset, .unset, .unset, .unset, .unset, .unset, .unset] [])) rfl (hb hby at_25) _ ?_
        show Steps p.tables e below (T7.setTop (mkF m 28 #[.val (.long va), .second, .val (.long vb), .second, .val (.long vc), .second, .unset, .unset, .unset, .unset, .unset, .unset, .unset, .unset] [(.long (2000000001 : Int64))])) _
        refine st8 _ ?_
        show Steps p.tables e below (T8.setTop (mkF m 31 #[.val (.long va), .second, .val (.long vb), .second, .val (.long vc), .second, .unset, .unset, .unset, .unset, .unset, .unset, .unset, .unset] [(.int r8)])) _
        refine XS.ifNo X8.here hx rfl (hb hby at_31) rfl ((if0 _ _).trans (teq (by rw [hr8]; decide : r8 = (0 : Int32))).2) ?_
        show Steps p.tables e below (T8.setTop (mkF m 34 #[.val (.long va), .second, .val (.long vb), .second, .val (.long vc), .second, .unset, .unset, .unset, .unset, .unset, .unset, .unset, .unset] [])) _
        refine XS.iconst X8.here hx rfl (hb hby at_34) ?_
        show Steps p.tables e below (T8.setTop (mkF m 35 #[.val (.long va), .second, .val (.long vb), .second, .val (.long vc), .second, .unset, .unset, .unset, .unset, .unset, .unset, .unset, .unset] [(.int (1 : Int32))])) _
        refine XS.goto X8.here hx rfl (pc0 := 35) (pc' := 39) rfl (hb hby at_35) (by decide) (by decide) ?_
        show Steps p.tables e below (T8.setTop (mkF m 39 #[.val (.long va), .second, .val (.long vb), .second, .val (.long vc), .second, .unset, .unset, .unset, .unset, .unset, .unset, .unset, .unset] [(.int (1 : Int32))])) _
        refine XS.istore X8.here hx rfl (hb hby at_39) rfl (l' := #[.val (.long va), .second, .val (.long vb), .second, .val (.long vc), .second, .val (.int (1 : Int32)), .unset, .unset, .unset, .unset, .unset, .unset, .unset]) rfl ?_
        show Steps p.tables e below (T8.setTop (mkF m 41 #[.val (.long va), .second, .val (.long vb), .second, .val (.long vc), .second, .val (.int (1 : Int32)), .unset, .unset, .unset, .unset, .unset, .unset, .unset] [])) _
        refine XS.lloadN X8.here hx rfl (hb hby at_41) rfl ?_
        show Steps p.tables e below (T8.setTop (mkF m 42 #[.val (.long va), .second, .val (.long vb), .second, .val (.long vc), .second, .val (.int (1 : Int32)), .unset, .unset, .unset, .unset, .unset, .unset, .unset] [(.long va)])) _
        refine XS.lload X8.here hx rfl (hb hby at_42) rfl ?_
        show Steps p.tables e below (T8.setTop (mkF m 44 #[.val (.long va), .second, .val (.long vb), .second, .val (.long vc), .second, .val (.int (1 : Int32)), .unset, .unset, .unset, .unset, .unset, .unset, .unset] [(.long vc), (.long va)])) _
        refine st9 _ ?_
        show Steps p.tables e below (T9.setTop (mkF m 47 #[.val (.long va), .second, .val (.long vb), .second, .val (.long vc), .second, .val (.int (1 : Int32)), .unset, .unset, .unset, .unset, .unset, .unset, .unset] [(.long r9)])) _
        refine XS.lstore X9.here hx rfl (hb hby at_47) rfl (l' := #[.val (.long va), .second, .val (.long vb), .second, .val (.long vc), .second, .val (.int (1 : Int32)), .val (.long r9), .second, .unset, .unset, .unset, .unset, .unset]) rfl ?_
        show Steps p.tables e below (T9.setTop (mkF m 49 #[.val (.long va), .second, .val (.long vb), .second, .val (.long vc), .second, .val (.int (1 : Int32)), .val (.long r9), .second, .unset, .unset, .unset, .unset, .unset] [])) _
        refine XS.lloadN X9.here hx rfl (hb hby at_49) rfl ?_
        show Steps p.tables e below (T9.setTop (mkF m 50 #[.val (.long va), .second, .val (.long vb), .second, .val (.long vc), .second, .val (.int (1 : Int32)), .val (.long r9), .second, .unset, .unset, .unset, .unset, .unset] [(.long va)])) _
        refine XS.lload X9.here hx rfl (hb hby at_50) rfl ?_
        show Steps p.tables e below (T9.setTop (mkF m 52 #[.val (.long va), .second, .val (.long vb), .second, .val (.long vc), .second, .val (.int (1 : Int32)), .val (.long r9), .second, .unset, .unset, .unset, .unset, .unset] [(.long vc), (.long va)])) _
        refine st10 _ ?_
        show Steps p.tables e below (T10.setTop (mkF m 55 #[.val (.long va), .second, .val (.long vb), .second, .val (.long vc), .second, .val (.int (1 : Int32)), .val (.long r9), .second, .unset, .unset, .unset, .unset, .unset] [(.long r10)])) _
        refine XS.lstore X10.here hx rfl (hb hby at_55) rfl (l' := #[.val (.long va), .second, .val (.long vb), .second, .val (.long vc), .second, .val (.int (1 : Int32)), .val (.long r9), .second, .val (.long r10), .second, .unset, .unset, .unset]) rfl ?_
        show Steps p.tables e below (T10.setTop (mkF m 57 #[.val (.long va), .second, .val (.long vb), .second, .val (.long vc), .second, .val (.int (1 : Int32)), .val (.long r9), .second, .val (.long r10), .second, .unset, .unset, .unset] [])) _
        refine XS.lload X10.here hx rfl (hb hby at_57) rfl ?_
        show Steps p.tables e below (T10.setTop (mkF m 59 #[.val (.long va), .second, .val (.long vb), .second, .val (.long vc), .second, .val (.int (1 : Int32)), .val (.long r9), .second, .val (.long r10), .second, .unset, .unset, .unset] [(.long r9)])) _
        refine XS.lload X10.here hx rfl (hb hby at_59) rfl ?_
        show Steps p.tables e below (T10.setTop (mkF m 61 #[.val (.long va), .second, .val (.long vb), .second, .val (.long vc), .second, .val (.int (1 : Int32)), .val (.long r9), .second, .val (.long r10), .second, .unset, .unset, .unset] [(.long r10), (.long r9)])) _
        refine XS.lloadN X10.here hx rfl (hb hby at_61) rfl ?_
        show Steps p.tables e below (T10.setTop (mkF m 62 #[.val (.long va), .second, .val (.long vb), .second, .val (.long vc), .second, .val (.int (1 : Int32)), .val (.long r9), .second, .val (.long r10), .second, .unset, .unset, .unset] [(.long vb), (.long r10), (.long r9)])) _
        refine st11 _ ?_
        show Steps p.tables e below (T11.setTop (mkF m 65 #[.val (.long va), .second, .val (.long vb), .second, .val (.long vc), .second, .val (.int (1 : Int32)), .val (.long r9), .second, .val (.long r10), .second, .unset, .unset, .unset] [(.long r11), (.long r9)])) _
        refine st12 _ ?_
        show Steps p.tables e below (T12.setTop (mkF m 68 #[.val (.long va), .second, .val (.long vb), .second, .val (.long vc), .second, .val (.int (1 : Int32)), .val (.long r9), .second, .val (.long r10), .second, .unset, .unset, .unset] [(.long r12)])) _
        refine XS.lstore X12.here hx rfl (hb hby at_68) rfl (l' := #[.val (.long va), .second, .val (.long vb), .second, .val (.long vc), .second, .val (.int (1 : Int32)), .val (.long r9), .second, .val (.long r10), .second, .val (.long r12), .second, .unset]) rfl ?_
        show Steps p.tables e below (T12.setTop (mkF m 70 #[.val (.long va), .second, .val (.long vb), .second, .val (.long vc), .second, .val (.int (1 : Int32)), .val (.long r9), .second, .val (.long r10), .second, .val (.long r12), .second, .unset] [])) _
        refine XS.lload X12.here hx rfl (hb hby at_70) rfl ?_
        show Steps p.tables e below (T12.setTop (mkF m 72 #[.val (.long va), .second, .val (.long vb), .second, .val (.long vc), .second, .val (.int (1 : Int32)), .val (.long r9), .second, .val (.long r10), .second, .val (.long r12), .second, .unset] [(.long r9)])) _
        refine st13 _ ?_
        show Steps p.tables e below (T13.setTop (mkF m 75 #[.val (.long va), .second, .val (.long vb), .second, .val (.long vc), .second, .val (.int (1 : Int32)), .val (.long r9), .second, .val (.long r10), .second, .val (.long r12), .second, .unset] [(.int r13)])) _
        refine XS.ifNo X13.here hx rfl (hb hby at_75) rfl ((if0 _ _).trans (feq h75_14).1) ?_
        show Steps p.tables e below (T13.setTop (mkF m 78 #[.val (.long va), .second, .val (.long vb), .second, .val (.long vc), .second, .val (.int (1 : Int32)), .val (.long r9), .second, .val (.long r10), .second, .val (.long r12), .second, .unset] [])) _
        refine XS.lload X13.here hx rfl (hb hby at_78) rfl ?_
        show Steps p.tables e below (T13.setTop (mkF m 80 #[.val (.long va), .second, .val (.long vb), .second, .val (.long vc), .second, .val (.int (1 : Int32)), .val (.long r9), .second, .val (.long r10), .second, .val (.long r12), .second, .unset] [(.long r10)])) _
        refine st15 _ ?_
        show Steps p.tables e below (T15.setTop (mkF m 83 #[.val (.long va), .second, .val (.long vb), .second, .val (.long vc), .second, .val (.int (1 : Int32)), .val (.long r9), .second, .val (.long r10), .second, .val (.long r12), .second, .unset] [(.int r15)])) _
        refine XS.ifNo X15.here hx rfl (hb hby at_83) rfl ((if0 _ _).trans (feq h83_16).1) ?_
        show Steps p.tables e below (T15.setTop (mkF m 86 #[.val (.long va), .second, .val (.long vb), .second, .val (.long vc), .second, .val (.int (1 : Int32)), .val (.long r9), .second, .val (.long r10), .second, .val (.long r12), .second, .unset] [])) _
        refine XS.lload X15.here hx rfl (hb hby at_86) rfl ?_
        show Steps p.tables e below (T15.setTop (mkF m 88 #[.val (.long va), .second, .val (.long vb), .second, .val (.long vc), .second, .val (.int (1 : Int32)), .val (.long r9), .second, .val (.long r10), .second, .val (.long r12), .second, .unset] [(.long r12)])) _
        refine st17 _ ?_
        show Steps p.tables e below (T17.setTop (mkF m 91 #[.val (.long va), .second, .val (.long vb), .second, .val (.long vc), .second, .val (.int (1 : Int32)), .val (.long r9), .second, .val (.long r10), .second, .val (.long r12), .second, .unset] [(.int r17)])) _
        refine XS.ifNo X17.here hx rfl (hb hby at_91) rfl ((if0 _ _).trans (feq (own_mid r9 r10 r12 vb 0 0 0 r11 r13 r15 r17 (own_lh va vc _ _ hr9 hr10) hr11 hr12 hr13 hr15 hr17 h75_14 h83_16 : ¬ (r17 = (0 : Int32)))).1) ?_
        show Steps p.tables e below (T17.setTop (mkF m 94 #[.val (.long va), .second, .val (.long vb), .second, .val (.long vc), .second, .val (.int (1 : Int32)), .val (.long r9), .second, .val (.long r10), .second, .val (.long r12), .second, .unset] [])) _
        refine XS.iconst X17.here hx rfl (hb hby at_94) ?_
        show Steps p.tables e below (T17.setTop (mkF m 95 #[.val (.long va), .second, .val (.long vb), .second, .val (.long vc), .second, .val (.int (1 : Int32)), .val (.long r9), .second, .val (.long r10), .second, .val (.long r12), .second, .unset] [(.int (1 : Int32))])) _
        refine XS.goto X17.here hx rfl (pc0 := 95) (pc' := 99) rfl (hb hby at_95) (by decide) (by decide) ?_
        show Steps p.tables e below (T17.setTop (mkF m 99 #[.val (.long va), .second, .val (.long vb), .second, .val (.long vc), .second, .val (.int (1 : Int32)), .val (.long r9), .second, .val (.long r10), .second, .val (.long r12), .second, .unset] [(.int (1 : Int32))])) _
        refine XS.istore X17.here hx rfl (hb hby at_99) rfl (l' := #[.val (.long va), .second, .val (.long vb), .second, .val (.long vc), .second, .val (.int (1 : Int32)), .val (.long r9), .second, .val (.long r10), .second, .val (.long r12), .second, .val (.int (1 : Int32))]) rfl ?_
        show Steps p.tables e below (T17.setTop (mkF m 101 #[.val (.long va), .second, .val (.long vb), .second, .val (.long vc), .second, .val (.int (1 : Int32)), .val (.long r9), .second, .val (.long r10), .second, .val (.long r12), .second, .val (.int (1 : Int32))] [])) _
        refine XS.iload X17.here hx rfl (hb hby at_101) rfl ?_
        show Steps p.tables e below (T17.setTop (mkF m 103 #[.val (.long va), .second, .val (.long vb), .second, .val (.long vc), .second, .val (.int (1 : Int32)), .val (.long r9), .second, .val (.long r10), .second, .val (.long r12), .second, .val (.int (1 : Int32))] [(.int (1 : Int32))])) _
        refine XS.ifNo X17.here hx rfl (hb hby at_103) rfl ((if0 _ _).trans (feq (by decide : ¬ ((1 : Int32) = (0 : Int32)))).1) ?_
        show Steps p.tables e below (T17.setTop (mkF m 106 #[.val (.long va), .second, .val (.long vb), .second, .val (.long vc), .second, .val (.int (1 : Int32)), .val (.long r9), .second, .val (.long r10), .second, .val (.long r12), .second, .val (.int (1 : Int32))] [])) _
        refine XS.iload X17.here hx rfl (hb hby at_106) rfl ?_
        show Steps p.tables e below (T17.setTop (mkF m 108 #[.val (.long va), .second, .val (.long vb), .second, .val (.long vc), .second, .val (.int (1 : Int32)), .val (.long r9), .second, .val (.long r10), .second, .val (.long r12), .second, .val (.int (1 : Int32))] [(.int (1 : Int32))])) _
        refine XS.ifNo X17.here hx rfl (hb hby at_108) rfl ((if0 _ _).trans (feq (by decide : ¬ ((1 : Int32) = (0 : Int32)))).1) ?_
        show Steps p.tables e below (T17.setTop (mkF m 111 #[.val (.long va), .second, .val (.long vb), .second, .val (.long vc), .second, .val (.int (1 : Int32)), .val (.long r9), .second, .val (.long r10), .second, .val (.long r12), .second, .val (.int (1 : Int32))] [])) _
        refine XS.iconst X17.here hx rfl (hb hby at_111) ?_
        show Steps p.tables e below (T17.setTop (mkF m 112 #[.val (.long va), .second, .val (.long vb), .second, .val (.long vc), .second, .val (.int (1 : Int32)), .val (.long r9), .second, .val (.long r10), .second, .val (.long r12), .second, .val (.int (1 : Int32))] [(.int (1 : Int32))])) _
        refine XS.goto X17.here hx rfl (pc0 := 112) (pc' := 116) rfl (hb hby at_112) (by decide) (by decide) ?_
        show Steps p.tables e below (T17.setTop (mkF m 116 #[.val (.long va), .second, .val (.long vb), .second, .val (.long vc), .second, .val (.int (1 : Int32)), .val (.long r9), .second, .val (.long r10), .second, .val (.long r12), .second, .val (.int (1 : Int32))] [(.int (1 : Int32))])) _
        exact retN X17 hx (t := .boolean) Bd.returns (by simp) (hb hby at_116) hr
      · show Q_law Z va vb vc h0 n0 _ T17.heap _
        rw [e17]
        exact ⟨rfl, N17⟩
set_option maxRecDepth 65536 in
set_option maxHeartbeats 40000000 in
theorem comes_1 {Post : Tables → Env → Array Value → State → Outcome → State → Prop} (hpost : ∀ tb e args s v u, (limb_1_1.after args s (.returned v) u = true ∧ limb_1_2.after args s (.returned v) u = true ∧ True) → FrameEnd s (.returned v) u (Jvm.fieldLocs frame_1_writes args s ++ Jvm.arrayLocs frame_1_arrays args s ++ Jvm.staticLocs frame_1_statics s) 0 0 → Post tb e args s (.returned v) u) :
    ArmFor flags0 classFile x code maxLocals ret World_1 tables_1 room_1 Calls_1 rest_1 Pre_1 Post := by
  intro l hfl _ _ p e ha hc hk s m args below hf hA hF happ hP
  obtain ⟨hcalls, hrest, hpre⟩ := hP
  obtain ⟨-, -, -, hnamed, -, -, -, hat⟩ := (Spec.applies_iff hf).mp happ
  obtain ⟨hg, hn⟩ := and_e (Cond.before_iff.mp (show (Jvm.Cond.and given_1 narrow_1).before args s = true from hpre))
  obtain ⟨hg0, hr0⟩ := and_e hg
  obtain ⟨ha0, hr1⟩ := and_e hr0
  obtain ⟨ha1, hr2⟩ := and_e hr1
  obtain ⟨w0, w1, w2, rfl⟩ : ∃ w0 w1 w2 : Value, args = #[w0, w1, w2] := by
    have hs : args.size = 3 := by simpa [Cond.value, given_1] using hg0
    obtain ⟨L⟩ := args
    match L, hs with
    | [w0, w1, w2], _ => exact ⟨w0, w1, w2, rfl⟩
  have hw := fun d (hd : d ∈ tables_1) => atoms_spec (ws := Jvm.Cond.code x code maxLocals ret :: tables_1) hat d (List.mem_cons_of_mem _ hd)
  obtain ⟨i0, ei0⟩ := isL_v ha0
  obtain rfl : w0 = (.long i0) := Option.some.inj ei0
  obtain ⟨i1, ei1⟩ := isL_v ha1
  obtain rfl : w1 = (.long i1) := Option.some.inj ei1
  obtain ⟨i2, ei2⟩ := isL_v hr2
  obtain rfl : w2 = (.long i2) := Option.some.inj ei2
  obtain ⟨n, o, h1, h2, h3, _, L, rfl, ⟨rfl, N⟩, hq⟩ := rm_law l s _ hw tables_1 i0 i1 i2 s.heap s.heap.size (Nat.le_refl _)  p e ha hc hk s m _ below hf ((Spec.applies_iff_loose hf).mp happ).1 ⟨rfl, State.Warmed39.refl s, rfl⟩ trivial
  refine ⟨n, _, h1, h2, h3, hpost _ _ _ _ _ _ ⟨Cond.after_iff.mpr rfl, Cond.after_iff.mpr (eq_i res_at (Term.int_eval (1)) rfl), trivial⟩ ⟨hq.1, hq.2.1, (hq.2.2.sift fun y hy => Or.inr (N y hy)).mono (by decide) (by decide)⟩⟩
theorem main_1_1 : Claimed_1_1 := comes_1 fun _ _ _ _ _ _ h hF => ⟨h.1, hF⟩
theorem main_1_2 : Claimed_1_2 := comes_1 fun _ _ _ _ _ _ h hF => ⟨h.2.1, hF⟩
end Jvm.Pilot.@@N@@
namespace Jvm.Pilot.@@N@@
open Jvm Jvm.ClassFile Sem Op Lib Jvm.Free Jvm.Stand Jvm.Pilot.@@N@@.Jvm.D
/-! MADE BY PROGRAM (witnessworld.py) out of the Statement's table words and the real class files: 11 classes; the members and pool entries that the words name. The judged class is class 1, her method 1. -/
namespace start1
open Jvm.ClassFile
def u (s : String) : CpInfo := .utf8 (stringToUtf16 s)
/-- a pool by its gaps: so many unusable entries, then the entry; so many at the end -/
def gap : Nat → List CpInfo → List CpInfo
  | 0, r => r
  | n + 1, r => .unusable :: gap n r
def poolList (es : List (Nat × CpInfo)) (last : Nat) : List CpInfo := es.foldr (fun e r => gap e.1 (e.2 :: r)) (gap last [])
def pool (es : List (Nat × CpInfo)) (last : Nat) : Array CpInfo := ⟨poolList es last⟩
def fileOf (pool : Array CpInfo) (this : Nat) (attrs : Array Attribute := #[]) (ms : Array MethodInfo := #[]) (fl : Nat := 33) (sup : Nat := 0) (ifs : Array Nat := #[]) (fds : Array FieldInfo := #[]) : ClassFile where
  minorVersion := 0
  majorVersion := 65
  constantPool := pool
  accessFlags := fl
  thisClass := this
  superClass := sup
  interfaces := ifs
  fields := fds
  methods := ms
  attributes := attrs
def plain (name : String) (sup : Option ClassId) : Class where
  name := name
  kind := .ordinary
  loader := none
  accessFlags := 33
  super := sup
  interfaces := #[]
  cf := none
  fields := #[]
  methods := #[]
  instanceTypes := #[]
  staticTypes := #[]
  resolved := #[]
  callSites := []
  init := .initialized
  statics := none
  mirror := none

def pool0 : Array CpInfo := pool [(5, u "<init>"), (0, u "()V"), (1, .class_ 10), (1, u "java/lang/Object")] 113

def k0m0 : Method := { name := "<init>", desc := "()V", sig := { parameters := [], returnType := none }, accessFlags := 1, code := none }
/-- java/lang/Object -/
def k0 : Class := { plain "java/lang/Object" none with
  accessFlags := 33
  interfaces := #[]
  cf := some (fileOf pool0 8 #[] #[{ accessFlags := 1, nameIndex := 5, descriptorIndex := 6, attributes := #[] }] 33 0 #[] #[])
  fields := #[]
  methods := #[k0m0]
  instanceTypes := #[]
  staticTypes := #[]
  resolved := Array.replicate 124 none
  statics := none }

def pool1 : Array CpInfo := pool [(2, .class_ 4), (1, u "java/lang/Object"), (0, u "<init>"), (0, u "()V"), (0, .methodref 8 9), (0, .class_ 10), (0, .nameAndType 11 12), (0, u "com/example/stock_gate/stockgate/model/Sale"), (0, u "isValidStock"), (0, u "(J)Z"), (0, .long 2000000000), (1, .long 18446744073709551615), (1, .long 2000000001), (1, .methodref 20 21), (0, .class_ 22), (0, .nameAndType 23 24), (0, u "java/lang/Math"), (0, u "min"), (0, u "(JJ)J"), (0, .methodref 20 26), (0, .nameAndType 27 24), (0, u "max"), (0, .class_ 29), (0, u "com/example/stock_gate/stockgate/model/SaleIsValidStockPinLaw"), (2, u "law"), (0, u "(JJJ)Z")] 3

def k1m0 : Method := { name := "<init>", desc := "()V", sig := { parameters := [], returnType := none }, accessFlags := 2, code := none }
def k1c1 : Code := { maxStack := 6, maxLocals := 14, code := code, exceptionTable := #[], attributes := #[] }
def k1m1 : Method := { name := "law", desc := "(JJJ)Z", sig := { parameters := [.long, .long, .long], returnType := some .boolean }, accessFlags := 9, code := some k1c1 }
/-- com/example/stock_gate/stockgate/model/SaleIsValidStockPinLaw -/
def k1 : Class := { plain "com/example/stock_gate/stockgate/model/SaleIsValidStockPinLaw" (some 0) with
  accessFlags := 49
  interfaces := #[]
  cf := some (fileOf pool1 28 #[] #[{ accessFlags := 2, nameIndex := 5, descriptorIndex := 6, attributes := #[] }, { accessFlags := 9, nameIndex := 32, descriptorIndex := 33, attributes := #[] }] 49 2 #[] #[])
  fields := #[]
  methods := #[k1m0, k1m1]
  instanceTypes := #[]
  staticTypes := #[]
  resolved := Array.replicate 37 none
  statics := none }

def pool2 : Array CpInfo := pool [(2, .class_ 4), (1, u "java/lang/Object"), (0, u "<init>"), (0, u "()V"), (0, .class_ 8), (0, u "java/lang/Record")] 13

def k2m0 : Method := { name := "<init>", desc := "()V", sig := { parameters := [], returnType := none }, accessFlags := 4, code := none }
/-- java/lang/Record -/
def k2 : Class := { plain "java/lang/Record" (some 0) with
  accessFlags := 1057
  interfaces := #[]
  cf := some (fileOf pool2 7 #[] #[{ accessFlags := 4, nameIndex := 5, descriptorIndex := 6, attributes := #[] }] 1057 2 #[] #[])
  fields := #[]
  methods := #[k2m0]
  instanceTypes := #[]
  staticTypes := #[]
  resolved := Array.replicate 22 none
  statics := none }

def pool3 : Array CpInfo := pool [(2, .class_ 4), (1, u "java/lang/Record"), (21, .class_ 28), (1, u "com/example/stock_gate/stockgate/model/Sale"), (0, u "isValidStock"), (0, u "(J)Z"), (35, u "id"), (0, u "Ljava/lang/String;"), (2, u "stock"), (0, u "J"), (2, u "remaining"), (2, u "held"), (2, u "terms"), (0, u "Ljava/util/Map;"), (2, u "definition"), (3, .long 2000000000), (61, u "MAX_STOCK")] 59

def k3c0 : Code := { maxStack := 4, maxLocals := 2, code := prog_13_method_4_code, exceptionTable := #[], attributes := #[] }
def k3m0 : Method := { name := "isValidStock", desc := "(J)Z", sig := { parameters := [.long], returnType := some .boolean }, accessFlags := 9, code := some k3c0 }
/-- com/example/stock_gate/stockgate/model/Sale -/
def k3 : Class := { plain "com/example/stock_gate/stockgate/model/Sale" (some 2) with
  accessFlags := 49
  interfaces := #[]
  cf := some (fileOf pool3 26 #[] #[{ accessFlags := 9, nameIndex := 29, descriptorIndex := 30, attributes := #[] }] 49 2 #[] #[{ accessFlags := 18, nameIndex := 66, descriptorIndex := 67, attributes := #[] }, { accessFlags := 18, nameIndex := 70, descriptorIndex := 71, attributes := #[] }, { accessFlags := 18, nameIndex := 74, descriptorIndex := 71, attributes := #[] }, { accessFlags := 18, nameIndex := 77, descriptorIndex := 71, attributes := #[] }, { accessFlags := 18, nameIndex := 80, descriptorIndex := 81, attributes := #[] }, { accessFlags := 18, nameIndex := 84, descriptorIndex := 67, attributes := #[] }, { accessFlags := 25, nameIndex := 150, descriptorIndex := 71, attributes := #[] }])
  fields := #[{ name := "id", type := (.object "java/lang/String"), accessFlags := 18, slot := 0, constantValue := 0 }, { name := "stock", type := .long, accessFlags := 18, slot := 1, constantValue := 0 }, { name := "remaining", type := .long, accessFlags := 18, slot := 2, constantValue := 0 }, { name := "held", type := .long, accessFlags := 18, slot := 3, constantValue := 0 }, { name := "terms", type := (.object "java/util/Map"), accessFlags := 18, slot := 4, constantValue := 0 }, { name := "definition", type := (.object "java/lang/String"), accessFlags := 18, slot := 5, constantValue := 0 }, { name := "MAX_STOCK", type := .long, accessFlags := 25, slot := 0, constantValue := 0 }]
  methods := #[k3m0]
  instanceTypes := #[(.object "java/lang/String"), .long, .long, .long, (.object "java/util/Map"), (.object "java/lang/String")]
  staticTypes := #[.long]
  resolved := Array.replicate 210 none
  statics := none }

def pool4 : Array CpInfo := pool [(1, .class_ 2), (0, u "java/lang/Math"), (1, .class_ 6), (1, u "java/lang/Object"), (0, u "<init>"), (0, u "()V"), (89, .class_ 100), (1, u "java/lang/Math$RandomNumberGeneratorHolder"), (20, u "(JJ)J"), (50, u "negativeZeroFloatBits"), (0, u "J"), (2, u "negativeZeroDoubleBits"), (21, u "max"), (2, u "min"), (43, u "$assertionsDisabled"), (0, u "Z"), (91, u "twoToTheDoubleScaleDown"), (0, u "D"), (4, u "twoToTheDoubleScaleUp"), (9, u "E"), (3, u "PI"), (2, u "TAU"), (2, u "DEGREES_TO_RADIANS"), (0, u "RADIANS_TO_DEGREES")] 94

def k4m0 : Method := { name := "<init>", desc := "()V", sig := { parameters := [], returnType := none }, accessFlags := 2, code := none }
def k4c1 : Code := { maxStack := 4, maxLocals := 4, code := jdk_29_method_66_code, exceptionTable := #[], attributes := #[] }
def k4m1 : Method := { name := "max", desc := "(JJ)J", sig := { parameters := [.long, .long], returnType := some .long }, accessFlags := 9, code := some k4c1 }
def k4c2 : Code := { maxStack := 4, maxLocals := 4, code := jdk_29_method_70_code, exceptionTable := #[], attributes := #[] }
def k4m2 : Method := { name := "min", desc := "(JJ)J", sig := { parameters := [.long, .long], returnType := some .long }, accessFlags := 9, code := some k4c2 }
/-- java/lang/Math -/
def k4 : Class := { plain "java/lang/Math" (some 0) with
  accessFlags := 49
  interfaces := #[]
  cf := some (fileOf pool4 1 #[.nestMembers #[98]] #[{ accessFlags := 2, nameIndex := 7, descriptorIndex := 8, attributes := #[] }, { accessFlags := 9, nameIndex := 198, descriptorIndex := 121, attributes := #[] }, { accessFlags := 9, nameIndex := 201, descriptorIndex := 121, attributes := #[] }] 49 4 #[] #[{ accessFlags := 25, nameIndex := 354, descriptorIndex := 339, attributes := #[] }, { accessFlags := 25, nameIndex := 358, descriptorIndex := 339, attributes := #[] }, { accessFlags := 25, nameIndex := 361, descriptorIndex := 339, attributes := #[] }, { accessFlags := 26, nameIndex := 364, descriptorIndex := 339, attributes := #[] }, { accessFlags := 26, nameIndex := 365, descriptorIndex := 339, attributes := #[] }, { accessFlags := 26, nameIndex := 172, descriptorIndex := 173, attributes := #[] }, { accessFlags := 26, nameIndex := 176, descriptorIndex := 173, attributes := #[] }, { accessFlags := 8, nameIndex := 344, descriptorIndex := 339, attributes := #[] }, { accessFlags := 8, nameIndex := 338, descriptorIndex := 339, attributes := #[] }, { accessFlags := 4120, nameIndex := 245, descriptorIndex := 246, attributes := #[] }])
  fields := #[{ name := "E", type := .double, accessFlags := 25, slot := 0, constantValue := 0 }, { name := "PI", type := .double, accessFlags := 25, slot := 1, constantValue := 0 }, { name := "TAU", type := .double, accessFlags := 25, slot := 2, constantValue := 0 }, { name := "DEGREES_TO_RADIANS", type := .double, accessFlags := 26, slot := 3, constantValue := 0 }, { name := "RADIANS_TO_DEGREES", type := .double, accessFlags := 26, slot := 4, constantValue := 0 }, { name := "negativeZeroFloatBits", type := .long, accessFlags := 26, slot := 5, constantValue := 0 }, { name := "negativeZeroDoubleBits", type := .long, accessFlags := 26, slot := 6, constantValue := 0 }, { name := "twoToTheDoubleScaleUp", type := .double, accessFlags := 8, slot := 7, constantValue := 0 }, { name := "twoToTheDoubleScaleDown", type := .double, accessFlags := 8, slot := 8, constantValue := 0 }, { name := "$assertionsDisabled", type := .boolean, accessFlags := 4120, slot := 9, constantValue := 0 }]
  methods := #[k4m0, k4m1, k4m2]
  instanceTypes := #[]
  staticTypes := #[.double, .double, .double, .double, .double, .long, .long, .double, .double, .boolean]
  resolved := Array.replicate 460 none
  statics := none }

def pool5 : Array CpInfo := pool [(1, u "java/lang/Cloneable"), (0, .class_ 1), (0, u "java/lang/Object"), (0, .class_ 3)] 3

/-- java/lang/Cloneable -/
def k5 : Class := { plain "java/lang/Cloneable" (some 0) with
  accessFlags := 1537
  interfaces := #[]
  cf := some (fileOf pool5 2 #[] #[] 1537 4 #[] #[])
  fields := #[]
  methods := #[]
  instanceTypes := #[]
  staticTypes := #[]
  resolved := Array.replicate 8 none
  statics := none }

def pool6 : Array CpInfo := pool [(1, u "java/io/Serializable"), (0, .class_ 1), (0, u "java/lang/Object"), (0, .class_ 3)] 3

/-- java/io/Serializable -/
def k6 : Class := { plain "java/io/Serializable" (some 0) with
  accessFlags := 1537
  interfaces := #[]
  cf := some (fileOf pool6 2 #[] #[] 1537 4 #[] #[])
  fields := #[]
  methods := #[]
  instanceTypes := #[]
  staticTypes := #[]
  resolved := Array.replicate 8 none
  statics := none }

/-- the primitive byte -/
def k7 : Class := { plain "byte" none with kind := .primitive 'B', accessFlags := 0x411 }
/-- [B -/
def k8 : Class := { plain "[B" (some 0) with kind := .array 7 .byte, interfaces := #[5, 6], accessFlags := 1041 }

/-- the primitive int -/
def k9 : Class := { plain "int" none with kind := .primitive 'I', accessFlags := 0x411 }
/-- [I -/
def k10 : Class := { plain "[I" (some 0) with kind := .array 9 .int, interfaces := #[5, 6], accessFlags := 1041 }

def heap : Heap := #[]
def classes : Array Class := #[k0, k1, k2, k3, k4, k5, k6, k7, k8, k9, k10]
def interned : List (Array UInt16 × Addr) := []
def slotsUsed : Nat := 0
def theMethod : MethodId := ⟨1, 1⟩
def args0 : Array Value := #[.long 5, .long 3, .long 9]
def aboutOver (below : List Frame) : State where
  vm := { classes := classes, interned := interned.toArray }
  heap := heap
  slotsUsed := slotsUsed
  threads := #[{ frames := .invoking theMethod args0 :: below }]
def below0 : List Frame := [.native { method := ⟨0, 0⟩, args := #[] }]
def about1 : State := aboutOver below0
def p0 : Program := .bare "" "" ""
def e0 : Env := launch0.env 0 0 0
theorem w_frames : about1.frames = Frame.invoking theMethod args0 :: below0 := rfl
set_option maxRecDepth 65536 in
theorem w_args : argsFit about1.vm theMethod args0 = true := by decide +kernel
set_option maxRecDepth 65536 in
theorem w_heap : heapFits about1 = true := by decide +kernel
set_option maxRecDepth 65536 in
theorem w_runnable : about1.curStatus? = some .runnable := by decide +kernel
set_option maxRecDepth 65536 in
theorem w_alone : about1.alone = true := by decide +kernel
set_option maxRecDepth 65536 in
theorem w_named : about1.methodNamed? x = some theMethod := by decide +kernel
set_option maxRecDepth 65536 in
theorem w_hears : about1.hears theMethod below0 = true := by decide +kernel
set_option maxRecDepth 65536 in
theorem w_ripe : about1.ripe theMethod args0 below0 = true := by decide +kernel
theorem w_running : about1.status = .running := rfl
set_option maxRecDepth 65536 in
theorem w_room : about1.hasRoom e0.platform room_1 = true :=
  launch0.hasRoom_least _ room_1 (by decide +kernel) (by decide +kernel) (by decide +kernel) (by decide +kernel) (by decide +kernel) (by decide +kernel)
theorem allAtoms_all (ts : List Jvm.Cond) (a : Array Jvm.Value) (st : Jvm.State) : (allAtoms ts).before a st = ts.all (fun c => c.before a st) := by
  induction ts with
  | nil => rfl
  | cons c t ih =>
    show (Jvm.Cond.and c (allAtoms t)).before a st = _
    rw [Jvm.Cond.before_and, ih, List.all_cons]
def words1 : List Jvm.Cond := Jvm.Cond.code x code maxLocals ret :: tables_1
/-- a 'code' word, met by the world's own term for the bytes: nothing is compared byte by byte -/
theorem code_word {y : MethodName} {bytes : ByteArray} {mx : Nat} {rt : Option FieldType} {a : Array Value} {s : State} {m : MethodId} {meth : Method} {c : Code} (h1 : s.methodNamed? y = some m) (h2 : s.vm.method? m = some meth) (h3 : meth.code = some c) (h4 : c.code = bytes)
    (h5 : (c.maxLocals == mx && c.exceptionTable.isEmpty && decide (c.maxStack ≤ mostOperands) && decide (meth.sig.returnType = rt) && !meth.locks && decide (parseMethodDescriptor y.desc = some meth.sig)) = true) : (Jvm.Cond.code y bytes mx rt).before a s = true := by
  simp only [Bool.and_eq_true, beq_iff_eq, Bool.not_eq_true', decide_eq_true_eq] at h5
  obtain ⟨⟨⟨⟨⟨g1, g2⟩, g3⟩, g4⟩, g5⟩, g6⟩ := h5
  simp [Cond.before, Cond.holds, Cond.value, h1, h2, h3, h4, g1, g2, g3, g4, g5, g6]
def isCode : Jvm.Cond → Bool
  | .code _ _ _ _ => true
  | _ => false
theorem all_split {L : List Jvm.Cond} {P : Jvm.Cond → Bool} (h1 : L.all (fun c => isCode c || P c) = true) (h2 : ∀ c ∈ L.filter isCode, P c = true) : L.all P = true := by
  refine List.all_eq_true.mpr fun c hc => ?_
  have h := List.all_eq_true.mp h1 c hc
  rcases Bool.eq_false_or_eq_true (isCode c) with hi | hi
  · exact h2 c (List.mem_filter.mpr ⟨hc, hi⟩)
  · simpa [hi] using h
set_option maxRecDepth 65536 in
theorem w_c0 : (Jvm.Cond.code x code maxLocals ret).before args0 about1 = true := code_word (m := ⟨1, 1⟩) (meth := k1m1) (c := k1c1) (by decide +kernel) rfl rfl rfl (by decide +kernel)
set_option maxRecDepth 65536 in
theorem w_c1 : (Jvm.Cond.code ({ cls := "com/example/stock_gate/stockgate/model/Sale", name := "isValidStock", desc := "(J)Z" } : Jvm.MethodName) prog_13_method_4_code (2 : Nat) (Option.some Jvm.ClassFile.FieldType.boolean)).before args0 about1 = true := code_word (m := ⟨3, 0⟩) (meth := k3m0) (c := k3c0) (by decide +kernel) rfl rfl rfl (by decide +kernel)
set_option maxRecDepth 65536 in
theorem w_c2 : (Jvm.Cond.code ({ cls := "java/lang/Math", name := "min", desc := "(JJ)J" } : Jvm.MethodName) jdk_29_method_70_code (4 : Nat) (Option.some Jvm.ClassFile.FieldType.long)).before args0 about1 = true := code_word (m := ⟨4, 2⟩) (meth := k4m2) (c := k4c2) (by decide +kernel) rfl rfl rfl (by decide +kernel)
set_option maxRecDepth 65536 in
theorem w_c3 : (Jvm.Cond.code ({ cls := "java/lang/Math", name := "max", desc := "(JJ)J" } : Jvm.MethodName) jdk_29_method_66_code (4 : Nat) (Option.some Jvm.ClassFile.FieldType.long)).before args0 about1 = true := code_word (m := ⟨4, 1⟩) (meth := k4m1) (c := k4c1) (by decide +kernel) rfl rfl rfl (by decide +kernel)
def codes1 : List Jvm.Cond := [Jvm.Cond.code x code maxLocals ret, Jvm.Cond.code ({ cls := "com/example/stock_gate/stockgate/model/Sale", name := "isValidStock", desc := "(J)Z" } : Jvm.MethodName) prog_13_method_4_code (2 : Nat) (Option.some Jvm.ClassFile.FieldType.boolean), Jvm.Cond.code ({ cls := "java/lang/Math", name := "min", desc := "(JJ)J" } : Jvm.MethodName) jdk_29_method_70_code (4 : Nat) (Option.some Jvm.ClassFile.FieldType.long), Jvm.Cond.code ({ cls := "java/lang/Math", name := "max", desc := "(JJ)J" } : Jvm.MethodName) jdk_29_method_66_code (4 : Nat) (Option.some Jvm.ClassFile.FieldType.long)]
set_option maxRecDepth 65536 in
theorem codes_eq : words1.filter isCode = codes1 := rfl
theorem w_codes : ∀ c ∈ words1.filter isCode, c.before args0 about1 = true := by
  rw [codes_eq]
  intro c hc
  simp only [codes1, List.mem_cons, List.not_mem_nil, or_false] at hc
  rcases hc with rfl | rfl | rfl | rfl
  · exact w_c0
  · exact w_c1
  · exact w_c2
  · exact w_c3
set_option maxRecDepth 65536 in
theorem w_t1 : words1.all (fun c => isCode c || c.before args0 about1) = true := by decide +kernel
theorem w_tables : (allAtoms (Jvm.Cond.code x code maxLocals ret :: tables_1)).before args0 about1 = true := by
  rw [allAtoms_all]
  show words1.all (fun c => c.before args0 about1) = true
  refine all_split ?_ w_codes
  rw [w_t1]
set_option maxRecDepth 65536 in
theorem w_case : (Jvm.Cond.and given_1 narrow_1).before args0 about1 = true := by decide +kernel
theorem w_applies : (headSpec (Jvm.Cond.code x code maxLocals ret :: tables_1) room_1).applies x e0.platform about1 = true :=
  (Spec.applies_iff w_frames).mpr ⟨w_running, w_runnable, w_alone, w_named, w_hears, w_ripe, w_room, w_tables⟩
theorem atStart : AtStart classFile x code maxLocals ret World_1 tables_1 room_1 Calls_1 rest_1 Pre_1 launch0 p0 e0 about1 theMethod args0 below0 :=
  ⟨lists_1, trivial, launch0.admits_env _ _ _, launch0.least_env, fairChoices_fair.cas, fairChoices_fair.clock, w_frames, w_args, w_heap, w_applies, trivial, trivial, w_case⟩
end start1
theorem witness_1 : WitnessClaimed_1 := ⟨start1.p0, start1.e0, start1.about1, start1.theMethod, start1.args0, start1.below0, start1.atStart⟩
end Jvm.Pilot.@@N@@
